import JvmDerived
import JvmDerived.Pilot.@@N@@Statement
import JvmDerived.Pilot.@@N@@Code
set_option linter.unusedVariables false
set_option linter.unusedSimpArgs false
namespace Jvm.OwnKit
open Sem ClassFile Op Lib Jvm.Stand Jvm.Free Jvm.LawKit Jvm.RoadKit
/-! The walk told forwards: 'Go .. pc Ls st h cells slots' says that the run of a body has come to pc with these locals, this stack and this heap. One theorem an instruction carries it on. -/
abbrev W : Type := Program × Env × State × MethodId × Array Value × List Frame × Method × Code × State
abbrev W.p (w : W) : Program := w.1
abbrev W.e (w : W) : Env := w.2.1
abbrev W.s (w : W) : State := w.2.2.1
abbrev W.m (w : W) : MethodId := w.2.2.2.1
abbrev W.args (w : W) : Array Value := w.2.2.2.2.1
abbrev W.below (w : W) : List Frame := w.2.2.2.2.2.1
abbrev W.meth (w : W) : Method := w.2.2.2.2.2.2.1
abbrev W.c (w : W) : Code := w.2.2.2.2.2.2.2.1
abbrev W.S0 (w : W) : State := w.2.2.2.2.2.2.2.2
def Sure (w : W) (Z : State) (y : MethodName) (code : ByteArray) (ml : Nat) (ret : Option FieldType) : Prop :=
  w.p.tables.exec = Jvm.exec ∧ Z.Warmed39 w.s.vm ∧ w.s.vm.findClass y.cls = some w.m.cls ∧ w.c.code = code ∧ w.c.maxLocals = ml ∧ w.meth.sig.returnType = ret ∧ w.meth.locks = false ∧ w.meth.name = y.name
def Go (w : W) (l : Launch) (R : Room) (Z : State) (n0 : Nat) (y : MethodName) (code : ByteArray) (ml : Nat) (ret : Option FieldType) (pc : Nat) (Ls : List Slot) (st : List Value) (h : Heap) (cells slots : Nat) : Prop :=
  Sure w Z y code ml ret ∧ ∃ T locs, Stand w.p l w.e R w.s w.m w.args w.below w.meth w.c T locs cells slots ∧ T.heap = h ∧ Fr n0 locs ∧
    ∀ t, Steps w.p.tables w.e w.below (T.setTop (mkF w.m pc Ls.toArray st)) t → Steps w.p.tables w.e w.below w.S0 t
def Fini (w : W) (n0 : Nat) (Q : Option Value → Heap → Prop) (C S : Nat) : Prop :=
  ∃ s₂ o, Steps w.p.tables w.e w.below w.S0 s₂ ∧ s₂.status = .running ∧ Ended s₂ w.below o ∧ ∃ v L, o = .returned v ∧ (Q v s₂.heap ∧ Fr n0 L) ∧ FrameEnd w.s o s₂ L C S
def Met (l : Launch) (Z : State) (y : MethodName) (code : ByteArray) (ml : Nat) (ret : Option FieldType) (rm : Room) (as : List Value) (h0 : Heap) (n0 : Nat) (Q : Option Value → Heap → Prop) : Prop :=
  ∀ ws, MetFree l y (head1 (Cond.code y code ml ret :: ws) rm) (fun a U => a = as.toArray ∧ Z.Warmed39 U.vm ∧ U.heap = h0) (fun _ _ _ _ _ => True) (fun _ U o U' => ∃ v L, o = .returned v ∧ (Q v U'.heap ∧ Fr n0 L) ∧ FrameEnd U o U' L rm.cells rm.slots)
def Ret (Q : Value → Heap → Prop) : Option Value → Heap → Prop := fun v h => ∃ u, v = some u ∧ Q u h
def Ret0 (Q : Heap → Prop) : Option Value → Heap → Prop := fun v h => v = none ∧ Q h
section Walk
variable {w : W} {l : Launch} {R : Room} {Z : State} {n0 : Nat} {y : MethodName} {code : ByteArray} {ml : Nat} {ret : Option FieldType} {pc : Nat} {Ls : List Slot} {st : List Value} {h : Heap} {cells slots : Nat}
theorem Met.intro {rm : Room} {as : List Value} {Q : Option Value → Heap → Prop} (hp : plainFor y = true) (hf : ∀ m, entryFrame m as.toArray ml = mkF m 0 Ls.toArray [])
    (body : ∀ w : W, Go w l rm Z n0 y code ml ret 0 Ls [] h 0 0 → Fini w n0 Q rm.cells rm.slots) : Met l Z y code ml ret rm as h n0 Q := by
  intro ws
  refine MetFree.of_bodySF hp hisR ?_
  intro p e s m args below meth c s₁ Bd hml0 hP hK
  obtain ⟨rfl, hZ, hh⟩ := hP
  have hown : s.vm.findClass y.cls = some m.cls := findClass_of_methodNamed Bd.named
  have hnm := (name_of_methodNamed Bd.named Bd.method).1
  have X0 : Stand p l e rm s m as.toArray below meth c s₁ [] 0 0 := Stand.of_body Bd
  have e0 : s₁.heap = h := by rw [← hh, Bd.state]; rfl
  exact body (p, e, s, m, as.toArray, below, meth, c, s₁.setTop (entryFrame m as.toArray ml)) ⟨⟨Bd.exec, hZ, hown, Bd.bytes, hml0, Bd.returns, BodyLoose.notSynchronized Bd, hnm⟩, s₁, [], X0, e0, Fr.nil n0, fun t k => castTop (hf m) k⟩
theorem Go.more (r : Go w l R Z n0 y code ml ret pc Ls st h cells slots) {cells' slots' : Nat} (h1 : cells ≤ cells') (h2 : slots ≤ slots') : Go w l R Z n0 y code ml ret pc Ls st h cells' slots' := by
  obtain ⟨S, T, locs, X, e, N, k⟩ := r
  exact ⟨S, T, locs, X.more h1 h2, e, N, k⟩
/-- one step that leaves the heap -/
theorem Go.step (r : Go w l R Z n0 y code ml ret pc Ls st h cells slots) {pc' : Nat} {Ls' : List Slot} {st' : List Value}
    (f : ∀ T t, At T w.m w.c w.below → w.p.tables.exec = Jvm.exec → w.c.code = code → Steps w.p.tables w.e w.below (T.setTop (mkF w.m pc' Ls'.toArray st')) t → Steps w.p.tables w.e w.below (T.setTop (mkF w.m pc Ls.toArray st)) t) :
    Go w l R Z n0 y code ml ret pc' Ls' st' h cells slots := by
  obtain ⟨S, T, locs, X, e, N, k⟩ := r
  exact ⟨S, T, locs, X, e, N, fun t q => k t (f T t X.here S.1 S.2.2.2.1 q)⟩
def oneB : Slot → Bool
  | .unset => true
  | .val v => v.category == 1
  | .second => false
theorem One.of {o : Slot} (h : oneB o = true) : One o := by
  cases o with
  | unset => exact One.u
  | val v => exact One.val (by simpa [oneB] using h)
  | second => cases h
theorem Go.iconst {i : Int} (r : Go w l R Z n0 y code ml ret pc Ls st h cells slots) (pc' : Nat) (hd : decode code pc = .ok (.iconst i, 1)) (hp : pc + 1 = pc') : Go w l R Z n0 y code ml ret pc' Ls (.int (Int32.ofInt i) :: st) h cells slots := by
  subst hp; exact r.step fun T t a x b k => XS.iconst a x rfl (hb b hd) k
theorem Go.bipush {i : Int} (r : Go w l R Z n0 y code ml ret pc Ls st h cells slots) (pc' : Nat) (hd : decode code pc = .ok (.bipush i, 2)) (hp : pc + 2 = pc') : Go w l R Z n0 y code ml ret pc' Ls (.int (Int8.ofInt i).toInt32 :: st) h cells slots := by
  subst hp; exact r.step fun T t a x b k => XS.bipush a x rfl (hb b hd) k
theorem Go.sipush {i : Int} (r : Go w l R Z n0 y code ml ret pc Ls st h cells slots) (pc' : Nat) (hd : decode code pc = .ok (.sipush i, 3)) (hp : pc + 3 = pc') : Go w l R Z n0 y code ml ret pc' Ls (.int (Int16.ofInt i).toInt32 :: st) h cells slots := by
  subst hp; exact r.step fun T t a x b k => XS.sipush a x rfl (hb b hd) k
theorem Go.iconstV {i : Int} (r : Go w l R Z n0 y code ml ret pc Ls st h cells slots) (pc' : Nat) (hd : decode code pc = .ok (.iconst i, 1)) (hp : pc + 1 = pc') (v : Int32) (hv : Int32.ofInt i = v) : Go w l R Z n0 y code ml ret pc' Ls (.int v :: st) h cells slots := by
  subst hp; exact r.step fun T t a x b k => XS.iconst a x rfl (hb b hd) (by rw [hv]; exact k)
theorem Go.bipushV {i : Int} (r : Go w l R Z n0 y code ml ret pc Ls st h cells slots) (pc' : Nat) (hd : decode code pc = .ok (.bipush i, 2)) (hp : pc + 2 = pc') (v : Int32) (hv : (Int8.ofInt i).toInt32 = v) : Go w l R Z n0 y code ml ret pc' Ls (.int v :: st) h cells slots := by
  subst hp; exact r.step fun T t a x b k => XS.bipush a x rfl (hb b hd) (by rw [hv]; exact k)
theorem Go.sipushV {i : Int} (r : Go w l R Z n0 y code ml ret pc Ls st h cells slots) (pc' : Nat) (hd : decode code pc = .ok (.sipush i, 3)) (hp : pc + 3 = pc') (v : Int32) (hv : (Int16.ofInt i).toInt32 = v) : Go w l R Z n0 y code ml ret pc' Ls (.int v :: st) h cells slots := by
  subst hp; exact r.step fun T t a x b k => XS.sipush a x rfl (hb b hd) (by rw [hv]; exact k)
theorem Go.lconstV {i : Fin 2} (r : Go w l R Z n0 y code ml ret pc Ls st h cells slots) (pc' : Nat) (hd : decode code pc = .ok (.lconst i, 1)) (hp : pc + 1 = pc') (v : Int64) (hv : Int64.ofNat i = v) : Go w l R Z n0 y code ml ret pc' Ls (.long v :: st) h cells slots := by
  subst hp; exact r.step fun T t a x b k => XS.lconst a x rfl (hb b hd) (by rw [hv]; exact k)
theorem Go.iadd {u v : Int32} (r : Go w l R Z n0 y code ml ret pc Ls (.int v :: .int u :: st) h cells slots) (pc' : Nat) (hd : decode code pc = .ok (.iadd, 1)) (hp : pc + 1 = pc') : Go w l R Z n0 y code ml ret pc' Ls (.int (u + v) :: st) h cells slots := by
  subst hp; exact r.step fun T t a x b k => XS.iadd a x rfl (hb b hd) rfl k
theorem Go.isub {u v : Int32} (r : Go w l R Z n0 y code ml ret pc Ls (.int v :: .int u :: st) h cells slots) (pc' : Nat) (hd : decode code pc = .ok (.isub, 1)) (hp : pc + 1 = pc') : Go w l R Z n0 y code ml ret pc' Ls (.int (u - v) :: st) h cells slots := by
  subst hp; exact r.step fun T t a x b k => XS.isub a x rfl (hb b hd) rfl k
theorem Go.imul {u v : Int32} (r : Go w l R Z n0 y code ml ret pc Ls (.int v :: .int u :: st) h cells slots) (pc' : Nat) (hd : decode code pc = .ok (.imul, 1)) (hp : pc + 1 = pc') : Go w l R Z n0 y code ml ret pc' Ls (.int (u * v) :: st) h cells slots := by
  subst hp; exact r.step fun T t a x b k => XS.imul a x rfl (hb b hd) rfl k
theorem Go.iand {u v : Int32} (r : Go w l R Z n0 y code ml ret pc Ls (.int v :: .int u :: st) h cells slots) (pc' : Nat) (hd : decode code pc = .ok (.iand, 1)) (hp : pc + 1 = pc') : Go w l R Z n0 y code ml ret pc' Ls (.int (u &&& v) :: st) h cells slots := by
  subst hp; exact r.step fun T t a x b k => XS.iand a x rfl (hb b hd) rfl k
theorem Go.ior {u v : Int32} (r : Go w l R Z n0 y code ml ret pc Ls (.int v :: .int u :: st) h cells slots) (pc' : Nat) (hd : decode code pc = .ok (.ior, 1)) (hp : pc + 1 = pc') : Go w l R Z n0 y code ml ret pc' Ls (.int (u ||| v) :: st) h cells slots := by
  subst hp; exact r.step fun T t a x b k => XS.ior a x rfl (hb b hd) rfl k
theorem Go.ixor {u v : Int32} (r : Go w l R Z n0 y code ml ret pc Ls (.int v :: .int u :: st) h cells slots) (pc' : Nat) (hd : decode code pc = .ok (.ixor, 1)) (hp : pc + 1 = pc') : Go w l R Z n0 y code ml ret pc' Ls (.int (u ^^^ v) :: st) h cells slots := by
  subst hp; exact r.step fun T t a x b k => XS.ixor a x rfl (hb b hd) rfl k
theorem Go.ladd {u v : Int64} (r : Go w l R Z n0 y code ml ret pc Ls (.long v :: .long u :: st) h cells slots) (pc' : Nat) (hd : decode code pc = .ok (.ladd, 1)) (hp : pc + 1 = pc') : Go w l R Z n0 y code ml ret pc' Ls (.long (u + v) :: st) h cells slots := by
  subst hp; exact r.step fun T t a x b k => XS.ladd a x rfl (hb b hd) rfl k
theorem Go.lsub {u v : Int64} (r : Go w l R Z n0 y code ml ret pc Ls (.long v :: .long u :: st) h cells slots) (pc' : Nat) (hd : decode code pc = .ok (.lsub, 1)) (hp : pc + 1 = pc') : Go w l R Z n0 y code ml ret pc' Ls (.long (u - v) :: st) h cells slots := by
  subst hp; exact r.step fun T t a x b k => XS.lsub a x rfl (hb b hd) rfl k
theorem Go.lmul {u v : Int64} (r : Go w l R Z n0 y code ml ret pc Ls (.long v :: .long u :: st) h cells slots) (pc' : Nat) (hd : decode code pc = .ok (.lmul, 1)) (hp : pc + 1 = pc') : Go w l R Z n0 y code ml ret pc' Ls (.long (u * v) :: st) h cells slots := by
  subst hp; exact r.step fun T t a x b k => XS.lmul a x rfl (hb b hd) rfl k
theorem Go.land {u v : Int64} (r : Go w l R Z n0 y code ml ret pc Ls (.long v :: .long u :: st) h cells slots) (pc' : Nat) (hd : decode code pc = .ok (.land, 1)) (hp : pc + 1 = pc') : Go w l R Z n0 y code ml ret pc' Ls (.long (u &&& v) :: st) h cells slots := by
  subst hp; exact r.step fun T t a x b k => XS.land a x rfl (hb b hd) rfl k
theorem Go.lor {u v : Int64} (r : Go w l R Z n0 y code ml ret pc Ls (.long v :: .long u :: st) h cells slots) (pc' : Nat) (hd : decode code pc = .ok (.lor, 1)) (hp : pc + 1 = pc') : Go w l R Z n0 y code ml ret pc' Ls (.long (u ||| v) :: st) h cells slots := by
  subst hp; exact r.step fun T t a x b k => XS.lor a x rfl (hb b hd) rfl k
theorem Go.lxor {u v : Int64} (r : Go w l R Z n0 y code ml ret pc Ls (.long v :: .long u :: st) h cells slots) (pc' : Nat) (hd : decode code pc = .ok (.lxor, 1)) (hp : pc + 1 = pc') : Go w l R Z n0 y code ml ret pc' Ls (.long (u ^^^ v) :: st) h cells slots := by
  subst hp; exact r.step fun T t a x b k => XS.lxor a x rfl (hb b hd) rfl k
theorem Go.idiv {u v : Int32} (r : Go w l R Z n0 y code ml ret pc Ls (.int v :: .int u :: st) h cells slots) (pc' : Nat) (hd : decode code pc = .ok (.idiv, 1)) (hp : pc + 1 = pc') (hv : v ≠ 0) : Go w l R Z n0 y code ml ret pc' Ls (.int (u / v) :: st) h cells slots := by
  subst hp; exact r.step fun T t a x b k => XS.idiv a x rfl (hb b hd) rfl hv k
theorem Go.irem {u v : Int32} (r : Go w l R Z n0 y code ml ret pc Ls (.int v :: .int u :: st) h cells slots) (pc' : Nat) (hd : decode code pc = .ok (.irem, 1)) (hp : pc + 1 = pc') (hv : v ≠ 0) : Go w l R Z n0 y code ml ret pc' Ls (.int (u % v) :: st) h cells slots := by
  subst hp; exact r.step fun T t a x b k => XS.irem a x rfl (hb b hd) rfl hv (by rw [irem_eq_mod]; exact k)
theorem Go.ishl {u v : Int32} (r : Go w l R Z n0 y code ml ret pc Ls (.int v :: .int u :: st) h cells slots) (pc' : Nat) (hd : decode code pc = .ok (.ishl, 1)) (hp : pc + 1 = pc') : Go w l R Z n0 y code ml ret pc' Ls (.int (u <<< (v &&& 31)) :: st) h cells slots := by
  subst hp; exact r.step fun T t a x b k => XS.ishl a x rfl (hb b hd) rfl k
theorem Go.ishr {u v : Int32} (r : Go w l R Z n0 y code ml ret pc Ls (.int v :: .int u :: st) h cells slots) (pc' : Nat) (hd : decode code pc = .ok (.ishr, 1)) (hp : pc + 1 = pc') : Go w l R Z n0 y code ml ret pc' Ls (.int (u >>> (v &&& 31)) :: st) h cells slots := by
  subst hp; exact r.step fun T t a x b k => XS.ishr a x rfl (hb b hd) rfl k
theorem Go.iushr {u v : Int32} (r : Go w l R Z n0 y code ml ret pc Ls (.int v :: .int u :: st) h cells slots) (pc' : Nat) (hd : decode code pc = .ok (.iushr, 1)) (hp : pc + 1 = pc') : Go w l R Z n0 y code ml ret pc' Ls (.int ((u.toUInt32 >>> (v &&& 31).toUInt32).toInt32) :: st) h cells slots := by
  subst hp; exact r.step fun T t a x b k => XS.iushr a x rfl (hb b hd) rfl k
theorem Go.lshl {u : Int64} {v : Int32} (r : Go w l R Z n0 y code ml ret pc Ls (.int v :: .long u :: st) h cells slots) (pc' : Nat) (hd : decode code pc = .ok (.lshl, 1)) (hp : pc + 1 = pc') : Go w l R Z n0 y code ml ret pc' Ls (.long (u <<< (v &&& 0x3f).toInt64) :: st) h cells slots := by
  subst hp; exact r.step fun T t a x b k => XS.lshl a x rfl (hb b hd) rfl k
theorem Go.lshr {u : Int64} {v : Int32} (r : Go w l R Z n0 y code ml ret pc Ls (.int v :: .long u :: st) h cells slots) (pc' : Nat) (hd : decode code pc = .ok (.lshr, 1)) (hp : pc + 1 = pc') : Go w l R Z n0 y code ml ret pc' Ls (.long (u >>> (v &&& 0x3f).toInt64) :: st) h cells slots := by
  subst hp; exact r.step fun T t a x b k => XS.lshr a x rfl (hb b hd) rfl k
theorem Go.lushr {u : Int64} {v : Int32} (r : Go w l R Z n0 y code ml ret pc Ls (.int v :: .long u :: st) h cells slots) (pc' : Nat) (hd : decode code pc = .ok (.lushr, 1)) (hp : pc + 1 = pc') : Go w l R Z n0 y code ml ret pc' Ls (.long ((u.toUInt64 >>> (v &&& 0x3f).toInt64.toUInt64).toInt64) :: st) h cells slots := by
  subst hp; exact r.step fun T t a x b k => XS.lushr a x rfl (hb b hd) rfl k
theorem Go.lcmp {u v : Int64} (r : Go w l R Z n0 y code ml ret pc Ls (.long v :: .long u :: st) h cells slots) (pc' : Nat) (hd : decode code pc = .ok (.lcmp, 1)) (hp : pc + 1 = pc') : Go w l R Z n0 y code ml ret pc' Ls (.int (lcmpW u v) :: st) h cells slots := by
  subst hp; exact r.step fun T t a x b k => XS.lcmp a x rfl (hb b hd) rfl k
theorem Go.i2l {u : Int32} (r : Go w l R Z n0 y code ml ret pc Ls (.int u :: st) h cells slots) (pc' : Nat) (hd : decode code pc = .ok (.i2l, 1)) (hp : pc + 1 = pc') : Go w l R Z n0 y code ml ret pc' Ls (.long u.toInt64 :: st) h cells slots := by
  subst hp; exact r.step fun T t a x b k => XS.i2l a x rfl (hb b hd) rfl k
theorem Go.l2i {u : Int64} (r : Go w l R Z n0 y code ml ret pc Ls (.long u :: st) h cells slots) (pc' : Nat) (hd : decode code pc = .ok (.l2i, 1)) (hp : pc + 1 = pc') : Go w l R Z n0 y code ml ret pc' Ls (.int u.toInt32 :: st) h cells slots := by
  subst hp; exact r.step fun T t a x b k => XS.l2i a x rfl (hb b hd) rfl k
theorem Go.i2b {u : Int32} (r : Go w l R Z n0 y code ml ret pc Ls (.int u :: st) h cells slots) (pc' : Nat) (hd : decode code pc = .ok (.i2b, 1)) (hp : pc + 1 = pc') : Go w l R Z n0 y code ml ret pc' Ls (.int u.toInt8.toInt32 :: st) h cells slots := by
  subst hp; exact r.step fun T t a x b k => XS.i2b a x rfl (hb b hd) rfl k
theorem Go.dup {v : Value} (r : Go w l R Z n0 y code ml ret pc Ls (v :: st) h cells slots) (pc' : Nat) (hd : decode code pc = .ok (.dup, 1)) (hp : pc + 1 = pc') (hv : v.category = 1) : Go w l R Z n0 y code ml ret pc' Ls (v :: v :: st) h cells slots := by
  subst hp; exact r.step fun T t a x b k => XS.dup a x rfl (hb b hd) rfl hv k
theorem Go.pop {v : Value} (r : Go w l R Z n0 y code ml ret pc Ls (v :: st) h cells slots) (pc' : Nat) (hd : decode code pc = .ok (.pop, 1)) (hp : pc + 1 = pc') (hv : v.category = 1) : Go w l R Z n0 y code ml ret pc' Ls st h cells slots := by
  subst hp; exact r.step fun T t a x b k => XS.pop a x rfl (hb b hd) rfl hv k
theorem Go.dupX1 {u v : Value} (r : Go w l R Z n0 y code ml ret pc Ls (v :: u :: st) h cells slots) (pc' : Nat) (hd : decode code pc = .ok (.dup_x1, 1)) (hp : pc + 1 = pc') (hv : v.category = 1) (hu : u.category = 1) : Go w l R Z n0 y code ml ret pc' Ls (v :: u :: v :: st) h cells slots := by
  subst hp; exact r.step fun T t a x b k => XS.dupX1 a x rfl (hb b hd) rfl hv hu k
theorem Go.dup2 {u v : Value} (r : Go w l R Z n0 y code ml ret pc Ls (v :: u :: st) h cells slots) (pc' : Nat) (hd : decode code pc = .ok (.dup2, 1)) (hp : pc + 1 = pc') (hv : v.category = 1) (hu : u.category = 1) : Go w l R Z n0 y code ml ret pc' Ls (v :: u :: v :: u :: st) h cells slots := by
  subst hp; exact r.step fun T t a x b k => XT.dup2 a x rfl (hb b hd) rfl hv hu k
theorem Go.iloadG {v : Int32} {k : Nat} (r : Go w l R Z n0 y code ml ret pc Ls st h cells slots) (pc' : Nat) (hd : decode code pc = .ok (.iload k, 2)) (hp : pc + 2 = pc') (hl : Ls[k]? = some (.val (.int v))) : Go w l R Z n0 y code ml ret pc' Ls ((.int v) :: st) h cells slots := by
  subst hp; exact r.step fun T t a x b k => XS.iload a x rfl (hb b hd) (show Ls.toArray[_]? = _ by rw [List.getElem?_toArray]; exact hl) k
theorem Go.iloadNG {v : Int32} {k : Fin 4} (r : Go w l R Z n0 y code ml ret pc Ls st h cells slots) (pc' : Nat) (hd : decode code pc = .ok (.iload_n k, 1)) (hp : pc + 1 = pc') (hl : Ls[k.val]? = some (.val (.int v))) : Go w l R Z n0 y code ml ret pc' Ls ((.int v) :: st) h cells slots := by
  subst hp; exact r.step fun T t a x b k => XS.iloadN a x rfl (hb b hd) (show Ls.toArray[_]? = _ by rw [List.getElem?_toArray]; exact hl) k
theorem Go.lloadG {v : Int64} {k : Nat} (r : Go w l R Z n0 y code ml ret pc Ls st h cells slots) (pc' : Nat) (hd : decode code pc = .ok (.lload k, 2)) (hp : pc + 2 = pc') (hl : Ls[k]? = some (.val (.long v))) : Go w l R Z n0 y code ml ret pc' Ls ((.long v) :: st) h cells slots := by
  subst hp; exact r.step fun T t a x b k => XS.lload a x rfl (hb b hd) (show Ls.toArray[_]? = _ by rw [List.getElem?_toArray]; exact hl) k
theorem Go.lloadNG {v : Int64} {k : Fin 4} (r : Go w l R Z n0 y code ml ret pc Ls st h cells slots) (pc' : Nat) (hd : decode code pc = .ok (.lload_n k, 1)) (hp : pc + 1 = pc') (hl : Ls[k.val]? = some (.val (.long v))) : Go w l R Z n0 y code ml ret pc' Ls ((.long v) :: st) h cells slots := by
  subst hp; exact r.step fun T t a x b k => XS.lloadN a x rfl (hb b hd) (show Ls.toArray[_]? = _ by rw [List.getElem?_toArray]; exact hl) k
theorem Go.aloadG {v : Value} {k : Nat} (r : Go w l R Z n0 y code ml ret pc Ls st h cells slots) (pc' : Nat) (hd : decode code pc = .ok (.aload k, 2)) (hp : pc + 2 = pc') (hl : Ls[k]? = some (.val v)) (hv : v.isRef = true) : Go w l R Z n0 y code ml ret pc' Ls (v :: st) h cells slots := by
  subst hp; exact r.step fun T t a x b k => XS.aload a x rfl (hb b hd) (show Ls.toArray[_]? = _ by rw [List.getElem?_toArray]; exact hl) hv k
theorem Go.aloadNG {v : Value} {k : Fin 4} (r : Go w l R Z n0 y code ml ret pc Ls st h cells slots) (pc' : Nat) (hd : decode code pc = .ok (.aload_n k, 1)) (hp : pc + 1 = pc') (hl : Ls[k.val]? = some (.val v)) (hv : v.isRef = true) : Go w l R Z n0 y code ml ret pc' Ls (v :: st) h cells slots := by
  subst hp; exact r.step fun T t a x b k => XS.aloadN a x rfl (hb b hd) (show Ls.toArray[_]? = _ by rw [List.getElem?_toArray]; exact hl) hv k
theorem storeL {Ls Ls' : List Slot} {i : Nat} {v : Value} {o : Slot} (ho : Ls[i]? = some o) (h1 : One o) (hv : v.category = 1) (he : Ls.set i (.val v) = Ls') : storeLocals Ls.toArray i v = some Ls'.toArray := by
  subst he
  rw [XS.store1 (o := o) (by rw [List.getElem?_toArray]; exact ho) h1 hv]
  simp
/-- a long over two slots -/
def Two (o p : Slot) : Prop := (o = .unset ∧ p = .unset) ∨ (∃ v, o = .val (.long v) ∧ p = .second) ∨ (o = .unset ∧ ∃ v : Value, p = .val v ∧ v.category = 1) ∨ (∃ v : Value, o = .val v ∧ v.category = 1 ∧ (p = .unset ∨ ∃ u : Value, p = .val u ∧ u.category = 1))
def twoB : Slot → Slot → Bool
  | .unset, .unset => true
  | .unset, .val v => v.category == 1
  | .val (.long _), .second => true
  | .val v, .unset => v.category == 1
  | .val v, .val u => v.category == 1 && u.category == 1
  | _, _ => false
theorem Two.of {o p : Slot} (h : twoB o p = true) : Two o p := by
  cases o with
  | unset => cases p with
    | unset => exact Or.inl ⟨rfl, rfl⟩
    | val v => exact Or.inr (Or.inr (Or.inl ⟨rfl, v, rfl, by simpa [twoB] using h⟩))
    | second => cases h
  | second => cases h
  | val v => cases p with
    | unset => exact Or.inr (Or.inr (Or.inr ⟨v, rfl, by cases v <;> simpa [twoB] using h, Or.inl rfl⟩))
    | val u => exact Or.inr (Or.inr (Or.inr ⟨v, rfl, by cases v <;> simp_all [twoB], Or.inr ⟨u, rfl, by cases v <;> simp_all [twoB]⟩⟩))
    | second => cases v with
      | long z => exact Or.inr (Or.inl ⟨z, rfl, rfl⟩)
      | _ => simp [twoB] at h
theorem storeL2 {Ls Ls' : List Slot} {i : Nat} {v : Int64} {o q : Slot} (ho : Ls[i]? = some o) (hq : Ls[i + 1]? = some q) (h2 : Two o q) (he : (Ls.set i (.val (.long v))).set (i + 1) .second = Ls') : storeLocals Ls.toArray i (.long v) = some Ls'.toArray := by
  subst he
  obtain ⟨h3, h4⟩ := List.getElem?_eq_some_iff.mp ho
  obtain ⟨h5, h6⟩ := List.getElem?_eq_some_iff.mp hq
  have a1 : ∀ p q : Slot, ((Ls.set i p)[i + 1]? = some q) ↔ q = Ls[i + 1] := fun p q => by rw [List.getElem?_set_ne (by omega), hq, h6]; constructor <;> (intro z; simp_all)
  rcases h2 with ⟨rfl, rfl⟩ | ⟨u, rfl, rfl⟩ | ⟨rfl, u, rfl, hu⟩ | ⟨u, rfl, hu, rfl | ⟨u', rfl, hu'⟩⟩ <;>
    simp [storeLocals, storeSelf, Jvm.setAt, Value.category, ho, hq, h3, h5, List.getElem?_set_ne, List.set_comm, *] <;> (try simp_all [Value.category])
theorem Go.istoreG {u : Int32} {k : Nat} {o : Slot} {Ls' : List Slot} (r : Go w l R Z n0 y code ml ret pc Ls ((.int u) :: st) h cells slots) (pc' : Nat) (hd : decode code pc = .ok (.istore k, 2)) (hp : pc + 2 = pc') (ho : Ls[k]? = some o) (h1 : One o) (he : Ls.set k (.val (.int u)) = Ls') : Go w l R Z n0 y code ml ret pc' Ls' st h cells slots := by
  subst hp; exact r.step fun T t a x b k => XS.istore a x rfl (hb b hd) rfl (storeL ho h1 rfl he) k
theorem Go.istoreNG {u : Int32} {k : Fin 4} {o : Slot} {Ls' : List Slot} (r : Go w l R Z n0 y code ml ret pc Ls ((.int u) :: st) h cells slots) (pc' : Nat) (hd : decode code pc = .ok (.istore_n k, 1)) (hp : pc + 1 = pc') (ho : Ls[k.val]? = some o) (h1 : One o) (he : Ls.set k.val (.val (.int u)) = Ls') : Go w l R Z n0 y code ml ret pc' Ls' st h cells slots := by
  subst hp; exact r.step fun T t a x b k => XS.istoreN a x rfl (hb b hd) rfl (storeL ho h1 rfl he) k
theorem Go.astoreG {u : Value} {k : Nat} {o : Slot} {Ls' : List Slot} (r : Go w l R Z n0 y code ml ret pc Ls (u :: st) h cells slots) (pc' : Nat) (hd : decode code pc = .ok (.astore k, 2)) (hp : pc + 2 = pc') (hv : u.isRef = true) (hc : u.category = 1) (ho : Ls[k]? = some o) (h1 : One o) (he : Ls.set k (.val u) = Ls') : Go w l R Z n0 y code ml ret pc' Ls' st h cells slots := by
  subst hp; exact r.step fun T t a x b k => XS.astore a x rfl (hb b hd) rfl hv (storeL ho h1 hc he) k
theorem Go.astoreNG {u : Value} {k : Fin 4} {o : Slot} {Ls' : List Slot} (r : Go w l R Z n0 y code ml ret pc Ls (u :: st) h cells slots) (pc' : Nat) (hd : decode code pc = .ok (.astore_n k, 1)) (hp : pc + 1 = pc') (hv : u.isRef = true) (hc : u.category = 1) (ho : Ls[k.val]? = some o) (h1 : One o) (he : Ls.set k.val (.val u) = Ls') : Go w l R Z n0 y code ml ret pc' Ls' st h cells slots := by
  subst hp; exact r.step fun T t a x b k => XS.astoreN a x rfl (hb b hd) rfl hv (storeL ho h1 hc he) k
theorem Go.lstoreG {u : Int64} {k : Nat} {o q : Slot} {Ls' : List Slot} (r : Go w l R Z n0 y code ml ret pc Ls (.long u :: st) h cells slots) (pc' : Nat) (hd : decode code pc = .ok (.lstore k, 2)) (hp : pc + 2 = pc') (ho : Ls[k]? = some o) (hq : Ls[k + 1]? = some q) (h2 : Two o q) (he : (Ls.set k (.val (.long u))).set (k + 1) .second = Ls') : Go w l R Z n0 y code ml ret pc' Ls' st h cells slots := by
  subst hp; exact r.step fun T t a x b k => XS.lstore a x rfl (hb b hd) rfl (storeL2 ho hq h2 he) k
theorem Go.lstoreNG {u : Int64} {k : Fin 4} {o q : Slot} {Ls' : List Slot} (r : Go w l R Z n0 y code ml ret pc Ls (.long u :: st) h cells slots) (pc' : Nat) (hd : decode code pc = .ok (.lstore_n k, 1)) (hp : pc + 1 = pc') (ho : Ls[k.val]? = some o) (hq : Ls[k.val + 1]? = some q) (h2 : Two o q) (he : (Ls.set k.val (.val (.long u))).set (k.val + 1) .second = Ls') : Go w l R Z n0 y code ml ret pc' Ls' st h cells slots := by
  subst hp; exact r.step fun T t a x b k => XS.lstoreN a x rfl (hb b hd) rfl (storeL2 ho hq h2 he) k
theorem Go.iincG {u : Int32} {k : Nat} {i : Int} {Ls' : List Slot} (r : Go w l R Z n0 y code ml ret pc Ls st h cells slots) (pc' : Nat) (hd : decode code pc = .ok (.iinc k i, 3)) (hp : pc + 3 = pc') (hl : Ls[k]? = some (.val (.int u))) (he : Ls.set k (.val (.int (u + Int32.ofInt i))) = Ls') : Go w l R Z n0 y code ml ret pc' Ls' st h cells slots := by
  subst hp; exact r.step fun T t a x b k => XS.iinc a x rfl (hb b hd) (show Ls.toArray[_]? = _ by rw [List.getElem?_toArray]; exact hl) (storeL hl (One.val rfl) rfl he) k
theorem get_s {α : Type} {a : α} {L : List α} {k : Nat} {v : α} (h : L[k]? = some v) : (a :: L)[k + 1]? = some v := h
theorem get_z {α : Type} {L : List α} {v : α} : (v :: L)[0]? = some v := rfl
theorem set_s {α : Type} {a v : α} {L L' : List α} {k : Nat} (h : L.set k v = L') : (a :: L).set (k + 1) v = a :: L' := by subst h; rfl
theorem set_z {α : Type} {a v : α} {L : List α} : (a :: L).set 0 v = v :: L := rfl
theorem Go.ald0 {v : Addr} {q : List Slot} (r : Go w l R Z n0 y code ml ret pc (.val (.ref v) :: q) st h cells slots) (pc' : Nat) (hd : decode code pc = .ok (.aload_n 0, 1)) (hp : pc + 1 = pc') : Go w l R Z n0 y code ml ret pc' (.val (.ref v) :: q) ((.ref v) :: st) h cells slots := r.aloadNG pc' hd hp get_z rfl
theorem Go.ald1 {v : Addr} {a0 : Slot} {q : List Slot} (r : Go w l R Z n0 y code ml ret pc (a0 :: .val (.ref v) :: q) st h cells slots) (pc' : Nat) (hd : decode code pc = .ok (.aload_n 1, 1)) (hp : pc + 1 = pc') : Go w l R Z n0 y code ml ret pc' (a0 :: .val (.ref v) :: q) ((.ref v) :: st) h cells slots := r.aloadNG pc' hd hp (get_s get_z) rfl
theorem Go.ald2 {v : Addr} {a0 a1 : Slot} {q : List Slot} (r : Go w l R Z n0 y code ml ret pc (a0 :: a1 :: .val (.ref v) :: q) st h cells slots) (pc' : Nat) (hd : decode code pc = .ok (.aload_n 2, 1)) (hp : pc + 1 = pc') : Go w l R Z n0 y code ml ret pc' (a0 :: a1 :: .val (.ref v) :: q) ((.ref v) :: st) h cells slots := r.aloadNG pc' hd hp (get_s (get_s get_z)) rfl
theorem Go.ald3 {v : Addr} {a0 a1 a2 : Slot} {q : List Slot} (r : Go w l R Z n0 y code ml ret pc (a0 :: a1 :: a2 :: .val (.ref v) :: q) st h cells slots) (pc' : Nat) (hd : decode code pc = .ok (.aload_n 3, 1)) (hp : pc + 1 = pc') : Go w l R Z n0 y code ml ret pc' (a0 :: a1 :: a2 :: .val (.ref v) :: q) ((.ref v) :: st) h cells slots := r.aloadNG pc' hd hp (get_s (get_s (get_s get_z))) rfl
theorem Go.ald11 {v : Addr} {a0 a1 a2 a3 a4 a5 a6 a7 a8 a9 a10 : Slot} {q : List Slot} (r : Go w l R Z n0 y code ml ret pc (a0 :: a1 :: a2 :: a3 :: a4 :: a5 :: a6 :: a7 :: a8 :: a9 :: a10 :: .val (.ref v) :: q) st h cells slots) (pc' : Nat) (hd : decode code pc = .ok (.aload 11, 2)) (hp : pc + 2 = pc') : Go w l R Z n0 y code ml ret pc' (a0 :: a1 :: a2 :: a3 :: a4 :: a5 :: a6 :: a7 :: a8 :: a9 :: a10 :: .val (.ref v) :: q) ((.ref v) :: st) h cells slots := r.aloadG pc' hd hp (get_s (get_s (get_s (get_s (get_s (get_s (get_s (get_s (get_s (get_s (get_s get_z))))))))))) rfl
theorem Go.ald12 {v : Addr} {a0 a1 a2 a3 a4 a5 a6 a7 a8 a9 a10 a11 : Slot} {q : List Slot} (r : Go w l R Z n0 y code ml ret pc (a0 :: a1 :: a2 :: a3 :: a4 :: a5 :: a6 :: a7 :: a8 :: a9 :: a10 :: a11 :: .val (.ref v) :: q) st h cells slots) (pc' : Nat) (hd : decode code pc = .ok (.aload 12, 2)) (hp : pc + 2 = pc') : Go w l R Z n0 y code ml ret pc' (a0 :: a1 :: a2 :: a3 :: a4 :: a5 :: a6 :: a7 :: a8 :: a9 :: a10 :: a11 :: .val (.ref v) :: q) ((.ref v) :: st) h cells slots := r.aloadG pc' hd hp (get_s (get_s (get_s (get_s (get_s (get_s (get_s (get_s (get_s (get_s (get_s (get_s get_z)))))))))))) rfl
theorem Go.ald14 {v : Addr} {a0 a1 a2 a3 a4 a5 a6 a7 a8 a9 a10 a11 a12 a13 : Slot} {q : List Slot} (r : Go w l R Z n0 y code ml ret pc (a0 :: a1 :: a2 :: a3 :: a4 :: a5 :: a6 :: a7 :: a8 :: a9 :: a10 :: a11 :: a12 :: a13 :: .val (.ref v) :: q) st h cells slots) (pc' : Nat) (hd : decode code pc = .ok (.aload 14, 2)) (hp : pc + 2 = pc') : Go w l R Z n0 y code ml ret pc' (a0 :: a1 :: a2 :: a3 :: a4 :: a5 :: a6 :: a7 :: a8 :: a9 :: a10 :: a11 :: a12 :: a13 :: .val (.ref v) :: q) ((.ref v) :: st) h cells slots := r.aloadG pc' hd hp (get_s (get_s (get_s (get_s (get_s (get_s (get_s (get_s (get_s (get_s (get_s (get_s (get_s (get_s get_z)))))))))))))) rfl
theorem Go.ast11 {v : Addr} {o : Slot} {a0 a1 a2 a3 a4 a5 a6 a7 a8 a9 a10 : Slot} {q : List Slot} (r : Go w l R Z n0 y code ml ret pc (a0 :: a1 :: a2 :: a3 :: a4 :: a5 :: a6 :: a7 :: a8 :: a9 :: a10 :: o :: q) ((.ref v) :: st) h cells slots) (pc' : Nat) (hd : decode code pc = .ok (.astore 11, 2)) (hp : pc + 2 = pc') (ho : One o) : Go w l R Z n0 y code ml ret pc' (a0 :: a1 :: a2 :: a3 :: a4 :: a5 :: a6 :: a7 :: a8 :: a9 :: a10 :: .val (.ref v) :: q) st h cells slots := r.astoreG pc' hd hp rfl rfl (get_s (get_s (get_s (get_s (get_s (get_s (get_s (get_s (get_s (get_s (get_s get_z))))))))))) ho (set_s (set_s (set_s (set_s (set_s (set_s (set_s (set_s (set_s (set_s (set_s set_z)))))))))))
theorem Go.ast12 {v : Addr} {o : Slot} {a0 a1 a2 a3 a4 a5 a6 a7 a8 a9 a10 a11 : Slot} {q : List Slot} (r : Go w l R Z n0 y code ml ret pc (a0 :: a1 :: a2 :: a3 :: a4 :: a5 :: a6 :: a7 :: a8 :: a9 :: a10 :: a11 :: o :: q) ((.ref v) :: st) h cells slots) (pc' : Nat) (hd : decode code pc = .ok (.astore 12, 2)) (hp : pc + 2 = pc') (ho : One o) : Go w l R Z n0 y code ml ret pc' (a0 :: a1 :: a2 :: a3 :: a4 :: a5 :: a6 :: a7 :: a8 :: a9 :: a10 :: a11 :: .val (.ref v) :: q) st h cells slots := r.astoreG pc' hd hp rfl rfl (get_s (get_s (get_s (get_s (get_s (get_s (get_s (get_s (get_s (get_s (get_s (get_s get_z)))))))))))) ho (set_s (set_s (set_s (set_s (set_s (set_s (set_s (set_s (set_s (set_s (set_s (set_s set_z))))))))))))
theorem Go.ast14 {v : Addr} {o : Slot} {a0 a1 a2 a3 a4 a5 a6 a7 a8 a9 a10 a11 a12 a13 : Slot} {q : List Slot} (r : Go w l R Z n0 y code ml ret pc (a0 :: a1 :: a2 :: a3 :: a4 :: a5 :: a6 :: a7 :: a8 :: a9 :: a10 :: a11 :: a12 :: a13 :: o :: q) ((.ref v) :: st) h cells slots) (pc' : Nat) (hd : decode code pc = .ok (.astore 14, 2)) (hp : pc + 2 = pc') (ho : One o) : Go w l R Z n0 y code ml ret pc' (a0 :: a1 :: a2 :: a3 :: a4 :: a5 :: a6 :: a7 :: a8 :: a9 :: a10 :: a11 :: a12 :: a13 :: .val (.ref v) :: q) st h cells slots := r.astoreG pc' hd hp rfl rfl (get_s (get_s (get_s (get_s (get_s (get_s (get_s (get_s (get_s (get_s (get_s (get_s (get_s (get_s get_z)))))))))))))) ho (set_s (set_s (set_s (set_s (set_s (set_s (set_s (set_s (set_s (set_s (set_s (set_s (set_s (set_s set_z))))))))))))))
theorem Go.ild0 {v : Int32} {q : List Slot} (r : Go w l R Z n0 y code ml ret pc (.val (.int v) :: q) st h cells slots) (pc' : Nat) (hd : decode code pc = .ok (.iload_n 0, 1)) (hp : pc + 1 = pc') : Go w l R Z n0 y code ml ret pc' (.val (.int v) :: q) ((.int v) :: st) h cells slots := r.iloadNG pc' hd hp get_z
theorem Go.ild1 {v : Int32} {a0 : Slot} {q : List Slot} (r : Go w l R Z n0 y code ml ret pc (a0 :: .val (.int v) :: q) st h cells slots) (pc' : Nat) (hd : decode code pc = .ok (.iload_n 1, 1)) (hp : pc + 1 = pc') : Go w l R Z n0 y code ml ret pc' (a0 :: .val (.int v) :: q) ((.int v) :: st) h cells slots := r.iloadNG pc' hd hp (get_s get_z)
theorem Go.ild2 {v : Int32} {a0 a1 : Slot} {q : List Slot} (r : Go w l R Z n0 y code ml ret pc (a0 :: a1 :: .val (.int v) :: q) st h cells slots) (pc' : Nat) (hd : decode code pc = .ok (.iload_n 2, 1)) (hp : pc + 1 = pc') : Go w l R Z n0 y code ml ret pc' (a0 :: a1 :: .val (.int v) :: q) ((.int v) :: st) h cells slots := r.iloadNG pc' hd hp (get_s (get_s get_z))
theorem Go.ild3 {v : Int32} {a0 a1 a2 : Slot} {q : List Slot} (r : Go w l R Z n0 y code ml ret pc (a0 :: a1 :: a2 :: .val (.int v) :: q) st h cells slots) (pc' : Nat) (hd : decode code pc = .ok (.iload_n 3, 1)) (hp : pc + 1 = pc') : Go w l R Z n0 y code ml ret pc' (a0 :: a1 :: a2 :: .val (.int v) :: q) ((.int v) :: st) h cells slots := r.iloadNG pc' hd hp (get_s (get_s (get_s get_z)))
theorem Go.ild4 {v : Int32} {a0 a1 a2 a3 : Slot} {q : List Slot} (r : Go w l R Z n0 y code ml ret pc (a0 :: a1 :: a2 :: a3 :: .val (.int v) :: q) st h cells slots) (pc' : Nat) (hd : decode code pc = .ok (.iload 4, 2)) (hp : pc + 2 = pc') : Go w l R Z n0 y code ml ret pc' (a0 :: a1 :: a2 :: a3 :: .val (.int v) :: q) ((.int v) :: st) h cells slots := r.iloadG pc' hd hp (get_s (get_s (get_s (get_s get_z))))
theorem Go.ild5 {v : Int32} {a0 a1 a2 a3 a4 : Slot} {q : List Slot} (r : Go w l R Z n0 y code ml ret pc (a0 :: a1 :: a2 :: a3 :: a4 :: .val (.int v) :: q) st h cells slots) (pc' : Nat) (hd : decode code pc = .ok (.iload 5, 2)) (hp : pc + 2 = pc') : Go w l R Z n0 y code ml ret pc' (a0 :: a1 :: a2 :: a3 :: a4 :: .val (.int v) :: q) ((.int v) :: st) h cells slots := r.iloadG pc' hd hp (get_s (get_s (get_s (get_s (get_s get_z)))))
theorem Go.ild6 {v : Int32} {a0 a1 a2 a3 a4 a5 : Slot} {q : List Slot} (r : Go w l R Z n0 y code ml ret pc (a0 :: a1 :: a2 :: a3 :: a4 :: a5 :: .val (.int v) :: q) st h cells slots) (pc' : Nat) (hd : decode code pc = .ok (.iload 6, 2)) (hp : pc + 2 = pc') : Go w l R Z n0 y code ml ret pc' (a0 :: a1 :: a2 :: a3 :: a4 :: a5 :: .val (.int v) :: q) ((.int v) :: st) h cells slots := r.iloadG pc' hd hp (get_s (get_s (get_s (get_s (get_s (get_s get_z))))))
theorem Go.ild7 {v : Int32} {a0 a1 a2 a3 a4 a5 a6 : Slot} {q : List Slot} (r : Go w l R Z n0 y code ml ret pc (a0 :: a1 :: a2 :: a3 :: a4 :: a5 :: a6 :: .val (.int v) :: q) st h cells slots) (pc' : Nat) (hd : decode code pc = .ok (.iload 7, 2)) (hp : pc + 2 = pc') : Go w l R Z n0 y code ml ret pc' (a0 :: a1 :: a2 :: a3 :: a4 :: a5 :: a6 :: .val (.int v) :: q) ((.int v) :: st) h cells slots := r.iloadG pc' hd hp (get_s (get_s (get_s (get_s (get_s (get_s (get_s get_z)))))))
theorem Go.ild8 {v : Int32} {a0 a1 a2 a3 a4 a5 a6 a7 : Slot} {q : List Slot} (r : Go w l R Z n0 y code ml ret pc (a0 :: a1 :: a2 :: a3 :: a4 :: a5 :: a6 :: a7 :: .val (.int v) :: q) st h cells slots) (pc' : Nat) (hd : decode code pc = .ok (.iload 8, 2)) (hp : pc + 2 = pc') : Go w l R Z n0 y code ml ret pc' (a0 :: a1 :: a2 :: a3 :: a4 :: a5 :: a6 :: a7 :: .val (.int v) :: q) ((.int v) :: st) h cells slots := r.iloadG pc' hd hp (get_s (get_s (get_s (get_s (get_s (get_s (get_s (get_s get_z))))))))
theorem Go.ild9 {v : Int32} {a0 a1 a2 a3 a4 a5 a6 a7 a8 : Slot} {q : List Slot} (r : Go w l R Z n0 y code ml ret pc (a0 :: a1 :: a2 :: a3 :: a4 :: a5 :: a6 :: a7 :: a8 :: .val (.int v) :: q) st h cells slots) (pc' : Nat) (hd : decode code pc = .ok (.iload 9, 2)) (hp : pc + 2 = pc') : Go w l R Z n0 y code ml ret pc' (a0 :: a1 :: a2 :: a3 :: a4 :: a5 :: a6 :: a7 :: a8 :: .val (.int v) :: q) ((.int v) :: st) h cells slots := r.iloadG pc' hd hp (get_s (get_s (get_s (get_s (get_s (get_s (get_s (get_s (get_s get_z)))))))))
theorem Go.ild10 {v : Int32} {a0 a1 a2 a3 a4 a5 a6 a7 a8 a9 : Slot} {q : List Slot} (r : Go w l R Z n0 y code ml ret pc (a0 :: a1 :: a2 :: a3 :: a4 :: a5 :: a6 :: a7 :: a8 :: a9 :: .val (.int v) :: q) st h cells slots) (pc' : Nat) (hd : decode code pc = .ok (.iload 10, 2)) (hp : pc + 2 = pc') : Go w l R Z n0 y code ml ret pc' (a0 :: a1 :: a2 :: a3 :: a4 :: a5 :: a6 :: a7 :: a8 :: a9 :: .val (.int v) :: q) ((.int v) :: st) h cells slots := r.iloadG pc' hd hp (get_s (get_s (get_s (get_s (get_s (get_s (get_s (get_s (get_s (get_s get_z))))))))))
theorem Go.ild13 {v : Int32} {a0 a1 a2 a3 a4 a5 a6 a7 a8 a9 a10 a11 a12 : Slot} {q : List Slot} (r : Go w l R Z n0 y code ml ret pc (a0 :: a1 :: a2 :: a3 :: a4 :: a5 :: a6 :: a7 :: a8 :: a9 :: a10 :: a11 :: a12 :: .val (.int v) :: q) st h cells slots) (pc' : Nat) (hd : decode code pc = .ok (.iload 13, 2)) (hp : pc + 2 = pc') : Go w l R Z n0 y code ml ret pc' (a0 :: a1 :: a2 :: a3 :: a4 :: a5 :: a6 :: a7 :: a8 :: a9 :: a10 :: a11 :: a12 :: .val (.int v) :: q) ((.int v) :: st) h cells slots := r.iloadG pc' hd hp (get_s (get_s (get_s (get_s (get_s (get_s (get_s (get_s (get_s (get_s (get_s (get_s (get_s get_z)))))))))))))
theorem Go.ild15 {v : Int32} {a0 a1 a2 a3 a4 a5 a6 a7 a8 a9 a10 a11 a12 a13 a14 : Slot} {q : List Slot} (r : Go w l R Z n0 y code ml ret pc (a0 :: a1 :: a2 :: a3 :: a4 :: a5 :: a6 :: a7 :: a8 :: a9 :: a10 :: a11 :: a12 :: a13 :: a14 :: .val (.int v) :: q) st h cells slots) (pc' : Nat) (hd : decode code pc = .ok (.iload 15, 2)) (hp : pc + 2 = pc') : Go w l R Z n0 y code ml ret pc' (a0 :: a1 :: a2 :: a3 :: a4 :: a5 :: a6 :: a7 :: a8 :: a9 :: a10 :: a11 :: a12 :: a13 :: a14 :: .val (.int v) :: q) ((.int v) :: st) h cells slots := r.iloadG pc' hd hp (get_s (get_s (get_s (get_s (get_s (get_s (get_s (get_s (get_s (get_s (get_s (get_s (get_s (get_s (get_s get_z)))))))))))))))
theorem Go.ild16 {v : Int32} {a0 a1 a2 a3 a4 a5 a6 a7 a8 a9 a10 a11 a12 a13 a14 a15 : Slot} {q : List Slot} (r : Go w l R Z n0 y code ml ret pc (a0 :: a1 :: a2 :: a3 :: a4 :: a5 :: a6 :: a7 :: a8 :: a9 :: a10 :: a11 :: a12 :: a13 :: a14 :: a15 :: .val (.int v) :: q) st h cells slots) (pc' : Nat) (hd : decode code pc = .ok (.iload 16, 2)) (hp : pc + 2 = pc') : Go w l R Z n0 y code ml ret pc' (a0 :: a1 :: a2 :: a3 :: a4 :: a5 :: a6 :: a7 :: a8 :: a9 :: a10 :: a11 :: a12 :: a13 :: a14 :: a15 :: .val (.int v) :: q) ((.int v) :: st) h cells slots := r.iloadG pc' hd hp (get_s (get_s (get_s (get_s (get_s (get_s (get_s (get_s (get_s (get_s (get_s (get_s (get_s (get_s (get_s (get_s get_z))))))))))))))))
theorem Go.ild17 {v : Int32} {a0 a1 a2 a3 a4 a5 a6 a7 a8 a9 a10 a11 a12 a13 a14 a15 a16 : Slot} {q : List Slot} (r : Go w l R Z n0 y code ml ret pc (a0 :: a1 :: a2 :: a3 :: a4 :: a5 :: a6 :: a7 :: a8 :: a9 :: a10 :: a11 :: a12 :: a13 :: a14 :: a15 :: a16 :: .val (.int v) :: q) st h cells slots) (pc' : Nat) (hd : decode code pc = .ok (.iload 17, 2)) (hp : pc + 2 = pc') : Go w l R Z n0 y code ml ret pc' (a0 :: a1 :: a2 :: a3 :: a4 :: a5 :: a6 :: a7 :: a8 :: a9 :: a10 :: a11 :: a12 :: a13 :: a14 :: a15 :: a16 :: .val (.int v) :: q) ((.int v) :: st) h cells slots := r.iloadG pc' hd hp (get_s (get_s (get_s (get_s (get_s (get_s (get_s (get_s (get_s (get_s (get_s (get_s (get_s (get_s (get_s (get_s (get_s get_z)))))))))))))))))
theorem Go.ild18 {v : Int32} {a0 a1 a2 a3 a4 a5 a6 a7 a8 a9 a10 a11 a12 a13 a14 a15 a16 a17 : Slot} {q : List Slot} (r : Go w l R Z n0 y code ml ret pc (a0 :: a1 :: a2 :: a3 :: a4 :: a5 :: a6 :: a7 :: a8 :: a9 :: a10 :: a11 :: a12 :: a13 :: a14 :: a15 :: a16 :: a17 :: .val (.int v) :: q) st h cells slots) (pc' : Nat) (hd : decode code pc = .ok (.iload 18, 2)) (hp : pc + 2 = pc') : Go w l R Z n0 y code ml ret pc' (a0 :: a1 :: a2 :: a3 :: a4 :: a5 :: a6 :: a7 :: a8 :: a9 :: a10 :: a11 :: a12 :: a13 :: a14 :: a15 :: a16 :: a17 :: .val (.int v) :: q) ((.int v) :: st) h cells slots := r.iloadG pc' hd hp (get_s (get_s (get_s (get_s (get_s (get_s (get_s (get_s (get_s (get_s (get_s (get_s (get_s (get_s (get_s (get_s (get_s (get_s get_z))))))))))))))))))
theorem Go.inc13 {v d : Int32} {i : Int} {a0 a1 a2 a3 a4 a5 a6 a7 a8 a9 a10 a11 a12 : Slot} {q : List Slot} (r : Go w l R Z n0 y code ml ret pc (a0 :: a1 :: a2 :: a3 :: a4 :: a5 :: a6 :: a7 :: a8 :: a9 :: a10 :: a11 :: a12 :: .val (.int v) :: q) st h cells slots) (pc' : Nat) (hd : decode code pc = .ok (.iinc 13 i, 3)) (hp : pc + 3 = pc') (he : Int32.ofInt i = d) : Go w l R Z n0 y code ml ret pc' (a0 :: a1 :: a2 :: a3 :: a4 :: a5 :: a6 :: a7 :: a8 :: a9 :: a10 :: a11 :: a12 :: .val (.int (v + d)) :: q) st h cells slots := r.iincG pc' hd hp (get_s (get_s (get_s (get_s (get_s (get_s (get_s (get_s (get_s (get_s (get_s (get_s (get_s get_z))))))))))))) (by rw [he]; exact (set_s (set_s (set_s (set_s (set_s (set_s (set_s (set_s (set_s (set_s (set_s (set_s (set_s set_z))))))))))))))
theorem Go.ist1 {v : Int32} {o : Slot} {a0 : Slot} {q : List Slot} (r : Go w l R Z n0 y code ml ret pc (a0 :: o :: q) ((.int v) :: st) h cells slots) (pc' : Nat) (hd : decode code pc = .ok (.istore_n 1, 1)) (hp : pc + 1 = pc') (ho : One o) : Go w l R Z n0 y code ml ret pc' (a0 :: .val (.int v) :: q) st h cells slots := r.istoreNG pc' hd hp (get_s get_z) ho (set_s set_z)
theorem Go.ist2 {v : Int32} {o : Slot} {a0 a1 : Slot} {q : List Slot} (r : Go w l R Z n0 y code ml ret pc (a0 :: a1 :: o :: q) ((.int v) :: st) h cells slots) (pc' : Nat) (hd : decode code pc = .ok (.istore_n 2, 1)) (hp : pc + 1 = pc') (ho : One o) : Go w l R Z n0 y code ml ret pc' (a0 :: a1 :: .val (.int v) :: q) st h cells slots := r.istoreNG pc' hd hp (get_s (get_s get_z)) ho (set_s (set_s set_z))
theorem Go.ist3 {v : Int32} {o : Slot} {a0 a1 a2 : Slot} {q : List Slot} (r : Go w l R Z n0 y code ml ret pc (a0 :: a1 :: a2 :: o :: q) ((.int v) :: st) h cells slots) (pc' : Nat) (hd : decode code pc = .ok (.istore_n 3, 1)) (hp : pc + 1 = pc') (ho : One o) : Go w l R Z n0 y code ml ret pc' (a0 :: a1 :: a2 :: .val (.int v) :: q) st h cells slots := r.istoreNG pc' hd hp (get_s (get_s (get_s get_z))) ho (set_s (set_s (set_s set_z)))
theorem Go.ist4 {v : Int32} {o : Slot} {a0 a1 a2 a3 : Slot} {q : List Slot} (r : Go w l R Z n0 y code ml ret pc (a0 :: a1 :: a2 :: a3 :: o :: q) ((.int v) :: st) h cells slots) (pc' : Nat) (hd : decode code pc = .ok (.istore 4, 2)) (hp : pc + 2 = pc') (ho : One o) : Go w l R Z n0 y code ml ret pc' (a0 :: a1 :: a2 :: a3 :: .val (.int v) :: q) st h cells slots := r.istoreG pc' hd hp (get_s (get_s (get_s (get_s get_z)))) ho (set_s (set_s (set_s (set_s set_z))))
theorem Go.ist5 {v : Int32} {o : Slot} {a0 a1 a2 a3 a4 : Slot} {q : List Slot} (r : Go w l R Z n0 y code ml ret pc (a0 :: a1 :: a2 :: a3 :: a4 :: o :: q) ((.int v) :: st) h cells slots) (pc' : Nat) (hd : decode code pc = .ok (.istore 5, 2)) (hp : pc + 2 = pc') (ho : One o) : Go w l R Z n0 y code ml ret pc' (a0 :: a1 :: a2 :: a3 :: a4 :: .val (.int v) :: q) st h cells slots := r.istoreG pc' hd hp (get_s (get_s (get_s (get_s (get_s get_z))))) ho (set_s (set_s (set_s (set_s (set_s set_z)))))
theorem Go.ist6 {v : Int32} {o : Slot} {a0 a1 a2 a3 a4 a5 : Slot} {q : List Slot} (r : Go w l R Z n0 y code ml ret pc (a0 :: a1 :: a2 :: a3 :: a4 :: a5 :: o :: q) ((.int v) :: st) h cells slots) (pc' : Nat) (hd : decode code pc = .ok (.istore 6, 2)) (hp : pc + 2 = pc') (ho : One o) : Go w l R Z n0 y code ml ret pc' (a0 :: a1 :: a2 :: a3 :: a4 :: a5 :: .val (.int v) :: q) st h cells slots := r.istoreG pc' hd hp (get_s (get_s (get_s (get_s (get_s (get_s get_z)))))) ho (set_s (set_s (set_s (set_s (set_s (set_s set_z))))))
theorem Go.ist7 {v : Int32} {o : Slot} {a0 a1 a2 a3 a4 a5 a6 : Slot} {q : List Slot} (r : Go w l R Z n0 y code ml ret pc (a0 :: a1 :: a2 :: a3 :: a4 :: a5 :: a6 :: o :: q) ((.int v) :: st) h cells slots) (pc' : Nat) (hd : decode code pc = .ok (.istore 7, 2)) (hp : pc + 2 = pc') (ho : One o) : Go w l R Z n0 y code ml ret pc' (a0 :: a1 :: a2 :: a3 :: a4 :: a5 :: a6 :: .val (.int v) :: q) st h cells slots := r.istoreG pc' hd hp (get_s (get_s (get_s (get_s (get_s (get_s (get_s get_z))))))) ho (set_s (set_s (set_s (set_s (set_s (set_s (set_s set_z)))))))
theorem Go.ist8 {v : Int32} {o : Slot} {a0 a1 a2 a3 a4 a5 a6 a7 : Slot} {q : List Slot} (r : Go w l R Z n0 y code ml ret pc (a0 :: a1 :: a2 :: a3 :: a4 :: a5 :: a6 :: a7 :: o :: q) ((.int v) :: st) h cells slots) (pc' : Nat) (hd : decode code pc = .ok (.istore 8, 2)) (hp : pc + 2 = pc') (ho : One o) : Go w l R Z n0 y code ml ret pc' (a0 :: a1 :: a2 :: a3 :: a4 :: a5 :: a6 :: a7 :: .val (.int v) :: q) st h cells slots := r.istoreG pc' hd hp (get_s (get_s (get_s (get_s (get_s (get_s (get_s (get_s get_z)))))))) ho (set_s (set_s (set_s (set_s (set_s (set_s (set_s (set_s set_z))))))))
theorem Go.ist9 {v : Int32} {o : Slot} {a0 a1 a2 a3 a4 a5 a6 a7 a8 : Slot} {q : List Slot} (r : Go w l R Z n0 y code ml ret pc (a0 :: a1 :: a2 :: a3 :: a4 :: a5 :: a6 :: a7 :: a8 :: o :: q) ((.int v) :: st) h cells slots) (pc' : Nat) (hd : decode code pc = .ok (.istore 9, 2)) (hp : pc + 2 = pc') (ho : One o) : Go w l R Z n0 y code ml ret pc' (a0 :: a1 :: a2 :: a3 :: a4 :: a5 :: a6 :: a7 :: a8 :: .val (.int v) :: q) st h cells slots := r.istoreG pc' hd hp (get_s (get_s (get_s (get_s (get_s (get_s (get_s (get_s (get_s get_z))))))))) ho (set_s (set_s (set_s (set_s (set_s (set_s (set_s (set_s (set_s set_z)))))))))
theorem Go.ist10 {v : Int32} {o : Slot} {a0 a1 a2 a3 a4 a5 a6 a7 a8 a9 : Slot} {q : List Slot} (r : Go w l R Z n0 y code ml ret pc (a0 :: a1 :: a2 :: a3 :: a4 :: a5 :: a6 :: a7 :: a8 :: a9 :: o :: q) ((.int v) :: st) h cells slots) (pc' : Nat) (hd : decode code pc = .ok (.istore 10, 2)) (hp : pc + 2 = pc') (ho : One o) : Go w l R Z n0 y code ml ret pc' (a0 :: a1 :: a2 :: a3 :: a4 :: a5 :: a6 :: a7 :: a8 :: a9 :: .val (.int v) :: q) st h cells slots := r.istoreG pc' hd hp (get_s (get_s (get_s (get_s (get_s (get_s (get_s (get_s (get_s (get_s get_z)))))))))) ho (set_s (set_s (set_s (set_s (set_s (set_s (set_s (set_s (set_s (set_s set_z))))))))))
theorem Go.ist13 {v : Int32} {o : Slot} {a0 a1 a2 a3 a4 a5 a6 a7 a8 a9 a10 a11 a12 : Slot} {q : List Slot} (r : Go w l R Z n0 y code ml ret pc (a0 :: a1 :: a2 :: a3 :: a4 :: a5 :: a6 :: a7 :: a8 :: a9 :: a10 :: a11 :: a12 :: o :: q) ((.int v) :: st) h cells slots) (pc' : Nat) (hd : decode code pc = .ok (.istore 13, 2)) (hp : pc + 2 = pc') (ho : One o) : Go w l R Z n0 y code ml ret pc' (a0 :: a1 :: a2 :: a3 :: a4 :: a5 :: a6 :: a7 :: a8 :: a9 :: a10 :: a11 :: a12 :: .val (.int v) :: q) st h cells slots := r.istoreG pc' hd hp (get_s (get_s (get_s (get_s (get_s (get_s (get_s (get_s (get_s (get_s (get_s (get_s (get_s get_z))))))))))))) ho (set_s (set_s (set_s (set_s (set_s (set_s (set_s (set_s (set_s (set_s (set_s (set_s (set_s set_z)))))))))))))
theorem Go.ist15 {v : Int32} {o : Slot} {a0 a1 a2 a3 a4 a5 a6 a7 a8 a9 a10 a11 a12 a13 a14 : Slot} {q : List Slot} (r : Go w l R Z n0 y code ml ret pc (a0 :: a1 :: a2 :: a3 :: a4 :: a5 :: a6 :: a7 :: a8 :: a9 :: a10 :: a11 :: a12 :: a13 :: a14 :: o :: q) ((.int v) :: st) h cells slots) (pc' : Nat) (hd : decode code pc = .ok (.istore 15, 2)) (hp : pc + 2 = pc') (ho : One o) : Go w l R Z n0 y code ml ret pc' (a0 :: a1 :: a2 :: a3 :: a4 :: a5 :: a6 :: a7 :: a8 :: a9 :: a10 :: a11 :: a12 :: a13 :: a14 :: .val (.int v) :: q) st h cells slots := r.istoreG pc' hd hp (get_s (get_s (get_s (get_s (get_s (get_s (get_s (get_s (get_s (get_s (get_s (get_s (get_s (get_s (get_s get_z))))))))))))))) ho (set_s (set_s (set_s (set_s (set_s (set_s (set_s (set_s (set_s (set_s (set_s (set_s (set_s (set_s (set_s set_z)))))))))))))))
theorem Go.ist16 {v : Int32} {o : Slot} {a0 a1 a2 a3 a4 a5 a6 a7 a8 a9 a10 a11 a12 a13 a14 a15 : Slot} {q : List Slot} (r : Go w l R Z n0 y code ml ret pc (a0 :: a1 :: a2 :: a3 :: a4 :: a5 :: a6 :: a7 :: a8 :: a9 :: a10 :: a11 :: a12 :: a13 :: a14 :: a15 :: o :: q) ((.int v) :: st) h cells slots) (pc' : Nat) (hd : decode code pc = .ok (.istore 16, 2)) (hp : pc + 2 = pc') (ho : One o) : Go w l R Z n0 y code ml ret pc' (a0 :: a1 :: a2 :: a3 :: a4 :: a5 :: a6 :: a7 :: a8 :: a9 :: a10 :: a11 :: a12 :: a13 :: a14 :: a15 :: .val (.int v) :: q) st h cells slots := r.istoreG pc' hd hp (get_s (get_s (get_s (get_s (get_s (get_s (get_s (get_s (get_s (get_s (get_s (get_s (get_s (get_s (get_s (get_s get_z)))))))))))))))) ho (set_s (set_s (set_s (set_s (set_s (set_s (set_s (set_s (set_s (set_s (set_s (set_s (set_s (set_s (set_s (set_s set_z))))))))))))))))
theorem Go.ist17 {v : Int32} {o : Slot} {a0 a1 a2 a3 a4 a5 a6 a7 a8 a9 a10 a11 a12 a13 a14 a15 a16 : Slot} {q : List Slot} (r : Go w l R Z n0 y code ml ret pc (a0 :: a1 :: a2 :: a3 :: a4 :: a5 :: a6 :: a7 :: a8 :: a9 :: a10 :: a11 :: a12 :: a13 :: a14 :: a15 :: a16 :: o :: q) ((.int v) :: st) h cells slots) (pc' : Nat) (hd : decode code pc = .ok (.istore 17, 2)) (hp : pc + 2 = pc') (ho : One o) : Go w l R Z n0 y code ml ret pc' (a0 :: a1 :: a2 :: a3 :: a4 :: a5 :: a6 :: a7 :: a8 :: a9 :: a10 :: a11 :: a12 :: a13 :: a14 :: a15 :: a16 :: .val (.int v) :: q) st h cells slots := r.istoreG pc' hd hp (get_s (get_s (get_s (get_s (get_s (get_s (get_s (get_s (get_s (get_s (get_s (get_s (get_s (get_s (get_s (get_s (get_s get_z))))))))))))))))) ho (set_s (set_s (set_s (set_s (set_s (set_s (set_s (set_s (set_s (set_s (set_s (set_s (set_s (set_s (set_s (set_s (set_s set_z)))))))))))))))))
theorem Go.ist18 {v : Int32} {o : Slot} {a0 a1 a2 a3 a4 a5 a6 a7 a8 a9 a10 a11 a12 a13 a14 a15 a16 a17 : Slot} {q : List Slot} (r : Go w l R Z n0 y code ml ret pc (a0 :: a1 :: a2 :: a3 :: a4 :: a5 :: a6 :: a7 :: a8 :: a9 :: a10 :: a11 :: a12 :: a13 :: a14 :: a15 :: a16 :: a17 :: o :: q) ((.int v) :: st) h cells slots) (pc' : Nat) (hd : decode code pc = .ok (.istore 18, 2)) (hp : pc + 2 = pc') (ho : One o) : Go w l R Z n0 y code ml ret pc' (a0 :: a1 :: a2 :: a3 :: a4 :: a5 :: a6 :: a7 :: a8 :: a9 :: a10 :: a11 :: a12 :: a13 :: a14 :: a15 :: a16 :: a17 :: .val (.int v) :: q) st h cells slots := r.istoreG pc' hd hp (get_s (get_s (get_s (get_s (get_s (get_s (get_s (get_s (get_s (get_s (get_s (get_s (get_s (get_s (get_s (get_s (get_s (get_s get_z)))))))))))))))))) ho (set_s (set_s (set_s (set_s (set_s (set_s (set_s (set_s (set_s (set_s (set_s (set_s (set_s (set_s (set_s (set_s (set_s (set_s set_z))))))))))))))))))
theorem Go.lld4 {v : Int64} {a0 a1 a2 a3 : Slot} {q : List Slot} (r : Go w l R Z n0 y code ml ret pc (a0 :: a1 :: a2 :: a3 :: .val (.long v) :: q) st h cells slots) (pc' : Nat) (hd : decode code pc = .ok (.lload 4, 2)) (hp : pc + 2 = pc') : Go w l R Z n0 y code ml ret pc' (a0 :: a1 :: a2 :: a3 :: .val (.long v) :: q) ((.long v) :: st) h cells slots := r.lloadG pc' hd hp (get_s (get_s (get_s (get_s get_z))))
theorem Go.lld6 {v : Int64} {a0 a1 a2 a3 a4 a5 : Slot} {q : List Slot} (r : Go w l R Z n0 y code ml ret pc (a0 :: a1 :: a2 :: a3 :: a4 :: a5 :: .val (.long v) :: q) st h cells slots) (pc' : Nat) (hd : decode code pc = .ok (.lload 6, 2)) (hp : pc + 2 = pc') : Go w l R Z n0 y code ml ret pc' (a0 :: a1 :: a2 :: a3 :: a4 :: a5 :: .val (.long v) :: q) ((.long v) :: st) h cells slots := r.lloadG pc' hd hp (get_s (get_s (get_s (get_s (get_s (get_s get_z))))))
theorem Go.goto {o : Int} (r : Go w l R Z n0 y code ml ret pc Ls st h cells slots) (pc' : Nat) (hd : decode code pc = .ok (.goto o, 3)) (hp : (pc : Int) + o = pc') : Go w l R Z n0 y code ml ret pc' Ls st h cells slots :=
  r.step fun T t a x b k => XS.goto a x rfl (pc0 := pc) (pc' := pc') rfl (hb b hd) (by rw [hp]; exact Int.natCast_nonneg _) (by rw [hp]; exact Int.toNat_natCast _) k
theorem Go.ifT {o : Int} {cd : ClassFile.Cond} {u : Int32} (r : Go w l R Z n0 y code ml ret pc Ls (.int u :: st) h cells slots) (pc' : Nat) (hd : decode code pc = .ok (.ifCond cd o, 3)) (hp : (pc : Int) + o = pc') (hc : ifCond.holds cd u = true) : Go w l R Z n0 y code ml ret pc' Ls st h cells slots :=
  r.step fun T t a x b k => XS.ifYes a x rfl (pc0 := pc) (pc' := pc') rfl (hb b hd) rfl hc (by rw [hp]; exact Int.natCast_nonneg _) (by rw [hp]; exact Int.toNat_natCast _) k
theorem Go.ifF {o : Int} {cd : ClassFile.Cond} {u : Int32} (r : Go w l R Z n0 y code ml ret pc Ls (.int u :: st) h cells slots) (pc' : Nat) (hd : decode code pc = .ok (.ifCond cd o, 3)) (hp : pc + 3 = pc') (hc : ifCond.holds cd u = false) : Go w l R Z n0 y code ml ret pc' Ls st h cells slots := by
  subst hp; exact r.step fun T t a x b k => XS.ifNo a x rfl (hb b hd) rfl hc k
theorem Go.icT {o : Int} {cd : ClassFile.Cond} {u v : Int32} (r : Go w l R Z n0 y code ml ret pc Ls (.int v :: .int u :: st) h cells slots) (pc' : Nat) (hd : decode code pc = .ok (.if_icmp cd o, 3)) (hp : (pc : Int) + o = pc') (hc : if_icmp.holds cd u v = true) : Go w l R Z n0 y code ml ret pc' Ls st h cells slots :=
  r.step fun T t a x b k => XS.icmpYes a x rfl (pc0 := pc) (pc' := pc') rfl (hb b hd) rfl hc (by rw [hp]; exact Int.natCast_nonneg _) (by rw [hp]; exact Int.toNat_natCast _) k
theorem Go.icF {o : Int} {cd : ClassFile.Cond} {u v : Int32} (r : Go w l R Z n0 y code ml ret pc Ls (.int v :: .int u :: st) h cells slots) (pc' : Nat) (hd : decode code pc = .ok (.if_icmp cd o, 3)) (hp : pc + 3 = pc') (hc : if_icmp.holds cd u v = false) : Go w l R Z n0 y code ml ret pc' Ls st h cells slots := by
  subst hp; exact r.step fun T t a x b k => XS.icmpNo a x rfl (hb b hd) rfl hc k
theorem Go.if_eqT {o : Int} {u : Int32} (r : Go w l R Z n0 y code ml ret pc Ls (.int u :: st) h cells slots) (pc' : Nat) (hd : decode code pc = .ok (.ifCond .eq o, 3)) (hp : (pc : Int) + o = pc') (hc : u = 0) : Go w l R Z n0 y code ml ret pc' Ls st h cells slots := r.ifT pc' hd hp ((if0 _ _).trans (teq hc).1)
theorem Go.if_eqF {o : Int} {u : Int32} (r : Go w l R Z n0 y code ml ret pc Ls (.int u :: st) h cells slots) (pc' : Nat) (hd : decode code pc = .ok (.ifCond .eq o, 3)) (hp : pc + 3 = pc') (hc : ¬ u = 0) : Go w l R Z n0 y code ml ret pc' Ls st h cells slots := r.ifF pc' hd hp ((if0 _ _).trans (feq hc).1)
theorem Go.if_eq {o : Int} {u : Int32} (r : Go w l R Z n0 y code ml ret pc Ls (.int u :: st) h cells slots) (pcT pcF : Nat) (hd : decode code pc = .ok (.ifCond .eq o, 3)) (hp : (pc : Int) + o = pcT) (hq : pc + 3 = pcF) : ((u = 0) ∧ Go w l R Z n0 y code ml ret pcT Ls st h cells slots) ∨ ((¬ u = 0) ∧ Go w l R Z n0 y code ml ret pcF Ls st h cells slots) := by
  by_cases hc : u = 0
  · exact Or.inl ⟨hc, r.if_eqT pcT hd hp hc⟩
  · exact Or.inr ⟨hc, r.if_eqF pcF hd hq hc⟩
theorem Go.ic_eqT {o : Int} {u v : Int32} (r : Go w l R Z n0 y code ml ret pc Ls (.int v :: .int u :: st) h cells slots) (pc' : Nat) (hd : decode code pc = .ok (.if_icmp .eq o, 3)) (hp : (pc : Int) + o = pc') (hc : u = v) : Go w l R Z n0 y code ml ret pc' Ls st h cells slots := r.icT pc' hd hp (teq hc).1
theorem Go.ic_eqF {o : Int} {u v : Int32} (r : Go w l R Z n0 y code ml ret pc Ls (.int v :: .int u :: st) h cells slots) (pc' : Nat) (hd : decode code pc = .ok (.if_icmp .eq o, 3)) (hp : pc + 3 = pc') (hc : ¬ u = v) : Go w l R Z n0 y code ml ret pc' Ls st h cells slots := r.icF pc' hd hp (feq hc).1
theorem Go.ic_eq {o : Int} {u v : Int32} (r : Go w l R Z n0 y code ml ret pc Ls (.int v :: .int u :: st) h cells slots) (pcT pcF : Nat) (hd : decode code pc = .ok (.if_icmp .eq o, 3)) (hp : (pc : Int) + o = pcT) (hq : pc + 3 = pcF) : ((u = v) ∧ Go w l R Z n0 y code ml ret pcT Ls st h cells slots) ∨ ((¬ u = v) ∧ Go w l R Z n0 y code ml ret pcF Ls st h cells slots) := by
  by_cases hc : u = v
  · exact Or.inl ⟨hc, r.ic_eqT pcT hd hp hc⟩
  · exact Or.inr ⟨hc, r.ic_eqF pcF hd hq hc⟩
theorem Go.if_neT {o : Int} {u : Int32} (r : Go w l R Z n0 y code ml ret pc Ls (.int u :: st) h cells slots) (pc' : Nat) (hd : decode code pc = .ok (.ifCond .ne o, 3)) (hp : (pc : Int) + o = pc') (hc : ¬ u = 0) : Go w l R Z n0 y code ml ret pc' Ls st h cells slots := r.ifT pc' hd hp ((if0 _ _).trans (feq hc).2)
theorem Go.if_neF {o : Int} {u : Int32} (r : Go w l R Z n0 y code ml ret pc Ls (.int u :: st) h cells slots) (pc' : Nat) (hd : decode code pc = .ok (.ifCond .ne o, 3)) (hp : pc + 3 = pc') (hc : u = 0) : Go w l R Z n0 y code ml ret pc' Ls st h cells slots := r.ifF pc' hd hp ((if0 _ _).trans (teq hc).2)
theorem Go.if_ne {o : Int} {u : Int32} (r : Go w l R Z n0 y code ml ret pc Ls (.int u :: st) h cells slots) (pcT pcF : Nat) (hd : decode code pc = .ok (.ifCond .ne o, 3)) (hp : (pc : Int) + o = pcT) (hq : pc + 3 = pcF) : ((¬ u = 0) ∧ Go w l R Z n0 y code ml ret pcT Ls st h cells slots) ∨ ((u = 0) ∧ Go w l R Z n0 y code ml ret pcF Ls st h cells slots) := by
  by_cases hc : ¬ u = 0
  · exact Or.inl ⟨hc, r.if_neT pcT hd hp hc⟩
  · exact Or.inr ⟨Classical.not_not.mp hc, r.if_neF pcF hd hq (Classical.not_not.mp hc)⟩
theorem Go.ic_neT {o : Int} {u v : Int32} (r : Go w l R Z n0 y code ml ret pc Ls (.int v :: .int u :: st) h cells slots) (pc' : Nat) (hd : decode code pc = .ok (.if_icmp .ne o, 3)) (hp : (pc : Int) + o = pc') (hc : ¬ u = v) : Go w l R Z n0 y code ml ret pc' Ls st h cells slots := r.icT pc' hd hp (feq hc).2
theorem Go.ic_neF {o : Int} {u v : Int32} (r : Go w l R Z n0 y code ml ret pc Ls (.int v :: .int u :: st) h cells slots) (pc' : Nat) (hd : decode code pc = .ok (.if_icmp .ne o, 3)) (hp : pc + 3 = pc') (hc : u = v) : Go w l R Z n0 y code ml ret pc' Ls st h cells slots := r.icF pc' hd hp (teq hc).2
theorem Go.ic_ne {o : Int} {u v : Int32} (r : Go w l R Z n0 y code ml ret pc Ls (.int v :: .int u :: st) h cells slots) (pcT pcF : Nat) (hd : decode code pc = .ok (.if_icmp .ne o, 3)) (hp : (pc : Int) + o = pcT) (hq : pc + 3 = pcF) : ((¬ u = v) ∧ Go w l R Z n0 y code ml ret pcT Ls st h cells slots) ∨ ((u = v) ∧ Go w l R Z n0 y code ml ret pcF Ls st h cells slots) := by
  by_cases hc : ¬ u = v
  · exact Or.inl ⟨hc, r.ic_neT pcT hd hp hc⟩
  · exact Or.inr ⟨Classical.not_not.mp hc, r.ic_neF pcF hd hq (Classical.not_not.mp hc)⟩
theorem Go.if_ltT {o : Int} {u : Int32} (r : Go w l R Z n0 y code ml ret pc Ls (.int u :: st) h cells slots) (pc' : Nat) (hd : decode code pc = .ok (.ifCond .lt o, 3)) (hp : (pc : Int) + o = pc') (hc : u < 0) : Go w l R Z n0 y code ml ret pc' Ls st h cells slots := r.ifT pc' hd hp ((if0 _ _).trans (tlt hc).1)
theorem Go.if_ltF {o : Int} {u : Int32} (r : Go w l R Z n0 y code ml ret pc Ls (.int u :: st) h cells slots) (pc' : Nat) (hd : decode code pc = .ok (.ifCond .lt o, 3)) (hp : pc + 3 = pc') (hc : ¬ u < 0) : Go w l R Z n0 y code ml ret pc' Ls st h cells slots := r.ifF pc' hd hp ((if0 _ _).trans (flt hc).1)
theorem Go.if_lt {o : Int} {u : Int32} (r : Go w l R Z n0 y code ml ret pc Ls (.int u :: st) h cells slots) (pcT pcF : Nat) (hd : decode code pc = .ok (.ifCond .lt o, 3)) (hp : (pc : Int) + o = pcT) (hq : pc + 3 = pcF) : ((u < 0) ∧ Go w l R Z n0 y code ml ret pcT Ls st h cells slots) ∨ ((¬ u < 0) ∧ Go w l R Z n0 y code ml ret pcF Ls st h cells slots) := by
  by_cases hc : u < 0
  · exact Or.inl ⟨hc, r.if_ltT pcT hd hp hc⟩
  · exact Or.inr ⟨hc, r.if_ltF pcF hd hq hc⟩
theorem Go.ic_ltT {o : Int} {u v : Int32} (r : Go w l R Z n0 y code ml ret pc Ls (.int v :: .int u :: st) h cells slots) (pc' : Nat) (hd : decode code pc = .ok (.if_icmp .lt o, 3)) (hp : (pc : Int) + o = pc') (hc : u < v) : Go w l R Z n0 y code ml ret pc' Ls st h cells slots := r.icT pc' hd hp (tlt hc).1
theorem Go.ic_ltF {o : Int} {u v : Int32} (r : Go w l R Z n0 y code ml ret pc Ls (.int v :: .int u :: st) h cells slots) (pc' : Nat) (hd : decode code pc = .ok (.if_icmp .lt o, 3)) (hp : pc + 3 = pc') (hc : ¬ u < v) : Go w l R Z n0 y code ml ret pc' Ls st h cells slots := r.icF pc' hd hp (flt hc).1
theorem Go.ic_lt {o : Int} {u v : Int32} (r : Go w l R Z n0 y code ml ret pc Ls (.int v :: .int u :: st) h cells slots) (pcT pcF : Nat) (hd : decode code pc = .ok (.if_icmp .lt o, 3)) (hp : (pc : Int) + o = pcT) (hq : pc + 3 = pcF) : ((u < v) ∧ Go w l R Z n0 y code ml ret pcT Ls st h cells slots) ∨ ((¬ u < v) ∧ Go w l R Z n0 y code ml ret pcF Ls st h cells slots) := by
  by_cases hc : u < v
  · exact Or.inl ⟨hc, r.ic_ltT pcT hd hp hc⟩
  · exact Or.inr ⟨hc, r.ic_ltF pcF hd hq hc⟩
theorem Go.if_geT {o : Int} {u : Int32} (r : Go w l R Z n0 y code ml ret pc Ls (.int u :: st) h cells slots) (pc' : Nat) (hd : decode code pc = .ok (.ifCond .ge o, 3)) (hp : (pc : Int) + o = pc') (hc : ¬ u < 0) : Go w l R Z n0 y code ml ret pc' Ls st h cells slots := r.ifT pc' hd hp ((if0 _ _).trans (flt hc).2.1)
theorem Go.if_geF {o : Int} {u : Int32} (r : Go w l R Z n0 y code ml ret pc Ls (.int u :: st) h cells slots) (pc' : Nat) (hd : decode code pc = .ok (.ifCond .ge o, 3)) (hp : pc + 3 = pc') (hc : u < 0) : Go w l R Z n0 y code ml ret pc' Ls st h cells slots := r.ifF pc' hd hp ((if0 _ _).trans (tlt hc).2.1)
theorem Go.if_ge {o : Int} {u : Int32} (r : Go w l R Z n0 y code ml ret pc Ls (.int u :: st) h cells slots) (pcT pcF : Nat) (hd : decode code pc = .ok (.ifCond .ge o, 3)) (hp : (pc : Int) + o = pcT) (hq : pc + 3 = pcF) : ((¬ u < 0) ∧ Go w l R Z n0 y code ml ret pcT Ls st h cells slots) ∨ ((u < 0) ∧ Go w l R Z n0 y code ml ret pcF Ls st h cells slots) := by
  by_cases hc : ¬ u < 0
  · exact Or.inl ⟨hc, r.if_geT pcT hd hp hc⟩
  · exact Or.inr ⟨Classical.not_not.mp hc, r.if_geF pcF hd hq (Classical.not_not.mp hc)⟩
theorem Go.ic_geT {o : Int} {u v : Int32} (r : Go w l R Z n0 y code ml ret pc Ls (.int v :: .int u :: st) h cells slots) (pc' : Nat) (hd : decode code pc = .ok (.if_icmp .ge o, 3)) (hp : (pc : Int) + o = pc') (hc : ¬ u < v) : Go w l R Z n0 y code ml ret pc' Ls st h cells slots := r.icT pc' hd hp (flt hc).2.1
theorem Go.ic_geF {o : Int} {u v : Int32} (r : Go w l R Z n0 y code ml ret pc Ls (.int v :: .int u :: st) h cells slots) (pc' : Nat) (hd : decode code pc = .ok (.if_icmp .ge o, 3)) (hp : pc + 3 = pc') (hc : u < v) : Go w l R Z n0 y code ml ret pc' Ls st h cells slots := r.icF pc' hd hp (tlt hc).2.1
theorem Go.ic_ge {o : Int} {u v : Int32} (r : Go w l R Z n0 y code ml ret pc Ls (.int v :: .int u :: st) h cells slots) (pcT pcF : Nat) (hd : decode code pc = .ok (.if_icmp .ge o, 3)) (hp : (pc : Int) + o = pcT) (hq : pc + 3 = pcF) : ((¬ u < v) ∧ Go w l R Z n0 y code ml ret pcT Ls st h cells slots) ∨ ((u < v) ∧ Go w l R Z n0 y code ml ret pcF Ls st h cells slots) := by
  by_cases hc : ¬ u < v
  · exact Or.inl ⟨hc, r.ic_geT pcT hd hp hc⟩
  · exact Or.inr ⟨Classical.not_not.mp hc, r.ic_geF pcF hd hq (Classical.not_not.mp hc)⟩
theorem Go.if_gtT {o : Int} {u : Int32} (r : Go w l R Z n0 y code ml ret pc Ls (.int u :: st) h cells slots) (pc' : Nat) (hd : decode code pc = .ok (.ifCond .gt o, 3)) (hp : (pc : Int) + o = pc') (hc : 0 < u) : Go w l R Z n0 y code ml ret pc' Ls st h cells slots := r.ifT pc' hd hp ((if0 _ _).trans (tlt hc).2.2.1)
theorem Go.if_gtF {o : Int} {u : Int32} (r : Go w l R Z n0 y code ml ret pc Ls (.int u :: st) h cells slots) (pc' : Nat) (hd : decode code pc = .ok (.ifCond .gt o, 3)) (hp : pc + 3 = pc') (hc : ¬ 0 < u) : Go w l R Z n0 y code ml ret pc' Ls st h cells slots := r.ifF pc' hd hp ((if0 _ _).trans (flt hc).2.2.1)
theorem Go.if_gt {o : Int} {u : Int32} (r : Go w l R Z n0 y code ml ret pc Ls (.int u :: st) h cells slots) (pcT pcF : Nat) (hd : decode code pc = .ok (.ifCond .gt o, 3)) (hp : (pc : Int) + o = pcT) (hq : pc + 3 = pcF) : ((0 < u) ∧ Go w l R Z n0 y code ml ret pcT Ls st h cells slots) ∨ ((¬ 0 < u) ∧ Go w l R Z n0 y code ml ret pcF Ls st h cells slots) := by
  by_cases hc : 0 < u
  · exact Or.inl ⟨hc, r.if_gtT pcT hd hp hc⟩
  · exact Or.inr ⟨hc, r.if_gtF pcF hd hq hc⟩
theorem Go.ic_gtT {o : Int} {u v : Int32} (r : Go w l R Z n0 y code ml ret pc Ls (.int v :: .int u :: st) h cells slots) (pc' : Nat) (hd : decode code pc = .ok (.if_icmp .gt o, 3)) (hp : (pc : Int) + o = pc') (hc : v < u) : Go w l R Z n0 y code ml ret pc' Ls st h cells slots := r.icT pc' hd hp (tlt hc).2.2.1
theorem Go.ic_gtF {o : Int} {u v : Int32} (r : Go w l R Z n0 y code ml ret pc Ls (.int v :: .int u :: st) h cells slots) (pc' : Nat) (hd : decode code pc = .ok (.if_icmp .gt o, 3)) (hp : pc + 3 = pc') (hc : ¬ v < u) : Go w l R Z n0 y code ml ret pc' Ls st h cells slots := r.icF pc' hd hp (flt hc).2.2.1
theorem Go.ic_gt {o : Int} {u v : Int32} (r : Go w l R Z n0 y code ml ret pc Ls (.int v :: .int u :: st) h cells slots) (pcT pcF : Nat) (hd : decode code pc = .ok (.if_icmp .gt o, 3)) (hp : (pc : Int) + o = pcT) (hq : pc + 3 = pcF) : ((v < u) ∧ Go w l R Z n0 y code ml ret pcT Ls st h cells slots) ∨ ((¬ v < u) ∧ Go w l R Z n0 y code ml ret pcF Ls st h cells slots) := by
  by_cases hc : v < u
  · exact Or.inl ⟨hc, r.ic_gtT pcT hd hp hc⟩
  · exact Or.inr ⟨hc, r.ic_gtF pcF hd hq hc⟩
theorem Go.if_leT {o : Int} {u : Int32} (r : Go w l R Z n0 y code ml ret pc Ls (.int u :: st) h cells slots) (pc' : Nat) (hd : decode code pc = .ok (.ifCond .le o, 3)) (hp : (pc : Int) + o = pc') (hc : ¬ 0 < u) : Go w l R Z n0 y code ml ret pc' Ls st h cells slots := r.ifT pc' hd hp ((if0 _ _).trans (flt hc).2.2.2)
theorem Go.if_leF {o : Int} {u : Int32} (r : Go w l R Z n0 y code ml ret pc Ls (.int u :: st) h cells slots) (pc' : Nat) (hd : decode code pc = .ok (.ifCond .le o, 3)) (hp : pc + 3 = pc') (hc : 0 < u) : Go w l R Z n0 y code ml ret pc' Ls st h cells slots := r.ifF pc' hd hp ((if0 _ _).trans (tlt hc).2.2.2)
theorem Go.if_le {o : Int} {u : Int32} (r : Go w l R Z n0 y code ml ret pc Ls (.int u :: st) h cells slots) (pcT pcF : Nat) (hd : decode code pc = .ok (.ifCond .le o, 3)) (hp : (pc : Int) + o = pcT) (hq : pc + 3 = pcF) : ((¬ 0 < u) ∧ Go w l R Z n0 y code ml ret pcT Ls st h cells slots) ∨ ((0 < u) ∧ Go w l R Z n0 y code ml ret pcF Ls st h cells slots) := by
  by_cases hc : ¬ 0 < u
  · exact Or.inl ⟨hc, r.if_leT pcT hd hp hc⟩
  · exact Or.inr ⟨Classical.not_not.mp hc, r.if_leF pcF hd hq (Classical.not_not.mp hc)⟩
theorem Go.ic_leT {o : Int} {u v : Int32} (r : Go w l R Z n0 y code ml ret pc Ls (.int v :: .int u :: st) h cells slots) (pc' : Nat) (hd : decode code pc = .ok (.if_icmp .le o, 3)) (hp : (pc : Int) + o = pc') (hc : ¬ v < u) : Go w l R Z n0 y code ml ret pc' Ls st h cells slots := r.icT pc' hd hp (flt hc).2.2.2
theorem Go.ic_leF {o : Int} {u v : Int32} (r : Go w l R Z n0 y code ml ret pc Ls (.int v :: .int u :: st) h cells slots) (pc' : Nat) (hd : decode code pc = .ok (.if_icmp .le o, 3)) (hp : pc + 3 = pc') (hc : v < u) : Go w l R Z n0 y code ml ret pc' Ls st h cells slots := r.icF pc' hd hp (tlt hc).2.2.2
theorem Go.ic_le {o : Int} {u v : Int32} (r : Go w l R Z n0 y code ml ret pc Ls (.int v :: .int u :: st) h cells slots) (pcT pcF : Nat) (hd : decode code pc = .ok (.if_icmp .le o, 3)) (hp : (pc : Int) + o = pcT) (hq : pc + 3 = pcF) : ((¬ v < u) ∧ Go w l R Z n0 y code ml ret pcT Ls st h cells slots) ∨ ((v < u) ∧ Go w l R Z n0 y code ml ret pcF Ls st h cells slots) := by
  by_cases hc : ¬ v < u
  · exact Or.inl ⟨hc, r.ic_leT pcT hd hp hc⟩
  · exact Or.inr ⟨Classical.not_not.mp hc, r.ic_leF pcF hd hq (Classical.not_not.mp hc)⟩
/-! constants of the pool -/
theorem Go.ldcI {idx : Nat} {v : Int32} {a0 : Array Value} (r : Go w l R Z n0 y code ml ret pc Ls st h cells slots) (pc' : Nat) (hd : decode code pc = .ok (.ldc idx, 2)) (hp : pc + 2 = pc') (wc : (Cond.constant y.cls idx v).before a0 Z = true) : Go w l R Z n0 y code ml ret pc' Ls (.int v :: st) h cells slots := by
  subst hp
  obtain ⟨S, T, locs, X, e, N, k⟩ := r
  exact ⟨S, T, locs, X, e, N, fun t q => k t (X.ldcInt S.1 S.2.2.1 (mvT S.2.1 wc) (g := mkF w.m pc Ls.toArray st) rfl (hb S.2.2.2.1 hd) t q)⟩
theorem Go.ldc2 {idx : Nat} {v : Int64} {a0 : Array Value} (r : Go w l R Z n0 y code ml ret pc Ls st h cells slots) (pc' : Nat) (hd : decode code pc = .ok (.ldc2_w idx, 3)) (hp : pc + 3 = pc') (wc : (Cond.constantLong y.cls idx v).before a0 Z = true) : Go w l R Z n0 y code ml ret pc' Ls (.long v :: st) h cells slots := by
  subst hp
  obtain ⟨S, T, locs, X, e, N, k⟩ := r
  exact ⟨S, T, locs, X, e, N, fun t q => k t (X.ldc2Long S.1 S.2.2.1 (mvT S.2.1 wc) (g := mkF w.m pc Ls.toArray st) rfl (hb S.2.2.2.1 hd) t q)⟩
/-! fields -/
theorem Go.getF {idx : Nat} {O n d : String} {v : Value} {a : Addr} {a0 : Array Value} (r : Go w l R Z n0 y code ml ret pc Ls (.ref a :: st) h cells slots) (pc' : Nat) (hd : decode code pc = .ok (.getfield idx, 3)) (hp : pc + 3 = pc') (wf : (Cond.fieldLink y.cls idx O n d).before a0 Z = true) (F : Fld Z h a O n d v) : Go w l R Z n0 y code ml ret pc' Ls (v :: st) h cells slots := by
  subst hp
  obtain ⟨S, T, locs, X, e, N, k⟩ := r
  obtain ⟨T', X', e', q⟩ := Jvm.RoadKit.getF X S.1 S.2.1 S.2.2.1 (host := "") (Or.inl wf) Via.refl e F (g := mkF w.m pc Ls.toArray (.ref a :: st)) rfl rfl (hb S.2.2.2.1 hd)
  exact ⟨S, T', locs, X', e', N, fun t z => k t (q t z)⟩
/-- a field's place in an object of class C that may be written here: 'lays', or 'laysFinal' in a constructor of its own class -/
def Wry (Z : State) (a0 : Array Value) (y : MethodName) (C O n d : String) : Prop := (Cond.lays C O n d).before a0 Z = true ∨ ((Cond.laysFinal C O n d).before a0 Z = true ∧ y.cls = O ∧ y.name = "<init>")
theorem Go.putF {idx kk : Nat} {C O n d : String} {v old : Value} {a : Addr} {a0 : Array Value} (r : Go w l R Z n0 y code ml ret pc Ls (v :: .ref a :: st) h cells slots) (pc' : Nat) (hd : decode code pc = .ok (.putfield idx, 3)) (hp : pc + 3 = pc') (wf : (Cond.fieldLink y.cls idx O n d).before a0 Z = true) (wl : Wry Z a0 y C O n d) (wi : (Cond.instantiable C kk).before a0 Z = true) (E : Exa Z h a C) (F : Fld Z h a O n d old) {ty : FieldType} (hty : parseFieldDescriptor d = some ty) (hn : narrow ty v = v) (hf : fits ty v = true) (g0 : n0 ≤ a) :
    ∃ h', Wr h h' a (Jvm.RoadKit.slotOf Z O n d) v ∧ Go w l R Z n0 y code ml ret pc' Ls st h' cells slots := by
  subst hp
  obtain ⟨S, T, locs, X, e, N, k⟩ := r
  obtain ⟨T', h', X', e', Wq, q⟩ := Jvm.RoadKit.putF X S.1 S.2.1 S.2.2.1 (host := "") (Or.inl wf) Via.refl e F E (wl.imp id fun z => ⟨z.1, z.2.1, S.2.2.2.2.2.2.2.trans z.2.2⟩) wi hty hn hf (g := mkF w.m pc Ls.toArray (v :: .ref a :: st)) rfl rfl (hb S.2.2.2.1 hd)
  exact ⟨h', Wq, S, T', _, X', e', Fr.snoc X' N g0, fun t z => k t (q t z)⟩
theorem Go.putFN {idx kk : Nat} {C O n d : String} {v v' old : Value} {a : Addr} {a0 : Array Value} (r : Go w l R Z n0 y code ml ret pc Ls (v :: .ref a :: st) h cells slots) (pc' : Nat) (hd : decode code pc = .ok (.putfield idx, 3)) (hp : pc + 3 = pc') (wf : (Cond.fieldLink y.cls idx O n d).before a0 Z = true) (wl : Wry Z a0 y C O n d) (wi : (Cond.instantiable C kk).before a0 Z = true) (E : Exa Z h a C) (F : Fld Z h a O n d old) {ty : FieldType} (hty : parseFieldDescriptor d = some ty) (hn : narrow ty v = v') (hf : fits ty v' = true) (g0 : n0 ≤ a) :
    ∃ h', Wr h h' a (Jvm.RoadKit.slotOf Z O n d) v' ∧ Go w l R Z n0 y code ml ret pc' Ls st h' cells slots := by
  subst hp
  obtain ⟨S, T, locs, X, e, N, k⟩ := r
  obtain ⟨T', h', X', e', Wq, q⟩ := Jvm.RoadKit.putFN X S.1 S.2.1 S.2.2.1 wf Via.refl e F E (wl.imp id fun z => ⟨z.1, z.2.1, S.2.2.2.2.2.2.2.trans z.2.2⟩) wi hty hn hf (g := mkF w.m pc Ls.toArray (v :: .ref a :: st)) rfl rfl (hb S.2.2.2.1 hd)
  exact ⟨h', Wq, S, T', _, X', e', Fr.snoc X' N g0, fun t z => k t (q t z)⟩
/-! making -/
theorem Go.newO {idx n : Nat} {C : String} {a0 : Array Value} (r : Go w l R Z n0 y code ml ret pc Ls st h cells slots) (pc' : Nat) (hd : decode code pc = .ok (.new idx, 3)) (hp : pc + 3 = pc') (w1 : (Cond.classLink y.cls idx C).before a0 Z = true) (w2 : (Cond.instantiable C n).before a0 Z = true) (w3 : (Cond.initialized C).before a0 Z = true) (hc : cells + 1 ≤ R.cells) (hs : slots + n ≤ R.slots) :
    ∃ h' a, a = h.size ∧ Ext h h' ∧ Exa Z h' a C ∧ (∀ {O nm d : String} {ty : FieldType}, Laid Z a0 C O nm d → parseFieldDescriptor d = some ty → Fld Z h' a O nm d (defaultValue ty)) ∧ Go w l R Z n0 y code ml ret pc' Ls (.ref a :: st) h' (cells + 1) (slots + n) := by
  subst hp
  obtain ⟨S, T, locs, X, e, N, k⟩ := r
  obtain ⟨T', h', X', e', E, A, D, -, q⟩ := Jvm.RoadKit.newO X S.1 S.2.1 S.2.2.1 w1 w2 w3 e (g := mkF w.m pc Ls.toArray st) rfl (hb S.2.2.2.1 hd) hc hs
  exact ⟨h', h.size, rfl, E, A, D, S, T', locs, X', e', N, fun t z => k t (q t z)⟩
/-- an array with all its components -/
def Ary (Z : State) (h : Heap) (a : Addr) (ty : FieldType) (vs : List Value) : Prop := ∃ k d, Arv Z h a k ty (Int32.ofNat vs.length) vs d ∧ vs.length < 2 ^ 31
theorem len_nat {n : Nat} (h : n < 2 ^ 31) : (Int32.ofNat n).toNatClampNeg = n := by
  have := Int32.toInt_ofNat_small h
  simp only [Int32.toNatClampNeg]; omega
theorem len_nn {n : Nat} (h : n < 2 ^ 31) : ¬ Int32.ofNat n < 0 := by
  rw [Int32.lt_iff_toInt_lt, Int32.toInt_ofNat_small h]; have : (0 : Int32).toInt = 0 := rfl; omega
theorem nn_back {n : Int32} (h : ¬ n < 0) : Int32.ofNat n.toNatClampNeg = n := by
  have h1 := (back32 h).1
  simpa using h1
variable {a b : Addr} {ty : FieldType} {vs : List Value} {h' : Heap}
theorem Ary.lt (A : Ary Z h a ty vs) : a < h.size := by obtain ⟨k, d, V, -⟩ := A; exact V.lt
theorem Ary.ext (A : Ary Z h a ty vs) (E : Ext h h') : Ary Z h' a ty vs := by obtain ⟨k, d, V, q⟩ := A; exact ⟨k, d, V.ext E, q⟩
theorem Ary.other {v : Value} {sl : Nat} (A : Ary Z h b ty vs) (Wq : Wr h h' a sl v) (q : b ≠ a) : Ary Z h' b ty vs := by obtain ⟨k, d, V, z⟩ := A; exact ⟨k, d, V.other Wq q, z⟩
theorem Ary.keep {ws : List Addr} (A : Ary Z h a ty vs) (K : Keep h h' ws) (q : a ∉ ws) : Ary Z h' a ty vs := by obtain ⟨k, d, V, z⟩ := A; exact ⟨k, d, V.keep K q, z⟩
theorem Ary.len (A : Ary Z h a ty vs) : vs.length < 2 ^ 31 := by obtain ⟨k, d, V, z⟩ := A; exact z
theorem Ary.unf (A : Ary Z h a ty vs) : ∃ c : Cell, Arr Z h a c ty ∧ c.slots.size = vs.length ∧ (∀ i : Nat, i < vs.length → c.slots[i]? = vs[i]?) ∧ c.slots.size.toInt32 = Int32.ofNat vs.length := by
  obtain ⟨k, d, ⟨c, A1, A2, A3, A4, A5, A6⟩, z⟩ := A
  have e := len_nat z
  rw [e] at A3
  refine ⟨c, A1, A3, fun i hi => ?_, by rw [A3]⟩
  rw [A5 i (by omega), List.getD_eq_getElem?_getD, List.getElem?_eq_getElem hi]; rfl
theorem Ary.set {v : Value} {j : Int32} (A : Ary Z h a ty vs) (Wq : Wr h h' a j.toNatClampNeg v) (hf : fits ty v = true) (hj : j.toNatClampNeg < vs.length) : Ary Z h' a ty (vs.set j.toNatClampNeg v) := by
  obtain ⟨k, d, ⟨c, A1, A2, A3, A4, A5, A6⟩, z⟩ := A
  refine ⟨k, d, ?_, by simpa using z⟩
  have := Arv.set A1 A2 A3 A4 A5 A6 hf Wq _ rfl hj
  simpa using this
theorem Go.newA {aty : ArrayType} {n : Int32} {vs : List Value} {a0 : Array Value} (r : Go w l R Z n0 y code ml ret pc Ls (.int n :: st) h cells slots) (pc' : Nat) (hd : decode code pc = .ok (.newarray aty, 2)) (hp : pc + 2 = pc') (w1 : (Cond.arrayClass (newarray.typeOf aty)).before a0 Z = true) (hn : ¬ n < 0) (hv : List.replicate n.toNatClampNeg (defaultValue (newarray.typeOf aty)) = vs) (cap : Nat) (hcap : n.toNatClampNeg ≤ cap) (hb8 : cap * 8 ≤ 536870912) (hc : cells + 1 ≤ R.cells) (hs : slots + cap ≤ R.slots) :
    ∃ h' a, a = h.size ∧ Ext h h' ∧ Ary Z h' a (newarray.typeOf aty) vs ∧ Go w l R Z n0 y code ml ret pc' Ls (.ref a :: st) h' (cells + 1) (slots + cap) := by
  subst hp
  obtain ⟨S, T, locs, X, e, N, k⟩ := r
  obtain ⟨T', h', kA, X', e', E, A, q⟩ := Jvm.RoadKit.newP X S.1 S.2.1 w1 e (g := mkF w.m pc Ls.toArray (.int n :: st)) rfl (hb S.2.2.2.1 hd) rfl hn hcap hb8 hc hs
  refine ⟨h', h.size, rfl, E, ?_, S, T', locs, X', e', N, fun t z => k t (q t z)⟩
  have hl : vs.length = n.toNatClampNeg := by rw [← hv]; simp
  refine ⟨kA, defaultValue (newarray.typeOf aty), ?_, by rw [hl]; exact (back32 hn).2⟩
  rw [hl, nn_back hn, ← hv]
  exact (Arv.new A hn).pad (by simpa using pad_rep [] (defaultValue (newarray.typeOf aty)) n.toNatClampNeg)
/-! arrays -/
theorem inb {j : Int32} {n : Nat} (h0 : ¬ j < 0) (hj : j.toNatClampNeg < n) : ¬ (j < 0 ∨ n ≤ j.toNatClampNeg) := fun q => q.elim h0 (Nat.not_le.mpr hj)
theorem Go.alen (r : Go w l R Z n0 y code ml ret pc Ls (.ref a :: st) h cells slots) (pc' : Nat) (hd : decode code pc = .ok (.arraylength, 1)) (hp : pc + 1 = pc') (A : Ary Z h a ty vs) (n : Int32) (hn : Int32.ofNat vs.length = n) : Go w l R Z n0 y code ml ret pc' Ls (.int n :: st) h cells slots := by
  subst hp hn
  obtain ⟨S, T, locs, X, e, N, k⟩ := r
  obtain ⟨c, A1, A2, A3, A4⟩ := A.unf
  exact ⟨S, T, locs, X, e, N, fun t q => k t (X.arraylength S.1 (by rw [e]; exact A1.1) (State.isArrayOf_alike S.2.1.alike A1.2.1) (g := mkF w.m pc Ls.toArray (.ref a :: st)) rfl rfl (hb S.2.2.2.1 hd) t (by rw [A4]; exact q))⟩
theorem Go.iald {j : Int32} {v : Value} (r : Go w l R Z n0 y code ml ret pc Ls (.int j :: .ref a :: st) h cells slots) (pc' : Nat) (hd : decode code pc = .ok (.iaload, 1)) (hp : pc + 1 = pc') (A : Ary Z h a .int vs) (h0 : ¬ j < 0) (hv : vs[j.toNatClampNeg]? = some v) : Go w l R Z n0 y code ml ret pc' Ls (v :: st) h cells slots := by
  subst hp
  obtain ⟨S, T, locs, X, e, N, k⟩ := r
  obtain ⟨c, A1, A2, A3, A4⟩ := A.unf
  have hj := (List.getElem?_eq_some_iff.mp hv).1
  exact ⟨S, T, locs, X, e, N, fun t q => k t (X.iaload S.1 (by rw [e]; exact A1.1) (State.isArrayOf_alike S.2.1.alike A1.2.1) A1.2.2 (by rw [A2]; exact inb h0 hj) ((A3 _ hj).trans hv) (g := mkF w.m pc Ls.toArray (.int j :: .ref a :: st)) rfl rfl (hb S.2.2.2.1 hd) t q)⟩
theorem Go.lald {j : Int32} {v : Value} (r : Go w l R Z n0 y code ml ret pc Ls (.int j :: .ref a :: st) h cells slots) (pc' : Nat) (hd : decode code pc = .ok (.laload, 1)) (hp : pc + 1 = pc') (A : Ary Z h a .long vs) (h0 : ¬ j < 0) (hv : vs[j.toNatClampNeg]? = some v) : Go w l R Z n0 y code ml ret pc' Ls (v :: st) h cells slots := by
  subst hp
  obtain ⟨S, T, locs, X, e, N, k⟩ := r
  obtain ⟨c, A1, A2, A3, A4⟩ := A.unf
  have hj := (List.getElem?_eq_some_iff.mp hv).1
  exact ⟨S, T, locs, X, e, N, fun t q => k t (X.laload S.1 (by rw [e]; exact A1.1) (State.isArrayOf_alike S.2.1.alike A1.2.1) A1.2.2 (by rw [A2]; exact inb h0 hj) ((A3 _ hj).trans hv) (g := mkF w.m pc Ls.toArray (.int j :: .ref a :: st)) rfl rfl (hb S.2.2.2.1 hd) t q)⟩
theorem Go.bald {j : Int32} {v : Value} (r : Go w l R Z n0 y code ml ret pc Ls (.int j :: .ref a :: st) h cells slots) (pc' : Nat) (hd : decode code pc = .ok (.baload, 1)) (hp : pc + 1 = pc') (A : Ary Z h a .byte vs) (h0 : ¬ j < 0) (hv : vs[j.toNatClampNeg]? = some v) : Go w l R Z n0 y code ml ret pc' Ls (v :: st) h cells slots := by
  subst hp
  obtain ⟨S, T, locs, X, e, N, k⟩ := r
  obtain ⟨c, A1, A2, A3, A4⟩ := A.unf
  have hj := (List.getElem?_eq_some_iff.mp hv).1
  exact ⟨S, T, locs, X, e, N, fun t q => k t (X.baloadBytes S.1 (by rw [e]; exact A1.1) (State.isArrayOf_alike S.2.1.alike A1.2.1) A1.2.2 (by rw [A2]; exact inb h0 hj) ((A3 _ hj).trans hv) (g := mkF w.m pc Ls.toArray (.int j :: .ref a :: st)) rfl rfl (hb S.2.2.2.1 hd) t q)⟩
theorem Go.zald {j : Int32} {v : Value} (r : Go w l R Z n0 y code ml ret pc Ls (.int j :: .ref a :: st) h cells slots) (pc' : Nat) (hd : decode code pc = .ok (.baload, 1)) (hp : pc + 1 = pc') (A : Ary Z h a .boolean vs) (h0 : ¬ j < 0) (hv : vs[j.toNatClampNeg]? = some v) : Go w l R Z n0 y code ml ret pc' Ls (v :: st) h cells slots := by
  subst hp
  obtain ⟨S, T, locs, X, e, N, k⟩ := r
  obtain ⟨c, A1, A2, A3, A4⟩ := A.unf
  have hj := (List.getElem?_eq_some_iff.mp hv).1
  exact ⟨S, T, locs, X, e, N, fun t q => k t (X.baloadBooleans S.1 (by rw [e]; exact A1.1) (State.isArrayOf_alike S.2.1.alike A1.2.1) A1.2.2 (by rw [A2]; exact inb h0 hj) ((A3 _ hj).trans hv) (g := mkF w.m pc Ls.toArray (.int j :: .ref a :: st)) rfl rfl (hb S.2.2.2.1 hd) t q)⟩
theorem Go.iast {j x : Int32} (r : Go w l R Z n0 y code ml ret pc Ls (.int x :: .int j :: .ref a :: st) h cells slots) (pc' : Nat) (hd : decode code pc = .ok (.iastore, 1)) (hp : pc + 1 = pc') (A : Ary Z h a .int vs) (h0 : ¬ j < 0) (hj : j.toNatClampNeg < vs.length) (g0 : n0 ≤ a) :
    ∃ h', Wr h h' a j.toNatClampNeg (.int x) ∧ Ary Z h' a .int (vs.set j.toNatClampNeg (.int x)) ∧ Go w l R Z n0 y code ml ret pc' Ls st h' cells slots := by
  subst hp
  obtain ⟨S, T, locs, X, e, N, k⟩ := r
  obtain ⟨c, A1, A2, A3, A4⟩ := A.unf
  obtain ⟨T', h', X', e', Wq, q⟩ := stI X S.1 S.2.1 e A1 (j := j) (by rw [A2]; exact inb h0 hj) (g := mkF w.m pc Ls.toArray (.int x :: .int j :: .ref a :: st)) rfl rfl (hb S.2.2.2.1 hd)
  exact ⟨h', Wq, A.set Wq rfl hj, S, T', _, X', e', Fr.snoc X' N g0, fun t z => k t (q t z)⟩
theorem Go.last {j : Int32} {x : Int64} (r : Go w l R Z n0 y code ml ret pc Ls (.long x :: .int j :: .ref a :: st) h cells slots) (pc' : Nat) (hd : decode code pc = .ok (.lastore, 1)) (hp : pc + 1 = pc') (A : Ary Z h a .long vs) (h0 : ¬ j < 0) (hj : j.toNatClampNeg < vs.length) (g0 : n0 ≤ a) :
    ∃ h', Wr h h' a j.toNatClampNeg (.long x) ∧ Ary Z h' a .long (vs.set j.toNatClampNeg (.long x)) ∧ Go w l R Z n0 y code ml ret pc' Ls st h' cells slots := by
  subst hp
  obtain ⟨S, T, locs, X, e, N, k⟩ := r
  obtain ⟨c, A1, A2, A3, A4⟩ := A.unf
  obtain ⟨T', h', X', e', Wq, q⟩ := stJ X S.1 S.2.1 e A1 (j := j) (by rw [A2]; exact inb h0 hj) (g := mkF w.m pc Ls.toArray (.long x :: .int j :: .ref a :: st)) rfl rfl (hb S.2.2.2.1 hd)
  exact ⟨h', Wq, A.set Wq rfl hj, S, T', _, X', e', Fr.snoc X' N g0, fun t z => k t (q t z)⟩
theorem Go.bast {j x : Int32} (r : Go w l R Z n0 y code ml ret pc Ls (.int x :: .int j :: .ref a :: st) h cells slots) (pc' : Nat) (hd : decode code pc = .ok (.bastore, 1)) (hp : pc + 1 = pc') (A : Ary Z h a .byte vs) (h0 : ¬ j < 0) (hj : j.toNatClampNeg < vs.length) (g0 : n0 ≤ a) :
    ∃ h', Wr h h' a j.toNatClampNeg (.int x.toInt8.toInt32) ∧ Ary Z h' a .byte (vs.set j.toNatClampNeg (.int x.toInt8.toInt32)) ∧ Go w l R Z n0 y code ml ret pc' Ls st h' cells slots := by
  subst hp
  obtain ⟨S, T, locs, X, e, N, k⟩ := r
  obtain ⟨c, A1, A2, A3, A4⟩ := A.unf
  obtain ⟨T', h', X', e', Wq, q⟩ := stB X S.1 S.2.1 e A1 (j := j) (by rw [A2]; exact inb h0 hj) (g := mkF w.m pc Ls.toArray (.int x :: .int j :: .ref a :: st)) rfl rfl (hb S.2.2.2.1 hd)
  exact ⟨h', Wq, A.set Wq (fits_nar_byte _) hj, S, T', _, X', e', Fr.snoc X' N g0, fun t z => k t (q t z)⟩
theorem Go.zast {j x : Int32} (r : Go w l R Z n0 y code ml ret pc Ls (.int x :: .int j :: .ref a :: st) h cells slots) (pc' : Nat) (hd : decode code pc = .ok (.bastore, 1)) (hp : pc + 1 = pc') (A : Ary Z h a .boolean vs) (h0 : ¬ j < 0) (hj : j.toNatClampNeg < vs.length) (g0 : n0 ≤ a) :
    ∃ h', Wr h h' a j.toNatClampNeg (.int (x &&& 1)) ∧ Ary Z h' a .boolean (vs.set j.toNatClampNeg (.int (x &&& 1))) ∧ Go w l R Z n0 y code ml ret pc' Ls st h' cells slots := by
  subst hp
  obtain ⟨S, T, locs, X, e, N, k⟩ := r
  obtain ⟨c, A1, A2, A3, A4⟩ := A.unf
  obtain ⟨T', h', X', e', Wq, q⟩ := stZ X S.1 S.2.1 e A1 (j := j) (by rw [A2]; exact inb h0 hj) (g := mkF w.m pc Ls.toArray (.int x :: .int j :: .ref a :: st)) rfl rfl (hb S.2.2.2.1 hd)
  exact ⟨h', Wq, A.set Wq (fits_nar_bool _) hj, S, T', _, X', e', Fr.snoc X' N g0, fun t z => k t (q t z)⟩
/-! calls -/
def wt (st : List Value) : Nat := (st.map fun v => v.category).sum
variable {y' : MethodName} {code' : ByteArray} {ml' : Nat} {ret' : Option FieldType} {rm : Room} {as rest : List Value} {Q : Option Value → Heap → Prop} {ps : List FieldType} {rt : Option FieldType} {a0 : Array Value} {idx : Nat}
theorem Go.callS (r : Go w l R Z n0 y code ml ret pc Ls st h cells slots) (pc' : Nat) (hd : decode code pc = .ok (.invokestatic idx, 3)) (hp : pc + 3 = pc') (M : Met l Z y' code' ml' ret' rm as h n0 Q) (w1 : (Cond.methodLink y.cls idx y').before a0 Z = true) (w2 : (Cond.static y').before a0 Z = true) (w3 : (Cond.initialized y'.cls).before a0 Z = true) (w4 : (Cond.code y' code' ml' ret').before a0 Z = true)
    (hpd : parseMethodDescriptor y'.desc = some ⟨ps, rt⟩) (hlen : as.length = ps.length) (hst : st = as.reverse ++ rest) (hLs : Ls.length = ml) (hy : y'.cls ≠ "java/lang/invoke/MethodHandle" ∧ y'.cls ≠ "java/lang/invoke/VarHandle") (hf : rm.frames + 1 ≤ R.frames) (hl : wt rest + (ml' + 11) + rm.locals ≤ R.locals) (hc : cells + rm.cells ≤ R.cells) (hs : slots + rm.slots ≤ R.slots) :
    ∃ v h', Q v h' ∧ Go w l R Z n0 y code ml ret pc' Ls (v.toList ++ rest) h' (cells + rm.cells) (slots + rm.slots) := by
  subst hp hst
  obtain ⟨S, T, locs, X, e, N, k⟩ := r
  obtain ⟨v, _, ⟨T', L', k', n'⟩, -, X', ⟨Lc, hQ, l', y2, z2⟩, q⟩ := Jvm.LawKit.callS X S.1 (y := y') S.2.2.1 (mvT S.2.1 w1) (mvT S.2.1 w2) (mvT S.2.1 w3) (mvT S.2.1 w4) hy (backOf (W := wt rest) (Q := fun v h L => Q v h ∧ Fr n0 L) (M []) S.2.1 w4 w3 hf hl) (g := mkF w.m pc Ls.toArray (as.reverse ++ rest)) rfl (by rw [S.2.2.2.2.1]; simpa using hLs) (argsL := as) (rest := rest) (lenOf hpd hlen) rfl (by show 2 * 0 + _ ≤ _; simp [wt]) (hb S.2.2.2.1 hd) (fun _ _ => ⟨rfl, e, hc, hs⟩)
  dsimp only [Pt.U, Pt.locs, Pt.cells, Pt.slots] at X' l' y2 z2 q hQ
  subst l' y2 z2
  exact ⟨v, T'.heap, hQ.1, S, T', _, X', rfl, N.app hQ.2, fun t z => k t (q t z)⟩
theorem Go.callI (r : Go w l R Z n0 y code ml ret pc Ls st h cells slots) (pc' : Nat) (hd : decode code pc = .ok (.invokespecial idx, 3)) (hp : pc + 3 = pc') (M : Met l Z y' code' ml' none rm (.ref a :: as) h n0 Q) (hin : y'.name = "<init>") (w1 : (Cond.methodLink y.cls idx y').before a0 Z = true) (w2 : (Cond.instanceMethod y').before a0 Z = true) (w3 : (Cond.initialized y'.cls).before a0 Z = true) (w4 : (Cond.code y' code' ml' none).before a0 Z = true)
    (hpd : parseMethodDescriptor y'.desc = some ⟨ps, rt⟩) (hlen : as.length = ps.length) (hst : st = as.reverse ++ .ref a :: rest) (hLs : Ls.length = ml) (hy : y'.cls ≠ "java/lang/invoke/MethodHandle" ∧ y'.cls ≠ "java/lang/invoke/VarHandle") (hf : rm.frames + 1 ≤ R.frames) (hl : wt rest + (ml' + 11) + rm.locals ≤ R.locals) (hc : cells + rm.cells ≤ R.cells) (hs : slots + rm.slots ≤ R.slots) :
    ∃ v h', Q v h' ∧ Go w l R Z n0 y code ml ret pc' Ls (v.toList ++ rest) h' (cells + rm.cells) (slots + rm.slots) := by
  subst hp hst
  obtain ⟨S, T, locs, X, e, N, k⟩ := r
  obtain ⟨v, _, ⟨T', L', k', n'⟩, -, X', ⟨Lc, hQ, l', y2, z2⟩, q⟩ := X.specialBack S.1 (y := y') hin S.2.2.1 (mvT S.2.1 w1) (mvT S.2.1 w2) (mvT S.2.1 w4) hy (backOf (W := wt rest) (Q := fun v h L => Q v h ∧ Fr n0 L) (M []) S.2.1 w4 w3 hf hl) (g := mkF w.m pc Ls.toArray (as.reverse ++ .ref a :: rest)) rfl (by rw [S.2.2.2.2.1]; simpa using hLs) (Steps.refl _) (a := a) (argsL := as) (rest := rest) (lenOf hpd hlen) rfl (by show 2 * 0 + _ ≤ _; simp [wt]) (hb S.2.2.2.1 hd) (fun _ _ => ⟨rfl, e, hc, hs⟩)
  dsimp only [Pt.U, Pt.locs, Pt.cells, Pt.slots] at X' l' y2 z2 q hQ
  subst l' y2 z2
  exact ⟨v, T'.heap, hQ.1, S, T', _, X', rfl, N.app hQ.2, fun t z => k t (q.trans z)⟩
theorem Go.callV (r : Go w l R Z n0 y code ml ret pc Ls st h cells slots) (pc' : Nat) (hd : decode code pc = .ok (.invokevirtual idx, 3)) (hp : pc + 3 = pc') (M : Met l Z y' code' ml' ret' rm (.ref a :: as) h n0 Q) (E : Exa Z h a y'.cls) (w1 : (Cond.methodLink y.cls idx y').before a0 Z = true) (wd : (Cond.declares y').before a0 Z = true) (w2 : (Cond.instanceMethod y').before a0 Z = true) (ws : (Cond.selects y'.cls y' y').before a0 Z = true) (w3 : (Cond.initialized y'.cls).before a0 Z = true) (w4 : (Cond.code y' code' ml' ret').before a0 Z = true)
    (hpd : parseMethodDescriptor y'.desc = some ⟨ps, rt⟩) (hlen : as.length = ps.length) (hst : st = as.reverse ++ .ref a :: rest) (hLs : Ls.length = ml) (hy : y'.cls ≠ "java/lang/invoke/MethodHandle" ∧ y'.cls ≠ "java/lang/invoke/VarHandle") (hf : rm.frames + 1 ≤ R.frames) (hl : wt rest + (ml' + 11) + rm.locals ≤ R.locals) (hc : cells + rm.cells ≤ R.cells) (hs : slots + rm.slots ≤ R.slots) :
    ∃ v h', Q v h' ∧ Go w l R Z n0 y code ml ret pc' Ls (v.toList ++ rest) h' (cells + rm.cells) (slots + rm.slots) := by
  subst hp hst
  obtain ⟨S, T, locs, X, e, N, k⟩ := r
  obtain ⟨cq, kq, qa, qb, qc⟩ := isOf S.2.1 e E
  obtain ⟨v, _, ⟨T', L', k', n'⟩, -, X', ⟨Lc, hQ, l', y2, z2⟩, q⟩ := X.virtualBack S.1 (y := y') (z := y') S.2.2.1 (mvT S.2.1 w1) (mvT S.2.1 wd) (notFace_of_selects (args := #[]) (mvT S.2.1 ws)) (mvT S.2.1 ws) (mvT S.2.1 w2) hy (backOf (W := wt rest) (Q := fun v h L => Q v h ∧ Fr n0 L) (M []) S.2.1 w4 w3 hf hl) qa qc (g := mkF w.m pc Ls.toArray (as.reverse ++ .ref a :: rest)) rfl (by rw [S.2.2.2.2.1]; simpa using hLs) (Steps.refl _) (argsL := as) (rest := rest) (lenOf hpd hlen) rfl (by show 2 * 0 + _ ≤ _; simp [wt]) (hb S.2.2.2.1 hd) (fun _ _ => ⟨rfl, e, hc, hs⟩)
  dsimp only [Pt.U, Pt.locs, Pt.cells, Pt.slots] at X' l' y2 z2 q hQ
  subst l' y2 z2
  exact ⟨v, T'.heap, hQ.1, S, T', _, X', rfl, N.app hQ.2, fun t z => k t (q.trans z)⟩
theorem Go.callP {kk : Nat} (r : Go w l R Z n0 y code ml ret pc Ls st h cells slots) (pc' : Nat) (hd : decode code pc = .ok (.invokevirtual idx, 3)) (hp : pc + 3 = pc') (M : Met l Z y' code' ml' ret' rm (.ref a :: as) h n0 Q) (E : Exa Z h a y'.cls) (w1 : (Cond.methodLink y.cls idx y').before a0 Z = true) (w2 : (Cond.instanceMethod y').before a0 Z = true) (wp : (Cond.privateMethod y').before a0 Z = true) (w3 : (Cond.initialized y'.cls).before a0 Z = true) (wi : (Cond.instantiable y'.cls kk).before a0 Z = true) (w4 : (Cond.code y' code' ml' ret').before a0 Z = true)
    (hpd : parseMethodDescriptor y'.desc = some ⟨ps, rt⟩) (hlen : as.length = ps.length) (hst : st = as.reverse ++ .ref a :: rest) (hLs : Ls.length = ml) (hy : y'.cls ≠ "java/lang/invoke/MethodHandle" ∧ y'.cls ≠ "java/lang/invoke/VarHandle") (hf : rm.frames + 1 ≤ R.frames) (hl : wt rest + (ml' + 11) + rm.locals ≤ R.locals) (hc : cells + rm.cells ≤ R.cells) (hs : slots + rm.slots ≤ R.slots) :
    ∃ v h', Q v h' ∧ Go w l R Z n0 y code ml ret pc' Ls (v.toList ++ rest) h' (cells + rm.cells) (slots + rm.slots) := by
  subst hp hst
  obtain ⟨S, T, locs, X, e, N, k⟩ := r
  obtain ⟨cq, q1, q2⟩ := E.cell
  obtain ⟨c1, k1, b1, b2, -, b3, -, -⟩ := Cond.instantiable_spec (show (Cond.instantiable y'.cls kk).before w.args w.s = true from mvT S.2.1 wi)
  have hsel : (Cond.selects y'.cls y' y').before w.args w.s = true := selects_self_of_private b1 b2 (Bool.or_eq_false_iff.mp b3).1 (Cond.privateMethod_at (mvP S.2.1 wp (args := w.args))) (mvT S.2.1 w2) hy
  obtain ⟨v, _, ⟨T', L', k', n'⟩, -, X', ⟨Lc, hQ, l', y2, z2⟩, q⟩ := X.privateBack S.1 (y := y') S.2.2.1 (mvT S.2.1 w1) (mvT S.2.1 w2) hsel (Cond.privateMethod_at (mvP S.2.1 wp (args := w.args))) (mvT S.2.1 w4) hy (backOf (W := wt rest) (Q := fun v h L => Q v h ∧ Fr n0 L) (M []) S.2.1 w4 w3 hf hl) (g := mkF w.m pc Ls.toArray (as.reverse ++ .ref a :: rest)) rfl (by rw [S.2.2.2.2.1]; simpa using hLs) (Steps.refl _) (a := a) (by rw [e]; exact q1) q2 (argsL := as) (rest := rest) (lenOf hpd hlen) rfl (by show 2 * 0 + _ ≤ _; simp [wt]) (hb S.2.2.2.1 hd) (fun _ _ => ⟨rfl, e, hc, hs⟩)
  dsimp only [Pt.U, Pt.locs, Pt.cells, Pt.slots] at X' l' y2 z2 q hQ
  subst l' y2 z2
  exact ⟨v, T'.heap, hQ.1, S, T', _, X', rfl, N.app hQ.2, fun t z => k t (q.trans z)⟩
/-- System.arraycopy between two arrays of one primitive kind, from the first place of both -/
theorem Go.acopy {nn : Int32} {vd : List Value} (r : Go w l R Z n0 y code ml ret pc Ls (.int nn :: .int 0 :: .ref b :: .int 0 :: .ref a :: st) h cells slots) (pc' : Nat) (hd : decode code pc = .ok (.invokestatic idx, 3)) (hp : pc + 3 = pc') (w1 : (Cond.methodLink y.cls idx Jvm.Stand.acN).before a0 Z = true) (w2 : (Cond.native Jvm.Stand.acN).before a0 Z = true) (w3 : (Cond.static Jvm.Stand.acN).before a0 Z = true) (w4 : (Cond.initialized "java/lang/System").before a0 Z = true)
    (A : Ary Z h a ty vs) (B : Ary Z h b ty vd) (hty : refKind ty = false) (hn : ¬ nn < 0) (h4 : nn.toNatClampNeg ≤ vs.length) (h5 : nn.toNatClampNeg ≤ vd.length) (g0 : n0 ≤ b) (hLs : Ls.length = ml) (hf : 1 ≤ R.frames) (hl : wt st + (nativeFrameWords "java/lang/System" "arraycopy" 5 + 11) ≤ R.locals) :
    ∃ h', Keep h h' [b] ∧ Ary Z h' b ty (vs.take nn.toNatClampNeg ++ vd.drop nn.toNatClampNeg) ∧ Go w l R Z n0 y code ml ret pc' Ls st h' cells slots := by
  subst hp
  obtain ⟨S, T, locs, X, e, N, k⟩ := r
  obtain ⟨ka, da, Va, za⟩ := A
  obtain ⟨kb, db, Vb, zb⟩ := B
  have z0 : (0 : Int32).toNatClampNeg = 0 := rfl
  obtain ⟨T', h', L, X', e', N', K, V, q⟩ := cpA X S.1 S.2.1 S.2.2.1 w1 w2 w3 w4 e (us := vs.take nn.toNatClampNeg) Va Vb (Or.inl ⟨rfl, hty⟩) (sp := 0) (dp := 0) (nn := nn) (by decide) (by decide) hn (by rw [len_nat za, z0]; omega) (by rw [len_nat zb, z0]; omega)
    (by
      rw [z0]
      apply List.ext_getElem?
      intro i
      by_cases hi : i < nn.toNatClampNeg
      · rw [List.getElem?_take_of_lt hi, List.getElem?_map, List.getElem?_range hi]
        simp only [Option.map_some, Nat.zero_add, List.getD_eq_getElem?_getD]
        rw [List.getElem?_eq_getElem (by omega)]; rfl
      · rw [List.getElem?_eq_none (by simp; omega), List.getElem?_eq_none (by simp; omega)])
    (by rw [z0]; omega) N g0 (g := mkF w.m pc Ls.toArray (.int nn :: .int 0 :: .ref b :: .int 0 :: .ref a :: st)) rfl (by rw [S.2.2.2.2.1]; simpa using hLs) rfl (hb S.2.2.2.1 hd) hf (W := wt st) (by show 2 * 0 + _ ≤ _; simp [wt]) hl
  refine ⟨h', K, ⟨kb, db, ?_, ?_⟩, S, T', L, X', e', N', fun t z => k t (q t z)⟩
  · have hlen : (vs.take nn.toNatClampNeg ++ vd.drop nn.toNatClampNeg).length = vd.length := by simp; omega
    rw [hlen]
    rw [z0] at V
    simpa using V
  · have hlen : (vs.take nn.toNatClampNeg ++ vd.drop nn.toNatClampNeg).length = vd.length := by simp; omega
    rw [hlen]; exact zb
/-! returning -/
theorem Go.retV (r : Go w l R Z n0 y code ml none pc Ls [] h cells slots) (hd : decode code pc = .ok (.return_, 1)) {Q : Heap → Prop} (q : Q h) {C S : Nat} (hc : cells ≤ C) (hs : slots ≤ S) : Fini w n0 (Ret0 Q) C S := by
  obtain ⟨S, T, locs, X, e, N, k⟩ := r
  obtain ⟨fs, hr, hrun, hended, hW, hsame⟩ := X.leave (v := none) (fun _ => rfl) S.2.2.2.2.2.2.1
  exact ⟨_, _, k _ (X.returnOut S.1 S.2.2.2.2.2.1 (hb S.2.2.2.1 hd) hr), hrun, hended, _, _, rfl, ⟨⟨rfl, by show Q T.heap; rw [e]; exact q⟩, N⟩, ⟨_, rfl⟩, hW, hsame.mono hc hs⟩
theorem Go.retI {z : Int32} (r : Go w l R Z n0 y code ml (some .int) pc Ls (.int z :: st) h cells slots) (hd : decode code pc = .ok (.ireturn, 1)) {Q : Value → Heap → Prop} (q : Q (.int z) h) {C S : Nat} (hc : cells ≤ C) (hs : slots ≤ S) : Fini w n0 (Ret Q) C S := by
  obtain ⟨S, T, locs, X, e, N, k⟩ := r
  obtain ⟨fs, hr, hrun, hended, hW, hsame⟩ := X.leave (v := some (.int z)) (fun h => by rw [S.2.2.2.2.2.1] at h; cases h) S.2.2.2.2.2.2.1
  exact ⟨_, _, k _ (retOut X S.1 S.2.2.2.2.2.1 rfl (Or.inl ⟨rfl, Or.inl rfl, z, rfl⟩) (hb S.2.2.2.1 hd) hr), hrun, hended, _, _, rfl, ⟨⟨_, rfl, by show Q _ T.heap; rw [e]; exact q⟩, N⟩, ⟨_, rfl⟩, hW, hsame.mono hc hs⟩
theorem Go.retN {t : FieldType} {z z' : Int32} (r : Go w l R Z n0 y code ml (some t) pc Ls (.int z :: st) h cells slots) (hd : decode code pc = .ok (.ireturn, 1)) (ht : t = .boolean ∨ t = .byte ∨ t = .char ∨ t = .short) (hz : nar t z = z') {Q : Value → Heap → Prop} (q : Q (.int z') h) {C S : Nat} (hc : cells ≤ C) (hs : slots ≤ S) : Fini w n0 (Ret Q) C S := by
  subst hz
  obtain ⟨S, T, locs, X, e, N, k⟩ := r
  obtain ⟨fs, hr, hrun, hended, hW, hsame⟩ := X.leave (v := some (.int (nar t z))) (fun h => by rw [S.2.2.2.2.2.1] at h; cases h) S.2.2.2.2.2.2.1
  exact ⟨_, _, k _ (Jvm.RoadKit.retN X S.1 S.2.2.2.2.2.1 ht (hb S.2.2.2.1 hd) hr), hrun, hended, _, _, rfl, ⟨⟨_, rfl, by show Q _ T.heap; rw [e]; exact q⟩, N⟩, ⟨_, rfl⟩, hW, hsame.mono hc hs⟩
theorem Go.retL {z : Int64} (r : Go w l R Z n0 y code ml (some .long) pc Ls (.long z :: st) h cells slots) (hd : decode code pc = .ok (.lreturn, 1)) {Q : Value → Heap → Prop} (q : Q (.long z) h) {C S : Nat} (hc : cells ≤ C) (hs : slots ≤ S) : Fini w n0 (Ret Q) C S := by
  obtain ⟨S, T, locs, X, e, N, k⟩ := r
  obtain ⟨fs, hr, hrun, hended, hW, hsame⟩ := X.leave (v := some (.long z)) (fun h => by rw [S.2.2.2.2.2.1] at h; cases h) S.2.2.2.2.2.2.1
  exact ⟨_, _, k _ (retOut X S.1 S.2.2.2.2.2.1 rfl (Or.inr (Or.inl ⟨rfl, rfl, z, rfl⟩)) (hb S.2.2.2.1 hd) hr), hrun, hended, _, _, rfl, ⟨⟨_, rfl, by show Q _ T.heap; rw [e]; exact q⟩, N⟩, ⟨_, rfl⟩, hW, hsame.mono hc hs⟩
theorem Go.retA {t : FieldType} (r : Go w l R Z n0 y code ml (some t) pc Ls (.ref a :: st) h cells slots) (hd : decode code pc = .ok (.areturn, 1)) (ht : t.isReference = true) (hn : narrow t (.ref a) = .ref a) {Q : Value → Heap → Prop} (q : Q (.ref a) h) {C S : Nat} (hc : cells ≤ C) (hs : slots ≤ S) : Fini w n0 (Ret Q) C S := by
  obtain ⟨S, T, locs, X, e, N, k⟩ := r
  obtain ⟨fs, hr, hrun, hended, hW, hsame⟩ := X.leave (v := some (.ref a)) (fun h => by rw [S.2.2.2.2.2.1] at h; cases h) S.2.2.2.2.2.2.1
  exact ⟨_, _, k _ (retOut X S.1 S.2.2.2.2.2.1 hn (Or.inr (Or.inr (Or.inr (Or.inr ⟨rfl, ht, rfl⟩)))) (hb S.2.2.2.1 hd) hr), hrun, hended, _, _, rfl, ⟨⟨_, rfl, by show Q _ T.heap; rw [e]; exact q⟩, N⟩, ⟨_, rfl⟩, hW, hsame.mono hc hs⟩
/-! small numbers -/
theorem nlt {a b : Nat} (ha : a < 2 ^ 31) (hb : b < 2 ^ 31) : Int32.ofNat a < Int32.ofNat b ↔ a < b := by
  rw [Int32.lt_iff_toInt_lt, Int32.toInt_ofNat_small ha, Int32.toInt_ofNat_small hb]; omega
theorem nadd (a b : Nat) : Int32.ofNat a + Int32.ofNat b = Int32.ofNat (a + b) := (Int32.ofNat_add a b).symm
theorem nadd1 (a : Nat) : Int32.ofNat a + 1 = Int32.ofNat (a + 1) := nadd a 1
theorem nsub {a b : Nat} (h : b ≤ a) : Int32.ofNat a - Int32.ofNat b = Int32.ofNat (a - b) := (Int32.ofNat_sub a b h).symm
theorem neqn {a b : Nat} (ha : a < 2 ^ 31) (hb : b < 2 ^ 31) : Int32.ofNat a = Int32.ofNat b ↔ a = b := by
  rw [← Int32.toInt_inj, Int32.toInt_ofNat_small ha, Int32.toInt_ofNat_small hb]; omega
theorem get_long {os : List Int64} {j : Nat} (hj : j < os.length) : (os.map Value.long)[j]? = some (.long (os.getD j 0)) := by
  rw [List.getElem?_map, List.getD_eq_getElem?_getD, List.getElem?_eq_getElem hj]; rfl
theorem get_int {os : List Int32} {j : Nat} (hj : j < os.length) : (os.map Value.int)[j]? = some (.int (os.getD j 0)) := by
  rw [List.getElem?_map, List.getD_eq_getElem?_getD, List.getElem?_eq_getElem hj]; rfl
end Walk
end Jvm.OwnKit
namespace Jvm.Pilot.@@N@@
open Jvm Jvm.ClassFile Sem Op Lib Jvm.Free Jvm.Stand Jvm.LawKit Jvm.RoadKit Bundle Jvm.OwnKit Jvm.Pilot.@@N@@.Jvm.D
abbrev Ws (Z : State) (a0 : Array Value) : Prop := ∀ d ∈ tables_1, d.before a0 Z = true
theorem wd_0 {Z : State} {a0 : Array Value} (hw : Ws Z a0) : (Jvm.Cond.arrayClass Jvm.ClassFile.FieldType.int).before a0 Z = true := hw _ (List.mem_of_getElem? (i := 0) rfl)
theorem wd_1 {Z : State} {a0 : Array Value} (hw : Ws Z a0) : (Jvm.Cond.classLink "com/example/firehouse/firehouse/GraphDegreePinLaw" (7 : Nat) "com/example/firehouse/firehouse/Graph").before a0 Z = true := hw _ (List.mem_of_getElem? (i := 1) rfl)
theorem wd_2 {Z : State} {a0 : Array Value} (hw : Ws Z a0) : (Jvm.Cond.instantiable "com/example/firehouse/firehouse/Graph" (6 : Nat)).before a0 Z = true := hw _ (List.mem_of_getElem? (i := 2) rfl)
theorem wd_3 {Z : State} {a0 : Array Value} (hw : Ws Z a0) : (Jvm.Cond.initialized "com/example/firehouse/firehouse/Graph").before a0 Z = true := hw _ (List.mem_of_getElem? (i := 3) rfl)
theorem wd_4 {Z : State} {a0 : Array Value} (hw : Ws Z a0) : (Jvm.Cond.arrayClass Jvm.ClassFile.FieldType.long).before a0 Z = true := hw _ (List.mem_of_getElem? (i := 4) rfl)
theorem wd_5 {Z : State} {a0 : Array Value} (hw : Ws Z a0) : (Jvm.Cond.constantLong "com/example/firehouse/firehouse/GraphDegreePinLaw" (9 : Nat) (10 : Int64)).before a0 Z = true := hw _ (List.mem_of_getElem? (i := 5) rfl)
theorem wd_6 {Z : State} {a0 : Array Value} (hw : Ws Z a0) : (Jvm.Cond.constantLong "com/example/firehouse/firehouse/GraphDegreePinLaw" (11 : Nat) (20 : Int64)).before a0 Z = true := hw _ (List.mem_of_getElem? (i := 6) rfl)
theorem wd_7 {Z : State} {a0 : Array Value} (hw : Ws Z a0) : (Jvm.Cond.constantLong "com/example/firehouse/firehouse/GraphDegreePinLaw" (13 : Nat) (30 : Int64)).before a0 Z = true := hw _ (List.mem_of_getElem? (i := 7) rfl)
theorem wd_8 {Z : State} {a0 : Array Value} (hw : Ws Z a0) : (Jvm.Cond.constantLong "com/example/firehouse/firehouse/GraphDegreePinLaw" (15 : Nat) (40 : Int64)).before a0 Z = true := hw _ (List.mem_of_getElem? (i := 8) rfl)
theorem wd_9 {Z : State} {a0 : Array Value} (hw : Ws Z a0) : (Jvm.Cond.methodLink "com/example/firehouse/firehouse/GraphDegreePinLaw" (17 : Nat) ({ cls := "com/example/firehouse/firehouse/Graph", name := "<init>", desc := "([J[I[IJJ)V" } : Jvm.MethodName)).before a0 Z = true := hw _ (List.mem_of_getElem? (i := 9) rfl)
theorem wd_10 {Z : State} {a0 : Array Value} (hw : Ws Z a0) : (Jvm.Cond.instanceMethod ({ cls := "com/example/firehouse/firehouse/Graph", name := "<init>", desc := "([J[I[IJJ)V" } : Jvm.MethodName)).before a0 Z = true := hw _ (List.mem_of_getElem? (i := 10) rfl)
theorem wd_11 {Z : State} {a0 : Array Value} (hw : Ws Z a0) : (Jvm.Cond.code ({ cls := "com/example/firehouse/firehouse/Graph", name := "<init>", desc := "([J[I[IJJ)V" } : Jvm.MethodName) prog_16_method_1_code (8 : Nat) (Option.none : Option Jvm.ClassFile.FieldType)).before a0 Z = true := hw _ (List.mem_of_getElem? (i := 11) rfl)
theorem wd_12 {Z : State} {a0 : Array Value} (hw : Ws Z a0) : (Jvm.Cond.methodLink "com/example/firehouse/firehouse/Graph" (1 : Nat) ({ cls := "java/lang/Object", name := "<init>", desc := "()V" } : Jvm.MethodName)).before a0 Z = true := hw _ (List.mem_of_getElem? (i := 12) rfl)
theorem wd_13 {Z : State} {a0 : Array Value} (hw : Ws Z a0) : (Jvm.Cond.instanceMethod ({ cls := "java/lang/Object", name := "<init>", desc := "()V" } : Jvm.MethodName)).before a0 Z = true := hw _ (List.mem_of_getElem? (i := 13) rfl)
theorem wd_14 {Z : State} {a0 : Array Value} (hw : Ws Z a0) : (Jvm.Cond.code ({ cls := "java/lang/Object", name := "<init>", desc := "()V" } : Jvm.MethodName) object_method_1_code (1 : Nat) (Option.none : Option Jvm.ClassFile.FieldType)).before a0 Z = true := hw _ (List.mem_of_getElem? (i := 14) rfl)
theorem wd_15 {Z : State} {a0 : Array Value} (hw : Ws Z a0) : (Jvm.Cond.fieldLink "com/example/firehouse/firehouse/Graph" (7 : Nat) "com/example/firehouse/firehouse/Graph" "componentCount" "I").before a0 Z = true := hw _ (List.mem_of_getElem? (i := 15) rfl)
theorem wd_16 {Z : State} {a0 : Array Value} (hw : Ws Z a0) : (Jvm.Cond.lays "com/example/firehouse/firehouse/Graph" "com/example/firehouse/firehouse/Graph" "componentCount" "I").before a0 Z = true := hw _ (List.mem_of_getElem? (i := 16) rfl)
theorem wd_17 {Z : State} {a0 : Array Value} (hw : Ws Z a0) : (Jvm.Cond.fieldLink "com/example/firehouse/firehouse/Graph" (13 : Nat) "com/example/firehouse/firehouse/Graph" "ids" "[J").before a0 Z = true := hw _ (List.mem_of_getElem? (i := 17) rfl)
theorem wd_18 {Z : State} {a0 : Array Value} (hw : Ws Z a0) : (Jvm.Cond.laysFinal "com/example/firehouse/firehouse/Graph" "com/example/firehouse/firehouse/Graph" "ids" "[J").before a0 Z = true := hw _ (List.mem_of_getElem? (i := 18) rfl)
theorem wd_19 {Z : State} {a0 : Array Value} (hw : Ws Z a0) : (Jvm.Cond.fieldLink "com/example/firehouse/firehouse/Graph" (17 : Nat) "com/example/firehouse/firehouse/Graph" "offsets" "[I").before a0 Z = true := hw _ (List.mem_of_getElem? (i := 19) rfl)
theorem wd_20 {Z : State} {a0 : Array Value} (hw : Ws Z a0) : (Jvm.Cond.laysFinal "com/example/firehouse/firehouse/Graph" "com/example/firehouse/firehouse/Graph" "offsets" "[I").before a0 Z = true := hw _ (List.mem_of_getElem? (i := 20) rfl)
theorem wd_21 {Z : State} {a0 : Array Value} (hw : Ws Z a0) : (Jvm.Cond.fieldLink "com/example/firehouse/firehouse/Graph" (21 : Nat) "com/example/firehouse/firehouse/Graph" "neighbours" "[I").before a0 Z = true := hw _ (List.mem_of_getElem? (i := 21) rfl)
theorem wd_22 {Z : State} {a0 : Array Value} (hw : Ws Z a0) : (Jvm.Cond.laysFinal "com/example/firehouse/firehouse/Graph" "com/example/firehouse/firehouse/Graph" "neighbours" "[I").before a0 Z = true := hw _ (List.mem_of_getElem? (i := 22) rfl)
theorem wd_23 {Z : State} {a0 : Array Value} (hw : Ws Z a0) : (Jvm.Cond.fieldLink "com/example/firehouse/firehouse/Graph" (24 : Nat) "com/example/firehouse/firehouse/Graph" "selfLoopsDropped" "J").before a0 Z = true := hw _ (List.mem_of_getElem? (i := 23) rfl)
theorem wd_24 {Z : State} {a0 : Array Value} (hw : Ws Z a0) : (Jvm.Cond.laysFinal "com/example/firehouse/firehouse/Graph" "com/example/firehouse/firehouse/Graph" "selfLoopsDropped" "J").before a0 Z = true := hw _ (List.mem_of_getElem? (i := 24) rfl)
theorem wd_25 {Z : State} {a0 : Array Value} (hw : Ws Z a0) : (Jvm.Cond.fieldLink "com/example/firehouse/firehouse/Graph" (28 : Nat) "com/example/firehouse/firehouse/Graph" "repeatedEdgesMerged" "J").before a0 Z = true := hw _ (List.mem_of_getElem? (i := 25) rfl)
theorem wd_26 {Z : State} {a0 : Array Value} (hw : Ws Z a0) : (Jvm.Cond.laysFinal "com/example/firehouse/firehouse/Graph" "com/example/firehouse/firehouse/Graph" "repeatedEdgesMerged" "J").before a0 Z = true := hw _ (List.mem_of_getElem? (i := 26) rfl)
theorem wd_27 {Z : State} {a0 : Array Value} (hw : Ws Z a0) : (Jvm.Cond.methodLink "com/example/firehouse/firehouse/GraphDegreePinLaw" (20 : Nat) ({ cls := "com/example/firehouse/firehouse/Graph", name := "degree", desc := "(I)I" } : Jvm.MethodName)).before a0 Z = true := hw _ (List.mem_of_getElem? (i := 27) rfl)
theorem wd_28 {Z : State} {a0 : Array Value} (hw : Ws Z a0) : (Jvm.Cond.declares ({ cls := "com/example/firehouse/firehouse/Graph", name := "degree", desc := "(I)I" } : Jvm.MethodName)).before a0 Z = true := hw _ (List.mem_of_getElem? (i := 28) rfl)
theorem wd_29 {Z : State} {a0 : Array Value} (hw : Ws Z a0) : (Jvm.Cond.instanceMethod ({ cls := "com/example/firehouse/firehouse/Graph", name := "degree", desc := "(I)I" } : Jvm.MethodName)).before a0 Z = true := hw _ (List.mem_of_getElem? (i := 29) rfl)
theorem wd_30 {Z : State} {a0 : Array Value} (hw : Ws Z a0) : (Jvm.Cond.selects "com/example/firehouse/firehouse/Graph" ({ cls := "com/example/firehouse/firehouse/Graph", name := "degree", desc := "(I)I" } : Jvm.MethodName) ({ cls := "com/example/firehouse/firehouse/Graph", name := "degree", desc := "(I)I" } : Jvm.MethodName)).before a0 Z = true := hw _ (List.mem_of_getElem? (i := 30) rfl)
theorem wd_31 {Z : State} {a0 : Array Value} (hw : Ws Z a0) : (Jvm.Cond.code ({ cls := "com/example/firehouse/firehouse/Graph", name := "degree", desc := "(I)I" } : Jvm.MethodName) prog_16_method_11_code (2 : Nat) (Option.some Jvm.ClassFile.FieldType.int)).before a0 Z = true := hw _ (List.mem_of_getElem? (i := 31) rfl)
theorem wd_32 {Z : State} {a0 : Array Value} (hw : Ws Z a0) : (Jvm.Cond.methodLink "com/example/firehouse/firehouse/GraphDegreePinLaw" (24 : Nat) ({ cls := "com/example/firehouse/firehouse/Graph", name := "edgeCount", desc := "()I" } : Jvm.MethodName)).before a0 Z = true := hw _ (List.mem_of_getElem? (i := 32) rfl)
theorem wd_33 {Z : State} {a0 : Array Value} (hw : Ws Z a0) : (Jvm.Cond.declares ({ cls := "com/example/firehouse/firehouse/Graph", name := "edgeCount", desc := "()I" } : Jvm.MethodName)).before a0 Z = true := hw _ (List.mem_of_getElem? (i := 33) rfl)
theorem wd_34 {Z : State} {a0 : Array Value} (hw : Ws Z a0) : (Jvm.Cond.instanceMethod ({ cls := "com/example/firehouse/firehouse/Graph", name := "edgeCount", desc := "()I" } : Jvm.MethodName)).before a0 Z = true := hw _ (List.mem_of_getElem? (i := 34) rfl)
theorem wd_35 {Z : State} {a0 : Array Value} (hw : Ws Z a0) : (Jvm.Cond.selects "com/example/firehouse/firehouse/Graph" ({ cls := "com/example/firehouse/firehouse/Graph", name := "edgeCount", desc := "()I" } : Jvm.MethodName) ({ cls := "com/example/firehouse/firehouse/Graph", name := "edgeCount", desc := "()I" } : Jvm.MethodName)).before a0 Z = true := hw _ (List.mem_of_getElem? (i := 35) rfl)
theorem wd_36 {Z : State} {a0 : Array Value} (hw : Ws Z a0) : (Jvm.Cond.code ({ cls := "com/example/firehouse/firehouse/Graph", name := "edgeCount", desc := "()I" } : Jvm.MethodName) prog_16_method_3_code (1 : Nat) (Option.some Jvm.ClassFile.FieldType.int)).before a0 Z = true := hw _ (List.mem_of_getElem? (i := 36) rfl)
abbrev Y0 : MethodName := x
abbrev Y1 : MethodName := ⟨"com/example/firehouse/firehouse/Graph", "<init>", "([J[I[IJJ)V"⟩
theorem d1_0 : decode prog_16_method_1_code 0 = .ok (.aload_n 0, 1) := by decide +kernel
theorem d1_1 : decode prog_16_method_1_code 1 = .ok (.invokespecial 1, 3) := by decide +kernel
theorem d1_4 : decode prog_16_method_1_code 4 = .ok (.aload_n 0, 1) := by decide +kernel
theorem d1_5 : decode prog_16_method_1_code 5 = .ok (.iconst (-1), 1) := by decide +kernel
theorem d1_6 : decode prog_16_method_1_code 6 = .ok (.putfield 7, 3) := by decide +kernel
theorem d1_9 : decode prog_16_method_1_code 9 = .ok (.aload_n 0, 1) := by decide +kernel
theorem d1_10 : decode prog_16_method_1_code 10 = .ok (.aload_n 1, 1) := by decide +kernel
theorem d1_11 : decode prog_16_method_1_code 11 = .ok (.putfield 13, 3) := by decide +kernel
theorem d1_14 : decode prog_16_method_1_code 14 = .ok (.aload_n 0, 1) := by decide +kernel
theorem d1_15 : decode prog_16_method_1_code 15 = .ok (.aload_n 2, 1) := by decide +kernel
theorem d1_16 : decode prog_16_method_1_code 16 = .ok (.putfield 17, 3) := by decide +kernel
theorem d1_19 : decode prog_16_method_1_code 19 = .ok (.aload_n 0, 1) := by decide +kernel
theorem d1_20 : decode prog_16_method_1_code 20 = .ok (.aload_n 3, 1) := by decide +kernel
theorem d1_21 : decode prog_16_method_1_code 21 = .ok (.putfield 21, 3) := by decide +kernel
theorem d1_24 : decode prog_16_method_1_code 24 = .ok (.aload_n 0, 1) := by decide +kernel
theorem d1_25 : decode prog_16_method_1_code 25 = .ok (.lload 4, 2) := by decide +kernel
theorem d1_27 : decode prog_16_method_1_code 27 = .ok (.putfield 24, 3) := by decide +kernel
theorem d1_30 : decode prog_16_method_1_code 30 = .ok (.aload_n 0, 1) := by decide +kernel
theorem d1_31 : decode prog_16_method_1_code 31 = .ok (.lload 6, 2) := by decide +kernel
theorem d1_33 : decode prog_16_method_1_code 33 = .ok (.putfield 28, 3) := by decide +kernel
theorem d1_36 : decode prog_16_method_1_code 36 = .ok (.return_, 1) := by decide +kernel
theorem pd_1 : parseMethodDescriptor "([J[I[IJJ)V" = some ⟨[(.array .long), (.array .int), (.array .int), .long, .long], none⟩ := by decide +kernel
abbrev Y2 : MethodName := ⟨"java/lang/Object", "<init>", "()V"⟩
abbrev Y3 : MethodName := ⟨"com/example/firehouse/firehouse/Graph", "degree", "(I)I"⟩
theorem d3_0 : decode prog_16_method_11_code 0 = .ok (.aload_n 0, 1) := by decide +kernel
theorem d3_1 : decode prog_16_method_11_code 1 = .ok (.getfield 17, 3) := by decide +kernel
theorem d3_4 : decode prog_16_method_11_code 4 = .ok (.iload_n 1, 1) := by decide +kernel
theorem d3_5 : decode prog_16_method_11_code 5 = .ok (.iconst 1, 1) := by decide +kernel
theorem d3_6 : decode prog_16_method_11_code 6 = .ok (.iadd, 1) := by decide +kernel
theorem d3_7 : decode prog_16_method_11_code 7 = .ok (.iaload, 1) := by decide +kernel
theorem d3_8 : decode prog_16_method_11_code 8 = .ok (.aload_n 0, 1) := by decide +kernel
theorem d3_9 : decode prog_16_method_11_code 9 = .ok (.getfield 17, 3) := by decide +kernel
theorem d3_12 : decode prog_16_method_11_code 12 = .ok (.iload_n 1, 1) := by decide +kernel
theorem d3_13 : decode prog_16_method_11_code 13 = .ok (.iaload, 1) := by decide +kernel
theorem d3_14 : decode prog_16_method_11_code 14 = .ok (.isub, 1) := by decide +kernel
theorem d3_15 : decode prog_16_method_11_code 15 = .ok (.ireturn, 1) := by decide +kernel
theorem pd_3 : parseMethodDescriptor "(I)I" = some ⟨[.int], some .int⟩ := by decide +kernel
abbrev Y4 : MethodName := ⟨"com/example/firehouse/firehouse/Graph", "edgeCount", "()I"⟩
theorem d4_0 : decode prog_16_method_3_code 0 = .ok (.aload_n 0, 1) := by decide +kernel
theorem d4_1 : decode prog_16_method_3_code 1 = .ok (.getfield 21, 3) := by decide +kernel
theorem d4_4 : decode prog_16_method_3_code 4 = .ok (.arraylength, 1) := by decide +kernel
theorem d4_5 : decode prog_16_method_3_code 5 = .ok (.iconst 2, 1) := by decide +kernel
theorem d4_6 : decode prog_16_method_3_code 6 = .ok (.idiv, 1) := by decide +kernel
theorem d4_7 : decode prog_16_method_3_code 7 = .ok (.ireturn, 1) := by decide +kernel
theorem pd_4 : parseMethodDescriptor "()I" = some ⟨[], some .int⟩ := by decide +kernel
theorem pl_0 : plainFor Y0 = true := plainFor_of_name (show plainName "com/example/firehouse/firehouse/GraphDegreePinLaw" = true by first | (simp [plainName, overriddenIn]; done) | decide +kernel)
theorem pl_1 : plainFor Y1 = true := plainFor_of_name (show plainName "com/example/firehouse/firehouse/Graph" = true by first | (simp [plainName, overriddenIn]; done) | decide +kernel)
theorem pl_3 : plainFor Y3 = true := plainFor_of_name (show plainName "com/example/firehouse/firehouse/Graph" = true by first | (simp [plainName, overriddenIn]; done) | decide +kernel)
theorem pl_4 : plainFor Y4 = true := plainFor_of_name (show plainName "com/example/firehouse/firehouse/Graph" = true by first | (simp [plainName, overriddenIn]; done) | decide +kernel)
theorem ic_m1 : Int32.ofInt (-1) = (-1 : Int32) := rfl
theorem ic_0 : Int32.ofInt (0) = (0 : Int32) := rfl
theorem ic_1 : Int32.ofInt (1) = (1 : Int32) := rfl
theorem ic_2 : Int32.ofInt (2) = (2 : Int32) := rfl
theorem ic_3 : Int32.ofInt (3) = (3 : Int32) := rfl
theorem ic_4 : Int32.ofInt (4) = (4 : Int32) := rfl
theorem ic_5 : Int32.ofInt (5) = (5 : Int32) := rfl
/-- Object.<init>, called from a constructor -/
theorem goInitO {w : W} {l : Launch} {R : Room} {Z : State} {n0 : Nat} {y : MethodName} {code : ByteArray} {ml : Nat} {ret : Option FieldType} {pc : Nat} {Ls : List Slot} {st : List Value} {h : Heap} {cells slots : Nat} {a : Addr} {idx : Nat} {a0 : Array Value} (r : Go w l R Z n0 y code ml ret pc Ls (.ref a :: st) h cells slots) (pc' : Nat) (hd : decode code pc = .ok (.invokespecial idx, 3)) (hp : pc + 3 = pc') (w1 : (Jvm.Cond.methodLink y.cls idx Lib.objectInit).before a0 Z = true) (w2 : (Jvm.Cond.instanceMethod Lib.objectInit).before a0 Z = true) (w3 : (Jvm.Cond.code Lib.objectInit object_method_1_code 1 none).before a0 Z = true) (hLs : Ls.length = ml) (hf : 1 ≤ R.frames) (hl : wt st + 12 ≤ R.locals) : Go w l R Z n0 y code ml ret pc' Ls st h cells slots := by
  subst hp
  obtain ⟨S, T, locs, X, e, N, k⟩ := r
  obtain ⟨T', X', e', q⟩ := Jvm.RoadKit.initO X S.1 S.2.1 S.2.2.1 w1 w2 w3 e (g := mkF w.m pc Ls.toArray (.ref a :: st)) rfl (by rw [S.2.2.2.2.1]; simpa using hLs) rfl (hb S.2.2.2.1 hd) hf (W := wt st) (by show 2 * 0 + _ ≤ _; simp [wt]) hl
  exact ⟨S, T', locs, X', e', N, fun t z => k t (q t z)⟩
theorem sn_componentCount_ids {Z : State} {a0 : Array Value} (hw : Ws Z a0) : Jvm.RoadKit.slotOf Z "com/example/firehouse/firehouse/Graph" "componentCount" "I" ≠ Jvm.RoadKit.slotOf Z "com/example/firehouse/firehouse/Graph" "ids" "[J" := slot_ne (C := "com/example/firehouse/firehouse/Graph") (Or.inl (wd_16 hw)) (Or.inr (wd_18 hw)) (by decide) (t := .int) (t' := (.array .long)) (by decide) (by decide)
theorem sn_componentCount_offsets {Z : State} {a0 : Array Value} (hw : Ws Z a0) : Jvm.RoadKit.slotOf Z "com/example/firehouse/firehouse/Graph" "componentCount" "I" ≠ Jvm.RoadKit.slotOf Z "com/example/firehouse/firehouse/Graph" "offsets" "[I" := slot_ne (C := "com/example/firehouse/firehouse/Graph") (Or.inl (wd_16 hw)) (Or.inr (wd_20 hw)) (by decide) (t := .int) (t' := (.array .int)) (by decide) (by decide)
theorem sn_componentCount_neighbours {Z : State} {a0 : Array Value} (hw : Ws Z a0) : Jvm.RoadKit.slotOf Z "com/example/firehouse/firehouse/Graph" "componentCount" "I" ≠ Jvm.RoadKit.slotOf Z "com/example/firehouse/firehouse/Graph" "neighbours" "[I" := slot_ne (C := "com/example/firehouse/firehouse/Graph") (Or.inl (wd_16 hw)) (Or.inr (wd_22 hw)) (by decide) (t := .int) (t' := (.array .int)) (by decide) (by decide)
theorem sn_componentCount_selfLoopsDropped {Z : State} {a0 : Array Value} (hw : Ws Z a0) : Jvm.RoadKit.slotOf Z "com/example/firehouse/firehouse/Graph" "componentCount" "I" ≠ Jvm.RoadKit.slotOf Z "com/example/firehouse/firehouse/Graph" "selfLoopsDropped" "J" := slot_ne (C := "com/example/firehouse/firehouse/Graph") (Or.inl (wd_16 hw)) (Or.inr (wd_24 hw)) (by decide) (t := .int) (t' := .long) (by decide) (by decide)
theorem sn_componentCount_repeatedEdgesMerged {Z : State} {a0 : Array Value} (hw : Ws Z a0) : Jvm.RoadKit.slotOf Z "com/example/firehouse/firehouse/Graph" "componentCount" "I" ≠ Jvm.RoadKit.slotOf Z "com/example/firehouse/firehouse/Graph" "repeatedEdgesMerged" "J" := slot_ne (C := "com/example/firehouse/firehouse/Graph") (Or.inl (wd_16 hw)) (Or.inr (wd_26 hw)) (by decide) (t := .int) (t' := .long) (by decide) (by decide)
theorem sn_ids_componentCount {Z : State} {a0 : Array Value} (hw : Ws Z a0) : Jvm.RoadKit.slotOf Z "com/example/firehouse/firehouse/Graph" "ids" "[J" ≠ Jvm.RoadKit.slotOf Z "com/example/firehouse/firehouse/Graph" "componentCount" "I" := slot_ne (C := "com/example/firehouse/firehouse/Graph") (Or.inr (wd_18 hw)) (Or.inl (wd_16 hw)) (by decide) (t := (.array .long)) (t' := .int) (by decide) (by decide)
theorem sn_ids_offsets {Z : State} {a0 : Array Value} (hw : Ws Z a0) : Jvm.RoadKit.slotOf Z "com/example/firehouse/firehouse/Graph" "ids" "[J" ≠ Jvm.RoadKit.slotOf Z "com/example/firehouse/firehouse/Graph" "offsets" "[I" := slot_ne (C := "com/example/firehouse/firehouse/Graph") (Or.inr (wd_18 hw)) (Or.inr (wd_20 hw)) (by decide) (t := (.array .long)) (t' := (.array .int)) (by decide) (by decide)
theorem sn_ids_neighbours {Z : State} {a0 : Array Value} (hw : Ws Z a0) : Jvm.RoadKit.slotOf Z "com/example/firehouse/firehouse/Graph" "ids" "[J" ≠ Jvm.RoadKit.slotOf Z "com/example/firehouse/firehouse/Graph" "neighbours" "[I" := slot_ne (C := "com/example/firehouse/firehouse/Graph") (Or.inr (wd_18 hw)) (Or.inr (wd_22 hw)) (by decide) (t := (.array .long)) (t' := (.array .int)) (by decide) (by decide)
theorem sn_ids_selfLoopsDropped {Z : State} {a0 : Array Value} (hw : Ws Z a0) : Jvm.RoadKit.slotOf Z "com/example/firehouse/firehouse/Graph" "ids" "[J" ≠ Jvm.RoadKit.slotOf Z "com/example/firehouse/firehouse/Graph" "selfLoopsDropped" "J" := slot_ne (C := "com/example/firehouse/firehouse/Graph") (Or.inr (wd_18 hw)) (Or.inr (wd_24 hw)) (by decide) (t := (.array .long)) (t' := .long) (by decide) (by decide)
theorem sn_ids_repeatedEdgesMerged {Z : State} {a0 : Array Value} (hw : Ws Z a0) : Jvm.RoadKit.slotOf Z "com/example/firehouse/firehouse/Graph" "ids" "[J" ≠ Jvm.RoadKit.slotOf Z "com/example/firehouse/firehouse/Graph" "repeatedEdgesMerged" "J" := slot_ne (C := "com/example/firehouse/firehouse/Graph") (Or.inr (wd_18 hw)) (Or.inr (wd_26 hw)) (by decide) (t := (.array .long)) (t' := .long) (by decide) (by decide)
theorem sn_offsets_componentCount {Z : State} {a0 : Array Value} (hw : Ws Z a0) : Jvm.RoadKit.slotOf Z "com/example/firehouse/firehouse/Graph" "offsets" "[I" ≠ Jvm.RoadKit.slotOf Z "com/example/firehouse/firehouse/Graph" "componentCount" "I" := slot_ne (C := "com/example/firehouse/firehouse/Graph") (Or.inr (wd_20 hw)) (Or.inl (wd_16 hw)) (by decide) (t := (.array .int)) (t' := .int) (by decide) (by decide)
theorem sn_offsets_ids {Z : State} {a0 : Array Value} (hw : Ws Z a0) : Jvm.RoadKit.slotOf Z "com/example/firehouse/firehouse/Graph" "offsets" "[I" ≠ Jvm.RoadKit.slotOf Z "com/example/firehouse/firehouse/Graph" "ids" "[J" := slot_ne (C := "com/example/firehouse/firehouse/Graph") (Or.inr (wd_20 hw)) (Or.inr (wd_18 hw)) (by decide) (t := (.array .int)) (t' := (.array .long)) (by decide) (by decide)
theorem sn_offsets_neighbours {Z : State} {a0 : Array Value} (hw : Ws Z a0) : Jvm.RoadKit.slotOf Z "com/example/firehouse/firehouse/Graph" "offsets" "[I" ≠ Jvm.RoadKit.slotOf Z "com/example/firehouse/firehouse/Graph" "neighbours" "[I" := slot_ne (C := "com/example/firehouse/firehouse/Graph") (Or.inr (wd_20 hw)) (Or.inr (wd_22 hw)) (by decide) (t := (.array .int)) (t' := (.array .int)) (by decide) (by decide)
theorem sn_offsets_selfLoopsDropped {Z : State} {a0 : Array Value} (hw : Ws Z a0) : Jvm.RoadKit.slotOf Z "com/example/firehouse/firehouse/Graph" "offsets" "[I" ≠ Jvm.RoadKit.slotOf Z "com/example/firehouse/firehouse/Graph" "selfLoopsDropped" "J" := slot_ne (C := "com/example/firehouse/firehouse/Graph") (Or.inr (wd_20 hw)) (Or.inr (wd_24 hw)) (by decide) (t := (.array .int)) (t' := .long) (by decide) (by decide)
theorem sn_offsets_repeatedEdgesMerged {Z : State} {a0 : Array Value} (hw : Ws Z a0) : Jvm.RoadKit.slotOf Z "com/example/firehouse/firehouse/Graph" "offsets" "[I" ≠ Jvm.RoadKit.slotOf Z "com/example/firehouse/firehouse/Graph" "repeatedEdgesMerged" "J" := slot_ne (C := "com/example/firehouse/firehouse/Graph") (Or.inr (wd_20 hw)) (Or.inr (wd_26 hw)) (by decide) (t := (.array .int)) (t' := .long) (by decide) (by decide)
theorem sn_neighbours_componentCount {Z : State} {a0 : Array Value} (hw : Ws Z a0) : Jvm.RoadKit.slotOf Z "com/example/firehouse/firehouse/Graph" "neighbours" "[I" ≠ Jvm.RoadKit.slotOf Z "com/example/firehouse/firehouse/Graph" "componentCount" "I" := slot_ne (C := "com/example/firehouse/firehouse/Graph") (Or.inr (wd_22 hw)) (Or.inl (wd_16 hw)) (by decide) (t := (.array .int)) (t' := .int) (by decide) (by decide)
theorem sn_neighbours_ids {Z : State} {a0 : Array Value} (hw : Ws Z a0) : Jvm.RoadKit.slotOf Z "com/example/firehouse/firehouse/Graph" "neighbours" "[I" ≠ Jvm.RoadKit.slotOf Z "com/example/firehouse/firehouse/Graph" "ids" "[J" := slot_ne (C := "com/example/firehouse/firehouse/Graph") (Or.inr (wd_22 hw)) (Or.inr (wd_18 hw)) (by decide) (t := (.array .int)) (t' := (.array .long)) (by decide) (by decide)
theorem sn_neighbours_offsets {Z : State} {a0 : Array Value} (hw : Ws Z a0) : Jvm.RoadKit.slotOf Z "com/example/firehouse/firehouse/Graph" "neighbours" "[I" ≠ Jvm.RoadKit.slotOf Z "com/example/firehouse/firehouse/Graph" "offsets" "[I" := slot_ne (C := "com/example/firehouse/firehouse/Graph") (Or.inr (wd_22 hw)) (Or.inr (wd_20 hw)) (by decide) (t := (.array .int)) (t' := (.array .int)) (by decide) (by decide)
theorem sn_neighbours_selfLoopsDropped {Z : State} {a0 : Array Value} (hw : Ws Z a0) : Jvm.RoadKit.slotOf Z "com/example/firehouse/firehouse/Graph" "neighbours" "[I" ≠ Jvm.RoadKit.slotOf Z "com/example/firehouse/firehouse/Graph" "selfLoopsDropped" "J" := slot_ne (C := "com/example/firehouse/firehouse/Graph") (Or.inr (wd_22 hw)) (Or.inr (wd_24 hw)) (by decide) (t := (.array .int)) (t' := .long) (by decide) (by decide)
theorem sn_neighbours_repeatedEdgesMerged {Z : State} {a0 : Array Value} (hw : Ws Z a0) : Jvm.RoadKit.slotOf Z "com/example/firehouse/firehouse/Graph" "neighbours" "[I" ≠ Jvm.RoadKit.slotOf Z "com/example/firehouse/firehouse/Graph" "repeatedEdgesMerged" "J" := slot_ne (C := "com/example/firehouse/firehouse/Graph") (Or.inr (wd_22 hw)) (Or.inr (wd_26 hw)) (by decide) (t := (.array .int)) (t' := .long) (by decide) (by decide)
theorem sn_selfLoopsDropped_componentCount {Z : State} {a0 : Array Value} (hw : Ws Z a0) : Jvm.RoadKit.slotOf Z "com/example/firehouse/firehouse/Graph" "selfLoopsDropped" "J" ≠ Jvm.RoadKit.slotOf Z "com/example/firehouse/firehouse/Graph" "componentCount" "I" := slot_ne (C := "com/example/firehouse/firehouse/Graph") (Or.inr (wd_24 hw)) (Or.inl (wd_16 hw)) (by decide) (t := .long) (t' := .int) (by decide) (by decide)
theorem sn_selfLoopsDropped_ids {Z : State} {a0 : Array Value} (hw : Ws Z a0) : Jvm.RoadKit.slotOf Z "com/example/firehouse/firehouse/Graph" "selfLoopsDropped" "J" ≠ Jvm.RoadKit.slotOf Z "com/example/firehouse/firehouse/Graph" "ids" "[J" := slot_ne (C := "com/example/firehouse/firehouse/Graph") (Or.inr (wd_24 hw)) (Or.inr (wd_18 hw)) (by decide) (t := .long) (t' := (.array .long)) (by decide) (by decide)
theorem sn_selfLoopsDropped_offsets {Z : State} {a0 : Array Value} (hw : Ws Z a0) : Jvm.RoadKit.slotOf Z "com/example/firehouse/firehouse/Graph" "selfLoopsDropped" "J" ≠ Jvm.RoadKit.slotOf Z "com/example/firehouse/firehouse/Graph" "offsets" "[I" := slot_ne (C := "com/example/firehouse/firehouse/Graph") (Or.inr (wd_24 hw)) (Or.inr (wd_20 hw)) (by decide) (t := .long) (t' := (.array .int)) (by decide) (by decide)
theorem sn_selfLoopsDropped_neighbours {Z : State} {a0 : Array Value} (hw : Ws Z a0) : Jvm.RoadKit.slotOf Z "com/example/firehouse/firehouse/Graph" "selfLoopsDropped" "J" ≠ Jvm.RoadKit.slotOf Z "com/example/firehouse/firehouse/Graph" "neighbours" "[I" := slot_ne (C := "com/example/firehouse/firehouse/Graph") (Or.inr (wd_24 hw)) (Or.inr (wd_22 hw)) (by decide) (t := .long) (t' := (.array .int)) (by decide) (by decide)
theorem sn_selfLoopsDropped_repeatedEdgesMerged {Z : State} {a0 : Array Value} (hw : Ws Z a0) : Jvm.RoadKit.slotOf Z "com/example/firehouse/firehouse/Graph" "selfLoopsDropped" "J" ≠ Jvm.RoadKit.slotOf Z "com/example/firehouse/firehouse/Graph" "repeatedEdgesMerged" "J" := slot_ne (C := "com/example/firehouse/firehouse/Graph") (Or.inr (wd_24 hw)) (Or.inr (wd_26 hw)) (by decide) (t := .long) (t' := .long) (by decide) (by decide)
theorem sn_repeatedEdgesMerged_componentCount {Z : State} {a0 : Array Value} (hw : Ws Z a0) : Jvm.RoadKit.slotOf Z "com/example/firehouse/firehouse/Graph" "repeatedEdgesMerged" "J" ≠ Jvm.RoadKit.slotOf Z "com/example/firehouse/firehouse/Graph" "componentCount" "I" := slot_ne (C := "com/example/firehouse/firehouse/Graph") (Or.inr (wd_26 hw)) (Or.inl (wd_16 hw)) (by decide) (t := .long) (t' := .int) (by decide) (by decide)
theorem sn_repeatedEdgesMerged_ids {Z : State} {a0 : Array Value} (hw : Ws Z a0) : Jvm.RoadKit.slotOf Z "com/example/firehouse/firehouse/Graph" "repeatedEdgesMerged" "J" ≠ Jvm.RoadKit.slotOf Z "com/example/firehouse/firehouse/Graph" "ids" "[J" := slot_ne (C := "com/example/firehouse/firehouse/Graph") (Or.inr (wd_26 hw)) (Or.inr (wd_18 hw)) (by decide) (t := .long) (t' := (.array .long)) (by decide) (by decide)
theorem sn_repeatedEdgesMerged_offsets {Z : State} {a0 : Array Value} (hw : Ws Z a0) : Jvm.RoadKit.slotOf Z "com/example/firehouse/firehouse/Graph" "repeatedEdgesMerged" "J" ≠ Jvm.RoadKit.slotOf Z "com/example/firehouse/firehouse/Graph" "offsets" "[I" := slot_ne (C := "com/example/firehouse/firehouse/Graph") (Or.inr (wd_26 hw)) (Or.inr (wd_20 hw)) (by decide) (t := .long) (t' := (.array .int)) (by decide) (by decide)
theorem sn_repeatedEdgesMerged_neighbours {Z : State} {a0 : Array Value} (hw : Ws Z a0) : Jvm.RoadKit.slotOf Z "com/example/firehouse/firehouse/Graph" "repeatedEdgesMerged" "J" ≠ Jvm.RoadKit.slotOf Z "com/example/firehouse/firehouse/Graph" "neighbours" "[I" := slot_ne (C := "com/example/firehouse/firehouse/Graph") (Or.inr (wd_26 hw)) (Or.inr (wd_22 hw)) (by decide) (t := .long) (t' := (.array .int)) (by decide) (by decide)
theorem sn_repeatedEdgesMerged_selfLoopsDropped {Z : State} {a0 : Array Value} (hw : Ws Z a0) : Jvm.RoadKit.slotOf Z "com/example/firehouse/firehouse/Graph" "repeatedEdgesMerged" "J" ≠ Jvm.RoadKit.slotOf Z "com/example/firehouse/firehouse/Graph" "selfLoopsDropped" "J" := slot_ne (C := "com/example/firehouse/firehouse/Graph") (Or.inr (wd_26 hw)) (Or.inr (wd_24 hw)) (by decide) (t := .long) (t' := .long) (by decide) (by decide)

def GR (Z : State) (h : Heap) (g i o b : Addr) (vi vo vn : List Value) : Prop := Exa Z h g "com/example/firehouse/firehouse/Graph" ∧ Fld Z h g "com/example/firehouse/firehouse/Graph" "ids" "[J" (.ref i) ∧ Fld Z h g "com/example/firehouse/firehouse/Graph" "offsets" "[I" (.ref o) ∧ Fld Z h g "com/example/firehouse/firehouse/Graph" "neighbours" "[I" (.ref b) ∧ Ary Z h i .long vi ∧ Ary Z h o .int vo ∧ Ary Z h b .int vn
theorem GR.keep {Z : State} {h h' : Heap} {g i o b : Addr} {vi vo vn : List Value} {ws : List Addr} (G : GR Z h g i o b vi vo vn) (K : Keep h h' ws) (q1 : g ∉ ws) (q2 : i ∉ ws) (q3 : o ∉ ws) (q4 : b ∉ ws) : GR Z h' g i o b vi vo vn := by
  obtain ⟨E, F1, F2, F3, A1, A2, A3⟩ := G
  exact ⟨E.keep K, F1.keep K q1, F2.keep K q1, F3.keep K q1, A1.keep K q2, A2.keep K q3, A3.keep K q4⟩

set_option maxRecDepth 65536 in
set_option maxHeartbeats 40000000 in
theorem ginit_met {l : Launch} {Z : State} {a0 : Array Value} (hw : Ws Z a0) (g i o b : Addr) (s t : Int64) (vi vo vn : List Value) (h0 : Heap) (n0 : Nat) (gg : n0 ≤ g) (gi : g ≠ i) (go : g ≠ o) (gb : g ≠ b) (E : Exa Z h0 g "com/example/firehouse/firehouse/Graph") (F1 : Fld Z h0 g "com/example/firehouse/firehouse/Graph" "componentCount" "I" (.int 0)) (F2 : Fld Z h0 g "com/example/firehouse/firehouse/Graph" "ids" "[J" .null) (F3 : Fld Z h0 g "com/example/firehouse/firehouse/Graph" "offsets" "[I" .null) (F4 : Fld Z h0 g "com/example/firehouse/firehouse/Graph" "neighbours" "[I" .null) (F5 : Fld Z h0 g "com/example/firehouse/firehouse/Graph" "selfLoopsDropped" "J" (.long 0)) (F6 : Fld Z h0 g "com/example/firehouse/firehouse/Graph" "repeatedEdgesMerged" "J" (.long 0)) (A1 : Ary Z h0 i .long vi) (A2 : Ary Z h0 o .int vo) (A3 : Ary Z h0 b .int vn) : Met l Z Y1 prog_16_method_1_code 8 none ({ frames := 1, cells := 0, slots := 0, locals := 24 } : Room) [.ref g, .ref i, .ref o, .ref b, .long s, .long t] h0 n0 (Ret0 fun h => GR Z h g i o b vi vo vn ∧ Keep h0 h [g]) := by
  refine Met.intro (Ls := [.val (.ref g), .val (.ref i), .val (.ref o), .val (.ref b), .val (.long s), .second, .val (.long t), .second]) pl_1 (fun m => by simp [entryFrame, mkF, argsToLocals, Value.category, maxLocals]) fun w r => ?_
  have K := Keep.refl h0 [g]
  replace r := r.ald0 1 d1_0 rfl
  replace r := goInitO r 4 d1_1 rfl (wd_12 hw) (wd_13 hw) (wd_14 hw) rfl (Nat.le_of_ble_eq_true rfl) (Nat.le_of_ble_eq_true rfl)
  replace r := r.ald0 5 d1_4 rfl
  replace r := r.iconstV 6 d1_5 rfl (-1 : Int32) ic_m1
  obtain ⟨h1, W, r⟩ := r.putF 9 d1_6 rfl (wd_15 hw) (Or.inl (wd_16 hw)) (wd_2 hw) E F1 (ty := .int) (by decide) rfl rfl gg
  replace E := E.wr W; replace A1 := A1.other W (Ne.symm gi); replace A2 := A2.other W (Ne.symm go); replace A3 := A3.other W (Ne.symm gb); replace K := K.wr W (Or.inl (by simp)); replace F1 := F1.same W; replace F2 := F2.other W (Or.inr (sn_ids_componentCount hw)); replace F3 := F3.other W (Or.inr (sn_offsets_componentCount hw)); replace F4 := F4.other W (Or.inr (sn_neighbours_componentCount hw)); replace F5 := F5.other W (Or.inr (sn_selfLoopsDropped_componentCount hw)); replace F6 := F6.other W (Or.inr (sn_repeatedEdgesMerged_componentCount hw)); clear W
  replace r := r.ald0 10 d1_9 rfl
  replace r := r.ald1 11 d1_10 rfl
  obtain ⟨h2, W, r⟩ := r.putF 14 d1_11 rfl (wd_17 hw) (Or.inr ⟨(wd_18 hw), rfl, rfl⟩) (wd_2 hw) E F2 (ty := (.array .long)) (by decide) rfl rfl gg
  replace E := E.wr W; replace A1 := A1.other W (Ne.symm gi); replace A2 := A2.other W (Ne.symm go); replace A3 := A3.other W (Ne.symm gb); replace K := K.wr W (Or.inl (by simp)); replace F1 := F1.other W (Or.inr (sn_componentCount_ids hw)); replace F2 := F2.same W; replace F3 := F3.other W (Or.inr (sn_offsets_ids hw)); replace F4 := F4.other W (Or.inr (sn_neighbours_ids hw)); replace F5 := F5.other W (Or.inr (sn_selfLoopsDropped_ids hw)); replace F6 := F6.other W (Or.inr (sn_repeatedEdgesMerged_ids hw)); clear W
  replace r := r.ald0 15 d1_14 rfl
  replace r := r.ald2 16 d1_15 rfl
  obtain ⟨h3, W, r⟩ := r.putF 19 d1_16 rfl (wd_19 hw) (Or.inr ⟨(wd_20 hw), rfl, rfl⟩) (wd_2 hw) E F3 (ty := (.array .int)) (by decide) rfl rfl gg
  replace E := E.wr W; replace A1 := A1.other W (Ne.symm gi); replace A2 := A2.other W (Ne.symm go); replace A3 := A3.other W (Ne.symm gb); replace K := K.wr W (Or.inl (by simp)); replace F1 := F1.other W (Or.inr (sn_componentCount_offsets hw)); replace F2 := F2.other W (Or.inr (sn_ids_offsets hw)); replace F3 := F3.same W; replace F4 := F4.other W (Or.inr (sn_neighbours_offsets hw)); replace F5 := F5.other W (Or.inr (sn_selfLoopsDropped_offsets hw)); replace F6 := F6.other W (Or.inr (sn_repeatedEdgesMerged_offsets hw)); clear W
  replace r := r.ald0 20 d1_19 rfl
  replace r := r.ald3 21 d1_20 rfl
  obtain ⟨h4, W, r⟩ := r.putF 24 d1_21 rfl (wd_21 hw) (Or.inr ⟨(wd_22 hw), rfl, rfl⟩) (wd_2 hw) E F4 (ty := (.array .int)) (by decide) rfl rfl gg
  replace E := E.wr W; replace A1 := A1.other W (Ne.symm gi); replace A2 := A2.other W (Ne.symm go); replace A3 := A3.other W (Ne.symm gb); replace K := K.wr W (Or.inl (by simp)); replace F1 := F1.other W (Or.inr (sn_componentCount_neighbours hw)); replace F2 := F2.other W (Or.inr (sn_ids_neighbours hw)); replace F3 := F3.other W (Or.inr (sn_offsets_neighbours hw)); replace F4 := F4.same W; replace F5 := F5.other W (Or.inr (sn_selfLoopsDropped_neighbours hw)); replace F6 := F6.other W (Or.inr (sn_repeatedEdgesMerged_neighbours hw)); clear W
  replace r := r.ald0 25 d1_24 rfl
  replace r := r.lld4 27 d1_25 rfl
  obtain ⟨h5, W, r⟩ := r.putF 30 d1_27 rfl (wd_23 hw) (Or.inr ⟨(wd_24 hw), rfl, rfl⟩) (wd_2 hw) E F5 (ty := .long) (by decide) rfl rfl gg
  replace E := E.wr W; replace A1 := A1.other W (Ne.symm gi); replace A2 := A2.other W (Ne.symm go); replace A3 := A3.other W (Ne.symm gb); replace K := K.wr W (Or.inl (by simp)); replace F1 := F1.other W (Or.inr (sn_componentCount_selfLoopsDropped hw)); replace F2 := F2.other W (Or.inr (sn_ids_selfLoopsDropped hw)); replace F3 := F3.other W (Or.inr (sn_offsets_selfLoopsDropped hw)); replace F4 := F4.other W (Or.inr (sn_neighbours_selfLoopsDropped hw)); replace F5 := F5.same W; replace F6 := F6.other W (Or.inr (sn_repeatedEdgesMerged_selfLoopsDropped hw)); clear W
  replace r := r.ald0 31 d1_30 rfl
  replace r := r.lld6 33 d1_31 rfl
  obtain ⟨h6, W, r⟩ := r.putF 36 d1_33 rfl (wd_25 hw) (Or.inr ⟨(wd_26 hw), rfl, rfl⟩) (wd_2 hw) E F6 (ty := .long) (by decide) rfl rfl gg
  replace E := E.wr W; replace A1 := A1.other W (Ne.symm gi); replace A2 := A2.other W (Ne.symm go); replace A3 := A3.other W (Ne.symm gb); replace K := K.wr W (Or.inl (by simp)); replace F1 := F1.other W (Or.inr (sn_componentCount_repeatedEdgesMerged hw)); replace F2 := F2.other W (Or.inr (sn_ids_repeatedEdgesMerged hw)); replace F3 := F3.other W (Or.inr (sn_offsets_repeatedEdgesMerged hw)); replace F4 := F4.other W (Or.inr (sn_neighbours_repeatedEdgesMerged hw)); replace F5 := F5.other W (Or.inr (sn_selfLoopsDropped_repeatedEdgesMerged hw)); replace F6 := F6.same W; clear W
  exact r.retV d1_36 ⟨⟨E, F2, F3, F4, A1, A2, A3⟩, K⟩ (by decide) (by decide)
set_option maxRecDepth 65536 in
set_option maxHeartbeats 40000000 in
theorem deg_met {l : Launch} {Z : State} {a0 : Array Value} (hw : Ws Z a0) (g i o b : Addr) (vi vo vn : List Value) (k : Nat) (u v : Int32) (h0 : Heap) (n0 : Nat) (G : GR Z h0 g i o b vi vo vn) (hu : vo[k]? = some (.int u)) (hv : vo[k + 1]? = some (.int v)) : Met l Z Y3 prog_16_method_11_code 2 (some .int) ({ frames := 0, cells := 0, slots := 0, locals := 0 } : Room) [.ref g, .int (Int32.ofNat k)] h0 n0 (Ret fun z h => z = .int (v - u) ∧ h0 = h) := by
  have lo := G.2.2.2.2.2.1.len
  have hk := (List.getElem?_eq_some_iff.mp hv).1
  refine Met.intro (Ls := [.val (.ref g), .val (.int (Int32.ofNat k))]) pl_3 (fun m => by simp [entryFrame, mkF, argsToLocals, Value.category, maxLocals]) fun w r => ?_
  replace r := r.ald0 1 d3_0 rfl
  replace r := r.getF 4 d3_1 rfl (wd_19 hw) G.2.2.1
  replace r := r.ild1 5 d3_4 rfl
  replace r := r.iconstV 6 d3_5 rfl (1 : Int32) ic_1
  replace r := r.iadd 7 d3_6 rfl
  rw [nadd1] at r
  replace r := r.iald 8 d3_7 rfl G.2.2.2.2.2.1 (len_nn (by omega)) (by rw [len_nat (by omega)]; exact hv)
  replace r := r.ald0 9 d3_8 rfl
  replace r := r.getF 12 d3_9 rfl (wd_19 hw) G.2.2.1
  replace r := r.ild1 13 d3_12 rfl
  replace r := r.iald 14 d3_13 rfl G.2.2.2.2.2.1 (len_nn (by omega)) (by rw [len_nat (by omega)]; exact hu)
  replace r := r.isub 15 d3_14 rfl
  exact r.retI d3_15 ⟨rfl, rfl⟩ (by decide) (by decide)
set_option maxRecDepth 65536 in
set_option maxHeartbeats 40000000 in
theorem ec_met {l : Launch} {Z : State} {a0 : Array Value} (hw : Ws Z a0) (g i o b : Addr) (vi vo vn : List Value) (h0 : Heap) (n0 : Nat) (G : GR Z h0 g i o b vi vo vn) : Met l Z Y4 prog_16_method_3_code 1 (some .int) ({ frames := 0, cells := 0, slots := 0, locals := 0 } : Room) [.ref g] h0 n0 (Ret fun z h => z = .int (Int32.ofNat vn.length / 2) ∧ h0 = h) := by
  refine Met.intro (Ls := [.val (.ref g)]) pl_4 (fun m => by simp [entryFrame, mkF, argsToLocals, Value.category, maxLocals]) fun w r => ?_
  replace r := r.ald0 1 d4_0 rfl
  replace r := r.getF 4 d4_1 rfl (wd_21 hw) G.2.2.2.1
  replace r := r.alen 5 d4_4 rfl G.2.2.2.2.2.2 _ rfl
  replace r := r.iconstV 6 d4_5 rfl (2 : Int32) ic_2
  replace r := r.idiv 7 d4_6 rfl (by decide)
  exact r.retI d4_7 ⟨rfl, rfl⟩ (by decide) (by decide)

theorem bit (x : Int32) : ∃ a : Nat, a < 2 ∧ x &&& 1 = Int32.ofNat a := by
  rcases and_one x with h | h
  · exact ⟨0, by decide, h⟩
  · exact ⟨1, by decide, h⟩
theorem half : ∀ n, n < 13 → Int32.ofNat n / 2 = Int32.ofNat (n / 2) := by decide +kernel
theorem twice : ∀ n, n < 7 → (2 : Int32) * Int32.ofNat n = Int32.ofNat (2 * n) := by decide +kernel

set_option maxRecDepth 65536 in
set_option maxHeartbeats 40000000 in
theorem law_met {l : Launch} {Z : State} {a0 : Array Value} (hw : Ws Z a0) (y : Int32) (h0 : Heap) (n0 : Nat) (hn : n0 ≤ h0.size) : Met l Z Y0 code maxLocals ret room_1 [.int y] h0 n0 (Ret fun v h => v = .int 1) := by
  refine Met.intro (Ls := [.val (.int y), .unset, .unset, .unset, .unset, .unset, .unset, .unset, .unset, .unset, .unset, .unset, .unset, .unset, .unset, .unset, .unset, .unset, .unset]) pl_0 (fun m => by simp [entryFrame, mkF, argsToLocals, Value.category, maxLocals]) fun w r => ?_
  obtain ⟨e01, b1, q1⟩ := bit y
  obtain ⟨e02, b2, q2⟩ := bit ((y.toUInt32 >>> ((1 : Int32) &&& 31).toUInt32).toInt32)
  obtain ⟨e03, b3, q3⟩ := bit ((y.toUInt32 >>> ((2 : Int32) &&& 31).toUInt32).toInt32)
  obtain ⟨e12, b4, q4⟩ := bit ((y.toUInt32 >>> ((3 : Int32) &&& 31).toUInt32).toInt32)
  obtain ⟨e13, b5, q5⟩ := bit ((y.toUInt32 >>> ((4 : Int32) &&& 31).toUInt32).toInt32)
  obtain ⟨e23, b6, q6⟩ := bit ((y.toUInt32 >>> ((5 : Int32) &&& 31).toUInt32).toInt32)
  replace r := r.ild0 1 at_0 rfl
  replace r := r.iconstV 2 at_1 rfl (1 : Int32) ic_1
  replace r := r.iand 3 at_2 rfl
  rw [q1] at r
  replace r := r.ist1 4 at_3 rfl (One.of rfl)
  replace r := r.ild0 5 at_4 rfl
  replace r := r.iconstV 6 at_5 rfl (1 : Int32) ic_1
  replace r := r.iushr 7 at_6 rfl
  replace r := r.iconstV 8 at_7 rfl (1 : Int32) ic_1
  replace r := r.iand 9 at_8 rfl
  rw [q2] at r
  replace r := r.ist2 10 at_9 rfl (One.of rfl)
  replace r := r.ild0 11 at_10 rfl
  replace r := r.iconstV 12 at_11 rfl (2 : Int32) ic_2
  replace r := r.iushr 13 at_12 rfl
  replace r := r.iconstV 14 at_13 rfl (1 : Int32) ic_1
  replace r := r.iand 15 at_14 rfl
  rw [q3] at r
  replace r := r.ist3 16 at_15 rfl (One.of rfl)
  replace r := r.ild0 17 at_16 rfl
  replace r := r.iconstV 18 at_17 rfl (3 : Int32) ic_3
  replace r := r.iushr 19 at_18 rfl
  replace r := r.iconstV 20 at_19 rfl (1 : Int32) ic_1
  replace r := r.iand 21 at_20 rfl
  rw [q4] at r
  replace r := r.ist4 23 at_21 rfl (One.of rfl)
  replace r := r.ild0 24 at_23 rfl
  replace r := r.iconstV 25 at_24 rfl (4 : Int32) ic_4
  replace r := r.iushr 26 at_25 rfl
  replace r := r.iconstV 27 at_26 rfl (1 : Int32) ic_1
  replace r := r.iand 28 at_27 rfl
  rw [q5] at r
  replace r := r.ist5 30 at_28 rfl (One.of rfl)
  replace r := r.ild0 31 at_30 rfl
  replace r := r.iconstV 32 at_31 rfl (5 : Int32) ic_5
  replace r := r.iushr 33 at_32 rfl
  replace r := r.iconstV 34 at_33 rfl (1 : Int32) ic_1
  replace r := r.iand 35 at_34 rfl
  rw [q6] at r
  replace r := r.ist6 37 at_35 rfl (One.of rfl)
  replace r := r.ild1 38 at_37 rfl
  replace r := r.ild2 39 at_38 rfl
  replace r := r.iadd 40 at_39 rfl
  rw [nadd] at r
  replace r := r.ild3 41 at_40 rfl
  replace r := r.iadd 42 at_41 rfl
  rw [nadd] at r
  replace r := r.ist7 44 at_42 rfl (One.of rfl)
  replace r := r.ild1 45 at_44 rfl
  replace r := r.ild4 47 at_45 rfl
  replace r := r.iadd 48 at_47 rfl
  rw [nadd] at r
  replace r := r.ild5 50 at_48 rfl
  replace r := r.iadd 51 at_50 rfl
  rw [nadd] at r
  replace r := r.ist8 53 at_51 rfl (One.of rfl)
  replace r := r.ild2 54 at_53 rfl
  replace r := r.ild4 56 at_54 rfl
  replace r := r.iadd 57 at_56 rfl
  rw [nadd] at r
  replace r := r.ild6 59 at_57 rfl
  replace r := r.iadd 60 at_59 rfl
  rw [nadd] at r
  replace r := r.ist9 62 at_60 rfl (One.of rfl)
  replace r := r.ild3 63 at_62 rfl
  replace r := r.ild5 65 at_63 rfl
  replace r := r.iadd 66 at_65 rfl
  rw [nadd] at r
  replace r := r.ild6 68 at_66 rfl
  replace r := r.iadd 69 at_68 rfl
  rw [nadd] at r
  replace r := r.ist10 71 at_69 rfl (One.of rfl)
  replace r := r.iconstV 72 at_71 rfl (5 : Int32) ic_5
  obtain ⟨h1, o, z1, X1, A2, r⟩ := r.newA (vs := [.int 0, .int 0, .int 0, .int 0, .int 0]) 74 at_72 rfl (wd_0 hw) (by decide) rfl 5 (by decide) (by decide) (by decide) (by decide)
  have go : n0 ≤ o := by rw [z1]; exact hn
  replace r := r.dup 75 at_74 rfl rfl
  replace r := r.iconstV 76 at_75 rfl (0 : Int32) ic_0
  replace r := r.iconstV 77 at_76 rfl (0 : Int32) ic_0
  obtain ⟨h2, W2, A2, r⟩ := r.iast 78 at_77 rfl A2 (by decide) (Nat.le_of_ble_eq_true rfl) go
  replace r := r.dup 79 at_78 rfl rfl
  replace r := r.iconstV 80 at_79 rfl (1 : Int32) ic_1
  replace r := r.ild7 82 at_80 rfl
  obtain ⟨h3, W3, A2, r⟩ := r.iast 83 at_82 rfl A2 (by decide) (Nat.le_of_ble_eq_true rfl) go
  replace r := r.dup 84 at_83 rfl rfl
  replace r := r.iconstV 85 at_84 rfl (2 : Int32) ic_2
  replace r := r.ild7 87 at_85 rfl
  replace r := r.ild8 89 at_87 rfl
  replace r := r.iadd 90 at_89 rfl
  rw [nadd] at r
  obtain ⟨h4, W4, A2, r⟩ := r.iast 91 at_90 rfl A2 (by decide) (Nat.le_of_ble_eq_true rfl) go
  replace r := r.dup 92 at_91 rfl rfl
  replace r := r.iconstV 93 at_92 rfl (3 : Int32) ic_3
  replace r := r.ild7 95 at_93 rfl
  replace r := r.ild8 97 at_95 rfl
  replace r := r.iadd 98 at_97 rfl
  rw [nadd] at r
  replace r := r.ild9 100 at_98 rfl
  replace r := r.iadd 101 at_100 rfl
  rw [nadd] at r
  obtain ⟨h5, W5, A2, r⟩ := r.iast 102 at_101 rfl A2 (by decide) (Nat.le_of_ble_eq_true rfl) go
  replace r := r.dup 103 at_102 rfl rfl
  replace r := r.iconstV 104 at_103 rfl (4 : Int32) ic_4
  replace r := r.ild7 106 at_104 rfl
  replace r := r.ild8 108 at_106 rfl
  replace r := r.iadd 109 at_108 rfl
  rw [nadd] at r
  replace r := r.ild9 111 at_109 rfl
  replace r := r.iadd 112 at_111 rfl
  rw [nadd] at r
  replace r := r.ild10 114 at_112 rfl
  replace r := r.iadd 115 at_114 rfl
  rw [nadd] at r
  obtain ⟨h6, W6, A2, r⟩ := r.iast 116 at_115 rfl A2 (by decide) (Nat.le_of_ble_eq_true rfl) go
  replace A2 : Ary Z h6 o .int [.int (Int32.ofNat 0), .int (Int32.ofNat (e01 + e02 + e03)), .int (Int32.ofNat ((e01 + e02 + e03) + (e01 + e12 + e13))), .int (Int32.ofNat ((e01 + e02 + e03) + (e01 + e12 + e13) + (e02 + e12 + e23))), .int (Int32.ofNat ((e01 + e02 + e03) + (e01 + e12 + e13) + (e02 + e12 + e23) + (e03 + e13 + e23)))] := A2
  replace r := r.ast11 118 at_116 rfl (One.of rfl)
  replace r := r.ild7 120 at_118 rfl
  replace r := r.ild8 122 at_120 rfl
  replace r := r.iadd 123 at_122 rfl
  rw [nadd] at r
  replace r := r.ild9 125 at_123 rfl
  replace r := r.iadd 126 at_125 rfl
  rw [nadd] at r
  replace r := r.ild10 128 at_126 rfl
  replace r := r.iadd 129 at_128 rfl
  rw [nadd] at r
  have kN : (Int32.ofNat ((e01 + e02 + e03) + (e01 + e12 + e13) + (e02 + e12 + e23) + (e03 + e13 + e23))).toNatClampNeg = ((e01 + e02 + e03) + (e01 + e12 + e13) + (e02 + e12 + e23) + (e03 + e13 + e23)) := len_nat (by omega)
  obtain ⟨h7, nb, z7, X7, A3, r⟩ := r.newA (vs := List.replicate ((e01 + e02 + e03) + (e01 + e12 + e13) + (e02 + e12 + e23) + (e03 + e13 + e23)) (.int 0)) 131 at_129 rfl (wd_0 hw) (len_nn (by omega)) (by rw [kN]; rfl) 12 (by rw [kN]; omega) (by decide) (by decide) (by decide)
  have dob : o ≠ nb := by rw [z7]; exact Nat.ne_of_lt A2.lt
  have gb : n0 ≤ nb := by rw [z7]; exact Nat.le_trans go (Nat.le_of_lt A2.lt)
  replace A2 := A2.ext X7
  replace r := r.ast12 133 at_131 rfl (One.of rfl)
  replace r := r.iconstV 134 at_133 rfl (0 : Int32) ic_0
  replace r := r.ist13 136 at_134 rfl (One.of rfl)
  replace r : Go w l room_1 Z n0 Y0 code maxLocals ret 136 [.val (.int y), .val (.int (Int32.ofNat e01)), .val (.int (Int32.ofNat e02)), .val (.int (Int32.ofNat e03)), .val (.int (Int32.ofNat e12)), .val (.int (Int32.ofNat e13)), .val (.int (Int32.ofNat e23)), .val (.int (Int32.ofNat (e01 + e02 + e03))), .val (.int (Int32.ofNat (e01 + e12 + e13))), .val (.int (Int32.ofNat (e02 + e12 + e23))), .val (.int (Int32.ofNat (e03 + e13 + e23))), .val (.ref o), .val (.ref nb), .val (.int (Int32.ofNat 0)), .unset, .unset, .unset, .unset, .unset] [] h7 2 17 := r
  obtain ⟨N, eN⟩ : ∃ N : Nat, N = ((e01 + e02 + e03) + (e01 + e12 + e13) + (e02 + e12 + e23) + (e03 + e13 + e23)) := ⟨_, rfl⟩
  have J : ∃ h vs, vs.length = N ∧ Ary Z h nb .int vs ∧ Ary Z h o .int [.int (Int32.ofNat 0), .int (Int32.ofNat (e01 + e02 + e03)), .int (Int32.ofNat ((e01 + e02 + e03) + (e01 + e12 + e13))), .int (Int32.ofNat ((e01 + e02 + e03) + (e01 + e12 + e13) + (e02 + e12 + e23))), .int (Int32.ofNat ((e01 + e02 + e03) + (e01 + e12 + e13) + (e02 + e12 + e23) + (e03 + e13 + e23)))] ∧ Go w l room_1 Z n0 Y0 code maxLocals ret 136 [.val (.int y), .val (.int (Int32.ofNat e01)), .val (.int (Int32.ofNat e02)), .val (.int (Int32.ofNat e03)), .val (.int (Int32.ofNat e12)), .val (.int (Int32.ofNat e13)), .val (.int (Int32.ofNat e23)), .val (.int (Int32.ofNat (e01 + e02 + e03))), .val (.int (Int32.ofNat (e01 + e12 + e13))), .val (.int (Int32.ofNat (e02 + e12 + e23))), .val (.int (Int32.ofNat (e03 + e13 + e23))), .val (.ref o), .val (.ref nb), .val (.int (Int32.ofNat 0)), .unset, .unset, .unset, .unset, .unset] [] h 2 17 := ⟨_, _, by rw [eN, List.length_replicate], A3, A2, r⟩
  clear r A3 A2
  obtain ⟨g0, vs, lv, A3, A2, r⟩ := J
  have J : ∃ h vs, vs.length = N ∧ Ary Z h nb .int vs ∧ Ary Z h o .int [.int (Int32.ofNat 0), .int (Int32.ofNat (e01 + e02 + e03)), .int (Int32.ofNat ((e01 + e02 + e03) + (e01 + e12 + e13))), .int (Int32.ofNat ((e01 + e02 + e03) + (e01 + e12 + e13) + (e02 + e12 + e23))), .int (Int32.ofNat ((e01 + e02 + e03) + (e01 + e12 + e13) + (e02 + e12 + e23) + (e03 + e13 + e23)))] ∧ Go w l room_1 Z n0 Y0 code maxLocals ret 150 [.val (.int y), .val (.int (Int32.ofNat e01)), .val (.int (Int32.ofNat e02)), .val (.int (Int32.ofNat e03)), .val (.int (Int32.ofNat e12)), .val (.int (Int32.ofNat e13)), .val (.int (Int32.ofNat e23)), .val (.int (Int32.ofNat (e01 + e02 + e03))), .val (.int (Int32.ofNat (e01 + e12 + e13))), .val (.int (Int32.ofNat (e02 + e12 + e23))), .val (.int (Int32.ofNat (e03 + e13 + e23))), .val (.ref o), .val (.ref nb), .val (.int (Int32.ofNat (0 + e01))), .unset, .unset, .unset, .unset, .unset] [] h 2 17 := by
    replace r := r.ild1 137 at_136 rfl
    replace r := r.iconstV 138 at_137 rfl (1 : Int32) ic_1
    rcases r.ic_ne 150 141 at_138 (by decide) rfl with ⟨hc, r⟩ | ⟨hc, r⟩
    · rw [show (1 : Int32) = Int32.ofNat 1 from rfl, neqn (by omega) (by decide)] at hc
      rw [show (0 + e01) = 0 from by omega]; exact ⟨_, _, lv, A3, A2, r⟩
    · rw [show (1 : Int32) = Int32.ofNat 1 from rfl, neqn (by omega) (by decide)] at hc
      replace r := r.ald12 143 at_141 rfl
      replace r := r.ild13 145 at_143 rfl
      replace r := r.iconstV 146 at_145 rfl (1 : Int32) ic_1
      obtain ⟨h', W', A3', r⟩ := r.iast 147 at_146 rfl A3 (len_nn (by omega)) (by rw [len_nat (by omega), lv]; omega) gb
      replace r := r.inc13 150 at_147 rfl (d := 1) rfl
      rw [nadd1, show 0 + 1 = (0 + e01) from by omega] at r
      exact ⟨h', _, by rw [List.length_set]; exact lv, A3', A2.other W' dob, r⟩
  clear r A3 A2 lv
  obtain ⟨g1, vs, lv, A3, A2, r⟩ := J
  have J : ∃ h vs, vs.length = N ∧ Ary Z h nb .int vs ∧ Ary Z h o .int [.int (Int32.ofNat 0), .int (Int32.ofNat (e01 + e02 + e03)), .int (Int32.ofNat ((e01 + e02 + e03) + (e01 + e12 + e13))), .int (Int32.ofNat ((e01 + e02 + e03) + (e01 + e12 + e13) + (e02 + e12 + e23))), .int (Int32.ofNat ((e01 + e02 + e03) + (e01 + e12 + e13) + (e02 + e12 + e23) + (e03 + e13 + e23)))] ∧ Go w l room_1 Z n0 Y0 code maxLocals ret 164 [.val (.int y), .val (.int (Int32.ofNat e01)), .val (.int (Int32.ofNat e02)), .val (.int (Int32.ofNat e03)), .val (.int (Int32.ofNat e12)), .val (.int (Int32.ofNat e13)), .val (.int (Int32.ofNat e23)), .val (.int (Int32.ofNat (e01 + e02 + e03))), .val (.int (Int32.ofNat (e01 + e12 + e13))), .val (.int (Int32.ofNat (e02 + e12 + e23))), .val (.int (Int32.ofNat (e03 + e13 + e23))), .val (.ref o), .val (.ref nb), .val (.int (Int32.ofNat ((0 + e01) + e02))), .unset, .unset, .unset, .unset, .unset] [] h 2 17 := by
    replace r := r.ild2 151 at_150 rfl
    replace r := r.iconstV 152 at_151 rfl (1 : Int32) ic_1
    rcases r.ic_ne 164 155 at_152 (by decide) rfl with ⟨hc, r⟩ | ⟨hc, r⟩
    · rw [show (1 : Int32) = Int32.ofNat 1 from rfl, neqn (by omega) (by decide)] at hc
      rw [show ((0 + e01) + e02) = (0 + e01) from by omega]; exact ⟨_, _, lv, A3, A2, r⟩
    · rw [show (1 : Int32) = Int32.ofNat 1 from rfl, neqn (by omega) (by decide)] at hc
      replace r := r.ald12 157 at_155 rfl
      replace r := r.ild13 159 at_157 rfl
      replace r := r.iconstV 160 at_159 rfl (2 : Int32) ic_2
      obtain ⟨h', W', A3', r⟩ := r.iast 161 at_160 rfl A3 (len_nn (by omega)) (by rw [len_nat (by omega), lv]; omega) gb
      replace r := r.inc13 164 at_161 rfl (d := 1) rfl
      rw [nadd1, show (0 + e01) + 1 = ((0 + e01) + e02) from by omega] at r
      exact ⟨h', _, by rw [List.length_set]; exact lv, A3', A2.other W' dob, r⟩
  clear r A3 A2 lv
  obtain ⟨g2, vs, lv, A3, A2, r⟩ := J
  have J : ∃ h vs, vs.length = N ∧ Ary Z h nb .int vs ∧ Ary Z h o .int [.int (Int32.ofNat 0), .int (Int32.ofNat (e01 + e02 + e03)), .int (Int32.ofNat ((e01 + e02 + e03) + (e01 + e12 + e13))), .int (Int32.ofNat ((e01 + e02 + e03) + (e01 + e12 + e13) + (e02 + e12 + e23))), .int (Int32.ofNat ((e01 + e02 + e03) + (e01 + e12 + e13) + (e02 + e12 + e23) + (e03 + e13 + e23)))] ∧ Go w l room_1 Z n0 Y0 code maxLocals ret 178 [.val (.int y), .val (.int (Int32.ofNat e01)), .val (.int (Int32.ofNat e02)), .val (.int (Int32.ofNat e03)), .val (.int (Int32.ofNat e12)), .val (.int (Int32.ofNat e13)), .val (.int (Int32.ofNat e23)), .val (.int (Int32.ofNat (e01 + e02 + e03))), .val (.int (Int32.ofNat (e01 + e12 + e13))), .val (.int (Int32.ofNat (e02 + e12 + e23))), .val (.int (Int32.ofNat (e03 + e13 + e23))), .val (.ref o), .val (.ref nb), .val (.int (Int32.ofNat (((0 + e01) + e02) + e03))), .unset, .unset, .unset, .unset, .unset] [] h 2 17 := by
    replace r := r.ild3 165 at_164 rfl
    replace r := r.iconstV 166 at_165 rfl (1 : Int32) ic_1
    rcases r.ic_ne 178 169 at_166 (by decide) rfl with ⟨hc, r⟩ | ⟨hc, r⟩
    · rw [show (1 : Int32) = Int32.ofNat 1 from rfl, neqn (by omega) (by decide)] at hc
      rw [show (((0 + e01) + e02) + e03) = ((0 + e01) + e02) from by omega]; exact ⟨_, _, lv, A3, A2, r⟩
    · rw [show (1 : Int32) = Int32.ofNat 1 from rfl, neqn (by omega) (by decide)] at hc
      replace r := r.ald12 171 at_169 rfl
      replace r := r.ild13 173 at_171 rfl
      replace r := r.iconstV 174 at_173 rfl (3 : Int32) ic_3
      obtain ⟨h', W', A3', r⟩ := r.iast 175 at_174 rfl A3 (len_nn (by omega)) (by rw [len_nat (by omega), lv]; omega) gb
      replace r := r.inc13 178 at_175 rfl (d := 1) rfl
      rw [nadd1, show ((0 + e01) + e02) + 1 = (((0 + e01) + e02) + e03) from by omega] at r
      exact ⟨h', _, by rw [List.length_set]; exact lv, A3', A2.other W' dob, r⟩
  clear r A3 A2 lv
  obtain ⟨g3, vs, lv, A3, A2, r⟩ := J
  have J : ∃ h vs, vs.length = N ∧ Ary Z h nb .int vs ∧ Ary Z h o .int [.int (Int32.ofNat 0), .int (Int32.ofNat (e01 + e02 + e03)), .int (Int32.ofNat ((e01 + e02 + e03) + (e01 + e12 + e13))), .int (Int32.ofNat ((e01 + e02 + e03) + (e01 + e12 + e13) + (e02 + e12 + e23))), .int (Int32.ofNat ((e01 + e02 + e03) + (e01 + e12 + e13) + (e02 + e12 + e23) + (e03 + e13 + e23)))] ∧ Go w l room_1 Z n0 Y0 code maxLocals ret 192 [.val (.int y), .val (.int (Int32.ofNat e01)), .val (.int (Int32.ofNat e02)), .val (.int (Int32.ofNat e03)), .val (.int (Int32.ofNat e12)), .val (.int (Int32.ofNat e13)), .val (.int (Int32.ofNat e23)), .val (.int (Int32.ofNat (e01 + e02 + e03))), .val (.int (Int32.ofNat (e01 + e12 + e13))), .val (.int (Int32.ofNat (e02 + e12 + e23))), .val (.int (Int32.ofNat (e03 + e13 + e23))), .val (.ref o), .val (.ref nb), .val (.int (Int32.ofNat ((((0 + e01) + e02) + e03) + e01))), .unset, .unset, .unset, .unset, .unset] [] h 2 17 := by
    replace r := r.ild1 179 at_178 rfl
    replace r := r.iconstV 180 at_179 rfl (1 : Int32) ic_1
    rcases r.ic_ne 192 183 at_180 (by decide) rfl with ⟨hc, r⟩ | ⟨hc, r⟩
    · rw [show (1 : Int32) = Int32.ofNat 1 from rfl, neqn (by omega) (by decide)] at hc
      rw [show ((((0 + e01) + e02) + e03) + e01) = (((0 + e01) + e02) + e03) from by omega]; exact ⟨_, _, lv, A3, A2, r⟩
    · rw [show (1 : Int32) = Int32.ofNat 1 from rfl, neqn (by omega) (by decide)] at hc
      replace r := r.ald12 185 at_183 rfl
      replace r := r.ild13 187 at_185 rfl
      replace r := r.iconstV 188 at_187 rfl (0 : Int32) ic_0
      obtain ⟨h', W', A3', r⟩ := r.iast 189 at_188 rfl A3 (len_nn (by omega)) (by rw [len_nat (by omega), lv]; omega) gb
      replace r := r.inc13 192 at_189 rfl (d := 1) rfl
      rw [nadd1, show (((0 + e01) + e02) + e03) + 1 = ((((0 + e01) + e02) + e03) + e01) from by omega] at r
      exact ⟨h', _, by rw [List.length_set]; exact lv, A3', A2.other W' dob, r⟩
  clear r A3 A2 lv
  obtain ⟨g4, vs, lv, A3, A2, r⟩ := J
  have J : ∃ h vs, vs.length = N ∧ Ary Z h nb .int vs ∧ Ary Z h o .int [.int (Int32.ofNat 0), .int (Int32.ofNat (e01 + e02 + e03)), .int (Int32.ofNat ((e01 + e02 + e03) + (e01 + e12 + e13))), .int (Int32.ofNat ((e01 + e02 + e03) + (e01 + e12 + e13) + (e02 + e12 + e23))), .int (Int32.ofNat ((e01 + e02 + e03) + (e01 + e12 + e13) + (e02 + e12 + e23) + (e03 + e13 + e23)))] ∧ Go w l room_1 Z n0 Y0 code maxLocals ret 207 [.val (.int y), .val (.int (Int32.ofNat e01)), .val (.int (Int32.ofNat e02)), .val (.int (Int32.ofNat e03)), .val (.int (Int32.ofNat e12)), .val (.int (Int32.ofNat e13)), .val (.int (Int32.ofNat e23)), .val (.int (Int32.ofNat (e01 + e02 + e03))), .val (.int (Int32.ofNat (e01 + e12 + e13))), .val (.int (Int32.ofNat (e02 + e12 + e23))), .val (.int (Int32.ofNat (e03 + e13 + e23))), .val (.ref o), .val (.ref nb), .val (.int (Int32.ofNat (((((0 + e01) + e02) + e03) + e01) + e12))), .unset, .unset, .unset, .unset, .unset] [] h 2 17 := by
    replace r := r.ild4 194 at_192 rfl
    replace r := r.iconstV 195 at_194 rfl (1 : Int32) ic_1
    rcases r.ic_ne 207 198 at_195 (by decide) rfl with ⟨hc, r⟩ | ⟨hc, r⟩
    · rw [show (1 : Int32) = Int32.ofNat 1 from rfl, neqn (by omega) (by decide)] at hc
      rw [show (((((0 + e01) + e02) + e03) + e01) + e12) = ((((0 + e01) + e02) + e03) + e01) from by omega]; exact ⟨_, _, lv, A3, A2, r⟩
    · rw [show (1 : Int32) = Int32.ofNat 1 from rfl, neqn (by omega) (by decide)] at hc
      replace r := r.ald12 200 at_198 rfl
      replace r := r.ild13 202 at_200 rfl
      replace r := r.iconstV 203 at_202 rfl (2 : Int32) ic_2
      obtain ⟨h', W', A3', r⟩ := r.iast 204 at_203 rfl A3 (len_nn (by omega)) (by rw [len_nat (by omega), lv]; omega) gb
      replace r := r.inc13 207 at_204 rfl (d := 1) rfl
      rw [nadd1, show ((((0 + e01) + e02) + e03) + e01) + 1 = (((((0 + e01) + e02) + e03) + e01) + e12) from by omega] at r
      exact ⟨h', _, by rw [List.length_set]; exact lv, A3', A2.other W' dob, r⟩
  clear r A3 A2 lv
  obtain ⟨g5, vs, lv, A3, A2, r⟩ := J
  have J : ∃ h vs, vs.length = N ∧ Ary Z h nb .int vs ∧ Ary Z h o .int [.int (Int32.ofNat 0), .int (Int32.ofNat (e01 + e02 + e03)), .int (Int32.ofNat ((e01 + e02 + e03) + (e01 + e12 + e13))), .int (Int32.ofNat ((e01 + e02 + e03) + (e01 + e12 + e13) + (e02 + e12 + e23))), .int (Int32.ofNat ((e01 + e02 + e03) + (e01 + e12 + e13) + (e02 + e12 + e23) + (e03 + e13 + e23)))] ∧ Go w l room_1 Z n0 Y0 code maxLocals ret 222 [.val (.int y), .val (.int (Int32.ofNat e01)), .val (.int (Int32.ofNat e02)), .val (.int (Int32.ofNat e03)), .val (.int (Int32.ofNat e12)), .val (.int (Int32.ofNat e13)), .val (.int (Int32.ofNat e23)), .val (.int (Int32.ofNat (e01 + e02 + e03))), .val (.int (Int32.ofNat (e01 + e12 + e13))), .val (.int (Int32.ofNat (e02 + e12 + e23))), .val (.int (Int32.ofNat (e03 + e13 + e23))), .val (.ref o), .val (.ref nb), .val (.int (Int32.ofNat ((((((0 + e01) + e02) + e03) + e01) + e12) + e13))), .unset, .unset, .unset, .unset, .unset] [] h 2 17 := by
    replace r := r.ild5 209 at_207 rfl
    replace r := r.iconstV 210 at_209 rfl (1 : Int32) ic_1
    rcases r.ic_ne 222 213 at_210 (by decide) rfl with ⟨hc, r⟩ | ⟨hc, r⟩
    · rw [show (1 : Int32) = Int32.ofNat 1 from rfl, neqn (by omega) (by decide)] at hc
      rw [show ((((((0 + e01) + e02) + e03) + e01) + e12) + e13) = (((((0 + e01) + e02) + e03) + e01) + e12) from by omega]; exact ⟨_, _, lv, A3, A2, r⟩
    · rw [show (1 : Int32) = Int32.ofNat 1 from rfl, neqn (by omega) (by decide)] at hc
      replace r := r.ald12 215 at_213 rfl
      replace r := r.ild13 217 at_215 rfl
      replace r := r.iconstV 218 at_217 rfl (3 : Int32) ic_3
      obtain ⟨h', W', A3', r⟩ := r.iast 219 at_218 rfl A3 (len_nn (by omega)) (by rw [len_nat (by omega), lv]; omega) gb
      replace r := r.inc13 222 at_219 rfl (d := 1) rfl
      rw [nadd1, show (((((0 + e01) + e02) + e03) + e01) + e12) + 1 = ((((((0 + e01) + e02) + e03) + e01) + e12) + e13) from by omega] at r
      exact ⟨h', _, by rw [List.length_set]; exact lv, A3', A2.other W' dob, r⟩
  clear r A3 A2 lv
  obtain ⟨g6, vs, lv, A3, A2, r⟩ := J
  have J : ∃ h vs, vs.length = N ∧ Ary Z h nb .int vs ∧ Ary Z h o .int [.int (Int32.ofNat 0), .int (Int32.ofNat (e01 + e02 + e03)), .int (Int32.ofNat ((e01 + e02 + e03) + (e01 + e12 + e13))), .int (Int32.ofNat ((e01 + e02 + e03) + (e01 + e12 + e13) + (e02 + e12 + e23))), .int (Int32.ofNat ((e01 + e02 + e03) + (e01 + e12 + e13) + (e02 + e12 + e23) + (e03 + e13 + e23)))] ∧ Go w l room_1 Z n0 Y0 code maxLocals ret 236 [.val (.int y), .val (.int (Int32.ofNat e01)), .val (.int (Int32.ofNat e02)), .val (.int (Int32.ofNat e03)), .val (.int (Int32.ofNat e12)), .val (.int (Int32.ofNat e13)), .val (.int (Int32.ofNat e23)), .val (.int (Int32.ofNat (e01 + e02 + e03))), .val (.int (Int32.ofNat (e01 + e12 + e13))), .val (.int (Int32.ofNat (e02 + e12 + e23))), .val (.int (Int32.ofNat (e03 + e13 + e23))), .val (.ref o), .val (.ref nb), .val (.int (Int32.ofNat (((((((0 + e01) + e02) + e03) + e01) + e12) + e13) + e02))), .unset, .unset, .unset, .unset, .unset] [] h 2 17 := by
    replace r := r.ild2 223 at_222 rfl
    replace r := r.iconstV 224 at_223 rfl (1 : Int32) ic_1
    rcases r.ic_ne 236 227 at_224 (by decide) rfl with ⟨hc, r⟩ | ⟨hc, r⟩
    · rw [show (1 : Int32) = Int32.ofNat 1 from rfl, neqn (by omega) (by decide)] at hc
      rw [show (((((((0 + e01) + e02) + e03) + e01) + e12) + e13) + e02) = ((((((0 + e01) + e02) + e03) + e01) + e12) + e13) from by omega]; exact ⟨_, _, lv, A3, A2, r⟩
    · rw [show (1 : Int32) = Int32.ofNat 1 from rfl, neqn (by omega) (by decide)] at hc
      replace r := r.ald12 229 at_227 rfl
      replace r := r.ild13 231 at_229 rfl
      replace r := r.iconstV 232 at_231 rfl (0 : Int32) ic_0
      obtain ⟨h', W', A3', r⟩ := r.iast 233 at_232 rfl A3 (len_nn (by omega)) (by rw [len_nat (by omega), lv]; omega) gb
      replace r := r.inc13 236 at_233 rfl (d := 1) rfl
      rw [nadd1, show ((((((0 + e01) + e02) + e03) + e01) + e12) + e13) + 1 = (((((((0 + e01) + e02) + e03) + e01) + e12) + e13) + e02) from by omega] at r
      exact ⟨h', _, by rw [List.length_set]; exact lv, A3', A2.other W' dob, r⟩
  clear r A3 A2 lv
  obtain ⟨g7, vs, lv, A3, A2, r⟩ := J
  have J : ∃ h vs, vs.length = N ∧ Ary Z h nb .int vs ∧ Ary Z h o .int [.int (Int32.ofNat 0), .int (Int32.ofNat (e01 + e02 + e03)), .int (Int32.ofNat ((e01 + e02 + e03) + (e01 + e12 + e13))), .int (Int32.ofNat ((e01 + e02 + e03) + (e01 + e12 + e13) + (e02 + e12 + e23))), .int (Int32.ofNat ((e01 + e02 + e03) + (e01 + e12 + e13) + (e02 + e12 + e23) + (e03 + e13 + e23)))] ∧ Go w l room_1 Z n0 Y0 code maxLocals ret 251 [.val (.int y), .val (.int (Int32.ofNat e01)), .val (.int (Int32.ofNat e02)), .val (.int (Int32.ofNat e03)), .val (.int (Int32.ofNat e12)), .val (.int (Int32.ofNat e13)), .val (.int (Int32.ofNat e23)), .val (.int (Int32.ofNat (e01 + e02 + e03))), .val (.int (Int32.ofNat (e01 + e12 + e13))), .val (.int (Int32.ofNat (e02 + e12 + e23))), .val (.int (Int32.ofNat (e03 + e13 + e23))), .val (.ref o), .val (.ref nb), .val (.int (Int32.ofNat ((((((((0 + e01) + e02) + e03) + e01) + e12) + e13) + e02) + e12))), .unset, .unset, .unset, .unset, .unset] [] h 2 17 := by
    replace r := r.ild4 238 at_236 rfl
    replace r := r.iconstV 239 at_238 rfl (1 : Int32) ic_1
    rcases r.ic_ne 251 242 at_239 (by decide) rfl with ⟨hc, r⟩ | ⟨hc, r⟩
    · rw [show (1 : Int32) = Int32.ofNat 1 from rfl, neqn (by omega) (by decide)] at hc
      rw [show ((((((((0 + e01) + e02) + e03) + e01) + e12) + e13) + e02) + e12) = (((((((0 + e01) + e02) + e03) + e01) + e12) + e13) + e02) from by omega]; exact ⟨_, _, lv, A3, A2, r⟩
    · rw [show (1 : Int32) = Int32.ofNat 1 from rfl, neqn (by omega) (by decide)] at hc
      replace r := r.ald12 244 at_242 rfl
      replace r := r.ild13 246 at_244 rfl
      replace r := r.iconstV 247 at_246 rfl (1 : Int32) ic_1
      obtain ⟨h', W', A3', r⟩ := r.iast 248 at_247 rfl A3 (len_nn (by omega)) (by rw [len_nat (by omega), lv]; omega) gb
      replace r := r.inc13 251 at_248 rfl (d := 1) rfl
      rw [nadd1, show (((((((0 + e01) + e02) + e03) + e01) + e12) + e13) + e02) + 1 = ((((((((0 + e01) + e02) + e03) + e01) + e12) + e13) + e02) + e12) from by omega] at r
      exact ⟨h', _, by rw [List.length_set]; exact lv, A3', A2.other W' dob, r⟩
  clear r A3 A2 lv
  obtain ⟨g8, vs, lv, A3, A2, r⟩ := J
  have J : ∃ h vs, vs.length = N ∧ Ary Z h nb .int vs ∧ Ary Z h o .int [.int (Int32.ofNat 0), .int (Int32.ofNat (e01 + e02 + e03)), .int (Int32.ofNat ((e01 + e02 + e03) + (e01 + e12 + e13))), .int (Int32.ofNat ((e01 + e02 + e03) + (e01 + e12 + e13) + (e02 + e12 + e23))), .int (Int32.ofNat ((e01 + e02 + e03) + (e01 + e12 + e13) + (e02 + e12 + e23) + (e03 + e13 + e23)))] ∧ Go w l room_1 Z n0 Y0 code maxLocals ret 266 [.val (.int y), .val (.int (Int32.ofNat e01)), .val (.int (Int32.ofNat e02)), .val (.int (Int32.ofNat e03)), .val (.int (Int32.ofNat e12)), .val (.int (Int32.ofNat e13)), .val (.int (Int32.ofNat e23)), .val (.int (Int32.ofNat (e01 + e02 + e03))), .val (.int (Int32.ofNat (e01 + e12 + e13))), .val (.int (Int32.ofNat (e02 + e12 + e23))), .val (.int (Int32.ofNat (e03 + e13 + e23))), .val (.ref o), .val (.ref nb), .val (.int (Int32.ofNat (((((((((0 + e01) + e02) + e03) + e01) + e12) + e13) + e02) + e12) + e23))), .unset, .unset, .unset, .unset, .unset] [] h 2 17 := by
    replace r := r.ild6 253 at_251 rfl
    replace r := r.iconstV 254 at_253 rfl (1 : Int32) ic_1
    rcases r.ic_ne 266 257 at_254 (by decide) rfl with ⟨hc, r⟩ | ⟨hc, r⟩
    · rw [show (1 : Int32) = Int32.ofNat 1 from rfl, neqn (by omega) (by decide)] at hc
      rw [show (((((((((0 + e01) + e02) + e03) + e01) + e12) + e13) + e02) + e12) + e23) = ((((((((0 + e01) + e02) + e03) + e01) + e12) + e13) + e02) + e12) from by omega]; exact ⟨_, _, lv, A3, A2, r⟩
    · rw [show (1 : Int32) = Int32.ofNat 1 from rfl, neqn (by omega) (by decide)] at hc
      replace r := r.ald12 259 at_257 rfl
      replace r := r.ild13 261 at_259 rfl
      replace r := r.iconstV 262 at_261 rfl (3 : Int32) ic_3
      obtain ⟨h', W', A3', r⟩ := r.iast 263 at_262 rfl A3 (len_nn (by omega)) (by rw [len_nat (by omega), lv]; omega) gb
      replace r := r.inc13 266 at_263 rfl (d := 1) rfl
      rw [nadd1, show ((((((((0 + e01) + e02) + e03) + e01) + e12) + e13) + e02) + e12) + 1 = (((((((((0 + e01) + e02) + e03) + e01) + e12) + e13) + e02) + e12) + e23) from by omega] at r
      exact ⟨h', _, by rw [List.length_set]; exact lv, A3', A2.other W' dob, r⟩
  clear r A3 A2 lv
  obtain ⟨g9, vs, lv, A3, A2, r⟩ := J
  have J : ∃ h vs, vs.length = N ∧ Ary Z h nb .int vs ∧ Ary Z h o .int [.int (Int32.ofNat 0), .int (Int32.ofNat (e01 + e02 + e03)), .int (Int32.ofNat ((e01 + e02 + e03) + (e01 + e12 + e13))), .int (Int32.ofNat ((e01 + e02 + e03) + (e01 + e12 + e13) + (e02 + e12 + e23))), .int (Int32.ofNat ((e01 + e02 + e03) + (e01 + e12 + e13) + (e02 + e12 + e23) + (e03 + e13 + e23)))] ∧ Go w l room_1 Z n0 Y0 code maxLocals ret 280 [.val (.int y), .val (.int (Int32.ofNat e01)), .val (.int (Int32.ofNat e02)), .val (.int (Int32.ofNat e03)), .val (.int (Int32.ofNat e12)), .val (.int (Int32.ofNat e13)), .val (.int (Int32.ofNat e23)), .val (.int (Int32.ofNat (e01 + e02 + e03))), .val (.int (Int32.ofNat (e01 + e12 + e13))), .val (.int (Int32.ofNat (e02 + e12 + e23))), .val (.int (Int32.ofNat (e03 + e13 + e23))), .val (.ref o), .val (.ref nb), .val (.int (Int32.ofNat ((((((((((0 + e01) + e02) + e03) + e01) + e12) + e13) + e02) + e12) + e23) + e03))), .unset, .unset, .unset, .unset, .unset] [] h 2 17 := by
    replace r := r.ild3 267 at_266 rfl
    replace r := r.iconstV 268 at_267 rfl (1 : Int32) ic_1
    rcases r.ic_ne 280 271 at_268 (by decide) rfl with ⟨hc, r⟩ | ⟨hc, r⟩
    · rw [show (1 : Int32) = Int32.ofNat 1 from rfl, neqn (by omega) (by decide)] at hc
      rw [show ((((((((((0 + e01) + e02) + e03) + e01) + e12) + e13) + e02) + e12) + e23) + e03) = (((((((((0 + e01) + e02) + e03) + e01) + e12) + e13) + e02) + e12) + e23) from by omega]; exact ⟨_, _, lv, A3, A2, r⟩
    · rw [show (1 : Int32) = Int32.ofNat 1 from rfl, neqn (by omega) (by decide)] at hc
      replace r := r.ald12 273 at_271 rfl
      replace r := r.ild13 275 at_273 rfl
      replace r := r.iconstV 276 at_275 rfl (0 : Int32) ic_0
      obtain ⟨h', W', A3', r⟩ := r.iast 277 at_276 rfl A3 (len_nn (by omega)) (by rw [len_nat (by omega), lv]; omega) gb
      replace r := r.inc13 280 at_277 rfl (d := 1) rfl
      rw [nadd1, show (((((((((0 + e01) + e02) + e03) + e01) + e12) + e13) + e02) + e12) + e23) + 1 = ((((((((((0 + e01) + e02) + e03) + e01) + e12) + e13) + e02) + e12) + e23) + e03) from by omega] at r
      exact ⟨h', _, by rw [List.length_set]; exact lv, A3', A2.other W' dob, r⟩
  clear r A3 A2 lv
  obtain ⟨g10, vs, lv, A3, A2, r⟩ := J
  have J : ∃ h vs, vs.length = N ∧ Ary Z h nb .int vs ∧ Ary Z h o .int [.int (Int32.ofNat 0), .int (Int32.ofNat (e01 + e02 + e03)), .int (Int32.ofNat ((e01 + e02 + e03) + (e01 + e12 + e13))), .int (Int32.ofNat ((e01 + e02 + e03) + (e01 + e12 + e13) + (e02 + e12 + e23))), .int (Int32.ofNat ((e01 + e02 + e03) + (e01 + e12 + e13) + (e02 + e12 + e23) + (e03 + e13 + e23)))] ∧ Go w l room_1 Z n0 Y0 code maxLocals ret 295 [.val (.int y), .val (.int (Int32.ofNat e01)), .val (.int (Int32.ofNat e02)), .val (.int (Int32.ofNat e03)), .val (.int (Int32.ofNat e12)), .val (.int (Int32.ofNat e13)), .val (.int (Int32.ofNat e23)), .val (.int (Int32.ofNat (e01 + e02 + e03))), .val (.int (Int32.ofNat (e01 + e12 + e13))), .val (.int (Int32.ofNat (e02 + e12 + e23))), .val (.int (Int32.ofNat (e03 + e13 + e23))), .val (.ref o), .val (.ref nb), .val (.int (Int32.ofNat (((((((((((0 + e01) + e02) + e03) + e01) + e12) + e13) + e02) + e12) + e23) + e03) + e13))), .unset, .unset, .unset, .unset, .unset] [] h 2 17 := by
    replace r := r.ild5 282 at_280 rfl
    replace r := r.iconstV 283 at_282 rfl (1 : Int32) ic_1
    rcases r.ic_ne 295 286 at_283 (by decide) rfl with ⟨hc, r⟩ | ⟨hc, r⟩
    · rw [show (1 : Int32) = Int32.ofNat 1 from rfl, neqn (by omega) (by decide)] at hc
      rw [show (((((((((((0 + e01) + e02) + e03) + e01) + e12) + e13) + e02) + e12) + e23) + e03) + e13) = ((((((((((0 + e01) + e02) + e03) + e01) + e12) + e13) + e02) + e12) + e23) + e03) from by omega]; exact ⟨_, _, lv, A3, A2, r⟩
    · rw [show (1 : Int32) = Int32.ofNat 1 from rfl, neqn (by omega) (by decide)] at hc
      replace r := r.ald12 288 at_286 rfl
      replace r := r.ild13 290 at_288 rfl
      replace r := r.iconstV 291 at_290 rfl (1 : Int32) ic_1
      obtain ⟨h', W', A3', r⟩ := r.iast 292 at_291 rfl A3 (len_nn (by omega)) (by rw [len_nat (by omega), lv]; omega) gb
      replace r := r.inc13 295 at_292 rfl (d := 1) rfl
      rw [nadd1, show ((((((((((0 + e01) + e02) + e03) + e01) + e12) + e13) + e02) + e12) + e23) + e03) + 1 = (((((((((((0 + e01) + e02) + e03) + e01) + e12) + e13) + e02) + e12) + e23) + e03) + e13) from by omega] at r
      exact ⟨h', _, by rw [List.length_set]; exact lv, A3', A2.other W' dob, r⟩
  clear r A3 A2 lv
  obtain ⟨g11, vs, lv, A3, A2, r⟩ := J
  have J : ∃ h vs, vs.length = N ∧ Ary Z h nb .int vs ∧ Ary Z h o .int [.int (Int32.ofNat 0), .int (Int32.ofNat (e01 + e02 + e03)), .int (Int32.ofNat ((e01 + e02 + e03) + (e01 + e12 + e13))), .int (Int32.ofNat ((e01 + e02 + e03) + (e01 + e12 + e13) + (e02 + e12 + e23))), .int (Int32.ofNat ((e01 + e02 + e03) + (e01 + e12 + e13) + (e02 + e12 + e23) + (e03 + e13 + e23)))] ∧ Go w l room_1 Z n0 Y0 code maxLocals ret 310 [.val (.int y), .val (.int (Int32.ofNat e01)), .val (.int (Int32.ofNat e02)), .val (.int (Int32.ofNat e03)), .val (.int (Int32.ofNat e12)), .val (.int (Int32.ofNat e13)), .val (.int (Int32.ofNat e23)), .val (.int (Int32.ofNat (e01 + e02 + e03))), .val (.int (Int32.ofNat (e01 + e12 + e13))), .val (.int (Int32.ofNat (e02 + e12 + e23))), .val (.int (Int32.ofNat (e03 + e13 + e23))), .val (.ref o), .val (.ref nb), .val (.int (Int32.ofNat ((((((((((((0 + e01) + e02) + e03) + e01) + e12) + e13) + e02) + e12) + e23) + e03) + e13) + e23))), .unset, .unset, .unset, .unset, .unset] [] h 2 17 := by
    replace r := r.ild6 297 at_295 rfl
    replace r := r.iconstV 298 at_297 rfl (1 : Int32) ic_1
    rcases r.ic_ne 310 301 at_298 (by decide) rfl with ⟨hc, r⟩ | ⟨hc, r⟩
    · rw [show (1 : Int32) = Int32.ofNat 1 from rfl, neqn (by omega) (by decide)] at hc
      rw [show ((((((((((((0 + e01) + e02) + e03) + e01) + e12) + e13) + e02) + e12) + e23) + e03) + e13) + e23) = (((((((((((0 + e01) + e02) + e03) + e01) + e12) + e13) + e02) + e12) + e23) + e03) + e13) from by omega]; exact ⟨_, _, lv, A3, A2, r⟩
    · rw [show (1 : Int32) = Int32.ofNat 1 from rfl, neqn (by omega) (by decide)] at hc
      replace r := r.ald12 303 at_301 rfl
      replace r := r.ild13 305 at_303 rfl
      replace r := r.iconstV 306 at_305 rfl (2 : Int32) ic_2
      obtain ⟨h', W', A3', r⟩ := r.iast 307 at_306 rfl A3 (len_nn (by omega)) (by rw [len_nat (by omega), lv]; omega) gb
      replace r := r.inc13 310 at_307 rfl (d := 1) rfl
      rw [nadd1, show (((((((((((0 + e01) + e02) + e03) + e01) + e12) + e13) + e02) + e12) + e23) + e03) + e13) + 1 = ((((((((((((0 + e01) + e02) + e03) + e01) + e12) + e13) + e02) + e12) + e23) + e03) + e13) + e23) from by omega] at r
      exact ⟨h', _, by rw [List.length_set]; exact lv, A3', A2.other W' dob, r⟩
  clear r A3 A2 lv
  obtain ⟨g12, vs, lv, A3, A2, r⟩ := J
  obtain ⟨h8, g, z8, X8, E8, D8, r⟩ := r.newO 313 at_310 rfl (wd_1 hw) (wd_2 hw) (wd_3 hw) (by decide) (by decide)
  have gg : n0 ≤ g := by rw [z8]; exact Nat.le_trans go (Nat.le_of_lt A2.lt)
  have go' : g ≠ o := by rw [z8]; exact Ne.symm (Nat.ne_of_lt A2.lt)
  have gb' : g ≠ nb := by rw [z8]; exact Ne.symm (Nat.ne_of_lt A3.lt)
  replace A2 := A2.ext X8; replace A3 := A3.ext X8
  have F1 := (D8 (Or.inl (wd_16 hw)) (ty := .int) (by decide)); have F2 := (D8 (Or.inr (wd_18 hw)) (ty := (.array .long)) (by decide)); have F3 := (D8 (Or.inr (wd_20 hw)) (ty := (.array .int)) (by decide)); have F4 := (D8 (Or.inr (wd_22 hw)) (ty := (.array .int)) (by decide)); have F5 := (D8 (Or.inr (wd_24 hw)) (ty := .long) (by decide)); have F6 := (D8 (Or.inr (wd_26 hw)) (ty := .long) (by decide))
  replace r := r.dup 314 at_313 rfl rfl
  replace r := r.iconstV 315 at_314 rfl (4 : Int32) ic_4
  obtain ⟨h9, i, z9, X9, A1, r⟩ := r.newA (vs := [.long 0, .long 0, .long 0, .long 0]) 317 at_315 rfl (wd_4 hw) (by decide) rfl 4 (by decide) (by decide) (by decide) (by decide)
  have gi' : g ≠ i := by rw [z9]; exact Nat.ne_of_lt E8.lt
  have oi : o ≠ i := by rw [z9]; exact Nat.ne_of_lt A2.lt
  have bi : nb ≠ i := by rw [z9]; exact Nat.ne_of_lt A3.lt
  have gi : n0 ≤ i := by rw [z9]; exact Nat.le_trans gg (Nat.le_of_lt E8.lt)
  replace E8 := E8.ext X9; replace A2 := A2.ext X9; replace A3 := A3.ext X9; replace F1 := F1.ext X9; replace F2 := F2.ext X9; replace F3 := F3.ext X9; replace F4 := F4.ext X9; replace F5 := F5.ext X9; replace F6 := F6.ext X9
  replace r := r.dup 318 at_317 rfl rfl
  replace r := r.iconstV 319 at_318 rfl (0 : Int32) ic_0
  replace r := r.ldc2 322 at_319 rfl (wd_5 hw)
  obtain ⟨h10, W10, A1, r⟩ := r.last 323 at_322 rfl A1 (by decide) (Nat.le_of_ble_eq_true rfl) gi
  replace E8 := E8.wr W10; replace A2 := A2.other W10 oi; replace A3 := A3.other W10 bi; replace F1 := F1.other W10 (Or.inl gi'); replace F2 := F2.other W10 (Or.inl gi'); replace F3 := F3.other W10 (Or.inl gi'); replace F4 := F4.other W10 (Or.inl gi'); replace F5 := F5.other W10 (Or.inl gi'); replace F6 := F6.other W10 (Or.inl gi')
  replace r := r.dup 324 at_323 rfl rfl
  replace r := r.iconstV 325 at_324 rfl (1 : Int32) ic_1
  replace r := r.ldc2 328 at_325 rfl (wd_6 hw)
  obtain ⟨h11, W11, A1, r⟩ := r.last 329 at_328 rfl A1 (by decide) (Nat.le_of_ble_eq_true rfl) gi
  replace E8 := E8.wr W11; replace A2 := A2.other W11 oi; replace A3 := A3.other W11 bi; replace F1 := F1.other W11 (Or.inl gi'); replace F2 := F2.other W11 (Or.inl gi'); replace F3 := F3.other W11 (Or.inl gi'); replace F4 := F4.other W11 (Or.inl gi'); replace F5 := F5.other W11 (Or.inl gi'); replace F6 := F6.other W11 (Or.inl gi')
  replace r := r.dup 330 at_329 rfl rfl
  replace r := r.iconstV 331 at_330 rfl (2 : Int32) ic_2
  replace r := r.ldc2 334 at_331 rfl (wd_7 hw)
  obtain ⟨h12, W12, A1, r⟩ := r.last 335 at_334 rfl A1 (by decide) (Nat.le_of_ble_eq_true rfl) gi
  replace E8 := E8.wr W12; replace A2 := A2.other W12 oi; replace A3 := A3.other W12 bi; replace F1 := F1.other W12 (Or.inl gi'); replace F2 := F2.other W12 (Or.inl gi'); replace F3 := F3.other W12 (Or.inl gi'); replace F4 := F4.other W12 (Or.inl gi'); replace F5 := F5.other W12 (Or.inl gi'); replace F6 := F6.other W12 (Or.inl gi')
  replace r := r.dup 336 at_335 rfl rfl
  replace r := r.iconstV 337 at_336 rfl (3 : Int32) ic_3
  replace r := r.ldc2 340 at_337 rfl (wd_8 hw)
  obtain ⟨h13, W13, A1, r⟩ := r.last 341 at_340 rfl A1 (by decide) (Nat.le_of_ble_eq_true rfl) gi
  replace E8 := E8.wr W13; replace A2 := A2.other W13 oi; replace A3 := A3.other W13 bi; replace F1 := F1.other W13 (Or.inl gi'); replace F2 := F2.other W13 (Or.inl gi'); replace F3 := F3.other W13 (Or.inl gi'); replace F4 := F4.other W13 (Or.inl gi'); replace F5 := F5.other W13 (Or.inl gi'); replace F6 := F6.other W13 (Or.inl gi')
  replace r := r.ald11 343 at_341 rfl
  replace r := r.ald12 345 at_343 rfl
  replace r := r.lconstV 346 at_345 rfl (0 : Int64) rfl
  replace r := r.lconstV 347 at_346 rfl (0 : Int64) rfl
  obtain ⟨_, hg, ⟨rfl, G, -⟩, r'⟩ := r.callI (as := [.ref i, .ref o, .ref nb, .long 0, .long 0]) (rest := [.ref g]) 350 at_347 rfl (ginit_met hw g i o nb 0 0 _ _ _ _ n0 gg gi' go' gb' E8 F1 F2 F3 F4 F5 F6 A1 A2 A3) rfl (wd_9 hw) (wd_10 hw) (wd_3 hw) (wd_11 hw) pd_1 rfl rfl rfl (by decide) (Nat.le_of_ble_eq_true rfl) (Nat.le_of_ble_eq_true rfl) (Nat.le_of_ble_eq_true rfl) (Nat.le_of_ble_eq_true rfl)
  clear r; have r := r'; clear r'
  change Go w l _ Z n0 _ _ _ _ _ _ [.ref g] _ _ _ at r
  replace r := r.ast14 352 at_350 rfl (One.of rfl)
  replace r := r.ald14 354 at_352 rfl
  replace r := r.iconstV 355 at_354 rfl (0 : Int32) ic_0
  obtain ⟨_, _, ⟨_, rfl, rfl, rfl⟩, r'⟩ := r.callV (as := [.int (Int32.ofNat 0)]) (rest := []) 358 at_355 rfl (deg_met hw g i o nb _ _ _ 0 _ _ _ n0 G rfl rfl) G.1 (wd_27 hw) (wd_28 hw) (wd_29 hw) (wd_30 hw) (wd_3 hw) (wd_31 hw) pd_3 rfl rfl rfl (by decide) (Nat.le_of_ble_eq_true rfl) (Nat.le_of_ble_eq_true rfl) (Nat.le_of_ble_eq_true rfl) (Nat.le_of_ble_eq_true rfl)
  clear r; have r := r'; clear r'
  rw [show Int32.ofNat (e01 + e02 + e03) - Int32.ofNat 0 = Int32.ofNat (e01 + e02 + e03) from by rw [nsub (by omega), show (e01 + e02 + e03) - 0 = (e01 + e02 + e03) from by omega]] at r
  change Go w l _ Z n0 _ _ _ _ _ _ [.int (Int32.ofNat (e01 + e02 + e03))] _ _ _ at r
  replace r := r.ist15 360 at_358 rfl (One.of rfl)
  replace r := r.ald14 362 at_360 rfl
  replace r := r.iconstV 363 at_362 rfl (1 : Int32) ic_1
  obtain ⟨_, _, ⟨_, rfl, rfl, rfl⟩, r'⟩ := r.callV (as := [.int (Int32.ofNat 1)]) (rest := []) 366 at_363 rfl (deg_met hw g i o nb _ _ _ 1 _ _ _ n0 G rfl rfl) G.1 (wd_27 hw) (wd_28 hw) (wd_29 hw) (wd_30 hw) (wd_3 hw) (wd_31 hw) pd_3 rfl rfl rfl (by decide) (Nat.le_of_ble_eq_true rfl) (Nat.le_of_ble_eq_true rfl) (Nat.le_of_ble_eq_true rfl) (Nat.le_of_ble_eq_true rfl)
  clear r; have r := r'; clear r'
  rw [show Int32.ofNat ((e01 + e02 + e03) + (e01 + e12 + e13)) - Int32.ofNat (e01 + e02 + e03) = Int32.ofNat (e01 + e12 + e13) from by rw [nsub (by omega), show ((e01 + e02 + e03) + (e01 + e12 + e13)) - (e01 + e02 + e03) = (e01 + e12 + e13) from by omega]] at r
  change Go w l _ Z n0 _ _ _ _ _ _ [.int (Int32.ofNat (e01 + e12 + e13))] _ _ _ at r
  replace r := r.ist16 368 at_366 rfl (One.of rfl)
  replace r := r.ald14 370 at_368 rfl
  replace r := r.iconstV 371 at_370 rfl (2 : Int32) ic_2
  obtain ⟨_, _, ⟨_, rfl, rfl, rfl⟩, r'⟩ := r.callV (as := [.int (Int32.ofNat 2)]) (rest := []) 374 at_371 rfl (deg_met hw g i o nb _ _ _ 2 _ _ _ n0 G rfl rfl) G.1 (wd_27 hw) (wd_28 hw) (wd_29 hw) (wd_30 hw) (wd_3 hw) (wd_31 hw) pd_3 rfl rfl rfl (by decide) (Nat.le_of_ble_eq_true rfl) (Nat.le_of_ble_eq_true rfl) (Nat.le_of_ble_eq_true rfl) (Nat.le_of_ble_eq_true rfl)
  clear r; have r := r'; clear r'
  rw [show Int32.ofNat ((e01 + e02 + e03) + (e01 + e12 + e13) + (e02 + e12 + e23)) - Int32.ofNat ((e01 + e02 + e03) + (e01 + e12 + e13)) = Int32.ofNat (e02 + e12 + e23) from by rw [nsub (by omega), show ((e01 + e02 + e03) + (e01 + e12 + e13) + (e02 + e12 + e23)) - ((e01 + e02 + e03) + (e01 + e12 + e13)) = (e02 + e12 + e23) from by omega]] at r
  change Go w l _ Z n0 _ _ _ _ _ _ [.int (Int32.ofNat (e02 + e12 + e23))] _ _ _ at r
  replace r := r.ist17 376 at_374 rfl (One.of rfl)
  replace r := r.ald14 378 at_376 rfl
  replace r := r.iconstV 379 at_378 rfl (3 : Int32) ic_3
  obtain ⟨_, _, ⟨_, rfl, rfl, rfl⟩, r'⟩ := r.callV (as := [.int (Int32.ofNat 3)]) (rest := []) 382 at_379 rfl (deg_met hw g i o nb _ _ _ 3 _ _ _ n0 G rfl rfl) G.1 (wd_27 hw) (wd_28 hw) (wd_29 hw) (wd_30 hw) (wd_3 hw) (wd_31 hw) pd_3 rfl rfl rfl (by decide) (Nat.le_of_ble_eq_true rfl) (Nat.le_of_ble_eq_true rfl) (Nat.le_of_ble_eq_true rfl) (Nat.le_of_ble_eq_true rfl)
  clear r; have r := r'; clear r'
  rw [show Int32.ofNat ((e01 + e02 + e03) + (e01 + e12 + e13) + (e02 + e12 + e23) + (e03 + e13 + e23)) - Int32.ofNat ((e01 + e02 + e03) + (e01 + e12 + e13) + (e02 + e12 + e23)) = Int32.ofNat (e03 + e13 + e23) from by rw [nsub (by omega), show ((e01 + e02 + e03) + (e01 + e12 + e13) + (e02 + e12 + e23) + (e03 + e13 + e23)) - ((e01 + e02 + e03) + (e01 + e12 + e13) + (e02 + e12 + e23)) = (e03 + e13 + e23) from by omega]] at r
  change Go w l _ Z n0 _ _ _ _ _ _ [.int (Int32.ofNat (e03 + e13 + e23))] _ _ _ at r
  replace r := r.ist18 384 at_382 rfl (One.of rfl)
  replace r := r.ild15 386 at_384 rfl
  replace r := r.ild7 388 at_386 rfl
  replace r := r.ic_neF 391 at_388 rfl rfl
  replace r := r.ild16 393 at_391 rfl
  replace r := r.ild8 395 at_393 rfl
  replace r := r.ic_neF 398 at_395 rfl rfl
  replace r := r.ild17 400 at_398 rfl
  replace r := r.ild9 402 at_400 rfl
  replace r := r.ic_neF 405 at_402 rfl rfl
  replace r := r.ild18 407 at_405 rfl
  replace r := r.ild10 409 at_407 rfl
  replace r := r.ic_neF 412 at_409 rfl rfl
  replace r := r.ild15 414 at_412 rfl
  replace r := r.ild16 416 at_414 rfl
  replace r := r.iadd 417 at_416 rfl
  rw [nadd] at r
  replace r := r.ild17 419 at_417 rfl
  replace r := r.iadd 420 at_419 rfl
  rw [nadd] at r
  replace r := r.ild18 422 at_420 rfl
  replace r := r.iadd 423 at_422 rfl
  rw [nadd] at r
  replace r := r.iconstV 424 at_423 rfl (2 : Int32) ic_2
  replace r := r.ald14 426 at_424 rfl
  obtain ⟨_, _, ⟨_, rfl, rfl, rfl⟩, r'⟩ := r.callV (as := []) (rest := [.int 2, .int (Int32.ofNat ((e01 + e02 + e03) + (e01 + e12 + e13) + (e02 + e12 + e23) + (e03 + e13 + e23)))]) 429 at_426 rfl (ec_met hw g i o nb _ _ _ _ n0 G) G.1 (wd_32 hw) (wd_33 hw) (wd_34 hw) (wd_35 hw) (wd_3 hw) (wd_36 hw) pd_4 rfl rfl rfl (by decide) (Nat.le_of_ble_eq_true rfl) (Nat.le_of_ble_eq_true rfl) (Nat.le_of_ble_eq_true rfl) (Nat.le_of_ble_eq_true rfl)
  clear r; have r := r'; clear r'
  rw [lv, half N (by omega)] at r
  change Go w l _ Z n0 _ _ _ _ _ _ [.int _, .int _, .int _] _ _ _ at r
  replace r := r.imul 430 at_429 rfl
  rw [twice (N / 2) (by omega), show 2 * (N / 2) = ((e01 + e02 + e03) + (e01 + e12 + e13) + (e02 + e12 + e23) + (e03 + e13 + e23)) from by omega] at r
  replace r := r.ic_neF 433 at_430 rfl rfl
  replace r := r.iconstV 434 at_433 rfl (1 : Int32) ic_1
  replace r := r.goto 438 at_434 (by decide)
  exact r.retN at_438 (Or.inl rfl) (z' := 1) rfl (by rfl) (by decide) (by decide)
set_option maxRecDepth 65536 in
set_option maxHeartbeats 40000000 in
theorem comes_1 {Post : Tables → Env → Array Value → State → Outcome → State → Prop} (hpost : ∀ tb e args s v u, (limb_1_1.after args s (.returned v) u = true ∧ limb_1_2.after args s (.returned v) u = true ∧ True) → FrameEnd s (.returned v) u (Jvm.fieldLocs frame_1_writes args s ++ Jvm.arrayLocs frame_1_arrays args s ++ Jvm.staticLocs frame_1_statics s) 16 128 → Post tb e args s (.returned v) u) :
    ArmFor flags0 classFile x code maxLocals ret World_1 tables_1 room_1 Calls_1 rest_1 Pre_1 Post := by
  intro l hfl _ _ p e ha hc hk s m args below hf hA hF happ hP
  obtain ⟨hcalls, hrest, hpre⟩ := hP
  obtain ⟨-, -, -, hnamed, -, -, -, hat⟩ := (Spec.applies_iff hf).mp happ
  obtain ⟨hg, hn⟩ := and_e (Cond.before_iff.mp (show (Jvm.Cond.and given_1 narrow_1).before args s = true from hpre))
  obtain ⟨g1, g2⟩ := and_e hg
  obtain ⟨w0, rfl⟩ : ∃ w0 : Value, args = #[w0] := by
    have hs : args.size = 1 := by simpa [Cond.value, given_1] using g1
    obtain ⟨L⟩ := args
    match L, hs with
    | [w0], _ => exact ⟨w0, rfl⟩
  have hw : Ws s _ := fun d (hd : d ∈ tables_1) => atoms_spec (ws := Jvm.Cond.code x code maxLocals ret :: tables_1) hat d (List.mem_cons_of_mem _ hd)
  obtain ⟨i0, ei0⟩ := is_v g2
  obtain rfl : w0 = (.int i0) := Option.some.inj ei0
  obtain ⟨n, o, h1, h2, h3, _, L, rfl, ⟨⟨_, rfl, rfl⟩, N⟩, hq⟩ := law_met (l := l) hw i0 s.heap s.heap.size (Nat.le_refl _) tables_1 p e ha hc hk s m _ below hf ((Spec.applies_iff_loose hf).mp happ).1 ⟨rfl, State.Warmed39.refl s, rfl⟩ trivial
  refine ⟨n, _, h1, h2, h3, hpost _ _ _ _ _ _ ⟨Cond.after_iff.mpr rfl, Cond.after_iff.mpr (eq_i res_at (Term.int_eval (1)) rfl), trivial⟩ ⟨hq.1, hq.2.1, (hq.2.2.sift fun y hy => Or.inr (N y hy)).mono (by decide) (by decide)⟩⟩
theorem main_1_1 : Claimed_1_1 := comes_1 fun _ _ _ _ _ _ h hF => ⟨h.1, hF⟩
theorem main_1_2 : Claimed_1_2 := comes_1 fun _ _ _ _ _ _ h hF => ⟨h.2.1, hF⟩
end Jvm.Pilot.@@N@@
namespace Jvm.Pilot.@@N@@
open Jvm Jvm.ClassFile Sem Op Lib Jvm.Free Jvm.Stand Jvm.Pilot.@@N@@.Jvm.D
/-! MADE BY PROGRAM (witnessworld.py) out of the Statement's table words and the real class files: 11 classes; the members and pool entries that the words name. The judged class is class 1, her method 1. -/
namespace start1
open Jvm.ClassFile
def u (s : String) : CpInfo := .utf8 (stringToUtf16 s)
/-- a pool by its gaps: so many unusable entries, then the entry; so many at the end -/
def gap : Nat → List CpInfo → List CpInfo
  | 0, r => r
  | n + 1, r => .unusable :: gap n r
def poolList (es : List (Nat × CpInfo)) (last : Nat) : List CpInfo := es.foldr (fun e r => gap e.1 (e.2 :: r)) (gap last [])
def pool (es : List (Nat × CpInfo)) (last : Nat) : Array CpInfo := ⟨poolList es last⟩
def fileOf (pool : Array CpInfo) (this : Nat) (attrs : Array Attribute := #[]) (ms : Array MethodInfo := #[]) (fl : Nat := 33) (sup : Nat := 0) (ifs : Array Nat := #[]) (fds : Array FieldInfo := #[]) : ClassFile where
  minorVersion := 0
  majorVersion := 65
  constantPool := pool
  accessFlags := fl
  thisClass := this
  superClass := sup
  interfaces := ifs
  fields := fds
  methods := ms
  attributes := attrs
def plain (name : String) (sup : Option ClassId) : Class where
  name := name
  kind := .ordinary
  loader := none
  accessFlags := 33
  super := sup
  interfaces := #[]
  cf := none
  fields := #[]
  methods := #[]
  instanceTypes := #[]
  staticTypes := #[]
  resolved := #[]
  callSites := []
  init := .initialized
  statics := none
  mirror := none

def pool0 : Array CpInfo := pool [(5, u "<init>"), (0, u "()V"), (1, .class_ 10), (1, u "java/lang/Object")] 113

def k0c0 : Code := { maxStack := 0, maxLocals := 1, code := object_method_1_code, exceptionTable := #[], attributes := #[] }
def k0m0 : Method := { name := "<init>", desc := "()V", sig := { parameters := [], returnType := none }, accessFlags := 1, code := some k0c0 }
/-- java/lang/Object -/
def k0 : Class := { plain "java/lang/Object" none with
  accessFlags := 33
  interfaces := #[]
  cf := some (fileOf pool0 8 #[] #[{ accessFlags := 1, nameIndex := 5, descriptorIndex := 6, attributes := #[] }] 33 0 #[] #[])
  fields := #[]
  methods := #[k0m0]
  instanceTypes := #[]
  staticTypes := #[]
  resolved := Array.replicate 124 none
  statics := none }

def pool1 : Array CpInfo := pool [(2, .class_ 4), (1, u "java/lang/Object"), (0, u "<init>"), (0, u "()V"), (0, .class_ 8), (0, u "com/example/firehouse/firehouse/Graph"), (0, .long 10), (1, .long 20), (1, .long 30), (1, .long 40), (1, .methodref 7 18), (0, .nameAndType 5 19), (0, u "([J[I[IJJ)V"), (0, .methodref 7 21), (0, .nameAndType 22 23), (0, u "degree"), (0, u "(I)I"), (0, .methodref 7 25), (0, .nameAndType 26 27), (0, u "edgeCount"), (0, u "()I"), (0, .class_ 29), (0, u "com/example/firehouse/firehouse/GraphDegreePinLaw"), (2, u "law"), (0, u "(I)Z")] 5

def k1m0 : Method := { name := "<init>", desc := "()V", sig := { parameters := [], returnType := none }, accessFlags := 1, code := none }
def k1c1 : Code := { maxStack := 9, maxLocals := 19, code := code, exceptionTable := #[], attributes := #[] }
def k1m1 : Method := { name := "law", desc := "(I)Z", sig := { parameters := [.int], returnType := some .boolean }, accessFlags := 9, code := some k1c1 }
/-- com/example/firehouse/firehouse/GraphDegreePinLaw -/
def k1 : Class := { plain "com/example/firehouse/firehouse/GraphDegreePinLaw" (some 0) with
  accessFlags := 49
  interfaces := #[]
  cf := some (fileOf pool1 28 #[] #[{ accessFlags := 1, nameIndex := 5, descriptorIndex := 6, attributes := #[] }, { accessFlags := 9, nameIndex := 32, descriptorIndex := 33, attributes := #[] }] 49 2 #[] #[])
  fields := #[]
  methods := #[k1m0, k1m1]
  instanceTypes := #[]
  staticTypes := #[]
  resolved := Array.replicate 39 none
  statics := none }

def pool2 : Array CpInfo := pool [(1, .methodref 2 3), (0, .class_ 4), (0, .nameAndType 5 6), (0, u "java/lang/Object"), (0, u "<init>"), (0, u "()V"), (0, .fieldref 8 9), (0, .class_ 10), (0, .nameAndType 11 12), (0, u "com/example/firehouse/firehouse/Graph"), (0, u "componentCount"), (0, u "I"), (0, .fieldref 8 14), (0, .nameAndType 15 16), (0, u "ids"), (0, u "[J"), (0, .fieldref 8 18), (0, .nameAndType 19 20), (0, u "offsets"), (0, u "[I"), (0, .fieldref 8 22), (0, .nameAndType 23 20), (0, u "neighbours"), (0, .fieldref 8 25), (0, .nameAndType 26 27), (0, u "selfLoopsDropped"), (0, u "J"), (0, .fieldref 8 29), (0, .nameAndType 30 27), (0, u "repeatedEdgesMerged"), (19, u "()I"), (20, u "([J[I[IJJ)V"), (20, u "edgeCount"), (9, u "degree"), (0, u "(I)I")] 26

def k2c0 : Code := { maxStack := 3, maxLocals := 8, code := prog_16_method_1_code, exceptionTable := #[], attributes := #[] }
def k2m0 : Method := { name := "<init>", desc := "([J[I[IJJ)V", sig := { parameters := [(.array .long), (.array .int), (.array .int), .long, .long], returnType := none }, accessFlags := 0, code := some k2c0 }
def k2c1 : Code := { maxStack := 2, maxLocals := 1, code := prog_16_method_3_code, exceptionTable := #[], attributes := #[] }
def k2m1 : Method := { name := "edgeCount", desc := "()I", sig := { parameters := [], returnType := some .int }, accessFlags := 1, code := some k2c1 }
def k2c2 : Code := { maxStack := 3, maxLocals := 2, code := prog_16_method_11_code, exceptionTable := #[], attributes := #[] }
def k2m2 : Method := { name := "degree", desc := "(I)I", sig := { parameters := [.int], returnType := some .int }, accessFlags := 0, code := some k2c2 }
/-- com/example/firehouse/firehouse/Graph -/
def k2 : Class := { plain "com/example/firehouse/firehouse/Graph" (some 0) with
  accessFlags := 49
  interfaces := #[]
  cf := some (fileOf pool2 8 #[] #[{ accessFlags := 0, nameIndex := 5, descriptorIndex := 71, attributes := #[] }, { accessFlags := 1, nameIndex := 92, descriptorIndex := 50, attributes := #[] }, { accessFlags := 0, nameIndex := 102, descriptorIndex := 103, attributes := #[] }] 49 2 #[] #[{ accessFlags := 18, nameIndex := 15, descriptorIndex := 16, attributes := #[] }, { accessFlags := 18, nameIndex := 19, descriptorIndex := 20, attributes := #[] }, { accessFlags := 18, nameIndex := 23, descriptorIndex := 20, attributes := #[] }, { accessFlags := 18, nameIndex := 26, descriptorIndex := 27, attributes := #[] }, { accessFlags := 18, nameIndex := 30, descriptorIndex := 27, attributes := #[] }, { accessFlags := 2, nameIndex := 11, descriptorIndex := 12, attributes := #[] }])
  fields := #[{ name := "ids", type := (.array .long), accessFlags := 18, slot := 0, constantValue := 0 }, { name := "offsets", type := (.array .int), accessFlags := 18, slot := 1, constantValue := 0 }, { name := "neighbours", type := (.array .int), accessFlags := 18, slot := 2, constantValue := 0 }, { name := "selfLoopsDropped", type := .long, accessFlags := 18, slot := 3, constantValue := 0 }, { name := "repeatedEdgesMerged", type := .long, accessFlags := 18, slot := 4, constantValue := 0 }, { name := "componentCount", type := .int, accessFlags := 2, slot := 5, constantValue := 0 }]
  methods := #[k2m0, k2m1, k2m2]
  instanceTypes := #[(.array .long), (.array .int), (.array .int), .long, .long, .int]
  staticTypes := #[]
  resolved := Array.replicate 130 none
  statics := none }

def pool3 : Array CpInfo := pool [(1, u "java/lang/Cloneable"), (0, .class_ 1), (0, u "java/lang/Object"), (0, .class_ 3)] 3

/-- java/lang/Cloneable -/
def k3 : Class := { plain "java/lang/Cloneable" (some 0) with
  accessFlags := 1537
  interfaces := #[]
  cf := some (fileOf pool3 2 #[] #[] 1537 4 #[] #[])
  fields := #[]
  methods := #[]
  instanceTypes := #[]
  staticTypes := #[]
  resolved := Array.replicate 8 none
  statics := none }

def pool4 : Array CpInfo := pool [(1, u "java/io/Serializable"), (0, .class_ 1), (0, u "java/lang/Object"), (0, .class_ 3)] 3

/-- java/io/Serializable -/
def k4 : Class := { plain "java/io/Serializable" (some 0) with
  accessFlags := 1537
  interfaces := #[]
  cf := some (fileOf pool4 2 #[] #[] 1537 4 #[] #[])
  fields := #[]
  methods := #[]
  instanceTypes := #[]
  staticTypes := #[]
  resolved := Array.replicate 8 none
  statics := none }

/-- the primitive byte -/
def k5 : Class := { plain "byte" none with kind := .primitive 'B', accessFlags := 0x411 }
/-- [B -/
def k6 : Class := { plain "[B" (some 0) with kind := .array 5 .byte, interfaces := #[3, 4], accessFlags := 1041 }

/-- the primitive int -/
def k7 : Class := { plain "int" none with kind := .primitive 'I', accessFlags := 0x411 }
/-- [I -/
def k8 : Class := { plain "[I" (some 0) with kind := .array 7 .int, interfaces := #[3, 4], accessFlags := 1041 }

/-- the primitive long -/
def k9 : Class := { plain "long" none with kind := .primitive 'J', accessFlags := 0x411 }
/-- [J -/
def k10 : Class := { plain "[J" (some 0) with kind := .array 9 .long, interfaces := #[3, 4], accessFlags := 1041 }

def heap : Heap := #[]
def classes : Array Class := #[k0, k1, k2, k3, k4, k5, k6, k7, k8, k9, k10]
def interned : List (Array UInt16 × Addr) := []
def slotsUsed : Nat := 0
def theMethod : MethodId := ⟨1, 1⟩
def args0 : Array Value := #[.int 37]
def aboutOver (below : List Frame) : State where
  vm := { classes := classes, interned := interned.toArray }
  heap := heap
  slotsUsed := slotsUsed
  threads := #[{ frames := .invoking theMethod args0 :: below }]
def below0 : List Frame := [.native { method := ⟨0, 0⟩, args := #[] }]
def about1 : State := aboutOver below0
def p0 : Program := .bare "" "" ""
def e0 : Env := launch0.env 0 0 0
theorem w_frames : about1.frames = Frame.invoking theMethod args0 :: below0 := rfl
set_option maxRecDepth 65536 in
theorem w_args : argsFit about1.vm theMethod args0 = true := by decide +kernel
set_option maxRecDepth 65536 in
theorem w_heap : heapFits about1 = true := by decide +kernel
set_option maxRecDepth 65536 in
theorem w_runnable : about1.curStatus? = some .runnable := by decide +kernel
set_option maxRecDepth 65536 in
theorem w_alone : about1.alone = true := by decide +kernel
set_option maxRecDepth 65536 in
theorem w_named : about1.methodNamed? x = some theMethod := by decide +kernel
set_option maxRecDepth 65536 in
theorem w_hears : about1.hears theMethod below0 = true := by decide +kernel
set_option maxRecDepth 65536 in
theorem w_ripe : about1.ripe theMethod args0 below0 = true := by decide +kernel
theorem w_running : about1.status = .running := rfl
set_option maxRecDepth 65536 in
theorem w_room : about1.hasRoom e0.platform room_1 = true :=
  launch0.hasRoom_least _ room_1 (by decide +kernel) (by decide +kernel) (by decide +kernel) (by decide +kernel) (by decide +kernel) (by decide +kernel)
theorem allAtoms_all (ts : List Jvm.Cond) (a : Array Jvm.Value) (st : Jvm.State) : (allAtoms ts).before a st = ts.all (fun c => c.before a st) := by
  induction ts with
  | nil => rfl
  | cons c t ih =>
    show (Jvm.Cond.and c (allAtoms t)).before a st = _
    rw [Jvm.Cond.before_and, ih, List.all_cons]
def words1 : List Jvm.Cond := Jvm.Cond.code x code maxLocals ret :: tables_1
/-- a 'code' word, met by the world's own term for the bytes: nothing is compared byte by byte -/
theorem code_word {y : MethodName} {bytes : ByteArray} {mx : Nat} {rt : Option FieldType} {a : Array Value} {s : State} {m : MethodId} {meth : Method} {c : Code} (h1 : s.methodNamed? y = some m) (h2 : s.vm.method? m = some meth) (h3 : meth.code = some c) (h4 : c.code = bytes)
    (h5 : (c.maxLocals == mx && c.exceptionTable.isEmpty && decide (c.maxStack ≤ mostOperands) && decide (meth.sig.returnType = rt) && !meth.locks && decide (parseMethodDescriptor y.desc = some meth.sig)) = true) : (Jvm.Cond.code y bytes mx rt).before a s = true := by
  simp only [Bool.and_eq_true, beq_iff_eq, Bool.not_eq_true', decide_eq_true_eq] at h5
  obtain ⟨⟨⟨⟨⟨g1, g2⟩, g3⟩, g4⟩, g5⟩, g6⟩ := h5
  simp [Cond.before, Cond.holds, Cond.value, h1, h2, h3, h4, g1, g2, g3, g4, g5, g6]
def isCode : Jvm.Cond → Bool
  | .code _ _ _ _ => true
  | _ => false
theorem all_split {L : List Jvm.Cond} {P : Jvm.Cond → Bool} (h1 : L.all (fun c => isCode c || P c) = true) (h2 : ∀ c ∈ L.filter isCode, P c = true) : L.all P = true := by
  refine List.all_eq_true.mpr fun c hc => ?_
  have h := List.all_eq_true.mp h1 c hc
  rcases Bool.eq_false_or_eq_true (isCode c) with hi | hi
  · exact h2 c (List.mem_filter.mpr ⟨hc, hi⟩)
  · simpa [hi] using h
set_option maxRecDepth 65536 in
theorem w_c0 : (Jvm.Cond.code x code maxLocals ret).before args0 about1 = true := code_word (m := ⟨1, 1⟩) (meth := k1m1) (c := k1c1) (by decide +kernel) rfl rfl rfl (by decide +kernel)
set_option maxRecDepth 65536 in
theorem w_c1 : (Jvm.Cond.code ({ cls := "com/example/firehouse/firehouse/Graph", name := "<init>", desc := "([J[I[IJJ)V" } : Jvm.MethodName) prog_16_method_1_code (8 : Nat) (Option.none : Option Jvm.ClassFile.FieldType)).before args0 about1 = true := code_word (m := ⟨2, 0⟩) (meth := k2m0) (c := k2c0) (by decide +kernel) rfl rfl rfl (by decide +kernel)
set_option maxRecDepth 65536 in
theorem w_c2 : (Jvm.Cond.code ({ cls := "java/lang/Object", name := "<init>", desc := "()V" } : Jvm.MethodName) object_method_1_code (1 : Nat) (Option.none : Option Jvm.ClassFile.FieldType)).before args0 about1 = true := code_word (m := ⟨0, 0⟩) (meth := k0m0) (c := k0c0) (by decide +kernel) rfl rfl rfl (by decide +kernel)
set_option maxRecDepth 65536 in
theorem w_c3 : (Jvm.Cond.code ({ cls := "com/example/firehouse/firehouse/Graph", name := "degree", desc := "(I)I" } : Jvm.MethodName) prog_16_method_11_code (2 : Nat) (Option.some Jvm.ClassFile.FieldType.int)).before args0 about1 = true := code_word (m := ⟨2, 2⟩) (meth := k2m2) (c := k2c2) (by decide +kernel) rfl rfl rfl (by decide +kernel)
set_option maxRecDepth 65536 in
theorem w_c4 : (Jvm.Cond.code ({ cls := "com/example/firehouse/firehouse/Graph", name := "edgeCount", desc := "()I" } : Jvm.MethodName) prog_16_method_3_code (1 : Nat) (Option.some Jvm.ClassFile.FieldType.int)).before args0 about1 = true := code_word (m := ⟨2, 1⟩) (meth := k2m1) (c := k2c1) (by decide +kernel) rfl rfl rfl (by decide +kernel)
def codes1 : List Jvm.Cond := [Jvm.Cond.code x code maxLocals ret, Jvm.Cond.code ({ cls := "com/example/firehouse/firehouse/Graph", name := "<init>", desc := "([J[I[IJJ)V" } : Jvm.MethodName) prog_16_method_1_code (8 : Nat) (Option.none : Option Jvm.ClassFile.FieldType), Jvm.Cond.code ({ cls := "java/lang/Object", name := "<init>", desc := "()V" } : Jvm.MethodName) object_method_1_code (1 : Nat) (Option.none : Option Jvm.ClassFile.FieldType), Jvm.Cond.code ({ cls := "com/example/firehouse/firehouse/Graph", name := "degree", desc := "(I)I" } : Jvm.MethodName) prog_16_method_11_code (2 : Nat) (Option.some Jvm.ClassFile.FieldType.int), Jvm.Cond.code ({ cls := "com/example/firehouse/firehouse/Graph", name := "edgeCount", desc := "()I" } : Jvm.MethodName) prog_16_method_3_code (1 : Nat) (Option.some Jvm.ClassFile.FieldType.int)]
set_option maxRecDepth 65536 in
theorem codes_eq : words1.filter isCode = codes1 := rfl
theorem w_codes : ∀ c ∈ words1.filter isCode, c.before args0 about1 = true := by
  rw [codes_eq]
  intro c hc
  simp only [codes1, List.mem_cons, List.not_mem_nil, or_false] at hc
  rcases hc with rfl | rfl | rfl | rfl | rfl
  · exact w_c0
  · exact w_c1
  · exact w_c2
  · exact w_c3
  · exact w_c4
set_option maxRecDepth 65536 in
theorem w_t1 : (words1.take 24).all (fun c => isCode c || c.before args0 about1) = true := by decide +kernel
set_option maxRecDepth 65536 in
theorem w_t2 : (words1.drop 24).all (fun c => isCode c || c.before args0 about1) = true := by decide +kernel
theorem w_tables : (allAtoms (Jvm.Cond.code x code maxLocals ret :: tables_1)).before args0 about1 = true := by
  rw [allAtoms_all]
  show words1.all (fun c => c.before args0 about1) = true
  refine all_split ?_ w_codes
  rw [← List.take_append_drop 24 words1, List.all_append, w_t1, w_t2]
  rfl
set_option maxRecDepth 65536 in
theorem w_case : (Jvm.Cond.and given_1 narrow_1).before args0 about1 = true := by decide +kernel
theorem w_applies : (headSpec (Jvm.Cond.code x code maxLocals ret :: tables_1) room_1).applies x e0.platform about1 = true :=
  (Spec.applies_iff w_frames).mpr ⟨w_running, w_runnable, w_alone, w_named, w_hears, w_ripe, w_room, w_tables⟩
theorem atStart : AtStart classFile x code maxLocals ret World_1 tables_1 room_1 Calls_1 rest_1 Pre_1 launch0 p0 e0 about1 theMethod args0 below0 :=
  ⟨lists_1, trivial, launch0.admits_env _ _ _, launch0.least_env, fairChoices_fair.cas, fairChoices_fair.clock, w_frames, w_args, w_heap, w_applies, trivial, trivial, w_case⟩
end start1
theorem witness_1 : WitnessClaimed_1 := ⟨start1.p0, start1.e0, start1.about1, start1.theMethod, start1.args0, start1.below0, start1.atStart⟩
end Jvm.Pilot.@@N@@
