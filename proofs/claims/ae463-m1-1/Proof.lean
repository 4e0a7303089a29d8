import JvmDerived
import JvmDerived.Pilot.@@N@@Statement
import JvmDerived.Pilot.@@N@@Code
set_option linter.unusedVariables false
set_option linter.unusedSimpArgs false
namespace Jvm.OwnKit
open Sem ClassFile Op Lib Jvm.Stand Jvm.Free Jvm.LawKit Jvm.RoadKit
/-! The walk told forwards: 'Go .. pc Ls st h cells slots' says that the run of a body has come to pc with these locals, this stack and this heap. One theorem an instruction carries it on. -/
abbrev W : Type := Program × Env × State × MethodId × Array Value × List Frame × Method × Code × State
abbrev W.p (w : W) : Program := w.1
abbrev W.e (w : W) : Env := w.2.1
abbrev W.s (w : W) : State := w.2.2.1
abbrev W.m (w : W) : MethodId := w.2.2.2.1
abbrev W.args (w : W) : Array Value := w.2.2.2.2.1
abbrev W.below (w : W) : List Frame := w.2.2.2.2.2.1
abbrev W.meth (w : W) : Method := w.2.2.2.2.2.2.1
abbrev W.c (w : W) : Code := w.2.2.2.2.2.2.2.1
abbrev W.S0 (w : W) : State := w.2.2.2.2.2.2.2.2
def Sure (w : W) (Z : State) (y : MethodName) (code : ByteArray) (ml : Nat) (ret : Option FieldType) : Prop :=
  w.p.tables.exec = Jvm.exec ∧ Z.Warmed39 w.s.vm ∧ w.s.vm.findClass y.cls = some w.m.cls ∧ w.c.code = code ∧ w.c.maxLocals = ml ∧ w.meth.sig.returnType = ret ∧ w.meth.locks = false ∧ w.meth.name = y.name
def Go (w : W) (l : Launch) (R : Room) (Z : State) (n0 : Nat) (y : MethodName) (code : ByteArray) (ml : Nat) (ret : Option FieldType) (pc : Nat) (Ls : List Slot) (st : List Value) (h : Heap) (cells slots : Nat) : Prop :=
  Sure w Z y code ml ret ∧ ∃ T locs, Stand w.p l w.e R w.s w.m w.args w.below w.meth w.c T locs cells slots ∧ T.heap = h ∧ Fr n0 locs ∧
    ∀ t, Steps w.p.tables w.e w.below (T.setTop (mkF w.m pc Ls.toArray st)) t → Steps w.p.tables w.e w.below w.S0 t
def Fini (w : W) (n0 : Nat) (Q : Option Value → Heap → Prop) (C S : Nat) : Prop :=
  ∃ s₂ o, Steps w.p.tables w.e w.below w.S0 s₂ ∧ s₂.status = .running ∧ Ended s₂ w.below o ∧ ∃ v L, o = .returned v ∧ (Q v s₂.heap ∧ Fr n0 L) ∧ FrameEnd w.s o s₂ L C S
def Met (l : Launch) (Z : State) (y : MethodName) (code : ByteArray) (ml : Nat) (ret : Option FieldType) (rm : Room) (as : List Value) (h0 : Heap) (n0 : Nat) (Q : Option Value → Heap → Prop) : Prop :=
  ∀ ws, MetFree l y (head1 (Cond.code y code ml ret :: ws) rm) (fun a U => a = as.toArray ∧ Z.Warmed39 U.vm ∧ U.heap = h0) (fun _ _ _ _ _ => True) (fun _ U o U' => ∃ v L, o = .returned v ∧ (Q v U'.heap ∧ Fr n0 L) ∧ FrameEnd U o U' L rm.cells rm.slots)
def Ret (Q : Value → Heap → Prop) : Option Value → Heap → Prop := fun v h => ∃ u, v = some u ∧ Q u h
def Ret0 (Q : Heap → Prop) : Option Value → Heap → Prop := fun v h => v = none ∧ Q h
section Walk
variable {w : W} {l : Launch} {R : Room} {Z : State} {n0 : Nat} {y : MethodName} {code : ByteArray} {ml : Nat} {ret : Option FieldType} {pc : Nat} {Ls : List Slot} {st : List Value} {h : Heap} {cells slots : Nat}
theorem Met.intro {rm : Room} {as : List Value} {Q : Option Value → Heap → Prop} (hp : plainFor y = true) (hf : ∀ m, entryFrame m as.toArray ml = mkF m 0 Ls.toArray [])
    (body : ∀ w : W, Go w l rm Z n0 y code ml ret 0 Ls [] h 0 0 → Fini w n0 Q rm.cells rm.slots) : Met l Z y code ml ret rm as h n0 Q := by
  intro ws
  refine MetFree.of_bodySF hp hisR ?_
  intro p e s m args below meth c s₁ Bd hml0 hP hK
  obtain ⟨rfl, hZ, hh⟩ := hP
  have hown : s.vm.findClass y.cls = some m.cls := findClass_of_methodNamed Bd.named
  have hnm := (name_of_methodNamed Bd.named Bd.method).1
  have X0 : Stand p l e rm s m as.toArray below meth c s₁ [] 0 0 := Stand.of_body Bd
  have e0 : s₁.heap = h := by rw [← hh, Bd.state]; rfl
  exact body (p, e, s, m, as.toArray, below, meth, c, s₁.setTop (entryFrame m as.toArray ml)) ⟨⟨Bd.exec, hZ, hown, Bd.bytes, hml0, Bd.returns, BodyLoose.notSynchronized Bd, hnm⟩, s₁, [], X0, e0, Fr.nil n0, fun t k => castTop (hf m) k⟩
theorem Go.more (r : Go w l R Z n0 y code ml ret pc Ls st h cells slots) {cells' slots' : Nat} (h1 : cells ≤ cells') (h2 : slots ≤ slots') : Go w l R Z n0 y code ml ret pc Ls st h cells' slots' := by
  obtain ⟨S, T, locs, X, e, N, k⟩ := r
  exact ⟨S, T, locs, X.more h1 h2, e, N, k⟩
/-- one step that leaves the heap -/
theorem Go.step (r : Go w l R Z n0 y code ml ret pc Ls st h cells slots) {pc' : Nat} {Ls' : List Slot} {st' : List Value}
    (f : ∀ T t, At T w.m w.c w.below → w.p.tables.exec = Jvm.exec → w.c.code = code → Steps w.p.tables w.e w.below (T.setTop (mkF w.m pc' Ls'.toArray st')) t → Steps w.p.tables w.e w.below (T.setTop (mkF w.m pc Ls.toArray st)) t) :
    Go w l R Z n0 y code ml ret pc' Ls' st' h cells slots := by
  obtain ⟨S, T, locs, X, e, N, k⟩ := r
  exact ⟨S, T, locs, X, e, N, fun t q => k t (f T t X.here S.1 S.2.2.2.1 q)⟩
def oneB : Slot → Bool
  | .unset => true
  | .val v => v.category == 1
  | .second => false
theorem One.of {o : Slot} (h : oneB o = true) : One o := by
  cases o with
  | unset => exact One.u
  | val v => exact One.val (by simpa [oneB] using h)
  | second => cases h
theorem Go.iconst {i : Int} (r : Go w l R Z n0 y code ml ret pc Ls st h cells slots) (pc' : Nat) (hd : decode code pc = .ok (.iconst i, 1)) (hp : pc + 1 = pc') : Go w l R Z n0 y code ml ret pc' Ls (.int (Int32.ofInt i) :: st) h cells slots := by
  subst hp; exact r.step fun T t a x b k => XS.iconst a x rfl (hb b hd) k
theorem Go.bipush {i : Int} (r : Go w l R Z n0 y code ml ret pc Ls st h cells slots) (pc' : Nat) (hd : decode code pc = .ok (.bipush i, 2)) (hp : pc + 2 = pc') : Go w l R Z n0 y code ml ret pc' Ls (.int (Int8.ofInt i).toInt32 :: st) h cells slots := by
  subst hp; exact r.step fun T t a x b k => XS.bipush a x rfl (hb b hd) k
theorem Go.sipush {i : Int} (r : Go w l R Z n0 y code ml ret pc Ls st h cells slots) (pc' : Nat) (hd : decode code pc = .ok (.sipush i, 3)) (hp : pc + 3 = pc') : Go w l R Z n0 y code ml ret pc' Ls (.int (Int16.ofInt i).toInt32 :: st) h cells slots := by
  subst hp; exact r.step fun T t a x b k => XS.sipush a x rfl (hb b hd) k
theorem Go.iconstV {i : Int} (r : Go w l R Z n0 y code ml ret pc Ls st h cells slots) (pc' : Nat) (hd : decode code pc = .ok (.iconst i, 1)) (hp : pc + 1 = pc') (v : Int32) (hv : Int32.ofInt i = v) : Go w l R Z n0 y code ml ret pc' Ls (.int v :: st) h cells slots := by
  subst hp; exact r.step fun T t a x b k => XS.iconst a x rfl (hb b hd) (by rw [hv]; exact k)
theorem Go.bipushV {i : Int} (r : Go w l R Z n0 y code ml ret pc Ls st h cells slots) (pc' : Nat) (hd : decode code pc = .ok (.bipush i, 2)) (hp : pc + 2 = pc') (v : Int32) (hv : (Int8.ofInt i).toInt32 = v) : Go w l R Z n0 y code ml ret pc' Ls (.int v :: st) h cells slots := by
  subst hp; exact r.step fun T t a x b k => XS.bipush a x rfl (hb b hd) (by rw [hv]; exact k)
theorem Go.sipushV {i : Int} (r : Go w l R Z n0 y code ml ret pc Ls st h cells slots) (pc' : Nat) (hd : decode code pc = .ok (.sipush i, 3)) (hp : pc + 3 = pc') (v : Int32) (hv : (Int16.ofInt i).toInt32 = v) : Go w l R Z n0 y code ml ret pc' Ls (.int v :: st) h cells slots := by
  subst hp; exact r.step fun T t a x b k => XS.sipush a x rfl (hb b hd) (by rw [hv]; exact k)
theorem Go.lconstV {i : Fin 2} (r : Go w l R Z n0 y code ml ret pc Ls st h cells slots) (pc' : Nat) (hd : decode code pc = .ok (.lconst i, 1)) (hp : pc + 1 = pc') (v : Int64) (hv : Int64.ofNat i = v) : Go w l R Z n0 y code ml ret pc' Ls (.long v :: st) h cells slots := by
  subst hp; exact r.step fun T t a x b k => XS.lconst a x rfl (hb b hd) (by rw [hv]; exact k)
theorem Go.iadd {u v : Int32} (r : Go w l R Z n0 y code ml ret pc Ls (.int v :: .int u :: st) h cells slots) (pc' : Nat) (hd : decode code pc = .ok (.iadd, 1)) (hp : pc + 1 = pc') : Go w l R Z n0 y code ml ret pc' Ls (.int (u + v) :: st) h cells slots := by
  subst hp; exact r.step fun T t a x b k => XS.iadd a x rfl (hb b hd) rfl k
theorem Go.isub {u v : Int32} (r : Go w l R Z n0 y code ml ret pc Ls (.int v :: .int u :: st) h cells slots) (pc' : Nat) (hd : decode code pc = .ok (.isub, 1)) (hp : pc + 1 = pc') : Go w l R Z n0 y code ml ret pc' Ls (.int (u - v) :: st) h cells slots := by
  subst hp; exact r.step fun T t a x b k => XS.isub a x rfl (hb b hd) rfl k
theorem Go.imul {u v : Int32} (r : Go w l R Z n0 y code ml ret pc Ls (.int v :: .int u :: st) h cells slots) (pc' : Nat) (hd : decode code pc = .ok (.imul, 1)) (hp : pc + 1 = pc') : Go w l R Z n0 y code ml ret pc' Ls (.int (u * v) :: st) h cells slots := by
  subst hp; exact r.step fun T t a x b k => XS.imul a x rfl (hb b hd) rfl k
theorem Go.iand {u v : Int32} (r : Go w l R Z n0 y code ml ret pc Ls (.int v :: .int u :: st) h cells slots) (pc' : Nat) (hd : decode code pc = .ok (.iand, 1)) (hp : pc + 1 = pc') : Go w l R Z n0 y code ml ret pc' Ls (.int (u &&& v) :: st) h cells slots := by
  subst hp; exact r.step fun T t a x b k => XS.iand a x rfl (hb b hd) rfl k
theorem Go.ior {u v : Int32} (r : Go w l R Z n0 y code ml ret pc Ls (.int v :: .int u :: st) h cells slots) (pc' : Nat) (hd : decode code pc = .ok (.ior, 1)) (hp : pc + 1 = pc') : Go w l R Z n0 y code ml ret pc' Ls (.int (u ||| v) :: st) h cells slots := by
  subst hp; exact r.step fun T t a x b k => XS.ior a x rfl (hb b hd) rfl k
theorem Go.ixor {u v : Int32} (r : Go w l R Z n0 y code ml ret pc Ls (.int v :: .int u :: st) h cells slots) (pc' : Nat) (hd : decode code pc = .ok (.ixor, 1)) (hp : pc + 1 = pc') : Go w l R Z n0 y code ml ret pc' Ls (.int (u ^^^ v) :: st) h cells slots := by
  subst hp; exact r.step fun T t a x b k => XS.ixor a x rfl (hb b hd) rfl k
theorem Go.ladd {u v : Int64} (r : Go w l R Z n0 y code ml ret pc Ls (.long v :: .long u :: st) h cells slots) (pc' : Nat) (hd : decode code pc = .ok (.ladd, 1)) (hp : pc + 1 = pc') : Go w l R Z n0 y code ml ret pc' Ls (.long (u + v) :: st) h cells slots := by
  subst hp; exact r.step fun T t a x b k => XS.ladd a x rfl (hb b hd) rfl k
theorem Go.lsub {u v : Int64} (r : Go w l R Z n0 y code ml ret pc Ls (.long v :: .long u :: st) h cells slots) (pc' : Nat) (hd : decode code pc = .ok (.lsub, 1)) (hp : pc + 1 = pc') : Go w l R Z n0 y code ml ret pc' Ls (.long (u - v) :: st) h cells slots := by
  subst hp; exact r.step fun T t a x b k => XS.lsub a x rfl (hb b hd) rfl k
theorem Go.lmul {u v : Int64} (r : Go w l R Z n0 y code ml ret pc Ls (.long v :: .long u :: st) h cells slots) (pc' : Nat) (hd : decode code pc = .ok (.lmul, 1)) (hp : pc + 1 = pc') : Go w l R Z n0 y code ml ret pc' Ls (.long (u * v) :: st) h cells slots := by
  subst hp; exact r.step fun T t a x b k => XS.lmul a x rfl (hb b hd) rfl k
theorem Go.land {u v : Int64} (r : Go w l R Z n0 y code ml ret pc Ls (.long v :: .long u :: st) h cells slots) (pc' : Nat) (hd : decode code pc = .ok (.land, 1)) (hp : pc + 1 = pc') : Go w l R Z n0 y code ml ret pc' Ls (.long (u &&& v) :: st) h cells slots := by
  subst hp; exact r.step fun T t a x b k => XS.land a x rfl (hb b hd) rfl k
theorem Go.lor {u v : Int64} (r : Go w l R Z n0 y code ml ret pc Ls (.long v :: .long u :: st) h cells slots) (pc' : Nat) (hd : decode code pc = .ok (.lor, 1)) (hp : pc + 1 = pc') : Go w l R Z n0 y code ml ret pc' Ls (.long (u ||| v) :: st) h cells slots := by
  subst hp; exact r.step fun T t a x b k => XS.lor a x rfl (hb b hd) rfl k
theorem Go.lxor {u v : Int64} (r : Go w l R Z n0 y code ml ret pc Ls (.long v :: .long u :: st) h cells slots) (pc' : Nat) (hd : decode code pc = .ok (.lxor, 1)) (hp : pc + 1 = pc') : Go w l R Z n0 y code ml ret pc' Ls (.long (u ^^^ v) :: st) h cells slots := by
  subst hp; exact r.step fun T t a x b k => XS.lxor a x rfl (hb b hd) rfl k
theorem Go.idiv {u v : Int32} (r : Go w l R Z n0 y code ml ret pc Ls (.int v :: .int u :: st) h cells slots) (pc' : Nat) (hd : decode code pc = .ok (.idiv, 1)) (hp : pc + 1 = pc') (hv : v ≠ 0) : Go w l R Z n0 y code ml ret pc' Ls (.int (u / v) :: st) h cells slots := by
  subst hp; exact r.step fun T t a x b k => XS.idiv a x rfl (hb b hd) rfl hv k
theorem Go.irem {u v : Int32} (r : Go w l R Z n0 y code ml ret pc Ls (.int v :: .int u :: st) h cells slots) (pc' : Nat) (hd : decode code pc = .ok (.irem, 1)) (hp : pc + 1 = pc') (hv : v ≠ 0) : Go w l R Z n0 y code ml ret pc' Ls (.int (u % v) :: st) h cells slots := by
  subst hp; exact r.step fun T t a x b k => XS.irem a x rfl (hb b hd) rfl hv (by rw [irem_eq_mod]; exact k)
theorem Go.ishl {u v : Int32} (r : Go w l R Z n0 y code ml ret pc Ls (.int v :: .int u :: st) h cells slots) (pc' : Nat) (hd : decode code pc = .ok (.ishl, 1)) (hp : pc + 1 = pc') : Go w l R Z n0 y code ml ret pc' Ls (.int (u <<< (v &&& 31)) :: st) h cells slots := by
  subst hp; exact r.step fun T t a x b k => XS.ishl a x rfl (hb b hd) rfl k
theorem Go.ishr {u v : Int32} (r : Go w l R Z n0 y code ml ret pc Ls (.int v :: .int u :: st) h cells slots) (pc' : Nat) (hd : decode code pc = .ok (.ishr, 1)) (hp : pc + 1 = pc') : Go w l R Z n0 y code ml ret pc' Ls (.int (u >>> (v &&& 31)) :: st) h cells slots := by
  subst hp; exact r.step fun T t a x b k => XS.ishr a x rfl (hb b hd) rfl k
theorem Go.iushr {u v : Int32} (r : Go w l R Z n0 y code ml ret pc Ls (.int v :: .int u :: st) h cells slots) (pc' : Nat) (hd : decode code pc = .ok (.iushr, 1)) (hp : pc + 1 = pc') : Go w l R Z n0 y code ml ret pc' Ls (.int ((u.toUInt32 >>> (v &&& 31).toUInt32).toInt32) :: st) h cells slots := by
  subst hp; exact r.step fun T t a x b k => XS.iushr a x rfl (hb b hd) rfl k
theorem Go.lshl {u : Int64} {v : Int32} (r : Go w l R Z n0 y code ml ret pc Ls (.int v :: .long u :: st) h cells slots) (pc' : Nat) (hd : decode code pc = .ok (.lshl, 1)) (hp : pc + 1 = pc') : Go w l R Z n0 y code ml ret pc' Ls (.long (u <<< (v &&& 0x3f).toInt64) :: st) h cells slots := by
  subst hp; exact r.step fun T t a x b k => XS.lshl a x rfl (hb b hd) rfl k
theorem Go.lshr {u : Int64} {v : Int32} (r : Go w l R Z n0 y code ml ret pc Ls (.int v :: .long u :: st) h cells slots) (pc' : Nat) (hd : decode code pc = .ok (.lshr, 1)) (hp : pc + 1 = pc') : Go w l R Z n0 y code ml ret pc' Ls (.long (u >>> (v &&& 0x3f).toInt64) :: st) h cells slots := by
  subst hp; exact r.step fun T t a x b k => XS.lshr a x rfl (hb b hd) rfl k
theorem Go.lushr {u : Int64} {v : Int32} (r : Go w l R Z n0 y code ml ret pc Ls (.int v :: .long u :: st) h cells slots) (pc' : Nat) (hd : decode code pc = .ok (.lushr, 1)) (hp : pc + 1 = pc') : Go w l R Z n0 y code ml ret pc' Ls (.long ((u.toUInt64 >>> (v &&& 0x3f).toInt64.toUInt64).toInt64) :: st) h cells slots := by
  subst hp; exact r.step fun T t a x b k => XS.lushr a x rfl (hb b hd) rfl k
theorem Go.lcmp {u v : Int64} (r : Go w l R Z n0 y code ml ret pc Ls (.long v :: .long u :: st) h cells slots) (pc' : Nat) (hd : decode code pc = .ok (.lcmp, 1)) (hp : pc + 1 = pc') : Go w l R Z n0 y code ml ret pc' Ls (.int (lcmpW u v) :: st) h cells slots := by
  subst hp; exact r.step fun T t a x b k => XS.lcmp a x rfl (hb b hd) rfl k
theorem Go.i2l {u : Int32} (r : Go w l R Z n0 y code ml ret pc Ls (.int u :: st) h cells slots) (pc' : Nat) (hd : decode code pc = .ok (.i2l, 1)) (hp : pc + 1 = pc') : Go w l R Z n0 y code ml ret pc' Ls (.long u.toInt64 :: st) h cells slots := by
  subst hp; exact r.step fun T t a x b k => XS.i2l a x rfl (hb b hd) rfl k
theorem Go.l2i {u : Int64} (r : Go w l R Z n0 y code ml ret pc Ls (.long u :: st) h cells slots) (pc' : Nat) (hd : decode code pc = .ok (.l2i, 1)) (hp : pc + 1 = pc') : Go w l R Z n0 y code ml ret pc' Ls (.int u.toInt32 :: st) h cells slots := by
  subst hp; exact r.step fun T t a x b k => XS.l2i a x rfl (hb b hd) rfl k
theorem Go.i2b {u : Int32} (r : Go w l R Z n0 y code ml ret pc Ls (.int u :: st) h cells slots) (pc' : Nat) (hd : decode code pc = .ok (.i2b, 1)) (hp : pc + 1 = pc') : Go w l R Z n0 y code ml ret pc' Ls (.int u.toInt8.toInt32 :: st) h cells slots := by
  subst hp; exact r.step fun T t a x b k => XS.i2b a x rfl (hb b hd) rfl k
theorem Go.dup {v : Value} (r : Go w l R Z n0 y code ml ret pc Ls (v :: st) h cells slots) (pc' : Nat) (hd : decode code pc = .ok (.dup, 1)) (hp : pc + 1 = pc') (hv : v.category = 1) : Go w l R Z n0 y code ml ret pc' Ls (v :: v :: st) h cells slots := by
  subst hp; exact r.step fun T t a x b k => XS.dup a x rfl (hb b hd) rfl hv k
theorem Go.pop {v : Value} (r : Go w l R Z n0 y code ml ret pc Ls (v :: st) h cells slots) (pc' : Nat) (hd : decode code pc = .ok (.pop, 1)) (hp : pc + 1 = pc') (hv : v.category = 1) : Go w l R Z n0 y code ml ret pc' Ls st h cells slots := by
  subst hp; exact r.step fun T t a x b k => XS.pop a x rfl (hb b hd) rfl hv k
theorem Go.dupX1 {u v : Value} (r : Go w l R Z n0 y code ml ret pc Ls (v :: u :: st) h cells slots) (pc' : Nat) (hd : decode code pc = .ok (.dup_x1, 1)) (hp : pc + 1 = pc') (hv : v.category = 1) (hu : u.category = 1) : Go w l R Z n0 y code ml ret pc' Ls (v :: u :: v :: st) h cells slots := by
  subst hp; exact r.step fun T t a x b k => XS.dupX1 a x rfl (hb b hd) rfl hv hu k
theorem Go.dup2 {u v : Value} (r : Go w l R Z n0 y code ml ret pc Ls (v :: u :: st) h cells slots) (pc' : Nat) (hd : decode code pc = .ok (.dup2, 1)) (hp : pc + 1 = pc') (hv : v.category = 1) (hu : u.category = 1) : Go w l R Z n0 y code ml ret pc' Ls (v :: u :: v :: u :: st) h cells slots := by
  subst hp; exact r.step fun T t a x b k => XT.dup2 a x rfl (hb b hd) rfl hv hu k
theorem Go.iloadG {v : Int32} {k : Nat} (r : Go w l R Z n0 y code ml ret pc Ls st h cells slots) (pc' : Nat) (hd : decode code pc = .ok (.iload k, 2)) (hp : pc + 2 = pc') (hl : Ls[k]? = some (.val (.int v))) : Go w l R Z n0 y code ml ret pc' Ls ((.int v) :: st) h cells slots := by
  subst hp; exact r.step fun T t a x b k => XS.iload a x rfl (hb b hd) (show Ls.toArray[_]? = _ by rw [List.getElem?_toArray]; exact hl) k
theorem Go.iloadNG {v : Int32} {k : Fin 4} (r : Go w l R Z n0 y code ml ret pc Ls st h cells slots) (pc' : Nat) (hd : decode code pc = .ok (.iload_n k, 1)) (hp : pc + 1 = pc') (hl : Ls[k.val]? = some (.val (.int v))) : Go w l R Z n0 y code ml ret pc' Ls ((.int v) :: st) h cells slots := by
  subst hp; exact r.step fun T t a x b k => XS.iloadN a x rfl (hb b hd) (show Ls.toArray[_]? = _ by rw [List.getElem?_toArray]; exact hl) k
theorem Go.lloadG {v : Int64} {k : Nat} (r : Go w l R Z n0 y code ml ret pc Ls st h cells slots) (pc' : Nat) (hd : decode code pc = .ok (.lload k, 2)) (hp : pc + 2 = pc') (hl : Ls[k]? = some (.val (.long v))) : Go w l R Z n0 y code ml ret pc' Ls ((.long v) :: st) h cells slots := by
  subst hp; exact r.step fun T t a x b k => XS.lload a x rfl (hb b hd) (show Ls.toArray[_]? = _ by rw [List.getElem?_toArray]; exact hl) k
theorem Go.lloadNG {v : Int64} {k : Fin 4} (r : Go w l R Z n0 y code ml ret pc Ls st h cells slots) (pc' : Nat) (hd : decode code pc = .ok (.lload_n k, 1)) (hp : pc + 1 = pc') (hl : Ls[k.val]? = some (.val (.long v))) : Go w l R Z n0 y code ml ret pc' Ls ((.long v) :: st) h cells slots := by
  subst hp; exact r.step fun T t a x b k => XS.lloadN a x rfl (hb b hd) (show Ls.toArray[_]? = _ by rw [List.getElem?_toArray]; exact hl) k
theorem Go.aloadG {v : Value} {k : Nat} (r : Go w l R Z n0 y code ml ret pc Ls st h cells slots) (pc' : Nat) (hd : decode code pc = .ok (.aload k, 2)) (hp : pc + 2 = pc') (hl : Ls[k]? = some (.val v)) (hv : v.isRef = true) : Go w l R Z n0 y code ml ret pc' Ls (v :: st) h cells slots := by
  subst hp; exact r.step fun T t a x b k => XS.aload a x rfl (hb b hd) (show Ls.toArray[_]? = _ by rw [List.getElem?_toArray]; exact hl) hv k
theorem Go.aloadNG {v : Value} {k : Fin 4} (r : Go w l R Z n0 y code ml ret pc Ls st h cells slots) (pc' : Nat) (hd : decode code pc = .ok (.aload_n k, 1)) (hp : pc + 1 = pc') (hl : Ls[k.val]? = some (.val v)) (hv : v.isRef = true) : Go w l R Z n0 y code ml ret pc' Ls (v :: st) h cells slots := by
  subst hp; exact r.step fun T t a x b k => XS.aloadN a x rfl (hb b hd) (show Ls.toArray[_]? = _ by rw [List.getElem?_toArray]; exact hl) hv k
theorem storeL {Ls Ls' : List Slot} {i : Nat} {v : Value} {o : Slot} (ho : Ls[i]? = some o) (h1 : One o) (hv : v.category = 1) (he : Ls.set i (.val v) = Ls') : storeLocals Ls.toArray i v = some Ls'.toArray := by
  subst he
  rw [XS.store1 (o := o) (by rw [List.getElem?_toArray]; exact ho) h1 hv]
  simp
/-- a long over two slots -/
def Two (o p : Slot) : Prop := (o = .unset ∧ p = .unset) ∨ (∃ v, o = .val (.long v) ∧ p = .second) ∨ (o = .unset ∧ ∃ v : Value, p = .val v ∧ v.category = 1) ∨ (∃ v : Value, o = .val v ∧ v.category = 1 ∧ (p = .unset ∨ ∃ u : Value, p = .val u ∧ u.category = 1))
def twoB : Slot → Slot → Bool
  | .unset, .unset => true
  | .unset, .val v => v.category == 1
  | .val (.long _), .second => true
  | .val v, .unset => v.category == 1
  | .val v, .val u => v.category == 1 && u.category == 1
  | _, _ => false
theorem Two.of {o p : Slot} (h : twoB o p = true) : Two o p := by
  cases o with
  | unset => cases p with
    | unset => exact Or.inl ⟨rfl, rfl⟩
    | val v => exact Or.inr (Or.inr (Or.inl ⟨rfl, v, rfl, by simpa [twoB] using h⟩))
    | second => cases h
  | second => cases h
  | val v => cases p with
    | unset => exact Or.inr (Or.inr (Or.inr ⟨v, rfl, by cases v <;> simpa [twoB] using h, Or.inl rfl⟩))
    | val u => exact Or.inr (Or.inr (Or.inr ⟨v, rfl, by cases v <;> simp_all [twoB], Or.inr ⟨u, rfl, by cases v <;> simp_all [twoB]⟩⟩))
    | second => cases v with
      | long z => exact Or.inr (Or.inl ⟨z, rfl, rfl⟩)
      | _ => simp [twoB] at h
theorem storeL2 {Ls Ls' : List Slot} {i : Nat} {v : Int64} {o q : Slot} (ho : Ls[i]? = some o) (hq : Ls[i + 1]? = some q) (h2 : Two o q) (he : (Ls.set i (.val (.long v))).set (i + 1) .second = Ls') : storeLocals Ls.toArray i (.long v) = some Ls'.toArray := by
  subst he
  obtain ⟨h3, h4⟩ := List.getElem?_eq_some_iff.mp ho
  obtain ⟨h5, h6⟩ := List.getElem?_eq_some_iff.mp hq
  have a1 : ∀ p q : Slot, ((Ls.set i p)[i + 1]? = some q) ↔ q = Ls[i + 1] := fun p q => by rw [List.getElem?_set_ne (by omega), hq, h6]; constructor <;> (intro z; simp_all)
  rcases h2 with ⟨rfl, rfl⟩ | ⟨u, rfl, rfl⟩ | ⟨rfl, u, rfl, hu⟩ | ⟨u, rfl, hu, rfl | ⟨u', rfl, hu'⟩⟩ <;>
    simp [storeLocals, storeSelf, Jvm.setAt, Value.category, ho, hq, h3, h5, List.getElem?_set_ne, List.set_comm, *] <;> (try simp_all [Value.category])
theorem Go.istoreG {u : Int32} {k : Nat} {o : Slot} {Ls' : List Slot} (r : Go w l R Z n0 y code ml ret pc Ls ((.int u) :: st) h cells slots) (pc' : Nat) (hd : decode code pc = .ok (.istore k, 2)) (hp : pc + 2 = pc') (ho : Ls[k]? = some o) (h1 : One o) (he : Ls.set k (.val (.int u)) = Ls') : Go w l R Z n0 y code ml ret pc' Ls' st h cells slots := by
  subst hp; exact r.step fun T t a x b k => XS.istore a x rfl (hb b hd) rfl (storeL ho h1 rfl he) k
theorem Go.istoreNG {u : Int32} {k : Fin 4} {o : Slot} {Ls' : List Slot} (r : Go w l R Z n0 y code ml ret pc Ls ((.int u) :: st) h cells slots) (pc' : Nat) (hd : decode code pc = .ok (.istore_n k, 1)) (hp : pc + 1 = pc') (ho : Ls[k.val]? = some o) (h1 : One o) (he : Ls.set k.val (.val (.int u)) = Ls') : Go w l R Z n0 y code ml ret pc' Ls' st h cells slots := by
  subst hp; exact r.step fun T t a x b k => XS.istoreN a x rfl (hb b hd) rfl (storeL ho h1 rfl he) k
theorem Go.astoreG {u : Value} {k : Nat} {o : Slot} {Ls' : List Slot} (r : Go w l R Z n0 y code ml ret pc Ls (u :: st) h cells slots) (pc' : Nat) (hd : decode code pc = .ok (.astore k, 2)) (hp : pc + 2 = pc') (hv : u.isRef = true) (hc : u.category = 1) (ho : Ls[k]? = some o) (h1 : One o) (he : Ls.set k (.val u) = Ls') : Go w l R Z n0 y code ml ret pc' Ls' st h cells slots := by
  subst hp; exact r.step fun T t a x b k => XS.astore a x rfl (hb b hd) rfl hv (storeL ho h1 hc he) k
theorem Go.astoreNG {u : Value} {k : Fin 4} {o : Slot} {Ls' : List Slot} (r : Go w l R Z n0 y code ml ret pc Ls (u :: st) h cells slots) (pc' : Nat) (hd : decode code pc = .ok (.astore_n k, 1)) (hp : pc + 1 = pc') (hv : u.isRef = true) (hc : u.category = 1) (ho : Ls[k.val]? = some o) (h1 : One o) (he : Ls.set k.val (.val u) = Ls') : Go w l R Z n0 y code ml ret pc' Ls' st h cells slots := by
  subst hp; exact r.step fun T t a x b k => XS.astoreN a x rfl (hb b hd) rfl hv (storeL ho h1 hc he) k
theorem Go.lstoreG {u : Int64} {k : Nat} {o q : Slot} {Ls' : List Slot} (r : Go w l R Z n0 y code ml ret pc Ls (.long u :: st) h cells slots) (pc' : Nat) (hd : decode code pc = .ok (.lstore k, 2)) (hp : pc + 2 = pc') (ho : Ls[k]? = some o) (hq : Ls[k + 1]? = some q) (h2 : Two o q) (he : (Ls.set k (.val (.long u))).set (k + 1) .second = Ls') : Go w l R Z n0 y code ml ret pc' Ls' st h cells slots := by
  subst hp; exact r.step fun T t a x b k => XS.lstore a x rfl (hb b hd) rfl (storeL2 ho hq h2 he) k
theorem Go.lstoreNG {u : Int64} {k : Fin 4} {o q : Slot} {Ls' : List Slot} (r : Go w l R Z n0 y code ml ret pc Ls (.long u :: st) h cells slots) (pc' : Nat) (hd : decode code pc = .ok (.lstore_n k, 1)) (hp : pc + 1 = pc') (ho : Ls[k.val]? = some o) (hq : Ls[k.val + 1]? = some q) (h2 : Two o q) (he : (Ls.set k.val (.val (.long u))).set (k.val + 1) .second = Ls') : Go w l R Z n0 y code ml ret pc' Ls' st h cells slots := by
  subst hp; exact r.step fun T t a x b k => XS.lstoreN a x rfl (hb b hd) rfl (storeL2 ho hq h2 he) k
theorem Go.iincG {u : Int32} {k : Nat} {i : Int} {Ls' : List Slot} (r : Go w l R Z n0 y code ml ret pc Ls st h cells slots) (pc' : Nat) (hd : decode code pc = .ok (.iinc k i, 3)) (hp : pc + 3 = pc') (hl : Ls[k]? = some (.val (.int u))) (he : Ls.set k (.val (.int (u + Int32.ofInt i))) = Ls') : Go w l R Z n0 y code ml ret pc' Ls' st h cells slots := by
  subst hp; exact r.step fun T t a x b k => XS.iinc a x rfl (hb b hd) (show Ls.toArray[_]? = _ by rw [List.getElem?_toArray]; exact hl) (storeL hl (One.val rfl) rfl he) k
theorem get_s {α : Type} {a : α} {L : List α} {k : Nat} {v : α} (h : L[k]? = some v) : (a :: L)[k + 1]? = some v := h
theorem get_z {α : Type} {L : List α} {v : α} : (v :: L)[0]? = some v := rfl
theorem set_s {α : Type} {a v : α} {L L' : List α} {k : Nat} (h : L.set k v = L') : (a :: L).set (k + 1) v = a :: L' := by subst h; rfl
theorem set_z {α : Type} {a v : α} {L : List α} : (a :: L).set 0 v = v :: L := rfl
theorem Go.ald0 {v : Addr} {q : List Slot} (r : Go w l R Z n0 y code ml ret pc (.val (.ref v) :: q) st h cells slots) (pc' : Nat) (hd : decode code pc = .ok (.aload_n 0, 1)) (hp : pc + 1 = pc') : Go w l R Z n0 y code ml ret pc' (.val (.ref v) :: q) ((.ref v) :: st) h cells slots := r.aloadNG pc' hd hp get_z rfl
theorem Go.ald2 {v : Addr} {a0 a1 : Slot} {q : List Slot} (r : Go w l R Z n0 y code ml ret pc (a0 :: a1 :: .val (.ref v) :: q) st h cells slots) (pc' : Nat) (hd : decode code pc = .ok (.aload_n 2, 1)) (hp : pc + 1 = pc') : Go w l R Z n0 y code ml ret pc' (a0 :: a1 :: .val (.ref v) :: q) ((.ref v) :: st) h cells slots := r.aloadNG pc' hd hp (get_s (get_s get_z)) rfl
theorem Go.ald11 {v : Addr} {a0 a1 a2 a3 a4 a5 a6 a7 a8 a9 a10 : Slot} {q : List Slot} (r : Go w l R Z n0 y code ml ret pc (a0 :: a1 :: a2 :: a3 :: a4 :: a5 :: a6 :: a7 :: a8 :: a9 :: a10 :: .val (.ref v) :: q) st h cells slots) (pc' : Nat) (hd : decode code pc = .ok (.aload 11, 2)) (hp : pc + 2 = pc') : Go w l R Z n0 y code ml ret pc' (a0 :: a1 :: a2 :: a3 :: a4 :: a5 :: a6 :: a7 :: a8 :: a9 :: a10 :: .val (.ref v) :: q) ((.ref v) :: st) h cells slots := r.aloadG pc' hd hp (get_s (get_s (get_s (get_s (get_s (get_s (get_s (get_s (get_s (get_s (get_s get_z))))))))))) rfl
theorem Go.ald12 {v : Addr} {a0 a1 a2 a3 a4 a5 a6 a7 a8 a9 a10 a11 : Slot} {q : List Slot} (r : Go w l R Z n0 y code ml ret pc (a0 :: a1 :: a2 :: a3 :: a4 :: a5 :: a6 :: a7 :: a8 :: a9 :: a10 :: a11 :: .val (.ref v) :: q) st h cells slots) (pc' : Nat) (hd : decode code pc = .ok (.aload 12, 2)) (hp : pc + 2 = pc') : Go w l R Z n0 y code ml ret pc' (a0 :: a1 :: a2 :: a3 :: a4 :: a5 :: a6 :: a7 :: a8 :: a9 :: a10 :: a11 :: .val (.ref v) :: q) ((.ref v) :: st) h cells slots := r.aloadG pc' hd hp (get_s (get_s (get_s (get_s (get_s (get_s (get_s (get_s (get_s (get_s (get_s (get_s get_z)))))))))))) rfl
theorem Go.ast11 {v : Addr} {o : Slot} {a0 a1 a2 a3 a4 a5 a6 a7 a8 a9 a10 : Slot} {q : List Slot} (r : Go w l R Z n0 y code ml ret pc (a0 :: a1 :: a2 :: a3 :: a4 :: a5 :: a6 :: a7 :: a8 :: a9 :: a10 :: o :: q) ((.ref v) :: st) h cells slots) (pc' : Nat) (hd : decode code pc = .ok (.astore 11, 2)) (hp : pc + 2 = pc') (ho : One o) : Go w l R Z n0 y code ml ret pc' (a0 :: a1 :: a2 :: a3 :: a4 :: a5 :: a6 :: a7 :: a8 :: a9 :: a10 :: .val (.ref v) :: q) st h cells slots := r.astoreG pc' hd hp rfl rfl (get_s (get_s (get_s (get_s (get_s (get_s (get_s (get_s (get_s (get_s (get_s get_z))))))))))) ho (set_s (set_s (set_s (set_s (set_s (set_s (set_s (set_s (set_s (set_s (set_s set_z)))))))))))
theorem Go.ast12 {v : Addr} {o : Slot} {a0 a1 a2 a3 a4 a5 a6 a7 a8 a9 a10 a11 : Slot} {q : List Slot} (r : Go w l R Z n0 y code ml ret pc (a0 :: a1 :: a2 :: a3 :: a4 :: a5 :: a6 :: a7 :: a8 :: a9 :: a10 :: a11 :: o :: q) ((.ref v) :: st) h cells slots) (pc' : Nat) (hd : decode code pc = .ok (.astore 12, 2)) (hp : pc + 2 = pc') (ho : One o) : Go w l R Z n0 y code ml ret pc' (a0 :: a1 :: a2 :: a3 :: a4 :: a5 :: a6 :: a7 :: a8 :: a9 :: a10 :: a11 :: .val (.ref v) :: q) st h cells slots := r.astoreG pc' hd hp rfl rfl (get_s (get_s (get_s (get_s (get_s (get_s (get_s (get_s (get_s (get_s (get_s (get_s get_z)))))))))))) ho (set_s (set_s (set_s (set_s (set_s (set_s (set_s (set_s (set_s (set_s (set_s (set_s set_z))))))))))))
theorem Go.ild0 {v : Int32} {q : List Slot} (r : Go w l R Z n0 y code ml ret pc (.val (.int v) :: q) st h cells slots) (pc' : Nat) (hd : decode code pc = .ok (.iload_n 0, 1)) (hp : pc + 1 = pc') : Go w l R Z n0 y code ml ret pc' (.val (.int v) :: q) ((.int v) :: st) h cells slots := r.iloadNG pc' hd hp get_z
theorem Go.ild1 {v : Int32} {a0 : Slot} {q : List Slot} (r : Go w l R Z n0 y code ml ret pc (a0 :: .val (.int v) :: q) st h cells slots) (pc' : Nat) (hd : decode code pc = .ok (.iload_n 1, 1)) (hp : pc + 1 = pc') : Go w l R Z n0 y code ml ret pc' (a0 :: .val (.int v) :: q) ((.int v) :: st) h cells slots := r.iloadNG pc' hd hp (get_s get_z)
theorem Go.ild3 {v : Int32} {a0 a1 a2 : Slot} {q : List Slot} (r : Go w l R Z n0 y code ml ret pc (a0 :: a1 :: a2 :: .val (.int v) :: q) st h cells slots) (pc' : Nat) (hd : decode code pc = .ok (.iload_n 3, 1)) (hp : pc + 1 = pc') : Go w l R Z n0 y code ml ret pc' (a0 :: a1 :: a2 :: .val (.int v) :: q) ((.int v) :: st) h cells slots := r.iloadNG pc' hd hp (get_s (get_s (get_s get_z)))
theorem Go.ild4 {v : Int32} {a0 a1 a2 a3 : Slot} {q : List Slot} (r : Go w l R Z n0 y code ml ret pc (a0 :: a1 :: a2 :: a3 :: .val (.int v) :: q) st h cells slots) (pc' : Nat) (hd : decode code pc = .ok (.iload 4, 2)) (hp : pc + 2 = pc') : Go w l R Z n0 y code ml ret pc' (a0 :: a1 :: a2 :: a3 :: .val (.int v) :: q) ((.int v) :: st) h cells slots := r.iloadG pc' hd hp (get_s (get_s (get_s (get_s get_z))))
theorem Go.ild5 {v : Int32} {a0 a1 a2 a3 a4 : Slot} {q : List Slot} (r : Go w l R Z n0 y code ml ret pc (a0 :: a1 :: a2 :: a3 :: a4 :: .val (.int v) :: q) st h cells slots) (pc' : Nat) (hd : decode code pc = .ok (.iload 5, 2)) (hp : pc + 2 = pc') : Go w l R Z n0 y code ml ret pc' (a0 :: a1 :: a2 :: a3 :: a4 :: .val (.int v) :: q) ((.int v) :: st) h cells slots := r.iloadG pc' hd hp (get_s (get_s (get_s (get_s (get_s get_z)))))
theorem Go.ild10 {v : Int32} {a0 a1 a2 a3 a4 a5 a6 a7 a8 a9 : Slot} {q : List Slot} (r : Go w l R Z n0 y code ml ret pc (a0 :: a1 :: a2 :: a3 :: a4 :: a5 :: a6 :: a7 :: a8 :: a9 :: .val (.int v) :: q) st h cells slots) (pc' : Nat) (hd : decode code pc = .ok (.iload 10, 2)) (hp : pc + 2 = pc') : Go w l R Z n0 y code ml ret pc' (a0 :: a1 :: a2 :: a3 :: a4 :: a5 :: a6 :: a7 :: a8 :: a9 :: .val (.int v) :: q) ((.int v) :: st) h cells slots := r.iloadG pc' hd hp (get_s (get_s (get_s (get_s (get_s (get_s (get_s (get_s (get_s (get_s get_z))))))))))
theorem Go.ild13 {v : Int32} {a0 a1 a2 a3 a4 a5 a6 a7 a8 a9 a10 a11 a12 : Slot} {q : List Slot} (r : Go w l R Z n0 y code ml ret pc (a0 :: a1 :: a2 :: a3 :: a4 :: a5 :: a6 :: a7 :: a8 :: a9 :: a10 :: a11 :: a12 :: .val (.int v) :: q) st h cells slots) (pc' : Nat) (hd : decode code pc = .ok (.iload 13, 2)) (hp : pc + 2 = pc') : Go w l R Z n0 y code ml ret pc' (a0 :: a1 :: a2 :: a3 :: a4 :: a5 :: a6 :: a7 :: a8 :: a9 :: a10 :: a11 :: a12 :: .val (.int v) :: q) ((.int v) :: st) h cells slots := r.iloadG pc' hd hp (get_s (get_s (get_s (get_s (get_s (get_s (get_s (get_s (get_s (get_s (get_s (get_s (get_s get_z)))))))))))))
theorem Go.ild14 {v : Int32} {a0 a1 a2 a3 a4 a5 a6 a7 a8 a9 a10 a11 a12 a13 : Slot} {q : List Slot} (r : Go w l R Z n0 y code ml ret pc (a0 :: a1 :: a2 :: a3 :: a4 :: a5 :: a6 :: a7 :: a8 :: a9 :: a10 :: a11 :: a12 :: a13 :: .val (.int v) :: q) st h cells slots) (pc' : Nat) (hd : decode code pc = .ok (.iload 14, 2)) (hp : pc + 2 = pc') : Go w l R Z n0 y code ml ret pc' (a0 :: a1 :: a2 :: a3 :: a4 :: a5 :: a6 :: a7 :: a8 :: a9 :: a10 :: a11 :: a12 :: a13 :: .val (.int v) :: q) ((.int v) :: st) h cells slots := r.iloadG pc' hd hp (get_s (get_s (get_s (get_s (get_s (get_s (get_s (get_s (get_s (get_s (get_s (get_s (get_s (get_s get_z))))))))))))))
theorem Go.ild15 {v : Int32} {a0 a1 a2 a3 a4 a5 a6 a7 a8 a9 a10 a11 a12 a13 a14 : Slot} {q : List Slot} (r : Go w l R Z n0 y code ml ret pc (a0 :: a1 :: a2 :: a3 :: a4 :: a5 :: a6 :: a7 :: a8 :: a9 :: a10 :: a11 :: a12 :: a13 :: a14 :: .val (.int v) :: q) st h cells slots) (pc' : Nat) (hd : decode code pc = .ok (.iload 15, 2)) (hp : pc + 2 = pc') : Go w l R Z n0 y code ml ret pc' (a0 :: a1 :: a2 :: a3 :: a4 :: a5 :: a6 :: a7 :: a8 :: a9 :: a10 :: a11 :: a12 :: a13 :: a14 :: .val (.int v) :: q) ((.int v) :: st) h cells slots := r.iloadG pc' hd hp (get_s (get_s (get_s (get_s (get_s (get_s (get_s (get_s (get_s (get_s (get_s (get_s (get_s (get_s (get_s get_z)))))))))))))))
theorem Go.ild16 {v : Int32} {a0 a1 a2 a3 a4 a5 a6 a7 a8 a9 a10 a11 a12 a13 a14 a15 : Slot} {q : List Slot} (r : Go w l R Z n0 y code ml ret pc (a0 :: a1 :: a2 :: a3 :: a4 :: a5 :: a6 :: a7 :: a8 :: a9 :: a10 :: a11 :: a12 :: a13 :: a14 :: a15 :: .val (.int v) :: q) st h cells slots) (pc' : Nat) (hd : decode code pc = .ok (.iload 16, 2)) (hp : pc + 2 = pc') : Go w l R Z n0 y code ml ret pc' (a0 :: a1 :: a2 :: a3 :: a4 :: a5 :: a6 :: a7 :: a8 :: a9 :: a10 :: a11 :: a12 :: a13 :: a14 :: a15 :: .val (.int v) :: q) ((.int v) :: st) h cells slots := r.iloadG pc' hd hp (get_s (get_s (get_s (get_s (get_s (get_s (get_s (get_s (get_s (get_s (get_s (get_s (get_s (get_s (get_s (get_s get_z))))))))))))))))
theorem Go.inc5 {v d : Int32} {i : Int} {a0 a1 a2 a3 a4 : Slot} {q : List Slot} (r : Go w l R Z n0 y code ml ret pc (a0 :: a1 :: a2 :: a3 :: a4 :: .val (.int v) :: q) st h cells slots) (pc' : Nat) (hd : decode code pc = .ok (.iinc 5 i, 3)) (hp : pc + 3 = pc') (he : Int32.ofInt i = d) : Go w l R Z n0 y code ml ret pc' (a0 :: a1 :: a2 :: a3 :: a4 :: .val (.int (v + d)) :: q) st h cells slots := r.iincG pc' hd hp (get_s (get_s (get_s (get_s (get_s get_z))))) (by rw [he]; exact (set_s (set_s (set_s (set_s (set_s set_z))))))
theorem Go.ist5 {v : Int32} {o : Slot} {a0 a1 a2 a3 a4 : Slot} {q : List Slot} (r : Go w l R Z n0 y code ml ret pc (a0 :: a1 :: a2 :: a3 :: a4 :: o :: q) ((.int v) :: st) h cells slots) (pc' : Nat) (hd : decode code pc = .ok (.istore 5, 2)) (hp : pc + 2 = pc') (ho : One o) : Go w l R Z n0 y code ml ret pc' (a0 :: a1 :: a2 :: a3 :: a4 :: .val (.int v) :: q) st h cells slots := r.istoreG pc' hd hp (get_s (get_s (get_s (get_s (get_s get_z))))) ho (set_s (set_s (set_s (set_s (set_s set_z)))))
theorem Go.ist13 {v : Int32} {o : Slot} {a0 a1 a2 a3 a4 a5 a6 a7 a8 a9 a10 a11 a12 : Slot} {q : List Slot} (r : Go w l R Z n0 y code ml ret pc (a0 :: a1 :: a2 :: a3 :: a4 :: a5 :: a6 :: a7 :: a8 :: a9 :: a10 :: a11 :: a12 :: o :: q) ((.int v) :: st) h cells slots) (pc' : Nat) (hd : decode code pc = .ok (.istore 13, 2)) (hp : pc + 2 = pc') (ho : One o) : Go w l R Z n0 y code ml ret pc' (a0 :: a1 :: a2 :: a3 :: a4 :: a5 :: a6 :: a7 :: a8 :: a9 :: a10 :: a11 :: a12 :: .val (.int v) :: q) st h cells slots := r.istoreG pc' hd hp (get_s (get_s (get_s (get_s (get_s (get_s (get_s (get_s (get_s (get_s (get_s (get_s (get_s get_z))))))))))))) ho (set_s (set_s (set_s (set_s (set_s (set_s (set_s (set_s (set_s (set_s (set_s (set_s (set_s set_z)))))))))))))
theorem Go.ist14 {v : Int32} {o : Slot} {a0 a1 a2 a3 a4 a5 a6 a7 a8 a9 a10 a11 a12 a13 : Slot} {q : List Slot} (r : Go w l R Z n0 y code ml ret pc (a0 :: a1 :: a2 :: a3 :: a4 :: a5 :: a6 :: a7 :: a8 :: a9 :: a10 :: a11 :: a12 :: a13 :: o :: q) ((.int v) :: st) h cells slots) (pc' : Nat) (hd : decode code pc = .ok (.istore 14, 2)) (hp : pc + 2 = pc') (ho : One o) : Go w l R Z n0 y code ml ret pc' (a0 :: a1 :: a2 :: a3 :: a4 :: a5 :: a6 :: a7 :: a8 :: a9 :: a10 :: a11 :: a12 :: a13 :: .val (.int v) :: q) st h cells slots := r.istoreG pc' hd hp (get_s (get_s (get_s (get_s (get_s (get_s (get_s (get_s (get_s (get_s (get_s (get_s (get_s (get_s get_z)))))))))))))) ho (set_s (set_s (set_s (set_s (set_s (set_s (set_s (set_s (set_s (set_s (set_s (set_s (set_s (set_s set_z))))))))))))))
theorem Go.ist15 {v : Int32} {o : Slot} {a0 a1 a2 a3 a4 a5 a6 a7 a8 a9 a10 a11 a12 a13 a14 : Slot} {q : List Slot} (r : Go w l R Z n0 y code ml ret pc (a0 :: a1 :: a2 :: a3 :: a4 :: a5 :: a6 :: a7 :: a8 :: a9 :: a10 :: a11 :: a12 :: a13 :: a14 :: o :: q) ((.int v) :: st) h cells slots) (pc' : Nat) (hd : decode code pc = .ok (.istore 15, 2)) (hp : pc + 2 = pc') (ho : One o) : Go w l R Z n0 y code ml ret pc' (a0 :: a1 :: a2 :: a3 :: a4 :: a5 :: a6 :: a7 :: a8 :: a9 :: a10 :: a11 :: a12 :: a13 :: a14 :: .val (.int v) :: q) st h cells slots := r.istoreG pc' hd hp (get_s (get_s (get_s (get_s (get_s (get_s (get_s (get_s (get_s (get_s (get_s (get_s (get_s (get_s (get_s get_z))))))))))))))) ho (set_s (set_s (set_s (set_s (set_s (set_s (set_s (set_s (set_s (set_s (set_s (set_s (set_s (set_s (set_s set_z)))))))))))))))
theorem Go.ist16 {v : Int32} {o : Slot} {a0 a1 a2 a3 a4 a5 a6 a7 a8 a9 a10 a11 a12 a13 a14 a15 : Slot} {q : List Slot} (r : Go w l R Z n0 y code ml ret pc (a0 :: a1 :: a2 :: a3 :: a4 :: a5 :: a6 :: a7 :: a8 :: a9 :: a10 :: a11 :: a12 :: a13 :: a14 :: a15 :: o :: q) ((.int v) :: st) h cells slots) (pc' : Nat) (hd : decode code pc = .ok (.istore 16, 2)) (hp : pc + 2 = pc') (ho : One o) : Go w l R Z n0 y code ml ret pc' (a0 :: a1 :: a2 :: a3 :: a4 :: a5 :: a6 :: a7 :: a8 :: a9 :: a10 :: a11 :: a12 :: a13 :: a14 :: a15 :: .val (.int v) :: q) st h cells slots := r.istoreG pc' hd hp (get_s (get_s (get_s (get_s (get_s (get_s (get_s (get_s (get_s (get_s (get_s (get_s (get_s (get_s (get_s (get_s get_z)))))))))))))))) ho (set_s (set_s (set_s (set_s (set_s (set_s (set_s (set_s (set_s (set_s (set_s (set_s (set_s (set_s (set_s (set_s set_z))))))))))))))))
theorem Go.lld0 {v : Int64} {q : List Slot} (r : Go w l R Z n0 y code ml ret pc (.val (.long v) :: q) st h cells slots) (pc' : Nat) (hd : decode code pc = .ok (.lload_n 0, 1)) (hp : pc + 1 = pc') : Go w l R Z n0 y code ml ret pc' (.val (.long v) :: q) ((.long v) :: st) h cells slots := r.lloadNG pc' hd hp get_z
theorem Go.lld2 {v : Int64} {a0 a1 : Slot} {q : List Slot} (r : Go w l R Z n0 y code ml ret pc (a0 :: a1 :: .val (.long v) :: q) st h cells slots) (pc' : Nat) (hd : decode code pc = .ok (.lload_n 2, 1)) (hp : pc + 1 = pc') : Go w l R Z n0 y code ml ret pc' (a0 :: a1 :: .val (.long v) :: q) ((.long v) :: st) h cells slots := r.lloadNG pc' hd hp (get_s (get_s get_z))
theorem Go.lld4 {v : Int64} {a0 a1 a2 a3 : Slot} {q : List Slot} (r : Go w l R Z n0 y code ml ret pc (a0 :: a1 :: a2 :: a3 :: .val (.long v) :: q) st h cells slots) (pc' : Nat) (hd : decode code pc = .ok (.lload 4, 2)) (hp : pc + 2 = pc') : Go w l R Z n0 y code ml ret pc' (a0 :: a1 :: a2 :: a3 :: .val (.long v) :: q) ((.long v) :: st) h cells slots := r.lloadG pc' hd hp (get_s (get_s (get_s (get_s get_z))))
theorem Go.lld6 {v : Int64} {a0 a1 a2 a3 a4 a5 : Slot} {q : List Slot} (r : Go w l R Z n0 y code ml ret pc (a0 :: a1 :: a2 :: a3 :: a4 :: a5 :: .val (.long v) :: q) st h cells slots) (pc' : Nat) (hd : decode code pc = .ok (.lload 6, 2)) (hp : pc + 2 = pc') : Go w l R Z n0 y code ml ret pc' (a0 :: a1 :: a2 :: a3 :: a4 :: a5 :: .val (.long v) :: q) ((.long v) :: st) h cells slots := r.lloadG pc' hd hp (get_s (get_s (get_s (get_s (get_s (get_s get_z))))))
theorem Go.lld8 {v : Int64} {a0 a1 a2 a3 a4 a5 a6 a7 : Slot} {q : List Slot} (r : Go w l R Z n0 y code ml ret pc (a0 :: a1 :: a2 :: a3 :: a4 :: a5 :: a6 :: a7 :: .val (.long v) :: q) st h cells slots) (pc' : Nat) (hd : decode code pc = .ok (.lload 8, 2)) (hp : pc + 2 = pc') : Go w l R Z n0 y code ml ret pc' (a0 :: a1 :: a2 :: a3 :: a4 :: a5 :: a6 :: a7 :: .val (.long v) :: q) ((.long v) :: st) h cells slots := r.lloadG pc' hd hp (get_s (get_s (get_s (get_s (get_s (get_s (get_s (get_s get_z))))))))
theorem Go.goto {o : Int} (r : Go w l R Z n0 y code ml ret pc Ls st h cells slots) (pc' : Nat) (hd : decode code pc = .ok (.goto o, 3)) (hp : (pc : Int) + o = pc') : Go w l R Z n0 y code ml ret pc' Ls st h cells slots :=
  r.step fun T t a x b k => XS.goto a x rfl (pc0 := pc) (pc' := pc') rfl (hb b hd) (by rw [hp]; exact Int.natCast_nonneg _) (by rw [hp]; exact Int.toNat_natCast _) k
theorem Go.ifT {o : Int} {cd : ClassFile.Cond} {u : Int32} (r : Go w l R Z n0 y code ml ret pc Ls (.int u :: st) h cells slots) (pc' : Nat) (hd : decode code pc = .ok (.ifCond cd o, 3)) (hp : (pc : Int) + o = pc') (hc : ifCond.holds cd u = true) : Go w l R Z n0 y code ml ret pc' Ls st h cells slots :=
  r.step fun T t a x b k => XS.ifYes a x rfl (pc0 := pc) (pc' := pc') rfl (hb b hd) rfl hc (by rw [hp]; exact Int.natCast_nonneg _) (by rw [hp]; exact Int.toNat_natCast _) k
theorem Go.ifF {o : Int} {cd : ClassFile.Cond} {u : Int32} (r : Go w l R Z n0 y code ml ret pc Ls (.int u :: st) h cells slots) (pc' : Nat) (hd : decode code pc = .ok (.ifCond cd o, 3)) (hp : pc + 3 = pc') (hc : ifCond.holds cd u = false) : Go w l R Z n0 y code ml ret pc' Ls st h cells slots := by
  subst hp; exact r.step fun T t a x b k => XS.ifNo a x rfl (hb b hd) rfl hc k
theorem Go.icT {o : Int} {cd : ClassFile.Cond} {u v : Int32} (r : Go w l R Z n0 y code ml ret pc Ls (.int v :: .int u :: st) h cells slots) (pc' : Nat) (hd : decode code pc = .ok (.if_icmp cd o, 3)) (hp : (pc : Int) + o = pc') (hc : if_icmp.holds cd u v = true) : Go w l R Z n0 y code ml ret pc' Ls st h cells slots :=
  r.step fun T t a x b k => XS.icmpYes a x rfl (pc0 := pc) (pc' := pc') rfl (hb b hd) rfl hc (by rw [hp]; exact Int.natCast_nonneg _) (by rw [hp]; exact Int.toNat_natCast _) k
theorem Go.icF {o : Int} {cd : ClassFile.Cond} {u v : Int32} (r : Go w l R Z n0 y code ml ret pc Ls (.int v :: .int u :: st) h cells slots) (pc' : Nat) (hd : decode code pc = .ok (.if_icmp cd o, 3)) (hp : pc + 3 = pc') (hc : if_icmp.holds cd u v = false) : Go w l R Z n0 y code ml ret pc' Ls st h cells slots := by
  subst hp; exact r.step fun T t a x b k => XS.icmpNo a x rfl (hb b hd) rfl hc k
theorem Go.if_eqT {o : Int} {u : Int32} (r : Go w l R Z n0 y code ml ret pc Ls (.int u :: st) h cells slots) (pc' : Nat) (hd : decode code pc = .ok (.ifCond .eq o, 3)) (hp : (pc : Int) + o = pc') (hc : u = 0) : Go w l R Z n0 y code ml ret pc' Ls st h cells slots := r.ifT pc' hd hp ((if0 _ _).trans (teq hc).1)
theorem Go.if_eqF {o : Int} {u : Int32} (r : Go w l R Z n0 y code ml ret pc Ls (.int u :: st) h cells slots) (pc' : Nat) (hd : decode code pc = .ok (.ifCond .eq o, 3)) (hp : pc + 3 = pc') (hc : ¬ u = 0) : Go w l R Z n0 y code ml ret pc' Ls st h cells slots := r.ifF pc' hd hp ((if0 _ _).trans (feq hc).1)
theorem Go.if_eq {o : Int} {u : Int32} (r : Go w l R Z n0 y code ml ret pc Ls (.int u :: st) h cells slots) (pcT pcF : Nat) (hd : decode code pc = .ok (.ifCond .eq o, 3)) (hp : (pc : Int) + o = pcT) (hq : pc + 3 = pcF) : ((u = 0) ∧ Go w l R Z n0 y code ml ret pcT Ls st h cells slots) ∨ ((¬ u = 0) ∧ Go w l R Z n0 y code ml ret pcF Ls st h cells slots) := by
  by_cases hc : u = 0
  · exact Or.inl ⟨hc, r.if_eqT pcT hd hp hc⟩
  · exact Or.inr ⟨hc, r.if_eqF pcF hd hq hc⟩
theorem Go.ic_eqT {o : Int} {u v : Int32} (r : Go w l R Z n0 y code ml ret pc Ls (.int v :: .int u :: st) h cells slots) (pc' : Nat) (hd : decode code pc = .ok (.if_icmp .eq o, 3)) (hp : (pc : Int) + o = pc') (hc : u = v) : Go w l R Z n0 y code ml ret pc' Ls st h cells slots := r.icT pc' hd hp (teq hc).1
theorem Go.ic_eqF {o : Int} {u v : Int32} (r : Go w l R Z n0 y code ml ret pc Ls (.int v :: .int u :: st) h cells slots) (pc' : Nat) (hd : decode code pc = .ok (.if_icmp .eq o, 3)) (hp : pc + 3 = pc') (hc : ¬ u = v) : Go w l R Z n0 y code ml ret pc' Ls st h cells slots := r.icF pc' hd hp (feq hc).1
theorem Go.ic_eq {o : Int} {u v : Int32} (r : Go w l R Z n0 y code ml ret pc Ls (.int v :: .int u :: st) h cells slots) (pcT pcF : Nat) (hd : decode code pc = .ok (.if_icmp .eq o, 3)) (hp : (pc : Int) + o = pcT) (hq : pc + 3 = pcF) : ((u = v) ∧ Go w l R Z n0 y code ml ret pcT Ls st h cells slots) ∨ ((¬ u = v) ∧ Go w l R Z n0 y code ml ret pcF Ls st h cells slots) := by
  by_cases hc : u = v
  · exact Or.inl ⟨hc, r.ic_eqT pcT hd hp hc⟩
  · exact Or.inr ⟨hc, r.ic_eqF pcF hd hq hc⟩
theorem Go.if_neT {o : Int} {u : Int32} (r : Go w l R Z n0 y code ml ret pc Ls (.int u :: st) h cells slots) (pc' : Nat) (hd : decode code pc = .ok (.ifCond .ne o, 3)) (hp : (pc : Int) + o = pc') (hc : ¬ u = 0) : Go w l R Z n0 y code ml ret pc' Ls st h cells slots := r.ifT pc' hd hp ((if0 _ _).trans (feq hc).2)
theorem Go.if_neF {o : Int} {u : Int32} (r : Go w l R Z n0 y code ml ret pc Ls (.int u :: st) h cells slots) (pc' : Nat) (hd : decode code pc = .ok (.ifCond .ne o, 3)) (hp : pc + 3 = pc') (hc : u = 0) : Go w l R Z n0 y code ml ret pc' Ls st h cells slots := r.ifF pc' hd hp ((if0 _ _).trans (teq hc).2)
theorem Go.if_ne {o : Int} {u : Int32} (r : Go w l R Z n0 y code ml ret pc Ls (.int u :: st) h cells slots) (pcT pcF : Nat) (hd : decode code pc = .ok (.ifCond .ne o, 3)) (hp : (pc : Int) + o = pcT) (hq : pc + 3 = pcF) : ((¬ u = 0) ∧ Go w l R Z n0 y code ml ret pcT Ls st h cells slots) ∨ ((u = 0) ∧ Go w l R Z n0 y code ml ret pcF Ls st h cells slots) := by
  by_cases hc : ¬ u = 0
  · exact Or.inl ⟨hc, r.if_neT pcT hd hp hc⟩
  · exact Or.inr ⟨Classical.not_not.mp hc, r.if_neF pcF hd hq (Classical.not_not.mp hc)⟩
theorem Go.ic_neT {o : Int} {u v : Int32} (r : Go w l R Z n0 y code ml ret pc Ls (.int v :: .int u :: st) h cells slots) (pc' : Nat) (hd : decode code pc = .ok (.if_icmp .ne o, 3)) (hp : (pc : Int) + o = pc') (hc : ¬ u = v) : Go w l R Z n0 y code ml ret pc' Ls st h cells slots := r.icT pc' hd hp (feq hc).2
theorem Go.ic_neF {o : Int} {u v : Int32} (r : Go w l R Z n0 y code ml ret pc Ls (.int v :: .int u :: st) h cells slots) (pc' : Nat) (hd : decode code pc = .ok (.if_icmp .ne o, 3)) (hp : pc + 3 = pc') (hc : u = v) : Go w l R Z n0 y code ml ret pc' Ls st h cells slots := r.icF pc' hd hp (teq hc).2
theorem Go.ic_ne {o : Int} {u v : Int32} (r : Go w l R Z n0 y code ml ret pc Ls (.int v :: .int u :: st) h cells slots) (pcT pcF : Nat) (hd : decode code pc = .ok (.if_icmp .ne o, 3)) (hp : (pc : Int) + o = pcT) (hq : pc + 3 = pcF) : ((¬ u = v) ∧ Go w l R Z n0 y code ml ret pcT Ls st h cells slots) ∨ ((u = v) ∧ Go w l R Z n0 y code ml ret pcF Ls st h cells slots) := by
  by_cases hc : ¬ u = v
  · exact Or.inl ⟨hc, r.ic_neT pcT hd hp hc⟩
  · exact Or.inr ⟨Classical.not_not.mp hc, r.ic_neF pcF hd hq (Classical.not_not.mp hc)⟩
theorem Go.if_ltT {o : Int} {u : Int32} (r : Go w l R Z n0 y code ml ret pc Ls (.int u :: st) h cells slots) (pc' : Nat) (hd : decode code pc = .ok (.ifCond .lt o, 3)) (hp : (pc : Int) + o = pc') (hc : u < 0) : Go w l R Z n0 y code ml ret pc' Ls st h cells slots := r.ifT pc' hd hp ((if0 _ _).trans (tlt hc).1)
theorem Go.if_ltF {o : Int} {u : Int32} (r : Go w l R Z n0 y code ml ret pc Ls (.int u :: st) h cells slots) (pc' : Nat) (hd : decode code pc = .ok (.ifCond .lt o, 3)) (hp : pc + 3 = pc') (hc : ¬ u < 0) : Go w l R Z n0 y code ml ret pc' Ls st h cells slots := r.ifF pc' hd hp ((if0 _ _).trans (flt hc).1)
theorem Go.if_lt {o : Int} {u : Int32} (r : Go w l R Z n0 y code ml ret pc Ls (.int u :: st) h cells slots) (pcT pcF : Nat) (hd : decode code pc = .ok (.ifCond .lt o, 3)) (hp : (pc : Int) + o = pcT) (hq : pc + 3 = pcF) : ((u < 0) ∧ Go w l R Z n0 y code ml ret pcT Ls st h cells slots) ∨ ((¬ u < 0) ∧ Go w l R Z n0 y code ml ret pcF Ls st h cells slots) := by
  by_cases hc : u < 0
  · exact Or.inl ⟨hc, r.if_ltT pcT hd hp hc⟩
  · exact Or.inr ⟨hc, r.if_ltF pcF hd hq hc⟩
theorem Go.ic_ltT {o : Int} {u v : Int32} (r : Go w l R Z n0 y code ml ret pc Ls (.int v :: .int u :: st) h cells slots) (pc' : Nat) (hd : decode code pc = .ok (.if_icmp .lt o, 3)) (hp : (pc : Int) + o = pc') (hc : u < v) : Go w l R Z n0 y code ml ret pc' Ls st h cells slots := r.icT pc' hd hp (tlt hc).1
theorem Go.ic_ltF {o : Int} {u v : Int32} (r : Go w l R Z n0 y code ml ret pc Ls (.int v :: .int u :: st) h cells slots) (pc' : Nat) (hd : decode code pc = .ok (.if_icmp .lt o, 3)) (hp : pc + 3 = pc') (hc : ¬ u < v) : Go w l R Z n0 y code ml ret pc' Ls st h cells slots := r.icF pc' hd hp (flt hc).1
theorem Go.ic_lt {o : Int} {u v : Int32} (r : Go w l R Z n0 y code ml ret pc Ls (.int v :: .int u :: st) h cells slots) (pcT pcF : Nat) (hd : decode code pc = .ok (.if_icmp .lt o, 3)) (hp : (pc : Int) + o = pcT) (hq : pc + 3 = pcF) : ((u < v) ∧ Go w l R Z n0 y code ml ret pcT Ls st h cells slots) ∨ ((¬ u < v) ∧ Go w l R Z n0 y code ml ret pcF Ls st h cells slots) := by
  by_cases hc : u < v
  · exact Or.inl ⟨hc, r.ic_ltT pcT hd hp hc⟩
  · exact Or.inr ⟨hc, r.ic_ltF pcF hd hq hc⟩
theorem Go.if_geT {o : Int} {u : Int32} (r : Go w l R Z n0 y code ml ret pc Ls (.int u :: st) h cells slots) (pc' : Nat) (hd : decode code pc = .ok (.ifCond .ge o, 3)) (hp : (pc : Int) + o = pc') (hc : ¬ u < 0) : Go w l R Z n0 y code ml ret pc' Ls st h cells slots := r.ifT pc' hd hp ((if0 _ _).trans (flt hc).2.1)
theorem Go.if_geF {o : Int} {u : Int32} (r : Go w l R Z n0 y code ml ret pc Ls (.int u :: st) h cells slots) (pc' : Nat) (hd : decode code pc = .ok (.ifCond .ge o, 3)) (hp : pc + 3 = pc') (hc : u < 0) : Go w l R Z n0 y code ml ret pc' Ls st h cells slots := r.ifF pc' hd hp ((if0 _ _).trans (tlt hc).2.1)
theorem Go.if_ge {o : Int} {u : Int32} (r : Go w l R Z n0 y code ml ret pc Ls (.int u :: st) h cells slots) (pcT pcF : Nat) (hd : decode code pc = .ok (.ifCond .ge o, 3)) (hp : (pc : Int) + o = pcT) (hq : pc + 3 = pcF) : ((¬ u < 0) ∧ Go w l R Z n0 y code ml ret pcT Ls st h cells slots) ∨ ((u < 0) ∧ Go w l R Z n0 y code ml ret pcF Ls st h cells slots) := by
  by_cases hc : ¬ u < 0
  · exact Or.inl ⟨hc, r.if_geT pcT hd hp hc⟩
  · exact Or.inr ⟨Classical.not_not.mp hc, r.if_geF pcF hd hq (Classical.not_not.mp hc)⟩
theorem Go.ic_geT {o : Int} {u v : Int32} (r : Go w l R Z n0 y code ml ret pc Ls (.int v :: .int u :: st) h cells slots) (pc' : Nat) (hd : decode code pc = .ok (.if_icmp .ge o, 3)) (hp : (pc : Int) + o = pc') (hc : ¬ u < v) : Go w l R Z n0 y code ml ret pc' Ls st h cells slots := r.icT pc' hd hp (flt hc).2.1
theorem Go.ic_geF {o : Int} {u v : Int32} (r : Go w l R Z n0 y code ml ret pc Ls (.int v :: .int u :: st) h cells slots) (pc' : Nat) (hd : decode code pc = .ok (.if_icmp .ge o, 3)) (hp : pc + 3 = pc') (hc : u < v) : Go w l R Z n0 y code ml ret pc' Ls st h cells slots := r.icF pc' hd hp (tlt hc).2.1
theorem Go.ic_ge {o : Int} {u v : Int32} (r : Go w l R Z n0 y code ml ret pc Ls (.int v :: .int u :: st) h cells slots) (pcT pcF : Nat) (hd : decode code pc = .ok (.if_icmp .ge o, 3)) (hp : (pc : Int) + o = pcT) (hq : pc + 3 = pcF) : ((¬ u < v) ∧ Go w l R Z n0 y code ml ret pcT Ls st h cells slots) ∨ ((u < v) ∧ Go w l R Z n0 y code ml ret pcF Ls st h cells slots) := by
  by_cases hc : ¬ u < v
  · exact Or.inl ⟨hc, r.ic_geT pcT hd hp hc⟩
  · exact Or.inr ⟨Classical.not_not.mp hc, r.ic_geF pcF hd hq (Classical.not_not.mp hc)⟩
theorem Go.if_gtT {o : Int} {u : Int32} (r : Go w l R Z n0 y code ml ret pc Ls (.int u :: st) h cells slots) (pc' : Nat) (hd : decode code pc = .ok (.ifCond .gt o, 3)) (hp : (pc : Int) + o = pc') (hc : 0 < u) : Go w l R Z n0 y code ml ret pc' Ls st h cells slots := r.ifT pc' hd hp ((if0 _ _).trans (tlt hc).2.2.1)
theorem Go.if_gtF {o : Int} {u : Int32} (r : Go w l R Z n0 y code ml ret pc Ls (.int u :: st) h cells slots) (pc' : Nat) (hd : decode code pc = .ok (.ifCond .gt o, 3)) (hp : pc + 3 = pc') (hc : ¬ 0 < u) : Go w l R Z n0 y code ml ret pc' Ls st h cells slots := r.ifF pc' hd hp ((if0 _ _).trans (flt hc).2.2.1)
theorem Go.if_gt {o : Int} {u : Int32} (r : Go w l R Z n0 y code ml ret pc Ls (.int u :: st) h cells slots) (pcT pcF : Nat) (hd : decode code pc = .ok (.ifCond .gt o, 3)) (hp : (pc : Int) + o = pcT) (hq : pc + 3 = pcF) : ((0 < u) ∧ Go w l R Z n0 y code ml ret pcT Ls st h cells slots) ∨ ((¬ 0 < u) ∧ Go w l R Z n0 y code ml ret pcF Ls st h cells slots) := by
  by_cases hc : 0 < u
  · exact Or.inl ⟨hc, r.if_gtT pcT hd hp hc⟩
  · exact Or.inr ⟨hc, r.if_gtF pcF hd hq hc⟩
theorem Go.ic_gtT {o : Int} {u v : Int32} (r : Go w l R Z n0 y code ml ret pc Ls (.int v :: .int u :: st) h cells slots) (pc' : Nat) (hd : decode code pc = .ok (.if_icmp .gt o, 3)) (hp : (pc : Int) + o = pc') (hc : v < u) : Go w l R Z n0 y code ml ret pc' Ls st h cells slots := r.icT pc' hd hp (tlt hc).2.2.1
theorem Go.ic_gtF {o : Int} {u v : Int32} (r : Go w l R Z n0 y code ml ret pc Ls (.int v :: .int u :: st) h cells slots) (pc' : Nat) (hd : decode code pc = .ok (.if_icmp .gt o, 3)) (hp : pc + 3 = pc') (hc : ¬ v < u) : Go w l R Z n0 y code ml ret pc' Ls st h cells slots := r.icF pc' hd hp (flt hc).2.2.1
theorem Go.ic_gt {o : Int} {u v : Int32} (r : Go w l R Z n0 y code ml ret pc Ls (.int v :: .int u :: st) h cells slots) (pcT pcF : Nat) (hd : decode code pc = .ok (.if_icmp .gt o, 3)) (hp : (pc : Int) + o = pcT) (hq : pc + 3 = pcF) : ((v < u) ∧ Go w l R Z n0 y code ml ret pcT Ls st h cells slots) ∨ ((¬ v < u) ∧ Go w l R Z n0 y code ml ret pcF Ls st h cells slots) := by
  by_cases hc : v < u
  · exact Or.inl ⟨hc, r.ic_gtT pcT hd hp hc⟩
  · exact Or.inr ⟨hc, r.ic_gtF pcF hd hq hc⟩
theorem Go.if_leT {o : Int} {u : Int32} (r : Go w l R Z n0 y code ml ret pc Ls (.int u :: st) h cells slots) (pc' : Nat) (hd : decode code pc = .ok (.ifCond .le o, 3)) (hp : (pc : Int) + o = pc') (hc : ¬ 0 < u) : Go w l R Z n0 y code ml ret pc' Ls st h cells slots := r.ifT pc' hd hp ((if0 _ _).trans (flt hc).2.2.2)
theorem Go.if_leF {o : Int} {u : Int32} (r : Go w l R Z n0 y code ml ret pc Ls (.int u :: st) h cells slots) (pc' : Nat) (hd : decode code pc = .ok (.ifCond .le o, 3)) (hp : pc + 3 = pc') (hc : 0 < u) : Go w l R Z n0 y code ml ret pc' Ls st h cells slots := r.ifF pc' hd hp ((if0 _ _).trans (tlt hc).2.2.2)
theorem Go.if_le {o : Int} {u : Int32} (r : Go w l R Z n0 y code ml ret pc Ls (.int u :: st) h cells slots) (pcT pcF : Nat) (hd : decode code pc = .ok (.ifCond .le o, 3)) (hp : (pc : Int) + o = pcT) (hq : pc + 3 = pcF) : ((¬ 0 < u) ∧ Go w l R Z n0 y code ml ret pcT Ls st h cells slots) ∨ ((0 < u) ∧ Go w l R Z n0 y code ml ret pcF Ls st h cells slots) := by
  by_cases hc : ¬ 0 < u
  · exact Or.inl ⟨hc, r.if_leT pcT hd hp hc⟩
  · exact Or.inr ⟨Classical.not_not.mp hc, r.if_leF pcF hd hq (Classical.not_not.mp hc)⟩
theorem Go.ic_leT {o : Int} {u v : Int32} (r : Go w l R Z n0 y code ml ret pc Ls (.int v :: .int u :: st) h cells slots) (pc' : Nat) (hd : decode code pc = .ok (.if_icmp .le o, 3)) (hp : (pc : Int) + o = pc') (hc : ¬ v < u) : Go w l R Z n0 y code ml ret pc' Ls st h cells slots := r.icT pc' hd hp (flt hc).2.2.2
theorem Go.ic_leF {o : Int} {u v : Int32} (r : Go w l R Z n0 y code ml ret pc Ls (.int v :: .int u :: st) h cells slots) (pc' : Nat) (hd : decode code pc = .ok (.if_icmp .le o, 3)) (hp : pc + 3 = pc') (hc : v < u) : Go w l R Z n0 y code ml ret pc' Ls st h cells slots := r.icF pc' hd hp (tlt hc).2.2.2
theorem Go.ic_le {o : Int} {u v : Int32} (r : Go w l R Z n0 y code ml ret pc Ls (.int v :: .int u :: st) h cells slots) (pcT pcF : Nat) (hd : decode code pc = .ok (.if_icmp .le o, 3)) (hp : (pc : Int) + o = pcT) (hq : pc + 3 = pcF) : ((¬ v < u) ∧ Go w l R Z n0 y code ml ret pcT Ls st h cells slots) ∨ ((v < u) ∧ Go w l R Z n0 y code ml ret pcF Ls st h cells slots) := by
  by_cases hc : ¬ v < u
  · exact Or.inl ⟨hc, r.ic_leT pcT hd hp hc⟩
  · exact Or.inr ⟨Classical.not_not.mp hc, r.ic_leF pcF hd hq (Classical.not_not.mp hc)⟩
/-! constants of the pool -/
theorem Go.ldcI {idx : Nat} {v : Int32} {a0 : Array Value} (r : Go w l R Z n0 y code ml ret pc Ls st h cells slots) (pc' : Nat) (hd : decode code pc = .ok (.ldc idx, 2)) (hp : pc + 2 = pc') (wc : (Cond.constant y.cls idx v).before a0 Z = true) : Go w l R Z n0 y code ml ret pc' Ls (.int v :: st) h cells slots := by
  subst hp
  obtain ⟨S, T, locs, X, e, N, k⟩ := r
  exact ⟨S, T, locs, X, e, N, fun t q => k t (X.ldcInt S.1 S.2.2.1 (mvT S.2.1 wc) (g := mkF w.m pc Ls.toArray st) rfl (hb S.2.2.2.1 hd) t q)⟩
theorem Go.ldc2 {idx : Nat} {v : Int64} {a0 : Array Value} (r : Go w l R Z n0 y code ml ret pc Ls st h cells slots) (pc' : Nat) (hd : decode code pc = .ok (.ldc2_w idx, 3)) (hp : pc + 3 = pc') (wc : (Cond.constantLong y.cls idx v).before a0 Z = true) : Go w l R Z n0 y code ml ret pc' Ls (.long v :: st) h cells slots := by
  subst hp
  obtain ⟨S, T, locs, X, e, N, k⟩ := r
  exact ⟨S, T, locs, X, e, N, fun t q => k t (X.ldc2Long S.1 S.2.2.1 (mvT S.2.1 wc) (g := mkF w.m pc Ls.toArray st) rfl (hb S.2.2.2.1 hd) t q)⟩
/-! fields -/
theorem Go.getF {idx : Nat} {O n d : String} {v : Value} {a : Addr} {a0 : Array Value} (r : Go w l R Z n0 y code ml ret pc Ls (.ref a :: st) h cells slots) (pc' : Nat) (hd : decode code pc = .ok (.getfield idx, 3)) (hp : pc + 3 = pc') (wf : (Cond.fieldLink y.cls idx O n d).before a0 Z = true) (F : Fld Z h a O n d v) : Go w l R Z n0 y code ml ret pc' Ls (v :: st) h cells slots := by
  subst hp
  obtain ⟨S, T, locs, X, e, N, k⟩ := r
  obtain ⟨T', X', e', q⟩ := Jvm.RoadKit.getF X S.1 S.2.1 S.2.2.1 (host := "") (Or.inl wf) Via.refl e F (g := mkF w.m pc Ls.toArray (.ref a :: st)) rfl rfl (hb S.2.2.2.1 hd)
  exact ⟨S, T', locs, X', e', N, fun t z => k t (q t z)⟩
/-- a field's place in an object of class C that may be written here: 'lays', or 'laysFinal' in a constructor of its own class -/
def Wry (Z : State) (a0 : Array Value) (y : MethodName) (C O n d : String) : Prop := (Cond.lays C O n d).before a0 Z = true ∨ ((Cond.laysFinal C O n d).before a0 Z = true ∧ y.cls = O ∧ y.name = "<init>")
theorem Go.putF {idx kk : Nat} {C O n d : String} {v old : Value} {a : Addr} {a0 : Array Value} (r : Go w l R Z n0 y code ml ret pc Ls (v :: .ref a :: st) h cells slots) (pc' : Nat) (hd : decode code pc = .ok (.putfield idx, 3)) (hp : pc + 3 = pc') (wf : (Cond.fieldLink y.cls idx O n d).before a0 Z = true) (wl : Wry Z a0 y C O n d) (wi : (Cond.instantiable C kk).before a0 Z = true) (E : Exa Z h a C) (F : Fld Z h a O n d old) {ty : FieldType} (hty : parseFieldDescriptor d = some ty) (hn : narrow ty v = v) (hf : fits ty v = true) (g0 : n0 ≤ a) :
    ∃ h', Wr h h' a (Jvm.RoadKit.slotOf Z O n d) v ∧ Go w l R Z n0 y code ml ret pc' Ls st h' cells slots := by
  subst hp
  obtain ⟨S, T, locs, X, e, N, k⟩ := r
  obtain ⟨T', h', X', e', Wq, q⟩ := Jvm.RoadKit.putF X S.1 S.2.1 S.2.2.1 (host := "") (Or.inl wf) Via.refl e F E (wl.imp id fun z => ⟨z.1, z.2.1, S.2.2.2.2.2.2.2.trans z.2.2⟩) wi hty hn hf (g := mkF w.m pc Ls.toArray (v :: .ref a :: st)) rfl rfl (hb S.2.2.2.1 hd)
  exact ⟨h', Wq, S, T', _, X', e', Fr.snoc X' N g0, fun t z => k t (q t z)⟩
theorem Go.putFN {idx kk : Nat} {C O n d : String} {v v' old : Value} {a : Addr} {a0 : Array Value} (r : Go w l R Z n0 y code ml ret pc Ls (v :: .ref a :: st) h cells slots) (pc' : Nat) (hd : decode code pc = .ok (.putfield idx, 3)) (hp : pc + 3 = pc') (wf : (Cond.fieldLink y.cls idx O n d).before a0 Z = true) (wl : Wry Z a0 y C O n d) (wi : (Cond.instantiable C kk).before a0 Z = true) (E : Exa Z h a C) (F : Fld Z h a O n d old) {ty : FieldType} (hty : parseFieldDescriptor d = some ty) (hn : narrow ty v = v') (hf : fits ty v' = true) (g0 : n0 ≤ a) :
    ∃ h', Wr h h' a (Jvm.RoadKit.slotOf Z O n d) v' ∧ Go w l R Z n0 y code ml ret pc' Ls st h' cells slots := by
  subst hp
  obtain ⟨S, T, locs, X, e, N, k⟩ := r
  obtain ⟨T', h', X', e', Wq, q⟩ := Jvm.RoadKit.putFN X S.1 S.2.1 S.2.2.1 wf Via.refl e F E (wl.imp id fun z => ⟨z.1, z.2.1, S.2.2.2.2.2.2.2.trans z.2.2⟩) wi hty hn hf (g := mkF w.m pc Ls.toArray (v :: .ref a :: st)) rfl rfl (hb S.2.2.2.1 hd)
  exact ⟨h', Wq, S, T', _, X', e', Fr.snoc X' N g0, fun t z => k t (q t z)⟩
/-! making -/
theorem Go.newO {idx n : Nat} {C : String} {a0 : Array Value} (r : Go w l R Z n0 y code ml ret pc Ls st h cells slots) (pc' : Nat) (hd : decode code pc = .ok (.new idx, 3)) (hp : pc + 3 = pc') (w1 : (Cond.classLink y.cls idx C).before a0 Z = true) (w2 : (Cond.instantiable C n).before a0 Z = true) (w3 : (Cond.initialized C).before a0 Z = true) (hc : cells + 1 ≤ R.cells) (hs : slots + n ≤ R.slots) :
    ∃ h' a, a = h.size ∧ Ext h h' ∧ Exa Z h' a C ∧ (∀ {O nm d : String} {ty : FieldType}, Laid Z a0 C O nm d → parseFieldDescriptor d = some ty → Fld Z h' a O nm d (defaultValue ty)) ∧ Go w l R Z n0 y code ml ret pc' Ls (.ref a :: st) h' (cells + 1) (slots + n) := by
  subst hp
  obtain ⟨S, T, locs, X, e, N, k⟩ := r
  obtain ⟨T', h', X', e', E, A, D, -, q⟩ := Jvm.RoadKit.newO X S.1 S.2.1 S.2.2.1 w1 w2 w3 e (g := mkF w.m pc Ls.toArray st) rfl (hb S.2.2.2.1 hd) hc hs
  exact ⟨h', h.size, rfl, E, A, D, S, T', locs, X', e', N, fun t z => k t (q t z)⟩
/-- an array with all its components -/
def Ary (Z : State) (h : Heap) (a : Addr) (ty : FieldType) (vs : List Value) : Prop := ∃ k d, Arv Z h a k ty (Int32.ofNat vs.length) vs d ∧ vs.length < 2 ^ 31
theorem len_nat {n : Nat} (h : n < 2 ^ 31) : (Int32.ofNat n).toNatClampNeg = n := by
  have := Int32.toInt_ofNat_small h
  simp only [Int32.toNatClampNeg]; omega
theorem len_nn {n : Nat} (h : n < 2 ^ 31) : ¬ Int32.ofNat n < 0 := by
  rw [Int32.lt_iff_toInt_lt, Int32.toInt_ofNat_small h]; have : (0 : Int32).toInt = 0 := rfl; omega
theorem nn_back {n : Int32} (h : ¬ n < 0) : Int32.ofNat n.toNatClampNeg = n := by
  have h1 := (back32 h).1
  simpa using h1
variable {a b : Addr} {ty : FieldType} {vs : List Value} {h' : Heap}
theorem Ary.lt (A : Ary Z h a ty vs) : a < h.size := by obtain ⟨k, d, V, -⟩ := A; exact V.lt
theorem Ary.ext (A : Ary Z h a ty vs) (E : Ext h h') : Ary Z h' a ty vs := by obtain ⟨k, d, V, q⟩ := A; exact ⟨k, d, V.ext E, q⟩
theorem Ary.other {v : Value} {sl : Nat} (A : Ary Z h b ty vs) (Wq : Wr h h' a sl v) (q : b ≠ a) : Ary Z h' b ty vs := by obtain ⟨k, d, V, z⟩ := A; exact ⟨k, d, V.other Wq q, z⟩
theorem Ary.keep {ws : List Addr} (A : Ary Z h a ty vs) (K : Keep h h' ws) (q : a ∉ ws) : Ary Z h' a ty vs := by obtain ⟨k, d, V, z⟩ := A; exact ⟨k, d, V.keep K q, z⟩
theorem Ary.len (A : Ary Z h a ty vs) : vs.length < 2 ^ 31 := by obtain ⟨k, d, V, z⟩ := A; exact z
theorem Ary.unf (A : Ary Z h a ty vs) : ∃ c : Cell, Arr Z h a c ty ∧ c.slots.size = vs.length ∧ (∀ i : Nat, i < vs.length → c.slots[i]? = vs[i]?) ∧ c.slots.size.toInt32 = Int32.ofNat vs.length := by
  obtain ⟨k, d, ⟨c, A1, A2, A3, A4, A5, A6⟩, z⟩ := A
  have e := len_nat z
  rw [e] at A3
  refine ⟨c, A1, A3, fun i hi => ?_, by rw [A3]⟩
  rw [A5 i (by omega), List.getD_eq_getElem?_getD, List.getElem?_eq_getElem hi]; rfl
theorem Ary.set {v : Value} {j : Int32} (A : Ary Z h a ty vs) (Wq : Wr h h' a j.toNatClampNeg v) (hf : fits ty v = true) (hj : j.toNatClampNeg < vs.length) : Ary Z h' a ty (vs.set j.toNatClampNeg v) := by
  obtain ⟨k, d, ⟨c, A1, A2, A3, A4, A5, A6⟩, z⟩ := A
  refine ⟨k, d, ?_, by simpa using z⟩
  have := Arv.set A1 A2 A3 A4 A5 A6 hf Wq _ rfl hj
  simpa using this
theorem Go.newA {aty : ArrayType} {n : Int32} {vs : List Value} {a0 : Array Value} (r : Go w l R Z n0 y code ml ret pc Ls (.int n :: st) h cells slots) (pc' : Nat) (hd : decode code pc = .ok (.newarray aty, 2)) (hp : pc + 2 = pc') (w1 : (Cond.arrayClass (newarray.typeOf aty)).before a0 Z = true) (hn : ¬ n < 0) (hv : List.replicate n.toNatClampNeg (defaultValue (newarray.typeOf aty)) = vs) (cap : Nat) (hcap : n.toNatClampNeg ≤ cap) (hb8 : cap * 8 ≤ 536870912) (hc : cells + 1 ≤ R.cells) (hs : slots + cap ≤ R.slots) :
    ∃ h' a, a = h.size ∧ Ext h h' ∧ Ary Z h' a (newarray.typeOf aty) vs ∧ Go w l R Z n0 y code ml ret pc' Ls (.ref a :: st) h' (cells + 1) (slots + cap) := by
  subst hp
  obtain ⟨S, T, locs, X, e, N, k⟩ := r
  obtain ⟨T', h', kA, X', e', E, A, q⟩ := Jvm.RoadKit.newP X S.1 S.2.1 w1 e (g := mkF w.m pc Ls.toArray (.int n :: st)) rfl (hb S.2.2.2.1 hd) rfl hn hcap hb8 hc hs
  refine ⟨h', h.size, rfl, E, ?_, S, T', locs, X', e', N, fun t z => k t (q t z)⟩
  have hl : vs.length = n.toNatClampNeg := by rw [← hv]; simp
  refine ⟨kA, defaultValue (newarray.typeOf aty), ?_, by rw [hl]; exact (back32 hn).2⟩
  rw [hl, nn_back hn, ← hv]
  exact (Arv.new A hn).pad (by simpa using pad_rep [] (defaultValue (newarray.typeOf aty)) n.toNatClampNeg)
/-! arrays -/
theorem inb {j : Int32} {n : Nat} (h0 : ¬ j < 0) (hj : j.toNatClampNeg < n) : ¬ (j < 0 ∨ n ≤ j.toNatClampNeg) := fun q => q.elim h0 (Nat.not_le.mpr hj)
theorem Go.alen (r : Go w l R Z n0 y code ml ret pc Ls (.ref a :: st) h cells slots) (pc' : Nat) (hd : decode code pc = .ok (.arraylength, 1)) (hp : pc + 1 = pc') (A : Ary Z h a ty vs) (n : Int32) (hn : Int32.ofNat vs.length = n) : Go w l R Z n0 y code ml ret pc' Ls (.int n :: st) h cells slots := by
  subst hp hn
  obtain ⟨S, T, locs, X, e, N, k⟩ := r
  obtain ⟨c, A1, A2, A3, A4⟩ := A.unf
  exact ⟨S, T, locs, X, e, N, fun t q => k t (X.arraylength S.1 (by rw [e]; exact A1.1) (State.isArrayOf_alike S.2.1.alike A1.2.1) (g := mkF w.m pc Ls.toArray (.ref a :: st)) rfl rfl (hb S.2.2.2.1 hd) t (by rw [A4]; exact q))⟩
theorem Go.iald {j : Int32} {v : Value} (r : Go w l R Z n0 y code ml ret pc Ls (.int j :: .ref a :: st) h cells slots) (pc' : Nat) (hd : decode code pc = .ok (.iaload, 1)) (hp : pc + 1 = pc') (A : Ary Z h a .int vs) (h0 : ¬ j < 0) (hv : vs[j.toNatClampNeg]? = some v) : Go w l R Z n0 y code ml ret pc' Ls (v :: st) h cells slots := by
  subst hp
  obtain ⟨S, T, locs, X, e, N, k⟩ := r
  obtain ⟨c, A1, A2, A3, A4⟩ := A.unf
  have hj := (List.getElem?_eq_some_iff.mp hv).1
  exact ⟨S, T, locs, X, e, N, fun t q => k t (X.iaload S.1 (by rw [e]; exact A1.1) (State.isArrayOf_alike S.2.1.alike A1.2.1) A1.2.2 (by rw [A2]; exact inb h0 hj) ((A3 _ hj).trans hv) (g := mkF w.m pc Ls.toArray (.int j :: .ref a :: st)) rfl rfl (hb S.2.2.2.1 hd) t q)⟩
theorem Go.lald {j : Int32} {v : Value} (r : Go w l R Z n0 y code ml ret pc Ls (.int j :: .ref a :: st) h cells slots) (pc' : Nat) (hd : decode code pc = .ok (.laload, 1)) (hp : pc + 1 = pc') (A : Ary Z h a .long vs) (h0 : ¬ j < 0) (hv : vs[j.toNatClampNeg]? = some v) : Go w l R Z n0 y code ml ret pc' Ls (v :: st) h cells slots := by
  subst hp
  obtain ⟨S, T, locs, X, e, N, k⟩ := r
  obtain ⟨c, A1, A2, A3, A4⟩ := A.unf
  have hj := (List.getElem?_eq_some_iff.mp hv).1
  exact ⟨S, T, locs, X, e, N, fun t q => k t (X.laload S.1 (by rw [e]; exact A1.1) (State.isArrayOf_alike S.2.1.alike A1.2.1) A1.2.2 (by rw [A2]; exact inb h0 hj) ((A3 _ hj).trans hv) (g := mkF w.m pc Ls.toArray (.int j :: .ref a :: st)) rfl rfl (hb S.2.2.2.1 hd) t q)⟩
theorem Go.bald {j : Int32} {v : Value} (r : Go w l R Z n0 y code ml ret pc Ls (.int j :: .ref a :: st) h cells slots) (pc' : Nat) (hd : decode code pc = .ok (.baload, 1)) (hp : pc + 1 = pc') (A : Ary Z h a .byte vs) (h0 : ¬ j < 0) (hv : vs[j.toNatClampNeg]? = some v) : Go w l R Z n0 y code ml ret pc' Ls (v :: st) h cells slots := by
  subst hp
  obtain ⟨S, T, locs, X, e, N, k⟩ := r
  obtain ⟨c, A1, A2, A3, A4⟩ := A.unf
  have hj := (List.getElem?_eq_some_iff.mp hv).1
  exact ⟨S, T, locs, X, e, N, fun t q => k t (X.baloadBytes S.1 (by rw [e]; exact A1.1) (State.isArrayOf_alike S.2.1.alike A1.2.1) A1.2.2 (by rw [A2]; exact inb h0 hj) ((A3 _ hj).trans hv) (g := mkF w.m pc Ls.toArray (.int j :: .ref a :: st)) rfl rfl (hb S.2.2.2.1 hd) t q)⟩
theorem Go.zald {j : Int32} {v : Value} (r : Go w l R Z n0 y code ml ret pc Ls (.int j :: .ref a :: st) h cells slots) (pc' : Nat) (hd : decode code pc = .ok (.baload, 1)) (hp : pc + 1 = pc') (A : Ary Z h a .boolean vs) (h0 : ¬ j < 0) (hv : vs[j.toNatClampNeg]? = some v) : Go w l R Z n0 y code ml ret pc' Ls (v :: st) h cells slots := by
  subst hp
  obtain ⟨S, T, locs, X, e, N, k⟩ := r
  obtain ⟨c, A1, A2, A3, A4⟩ := A.unf
  have hj := (List.getElem?_eq_some_iff.mp hv).1
  exact ⟨S, T, locs, X, e, N, fun t q => k t (X.baloadBooleans S.1 (by rw [e]; exact A1.1) (State.isArrayOf_alike S.2.1.alike A1.2.1) A1.2.2 (by rw [A2]; exact inb h0 hj) ((A3 _ hj).trans hv) (g := mkF w.m pc Ls.toArray (.int j :: .ref a :: st)) rfl rfl (hb S.2.2.2.1 hd) t q)⟩
theorem Go.iast {j x : Int32} (r : Go w l R Z n0 y code ml ret pc Ls (.int x :: .int j :: .ref a :: st) h cells slots) (pc' : Nat) (hd : decode code pc = .ok (.iastore, 1)) (hp : pc + 1 = pc') (A : Ary Z h a .int vs) (h0 : ¬ j < 0) (hj : j.toNatClampNeg < vs.length) (g0 : n0 ≤ a) :
    ∃ h', Wr h h' a j.toNatClampNeg (.int x) ∧ Ary Z h' a .int (vs.set j.toNatClampNeg (.int x)) ∧ Go w l R Z n0 y code ml ret pc' Ls st h' cells slots := by
  subst hp
  obtain ⟨S, T, locs, X, e, N, k⟩ := r
  obtain ⟨c, A1, A2, A3, A4⟩ := A.unf
  obtain ⟨T', h', X', e', Wq, q⟩ := stI X S.1 S.2.1 e A1 (j := j) (by rw [A2]; exact inb h0 hj) (g := mkF w.m pc Ls.toArray (.int x :: .int j :: .ref a :: st)) rfl rfl (hb S.2.2.2.1 hd)
  exact ⟨h', Wq, A.set Wq rfl hj, S, T', _, X', e', Fr.snoc X' N g0, fun t z => k t (q t z)⟩
theorem Go.last {j : Int32} {x : Int64} (r : Go w l R Z n0 y code ml ret pc Ls (.long x :: .int j :: .ref a :: st) h cells slots) (pc' : Nat) (hd : decode code pc = .ok (.lastore, 1)) (hp : pc + 1 = pc') (A : Ary Z h a .long vs) (h0 : ¬ j < 0) (hj : j.toNatClampNeg < vs.length) (g0 : n0 ≤ a) :
    ∃ h', Wr h h' a j.toNatClampNeg (.long x) ∧ Ary Z h' a .long (vs.set j.toNatClampNeg (.long x)) ∧ Go w l R Z n0 y code ml ret pc' Ls st h' cells slots := by
  subst hp
  obtain ⟨S, T, locs, X, e, N, k⟩ := r
  obtain ⟨c, A1, A2, A3, A4⟩ := A.unf
  obtain ⟨T', h', X', e', Wq, q⟩ := stJ X S.1 S.2.1 e A1 (j := j) (by rw [A2]; exact inb h0 hj) (g := mkF w.m pc Ls.toArray (.long x :: .int j :: .ref a :: st)) rfl rfl (hb S.2.2.2.1 hd)
  exact ⟨h', Wq, A.set Wq rfl hj, S, T', _, X', e', Fr.snoc X' N g0, fun t z => k t (q t z)⟩
theorem Go.bast {j x : Int32} (r : Go w l R Z n0 y code ml ret pc Ls (.int x :: .int j :: .ref a :: st) h cells slots) (pc' : Nat) (hd : decode code pc = .ok (.bastore, 1)) (hp : pc + 1 = pc') (A : Ary Z h a .byte vs) (h0 : ¬ j < 0) (hj : j.toNatClampNeg < vs.length) (g0 : n0 ≤ a) :
    ∃ h', Wr h h' a j.toNatClampNeg (.int x.toInt8.toInt32) ∧ Ary Z h' a .byte (vs.set j.toNatClampNeg (.int x.toInt8.toInt32)) ∧ Go w l R Z n0 y code ml ret pc' Ls st h' cells slots := by
  subst hp
  obtain ⟨S, T, locs, X, e, N, k⟩ := r
  obtain ⟨c, A1, A2, A3, A4⟩ := A.unf
  obtain ⟨T', h', X', e', Wq, q⟩ := stB X S.1 S.2.1 e A1 (j := j) (by rw [A2]; exact inb h0 hj) (g := mkF w.m pc Ls.toArray (.int x :: .int j :: .ref a :: st)) rfl rfl (hb S.2.2.2.1 hd)
  exact ⟨h', Wq, A.set Wq (fits_nar_byte _) hj, S, T', _, X', e', Fr.snoc X' N g0, fun t z => k t (q t z)⟩
theorem Go.zast {j x : Int32} (r : Go w l R Z n0 y code ml ret pc Ls (.int x :: .int j :: .ref a :: st) h cells slots) (pc' : Nat) (hd : decode code pc = .ok (.bastore, 1)) (hp : pc + 1 = pc') (A : Ary Z h a .boolean vs) (h0 : ¬ j < 0) (hj : j.toNatClampNeg < vs.length) (g0 : n0 ≤ a) :
    ∃ h', Wr h h' a j.toNatClampNeg (.int (x &&& 1)) ∧ Ary Z h' a .boolean (vs.set j.toNatClampNeg (.int (x &&& 1))) ∧ Go w l R Z n0 y code ml ret pc' Ls st h' cells slots := by
  subst hp
  obtain ⟨S, T, locs, X, e, N, k⟩ := r
  obtain ⟨c, A1, A2, A3, A4⟩ := A.unf
  obtain ⟨T', h', X', e', Wq, q⟩ := stZ X S.1 S.2.1 e A1 (j := j) (by rw [A2]; exact inb h0 hj) (g := mkF w.m pc Ls.toArray (.int x :: .int j :: .ref a :: st)) rfl rfl (hb S.2.2.2.1 hd)
  exact ⟨h', Wq, A.set Wq (fits_nar_bool _) hj, S, T', _, X', e', Fr.snoc X' N g0, fun t z => k t (q t z)⟩
/-! calls -/
def wt (st : List Value) : Nat := (st.map fun v => v.category).sum
variable {y' : MethodName} {code' : ByteArray} {ml' : Nat} {ret' : Option FieldType} {rm : Room} {as rest : List Value} {Q : Option Value → Heap → Prop} {ps : List FieldType} {rt : Option FieldType} {a0 : Array Value} {idx : Nat}
theorem Go.callS (r : Go w l R Z n0 y code ml ret pc Ls st h cells slots) (pc' : Nat) (hd : decode code pc = .ok (.invokestatic idx, 3)) (hp : pc + 3 = pc') (M : Met l Z y' code' ml' ret' rm as h n0 Q) (w1 : (Cond.methodLink y.cls idx y').before a0 Z = true) (w2 : (Cond.static y').before a0 Z = true) (w3 : (Cond.initialized y'.cls).before a0 Z = true) (w4 : (Cond.code y' code' ml' ret').before a0 Z = true)
    (hpd : parseMethodDescriptor y'.desc = some ⟨ps, rt⟩) (hlen : as.length = ps.length) (hst : st = as.reverse ++ rest) (hLs : Ls.length = ml) (hy : y'.cls ≠ "java/lang/invoke/MethodHandle" ∧ y'.cls ≠ "java/lang/invoke/VarHandle") (hf : rm.frames + 1 ≤ R.frames) (hl : wt rest + (ml' + 11) + rm.locals ≤ R.locals) (hc : cells + rm.cells ≤ R.cells) (hs : slots + rm.slots ≤ R.slots) :
    ∃ v h', Q v h' ∧ Go w l R Z n0 y code ml ret pc' Ls (v.toList ++ rest) h' (cells + rm.cells) (slots + rm.slots) := by
  subst hp hst
  obtain ⟨S, T, locs, X, e, N, k⟩ := r
  obtain ⟨v, _, ⟨T', L', k', n'⟩, -, X', ⟨Lc, hQ, l', y2, z2⟩, q⟩ := Jvm.LawKit.callS X S.1 (y := y') S.2.2.1 (mvT S.2.1 w1) (mvT S.2.1 w2) (mvT S.2.1 w3) (mvT S.2.1 w4) hy (backOf (W := wt rest) (Q := fun v h L => Q v h ∧ Fr n0 L) (M []) S.2.1 w4 w3 hf hl) (g := mkF w.m pc Ls.toArray (as.reverse ++ rest)) rfl (by rw [S.2.2.2.2.1]; simpa using hLs) (argsL := as) (rest := rest) (lenOf hpd hlen) rfl (by show 2 * 0 + _ ≤ _; simp [wt]) (hb S.2.2.2.1 hd) (fun _ _ => ⟨rfl, e, hc, hs⟩)
  dsimp only [Pt.U, Pt.locs, Pt.cells, Pt.slots] at X' l' y2 z2 q hQ
  subst l' y2 z2
  exact ⟨v, T'.heap, hQ.1, S, T', _, X', rfl, N.app hQ.2, fun t z => k t (q t z)⟩
theorem Go.callI (r : Go w l R Z n0 y code ml ret pc Ls st h cells slots) (pc' : Nat) (hd : decode code pc = .ok (.invokespecial idx, 3)) (hp : pc + 3 = pc') (M : Met l Z y' code' ml' none rm (.ref a :: as) h n0 Q) (hin : y'.name = "<init>") (w1 : (Cond.methodLink y.cls idx y').before a0 Z = true) (w2 : (Cond.instanceMethod y').before a0 Z = true) (w3 : (Cond.initialized y'.cls).before a0 Z = true) (w4 : (Cond.code y' code' ml' none).before a0 Z = true)
    (hpd : parseMethodDescriptor y'.desc = some ⟨ps, rt⟩) (hlen : as.length = ps.length) (hst : st = as.reverse ++ .ref a :: rest) (hLs : Ls.length = ml) (hy : y'.cls ≠ "java/lang/invoke/MethodHandle" ∧ y'.cls ≠ "java/lang/invoke/VarHandle") (hf : rm.frames + 1 ≤ R.frames) (hl : wt rest + (ml' + 11) + rm.locals ≤ R.locals) (hc : cells + rm.cells ≤ R.cells) (hs : slots + rm.slots ≤ R.slots) :
    ∃ v h', Q v h' ∧ Go w l R Z n0 y code ml ret pc' Ls (v.toList ++ rest) h' (cells + rm.cells) (slots + rm.slots) := by
  subst hp hst
  obtain ⟨S, T, locs, X, e, N, k⟩ := r
  obtain ⟨v, _, ⟨T', L', k', n'⟩, -, X', ⟨Lc, hQ, l', y2, z2⟩, q⟩ := X.specialBack S.1 (y := y') hin S.2.2.1 (mvT S.2.1 w1) (mvT S.2.1 w2) (mvT S.2.1 w4) hy (backOf (W := wt rest) (Q := fun v h L => Q v h ∧ Fr n0 L) (M []) S.2.1 w4 w3 hf hl) (g := mkF w.m pc Ls.toArray (as.reverse ++ .ref a :: rest)) rfl (by rw [S.2.2.2.2.1]; simpa using hLs) (Steps.refl _) (a := a) (argsL := as) (rest := rest) (lenOf hpd hlen) rfl (by show 2 * 0 + _ ≤ _; simp [wt]) (hb S.2.2.2.1 hd) (fun _ _ => ⟨rfl, e, hc, hs⟩)
  dsimp only [Pt.U, Pt.locs, Pt.cells, Pt.slots] at X' l' y2 z2 q hQ
  subst l' y2 z2
  exact ⟨v, T'.heap, hQ.1, S, T', _, X', rfl, N.app hQ.2, fun t z => k t (q.trans z)⟩
theorem Go.callV (r : Go w l R Z n0 y code ml ret pc Ls st h cells slots) (pc' : Nat) (hd : decode code pc = .ok (.invokevirtual idx, 3)) (hp : pc + 3 = pc') (M : Met l Z y' code' ml' ret' rm (.ref a :: as) h n0 Q) (E : Exa Z h a y'.cls) (w1 : (Cond.methodLink y.cls idx y').before a0 Z = true) (wd : (Cond.declares y').before a0 Z = true) (w2 : (Cond.instanceMethod y').before a0 Z = true) (ws : (Cond.selects y'.cls y' y').before a0 Z = true) (w3 : (Cond.initialized y'.cls).before a0 Z = true) (w4 : (Cond.code y' code' ml' ret').before a0 Z = true)
    (hpd : parseMethodDescriptor y'.desc = some ⟨ps, rt⟩) (hlen : as.length = ps.length) (hst : st = as.reverse ++ .ref a :: rest) (hLs : Ls.length = ml) (hy : y'.cls ≠ "java/lang/invoke/MethodHandle" ∧ y'.cls ≠ "java/lang/invoke/VarHandle") (hf : rm.frames + 1 ≤ R.frames) (hl : wt rest + (ml' + 11) + rm.locals ≤ R.locals) (hc : cells + rm.cells ≤ R.cells) (hs : slots + rm.slots ≤ R.slots) :
    ∃ v h', Q v h' ∧ Go w l R Z n0 y code ml ret pc' Ls (v.toList ++ rest) h' (cells + rm.cells) (slots + rm.slots) := by
  subst hp hst
  obtain ⟨S, T, locs, X, e, N, k⟩ := r
  obtain ⟨cq, kq, qa, qb, qc⟩ := isOf S.2.1 e E
  obtain ⟨v, _, ⟨T', L', k', n'⟩, -, X', ⟨Lc, hQ, l', y2, z2⟩, q⟩ := X.virtualBack S.1 (y := y') (z := y') S.2.2.1 (mvT S.2.1 w1) (mvT S.2.1 wd) (notFace_of_selects (args := #[]) (mvT S.2.1 ws)) (mvT S.2.1 ws) (mvT S.2.1 w2) hy (backOf (W := wt rest) (Q := fun v h L => Q v h ∧ Fr n0 L) (M []) S.2.1 w4 w3 hf hl) qa qc (g := mkF w.m pc Ls.toArray (as.reverse ++ .ref a :: rest)) rfl (by rw [S.2.2.2.2.1]; simpa using hLs) (Steps.refl _) (argsL := as) (rest := rest) (lenOf hpd hlen) rfl (by show 2 * 0 + _ ≤ _; simp [wt]) (hb S.2.2.2.1 hd) (fun _ _ => ⟨rfl, e, hc, hs⟩)
  dsimp only [Pt.U, Pt.locs, Pt.cells, Pt.slots] at X' l' y2 z2 q hQ
  subst l' y2 z2
  exact ⟨v, T'.heap, hQ.1, S, T', _, X', rfl, N.app hQ.2, fun t z => k t (q.trans z)⟩
theorem Go.callP {kk : Nat} (r : Go w l R Z n0 y code ml ret pc Ls st h cells slots) (pc' : Nat) (hd : decode code pc = .ok (.invokevirtual idx, 3)) (hp : pc + 3 = pc') (M : Met l Z y' code' ml' ret' rm (.ref a :: as) h n0 Q) (E : Exa Z h a y'.cls) (w1 : (Cond.methodLink y.cls idx y').before a0 Z = true) (w2 : (Cond.instanceMethod y').before a0 Z = true) (wp : (Cond.privateMethod y').before a0 Z = true) (w3 : (Cond.initialized y'.cls).before a0 Z = true) (wi : (Cond.instantiable y'.cls kk).before a0 Z = true) (w4 : (Cond.code y' code' ml' ret').before a0 Z = true)
    (hpd : parseMethodDescriptor y'.desc = some ⟨ps, rt⟩) (hlen : as.length = ps.length) (hst : st = as.reverse ++ .ref a :: rest) (hLs : Ls.length = ml) (hy : y'.cls ≠ "java/lang/invoke/MethodHandle" ∧ y'.cls ≠ "java/lang/invoke/VarHandle") (hf : rm.frames + 1 ≤ R.frames) (hl : wt rest + (ml' + 11) + rm.locals ≤ R.locals) (hc : cells + rm.cells ≤ R.cells) (hs : slots + rm.slots ≤ R.slots) :
    ∃ v h', Q v h' ∧ Go w l R Z n0 y code ml ret pc' Ls (v.toList ++ rest) h' (cells + rm.cells) (slots + rm.slots) := by
  subst hp hst
  obtain ⟨S, T, locs, X, e, N, k⟩ := r
  obtain ⟨cq, q1, q2⟩ := E.cell
  obtain ⟨c1, k1, b1, b2, -, b3, -, -⟩ := Cond.instantiable_spec (show (Cond.instantiable y'.cls kk).before w.args w.s = true from mvT S.2.1 wi)
  have hsel : (Cond.selects y'.cls y' y').before w.args w.s = true := selects_self_of_private b1 b2 (Bool.or_eq_false_iff.mp b3).1 (Cond.privateMethod_at (mvP S.2.1 wp (args := w.args))) (mvT S.2.1 w2) hy
  obtain ⟨v, _, ⟨T', L', k', n'⟩, -, X', ⟨Lc, hQ, l', y2, z2⟩, q⟩ := X.privateBack S.1 (y := y') S.2.2.1 (mvT S.2.1 w1) (mvT S.2.1 w2) hsel (Cond.privateMethod_at (mvP S.2.1 wp (args := w.args))) (mvT S.2.1 w4) hy (backOf (W := wt rest) (Q := fun v h L => Q v h ∧ Fr n0 L) (M []) S.2.1 w4 w3 hf hl) (g := mkF w.m pc Ls.toArray (as.reverse ++ .ref a :: rest)) rfl (by rw [S.2.2.2.2.1]; simpa using hLs) (Steps.refl _) (a := a) (by rw [e]; exact q1) q2 (argsL := as) (rest := rest) (lenOf hpd hlen) rfl (by show 2 * 0 + _ ≤ _; simp [wt]) (hb S.2.2.2.1 hd) (fun _ _ => ⟨rfl, e, hc, hs⟩)
  dsimp only [Pt.U, Pt.locs, Pt.cells, Pt.slots] at X' l' y2 z2 q hQ
  subst l' y2 z2
  exact ⟨v, T'.heap, hQ.1, S, T', _, X', rfl, N.app hQ.2, fun t z => k t (q.trans z)⟩
/-- System.arraycopy between two arrays of one primitive kind, from the first place of both -/
theorem Go.acopy {nn : Int32} {vd : List Value} (r : Go w l R Z n0 y code ml ret pc Ls (.int nn :: .int 0 :: .ref b :: .int 0 :: .ref a :: st) h cells slots) (pc' : Nat) (hd : decode code pc = .ok (.invokestatic idx, 3)) (hp : pc + 3 = pc') (w1 : (Cond.methodLink y.cls idx Jvm.Stand.acN).before a0 Z = true) (w2 : (Cond.native Jvm.Stand.acN).before a0 Z = true) (w3 : (Cond.static Jvm.Stand.acN).before a0 Z = true) (w4 : (Cond.initialized "java/lang/System").before a0 Z = true)
    (A : Ary Z h a ty vs) (B : Ary Z h b ty vd) (hty : refKind ty = false) (hn : ¬ nn < 0) (h4 : nn.toNatClampNeg ≤ vs.length) (h5 : nn.toNatClampNeg ≤ vd.length) (g0 : n0 ≤ b) (hLs : Ls.length = ml) (hf : 1 ≤ R.frames) (hl : wt st + (nativeFrameWords "java/lang/System" "arraycopy" 5 + 11) ≤ R.locals) :
    ∃ h', Keep h h' [b] ∧ Ary Z h' b ty (vs.take nn.toNatClampNeg ++ vd.drop nn.toNatClampNeg) ∧ Go w l R Z n0 y code ml ret pc' Ls st h' cells slots := by
  subst hp
  obtain ⟨S, T, locs, X, e, N, k⟩ := r
  obtain ⟨ka, da, Va, za⟩ := A
  obtain ⟨kb, db, Vb, zb⟩ := B
  have z0 : (0 : Int32).toNatClampNeg = 0 := rfl
  obtain ⟨T', h', L, X', e', N', K, V, q⟩ := cpA X S.1 S.2.1 S.2.2.1 w1 w2 w3 w4 e (us := vs.take nn.toNatClampNeg) Va Vb (Or.inl ⟨rfl, hty⟩) (sp := 0) (dp := 0) (nn := nn) (by decide) (by decide) hn (by rw [len_nat za, z0]; omega) (by rw [len_nat zb, z0]; omega)
    (by
      rw [z0]
      apply List.ext_getElem?
      intro i
      by_cases hi : i < nn.toNatClampNeg
      · rw [List.getElem?_take_of_lt hi, List.getElem?_map, List.getElem?_range hi]
        simp only [Option.map_some, Nat.zero_add, List.getD_eq_getElem?_getD]
        rw [List.getElem?_eq_getElem (by omega)]; rfl
      · rw [List.getElem?_eq_none (by simp; omega), List.getElem?_eq_none (by simp; omega)])
    (by rw [z0]; omega) N g0 (g := mkF w.m pc Ls.toArray (.int nn :: .int 0 :: .ref b :: .int 0 :: .ref a :: st)) rfl (by rw [S.2.2.2.2.1]; simpa using hLs) rfl (hb S.2.2.2.1 hd) hf (W := wt st) (by show 2 * 0 + _ ≤ _; simp [wt]) hl
  refine ⟨h', K, ⟨kb, db, ?_, ?_⟩, S, T', L, X', e', N', fun t z => k t (q t z)⟩
  · have hlen : (vs.take nn.toNatClampNeg ++ vd.drop nn.toNatClampNeg).length = vd.length := by simp; omega
    rw [hlen]
    rw [z0] at V
    simpa using V
  · have hlen : (vs.take nn.toNatClampNeg ++ vd.drop nn.toNatClampNeg).length = vd.length := by simp; omega
    rw [hlen]; exact zb
/-! returning -/
theorem Go.retV (r : Go w l R Z n0 y code ml none pc Ls [] h cells slots) (hd : decode code pc = .ok (.return_, 1)) {Q : Heap → Prop} (q : Q h) {C S : Nat} (hc : cells ≤ C) (hs : slots ≤ S) : Fini w n0 (Ret0 Q) C S := by
  obtain ⟨S, T, locs, X, e, N, k⟩ := r
  obtain ⟨fs, hr, hrun, hended, hW, hsame⟩ := X.leave (v := none) (fun _ => rfl) S.2.2.2.2.2.2.1
  exact ⟨_, _, k _ (X.returnOut S.1 S.2.2.2.2.2.1 (hb S.2.2.2.1 hd) hr), hrun, hended, _, _, rfl, ⟨⟨rfl, by show Q T.heap; rw [e]; exact q⟩, N⟩, ⟨_, rfl⟩, hW, hsame.mono hc hs⟩
theorem Go.retI {z : Int32} (r : Go w l R Z n0 y code ml (some .int) pc Ls (.int z :: st) h cells slots) (hd : decode code pc = .ok (.ireturn, 1)) {Q : Value → Heap → Prop} (q : Q (.int z) h) {C S : Nat} (hc : cells ≤ C) (hs : slots ≤ S) : Fini w n0 (Ret Q) C S := by
  obtain ⟨S, T, locs, X, e, N, k⟩ := r
  obtain ⟨fs, hr, hrun, hended, hW, hsame⟩ := X.leave (v := some (.int z)) (fun h => by rw [S.2.2.2.2.2.1] at h; cases h) S.2.2.2.2.2.2.1
  exact ⟨_, _, k _ (retOut X S.1 S.2.2.2.2.2.1 rfl (Or.inl ⟨rfl, Or.inl rfl, z, rfl⟩) (hb S.2.2.2.1 hd) hr), hrun, hended, _, _, rfl, ⟨⟨_, rfl, by show Q _ T.heap; rw [e]; exact q⟩, N⟩, ⟨_, rfl⟩, hW, hsame.mono hc hs⟩
theorem Go.retN {t : FieldType} {z z' : Int32} (r : Go w l R Z n0 y code ml (some t) pc Ls (.int z :: st) h cells slots) (hd : decode code pc = .ok (.ireturn, 1)) (ht : t = .boolean ∨ t = .byte ∨ t = .char ∨ t = .short) (hz : nar t z = z') {Q : Value → Heap → Prop} (q : Q (.int z') h) {C S : Nat} (hc : cells ≤ C) (hs : slots ≤ S) : Fini w n0 (Ret Q) C S := by
  subst hz
  obtain ⟨S, T, locs, X, e, N, k⟩ := r
  obtain ⟨fs, hr, hrun, hended, hW, hsame⟩ := X.leave (v := some (.int (nar t z))) (fun h => by rw [S.2.2.2.2.2.1] at h; cases h) S.2.2.2.2.2.2.1
  exact ⟨_, _, k _ (Jvm.RoadKit.retN X S.1 S.2.2.2.2.2.1 ht (hb S.2.2.2.1 hd) hr), hrun, hended, _, _, rfl, ⟨⟨_, rfl, by show Q _ T.heap; rw [e]; exact q⟩, N⟩, ⟨_, rfl⟩, hW, hsame.mono hc hs⟩
theorem Go.retL {z : Int64} (r : Go w l R Z n0 y code ml (some .long) pc Ls (.long z :: st) h cells slots) (hd : decode code pc = .ok (.lreturn, 1)) {Q : Value → Heap → Prop} (q : Q (.long z) h) {C S : Nat} (hc : cells ≤ C) (hs : slots ≤ S) : Fini w n0 (Ret Q) C S := by
  obtain ⟨S, T, locs, X, e, N, k⟩ := r
  obtain ⟨fs, hr, hrun, hended, hW, hsame⟩ := X.leave (v := some (.long z)) (fun h => by rw [S.2.2.2.2.2.1] at h; cases h) S.2.2.2.2.2.2.1
  exact ⟨_, _, k _ (retOut X S.1 S.2.2.2.2.2.1 rfl (Or.inr (Or.inl ⟨rfl, rfl, z, rfl⟩)) (hb S.2.2.2.1 hd) hr), hrun, hended, _, _, rfl, ⟨⟨_, rfl, by show Q _ T.heap; rw [e]; exact q⟩, N⟩, ⟨_, rfl⟩, hW, hsame.mono hc hs⟩
theorem Go.retA {t : FieldType} (r : Go w l R Z n0 y code ml (some t) pc Ls (.ref a :: st) h cells slots) (hd : decode code pc = .ok (.areturn, 1)) (ht : t.isReference = true) (hn : narrow t (.ref a) = .ref a) {Q : Value → Heap → Prop} (q : Q (.ref a) h) {C S : Nat} (hc : cells ≤ C) (hs : slots ≤ S) : Fini w n0 (Ret Q) C S := by
  obtain ⟨S, T, locs, X, e, N, k⟩ := r
  obtain ⟨fs, hr, hrun, hended, hW, hsame⟩ := X.leave (v := some (.ref a)) (fun h => by rw [S.2.2.2.2.2.1] at h; cases h) S.2.2.2.2.2.2.1
  exact ⟨_, _, k _ (retOut X S.1 S.2.2.2.2.2.1 hn (Or.inr (Or.inr (Or.inr (Or.inr ⟨rfl, ht, rfl⟩)))) (hb S.2.2.2.1 hd) hr), hrun, hended, _, _, rfl, ⟨⟨_, rfl, by show Q _ T.heap; rw [e]; exact q⟩, N⟩, ⟨_, rfl⟩, hW, hsame.mono hc hs⟩
/-! small numbers -/
theorem nlt {a b : Nat} (ha : a < 2 ^ 31) (hb : b < 2 ^ 31) : Int32.ofNat a < Int32.ofNat b ↔ a < b := by
  rw [Int32.lt_iff_toInt_lt, Int32.toInt_ofNat_small ha, Int32.toInt_ofNat_small hb]; omega
theorem nadd (a b : Nat) : Int32.ofNat a + Int32.ofNat b = Int32.ofNat (a + b) := (Int32.ofNat_add a b).symm
theorem nadd1 (a : Nat) : Int32.ofNat a + 1 = Int32.ofNat (a + 1) := nadd a 1
theorem nsub {a b : Nat} (h : b ≤ a) : Int32.ofNat a - Int32.ofNat b = Int32.ofNat (a - b) := (Int32.ofNat_sub a b h).symm
theorem neqn {a b : Nat} (ha : a < 2 ^ 31) (hb : b < 2 ^ 31) : Int32.ofNat a = Int32.ofNat b ↔ a = b := by
  rw [← Int32.toInt_inj, Int32.toInt_ofNat_small ha, Int32.toInt_ofNat_small hb]; omega
theorem get_long {os : List Int64} {j : Nat} (hj : j < os.length) : (os.map Value.long)[j]? = some (.long (os.getD j 0)) := by
  rw [List.getElem?_map, List.getD_eq_getElem?_getD, List.getElem?_eq_getElem hj]; rfl
theorem get_int {os : List Int32} {j : Nat} (hj : j < os.length) : (os.map Value.int)[j]? = some (.int (os.getD j 0)) := by
  rw [List.getElem?_map, List.getD_eq_getElem?_getD, List.getElem?_eq_getElem hj]; rfl
end Walk
end Jvm.OwnKit
namespace Jvm.Pilot.@@N@@
open Jvm Jvm.ClassFile Sem Op Lib Jvm.Free Jvm.Stand Jvm.LawKit Jvm.RoadKit Bundle Jvm.OwnKit Jvm.Pilot.@@N@@.Jvm.D
abbrev Ws (Z : State) (a0 : Array Value) : Prop := ∀ d ∈ tables_1, d.before a0 Z = true
theorem wd_0 {Z : State} {a0 : Array Value} (hw : Ws Z a0) : (Jvm.Cond.arrayClass Jvm.ClassFile.FieldType.long).before a0 Z = true := hw _ (List.mem_of_getElem? (i := 0) rfl)
theorem wd_1 {Z : State} {a0 : Array Value} (hw : Ws Z a0) : (Jvm.Cond.methodLink "com/example/slott/slott/engine/time/DbmIncludesPinLaw" (7 : Nat) ({ cls := "java/lang/Math", name := "max", desc := "(II)I" } : Jvm.MethodName)).before a0 Z = true := hw _ (List.mem_of_getElem? (i := 1) rfl)
theorem wd_2 {Z : State} {a0 : Array Value} (hw : Ws Z a0) : (Jvm.Cond.static ({ cls := "java/lang/Math", name := "max", desc := "(II)I" } : Jvm.MethodName)).before a0 Z = true := hw _ (List.mem_of_getElem? (i := 2) rfl)
theorem wd_3 {Z : State} {a0 : Array Value} (hw : Ws Z a0) : (Jvm.Cond.initialized "java/lang/Math").before a0 Z = true := hw _ (List.mem_of_getElem? (i := 3) rfl)
theorem wd_4 {Z : State} {a0 : Array Value} (hw : Ws Z a0) : (Jvm.Cond.code ({ cls := "java/lang/Math", name := "max", desc := "(II)I" } : Jvm.MethodName) jdk_29_method_65_code (2 : Nat) (Option.some Jvm.ClassFile.FieldType.int)).before a0 Z = true := hw _ (List.mem_of_getElem? (i := 4) rfl)
theorem wd_5 {Z : State} {a0 : Array Value} (hw : Ws Z a0) : (Jvm.Cond.methodLink "com/example/slott/slott/engine/time/DbmIncludesPinLaw" (13 : Nat) ({ cls := "java/lang/Math", name := "min", desc := "(II)I" } : Jvm.MethodName)).before a0 Z = true := hw _ (List.mem_of_getElem? (i := 5) rfl)
theorem wd_6 {Z : State} {a0 : Array Value} (hw : Ws Z a0) : (Jvm.Cond.static ({ cls := "java/lang/Math", name := "min", desc := "(II)I" } : Jvm.MethodName)).before a0 Z = true := hw _ (List.mem_of_getElem? (i := 6) rfl)
theorem wd_7 {Z : State} {a0 : Array Value} (hw : Ws Z a0) : (Jvm.Cond.code ({ cls := "java/lang/Math", name := "min", desc := "(II)I" } : Jvm.MethodName) jdk_29_method_69_code (2 : Nat) (Option.some Jvm.ClassFile.FieldType.int)).before a0 Z = true := hw _ (List.mem_of_getElem? (i := 7) rfl)
theorem wd_8 {Z : State} {a0 : Array Value} (hw : Ws Z a0) : (Jvm.Cond.methodLink "com/example/slott/slott/engine/time/DbmIncludesPinLaw" (16 : Nat) ({ cls := "com/example/slott/slott/engine/time/Dbm", name := "includes", desc := "([JI[JII)Z" } : Jvm.MethodName)).before a0 Z = true := hw _ (List.mem_of_getElem? (i := 8) rfl)
theorem wd_9 {Z : State} {a0 : Array Value} (hw : Ws Z a0) : (Jvm.Cond.static ({ cls := "com/example/slott/slott/engine/time/Dbm", name := "includes", desc := "([JI[JII)Z" } : Jvm.MethodName)).before a0 Z = true := hw _ (List.mem_of_getElem? (i := 9) rfl)
theorem wd_10 {Z : State} {a0 : Array Value} (hw : Ws Z a0) : (Jvm.Cond.initialized "com/example/slott/slott/engine/time/Dbm").before a0 Z = true := hw _ (List.mem_of_getElem? (i := 10) rfl)
theorem wd_11 {Z : State} {a0 : Array Value} (hw : Ws Z a0) : (Jvm.Cond.code ({ cls := "com/example/slott/slott/engine/time/Dbm", name := "includes", desc := "([JI[JII)Z" } : Jvm.MethodName) prog_52_method_9_code (6 : Nat) (Option.some Jvm.ClassFile.FieldType.boolean)).before a0 Z = true := hw _ (List.mem_of_getElem? (i := 11) rfl)
abbrev Y0 : MethodName := x
abbrev Y1 : MethodName := ⟨"java/lang/Math", "max", "(II)I"⟩
theorem d1_0 : decode jdk_29_method_65_code 0 = .ok (.iload_n 0, 1) := by decide +kernel
theorem d1_1 : decode jdk_29_method_65_code 1 = .ok (.iload_n 1, 1) := by decide +kernel
theorem d1_2 : decode jdk_29_method_65_code 2 = .ok (.if_icmp .lt 7, 3) := by decide +kernel
theorem d1_5 : decode jdk_29_method_65_code 5 = .ok (.iload_n 0, 1) := by decide +kernel
theorem d1_6 : decode jdk_29_method_65_code 6 = .ok (.goto 4, 3) := by decide +kernel
theorem d1_9 : decode jdk_29_method_65_code 9 = .ok (.iload_n 1, 1) := by decide +kernel
theorem d1_10 : decode jdk_29_method_65_code 10 = .ok (.ireturn, 1) := by decide +kernel
theorem pd_1 : parseMethodDescriptor "(II)I" = some ⟨[.int, .int], some .int⟩ := by decide +kernel
abbrev Y2 : MethodName := ⟨"java/lang/Math", "min", "(II)I"⟩
theorem d2_0 : decode jdk_29_method_69_code 0 = .ok (.iload_n 0, 1) := by decide +kernel
theorem d2_1 : decode jdk_29_method_69_code 1 = .ok (.iload_n 1, 1) := by decide +kernel
theorem d2_2 : decode jdk_29_method_69_code 2 = .ok (.if_icmp .gt 7, 3) := by decide +kernel
theorem d2_5 : decode jdk_29_method_69_code 5 = .ok (.iload_n 0, 1) := by decide +kernel
theorem d2_6 : decode jdk_29_method_69_code 6 = .ok (.goto 4, 3) := by decide +kernel
theorem d2_9 : decode jdk_29_method_69_code 9 = .ok (.iload_n 1, 1) := by decide +kernel
theorem d2_10 : decode jdk_29_method_69_code 10 = .ok (.ireturn, 1) := by decide +kernel
theorem pd_2 : parseMethodDescriptor "(II)I" = some ⟨[.int, .int], some .int⟩ := by decide +kernel
abbrev Y3 : MethodName := ⟨"com/example/slott/slott/engine/time/Dbm", "includes", "([JI[JII)Z"⟩
theorem d3_0 : decode prog_52_method_9_code 0 = .ok (.iconst 0, 1) := by decide +kernel
theorem d3_1 : decode prog_52_method_9_code 1 = .ok (.istore 5, 2) := by decide +kernel
theorem d3_3 : decode prog_52_method_9_code 3 = .ok (.iload 5, 2) := by decide +kernel
theorem d3_5 : decode prog_52_method_9_code 5 = .ok (.iload 4, 2) := by decide +kernel
theorem d3_7 : decode prog_52_method_9_code 7 = .ok (.if_icmp .ge 27, 3) := by decide +kernel
theorem d3_10 : decode prog_52_method_9_code 10 = .ok (.aload_n 2, 1) := by decide +kernel
theorem d3_11 : decode prog_52_method_9_code 11 = .ok (.iload_n 3, 1) := by decide +kernel
theorem d3_12 : decode prog_52_method_9_code 12 = .ok (.iload 5, 2) := by decide +kernel
theorem d3_14 : decode prog_52_method_9_code 14 = .ok (.iadd, 1) := by decide +kernel
theorem d3_15 : decode prog_52_method_9_code 15 = .ok (.laload, 1) := by decide +kernel
theorem d3_16 : decode prog_52_method_9_code 16 = .ok (.aload_n 0, 1) := by decide +kernel
theorem d3_17 : decode prog_52_method_9_code 17 = .ok (.iload_n 1, 1) := by decide +kernel
theorem d3_18 : decode prog_52_method_9_code 18 = .ok (.iload 5, 2) := by decide +kernel
theorem d3_20 : decode prog_52_method_9_code 20 = .ok (.iadd, 1) := by decide +kernel
theorem d3_21 : decode prog_52_method_9_code 21 = .ok (.laload, 1) := by decide +kernel
theorem d3_22 : decode prog_52_method_9_code 22 = .ok (.lcmp, 1) := by decide +kernel
theorem d3_23 : decode prog_52_method_9_code 23 = .ok (.ifCond .le 5, 3) := by decide +kernel
theorem d3_26 : decode prog_52_method_9_code 26 = .ok (.iconst 0, 1) := by decide +kernel
theorem d3_27 : decode prog_52_method_9_code 27 = .ok (.ireturn, 1) := by decide +kernel
theorem d3_28 : decode prog_52_method_9_code 28 = .ok (.iinc 5 1, 3) := by decide +kernel
theorem d3_31 : decode prog_52_method_9_code 31 = .ok (.goto (-28), 3) := by decide +kernel
theorem d3_34 : decode prog_52_method_9_code 34 = .ok (.iconst 1, 1) := by decide +kernel
theorem d3_35 : decode prog_52_method_9_code 35 = .ok (.ireturn, 1) := by decide +kernel
theorem pd_3 : parseMethodDescriptor "([JI[JII)Z" = some ⟨[(.array .long), .int, (.array .long), .int, .int], some .boolean⟩ := by decide +kernel
theorem pl_0 : plainFor Y0 = true := plainFor_of_name (show plainName "com/example/slott/slott/engine/time/DbmIncludesPinLaw" = true by first | (simp [plainName, overriddenIn]; done) | decide +kernel)
theorem pl_1 : plainFor Y1 = true := Jvm.Free.JP.mathPlain rfl (by decide +kernel)
theorem pl_2 : plainFor Y2 = true := Jvm.Free.JP.mathPlain rfl (by decide +kernel)
theorem pl_3 : plainFor Y3 = true := plainFor_of_name (show plainName "com/example/slott/slott/engine/time/Dbm" = true by first | (simp [plainName, overriddenIn]; done) | decide +kernel)
theorem ic_0 : Int32.ofInt (0) = (0 : Int32) := rfl
theorem ic_1 : Int32.ofInt (1) = (1 : Int32) := rfl
theorem ic_2 : Int32.ofInt (2) = (2 : Int32) := rfl
theorem ic_3 : Int32.ofInt (3) = (3 : Int32) := rfl
theorem ic_4 : Int32.ofInt (4) = (4 : Int32) := rfl

abbrev bad (zs os : List Int64) (f g i : Nat) : Prop := zs.getD (f + i) 0 < os.getD (g + i) 0
abbrev good (zs os : List Int64) (f g n : Nat) : Prop := ∀ i, i < n → ¬ bad zs os f g i

set_option maxRecDepth 65536 in
set_option maxHeartbeats 40000000 in
theorem max_met {l : Launch} {Z : State} {a0 : Array Value} (hw : Ws Z a0) (u v : Int32) (h0 : Heap) (n0 : Nat) : Met l Z Y1 jdk_29_method_65_code 2 (some .int) ({ frames := 0, cells := 0, slots := 0, locals := 0 } : Room) [.int u, .int v] h0 n0 (Ret fun z h => z = .int (if u < v then v else u) ∧ h0 = h) := by
  refine Met.intro (Ls := [.val (.int u), .val (.int v)]) pl_1 (fun m => by simp [entryFrame, mkF, argsToLocals, Value.category, maxLocals]) fun w r => ?_
  replace r := r.ild0 1 d1_0 rfl
  replace r := r.ild1 2 d1_1 rfl
  rcases r.ic_lt 9 5 d1_2 (by decide) rfl with ⟨hc, r⟩ | ⟨hc, r⟩
  · replace r := r.ild1 10 d1_9 rfl
    exact r.retI d1_10 ⟨by rw [if_pos hc], rfl⟩ (by decide) (by decide)
  · replace r := r.ild0 6 d1_5 rfl
    replace r := r.goto 10 d1_6 (by decide)
    exact r.retI d1_10 ⟨by rw [if_neg hc], rfl⟩ (by decide) (by decide)
set_option maxRecDepth 65536 in
set_option maxHeartbeats 40000000 in
theorem min_met {l : Launch} {Z : State} {a0 : Array Value} (hw : Ws Z a0) (u v : Int32) (h0 : Heap) (n0 : Nat) : Met l Z Y2 jdk_29_method_69_code 2 (some .int) ({ frames := 0, cells := 0, slots := 0, locals := 0 } : Room) [.int u, .int v] h0 n0 (Ret fun z h => z = .int (if v < u then v else u) ∧ h0 = h) := by
  refine Met.intro (Ls := [.val (.int u), .val (.int v)]) pl_2 (fun m => by simp [entryFrame, mkF, argsToLocals, Value.category, maxLocals]) fun w r => ?_
  replace r := r.ild0 1 d2_0 rfl
  replace r := r.ild1 2 d2_1 rfl
  rcases r.ic_gt 9 5 d2_2 (by decide) rfl with ⟨hc, r⟩ | ⟨hc, r⟩
  · replace r := r.ild1 10 d2_9 rfl
    exact r.retI d2_10 ⟨by rw [if_pos hc], rfl⟩ (by decide) (by decide)
  · replace r := r.ild0 6 d2_5 rfl
    replace r := r.goto 10 d2_6 (by decide)
    exact r.retI d2_10 ⟨by rw [if_neg hc], rfl⟩ (by decide) (by decide)
set_option maxRecDepth 65536 in
set_option maxHeartbeats 40000000 in
theorem inc_loop {l : Launch} {Z : State} {w : W} {R : Room} {h0 : Heap} {n0 : Nat} {z o : Addr} {zs os : List Int64} {f g n : Nat} (A : Ary Z h0 z .long (zs.map .long)) (B : Ary Z h0 o .long (os.map .long)) (b1 : f + n ≤ zs.length) (b2 : g + n ≤ os.length) (k : Nat) : ∀ i, i + k = n → good zs os f g i → Go w l R Z n0 Y3 prog_52_method_9_code 6 (some .boolean) 3 [.val (.ref z), .val (.int (Int32.ofNat f)), .val (.ref o), .val (.int (Int32.ofNat g)), .val (.int (Int32.ofNat n)), .val (.int (Int32.ofNat i))] [] h0 0 0 → Fini w n0 (Ret fun v h => v = .int (if good zs os f g n then 1 else 0) ∧ h0 = h) 0 0 := by
  have la := A.len; have lb := B.len
  rw [List.length_map] at la lb
  induction k with
  | zero =>
    intro i hi hg r
    obtain rfl : i = n := by omega
    replace r := r.ild5 5 d3_3 rfl
    replace r := r.ild4 7 d3_5 rfl
    replace r := r.ic_geT 34 d3_7 (by decide) (fun q => Nat.lt_irrefl _ ((nlt (by omega) (by omega)).mp q))
    replace r := r.iconstV 35 d3_34 rfl (1 : Int32) ic_1
    exact r.retN d3_35 (Or.inl rfl) (z' := 1) rfl ⟨by rw [if_pos hg], rfl⟩ (by decide) (by decide)
  | succ k ih =>
    intro i hi hg r
    replace r := r.ild5 5 d3_3 rfl
    replace r := r.ild4 7 d3_5 rfl
    replace r := r.ic_geF 10 d3_7 rfl ((nlt (by omega) (by omega)).mpr (by omega))
    replace r := r.ald2 11 d3_10 rfl
    replace r := r.ild3 12 d3_11 rfl
    replace r := r.ild5 14 d3_12 rfl
    replace r := r.iadd 15 d3_14 rfl
    rw [nadd] at r
    replace r := r.lald 16 d3_15 rfl B (len_nn (by omega)) (by rw [len_nat (by omega)]; exact get_long (by omega))
    replace r := r.ald0 17 d3_16 rfl
    replace r := r.ild1 18 d3_17 rfl
    replace r := r.ild5 20 d3_18 rfl
    replace r := r.iadd 21 d3_20 rfl
    rw [nadd] at r
    replace r := r.lald 22 d3_21 rfl A (len_nn (by omega)) (by rw [len_nat (by omega)]; exact get_long (by omega))
    replace r := r.lcmp 23 d3_22 rfl
    rcases r.if_le 28 26 d3_23 (by decide) rfl with ⟨hc, r⟩ | ⟨hc, r⟩
    · rw [lw_gt] at hc
      replace r := r.inc5 31 d3_28 rfl (d := 1) rfl
      replace r := r.goto 3 d3_31 (by decide)
      rw [nadd1] at r
      exact ih (i + 1) (by omega) (fun j hj => (Nat.lt_succ_iff_lt_or_eq.mp hj).elim (hg j) (fun e => by subst e; exact hc)) r
    · rw [lw_gt] at hc
      replace r := r.iconstV 27 d3_26 rfl (0 : Int32) ic_0
      exact r.retN d3_27 (Or.inl rfl) (z' := 0) rfl ⟨by rw [if_neg (fun q => q i (by omega) hc)], rfl⟩ (by decide) (by decide)
set_option maxRecDepth 65536 in
set_option maxHeartbeats 40000000 in
theorem inc_met {l : Launch} {Z : State} (z o : Addr) (zs os : List Int64) (f g n : Nat) (h0 : Heap) (n0 : Nat) (A : Ary Z h0 z .long (zs.map .long)) (B : Ary Z h0 o .long (os.map .long)) (b1 : f + n ≤ zs.length) (b2 : g + n ≤ os.length) : Met l Z Y3 prog_52_method_9_code 6 (some .boolean) ({ frames := 0, cells := 0, slots := 0, locals := 0 } : Room) [.ref z, .int (Int32.ofNat f), .ref o, .int (Int32.ofNat g), .int (Int32.ofNat n)] h0 n0 (Ret fun v h => v = .int (if good zs os f g n then 1 else 0) ∧ h0 = h) := by
  refine Met.intro (Ls := [.val (.ref z), .val (.int (Int32.ofNat f)), .val (.ref o), .val (.int (Int32.ofNat g)), .val (.int (Int32.ofNat n)), .unset]) pl_3 (fun m => by simp [entryFrame, mkF, argsToLocals, Value.category, maxLocals]) fun w r => ?_
  replace r := r.iconstV 1 d3_0 rfl (0 : Int32) ic_0
  replace r := r.ist5 3 d3_1 rfl (One.of rfl)
  exact inc_loop A B b1 b2 n 0 (by omega) (fun i hi => absurd hi (Nat.not_lt_zero _)) r

theorem and3 (x : Int32) : x &&& 3 = 0 ∨ x &&& 3 = 1 ∨ x &&& 3 = 2 ∨ x &&& 3 = 3 := by
  have h := c_mask x 3 2 (by decide) (by decide)
  have h1 : 0 ≤ x.toInt % (2 ^ 2 : Nat) := Int.emod_nonneg _ (by decide)
  have h2 : x.toInt % (2 ^ 2 : Nat) < (2 ^ 2 : Nat) := Int.emod_lt_of_pos _ (by decide)
  rw [← h] at h1 h2
  have e0 : (0 : Int32).toInt = 0 := rfl
  have e1 : (1 : Int32).toInt = 1 := rfl
  have e2 : (2 : Int32).toInt = 2 := rfl
  have e3 : (3 : Int32).toInt = 3 := rfl
  simp only [← Int32.toInt_inj, e0, e1, e2, e3]
  have e4 : ((2 ^ 2 : Nat) : Int) = 4 := rfl
  rw [e4] at h2
  omega
theorem sizes (ctl : Int32) : ∃ f g n : Nat, (ctl >>> (2 &&& 31)) &&& 1 = Int32.ofNat f ∧ (ctl >>> (3 &&& 31)) &&& 1 = Int32.ofNat g ∧
    (if (3 - (if Int32.ofNat f < Int32.ofNat g then Int32.ofNat g else Int32.ofNat f)) < (ctl &&& 3) then (3 - (if Int32.ofNat f < Int32.ofNat g then Int32.ofNat g else Int32.ofNat f)) else (ctl &&& 3)) = Int32.ofNat n ∧ f + n ≤ 3 ∧ g + n ≤ 3 := by
  rcases and_one (ctl >>> (2 &&& 31)) with h1 | h1 <;> rcases and_one (ctl >>> (3 &&& 31)) with h2 | h2 <;> rcases and3 ctl with h3 | h3 | h3 | h3 <;> rw [h1, h2, h3]
  · exact ⟨0, 0, 0, by decide, by decide, by decide, by decide, by decide⟩
  · exact ⟨0, 0, 1, by decide, by decide, by decide, by decide, by decide⟩
  · exact ⟨0, 0, 2, by decide, by decide, by decide, by decide, by decide⟩
  · exact ⟨0, 0, 3, by decide, by decide, by decide, by decide, by decide⟩
  · exact ⟨0, 1, 0, by decide, by decide, by decide, by decide, by decide⟩
  · exact ⟨0, 1, 1, by decide, by decide, by decide, by decide, by decide⟩
  · exact ⟨0, 1, 2, by decide, by decide, by decide, by decide, by decide⟩
  · exact ⟨0, 1, 2, by decide, by decide, by decide, by decide, by decide⟩
  · exact ⟨1, 0, 0, by decide, by decide, by decide, by decide, by decide⟩
  · exact ⟨1, 0, 1, by decide, by decide, by decide, by decide, by decide⟩
  · exact ⟨1, 0, 2, by decide, by decide, by decide, by decide, by decide⟩
  · exact ⟨1, 0, 2, by decide, by decide, by decide, by decide, by decide⟩
  · exact ⟨1, 1, 0, by decide, by decide, by decide, by decide, by decide⟩
  · exact ⟨1, 1, 1, by decide, by decide, by decide, by decide, by decide⟩
  · exact ⟨1, 1, 2, by decide, by decide, by decide, by decide, by decide⟩
  · exact ⟨1, 1, 2, by decide, by decide, by decide, by decide, by decide⟩
def nextE (zs os : List Int64) (f g n i : Nat) (e : Int32) : Int32 := if i < n ∧ bad zs os f g i then 0 else e
theorem all_three (zs os : List Int64) (f g n : Nat) (h : n ≤ 3) : nextE zs os f g n 2 (nextE zs os f g n 1 (nextE zs os f g n 0 1)) = if good zs os f g n then 1 else 0 := by
  by_cases hg : good zs os f g n
  · rw [if_pos hg]; simp only [nextE]
    rw [if_neg (fun q => hg 2 q.1 q.2), if_neg (fun q => hg 1 q.1 q.2), if_neg (fun q => hg 0 q.1 q.2)]
  · rw [if_neg hg]; simp only [nextE]
    by_cases h2 : 2 < n ∧ bad zs os f g 2
    · rw [if_pos h2]
    rw [if_neg h2]
    by_cases h1 : 1 < n ∧ bad zs os f g 1
    · rw [if_pos h1]
    rw [if_neg h1]
    by_cases h0 : 0 < n ∧ bad zs os f g 0
    · rw [if_pos h0]
    refine absurd (fun i hi hb => ?_) hg
    match i, hi, hb with
    | 0, hi, hb => exact h0 ⟨hi, hb⟩
    | 1, hi, hb => exact h1 ⟨hi, hb⟩
    | 2, hi, hb => exact h2 ⟨hi, hb⟩
    | j + 3, hi, hb => omega

set_option maxRecDepth 65536 in
set_option maxHeartbeats 40000000 in
theorem law_met {l : Launch} {Z : State} {a0 : Array Value} (hw : Ws Z a0) (a b c' d e : Int64) (ctl : Int32) (h0 : Heap) (n0 : Nat) (hn : n0 ≤ h0.size) : Met l Z x code maxLocals ret room_1 [.long a, .long b, .long c', .long d, .long e, .int ctl] h0 n0 (Ret fun v h => v = .int 1) := by
  refine Met.intro (Ls := [.val (.long a), .second, .val (.long b), .second, .val (.long c'), .second, .val (.long d), .second, .val (.long e), .second, .val (.int ctl), .unset, .unset, .unset, .unset, .unset, .unset]) pl_0 (fun m => by simp [entryFrame, mkF, argsToLocals, Value.category, maxLocals]) fun w r => ?_
  replace r := r.iconstV 1 at_0 rfl (3 : Int32) ic_3
  obtain ⟨h1, z, z1, X1, A1, r⟩ := r.newA (vs := [.long 0, .long 0, .long 0]) 3 at_1 rfl (wd_0 hw) (by decide) rfl 3 (by decide) (by decide) (by decide) (by decide)
  have g1 : n0 ≤ z := by rw [z1]; exact hn
  replace r := r.dup 4 at_3 rfl rfl
  replace r := r.iconstV 5 at_4 rfl (0 : Int32) ic_0
  replace r := r.lld0 6 at_5 rfl
  obtain ⟨h2, W2, A1, r⟩ := r.last 7 at_6 rfl A1 (by decide) (Nat.le_of_ble_eq_true rfl) g1
  replace r := r.dup 8 at_7 rfl rfl
  replace r := r.iconstV 9 at_8 rfl (1 : Int32) ic_1
  replace r := r.lld2 10 at_9 rfl
  obtain ⟨h3, W3, A1, r⟩ := r.last 11 at_10 rfl A1 (by decide) (Nat.le_of_ble_eq_true rfl) g1
  replace r := r.dup 12 at_11 rfl rfl
  replace r := r.iconstV 13 at_12 rfl (2 : Int32) ic_2
  replace r := r.lld4 15 at_13 rfl
  obtain ⟨h4, W4, A1, r⟩ := r.last 16 at_15 rfl A1 (by decide) (Nat.le_of_ble_eq_true rfl) g1
  change Ary Z h4 z .long ([a, b, c'].map .long) at A1
  replace r := r.ast11 18 at_16 rfl (One.of rfl)
  replace r := r.iconstV 19 at_18 rfl (3 : Int32) ic_3
  obtain ⟨h5, o, zo, Xo, B1, r⟩ := r.newA (vs := [.long 0, .long 0, .long 0]) 21 at_19 rfl (wd_0 hw) (by decide) rfl 3 (by decide) (by decide) (by decide) (by decide)
  have ne12 : z ≠ o := by rw [zo]; exact Nat.ne_of_lt A1.lt
  have g2 : n0 ≤ o := by rw [zo]; exact Nat.le_trans g1 (Nat.le_of_lt A1.lt)
  replace A1 := A1.ext Xo
  replace r := r.dup 22 at_21 rfl rfl
  replace r := r.iconstV 23 at_22 rfl (0 : Int32) ic_0
  replace r := r.lld6 25 at_23 rfl
  obtain ⟨h6, W6, B1, r⟩ := r.last 26 at_25 rfl B1 (by decide) (Nat.le_of_ble_eq_true rfl) g2
  replace A1 := A1.other W6 ne12
  replace r := r.dup 27 at_26 rfl rfl
  replace r := r.iconstV 28 at_27 rfl (1 : Int32) ic_1
  replace r := r.lld8 30 at_28 rfl
  obtain ⟨h7, W7, B1, r⟩ := r.last 31 at_30 rfl B1 (by decide) (Nat.le_of_ble_eq_true rfl) g2
  replace A1 := A1.other W7 ne12
  replace r := r.dup 32 at_31 rfl rfl
  replace r := r.iconstV 33 at_32 rfl (2 : Int32) ic_2
  replace r := r.ild10 35 at_33 rfl
  replace r := r.iconstV 36 at_35 rfl (4 : Int32) ic_4
  replace r := r.ishr 37 at_36 rfl
  replace r := r.i2l 38 at_37 rfl
  obtain ⟨h8, W8, B1, r⟩ := r.last 39 at_38 rfl B1 (by decide) (Nat.le_of_ble_eq_true rfl) g2
  replace A1 := A1.other W8 ne12
  change Ary Z h8 o .long ([d, e, (ctl >>> (4 &&& 31)).toInt64].map .long) at B1
  obtain ⟨f, g, n, e1, e2, e3, b1, b2⟩ := sizes ctl
  replace r := r.ast12 41 at_39 rfl (One.of rfl)
  replace r := r.ild10 43 at_41 rfl
  replace r := r.iconstV 44 at_43 rfl (2 : Int32) ic_2
  replace r := r.ishr 45 at_44 rfl
  replace r := r.iconstV 46 at_45 rfl (1 : Int32) ic_1
  replace r := r.iand 47 at_46 rfl
  rw [e1] at r
  replace r := r.ist13 49 at_47 rfl (One.of rfl)
  replace r := r.ild10 51 at_49 rfl
  replace r := r.iconstV 52 at_51 rfl (3 : Int32) ic_3
  replace r := r.ishr 53 at_52 rfl
  replace r := r.iconstV 54 at_53 rfl (1 : Int32) ic_1
  replace r := r.iand 55 at_54 rfl
  rw [e2] at r
  replace r := r.ist14 57 at_55 rfl (One.of rfl)
  replace r := r.ild10 59 at_57 rfl
  replace r := r.iconstV 60 at_59 rfl (3 : Int32) ic_3
  replace r := r.iand 61 at_60 rfl
  replace r := r.iconstV 62 at_61 rfl (3 : Int32) ic_3
  replace r := r.ild13 64 at_62 rfl
  replace r := r.ild14 66 at_64 rfl
  obtain ⟨_, _, ⟨_, rfl, rfl, rfl⟩, r'⟩ := r.callS (rest := [.int 3, .int (ctl &&& 3)]) 69 at_66 rfl (max_met hw (Int32.ofNat f) (Int32.ofNat g) _ n0) (wd_1 hw) (wd_2 hw) (wd_3 hw) (wd_4 hw) pd_1 rfl rfl rfl (by decide) (Nat.le_of_ble_eq_true rfl) (Nat.le_of_ble_eq_true rfl) (Nat.le_of_ble_eq_true rfl) (Nat.le_of_ble_eq_true rfl)
  clear r; have r := r'; clear r'
  change Go w l _ Z n0 _ _ _ _ _ _ [.int _, .int _, .int _] _ _ _ at r
  replace r := r.isub 70 at_69 rfl
  obtain ⟨_, _, ⟨_, rfl, rfl, rfl⟩, r'⟩ := r.callS (rest := []) 73 at_70 rfl (min_met hw (ctl &&& 3) _ _ n0) (wd_5 hw) (wd_6 hw) (wd_3 hw) (wd_7 hw) pd_2 rfl rfl rfl (by decide) (Nat.le_of_ble_eq_true rfl) (Nat.le_of_ble_eq_true rfl) (Nat.le_of_ble_eq_true rfl) (Nat.le_of_ble_eq_true rfl)
  clear r; have r := r'; clear r'
  change Go w l _ Z n0 _ _ _ _ _ _ [.int _] _ _ _ at r
  rw [e3] at r
  replace r := r.ist15 75 at_73 rfl (One.of rfl)
  replace r := r.iconstV 76 at_75 rfl (1 : Int32) ic_1
  replace r := r.ist16 78 at_76 rfl (One.of rfl)
  replace r : Go w l room_1 Z n0 Y0 code maxLocals ret 78 [.val (.long a), .second, .val (.long b), .second, .val (.long c'), .second, .val (.long d), .second, .val (.long e), .second, .val (.int ctl), .val (.ref z), .val (.ref o), .val (.int (Int32.ofNat f)), .val (.int (Int32.ofNat g)), .val (.int (Int32.ofNat n)), .val (.int 1)] [] h8 2 6 := r
  replace r : Go w l room_1 Z n0 Y0 code maxLocals ret 101 [.val (.long a), .second, .val (.long b), .second, .val (.long c'), .second, .val (.long d), .second, .val (.long e), .second, .val (.int ctl), .val (.ref z), .val (.ref o), .val (.int (Int32.ofNat f)), .val (.int (Int32.ofNat g)), .val (.int (Int32.ofNat n)), .val (.int (nextE [a, b, c'] [d, e, (ctl >>> (4 &&& 31)).toInt64] f g n 0 1))] [] h8 2 6 := by
    replace r := r.ild15 80 at_78 rfl
    replace r := r.iconstV 81 at_80 rfl (1 : Int32) ic_1
    rcases r.ic_lt 101 84 at_81 (by decide) rfl with ⟨hc, r⟩ | ⟨hc, r⟩
    · rw [show (1 : Int32) = Int32.ofNat 1 from rfl, nlt (by omega) (by decide)] at hc
      rw [show nextE _ _ f g n 0 _ = _ from if_neg (fun q => by omega)]; exact r
    · rw [show (1 : Int32) = Int32.ofNat 1 from rfl, nlt (by omega) (by decide)] at hc
      replace r := r.ald12 86 at_84 rfl
      replace r := r.ild14 88 at_86 rfl
      replace r := r.lald 89 at_88 rfl B1 (len_nn (by omega)) (by rw [len_nat (by omega)]; exact get_long (by show _ < 3; omega))
      replace r := r.ald11 91 at_89 rfl
      replace r := r.ild13 93 at_91 rfl
      replace r := r.lald 94 at_93 rfl A1 (len_nn (by omega)) (by rw [len_nat (by omega)]; exact get_long (by show _ < 3; omega))
      replace r := r.lcmp 95 at_94 rfl
      rcases r.if_le 101 98 at_95 (by decide) rfl with ⟨hc, r⟩ | ⟨hc, r⟩
      · rw [lw_gt] at hc
        rw [show nextE _ _ f g n 0 _ = _ from if_neg (fun q => hc q.2)]; exact r
      · rw [lw_gt] at hc
        replace r := r.iconstV 99 at_98 rfl (0 : Int32) ic_0
        replace r := r.ist16 101 at_99 rfl (One.of rfl)
        rw [show nextE _ _ f g n 0 _ = _ from if_pos ⟨by omega, hc⟩]; exact r
  replace r : Go w l room_1 Z n0 Y0 code maxLocals ret 128 [.val (.long a), .second, .val (.long b), .second, .val (.long c'), .second, .val (.long d), .second, .val (.long e), .second, .val (.int ctl), .val (.ref z), .val (.ref o), .val (.int (Int32.ofNat f)), .val (.int (Int32.ofNat g)), .val (.int (Int32.ofNat n)), .val (.int (nextE [a, b, c'] [d, e, (ctl >>> (4 &&& 31)).toInt64] f g n 1 (nextE [a, b, c'] [d, e, (ctl >>> (4 &&& 31)).toInt64] f g n 0 1)))] [] h8 2 6 := by
    replace r := r.ild15 103 at_101 rfl
    replace r := r.iconstV 104 at_103 rfl (2 : Int32) ic_2
    rcases r.ic_lt 128 107 at_104 (by decide) rfl with ⟨hc, r⟩ | ⟨hc, r⟩
    · rw [show (2 : Int32) = Int32.ofNat 2 from rfl, nlt (by omega) (by decide)] at hc
      rw [show nextE _ _ f g n 1 _ = _ from if_neg (fun q => by omega)]; exact r
    · rw [show (2 : Int32) = Int32.ofNat 2 from rfl, nlt (by omega) (by decide)] at hc
      replace r := r.ald12 109 at_107 rfl
      replace r := r.ild14 111 at_109 rfl
      replace r := r.iconstV 112 at_111 rfl (1 : Int32) ic_1
      replace r := r.iadd 113 at_112 rfl
      rw [show Int32.ofNat g + (1 : Int32) = Int32.ofNat (g + 1) from nadd _ _] at r
      replace r := r.lald 114 at_113 rfl B1 (len_nn (by omega)) (by rw [len_nat (by omega)]; exact get_long (by show _ < 3; omega))
      replace r := r.ald11 116 at_114 rfl
      replace r := r.ild13 118 at_116 rfl
      replace r := r.iconstV 119 at_118 rfl (1 : Int32) ic_1
      replace r := r.iadd 120 at_119 rfl
      rw [show Int32.ofNat f + (1 : Int32) = Int32.ofNat (f + 1) from nadd _ _] at r
      replace r := r.lald 121 at_120 rfl A1 (len_nn (by omega)) (by rw [len_nat (by omega)]; exact get_long (by show _ < 3; omega))
      replace r := r.lcmp 122 at_121 rfl
      rcases r.if_le 128 125 at_122 (by decide) rfl with ⟨hc, r⟩ | ⟨hc, r⟩
      · rw [lw_gt] at hc
        rw [show nextE _ _ f g n 1 _ = _ from if_neg (fun q => hc q.2)]; exact r
      · rw [lw_gt] at hc
        replace r := r.iconstV 126 at_125 rfl (0 : Int32) ic_0
        replace r := r.ist16 128 at_126 rfl (One.of rfl)
        rw [show nextE _ _ f g n 1 _ = _ from if_pos ⟨by omega, hc⟩]; exact r
  replace r : Go w l room_1 Z n0 Y0 code maxLocals ret 155 [.val (.long a), .second, .val (.long b), .second, .val (.long c'), .second, .val (.long d), .second, .val (.long e), .second, .val (.int ctl), .val (.ref z), .val (.ref o), .val (.int (Int32.ofNat f)), .val (.int (Int32.ofNat g)), .val (.int (Int32.ofNat n)), .val (.int (nextE [a, b, c'] [d, e, (ctl >>> (4 &&& 31)).toInt64] f g n 2 (nextE [a, b, c'] [d, e, (ctl >>> (4 &&& 31)).toInt64] f g n 1 (nextE [a, b, c'] [d, e, (ctl >>> (4 &&& 31)).toInt64] f g n 0 1))))] [] h8 2 6 := by
    replace r := r.ild15 130 at_128 rfl
    replace r := r.iconstV 131 at_130 rfl (3 : Int32) ic_3
    rcases r.ic_lt 155 134 at_131 (by decide) rfl with ⟨hc, r⟩ | ⟨hc, r⟩
    · rw [show (3 : Int32) = Int32.ofNat 3 from rfl, nlt (by omega) (by decide)] at hc
      rw [show nextE _ _ f g n 2 _ = _ from if_neg (fun q => by omega)]; exact r
    · rw [show (3 : Int32) = Int32.ofNat 3 from rfl, nlt (by omega) (by decide)] at hc
      replace r := r.ald12 136 at_134 rfl
      replace r := r.ild14 138 at_136 rfl
      replace r := r.iconstV 139 at_138 rfl (2 : Int32) ic_2
      replace r := r.iadd 140 at_139 rfl
      rw [show Int32.ofNat g + (2 : Int32) = Int32.ofNat (g + 2) from nadd _ _] at r
      replace r := r.lald 141 at_140 rfl B1 (len_nn (by omega)) (by rw [len_nat (by omega)]; exact get_long (by show _ < 3; omega))
      replace r := r.ald11 143 at_141 rfl
      replace r := r.ild13 145 at_143 rfl
      replace r := r.iconstV 146 at_145 rfl (2 : Int32) ic_2
      replace r := r.iadd 147 at_146 rfl
      rw [show Int32.ofNat f + (2 : Int32) = Int32.ofNat (f + 2) from nadd _ _] at r
      replace r := r.lald 148 at_147 rfl A1 (len_nn (by omega)) (by rw [len_nat (by omega)]; exact get_long (by show _ < 3; omega))
      replace r := r.lcmp 149 at_148 rfl
      rcases r.if_le 155 152 at_149 (by decide) rfl with ⟨hc, r⟩ | ⟨hc, r⟩
      · rw [lw_gt] at hc
        rw [show nextE _ _ f g n 2 _ = _ from if_neg (fun q => hc q.2)]; exact r
      · rw [lw_gt] at hc
        replace r := r.iconstV 153 at_152 rfl (0 : Int32) ic_0
        replace r := r.ist16 155 at_153 rfl (One.of rfl)
        rw [show nextE _ _ f g n 2 _ = _ from if_pos ⟨by omega, hc⟩]; exact r
  rw [all_three _ _ f g n (by omega)] at r
  replace r := r.ald11 157 at_155 rfl
  replace r := r.ild13 159 at_157 rfl
  replace r := r.ald12 161 at_159 rfl
  replace r := r.ild14 163 at_161 rfl
  replace r := r.ild15 165 at_163 rfl
  obtain ⟨_, _, ⟨_, rfl, rfl, rfl⟩, r'⟩ := r.callS (rest := []) 168 at_165 rfl (inc_met z o [a, b, c'] [d, e, (ctl >>> (4 &&& 31)).toInt64] f g n _ n0 A1 B1 b1 b2) (wd_8 hw) (wd_9 hw) (wd_10 hw) (wd_11 hw) pd_3 rfl rfl rfl (by decide) (Nat.le_of_ble_eq_true rfl) (Nat.le_of_ble_eq_true rfl) (Nat.le_of_ble_eq_true rfl) (Nat.le_of_ble_eq_true rfl)
  clear r; have r := r'; clear r'
  change Go w l _ Z n0 _ _ _ _ _ _ [.int _] _ _ _ at r
  replace r := r.ild16 170 at_168 rfl
  replace r := r.ic_neF 173 at_170 rfl rfl
  replace r := r.iconstV 174 at_173 rfl (1 : Int32) ic_1
  replace r := r.goto 178 at_174 (by decide)
  exact r.retN at_178 (Or.inl rfl) (z' := 1) rfl (by rfl) (by decide) (by decide)
set_option maxRecDepth 65536 in
set_option maxHeartbeats 40000000 in
theorem comes_1 {Post : Tables → Env → Array Value → State → Outcome → State → Prop} (hpost : ∀ tb e args s v u, (limb_1_1.after args s (.returned v) u = true ∧ limb_1_2.after args s (.returned v) u = true ∧ True) → FrameEnd s (.returned v) u (Jvm.fieldLocs frame_1_writes args s ++ Jvm.arrayLocs frame_1_arrays args s ++ Jvm.staticLocs frame_1_statics s) 16 128 → Post tb e args s (.returned v) u) :
    ArmFor flags0 classFile x code maxLocals ret World_1 tables_1 room_1 Calls_1 rest_1 Pre_1 Post := by
  intro l hfl _ _ p e ha hc hk s m args below hf hA hF happ hP
  obtain ⟨hcalls, hrest, hpre⟩ := hP
  obtain ⟨-, -, -, hnamed, -, -, -, hat⟩ := (Spec.applies_iff hf).mp happ
  obtain ⟨hg, hn⟩ := and_e (Cond.before_iff.mp (show (Jvm.Cond.and given_1 narrow_1).before args s = true from hpre))
  obtain ⟨g1, g2⟩ := and_e hg
  obtain ⟨g3, g4⟩ := and_e g2
  obtain ⟨g5, g6⟩ := and_e g4
  obtain ⟨g7, g8⟩ := and_e g6
  obtain ⟨g9, g10⟩ := and_e g8
  obtain ⟨g11, g12⟩ := and_e g10
  obtain ⟨w0, w1, w2, w3, w4, w5, rfl⟩ : ∃ w0 w1 w2 w3 w4 w5 : Value, args = #[w0, w1, w2, w3, w4, w5] := by
    have hs : args.size = 6 := by simpa [Cond.value, given_1] using g1
    obtain ⟨L⟩ := args
    match L, hs with
    | [w0, w1, w2, w3, w4, w5], _ => exact ⟨w0, w1, w2, w3, w4, w5, rfl⟩
  have hw : Ws s _ := fun d (hd : d ∈ tables_1) => atoms_spec (ws := Jvm.Cond.code x code maxLocals ret :: tables_1) hat d (List.mem_cons_of_mem _ hd)
  obtain ⟨i0, ei0⟩ := isL_v g3
  obtain rfl : w0 = (.long i0) := Option.some.inj ei0
  obtain ⟨i1, ei1⟩ := isL_v g5
  obtain rfl : w1 = (.long i1) := Option.some.inj ei1
  obtain ⟨i2, ei2⟩ := isL_v g7
  obtain rfl : w2 = (.long i2) := Option.some.inj ei2
  obtain ⟨i3, ei3⟩ := isL_v g9
  obtain rfl : w3 = (.long i3) := Option.some.inj ei3
  obtain ⟨i4, ei4⟩ := isL_v g11
  obtain rfl : w4 = (.long i4) := Option.some.inj ei4
  obtain ⟨i5, ei5⟩ := is_v g12
  obtain rfl : w5 = (.int i5) := Option.some.inj ei5
  obtain ⟨n, o, h1, h2, h3, _, L, rfl, ⟨⟨_, rfl, rfl⟩, N⟩, hq⟩ := law_met (l := l) hw i0 i1 i2 i3 i4 i5 s.heap s.heap.size (Nat.le_refl _) tables_1 p e ha hc hk s m _ below hf ((Spec.applies_iff_loose hf).mp happ).1 ⟨rfl, State.Warmed39.refl s, rfl⟩ trivial
  refine ⟨n, _, h1, h2, h3, hpost _ _ _ _ _ _ ⟨Cond.after_iff.mpr rfl, Cond.after_iff.mpr (eq_i res_at (Term.int_eval (1)) rfl), trivial⟩ ⟨hq.1, hq.2.1, (hq.2.2.sift fun y hy => Or.inr (N y hy)).mono (by decide) (by decide)⟩⟩
theorem main_1_1 : Claimed_1_1 := comes_1 fun _ _ _ _ _ _ h hF => ⟨h.1, hF⟩
theorem main_1_2 : Claimed_1_2 := comes_1 fun _ _ _ _ _ _ h hF => ⟨h.2.1, hF⟩
end Jvm.Pilot.@@N@@
namespace Jvm.Pilot.@@N@@
open Jvm Jvm.ClassFile Sem Op Lib Jvm.Free Jvm.Stand Jvm.Pilot.@@N@@.Jvm.D
/-! MADE BY PROGRAM (witnessworld.py) out of the Statement's table words and the real class files: 12 classes; the members and pool entries that the words name. The judged class is class 1, her method 1. -/
namespace start1
open Jvm.ClassFile
def u (s : String) : CpInfo := .utf8 (stringToUtf16 s)
/-- a pool by its gaps: so many unusable entries, then the entry; so many at the end -/
def gap : Nat → List CpInfo → List CpInfo
  | 0, r => r
  | n + 1, r => .unusable :: gap n r
def poolList (es : List (Nat × CpInfo)) (last : Nat) : List CpInfo := es.foldr (fun e r => gap e.1 (e.2 :: r)) (gap last [])
def pool (es : List (Nat × CpInfo)) (last : Nat) : Array CpInfo := ⟨poolList es last⟩
def fileOf (pool : Array CpInfo) (this : Nat) (attrs : Array Attribute := #[]) (ms : Array MethodInfo := #[]) (fl : Nat := 33) (sup : Nat := 0) (ifs : Array Nat := #[]) (fds : Array FieldInfo := #[]) : ClassFile where
  minorVersion := 0
  majorVersion := 65
  constantPool := pool
  accessFlags := fl
  thisClass := this
  superClass := sup
  interfaces := ifs
  fields := fds
  methods := ms
  attributes := attrs
def plain (name : String) (sup : Option ClassId) : Class where
  name := name
  kind := .ordinary
  loader := none
  accessFlags := 33
  super := sup
  interfaces := #[]
  cf := none
  fields := #[]
  methods := #[]
  instanceTypes := #[]
  staticTypes := #[]
  resolved := #[]
  callSites := []
  init := .initialized
  statics := none
  mirror := none

def pool0 : Array CpInfo := pool [(5, u "<init>"), (0, u "()V"), (1, .class_ 10), (1, u "java/lang/Object")] 113

def k0m0 : Method := { name := "<init>", desc := "()V", sig := { parameters := [], returnType := none }, accessFlags := 1, code := none }
/-- java/lang/Object -/
def k0 : Class := { plain "java/lang/Object" none with
  accessFlags := 33
  interfaces := #[]
  cf := some (fileOf pool0 8 #[] #[{ accessFlags := 1, nameIndex := 5, descriptorIndex := 6, attributes := #[] }] 33 0 #[] #[])
  fields := #[]
  methods := #[k0m0]
  instanceTypes := #[]
  staticTypes := #[]
  resolved := Array.replicate 124 none
  statics := none }

def pool1 : Array CpInfo := pool [(2, .class_ 4), (1, u "java/lang/Object"), (0, u "<init>"), (0, u "()V"), (0, .methodref 8 9), (0, .class_ 10), (0, .nameAndType 11 12), (0, u "java/lang/Math"), (0, u "max"), (0, u "(II)I"), (0, .methodref 8 14), (0, .nameAndType 15 12), (0, u "min"), (0, .methodref 17 18), (0, .class_ 19), (0, .nameAndType 20 21), (0, u "com/example/slott/slott/engine/time/Dbm"), (0, u "includes"), (0, u "([JI[JII)Z"), (0, .class_ 23), (0, u "com/example/slott/slott/engine/time/DbmIncludesPinLaw"), (2, u "law"), (0, u "(JJJJJI)Z")] 5

def k1m0 : Method := { name := "<init>", desc := "()V", sig := { parameters := [], returnType := none }, accessFlags := 1, code := none }
def k1c1 : Code := { maxStack := 5, maxLocals := 17, code := code, exceptionTable := #[], attributes := #[] }
def k1m1 : Method := { name := "law", desc := "(JJJJJI)Z", sig := { parameters := [.long, .long, .long, .long, .long, .int], returnType := some .boolean }, accessFlags := 9, code := some k1c1 }
/-- com/example/slott/slott/engine/time/DbmIncludesPinLaw -/
def k1 : Class := { plain "com/example/slott/slott/engine/time/DbmIncludesPinLaw" (some 0) with
  accessFlags := 49
  interfaces := #[]
  cf := some (fileOf pool1 22 #[] #[{ accessFlags := 1, nameIndex := 5, descriptorIndex := 6, attributes := #[] }, { accessFlags := 9, nameIndex := 26, descriptorIndex := 27, attributes := #[] }] 49 2 #[] #[])
  fields := #[]
  methods := #[k1m0, k1m1]
  instanceTypes := #[]
  staticTypes := #[]
  resolved := Array.replicate 33 none
  statics := none }

def pool2 : Array CpInfo := pool [(1, .class_ 2), (0, u "java/lang/Math"), (1, .class_ 6), (1, u "java/lang/Object"), (0, u "<init>"), (0, u "()V"), (89, .class_ 100), (1, u "java/lang/Math$RandomNumberGeneratorHolder"), (71, u "negativeZeroFloatBits"), (0, u "J"), (2, u "negativeZeroDoubleBits"), (21, u "max"), (2, u "min"), (43, u "$assertionsDisabled"), (0, u "Z"), (88, u "(II)I"), (2, u "twoToTheDoubleScaleDown"), (0, u "D"), (4, u "twoToTheDoubleScaleUp"), (9, u "E"), (3, u "PI"), (2, u "TAU"), (2, u "DEGREES_TO_RADIANS"), (0, u "RADIANS_TO_DEGREES")] 94

def k2m0 : Method := { name := "<init>", desc := "()V", sig := { parameters := [], returnType := none }, accessFlags := 2, code := none }
def k2c1 : Code := { maxStack := 2, maxLocals := 2, code := jdk_29_method_65_code, exceptionTable := #[], attributes := #[] }
def k2m1 : Method := { name := "max", desc := "(II)I", sig := { parameters := [.int, .int], returnType := some .int }, accessFlags := 9, code := some k2c1 }
def k2c2 : Code := { maxStack := 2, maxLocals := 2, code := jdk_29_method_69_code, exceptionTable := #[], attributes := #[] }
def k2m2 : Method := { name := "min", desc := "(II)I", sig := { parameters := [.int, .int], returnType := some .int }, accessFlags := 9, code := some k2c2 }
/-- java/lang/Math -/
def k2 : Class := { plain "java/lang/Math" (some 0) with
  accessFlags := 49
  interfaces := #[]
  cf := some (fileOf pool2 1 #[.nestMembers #[98]] #[{ accessFlags := 2, nameIndex := 7, descriptorIndex := 8, attributes := #[] }, { accessFlags := 9, nameIndex := 198, descriptorIndex := 335, attributes := #[] }, { accessFlags := 9, nameIndex := 201, descriptorIndex := 335, attributes := #[] }] 49 4 #[] #[{ accessFlags := 25, nameIndex := 354, descriptorIndex := 339, attributes := #[] }, { accessFlags := 25, nameIndex := 358, descriptorIndex := 339, attributes := #[] }, { accessFlags := 25, nameIndex := 361, descriptorIndex := 339, attributes := #[] }, { accessFlags := 26, nameIndex := 364, descriptorIndex := 339, attributes := #[] }, { accessFlags := 26, nameIndex := 365, descriptorIndex := 339, attributes := #[] }, { accessFlags := 26, nameIndex := 172, descriptorIndex := 173, attributes := #[] }, { accessFlags := 26, nameIndex := 176, descriptorIndex := 173, attributes := #[] }, { accessFlags := 8, nameIndex := 344, descriptorIndex := 339, attributes := #[] }, { accessFlags := 8, nameIndex := 338, descriptorIndex := 339, attributes := #[] }, { accessFlags := 4120, nameIndex := 245, descriptorIndex := 246, attributes := #[] }])
  fields := #[{ name := "E", type := .double, accessFlags := 25, slot := 0, constantValue := 0 }, { name := "PI", type := .double, accessFlags := 25, slot := 1, constantValue := 0 }, { name := "TAU", type := .double, accessFlags := 25, slot := 2, constantValue := 0 }, { name := "DEGREES_TO_RADIANS", type := .double, accessFlags := 26, slot := 3, constantValue := 0 }, { name := "RADIANS_TO_DEGREES", type := .double, accessFlags := 26, slot := 4, constantValue := 0 }, { name := "negativeZeroFloatBits", type := .long, accessFlags := 26, slot := 5, constantValue := 0 }, { name := "negativeZeroDoubleBits", type := .long, accessFlags := 26, slot := 6, constantValue := 0 }, { name := "twoToTheDoubleScaleUp", type := .double, accessFlags := 8, slot := 7, constantValue := 0 }, { name := "twoToTheDoubleScaleDown", type := .double, accessFlags := 8, slot := 8, constantValue := 0 }, { name := "$assertionsDisabled", type := .boolean, accessFlags := 4120, slot := 9, constantValue := 0 }]
  methods := #[k2m0, k2m1, k2m2]
  instanceTypes := #[]
  staticTypes := #[.double, .double, .double, .double, .double, .long, .long, .double, .double, .boolean]
  resolved := Array.replicate 460 none
  statics := none }

def pool3 : Array CpInfo := pool [(4, .class_ 6), (1, u "java/lang/Object"), (3, .class_ 12), (1, u "com/example/slott/slott/engine/time/Dbm"), (0, u "dimension"), (0, u "I"), (39, u "INFINITY"), (0, u "J"), (1, u "NOT_COMPARED"), (0, u "LESS_OR_EQUAL_ZERO"), (2, u "EMPTY"), (11, u "includes"), (0, u "([JI[JII)Z")] 10

def k3c0 : Code := { maxStack := 5, maxLocals := 6, code := prog_52_method_9_code, exceptionTable := #[], attributes := #[] }
def k3m0 : Method := { name := "includes", desc := "([JI[JII)Z", sig := { parameters := [(.array .long), .int, (.array .long), .int, .int], returnType := some .boolean }, accessFlags := 8, code := some k3c0 }
/-- com/example/slott/slott/engine/time/Dbm -/
def k3 : Class := { plain "com/example/slott/slott/engine/time/Dbm" (some 0) with
  accessFlags := 48
  interfaces := #[]
  cf := some (fileOf pool3 10 #[] #[{ accessFlags := 8, nameIndex := 73, descriptorIndex := 74, attributes := #[] }] 48 4 #[] #[{ accessFlags := 24, nameIndex := 54, descriptorIndex := 55, attributes := #[] }, { accessFlags := 24, nameIndex := 57, descriptorIndex := 55, attributes := #[] }, { accessFlags := 26, nameIndex := 58, descriptorIndex := 55, attributes := #[] }, { accessFlags := 26, nameIndex := 61, descriptorIndex := 55, attributes := #[] }, { accessFlags := 18, nameIndex := 13, descriptorIndex := 14, attributes := #[] }])
  fields := #[{ name := "INFINITY", type := .long, accessFlags := 24, slot := 0, constantValue := 0 }, { name := "NOT_COMPARED", type := .long, accessFlags := 24, slot := 1, constantValue := 0 }, { name := "LESS_OR_EQUAL_ZERO", type := .long, accessFlags := 26, slot := 2, constantValue := 0 }, { name := "EMPTY", type := .long, accessFlags := 26, slot := 3, constantValue := 0 }, { name := "dimension", type := .int, accessFlags := 18, slot := 0, constantValue := 0 }]
  methods := #[k3m0]
  instanceTypes := #[.int]
  staticTypes := #[.long, .long, .long, .long]
  resolved := Array.replicate 85 none
  statics := none }

def pool4 : Array CpInfo := pool [(1, u "java/lang/Cloneable"), (0, .class_ 1), (0, u "java/lang/Object"), (0, .class_ 3)] 3

/-- java/lang/Cloneable -/
def k4 : Class := { plain "java/lang/Cloneable" (some 0) with
  accessFlags := 1537
  interfaces := #[]
  cf := some (fileOf pool4 2 #[] #[] 1537 4 #[] #[])
  fields := #[]
  methods := #[]
  instanceTypes := #[]
  staticTypes := #[]
  resolved := Array.replicate 8 none
  statics := none }

def pool5 : Array CpInfo := pool [(1, u "java/io/Serializable"), (0, .class_ 1), (0, u "java/lang/Object"), (0, .class_ 3)] 3

/-- java/io/Serializable -/
def k5 : Class := { plain "java/io/Serializable" (some 0) with
  accessFlags := 1537
  interfaces := #[]
  cf := some (fileOf pool5 2 #[] #[] 1537 4 #[] #[])
  fields := #[]
  methods := #[]
  instanceTypes := #[]
  staticTypes := #[]
  resolved := Array.replicate 8 none
  statics := none }

/-- the primitive byte -/
def k6 : Class := { plain "byte" none with kind := .primitive 'B', accessFlags := 0x411 }
/-- [B -/
def k7 : Class := { plain "[B" (some 0) with kind := .array 6 .byte, interfaces := #[4, 5], accessFlags := 1041 }

/-- the primitive int -/
def k8 : Class := { plain "int" none with kind := .primitive 'I', accessFlags := 0x411 }
/-- [I -/
def k9 : Class := { plain "[I" (some 0) with kind := .array 8 .int, interfaces := #[4, 5], accessFlags := 1041 }

/-- the primitive long -/
def k10 : Class := { plain "long" none with kind := .primitive 'J', accessFlags := 0x411 }
/-- [J -/
def k11 : Class := { plain "[J" (some 0) with kind := .array 10 .long, interfaces := #[4, 5], accessFlags := 1041 }

def heap : Heap := #[]
def classes : Array Class := #[k0, k1, k2, k3, k4, k5, k6, k7, k8, k9, k10, k11]
def interned : List (Array UInt16 × Addr) := []
def slotsUsed : Nat := 0
def theMethod : MethodId := ⟨1, 1⟩
def args0 : Array Value := #[.long 5, .long 7, .long 9, .long 1, .long 2, .int 3]
def aboutOver (below : List Frame) : State where
  vm := { classes := classes, interned := interned.toArray }
  heap := heap
  slotsUsed := slotsUsed
  threads := #[{ frames := .invoking theMethod args0 :: below }]
def below0 : List Frame := [.native { method := ⟨0, 0⟩, args := #[] }]
def about1 : State := aboutOver below0
def p0 : Program := .bare "" "" ""
def e0 : Env := launch0.env 0 0 0
theorem w_frames : about1.frames = Frame.invoking theMethod args0 :: below0 := rfl
set_option maxRecDepth 65536 in
theorem w_args : argsFit about1.vm theMethod args0 = true := by decide +kernel
set_option maxRecDepth 65536 in
theorem w_heap : heapFits about1 = true := by decide +kernel
set_option maxRecDepth 65536 in
theorem w_runnable : about1.curStatus? = some .runnable := by decide +kernel
set_option maxRecDepth 65536 in
theorem w_alone : about1.alone = true := by decide +kernel
set_option maxRecDepth 65536 in
theorem w_named : about1.methodNamed? x = some theMethod := by decide +kernel
set_option maxRecDepth 65536 in
theorem w_hears : about1.hears theMethod below0 = true := by decide +kernel
set_option maxRecDepth 65536 in
theorem w_ripe : about1.ripe theMethod args0 below0 = true := by decide +kernel
theorem w_running : about1.status = .running := rfl
set_option maxRecDepth 65536 in
theorem w_room : about1.hasRoom e0.platform room_1 = true :=
  launch0.hasRoom_least _ room_1 (by decide +kernel) (by decide +kernel) (by decide +kernel) (by decide +kernel) (by decide +kernel) (by decide +kernel)
theorem allAtoms_all (ts : List Jvm.Cond) (a : Array Jvm.Value) (st : Jvm.State) : (allAtoms ts).before a st = ts.all (fun c => c.before a st) := by
  induction ts with
  | nil => rfl
  | cons c t ih =>
    show (Jvm.Cond.and c (allAtoms t)).before a st = _
    rw [Jvm.Cond.before_and, ih, List.all_cons]
def words1 : List Jvm.Cond := Jvm.Cond.code x code maxLocals ret :: tables_1
/-- a 'code' word, met by the world's own term for the bytes: nothing is compared byte by byte -/
theorem code_word {y : MethodName} {bytes : ByteArray} {mx : Nat} {rt : Option FieldType} {a : Array Value} {s : State} {m : MethodId} {meth : Method} {c : Code} (h1 : s.methodNamed? y = some m) (h2 : s.vm.method? m = some meth) (h3 : meth.code = some c) (h4 : c.code = bytes)
    (h5 : (c.maxLocals == mx && c.exceptionTable.isEmpty && decide (c.maxStack ≤ mostOperands) && decide (meth.sig.returnType = rt) && !meth.locks && decide (parseMethodDescriptor y.desc = some meth.sig)) = true) : (Jvm.Cond.code y bytes mx rt).before a s = true := by
  simp only [Bool.and_eq_true, beq_iff_eq, Bool.not_eq_true', decide_eq_true_eq] at h5
  obtain ⟨⟨⟨⟨⟨g1, g2⟩, g3⟩, g4⟩, g5⟩, g6⟩ := h5
  simp [Cond.before, Cond.holds, Cond.value, h1, h2, h3, h4, g1, g2, g3, g4, g5, g6]
def isCode : Jvm.Cond → Bool
  | .code _ _ _ _ => true
  | _ => false
theorem all_split {L : List Jvm.Cond} {P : Jvm.Cond → Bool} (h1 : L.all (fun c => isCode c || P c) = true) (h2 : ∀ c ∈ L.filter isCode, P c = true) : L.all P = true := by
  refine List.all_eq_true.mpr fun c hc => ?_
  have h := List.all_eq_true.mp h1 c hc
  rcases Bool.eq_false_or_eq_true (isCode c) with hi | hi
  · exact h2 c (List.mem_filter.mpr ⟨hc, hi⟩)
  · simpa [hi] using h
set_option maxRecDepth 65536 in
theorem w_c0 : (Jvm.Cond.code x code maxLocals ret).before args0 about1 = true := code_word (m := ⟨1, 1⟩) (meth := k1m1) (c := k1c1) (by decide +kernel) rfl rfl rfl (by decide +kernel)
set_option maxRecDepth 65536 in
theorem w_c1 : (Jvm.Cond.code ({ cls := "java/lang/Math", name := "max", desc := "(II)I" } : Jvm.MethodName) jdk_29_method_65_code (2 : Nat) (Option.some Jvm.ClassFile.FieldType.int)).before args0 about1 = true := code_word (m := ⟨2, 1⟩) (meth := k2m1) (c := k2c1) (by decide +kernel) rfl rfl rfl (by decide +kernel)
set_option maxRecDepth 65536 in
theorem w_c2 : (Jvm.Cond.code ({ cls := "java/lang/Math", name := "min", desc := "(II)I" } : Jvm.MethodName) jdk_29_method_69_code (2 : Nat) (Option.some Jvm.ClassFile.FieldType.int)).before args0 about1 = true := code_word (m := ⟨2, 2⟩) (meth := k2m2) (c := k2c2) (by decide +kernel) rfl rfl rfl (by decide +kernel)
set_option maxRecDepth 65536 in
theorem w_c3 : (Jvm.Cond.code ({ cls := "com/example/slott/slott/engine/time/Dbm", name := "includes", desc := "([JI[JII)Z" } : Jvm.MethodName) prog_52_method_9_code (6 : Nat) (Option.some Jvm.ClassFile.FieldType.boolean)).before args0 about1 = true := code_word (m := ⟨3, 0⟩) (meth := k3m0) (c := k3c0) (by decide +kernel) rfl rfl rfl (by decide +kernel)
def codes1 : List Jvm.Cond := [Jvm.Cond.code x code maxLocals ret, Jvm.Cond.code ({ cls := "java/lang/Math", name := "max", desc := "(II)I" } : Jvm.MethodName) jdk_29_method_65_code (2 : Nat) (Option.some Jvm.ClassFile.FieldType.int), Jvm.Cond.code ({ cls := "java/lang/Math", name := "min", desc := "(II)I" } : Jvm.MethodName) jdk_29_method_69_code (2 : Nat) (Option.some Jvm.ClassFile.FieldType.int), Jvm.Cond.code ({ cls := "com/example/slott/slott/engine/time/Dbm", name := "includes", desc := "([JI[JII)Z" } : Jvm.MethodName) prog_52_method_9_code (6 : Nat) (Option.some Jvm.ClassFile.FieldType.boolean)]
set_option maxRecDepth 65536 in
theorem codes_eq : words1.filter isCode = codes1 := rfl
theorem w_codes : ∀ c ∈ words1.filter isCode, c.before args0 about1 = true := by
  rw [codes_eq]
  intro c hc
  simp only [codes1, List.mem_cons, List.not_mem_nil, or_false] at hc
  rcases hc with rfl | rfl | rfl | rfl
  · exact w_c0
  · exact w_c1
  · exact w_c2
  · exact w_c3
set_option maxRecDepth 65536 in
theorem w_t1 : words1.all (fun c => isCode c || c.before args0 about1) = true := by decide +kernel
theorem w_tables : (allAtoms (Jvm.Cond.code x code maxLocals ret :: tables_1)).before args0 about1 = true := by
  rw [allAtoms_all]
  show words1.all (fun c => c.before args0 about1) = true
  refine all_split ?_ w_codes
  rw [w_t1]
set_option maxRecDepth 65536 in
theorem w_case : (Jvm.Cond.and given_1 narrow_1).before args0 about1 = true := by decide +kernel
theorem w_applies : (headSpec (Jvm.Cond.code x code maxLocals ret :: tables_1) room_1).applies x e0.platform about1 = true :=
  (Spec.applies_iff w_frames).mpr ⟨w_running, w_runnable, w_alone, w_named, w_hears, w_ripe, w_room, w_tables⟩
theorem atStart : AtStart classFile x code maxLocals ret World_1 tables_1 room_1 Calls_1 rest_1 Pre_1 launch0 p0 e0 about1 theMethod args0 below0 :=
  ⟨lists_1, trivial, launch0.admits_env _ _ _, launch0.least_env, fairChoices_fair.cas, fairChoices_fair.clock, w_frames, w_args, w_heap, w_applies, trivial, trivial, w_case⟩
end start1
theorem witness_1 : WitnessClaimed_1 := ⟨start1.p0, start1.e0, start1.about1, start1.theMethod, start1.args0, start1.below0, start1.atStart⟩
end Jvm.Pilot.@@N@@
