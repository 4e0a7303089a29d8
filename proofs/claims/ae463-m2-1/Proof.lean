import JvmDerived
import JvmDerived.Pilot.@@N@@Statement
import JvmDerived.Pilot.@@N@@Code
set_option linter.unusedVariables false
set_option linter.unusedSimpArgs false
namespace Jvm.OwnKit
open Sem ClassFile Op Lib Jvm.Stand Jvm.Free Jvm.LawKit Jvm.RoadKit
/-! The walk told forwards: 'Go .. pc Ls st h cells slots' says that the run of a body has come to pc with these locals, this stack and this heap. One theorem an instruction carries it on. -/
abbrev W : Type := Program × Env × State × MethodId × Array Value × List Frame × Method × Code × State
abbrev W.p (w : W) : Program := w.1
abbrev W.e (w : W) : Env := w.2.1
abbrev W.s (w : W) : State := w.2.2.1
abbrev W.m (w : W) : MethodId := w.2.2.2.1
abbrev W.args (w : W) : Array Value := w.2.2.2.2.1
abbrev W.below (w : W) : List Frame := w.2.2.2.2.2.1
abbrev W.meth (w : W) : Method := w.2.2.2.2.2.2.1
abbrev W.c (w : W) : Code := w.2.2.2.2.2.2.2.1
abbrev W.S0 (w : W) : State := w.2.2.2.2.2.2.2.2
def Sure (w : W) (Z : State) (y : MethodName) (code : ByteArray) (ml : Nat) (ret : Option FieldType) : Prop :=
  w.p.tables.exec = Jvm.exec ∧ Z.Warmed39 w.s.vm ∧ w.s.vm.findClass y.cls = some w.m.cls ∧ w.c.code = code ∧ w.c.maxLocals = ml ∧ w.meth.sig.returnType = ret ∧ w.meth.locks = false ∧ w.meth.name = y.name
def Go (w : W) (l : Launch) (R : Room) (Z : State) (n0 : Nat) (y : MethodName) (code : ByteArray) (ml : Nat) (ret : Option FieldType) (pc : Nat) (Ls : List Slot) (st : List Value) (h : Heap) (cells slots : Nat) : Prop :=
  Sure w Z y code ml ret ∧ ∃ T locs, Stand w.p l w.e R w.s w.m w.args w.below w.meth w.c T locs cells slots ∧ T.heap = h ∧ Fr n0 locs ∧
    ∀ t, Steps w.p.tables w.e w.below (T.setTop (mkF w.m pc Ls.toArray st)) t → Steps w.p.tables w.e w.below w.S0 t
def Fini (w : W) (n0 : Nat) (Q : Option Value → Heap → Prop) (C S : Nat) : Prop :=
  ∃ s₂ o, Steps w.p.tables w.e w.below w.S0 s₂ ∧ s₂.status = .running ∧ Ended s₂ w.below o ∧ ∃ v L, o = .returned v ∧ (Q v s₂.heap ∧ Fr n0 L) ∧ FrameEnd w.s o s₂ L C S
def Met (l : Launch) (Z : State) (y : MethodName) (code : ByteArray) (ml : Nat) (ret : Option FieldType) (rm : Room) (as : List Value) (h0 : Heap) (n0 : Nat) (Q : Option Value → Heap → Prop) : Prop :=
  ∀ ws, MetFree l y (head1 (Cond.code y code ml ret :: ws) rm) (fun a U => a = as.toArray ∧ Z.Warmed39 U.vm ∧ U.heap = h0) (fun _ _ _ _ _ => True) (fun _ U o U' => ∃ v L, o = .returned v ∧ (Q v U'.heap ∧ Fr n0 L) ∧ FrameEnd U o U' L rm.cells rm.slots)
def Ret (Q : Value → Heap → Prop) : Option Value → Heap → Prop := fun v h => ∃ u, v = some u ∧ Q u h
def Ret0 (Q : Heap → Prop) : Option Value → Heap → Prop := fun v h => v = none ∧ Q h
section Walk
variable {w : W} {l : Launch} {R : Room} {Z : State} {n0 : Nat} {y : MethodName} {code : ByteArray} {ml : Nat} {ret : Option FieldType} {pc : Nat} {Ls : List Slot} {st : List Value} {h : Heap} {cells slots : Nat}
theorem Met.intro {rm : Room} {as : List Value} {Q : Option Value → Heap → Prop} (hp : plainFor y = true) (hf : ∀ m, entryFrame m as.toArray ml = mkF m 0 Ls.toArray [])
    (body : ∀ w : W, Go w l rm Z n0 y code ml ret 0 Ls [] h 0 0 → Fini w n0 Q rm.cells rm.slots) : Met l Z y code ml ret rm as h n0 Q := by
  intro ws
  refine MetFree.of_bodySF hp hisR ?_
  intro p e s m args below meth c s₁ Bd hml0 hP hK
  obtain ⟨rfl, hZ, hh⟩ := hP
  have hown : s.vm.findClass y.cls = some m.cls := findClass_of_methodNamed Bd.named
  have hnm := (name_of_methodNamed Bd.named Bd.method).1
  have X0 : Stand p l e rm s m as.toArray below meth c s₁ [] 0 0 := Stand.of_body Bd
  have e0 : s₁.heap = h := by rw [← hh, Bd.state]; rfl
  exact body (p, e, s, m, as.toArray, below, meth, c, s₁.setTop (entryFrame m as.toArray ml)) ⟨⟨Bd.exec, hZ, hown, Bd.bytes, hml0, Bd.returns, BodyLoose.notSynchronized Bd, hnm⟩, s₁, [], X0, e0, Fr.nil n0, fun t k => castTop (hf m) k⟩
theorem Go.more (r : Go w l R Z n0 y code ml ret pc Ls st h cells slots) {cells' slots' : Nat} (h1 : cells ≤ cells') (h2 : slots ≤ slots') : Go w l R Z n0 y code ml ret pc Ls st h cells' slots' := by
  obtain ⟨S, T, locs, X, e, N, k⟩ := r
  exact ⟨S, T, locs, X.more h1 h2, e, N, k⟩
/-- one step that leaves the heap -/
theorem Go.step (r : Go w l R Z n0 y code ml ret pc Ls st h cells slots) {pc' : Nat} {Ls' : List Slot} {st' : List Value}
    (f : ∀ T t, At T w.m w.c w.below → w.p.tables.exec = Jvm.exec → w.c.code = code → Steps w.p.tables w.e w.below (T.setTop (mkF w.m pc' Ls'.toArray st')) t → Steps w.p.tables w.e w.below (T.setTop (mkF w.m pc Ls.toArray st)) t) :
    Go w l R Z n0 y code ml ret pc' Ls' st' h cells slots := by
  obtain ⟨S, T, locs, X, e, N, k⟩ := r
  exact ⟨S, T, locs, X, e, N, fun t q => k t (f T t X.here S.1 S.2.2.2.1 q)⟩
def oneB : Slot → Bool
  | .unset => true
  | .val v => v.category == 1
  | .second => false
theorem One.of {o : Slot} (h : oneB o = true) : One o := by
  cases o with
  | unset => exact One.u
  | val v => exact One.val (by simpa [oneB] using h)
  | second => cases h
theorem Go.iconst {i : Int} (r : Go w l R Z n0 y code ml ret pc Ls st h cells slots) (pc' : Nat) (hd : decode code pc = .ok (.iconst i, 1)) (hp : pc + 1 = pc') : Go w l R Z n0 y code ml ret pc' Ls (.int (Int32.ofInt i) :: st) h cells slots := by
  subst hp; exact r.step fun T t a x b k => XS.iconst a x rfl (hb b hd) k
theorem Go.bipush {i : Int} (r : Go w l R Z n0 y code ml ret pc Ls st h cells slots) (pc' : Nat) (hd : decode code pc = .ok (.bipush i, 2)) (hp : pc + 2 = pc') : Go w l R Z n0 y code ml ret pc' Ls (.int (Int8.ofInt i).toInt32 :: st) h cells slots := by
  subst hp; exact r.step fun T t a x b k => XS.bipush a x rfl (hb b hd) k
theorem Go.sipush {i : Int} (r : Go w l R Z n0 y code ml ret pc Ls st h cells slots) (pc' : Nat) (hd : decode code pc = .ok (.sipush i, 3)) (hp : pc + 3 = pc') : Go w l R Z n0 y code ml ret pc' Ls (.int (Int16.ofInt i).toInt32 :: st) h cells slots := by
  subst hp; exact r.step fun T t a x b k => XS.sipush a x rfl (hb b hd) k
theorem Go.iconstV {i : Int} (r : Go w l R Z n0 y code ml ret pc Ls st h cells slots) (pc' : Nat) (hd : decode code pc = .ok (.iconst i, 1)) (hp : pc + 1 = pc') (v : Int32) (hv : Int32.ofInt i = v) : Go w l R Z n0 y code ml ret pc' Ls (.int v :: st) h cells slots := by
  subst hp; exact r.step fun T t a x b k => XS.iconst a x rfl (hb b hd) (by rw [hv]; exact k)
theorem Go.bipushV {i : Int} (r : Go w l R Z n0 y code ml ret pc Ls st h cells slots) (pc' : Nat) (hd : decode code pc = .ok (.bipush i, 2)) (hp : pc + 2 = pc') (v : Int32) (hv : (Int8.ofInt i).toInt32 = v) : Go w l R Z n0 y code ml ret pc' Ls (.int v :: st) h cells slots := by
  subst hp; exact r.step fun T t a x b k => XS.bipush a x rfl (hb b hd) (by rw [hv]; exact k)
theorem Go.sipushV {i : Int} (r : Go w l R Z n0 y code ml ret pc Ls st h cells slots) (pc' : Nat) (hd : decode code pc = .ok (.sipush i, 3)) (hp : pc + 3 = pc') (v : Int32) (hv : (Int16.ofInt i).toInt32 = v) : Go w l R Z n0 y code ml ret pc' Ls (.int v :: st) h cells slots := by
  subst hp; exact r.step fun T t a x b k => XS.sipush a x rfl (hb b hd) (by rw [hv]; exact k)
theorem Go.lconstV {i : Fin 2} (r : Go w l R Z n0 y code ml ret pc Ls st h cells slots) (pc' : Nat) (hd : decode code pc = .ok (.lconst i, 1)) (hp : pc + 1 = pc') (v : Int64) (hv : Int64.ofNat i = v) : Go w l R Z n0 y code ml ret pc' Ls (.long v :: st) h cells slots := by
  subst hp; exact r.step fun T t a x b k => XS.lconst a x rfl (hb b hd) (by rw [hv]; exact k)
theorem Go.iadd {u v : Int32} (r : Go w l R Z n0 y code ml ret pc Ls (.int v :: .int u :: st) h cells slots) (pc' : Nat) (hd : decode code pc = .ok (.iadd, 1)) (hp : pc + 1 = pc') : Go w l R Z n0 y code ml ret pc' Ls (.int (u + v) :: st) h cells slots := by
  subst hp; exact r.step fun T t a x b k => XS.iadd a x rfl (hb b hd) rfl k
theorem Go.isub {u v : Int32} (r : Go w l R Z n0 y code ml ret pc Ls (.int v :: .int u :: st) h cells slots) (pc' : Nat) (hd : decode code pc = .ok (.isub, 1)) (hp : pc + 1 = pc') : Go w l R Z n0 y code ml ret pc' Ls (.int (u - v) :: st) h cells slots := by
  subst hp; exact r.step fun T t a x b k => XS.isub a x rfl (hb b hd) rfl k
theorem Go.imul {u v : Int32} (r : Go w l R Z n0 y code ml ret pc Ls (.int v :: .int u :: st) h cells slots) (pc' : Nat) (hd : decode code pc = .ok (.imul, 1)) (hp : pc + 1 = pc') : Go w l R Z n0 y code ml ret pc' Ls (.int (u * v) :: st) h cells slots := by
  subst hp; exact r.step fun T t a x b k => XS.imul a x rfl (hb b hd) rfl k
theorem Go.iand {u v : Int32} (r : Go w l R Z n0 y code ml ret pc Ls (.int v :: .int u :: st) h cells slots) (pc' : Nat) (hd : decode code pc = .ok (.iand, 1)) (hp : pc + 1 = pc') : Go w l R Z n0 y code ml ret pc' Ls (.int (u &&& v) :: st) h cells slots := by
  subst hp; exact r.step fun T t a x b k => XS.iand a x rfl (hb b hd) rfl k
theorem Go.ior {u v : Int32} (r : Go w l R Z n0 y code ml ret pc Ls (.int v :: .int u :: st) h cells slots) (pc' : Nat) (hd : decode code pc = .ok (.ior, 1)) (hp : pc + 1 = pc') : Go w l R Z n0 y code ml ret pc' Ls (.int (u ||| v) :: st) h cells slots := by
  subst hp; exact r.step fun T t a x b k => XS.ior a x rfl (hb b hd) rfl k
theorem Go.ixor {u v : Int32} (r : Go w l R Z n0 y code ml ret pc Ls (.int v :: .int u :: st) h cells slots) (pc' : Nat) (hd : decode code pc = .ok (.ixor, 1)) (hp : pc + 1 = pc') : Go w l R Z n0 y code ml ret pc' Ls (.int (u ^^^ v) :: st) h cells slots := by
  subst hp; exact r.step fun T t a x b k => XS.ixor a x rfl (hb b hd) rfl k
theorem Go.ladd {u v : Int64} (r : Go w l R Z n0 y code ml ret pc Ls (.long v :: .long u :: st) h cells slots) (pc' : Nat) (hd : decode code pc = .ok (.ladd, 1)) (hp : pc + 1 = pc') : Go w l R Z n0 y code ml ret pc' Ls (.long (u + v) :: st) h cells slots := by
  subst hp; exact r.step fun T t a x b k => XS.ladd a x rfl (hb b hd) rfl k
theorem Go.lsub {u v : Int64} (r : Go w l R Z n0 y code ml ret pc Ls (.long v :: .long u :: st) h cells slots) (pc' : Nat) (hd : decode code pc = .ok (.lsub, 1)) (hp : pc + 1 = pc') : Go w l R Z n0 y code ml ret pc' Ls (.long (u - v) :: st) h cells slots := by
  subst hp; exact r.step fun T t a x b k => XS.lsub a x rfl (hb b hd) rfl k
theorem Go.lmul {u v : Int64} (r : Go w l R Z n0 y code ml ret pc Ls (.long v :: .long u :: st) h cells slots) (pc' : Nat) (hd : decode code pc = .ok (.lmul, 1)) (hp : pc + 1 = pc') : Go w l R Z n0 y code ml ret pc' Ls (.long (u * v) :: st) h cells slots := by
  subst hp; exact r.step fun T t a x b k => XS.lmul a x rfl (hb b hd) rfl k
theorem Go.land {u v : Int64} (r : Go w l R Z n0 y code ml ret pc Ls (.long v :: .long u :: st) h cells slots) (pc' : Nat) (hd : decode code pc = .ok (.land, 1)) (hp : pc + 1 = pc') : Go w l R Z n0 y code ml ret pc' Ls (.long (u &&& v) :: st) h cells slots := by
  subst hp; exact r.step fun T t a x b k => XS.land a x rfl (hb b hd) rfl k
theorem Go.lor {u v : Int64} (r : Go w l R Z n0 y code ml ret pc Ls (.long v :: .long u :: st) h cells slots) (pc' : Nat) (hd : decode code pc = .ok (.lor, 1)) (hp : pc + 1 = pc') : Go w l R Z n0 y code ml ret pc' Ls (.long (u ||| v) :: st) h cells slots := by
  subst hp; exact r.step fun T t a x b k => XS.lor a x rfl (hb b hd) rfl k
theorem Go.lxor {u v : Int64} (r : Go w l R Z n0 y code ml ret pc Ls (.long v :: .long u :: st) h cells slots) (pc' : Nat) (hd : decode code pc = .ok (.lxor, 1)) (hp : pc + 1 = pc') : Go w l R Z n0 y code ml ret pc' Ls (.long (u ^^^ v) :: st) h cells slots := by
  subst hp; exact r.step fun T t a x b k => XS.lxor a x rfl (hb b hd) rfl k
theorem Go.idiv {u v : Int32} (r : Go w l R Z n0 y code ml ret pc Ls (.int v :: .int u :: st) h cells slots) (pc' : Nat) (hd : decode code pc = .ok (.idiv, 1)) (hp : pc + 1 = pc') (hv : v ≠ 0) : Go w l R Z n0 y code ml ret pc' Ls (.int (u / v) :: st) h cells slots := by
  subst hp; exact r.step fun T t a x b k => XS.idiv a x rfl (hb b hd) rfl hv k
theorem Go.irem {u v : Int32} (r : Go w l R Z n0 y code ml ret pc Ls (.int v :: .int u :: st) h cells slots) (pc' : Nat) (hd : decode code pc = .ok (.irem, 1)) (hp : pc + 1 = pc') (hv : v ≠ 0) : Go w l R Z n0 y code ml ret pc' Ls (.int (u % v) :: st) h cells slots := by
  subst hp; exact r.step fun T t a x b k => XS.irem a x rfl (hb b hd) rfl hv (by rw [irem_eq_mod]; exact k)
theorem Go.ishl {u v : Int32} (r : Go w l R Z n0 y code ml ret pc Ls (.int v :: .int u :: st) h cells slots) (pc' : Nat) (hd : decode code pc = .ok (.ishl, 1)) (hp : pc + 1 = pc') : Go w l R Z n0 y code ml ret pc' Ls (.int (u <<< (v &&& 31)) :: st) h cells slots := by
  subst hp; exact r.step fun T t a x b k => XS.ishl a x rfl (hb b hd) rfl k
theorem Go.ishr {u v : Int32} (r : Go w l R Z n0 y code ml ret pc Ls (.int v :: .int u :: st) h cells slots) (pc' : Nat) (hd : decode code pc = .ok (.ishr, 1)) (hp : pc + 1 = pc') : Go w l R Z n0 y code ml ret pc' Ls (.int (u >>> (v &&& 31)) :: st) h cells slots := by
  subst hp; exact r.step fun T t a x b k => XS.ishr a x rfl (hb b hd) rfl k
theorem Go.iushr {u v : Int32} (r : Go w l R Z n0 y code ml ret pc Ls (.int v :: .int u :: st) h cells slots) (pc' : Nat) (hd : decode code pc = .ok (.iushr, 1)) (hp : pc + 1 = pc') : Go w l R Z n0 y code ml ret pc' Ls (.int ((u.toUInt32 >>> (v &&& 31).toUInt32).toInt32) :: st) h cells slots := by
  subst hp; exact r.step fun T t a x b k => XS.iushr a x rfl (hb b hd) rfl k
theorem Go.lshl {u : Int64} {v : Int32} (r : Go w l R Z n0 y code ml ret pc Ls (.int v :: .long u :: st) h cells slots) (pc' : Nat) (hd : decode code pc = .ok (.lshl, 1)) (hp : pc + 1 = pc') : Go w l R Z n0 y code ml ret pc' Ls (.long (u <<< (v &&& 0x3f).toInt64) :: st) h cells slots := by
  subst hp; exact r.step fun T t a x b k => XS.lshl a x rfl (hb b hd) rfl k
theorem Go.lshr {u : Int64} {v : Int32} (r : Go w l R Z n0 y code ml ret pc Ls (.int v :: .long u :: st) h cells slots) (pc' : Nat) (hd : decode code pc = .ok (.lshr, 1)) (hp : pc + 1 = pc') : Go w l R Z n0 y code ml ret pc' Ls (.long (u >>> (v &&& 0x3f).toInt64) :: st) h cells slots := by
  subst hp; exact r.step fun T t a x b k => XS.lshr a x rfl (hb b hd) rfl k
theorem Go.lushr {u : Int64} {v : Int32} (r : Go w l R Z n0 y code ml ret pc Ls (.int v :: .long u :: st) h cells slots) (pc' : Nat) (hd : decode code pc = .ok (.lushr, 1)) (hp : pc + 1 = pc') : Go w l R Z n0 y code ml ret pc' Ls (.long ((u.toUInt64 >>> (v &&& 0x3f).toInt64.toUInt64).toInt64) :: st) h cells slots := by
  subst hp; exact r.step fun T t a x b k => XS.lushr a x rfl (hb b hd) rfl k
theorem Go.lcmp {u v : Int64} (r : Go w l R Z n0 y code ml ret pc Ls (.long v :: .long u :: st) h cells slots) (pc' : Nat) (hd : decode code pc = .ok (.lcmp, 1)) (hp : pc + 1 = pc') : Go w l R Z n0 y code ml ret pc' Ls (.int (lcmpW u v) :: st) h cells slots := by
  subst hp; exact r.step fun T t a x b k => XS.lcmp a x rfl (hb b hd) rfl k
theorem Go.i2l {u : Int32} (r : Go w l R Z n0 y code ml ret pc Ls (.int u :: st) h cells slots) (pc' : Nat) (hd : decode code pc = .ok (.i2l, 1)) (hp : pc + 1 = pc') : Go w l R Z n0 y code ml ret pc' Ls (.long u.toInt64 :: st) h cells slots := by
  subst hp; exact r.step fun T t a x b k => XS.i2l a x rfl (hb b hd) rfl k
theorem Go.l2i {u : Int64} (r : Go w l R Z n0 y code ml ret pc Ls (.long u :: st) h cells slots) (pc' : Nat) (hd : decode code pc = .ok (.l2i, 1)) (hp : pc + 1 = pc') : Go w l R Z n0 y code ml ret pc' Ls (.int u.toInt32 :: st) h cells slots := by
  subst hp; exact r.step fun T t a x b k => XS.l2i a x rfl (hb b hd) rfl k
theorem Go.i2b {u : Int32} (r : Go w l R Z n0 y code ml ret pc Ls (.int u :: st) h cells slots) (pc' : Nat) (hd : decode code pc = .ok (.i2b, 1)) (hp : pc + 1 = pc') : Go w l R Z n0 y code ml ret pc' Ls (.int u.toInt8.toInt32 :: st) h cells slots := by
  subst hp; exact r.step fun T t a x b k => XS.i2b a x rfl (hb b hd) rfl k
theorem Go.dup {v : Value} (r : Go w l R Z n0 y code ml ret pc Ls (v :: st) h cells slots) (pc' : Nat) (hd : decode code pc = .ok (.dup, 1)) (hp : pc + 1 = pc') (hv : v.category = 1) : Go w l R Z n0 y code ml ret pc' Ls (v :: v :: st) h cells slots := by
  subst hp; exact r.step fun T t a x b k => XS.dup a x rfl (hb b hd) rfl hv k
theorem Go.pop {v : Value} (r : Go w l R Z n0 y code ml ret pc Ls (v :: st) h cells slots) (pc' : Nat) (hd : decode code pc = .ok (.pop, 1)) (hp : pc + 1 = pc') (hv : v.category = 1) : Go w l R Z n0 y code ml ret pc' Ls st h cells slots := by
  subst hp; exact r.step fun T t a x b k => XS.pop a x rfl (hb b hd) rfl hv k
theorem Go.dupX1 {u v : Value} (r : Go w l R Z n0 y code ml ret pc Ls (v :: u :: st) h cells slots) (pc' : Nat) (hd : decode code pc = .ok (.dup_x1, 1)) (hp : pc + 1 = pc') (hv : v.category = 1) (hu : u.category = 1) : Go w l R Z n0 y code ml ret pc' Ls (v :: u :: v :: st) h cells slots := by
  subst hp; exact r.step fun T t a x b k => XS.dupX1 a x rfl (hb b hd) rfl hv hu k
theorem Go.dup2 {u v : Value} (r : Go w l R Z n0 y code ml ret pc Ls (v :: u :: st) h cells slots) (pc' : Nat) (hd : decode code pc = .ok (.dup2, 1)) (hp : pc + 1 = pc') (hv : v.category = 1) (hu : u.category = 1) : Go w l R Z n0 y code ml ret pc' Ls (v :: u :: v :: u :: st) h cells slots := by
  subst hp; exact r.step fun T t a x b k => XT.dup2 a x rfl (hb b hd) rfl hv hu k
theorem Go.iloadG {v : Int32} {k : Nat} (r : Go w l R Z n0 y code ml ret pc Ls st h cells slots) (pc' : Nat) (hd : decode code pc = .ok (.iload k, 2)) (hp : pc + 2 = pc') (hl : Ls[k]? = some (.val (.int v))) : Go w l R Z n0 y code ml ret pc' Ls ((.int v) :: st) h cells slots := by
  subst hp; exact r.step fun T t a x b k => XS.iload a x rfl (hb b hd) (show Ls.toArray[_]? = _ by rw [List.getElem?_toArray]; exact hl) k
theorem Go.iloadNG {v : Int32} {k : Fin 4} (r : Go w l R Z n0 y code ml ret pc Ls st h cells slots) (pc' : Nat) (hd : decode code pc = .ok (.iload_n k, 1)) (hp : pc + 1 = pc') (hl : Ls[k.val]? = some (.val (.int v))) : Go w l R Z n0 y code ml ret pc' Ls ((.int v) :: st) h cells slots := by
  subst hp; exact r.step fun T t a x b k => XS.iloadN a x rfl (hb b hd) (show Ls.toArray[_]? = _ by rw [List.getElem?_toArray]; exact hl) k
theorem Go.lloadG {v : Int64} {k : Nat} (r : Go w l R Z n0 y code ml ret pc Ls st h cells slots) (pc' : Nat) (hd : decode code pc = .ok (.lload k, 2)) (hp : pc + 2 = pc') (hl : Ls[k]? = some (.val (.long v))) : Go w l R Z n0 y code ml ret pc' Ls ((.long v) :: st) h cells slots := by
  subst hp; exact r.step fun T t a x b k => XS.lload a x rfl (hb b hd) (show Ls.toArray[_]? = _ by rw [List.getElem?_toArray]; exact hl) k
theorem Go.lloadNG {v : Int64} {k : Fin 4} (r : Go w l R Z n0 y code ml ret pc Ls st h cells slots) (pc' : Nat) (hd : decode code pc = .ok (.lload_n k, 1)) (hp : pc + 1 = pc') (hl : Ls[k.val]? = some (.val (.long v))) : Go w l R Z n0 y code ml ret pc' Ls ((.long v) :: st) h cells slots := by
  subst hp; exact r.step fun T t a x b k => XS.lloadN a x rfl (hb b hd) (show Ls.toArray[_]? = _ by rw [List.getElem?_toArray]; exact hl) k
theorem Go.aloadG {v : Value} {k : Nat} (r : Go w l R Z n0 y code ml ret pc Ls st h cells slots) (pc' : Nat) (hd : decode code pc = .ok (.aload k, 2)) (hp : pc + 2 = pc') (hl : Ls[k]? = some (.val v)) (hv : v.isRef = true) : Go w l R Z n0 y code ml ret pc' Ls (v :: st) h cells slots := by
  subst hp; exact r.step fun T t a x b k => XS.aload a x rfl (hb b hd) (show Ls.toArray[_]? = _ by rw [List.getElem?_toArray]; exact hl) hv k
theorem Go.aloadNG {v : Value} {k : Fin 4} (r : Go w l R Z n0 y code ml ret pc Ls st h cells slots) (pc' : Nat) (hd : decode code pc = .ok (.aload_n k, 1)) (hp : pc + 1 = pc') (hl : Ls[k.val]? = some (.val v)) (hv : v.isRef = true) : Go w l R Z n0 y code ml ret pc' Ls (v :: st) h cells slots := by
  subst hp; exact r.step fun T t a x b k => XS.aloadN a x rfl (hb b hd) (show Ls.toArray[_]? = _ by rw [List.getElem?_toArray]; exact hl) hv k
theorem storeL {Ls Ls' : List Slot} {i : Nat} {v : Value} {o : Slot} (ho : Ls[i]? = some o) (h1 : One o) (hv : v.category = 1) (he : Ls.set i (.val v) = Ls') : storeLocals Ls.toArray i v = some Ls'.toArray := by
  subst he
  rw [XS.store1 (o := o) (by rw [List.getElem?_toArray]; exact ho) h1 hv]
  simp
/-- a long over two slots -/
def Two (o p : Slot) : Prop := (o = .unset ∧ p = .unset) ∨ (∃ v, o = .val (.long v) ∧ p = .second) ∨ (o = .unset ∧ ∃ v : Value, p = .val v ∧ v.category = 1) ∨ (∃ v : Value, o = .val v ∧ v.category = 1 ∧ (p = .unset ∨ ∃ u : Value, p = .val u ∧ u.category = 1))
def twoB : Slot → Slot → Bool
  | .unset, .unset => true
  | .unset, .val v => v.category == 1
  | .val (.long _), .second => true
  | .val v, .unset => v.category == 1
  | .val v, .val u => v.category == 1 && u.category == 1
  | _, _ => false
theorem Two.of {o p : Slot} (h : twoB o p = true) : Two o p := by
  cases o with
  | unset => cases p with
    | unset => exact Or.inl ⟨rfl, rfl⟩
    | val v => exact Or.inr (Or.inr (Or.inl ⟨rfl, v, rfl, by simpa [twoB] using h⟩))
    | second => cases h
  | second => cases h
  | val v => cases p with
    | unset => exact Or.inr (Or.inr (Or.inr ⟨v, rfl, by cases v <;> simpa [twoB] using h, Or.inl rfl⟩))
    | val u => exact Or.inr (Or.inr (Or.inr ⟨v, rfl, by cases v <;> simp_all [twoB], Or.inr ⟨u, rfl, by cases v <;> simp_all [twoB]⟩⟩))
    | second => cases v with
      | long z => exact Or.inr (Or.inl ⟨z, rfl, rfl⟩)
      | _ => simp [twoB] at h
theorem storeL2 {Ls Ls' : List Slot} {i : Nat} {v : Int64} {o q : Slot} (ho : Ls[i]? = some o) (hq : Ls[i + 1]? = some q) (h2 : Two o q) (he : (Ls.set i (.val (.long v))).set (i + 1) .second = Ls') : storeLocals Ls.toArray i (.long v) = some Ls'.toArray := by
  subst he
  obtain ⟨h3, h4⟩ := List.getElem?_eq_some_iff.mp ho
  obtain ⟨h5, h6⟩ := List.getElem?_eq_some_iff.mp hq
  have a1 : ∀ p q : Slot, ((Ls.set i p)[i + 1]? = some q) ↔ q = Ls[i + 1] := fun p q => by rw [List.getElem?_set_ne (by omega), hq, h6]; constructor <;> (intro z; simp_all)
  rcases h2 with ⟨rfl, rfl⟩ | ⟨u, rfl, rfl⟩ | ⟨rfl, u, rfl, hu⟩ | ⟨u, rfl, hu, rfl | ⟨u', rfl, hu'⟩⟩ <;>
    simp [storeLocals, storeSelf, Jvm.setAt, Value.category, ho, hq, h3, h5, List.getElem?_set_ne, List.set_comm, *] <;> (try simp_all [Value.category])
theorem Go.istoreG {u : Int32} {k : Nat} {o : Slot} {Ls' : List Slot} (r : Go w l R Z n0 y code ml ret pc Ls ((.int u) :: st) h cells slots) (pc' : Nat) (hd : decode code pc = .ok (.istore k, 2)) (hp : pc + 2 = pc') (ho : Ls[k]? = some o) (h1 : One o) (he : Ls.set k (.val (.int u)) = Ls') : Go w l R Z n0 y code ml ret pc' Ls' st h cells slots := by
  subst hp; exact r.step fun T t a x b k => XS.istore a x rfl (hb b hd) rfl (storeL ho h1 rfl he) k
theorem Go.istoreNG {u : Int32} {k : Fin 4} {o : Slot} {Ls' : List Slot} (r : Go w l R Z n0 y code ml ret pc Ls ((.int u) :: st) h cells slots) (pc' : Nat) (hd : decode code pc = .ok (.istore_n k, 1)) (hp : pc + 1 = pc') (ho : Ls[k.val]? = some o) (h1 : One o) (he : Ls.set k.val (.val (.int u)) = Ls') : Go w l R Z n0 y code ml ret pc' Ls' st h cells slots := by
  subst hp; exact r.step fun T t a x b k => XS.istoreN a x rfl (hb b hd) rfl (storeL ho h1 rfl he) k
theorem Go.astoreG {u : Value} {k : Nat} {o : Slot} {Ls' : List Slot} (r : Go w l R Z n0 y code ml ret pc Ls (u :: st) h cells slots) (pc' : Nat) (hd : decode code pc = .ok (.astore k, 2)) (hp : pc + 2 = pc') (hv : u.isRef = true) (hc : u.category = 1) (ho : Ls[k]? = some o) (h1 : One o) (he : Ls.set k (.val u) = Ls') : Go w l R Z n0 y code ml ret pc' Ls' st h cells slots := by
  subst hp; exact r.step fun T t a x b k => XS.astore a x rfl (hb b hd) rfl hv (storeL ho h1 hc he) k
theorem Go.astoreNG {u : Value} {k : Fin 4} {o : Slot} {Ls' : List Slot} (r : Go w l R Z n0 y code ml ret pc Ls (u :: st) h cells slots) (pc' : Nat) (hd : decode code pc = .ok (.astore_n k, 1)) (hp : pc + 1 = pc') (hv : u.isRef = true) (hc : u.category = 1) (ho : Ls[k.val]? = some o) (h1 : One o) (he : Ls.set k.val (.val u) = Ls') : Go w l R Z n0 y code ml ret pc' Ls' st h cells slots := by
  subst hp; exact r.step fun T t a x b k => XS.astoreN a x rfl (hb b hd) rfl hv (storeL ho h1 hc he) k
theorem Go.lstoreG {u : Int64} {k : Nat} {o q : Slot} {Ls' : List Slot} (r : Go w l R Z n0 y code ml ret pc Ls (.long u :: st) h cells slots) (pc' : Nat) (hd : decode code pc = .ok (.lstore k, 2)) (hp : pc + 2 = pc') (ho : Ls[k]? = some o) (hq : Ls[k + 1]? = some q) (h2 : Two o q) (he : (Ls.set k (.val (.long u))).set (k + 1) .second = Ls') : Go w l R Z n0 y code ml ret pc' Ls' st h cells slots := by
  subst hp; exact r.step fun T t a x b k => XS.lstore a x rfl (hb b hd) rfl (storeL2 ho hq h2 he) k
theorem Go.lstoreNG {u : Int64} {k : Fin 4} {o q : Slot} {Ls' : List Slot} (r : Go w l R Z n0 y code ml ret pc Ls (.long u :: st) h cells slots) (pc' : Nat) (hd : decode code pc = .ok (.lstore_n k, 1)) (hp : pc + 1 = pc') (ho : Ls[k.val]? = some o) (hq : Ls[k.val + 1]? = some q) (h2 : Two o q) (he : (Ls.set k.val (.val (.long u))).set (k.val + 1) .second = Ls') : Go w l R Z n0 y code ml ret pc' Ls' st h cells slots := by
  subst hp; exact r.step fun T t a x b k => XS.lstoreN a x rfl (hb b hd) rfl (storeL2 ho hq h2 he) k
theorem Go.iincG {u : Int32} {k : Nat} {i : Int} {Ls' : List Slot} (r : Go w l R Z n0 y code ml ret pc Ls st h cells slots) (pc' : Nat) (hd : decode code pc = .ok (.iinc k i, 3)) (hp : pc + 3 = pc') (hl : Ls[k]? = some (.val (.int u))) (he : Ls.set k (.val (.int (u + Int32.ofInt i))) = Ls') : Go w l R Z n0 y code ml ret pc' Ls' st h cells slots := by
  subst hp; exact r.step fun T t a x b k => XS.iinc a x rfl (hb b hd) (show Ls.toArray[_]? = _ by rw [List.getElem?_toArray]; exact hl) (storeL hl (One.val rfl) rfl he) k
theorem get_s {α : Type} {a : α} {L : List α} {k : Nat} {v : α} (h : L[k]? = some v) : (a :: L)[k + 1]? = some v := h
theorem get_z {α : Type} {L : List α} {v : α} : (v :: L)[0]? = some v := rfl
theorem set_s {α : Type} {a v : α} {L L' : List α} {k : Nat} (h : L.set k v = L') : (a :: L).set (k + 1) v = a :: L' := by subst h; rfl
theorem set_z {α : Type} {a v : α} {L : List α} : (a :: L).set 0 v = v :: L := rfl
theorem Go.ald0 {v : Addr} {q : List Slot} (r : Go w l R Z n0 y code ml ret pc (.val (.ref v) :: q) st h cells slots) (pc' : Nat) (hd : decode code pc = .ok (.aload_n 0, 1)) (hp : pc + 1 = pc') : Go w l R Z n0 y code ml ret pc' (.val (.ref v) :: q) ((.ref v) :: st) h cells slots := r.aloadNG pc' hd hp get_z rfl
theorem Go.ald1 {v : Addr} {a0 : Slot} {q : List Slot} (r : Go w l R Z n0 y code ml ret pc (a0 :: .val (.ref v) :: q) st h cells slots) (pc' : Nat) (hd : decode code pc = .ok (.aload_n 1, 1)) (hp : pc + 1 = pc') : Go w l R Z n0 y code ml ret pc' (a0 :: .val (.ref v) :: q) ((.ref v) :: st) h cells slots := r.aloadNG pc' hd hp (get_s get_z) rfl
theorem Go.ald7 {v : Addr} {a0 a1 a2 a3 a4 a5 a6 : Slot} {q : List Slot} (r : Go w l R Z n0 y code ml ret pc (a0 :: a1 :: a2 :: a3 :: a4 :: a5 :: a6 :: .val (.ref v) :: q) st h cells slots) (pc' : Nat) (hd : decode code pc = .ok (.aload 7, 2)) (hp : pc + 2 = pc') : Go w l R Z n0 y code ml ret pc' (a0 :: a1 :: a2 :: a3 :: a4 :: a5 :: a6 :: .val (.ref v) :: q) ((.ref v) :: st) h cells slots := r.aloadG pc' hd hp (get_s (get_s (get_s (get_s (get_s (get_s (get_s get_z))))))) rfl
theorem Go.ald8 {v : Addr} {a0 a1 a2 a3 a4 a5 a6 a7 : Slot} {q : List Slot} (r : Go w l R Z n0 y code ml ret pc (a0 :: a1 :: a2 :: a3 :: a4 :: a5 :: a6 :: a7 :: .val (.ref v) :: q) st h cells slots) (pc' : Nat) (hd : decode code pc = .ok (.aload 8, 2)) (hp : pc + 2 = pc') : Go w l R Z n0 y code ml ret pc' (a0 :: a1 :: a2 :: a3 :: a4 :: a5 :: a6 :: a7 :: .val (.ref v) :: q) ((.ref v) :: st) h cells slots := r.aloadG pc' hd hp (get_s (get_s (get_s (get_s (get_s (get_s (get_s (get_s get_z)))))))) rfl
theorem Go.ald9 {v : Addr} {a0 a1 a2 a3 a4 a5 a6 a7 a8 : Slot} {q : List Slot} (r : Go w l R Z n0 y code ml ret pc (a0 :: a1 :: a2 :: a3 :: a4 :: a5 :: a6 :: a7 :: a8 :: .val (.ref v) :: q) st h cells slots) (pc' : Nat) (hd : decode code pc = .ok (.aload 9, 2)) (hp : pc + 2 = pc') : Go w l R Z n0 y code ml ret pc' (a0 :: a1 :: a2 :: a3 :: a4 :: a5 :: a6 :: a7 :: a8 :: .val (.ref v) :: q) ((.ref v) :: st) h cells slots := r.aloadG pc' hd hp (get_s (get_s (get_s (get_s (get_s (get_s (get_s (get_s (get_s get_z))))))))) rfl
theorem Go.ast7 {v : Addr} {o : Slot} {a0 a1 a2 a3 a4 a5 a6 : Slot} {q : List Slot} (r : Go w l R Z n0 y code ml ret pc (a0 :: a1 :: a2 :: a3 :: a4 :: a5 :: a6 :: o :: q) ((.ref v) :: st) h cells slots) (pc' : Nat) (hd : decode code pc = .ok (.astore 7, 2)) (hp : pc + 2 = pc') (ho : One o) : Go w l R Z n0 y code ml ret pc' (a0 :: a1 :: a2 :: a3 :: a4 :: a5 :: a6 :: .val (.ref v) :: q) st h cells slots := r.astoreG pc' hd hp rfl rfl (get_s (get_s (get_s (get_s (get_s (get_s (get_s get_z))))))) ho (set_s (set_s (set_s (set_s (set_s (set_s (set_s set_z)))))))
theorem Go.ast8 {v : Addr} {o : Slot} {a0 a1 a2 a3 a4 a5 a6 a7 : Slot} {q : List Slot} (r : Go w l R Z n0 y code ml ret pc (a0 :: a1 :: a2 :: a3 :: a4 :: a5 :: a6 :: a7 :: o :: q) ((.ref v) :: st) h cells slots) (pc' : Nat) (hd : decode code pc = .ok (.astore 8, 2)) (hp : pc + 2 = pc') (ho : One o) : Go w l R Z n0 y code ml ret pc' (a0 :: a1 :: a2 :: a3 :: a4 :: a5 :: a6 :: a7 :: .val (.ref v) :: q) st h cells slots := r.astoreG pc' hd hp rfl rfl (get_s (get_s (get_s (get_s (get_s (get_s (get_s (get_s get_z)))))))) ho (set_s (set_s (set_s (set_s (set_s (set_s (set_s (set_s set_z))))))))
theorem Go.ast9 {v : Addr} {o : Slot} {a0 a1 a2 a3 a4 a5 a6 a7 a8 : Slot} {q : List Slot} (r : Go w l R Z n0 y code ml ret pc (a0 :: a1 :: a2 :: a3 :: a4 :: a5 :: a6 :: a7 :: a8 :: o :: q) ((.ref v) :: st) h cells slots) (pc' : Nat) (hd : decode code pc = .ok (.astore 9, 2)) (hp : pc + 2 = pc') (ho : One o) : Go w l R Z n0 y code ml ret pc' (a0 :: a1 :: a2 :: a3 :: a4 :: a5 :: a6 :: a7 :: a8 :: .val (.ref v) :: q) st h cells slots := r.astoreG pc' hd hp rfl rfl (get_s (get_s (get_s (get_s (get_s (get_s (get_s (get_s (get_s get_z))))))))) ho (set_s (set_s (set_s (set_s (set_s (set_s (set_s (set_s (set_s set_z)))))))))
theorem Go.ild0 {v : Int32} {q : List Slot} (r : Go w l R Z n0 y code ml ret pc (.val (.int v) :: q) st h cells slots) (pc' : Nat) (hd : decode code pc = .ok (.iload_n 0, 1)) (hp : pc + 1 = pc') : Go w l R Z n0 y code ml ret pc' (.val (.int v) :: q) ((.int v) :: st) h cells slots := r.iloadNG pc' hd hp get_z
theorem Go.ild1 {v : Int32} {a0 : Slot} {q : List Slot} (r : Go w l R Z n0 y code ml ret pc (a0 :: .val (.int v) :: q) st h cells slots) (pc' : Nat) (hd : decode code pc = .ok (.iload_n 1, 1)) (hp : pc + 1 = pc') : Go w l R Z n0 y code ml ret pc' (a0 :: .val (.int v) :: q) ((.int v) :: st) h cells slots := r.iloadNG pc' hd hp (get_s get_z)
theorem Go.ild2 {v : Int32} {a0 a1 : Slot} {q : List Slot} (r : Go w l R Z n0 y code ml ret pc (a0 :: a1 :: .val (.int v) :: q) st h cells slots) (pc' : Nat) (hd : decode code pc = .ok (.iload_n 2, 1)) (hp : pc + 1 = pc') : Go w l R Z n0 y code ml ret pc' (a0 :: a1 :: .val (.int v) :: q) ((.int v) :: st) h cells slots := r.iloadNG pc' hd hp (get_s (get_s get_z))
theorem Go.ild3 {v : Int32} {a0 a1 a2 : Slot} {q : List Slot} (r : Go w l R Z n0 y code ml ret pc (a0 :: a1 :: a2 :: .val (.int v) :: q) st h cells slots) (pc' : Nat) (hd : decode code pc = .ok (.iload_n 3, 1)) (hp : pc + 1 = pc') : Go w l R Z n0 y code ml ret pc' (a0 :: a1 :: a2 :: .val (.int v) :: q) ((.int v) :: st) h cells slots := r.iloadNG pc' hd hp (get_s (get_s (get_s get_z)))
theorem Go.ild4 {v : Int32} {a0 a1 a2 a3 : Slot} {q : List Slot} (r : Go w l R Z n0 y code ml ret pc (a0 :: a1 :: a2 :: a3 :: .val (.int v) :: q) st h cells slots) (pc' : Nat) (hd : decode code pc = .ok (.iload 4, 2)) (hp : pc + 2 = pc') : Go w l R Z n0 y code ml ret pc' (a0 :: a1 :: a2 :: a3 :: .val (.int v) :: q) ((.int v) :: st) h cells slots := r.iloadG pc' hd hp (get_s (get_s (get_s (get_s get_z))))
theorem Go.ild5 {v : Int32} {a0 a1 a2 a3 a4 : Slot} {q : List Slot} (r : Go w l R Z n0 y code ml ret pc (a0 :: a1 :: a2 :: a3 :: a4 :: .val (.int v) :: q) st h cells slots) (pc' : Nat) (hd : decode code pc = .ok (.iload 5, 2)) (hp : pc + 2 = pc') : Go w l R Z n0 y code ml ret pc' (a0 :: a1 :: a2 :: a3 :: a4 :: .val (.int v) :: q) ((.int v) :: st) h cells slots := r.iloadG pc' hd hp (get_s (get_s (get_s (get_s (get_s get_z)))))
theorem Go.ild6 {v : Int32} {a0 a1 a2 a3 a4 a5 : Slot} {q : List Slot} (r : Go w l R Z n0 y code ml ret pc (a0 :: a1 :: a2 :: a3 :: a4 :: a5 :: .val (.int v) :: q) st h cells slots) (pc' : Nat) (hd : decode code pc = .ok (.iload 6, 2)) (hp : pc + 2 = pc') : Go w l R Z n0 y code ml ret pc' (a0 :: a1 :: a2 :: a3 :: a4 :: a5 :: .val (.int v) :: q) ((.int v) :: st) h cells slots := r.iloadG pc' hd hp (get_s (get_s (get_s (get_s (get_s (get_s get_z))))))
theorem Go.ild10 {v : Int32} {a0 a1 a2 a3 a4 a5 a6 a7 a8 a9 : Slot} {q : List Slot} (r : Go w l R Z n0 y code ml ret pc (a0 :: a1 :: a2 :: a3 :: a4 :: a5 :: a6 :: a7 :: a8 :: a9 :: .val (.int v) :: q) st h cells slots) (pc' : Nat) (hd : decode code pc = .ok (.iload 10, 2)) (hp : pc + 2 = pc') : Go w l R Z n0 y code ml ret pc' (a0 :: a1 :: a2 :: a3 :: a4 :: a5 :: a6 :: a7 :: a8 :: a9 :: .val (.int v) :: q) ((.int v) :: st) h cells slots := r.iloadG pc' hd hp (get_s (get_s (get_s (get_s (get_s (get_s (get_s (get_s (get_s (get_s get_z))))))))))
theorem Go.inc2 {v d : Int32} {i : Int} {a0 a1 : Slot} {q : List Slot} (r : Go w l R Z n0 y code ml ret pc (a0 :: a1 :: .val (.int v) :: q) st h cells slots) (pc' : Nat) (hd : decode code pc = .ok (.iinc 2 i, 3)) (hp : pc + 3 = pc') (he : Int32.ofInt i = d) : Go w l R Z n0 y code ml ret pc' (a0 :: a1 :: .val (.int (v + d)) :: q) st h cells slots := r.iincG pc' hd hp (get_s (get_s get_z)) (by rw [he]; exact (set_s (set_s set_z)))
theorem Go.ist2 {v : Int32} {o : Slot} {a0 a1 : Slot} {q : List Slot} (r : Go w l R Z n0 y code ml ret pc (a0 :: a1 :: o :: q) ((.int v) :: st) h cells slots) (pc' : Nat) (hd : decode code pc = .ok (.istore_n 2, 1)) (hp : pc + 1 = pc') (ho : One o) : Go w l R Z n0 y code ml ret pc' (a0 :: a1 :: .val (.int v) :: q) st h cells slots := r.istoreNG pc' hd hp (get_s (get_s get_z)) ho (set_s (set_s set_z))
theorem Go.ist4 {v : Int32} {o : Slot} {a0 a1 a2 a3 : Slot} {q : List Slot} (r : Go w l R Z n0 y code ml ret pc (a0 :: a1 :: a2 :: a3 :: o :: q) ((.int v) :: st) h cells slots) (pc' : Nat) (hd : decode code pc = .ok (.istore 4, 2)) (hp : pc + 2 = pc') (ho : One o) : Go w l R Z n0 y code ml ret pc' (a0 :: a1 :: a2 :: a3 :: .val (.int v) :: q) st h cells slots := r.istoreG pc' hd hp (get_s (get_s (get_s (get_s get_z)))) ho (set_s (set_s (set_s (set_s set_z))))
theorem Go.ist5 {v : Int32} {o : Slot} {a0 a1 a2 a3 a4 : Slot} {q : List Slot} (r : Go w l R Z n0 y code ml ret pc (a0 :: a1 :: a2 :: a3 :: a4 :: o :: q) ((.int v) :: st) h cells slots) (pc' : Nat) (hd : decode code pc = .ok (.istore 5, 2)) (hp : pc + 2 = pc') (ho : One o) : Go w l R Z n0 y code ml ret pc' (a0 :: a1 :: a2 :: a3 :: a4 :: .val (.int v) :: q) st h cells slots := r.istoreG pc' hd hp (get_s (get_s (get_s (get_s (get_s get_z))))) ho (set_s (set_s (set_s (set_s (set_s set_z)))))
theorem Go.ist6 {v : Int32} {o : Slot} {a0 a1 a2 a3 a4 a5 : Slot} {q : List Slot} (r : Go w l R Z n0 y code ml ret pc (a0 :: a1 :: a2 :: a3 :: a4 :: a5 :: o :: q) ((.int v) :: st) h cells slots) (pc' : Nat) (hd : decode code pc = .ok (.istore 6, 2)) (hp : pc + 2 = pc') (ho : One o) : Go w l R Z n0 y code ml ret pc' (a0 :: a1 :: a2 :: a3 :: a4 :: a5 :: .val (.int v) :: q) st h cells slots := r.istoreG pc' hd hp (get_s (get_s (get_s (get_s (get_s (get_s get_z)))))) ho (set_s (set_s (set_s (set_s (set_s (set_s set_z))))))
theorem Go.ist10 {v : Int32} {o : Slot} {a0 a1 a2 a3 a4 a5 a6 a7 a8 a9 : Slot} {q : List Slot} (r : Go w l R Z n0 y code ml ret pc (a0 :: a1 :: a2 :: a3 :: a4 :: a5 :: a6 :: a7 :: a8 :: a9 :: o :: q) ((.int v) :: st) h cells slots) (pc' : Nat) (hd : decode code pc = .ok (.istore 10, 2)) (hp : pc + 2 = pc') (ho : One o) : Go w l R Z n0 y code ml ret pc' (a0 :: a1 :: a2 :: a3 :: a4 :: a5 :: a6 :: a7 :: a8 :: a9 :: .val (.int v) :: q) st h cells slots := r.istoreG pc' hd hp (get_s (get_s (get_s (get_s (get_s (get_s (get_s (get_s (get_s (get_s get_z)))))))))) ho (set_s (set_s (set_s (set_s (set_s (set_s (set_s (set_s (set_s (set_s set_z))))))))))
theorem Go.lld1 {v : Int64} {a0 : Slot} {q : List Slot} (r : Go w l R Z n0 y code ml ret pc (a0 :: .val (.long v) :: q) st h cells slots) (pc' : Nat) (hd : decode code pc = .ok (.lload_n 1, 1)) (hp : pc + 1 = pc') : Go w l R Z n0 y code ml ret pc' (a0 :: .val (.long v) :: q) ((.long v) :: st) h cells slots := r.lloadNG pc' hd hp (get_s get_z)
theorem Go.lld3 {v : Int64} {a0 a1 a2 : Slot} {q : List Slot} (r : Go w l R Z n0 y code ml ret pc (a0 :: a1 :: a2 :: .val (.long v) :: q) st h cells slots) (pc' : Nat) (hd : decode code pc = .ok (.lload_n 3, 1)) (hp : pc + 1 = pc') : Go w l R Z n0 y code ml ret pc' (a0 :: a1 :: a2 :: .val (.long v) :: q) ((.long v) :: st) h cells slots := r.lloadNG pc' hd hp (get_s (get_s (get_s get_z)))
theorem Go.lld5 {v : Int64} {a0 a1 a2 a3 a4 : Slot} {q : List Slot} (r : Go w l R Z n0 y code ml ret pc (a0 :: a1 :: a2 :: a3 :: a4 :: .val (.long v) :: q) st h cells slots) (pc' : Nat) (hd : decode code pc = .ok (.lload 5, 2)) (hp : pc + 2 = pc') : Go w l R Z n0 y code ml ret pc' (a0 :: a1 :: a2 :: a3 :: a4 :: .val (.long v) :: q) ((.long v) :: st) h cells slots := r.lloadG pc' hd hp (get_s (get_s (get_s (get_s (get_s get_z)))))
theorem Go.lld7 {v : Int64} {a0 a1 a2 a3 a4 a5 a6 : Slot} {q : List Slot} (r : Go w l R Z n0 y code ml ret pc (a0 :: a1 :: a2 :: a3 :: a4 :: a5 :: a6 :: .val (.long v) :: q) st h cells slots) (pc' : Nat) (hd : decode code pc = .ok (.lload 7, 2)) (hp : pc + 2 = pc') : Go w l R Z n0 y code ml ret pc' (a0 :: a1 :: a2 :: a3 :: a4 :: a5 :: a6 :: .val (.long v) :: q) ((.long v) :: st) h cells slots := r.lloadG pc' hd hp (get_s (get_s (get_s (get_s (get_s (get_s (get_s get_z)))))))
theorem Go.lst7 {v : Int64} {o o' : Slot} {a0 a1 a2 a3 a4 a5 a6 : Slot} {q : List Slot} (r : Go w l R Z n0 y code ml ret pc (a0 :: a1 :: a2 :: a3 :: a4 :: a5 :: a6 :: o :: o' :: q) (.long v :: st) h cells slots) (pc' : Nat) (hd : decode code pc = .ok (.lstore 7, 2)) (hp : pc + 2 = pc') (ho : Two o o') : Go w l R Z n0 y code ml ret pc' (a0 :: a1 :: a2 :: a3 :: a4 :: a5 :: a6 :: .val (.long v) :: .second :: q) st h cells slots := r.lstoreG pc' hd hp (get_s (get_s (get_s (get_s (get_s (get_s (get_s get_z))))))) (get_s (get_s (get_s (get_s (get_s (get_s (get_s (get_s get_z)))))))) ho (by show ((a0 :: a1 :: a2 :: a3 :: a4 :: a5 :: a6 :: o :: o' :: q).set 7 (.val (.long v))).set (7 + 1) .second = _; rw [show (a0 :: a1 :: a2 :: a3 :: a4 :: a5 :: a6 :: o :: o' :: q).set 7 (.val (.long v)) = (a0 :: a1 :: a2 :: a3 :: a4 :: a5 :: a6 :: .val (.long v) :: o' :: q) from (set_s (set_s (set_s (set_s (set_s (set_s (set_s set_z)))))))]; exact (set_s (set_s (set_s (set_s (set_s (set_s (set_s (set_s set_z)))))))))
theorem Go.goto {o : Int} (r : Go w l R Z n0 y code ml ret pc Ls st h cells slots) (pc' : Nat) (hd : decode code pc = .ok (.goto o, 3)) (hp : (pc : Int) + o = pc') : Go w l R Z n0 y code ml ret pc' Ls st h cells slots :=
  r.step fun T t a x b k => XS.goto a x rfl (pc0 := pc) (pc' := pc') rfl (hb b hd) (by rw [hp]; exact Int.natCast_nonneg _) (by rw [hp]; exact Int.toNat_natCast _) k
theorem Go.ifT {o : Int} {cd : ClassFile.Cond} {u : Int32} (r : Go w l R Z n0 y code ml ret pc Ls (.int u :: st) h cells slots) (pc' : Nat) (hd : decode code pc = .ok (.ifCond cd o, 3)) (hp : (pc : Int) + o = pc') (hc : ifCond.holds cd u = true) : Go w l R Z n0 y code ml ret pc' Ls st h cells slots :=
  r.step fun T t a x b k => XS.ifYes a x rfl (pc0 := pc) (pc' := pc') rfl (hb b hd) rfl hc (by rw [hp]; exact Int.natCast_nonneg _) (by rw [hp]; exact Int.toNat_natCast _) k
theorem Go.ifF {o : Int} {cd : ClassFile.Cond} {u : Int32} (r : Go w l R Z n0 y code ml ret pc Ls (.int u :: st) h cells slots) (pc' : Nat) (hd : decode code pc = .ok (.ifCond cd o, 3)) (hp : pc + 3 = pc') (hc : ifCond.holds cd u = false) : Go w l R Z n0 y code ml ret pc' Ls st h cells slots := by
  subst hp; exact r.step fun T t a x b k => XS.ifNo a x rfl (hb b hd) rfl hc k
theorem Go.icT {o : Int} {cd : ClassFile.Cond} {u v : Int32} (r : Go w l R Z n0 y code ml ret pc Ls (.int v :: .int u :: st) h cells slots) (pc' : Nat) (hd : decode code pc = .ok (.if_icmp cd o, 3)) (hp : (pc : Int) + o = pc') (hc : if_icmp.holds cd u v = true) : Go w l R Z n0 y code ml ret pc' Ls st h cells slots :=
  r.step fun T t a x b k => XS.icmpYes a x rfl (pc0 := pc) (pc' := pc') rfl (hb b hd) rfl hc (by rw [hp]; exact Int.natCast_nonneg _) (by rw [hp]; exact Int.toNat_natCast _) k
theorem Go.icF {o : Int} {cd : ClassFile.Cond} {u v : Int32} (r : Go w l R Z n0 y code ml ret pc Ls (.int v :: .int u :: st) h cells slots) (pc' : Nat) (hd : decode code pc = .ok (.if_icmp cd o, 3)) (hp : pc + 3 = pc') (hc : if_icmp.holds cd u v = false) : Go w l R Z n0 y code ml ret pc' Ls st h cells slots := by
  subst hp; exact r.step fun T t a x b k => XS.icmpNo a x rfl (hb b hd) rfl hc k
theorem Go.if_eqT {o : Int} {u : Int32} (r : Go w l R Z n0 y code ml ret pc Ls (.int u :: st) h cells slots) (pc' : Nat) (hd : decode code pc = .ok (.ifCond .eq o, 3)) (hp : (pc : Int) + o = pc') (hc : u = 0) : Go w l R Z n0 y code ml ret pc' Ls st h cells slots := r.ifT pc' hd hp ((if0 _ _).trans (teq hc).1)
theorem Go.if_eqF {o : Int} {u : Int32} (r : Go w l R Z n0 y code ml ret pc Ls (.int u :: st) h cells slots) (pc' : Nat) (hd : decode code pc = .ok (.ifCond .eq o, 3)) (hp : pc + 3 = pc') (hc : ¬ u = 0) : Go w l R Z n0 y code ml ret pc' Ls st h cells slots := r.ifF pc' hd hp ((if0 _ _).trans (feq hc).1)
theorem Go.if_eq {o : Int} {u : Int32} (r : Go w l R Z n0 y code ml ret pc Ls (.int u :: st) h cells slots) (pcT pcF : Nat) (hd : decode code pc = .ok (.ifCond .eq o, 3)) (hp : (pc : Int) + o = pcT) (hq : pc + 3 = pcF) : ((u = 0) ∧ Go w l R Z n0 y code ml ret pcT Ls st h cells slots) ∨ ((¬ u = 0) ∧ Go w l R Z n0 y code ml ret pcF Ls st h cells slots) := by
  by_cases hc : u = 0
  · exact Or.inl ⟨hc, r.if_eqT pcT hd hp hc⟩
  · exact Or.inr ⟨hc, r.if_eqF pcF hd hq hc⟩
theorem Go.ic_eqT {o : Int} {u v : Int32} (r : Go w l R Z n0 y code ml ret pc Ls (.int v :: .int u :: st) h cells slots) (pc' : Nat) (hd : decode code pc = .ok (.if_icmp .eq o, 3)) (hp : (pc : Int) + o = pc') (hc : u = v) : Go w l R Z n0 y code ml ret pc' Ls st h cells slots := r.icT pc' hd hp (teq hc).1
theorem Go.ic_eqF {o : Int} {u v : Int32} (r : Go w l R Z n0 y code ml ret pc Ls (.int v :: .int u :: st) h cells slots) (pc' : Nat) (hd : decode code pc = .ok (.if_icmp .eq o, 3)) (hp : pc + 3 = pc') (hc : ¬ u = v) : Go w l R Z n0 y code ml ret pc' Ls st h cells slots := r.icF pc' hd hp (feq hc).1
theorem Go.ic_eq {o : Int} {u v : Int32} (r : Go w l R Z n0 y code ml ret pc Ls (.int v :: .int u :: st) h cells slots) (pcT pcF : Nat) (hd : decode code pc = .ok (.if_icmp .eq o, 3)) (hp : (pc : Int) + o = pcT) (hq : pc + 3 = pcF) : ((u = v) ∧ Go w l R Z n0 y code ml ret pcT Ls st h cells slots) ∨ ((¬ u = v) ∧ Go w l R Z n0 y code ml ret pcF Ls st h cells slots) := by
  by_cases hc : u = v
  · exact Or.inl ⟨hc, r.ic_eqT pcT hd hp hc⟩
  · exact Or.inr ⟨hc, r.ic_eqF pcF hd hq hc⟩
theorem Go.if_neT {o : Int} {u : Int32} (r : Go w l R Z n0 y code ml ret pc Ls (.int u :: st) h cells slots) (pc' : Nat) (hd : decode code pc = .ok (.ifCond .ne o, 3)) (hp : (pc : Int) + o = pc') (hc : ¬ u = 0) : Go w l R Z n0 y code ml ret pc' Ls st h cells slots := r.ifT pc' hd hp ((if0 _ _).trans (feq hc).2)
theorem Go.if_neF {o : Int} {u : Int32} (r : Go w l R Z n0 y code ml ret pc Ls (.int u :: st) h cells slots) (pc' : Nat) (hd : decode code pc = .ok (.ifCond .ne o, 3)) (hp : pc + 3 = pc') (hc : u = 0) : Go w l R Z n0 y code ml ret pc' Ls st h cells slots := r.ifF pc' hd hp ((if0 _ _).trans (teq hc).2)
theorem Go.if_ne {o : Int} {u : Int32} (r : Go w l R Z n0 y code ml ret pc Ls (.int u :: st) h cells slots) (pcT pcF : Nat) (hd : decode code pc = .ok (.ifCond .ne o, 3)) (hp : (pc : Int) + o = pcT) (hq : pc + 3 = pcF) : ((¬ u = 0) ∧ Go w l R Z n0 y code ml ret pcT Ls st h cells slots) ∨ ((u = 0) ∧ Go w l R Z n0 y code ml ret pcF Ls st h cells slots) := by
  by_cases hc : ¬ u = 0
  · exact Or.inl ⟨hc, r.if_neT pcT hd hp hc⟩
  · exact Or.inr ⟨Classical.not_not.mp hc, r.if_neF pcF hd hq (Classical.not_not.mp hc)⟩
theorem Go.ic_neT {o : Int} {u v : Int32} (r : Go w l R Z n0 y code ml ret pc Ls (.int v :: .int u :: st) h cells slots) (pc' : Nat) (hd : decode code pc = .ok (.if_icmp .ne o, 3)) (hp : (pc : Int) + o = pc') (hc : ¬ u = v) : Go w l R Z n0 y code ml ret pc' Ls st h cells slots := r.icT pc' hd hp (feq hc).2
theorem Go.ic_neF {o : Int} {u v : Int32} (r : Go w l R Z n0 y code ml ret pc Ls (.int v :: .int u :: st) h cells slots) (pc' : Nat) (hd : decode code pc = .ok (.if_icmp .ne o, 3)) (hp : pc + 3 = pc') (hc : u = v) : Go w l R Z n0 y code ml ret pc' Ls st h cells slots := r.icF pc' hd hp (teq hc).2
theorem Go.ic_ne {o : Int} {u v : Int32} (r : Go w l R Z n0 y code ml ret pc Ls (.int v :: .int u :: st) h cells slots) (pcT pcF : Nat) (hd : decode code pc = .ok (.if_icmp .ne o, 3)) (hp : (pc : Int) + o = pcT) (hq : pc + 3 = pcF) : ((¬ u = v) ∧ Go w l R Z n0 y code ml ret pcT Ls st h cells slots) ∨ ((u = v) ∧ Go w l R Z n0 y code ml ret pcF Ls st h cells slots) := by
  by_cases hc : ¬ u = v
  · exact Or.inl ⟨hc, r.ic_neT pcT hd hp hc⟩
  · exact Or.inr ⟨Classical.not_not.mp hc, r.ic_neF pcF hd hq (Classical.not_not.mp hc)⟩
theorem Go.if_ltT {o : Int} {u : Int32} (r : Go w l R Z n0 y code ml ret pc Ls (.int u :: st) h cells slots) (pc' : Nat) (hd : decode code pc = .ok (.ifCond .lt o, 3)) (hp : (pc : Int) + o = pc') (hc : u < 0) : Go w l R Z n0 y code ml ret pc' Ls st h cells slots := r.ifT pc' hd hp ((if0 _ _).trans (tlt hc).1)
theorem Go.if_ltF {o : Int} {u : Int32} (r : Go w l R Z n0 y code ml ret pc Ls (.int u :: st) h cells slots) (pc' : Nat) (hd : decode code pc = .ok (.ifCond .lt o, 3)) (hp : pc + 3 = pc') (hc : ¬ u < 0) : Go w l R Z n0 y code ml ret pc' Ls st h cells slots := r.ifF pc' hd hp ((if0 _ _).trans (flt hc).1)
theorem Go.if_lt {o : Int} {u : Int32} (r : Go w l R Z n0 y code ml ret pc Ls (.int u :: st) h cells slots) (pcT pcF : Nat) (hd : decode code pc = .ok (.ifCond .lt o, 3)) (hp : (pc : Int) + o = pcT) (hq : pc + 3 = pcF) : ((u < 0) ∧ Go w l R Z n0 y code ml ret pcT Ls st h cells slots) ∨ ((¬ u < 0) ∧ Go w l R Z n0 y code ml ret pcF Ls st h cells slots) := by
  by_cases hc : u < 0
  · exact Or.inl ⟨hc, r.if_ltT pcT hd hp hc⟩
  · exact Or.inr ⟨hc, r.if_ltF pcF hd hq hc⟩
theorem Go.ic_ltT {o : Int} {u v : Int32} (r : Go w l R Z n0 y code ml ret pc Ls (.int v :: .int u :: st) h cells slots) (pc' : Nat) (hd : decode code pc = .ok (.if_icmp .lt o, 3)) (hp : (pc : Int) + o = pc') (hc : u < v) : Go w l R Z n0 y code ml ret pc' Ls st h cells slots := r.icT pc' hd hp (tlt hc).1
theorem Go.ic_ltF {o : Int} {u v : Int32} (r : Go w l R Z n0 y code ml ret pc Ls (.int v :: .int u :: st) h cells slots) (pc' : Nat) (hd : decode code pc = .ok (.if_icmp .lt o, 3)) (hp : pc + 3 = pc') (hc : ¬ u < v) : Go w l R Z n0 y code ml ret pc' Ls st h cells slots := r.icF pc' hd hp (flt hc).1
theorem Go.ic_lt {o : Int} {u v : Int32} (r : Go w l R Z n0 y code ml ret pc Ls (.int v :: .int u :: st) h cells slots) (pcT pcF : Nat) (hd : decode code pc = .ok (.if_icmp .lt o, 3)) (hp : (pc : Int) + o = pcT) (hq : pc + 3 = pcF) : ((u < v) ∧ Go w l R Z n0 y code ml ret pcT Ls st h cells slots) ∨ ((¬ u < v) ∧ Go w l R Z n0 y code ml ret pcF Ls st h cells slots) := by
  by_cases hc : u < v
  · exact Or.inl ⟨hc, r.ic_ltT pcT hd hp hc⟩
  · exact Or.inr ⟨hc, r.ic_ltF pcF hd hq hc⟩
theorem Go.if_geT {o : Int} {u : Int32} (r : Go w l R Z n0 y code ml ret pc Ls (.int u :: st) h cells slots) (pc' : Nat) (hd : decode code pc = .ok (.ifCond .ge o, 3)) (hp : (pc : Int) + o = pc') (hc : ¬ u < 0) : Go w l R Z n0 y code ml ret pc' Ls st h cells slots := r.ifT pc' hd hp ((if0 _ _).trans (flt hc).2.1)
theorem Go.if_geF {o : Int} {u : Int32} (r : Go w l R Z n0 y code ml ret pc Ls (.int u :: st) h cells slots) (pc' : Nat) (hd : decode code pc = .ok (.ifCond .ge o, 3)) (hp : pc + 3 = pc') (hc : u < 0) : Go w l R Z n0 y code ml ret pc' Ls st h cells slots := r.ifF pc' hd hp ((if0 _ _).trans (tlt hc).2.1)
theorem Go.if_ge {o : Int} {u : Int32} (r : Go w l R Z n0 y code ml ret pc Ls (.int u :: st) h cells slots) (pcT pcF : Nat) (hd : decode code pc = .ok (.ifCond .ge o, 3)) (hp : (pc : Int) + o = pcT) (hq : pc + 3 = pcF) : ((¬ u < 0) ∧ Go w l R Z n0 y code ml ret pcT Ls st h cells slots) ∨ ((u < 0) ∧ Go w l R Z n0 y code ml ret pcF Ls st h cells slots) := by
  by_cases hc : ¬ u < 0
  · exact Or.inl ⟨hc, r.if_geT pcT hd hp hc⟩
  · exact Or.inr ⟨Classical.not_not.mp hc, r.if_geF pcF hd hq (Classical.not_not.mp hc)⟩
theorem Go.ic_geT {o : Int} {u v : Int32} (r : Go w l R Z n0 y code ml ret pc Ls (.int v :: .int u :: st) h cells slots) (pc' : Nat) (hd : decode code pc = .ok (.if_icmp .ge o, 3)) (hp : (pc : Int) + o = pc') (hc : ¬ u < v) : Go w l R Z n0 y code ml ret pc' Ls st h cells slots := r.icT pc' hd hp (flt hc).2.1
theorem Go.ic_geF {o : Int} {u v : Int32} (r : Go w l R Z n0 y code ml ret pc Ls (.int v :: .int u :: st) h cells slots) (pc' : Nat) (hd : decode code pc = .ok (.if_icmp .ge o, 3)) (hp : pc + 3 = pc') (hc : u < v) : Go w l R Z n0 y code ml ret pc' Ls st h cells slots := r.icF pc' hd hp (tlt hc).2.1
theorem Go.ic_ge {o : Int} {u v : Int32} (r : Go w l R Z n0 y code ml ret pc Ls (.int v :: .int u :: st) h cells slots) (pcT pcF : Nat) (hd : decode code pc = .ok (.if_icmp .ge o, 3)) (hp : (pc : Int) + o = pcT) (hq : pc + 3 = pcF) : ((¬ u < v) ∧ Go w l R Z n0 y code ml ret pcT Ls st h cells slots) ∨ ((u < v) ∧ Go w l R Z n0 y code ml ret pcF Ls st h cells slots) := by
  by_cases hc : ¬ u < v
  · exact Or.inl ⟨hc, r.ic_geT pcT hd hp hc⟩
  · exact Or.inr ⟨Classical.not_not.mp hc, r.ic_geF pcF hd hq (Classical.not_not.mp hc)⟩
theorem Go.if_gtT {o : Int} {u : Int32} (r : Go w l R Z n0 y code ml ret pc Ls (.int u :: st) h cells slots) (pc' : Nat) (hd : decode code pc = .ok (.ifCond .gt o, 3)) (hp : (pc : Int) + o = pc') (hc : 0 < u) : Go w l R Z n0 y code ml ret pc' Ls st h cells slots := r.ifT pc' hd hp ((if0 _ _).trans (tlt hc).2.2.1)
theorem Go.if_gtF {o : Int} {u : Int32} (r : Go w l R Z n0 y code ml ret pc Ls (.int u :: st) h cells slots) (pc' : Nat) (hd : decode code pc = .ok (.ifCond .gt o, 3)) (hp : pc + 3 = pc') (hc : ¬ 0 < u) : Go w l R Z n0 y code ml ret pc' Ls st h cells slots := r.ifF pc' hd hp ((if0 _ _).trans (flt hc).2.2.1)
theorem Go.if_gt {o : Int} {u : Int32} (r : Go w l R Z n0 y code ml ret pc Ls (.int u :: st) h cells slots) (pcT pcF : Nat) (hd : decode code pc = .ok (.ifCond .gt o, 3)) (hp : (pc : Int) + o = pcT) (hq : pc + 3 = pcF) : ((0 < u) ∧ Go w l R Z n0 y code ml ret pcT Ls st h cells slots) ∨ ((¬ 0 < u) ∧ Go w l R Z n0 y code ml ret pcF Ls st h cells slots) := by
  by_cases hc : 0 < u
  · exact Or.inl ⟨hc, r.if_gtT pcT hd hp hc⟩
  · exact Or.inr ⟨hc, r.if_gtF pcF hd hq hc⟩
theorem Go.ic_gtT {o : Int} {u v : Int32} (r : Go w l R Z n0 y code ml ret pc Ls (.int v :: .int u :: st) h cells slots) (pc' : Nat) (hd : decode code pc = .ok (.if_icmp .gt o, 3)) (hp : (pc : Int) + o = pc') (hc : v < u) : Go w l R Z n0 y code ml ret pc' Ls st h cells slots := r.icT pc' hd hp (tlt hc).2.2.1
theorem Go.ic_gtF {o : Int} {u v : Int32} (r : Go w l R Z n0 y code ml ret pc Ls (.int v :: .int u :: st) h cells slots) (pc' : Nat) (hd : decode code pc = .ok (.if_icmp .gt o, 3)) (hp : pc + 3 = pc') (hc : ¬ v < u) : Go w l R Z n0 y code ml ret pc' Ls st h cells slots := r.icF pc' hd hp (flt hc).2.2.1
theorem Go.ic_gt {o : Int} {u v : Int32} (r : Go w l R Z n0 y code ml ret pc Ls (.int v :: .int u :: st) h cells slots) (pcT pcF : Nat) (hd : decode code pc = .ok (.if_icmp .gt o, 3)) (hp : (pc : Int) + o = pcT) (hq : pc + 3 = pcF) : ((v < u) ∧ Go w l R Z n0 y code ml ret pcT Ls st h cells slots) ∨ ((¬ v < u) ∧ Go w l R Z n0 y code ml ret pcF Ls st h cells slots) := by
  by_cases hc : v < u
  · exact Or.inl ⟨hc, r.ic_gtT pcT hd hp hc⟩
  · exact Or.inr ⟨hc, r.ic_gtF pcF hd hq hc⟩
theorem Go.if_leT {o : Int} {u : Int32} (r : Go w l R Z n0 y code ml ret pc Ls (.int u :: st) h cells slots) (pc' : Nat) (hd : decode code pc = .ok (.ifCond .le o, 3)) (hp : (pc : Int) + o = pc') (hc : ¬ 0 < u) : Go w l R Z n0 y code ml ret pc' Ls st h cells slots := r.ifT pc' hd hp ((if0 _ _).trans (flt hc).2.2.2)
theorem Go.if_leF {o : Int} {u : Int32} (r : Go w l R Z n0 y code ml ret pc Ls (.int u :: st) h cells slots) (pc' : Nat) (hd : decode code pc = .ok (.ifCond .le o, 3)) (hp : pc + 3 = pc') (hc : 0 < u) : Go w l R Z n0 y code ml ret pc' Ls st h cells slots := r.ifF pc' hd hp ((if0 _ _).trans (tlt hc).2.2.2)
theorem Go.if_le {o : Int} {u : Int32} (r : Go w l R Z n0 y code ml ret pc Ls (.int u :: st) h cells slots) (pcT pcF : Nat) (hd : decode code pc = .ok (.ifCond .le o, 3)) (hp : (pc : Int) + o = pcT) (hq : pc + 3 = pcF) : ((¬ 0 < u) ∧ Go w l R Z n0 y code ml ret pcT Ls st h cells slots) ∨ ((0 < u) ∧ Go w l R Z n0 y code ml ret pcF Ls st h cells slots) := by
  by_cases hc : ¬ 0 < u
  · exact Or.inl ⟨hc, r.if_leT pcT hd hp hc⟩
  · exact Or.inr ⟨Classical.not_not.mp hc, r.if_leF pcF hd hq (Classical.not_not.mp hc)⟩
theorem Go.ic_leT {o : Int} {u v : Int32} (r : Go w l R Z n0 y code ml ret pc Ls (.int v :: .int u :: st) h cells slots) (pc' : Nat) (hd : decode code pc = .ok (.if_icmp .le o, 3)) (hp : (pc : Int) + o = pc') (hc : ¬ v < u) : Go w l R Z n0 y code ml ret pc' Ls st h cells slots := r.icT pc' hd hp (flt hc).2.2.2
theorem Go.ic_leF {o : Int} {u v : Int32} (r : Go w l R Z n0 y code ml ret pc Ls (.int v :: .int u :: st) h cells slots) (pc' : Nat) (hd : decode code pc = .ok (.if_icmp .le o, 3)) (hp : pc + 3 = pc') (hc : v < u) : Go w l R Z n0 y code ml ret pc' Ls st h cells slots := r.icF pc' hd hp (tlt hc).2.2.2
theorem Go.ic_le {o : Int} {u v : Int32} (r : Go w l R Z n0 y code ml ret pc Ls (.int v :: .int u :: st) h cells slots) (pcT pcF : Nat) (hd : decode code pc = .ok (.if_icmp .le o, 3)) (hp : (pc : Int) + o = pcT) (hq : pc + 3 = pcF) : ((¬ v < u) ∧ Go w l R Z n0 y code ml ret pcT Ls st h cells slots) ∨ ((v < u) ∧ Go w l R Z n0 y code ml ret pcF Ls st h cells slots) := by
  by_cases hc : ¬ v < u
  · exact Or.inl ⟨hc, r.ic_leT pcT hd hp hc⟩
  · exact Or.inr ⟨Classical.not_not.mp hc, r.ic_leF pcF hd hq (Classical.not_not.mp hc)⟩
/-! constants of the pool -/
theorem Go.ldcI {idx : Nat} {v : Int32} {a0 : Array Value} (r : Go w l R Z n0 y code ml ret pc Ls st h cells slots) (pc' : Nat) (hd : decode code pc = .ok (.ldc idx, 2)) (hp : pc + 2 = pc') (wc : (Cond.constant y.cls idx v).before a0 Z = true) : Go w l R Z n0 y code ml ret pc' Ls (.int v :: st) h cells slots := by
  subst hp
  obtain ⟨S, T, locs, X, e, N, k⟩ := r
  exact ⟨S, T, locs, X, e, N, fun t q => k t (X.ldcInt S.1 S.2.2.1 (mvT S.2.1 wc) (g := mkF w.m pc Ls.toArray st) rfl (hb S.2.2.2.1 hd) t q)⟩
theorem Go.ldc2 {idx : Nat} {v : Int64} {a0 : Array Value} (r : Go w l R Z n0 y code ml ret pc Ls st h cells slots) (pc' : Nat) (hd : decode code pc = .ok (.ldc2_w idx, 3)) (hp : pc + 3 = pc') (wc : (Cond.constantLong y.cls idx v).before a0 Z = true) : Go w l R Z n0 y code ml ret pc' Ls (.long v :: st) h cells slots := by
  subst hp
  obtain ⟨S, T, locs, X, e, N, k⟩ := r
  exact ⟨S, T, locs, X, e, N, fun t q => k t (X.ldc2Long S.1 S.2.2.1 (mvT S.2.1 wc) (g := mkF w.m pc Ls.toArray st) rfl (hb S.2.2.2.1 hd) t q)⟩
/-! fields -/
theorem Go.getF {idx : Nat} {O n d : String} {v : Value} {a : Addr} {a0 : Array Value} (r : Go w l R Z n0 y code ml ret pc Ls (.ref a :: st) h cells slots) (pc' : Nat) (hd : decode code pc = .ok (.getfield idx, 3)) (hp : pc + 3 = pc') (wf : (Cond.fieldLink y.cls idx O n d).before a0 Z = true) (F : Fld Z h a O n d v) : Go w l R Z n0 y code ml ret pc' Ls (v :: st) h cells slots := by
  subst hp
  obtain ⟨S, T, locs, X, e, N, k⟩ := r
  obtain ⟨T', X', e', q⟩ := Jvm.RoadKit.getF X S.1 S.2.1 S.2.2.1 (host := "") (Or.inl wf) Via.refl e F (g := mkF w.m pc Ls.toArray (.ref a :: st)) rfl rfl (hb S.2.2.2.1 hd)
  exact ⟨S, T', locs, X', e', N, fun t z => k t (q t z)⟩
/-- a field's place in an object of class C that may be written here: 'lays', or 'laysFinal' in a constructor of its own class -/
def Wry (Z : State) (a0 : Array Value) (y : MethodName) (C O n d : String) : Prop := (Cond.lays C O n d).before a0 Z = true ∨ ((Cond.laysFinal C O n d).before a0 Z = true ∧ y.cls = O ∧ y.name = "<init>")
theorem Go.putF {idx kk : Nat} {C O n d : String} {v old : Value} {a : Addr} {a0 : Array Value} (r : Go w l R Z n0 y code ml ret pc Ls (v :: .ref a :: st) h cells slots) (pc' : Nat) (hd : decode code pc = .ok (.putfield idx, 3)) (hp : pc + 3 = pc') (wf : (Cond.fieldLink y.cls idx O n d).before a0 Z = true) (wl : Wry Z a0 y C O n d) (wi : (Cond.instantiable C kk).before a0 Z = true) (E : Exa Z h a C) (F : Fld Z h a O n d old) {ty : FieldType} (hty : parseFieldDescriptor d = some ty) (hn : narrow ty v = v) (hf : fits ty v = true) (g0 : n0 ≤ a) :
    ∃ h', Wr h h' a (Jvm.RoadKit.slotOf Z O n d) v ∧ Go w l R Z n0 y code ml ret pc' Ls st h' cells slots := by
  subst hp
  obtain ⟨S, T, locs, X, e, N, k⟩ := r
  obtain ⟨T', h', X', e', Wq, q⟩ := Jvm.RoadKit.putF X S.1 S.2.1 S.2.2.1 (host := "") (Or.inl wf) Via.refl e F E (wl.imp id fun z => ⟨z.1, z.2.1, S.2.2.2.2.2.2.2.trans z.2.2⟩) wi hty hn hf (g := mkF w.m pc Ls.toArray (v :: .ref a :: st)) rfl rfl (hb S.2.2.2.1 hd)
  exact ⟨h', Wq, S, T', _, X', e', Fr.snoc X' N g0, fun t z => k t (q t z)⟩
theorem Go.putFN {idx kk : Nat} {C O n d : String} {v v' old : Value} {a : Addr} {a0 : Array Value} (r : Go w l R Z n0 y code ml ret pc Ls (v :: .ref a :: st) h cells slots) (pc' : Nat) (hd : decode code pc = .ok (.putfield idx, 3)) (hp : pc + 3 = pc') (wf : (Cond.fieldLink y.cls idx O n d).before a0 Z = true) (wl : Wry Z a0 y C O n d) (wi : (Cond.instantiable C kk).before a0 Z = true) (E : Exa Z h a C) (F : Fld Z h a O n d old) {ty : FieldType} (hty : parseFieldDescriptor d = some ty) (hn : narrow ty v = v') (hf : fits ty v' = true) (g0 : n0 ≤ a) :
    ∃ h', Wr h h' a (Jvm.RoadKit.slotOf Z O n d) v' ∧ Go w l R Z n0 y code ml ret pc' Ls st h' cells slots := by
  subst hp
  obtain ⟨S, T, locs, X, e, N, k⟩ := r
  obtain ⟨T', h', X', e', Wq, q⟩ := Jvm.RoadKit.putFN X S.1 S.2.1 S.2.2.1 wf Via.refl e F E (wl.imp id fun z => ⟨z.1, z.2.1, S.2.2.2.2.2.2.2.trans z.2.2⟩) wi hty hn hf (g := mkF w.m pc Ls.toArray (v :: .ref a :: st)) rfl rfl (hb S.2.2.2.1 hd)
  exact ⟨h', Wq, S, T', _, X', e', Fr.snoc X' N g0, fun t z => k t (q t z)⟩
/-! making -/
theorem Go.newO {idx n : Nat} {C : String} {a0 : Array Value} (r : Go w l R Z n0 y code ml ret pc Ls st h cells slots) (pc' : Nat) (hd : decode code pc = .ok (.new idx, 3)) (hp : pc + 3 = pc') (w1 : (Cond.classLink y.cls idx C).before a0 Z = true) (w2 : (Cond.instantiable C n).before a0 Z = true) (w3 : (Cond.initialized C).before a0 Z = true) (hc : cells + 1 ≤ R.cells) (hs : slots + n ≤ R.slots) :
    ∃ h' a, a = h.size ∧ Ext h h' ∧ Exa Z h' a C ∧ (∀ {O nm d : String} {ty : FieldType}, Laid Z a0 C O nm d → parseFieldDescriptor d = some ty → Fld Z h' a O nm d (defaultValue ty)) ∧ Go w l R Z n0 y code ml ret pc' Ls (.ref a :: st) h' (cells + 1) (slots + n) := by
  subst hp
  obtain ⟨S, T, locs, X, e, N, k⟩ := r
  obtain ⟨T', h', X', e', E, A, D, -, q⟩ := Jvm.RoadKit.newO X S.1 S.2.1 S.2.2.1 w1 w2 w3 e (g := mkF w.m pc Ls.toArray st) rfl (hb S.2.2.2.1 hd) hc hs
  exact ⟨h', h.size, rfl, E, A, D, S, T', locs, X', e', N, fun t z => k t (q t z)⟩
/-- an array with all its components -/
def Ary (Z : State) (h : Heap) (a : Addr) (ty : FieldType) (vs : List Value) : Prop := ∃ k d, Arv Z h a k ty (Int32.ofNat vs.length) vs d ∧ vs.length < 2 ^ 31
theorem len_nat {n : Nat} (h : n < 2 ^ 31) : (Int32.ofNat n).toNatClampNeg = n := by
  have := Int32.toInt_ofNat_small h
  simp only [Int32.toNatClampNeg]; omega
theorem len_nn {n : Nat} (h : n < 2 ^ 31) : ¬ Int32.ofNat n < 0 := by
  rw [Int32.lt_iff_toInt_lt, Int32.toInt_ofNat_small h]; have : (0 : Int32).toInt = 0 := rfl; omega
theorem nn_back {n : Int32} (h : ¬ n < 0) : Int32.ofNat n.toNatClampNeg = n := by
  have h1 := (back32 h).1
  simpa using h1
variable {a b : Addr} {ty : FieldType} {vs : List Value} {h' : Heap}
theorem Ary.lt (A : Ary Z h a ty vs) : a < h.size := by obtain ⟨k, d, V, -⟩ := A; exact V.lt
theorem Ary.ext (A : Ary Z h a ty vs) (E : Ext h h') : Ary Z h' a ty vs := by obtain ⟨k, d, V, q⟩ := A; exact ⟨k, d, V.ext E, q⟩
theorem Ary.other {v : Value} {sl : Nat} (A : Ary Z h b ty vs) (Wq : Wr h h' a sl v) (q : b ≠ a) : Ary Z h' b ty vs := by obtain ⟨k, d, V, z⟩ := A; exact ⟨k, d, V.other Wq q, z⟩
theorem Ary.keep {ws : List Addr} (A : Ary Z h a ty vs) (K : Keep h h' ws) (q : a ∉ ws) : Ary Z h' a ty vs := by obtain ⟨k, d, V, z⟩ := A; exact ⟨k, d, V.keep K q, z⟩
theorem Ary.len (A : Ary Z h a ty vs) : vs.length < 2 ^ 31 := by obtain ⟨k, d, V, z⟩ := A; exact z
theorem Ary.unf (A : Ary Z h a ty vs) : ∃ c : Cell, Arr Z h a c ty ∧ c.slots.size = vs.length ∧ (∀ i : Nat, i < vs.length → c.slots[i]? = vs[i]?) ∧ c.slots.size.toInt32 = Int32.ofNat vs.length := by
  obtain ⟨k, d, ⟨c, A1, A2, A3, A4, A5, A6⟩, z⟩ := A
  have e := len_nat z
  rw [e] at A3
  refine ⟨c, A1, A3, fun i hi => ?_, by rw [A3]⟩
  rw [A5 i (by omega), List.getD_eq_getElem?_getD, List.getElem?_eq_getElem hi]; rfl
theorem Ary.set {v : Value} {j : Int32} (A : Ary Z h a ty vs) (Wq : Wr h h' a j.toNatClampNeg v) (hf : fits ty v = true) (hj : j.toNatClampNeg < vs.length) : Ary Z h' a ty (vs.set j.toNatClampNeg v) := by
  obtain ⟨k, d, ⟨c, A1, A2, A3, A4, A5, A6⟩, z⟩ := A
  refine ⟨k, d, ?_, by simpa using z⟩
  have := Arv.set A1 A2 A3 A4 A5 A6 hf Wq _ rfl hj
  simpa using this
theorem Go.newA {aty : ArrayType} {n : Int32} {vs : List Value} {a0 : Array Value} (r : Go w l R Z n0 y code ml ret pc Ls (.int n :: st) h cells slots) (pc' : Nat) (hd : decode code pc = .ok (.newarray aty, 2)) (hp : pc + 2 = pc') (w1 : (Cond.arrayClass (newarray.typeOf aty)).before a0 Z = true) (hn : ¬ n < 0) (hv : List.replicate n.toNatClampNeg (defaultValue (newarray.typeOf aty)) = vs) (cap : Nat) (hcap : n.toNatClampNeg ≤ cap) (hb8 : cap * 8 ≤ 536870912) (hc : cells + 1 ≤ R.cells) (hs : slots + cap ≤ R.slots) :
    ∃ h' a, a = h.size ∧ Ext h h' ∧ Ary Z h' a (newarray.typeOf aty) vs ∧ Go w l R Z n0 y code ml ret pc' Ls (.ref a :: st) h' (cells + 1) (slots + cap) := by
  subst hp
  obtain ⟨S, T, locs, X, e, N, k⟩ := r
  obtain ⟨T', h', kA, X', e', E, A, q⟩ := Jvm.RoadKit.newP X S.1 S.2.1 w1 e (g := mkF w.m pc Ls.toArray (.int n :: st)) rfl (hb S.2.2.2.1 hd) rfl hn hcap hb8 hc hs
  refine ⟨h', h.size, rfl, E, ?_, S, T', locs, X', e', N, fun t z => k t (q t z)⟩
  have hl : vs.length = n.toNatClampNeg := by rw [← hv]; simp
  refine ⟨kA, defaultValue (newarray.typeOf aty), ?_, by rw [hl]; exact (back32 hn).2⟩
  rw [hl, nn_back hn, ← hv]
  exact (Arv.new A hn).pad (by simpa using pad_rep [] (defaultValue (newarray.typeOf aty)) n.toNatClampNeg)
/-! arrays -/
theorem inb {j : Int32} {n : Nat} (h0 : ¬ j < 0) (hj : j.toNatClampNeg < n) : ¬ (j < 0 ∨ n ≤ j.toNatClampNeg) := fun q => q.elim h0 (Nat.not_le.mpr hj)
theorem Go.alen (r : Go w l R Z n0 y code ml ret pc Ls (.ref a :: st) h cells slots) (pc' : Nat) (hd : decode code pc = .ok (.arraylength, 1)) (hp : pc + 1 = pc') (A : Ary Z h a ty vs) (n : Int32) (hn : Int32.ofNat vs.length = n) : Go w l R Z n0 y code ml ret pc' Ls (.int n :: st) h cells slots := by
  subst hp hn
  obtain ⟨S, T, locs, X, e, N, k⟩ := r
  obtain ⟨c, A1, A2, A3, A4⟩ := A.unf
  exact ⟨S, T, locs, X, e, N, fun t q => k t (X.arraylength S.1 (by rw [e]; exact A1.1) (State.isArrayOf_alike S.2.1.alike A1.2.1) (g := mkF w.m pc Ls.toArray (.ref a :: st)) rfl rfl (hb S.2.2.2.1 hd) t (by rw [A4]; exact q))⟩
theorem Go.iald {j : Int32} {v : Value} (r : Go w l R Z n0 y code ml ret pc Ls (.int j :: .ref a :: st) h cells slots) (pc' : Nat) (hd : decode code pc = .ok (.iaload, 1)) (hp : pc + 1 = pc') (A : Ary Z h a .int vs) (h0 : ¬ j < 0) (hv : vs[j.toNatClampNeg]? = some v) : Go w l R Z n0 y code ml ret pc' Ls (v :: st) h cells slots := by
  subst hp
  obtain ⟨S, T, locs, X, e, N, k⟩ := r
  obtain ⟨c, A1, A2, A3, A4⟩ := A.unf
  have hj := (List.getElem?_eq_some_iff.mp hv).1
  exact ⟨S, T, locs, X, e, N, fun t q => k t (X.iaload S.1 (by rw [e]; exact A1.1) (State.isArrayOf_alike S.2.1.alike A1.2.1) A1.2.2 (by rw [A2]; exact inb h0 hj) ((A3 _ hj).trans hv) (g := mkF w.m pc Ls.toArray (.int j :: .ref a :: st)) rfl rfl (hb S.2.2.2.1 hd) t q)⟩
theorem Go.lald {j : Int32} {v : Value} (r : Go w l R Z n0 y code ml ret pc Ls (.int j :: .ref a :: st) h cells slots) (pc' : Nat) (hd : decode code pc = .ok (.laload, 1)) (hp : pc + 1 = pc') (A : Ary Z h a .long vs) (h0 : ¬ j < 0) (hv : vs[j.toNatClampNeg]? = some v) : Go w l R Z n0 y code ml ret pc' Ls (v :: st) h cells slots := by
  subst hp
  obtain ⟨S, T, locs, X, e, N, k⟩ := r
  obtain ⟨c, A1, A2, A3, A4⟩ := A.unf
  have hj := (List.getElem?_eq_some_iff.mp hv).1
  exact ⟨S, T, locs, X, e, N, fun t q => k t (X.laload S.1 (by rw [e]; exact A1.1) (State.isArrayOf_alike S.2.1.alike A1.2.1) A1.2.2 (by rw [A2]; exact inb h0 hj) ((A3 _ hj).trans hv) (g := mkF w.m pc Ls.toArray (.int j :: .ref a :: st)) rfl rfl (hb S.2.2.2.1 hd) t q)⟩
theorem Go.bald {j : Int32} {v : Value} (r : Go w l R Z n0 y code ml ret pc Ls (.int j :: .ref a :: st) h cells slots) (pc' : Nat) (hd : decode code pc = .ok (.baload, 1)) (hp : pc + 1 = pc') (A : Ary Z h a .byte vs) (h0 : ¬ j < 0) (hv : vs[j.toNatClampNeg]? = some v) : Go w l R Z n0 y code ml ret pc' Ls (v :: st) h cells slots := by
  subst hp
  obtain ⟨S, T, locs, X, e, N, k⟩ := r
  obtain ⟨c, A1, A2, A3, A4⟩ := A.unf
  have hj := (List.getElem?_eq_some_iff.mp hv).1
  exact ⟨S, T, locs, X, e, N, fun t q => k t (X.baloadBytes S.1 (by rw [e]; exact A1.1) (State.isArrayOf_alike S.2.1.alike A1.2.1) A1.2.2 (by rw [A2]; exact inb h0 hj) ((A3 _ hj).trans hv) (g := mkF w.m pc Ls.toArray (.int j :: .ref a :: st)) rfl rfl (hb S.2.2.2.1 hd) t q)⟩
theorem Go.zald {j : Int32} {v : Value} (r : Go w l R Z n0 y code ml ret pc Ls (.int j :: .ref a :: st) h cells slots) (pc' : Nat) (hd : decode code pc = .ok (.baload, 1)) (hp : pc + 1 = pc') (A : Ary Z h a .boolean vs) (h0 : ¬ j < 0) (hv : vs[j.toNatClampNeg]? = some v) : Go w l R Z n0 y code ml ret pc' Ls (v :: st) h cells slots := by
  subst hp
  obtain ⟨S, T, locs, X, e, N, k⟩ := r
  obtain ⟨c, A1, A2, A3, A4⟩ := A.unf
  have hj := (List.getElem?_eq_some_iff.mp hv).1
  exact ⟨S, T, locs, X, e, N, fun t q => k t (X.baloadBooleans S.1 (by rw [e]; exact A1.1) (State.isArrayOf_alike S.2.1.alike A1.2.1) A1.2.2 (by rw [A2]; exact inb h0 hj) ((A3 _ hj).trans hv) (g := mkF w.m pc Ls.toArray (.int j :: .ref a :: st)) rfl rfl (hb S.2.2.2.1 hd) t q)⟩
theorem Go.iast {j x : Int32} (r : Go w l R Z n0 y code ml ret pc Ls (.int x :: .int j :: .ref a :: st) h cells slots) (pc' : Nat) (hd : decode code pc = .ok (.iastore, 1)) (hp : pc + 1 = pc') (A : Ary Z h a .int vs) (h0 : ¬ j < 0) (hj : j.toNatClampNeg < vs.length) (g0 : n0 ≤ a) :
    ∃ h', Wr h h' a j.toNatClampNeg (.int x) ∧ Ary Z h' a .int (vs.set j.toNatClampNeg (.int x)) ∧ Go w l R Z n0 y code ml ret pc' Ls st h' cells slots := by
  subst hp
  obtain ⟨S, T, locs, X, e, N, k⟩ := r
  obtain ⟨c, A1, A2, A3, A4⟩ := A.unf
  obtain ⟨T', h', X', e', Wq, q⟩ := stI X S.1 S.2.1 e A1 (j := j) (by rw [A2]; exact inb h0 hj) (g := mkF w.m pc Ls.toArray (.int x :: .int j :: .ref a :: st)) rfl rfl (hb S.2.2.2.1 hd)
  exact ⟨h', Wq, A.set Wq rfl hj, S, T', _, X', e', Fr.snoc X' N g0, fun t z => k t (q t z)⟩
theorem Go.last {j : Int32} {x : Int64} (r : Go w l R Z n0 y code ml ret pc Ls (.long x :: .int j :: .ref a :: st) h cells slots) (pc' : Nat) (hd : decode code pc = .ok (.lastore, 1)) (hp : pc + 1 = pc') (A : Ary Z h a .long vs) (h0 : ¬ j < 0) (hj : j.toNatClampNeg < vs.length) (g0 : n0 ≤ a) :
    ∃ h', Wr h h' a j.toNatClampNeg (.long x) ∧ Ary Z h' a .long (vs.set j.toNatClampNeg (.long x)) ∧ Go w l R Z n0 y code ml ret pc' Ls st h' cells slots := by
  subst hp
  obtain ⟨S, T, locs, X, e, N, k⟩ := r
  obtain ⟨c, A1, A2, A3, A4⟩ := A.unf
  obtain ⟨T', h', X', e', Wq, q⟩ := stJ X S.1 S.2.1 e A1 (j := j) (by rw [A2]; exact inb h0 hj) (g := mkF w.m pc Ls.toArray (.long x :: .int j :: .ref a :: st)) rfl rfl (hb S.2.2.2.1 hd)
  exact ⟨h', Wq, A.set Wq rfl hj, S, T', _, X', e', Fr.snoc X' N g0, fun t z => k t (q t z)⟩
theorem Go.bast {j x : Int32} (r : Go w l R Z n0 y code ml ret pc Ls (.int x :: .int j :: .ref a :: st) h cells slots) (pc' : Nat) (hd : decode code pc = .ok (.bastore, 1)) (hp : pc + 1 = pc') (A : Ary Z h a .byte vs) (h0 : ¬ j < 0) (hj : j.toNatClampNeg < vs.length) (g0 : n0 ≤ a) :
    ∃ h', Wr h h' a j.toNatClampNeg (.int x.toInt8.toInt32) ∧ Ary Z h' a .byte (vs.set j.toNatClampNeg (.int x.toInt8.toInt32)) ∧ Go w l R Z n0 y code ml ret pc' Ls st h' cells slots := by
  subst hp
  obtain ⟨S, T, locs, X, e, N, k⟩ := r
  obtain ⟨c, A1, A2, A3, A4⟩ := A.unf
  obtain ⟨T', h', X', e', Wq, q⟩ := stB X S.1 S.2.1 e A1 (j := j) (by rw [A2]; exact inb h0 hj) (g := mkF w.m pc Ls.toArray (.int x :: .int j :: .ref a :: st)) rfl rfl (hb S.2.2.2.1 hd)
  exact ⟨h', Wq, A.set Wq (fits_nar_byte _) hj, S, T', _, X', e', Fr.snoc X' N g0, fun t z => k t (q t z)⟩
theorem Go.zast {j x : Int32} (r : Go w l R Z n0 y code ml ret pc Ls (.int x :: .int j :: .ref a :: st) h cells slots) (pc' : Nat) (hd : decode code pc = .ok (.bastore, 1)) (hp : pc + 1 = pc') (A : Ary Z h a .boolean vs) (h0 : ¬ j < 0) (hj : j.toNatClampNeg < vs.length) (g0 : n0 ≤ a) :
    ∃ h', Wr h h' a j.toNatClampNeg (.int (x &&& 1)) ∧ Ary Z h' a .boolean (vs.set j.toNatClampNeg (.int (x &&& 1))) ∧ Go w l R Z n0 y code ml ret pc' Ls st h' cells slots := by
  subst hp
  obtain ⟨S, T, locs, X, e, N, k⟩ := r
  obtain ⟨c, A1, A2, A3, A4⟩ := A.unf
  obtain ⟨T', h', X', e', Wq, q⟩ := stZ X S.1 S.2.1 e A1 (j := j) (by rw [A2]; exact inb h0 hj) (g := mkF w.m pc Ls.toArray (.int x :: .int j :: .ref a :: st)) rfl rfl (hb S.2.2.2.1 hd)
  exact ⟨h', Wq, A.set Wq (fits_nar_bool _) hj, S, T', _, X', e', Fr.snoc X' N g0, fun t z => k t (q t z)⟩
/-! calls -/
def wt (st : List Value) : Nat := (st.map fun v => v.category).sum
variable {y' : MethodName} {code' : ByteArray} {ml' : Nat} {ret' : Option FieldType} {rm : Room} {as rest : List Value} {Q : Option Value → Heap → Prop} {ps : List FieldType} {rt : Option FieldType} {a0 : Array Value} {idx : Nat}
theorem Go.callS (r : Go w l R Z n0 y code ml ret pc Ls st h cells slots) (pc' : Nat) (hd : decode code pc = .ok (.invokestatic idx, 3)) (hp : pc + 3 = pc') (M : Met l Z y' code' ml' ret' rm as h n0 Q) (w1 : (Cond.methodLink y.cls idx y').before a0 Z = true) (w2 : (Cond.static y').before a0 Z = true) (w3 : (Cond.initialized y'.cls).before a0 Z = true) (w4 : (Cond.code y' code' ml' ret').before a0 Z = true)
    (hpd : parseMethodDescriptor y'.desc = some ⟨ps, rt⟩) (hlen : as.length = ps.length) (hst : st = as.reverse ++ rest) (hLs : Ls.length = ml) (hy : y'.cls ≠ "java/lang/invoke/MethodHandle" ∧ y'.cls ≠ "java/lang/invoke/VarHandle") (hf : rm.frames + 1 ≤ R.frames) (hl : wt rest + (ml' + 11) + rm.locals ≤ R.locals) (hc : cells + rm.cells ≤ R.cells) (hs : slots + rm.slots ≤ R.slots) :
    ∃ v h', Q v h' ∧ Go w l R Z n0 y code ml ret pc' Ls (v.toList ++ rest) h' (cells + rm.cells) (slots + rm.slots) := by
  subst hp hst
  obtain ⟨S, T, locs, X, e, N, k⟩ := r
  obtain ⟨v, _, ⟨T', L', k', n'⟩, -, X', ⟨Lc, hQ, l', y2, z2⟩, q⟩ := Jvm.LawKit.callS X S.1 (y := y') S.2.2.1 (mvT S.2.1 w1) (mvT S.2.1 w2) (mvT S.2.1 w3) (mvT S.2.1 w4) hy (backOf (W := wt rest) (Q := fun v h L => Q v h ∧ Fr n0 L) (M []) S.2.1 w4 w3 hf hl) (g := mkF w.m pc Ls.toArray (as.reverse ++ rest)) rfl (by rw [S.2.2.2.2.1]; simpa using hLs) (argsL := as) (rest := rest) (lenOf hpd hlen) rfl (by show 2 * 0 + _ ≤ _; simp [wt]) (hb S.2.2.2.1 hd) (fun _ _ => ⟨rfl, e, hc, hs⟩)
  dsimp only [Pt.U, Pt.locs, Pt.cells, Pt.slots] at X' l' y2 z2 q hQ
  subst l' y2 z2
  exact ⟨v, T'.heap, hQ.1, S, T', _, X', rfl, N.app hQ.2, fun t z => k t (q t z)⟩
theorem Go.callI (r : Go w l R Z n0 y code ml ret pc Ls st h cells slots) (pc' : Nat) (hd : decode code pc = .ok (.invokespecial idx, 3)) (hp : pc + 3 = pc') (M : Met l Z y' code' ml' none rm (.ref a :: as) h n0 Q) (hin : y'.name = "<init>") (w1 : (Cond.methodLink y.cls idx y').before a0 Z = true) (w2 : (Cond.instanceMethod y').before a0 Z = true) (w3 : (Cond.initialized y'.cls).before a0 Z = true) (w4 : (Cond.code y' code' ml' none).before a0 Z = true)
    (hpd : parseMethodDescriptor y'.desc = some ⟨ps, rt⟩) (hlen : as.length = ps.length) (hst : st = as.reverse ++ .ref a :: rest) (hLs : Ls.length = ml) (hy : y'.cls ≠ "java/lang/invoke/MethodHandle" ∧ y'.cls ≠ "java/lang/invoke/VarHandle") (hf : rm.frames + 1 ≤ R.frames) (hl : wt rest + (ml' + 11) + rm.locals ≤ R.locals) (hc : cells + rm.cells ≤ R.cells) (hs : slots + rm.slots ≤ R.slots) :
    ∃ v h', Q v h' ∧ Go w l R Z n0 y code ml ret pc' Ls (v.toList ++ rest) h' (cells + rm.cells) (slots + rm.slots) := by
  subst hp hst
  obtain ⟨S, T, locs, X, e, N, k⟩ := r
  obtain ⟨v, _, ⟨T', L', k', n'⟩, -, X', ⟨Lc, hQ, l', y2, z2⟩, q⟩ := X.specialBack S.1 (y := y') hin S.2.2.1 (mvT S.2.1 w1) (mvT S.2.1 w2) (mvT S.2.1 w4) hy (backOf (W := wt rest) (Q := fun v h L => Q v h ∧ Fr n0 L) (M []) S.2.1 w4 w3 hf hl) (g := mkF w.m pc Ls.toArray (as.reverse ++ .ref a :: rest)) rfl (by rw [S.2.2.2.2.1]; simpa using hLs) (Steps.refl _) (a := a) (argsL := as) (rest := rest) (lenOf hpd hlen) rfl (by show 2 * 0 + _ ≤ _; simp [wt]) (hb S.2.2.2.1 hd) (fun _ _ => ⟨rfl, e, hc, hs⟩)
  dsimp only [Pt.U, Pt.locs, Pt.cells, Pt.slots] at X' l' y2 z2 q hQ
  subst l' y2 z2
  exact ⟨v, T'.heap, hQ.1, S, T', _, X', rfl, N.app hQ.2, fun t z => k t (q.trans z)⟩
theorem Go.callV (r : Go w l R Z n0 y code ml ret pc Ls st h cells slots) (pc' : Nat) (hd : decode code pc = .ok (.invokevirtual idx, 3)) (hp : pc + 3 = pc') (M : Met l Z y' code' ml' ret' rm (.ref a :: as) h n0 Q) (E : Exa Z h a y'.cls) (w1 : (Cond.methodLink y.cls idx y').before a0 Z = true) (wd : (Cond.declares y').before a0 Z = true) (w2 : (Cond.instanceMethod y').before a0 Z = true) (ws : (Cond.selects y'.cls y' y').before a0 Z = true) (w3 : (Cond.initialized y'.cls).before a0 Z = true) (w4 : (Cond.code y' code' ml' ret').before a0 Z = true)
    (hpd : parseMethodDescriptor y'.desc = some ⟨ps, rt⟩) (hlen : as.length = ps.length) (hst : st = as.reverse ++ .ref a :: rest) (hLs : Ls.length = ml) (hy : y'.cls ≠ "java/lang/invoke/MethodHandle" ∧ y'.cls ≠ "java/lang/invoke/VarHandle") (hf : rm.frames + 1 ≤ R.frames) (hl : wt rest + (ml' + 11) + rm.locals ≤ R.locals) (hc : cells + rm.cells ≤ R.cells) (hs : slots + rm.slots ≤ R.slots) :
    ∃ v h', Q v h' ∧ Go w l R Z n0 y code ml ret pc' Ls (v.toList ++ rest) h' (cells + rm.cells) (slots + rm.slots) := by
  subst hp hst
  obtain ⟨S, T, locs, X, e, N, k⟩ := r
  obtain ⟨cq, kq, qa, qb, qc⟩ := isOf S.2.1 e E
  obtain ⟨v, _, ⟨T', L', k', n'⟩, -, X', ⟨Lc, hQ, l', y2, z2⟩, q⟩ := X.virtualBack S.1 (y := y') (z := y') S.2.2.1 (mvT S.2.1 w1) (mvT S.2.1 wd) (notFace_of_selects (args := #[]) (mvT S.2.1 ws)) (mvT S.2.1 ws) (mvT S.2.1 w2) hy (backOf (W := wt rest) (Q := fun v h L => Q v h ∧ Fr n0 L) (M []) S.2.1 w4 w3 hf hl) qa qc (g := mkF w.m pc Ls.toArray (as.reverse ++ .ref a :: rest)) rfl (by rw [S.2.2.2.2.1]; simpa using hLs) (Steps.refl _) (argsL := as) (rest := rest) (lenOf hpd hlen) rfl (by show 2 * 0 + _ ≤ _; simp [wt]) (hb S.2.2.2.1 hd) (fun _ _ => ⟨rfl, e, hc, hs⟩)
  dsimp only [Pt.U, Pt.locs, Pt.cells, Pt.slots] at X' l' y2 z2 q hQ
  subst l' y2 z2
  exact ⟨v, T'.heap, hQ.1, S, T', _, X', rfl, N.app hQ.2, fun t z => k t (q.trans z)⟩
theorem Go.callP {kk : Nat} (r : Go w l R Z n0 y code ml ret pc Ls st h cells slots) (pc' : Nat) (hd : decode code pc = .ok (.invokevirtual idx, 3)) (hp : pc + 3 = pc') (M : Met l Z y' code' ml' ret' rm (.ref a :: as) h n0 Q) (E : Exa Z h a y'.cls) (w1 : (Cond.methodLink y.cls idx y').before a0 Z = true) (w2 : (Cond.instanceMethod y').before a0 Z = true) (wp : (Cond.privateMethod y').before a0 Z = true) (w3 : (Cond.initialized y'.cls).before a0 Z = true) (wi : (Cond.instantiable y'.cls kk).before a0 Z = true) (w4 : (Cond.code y' code' ml' ret').before a0 Z = true)
    (hpd : parseMethodDescriptor y'.desc = some ⟨ps, rt⟩) (hlen : as.length = ps.length) (hst : st = as.reverse ++ .ref a :: rest) (hLs : Ls.length = ml) (hy : y'.cls ≠ "java/lang/invoke/MethodHandle" ∧ y'.cls ≠ "java/lang/invoke/VarHandle") (hf : rm.frames + 1 ≤ R.frames) (hl : wt rest + (ml' + 11) + rm.locals ≤ R.locals) (hc : cells + rm.cells ≤ R.cells) (hs : slots + rm.slots ≤ R.slots) :
    ∃ v h', Q v h' ∧ Go w l R Z n0 y code ml ret pc' Ls (v.toList ++ rest) h' (cells + rm.cells) (slots + rm.slots) := by
  subst hp hst
  obtain ⟨S, T, locs, X, e, N, k⟩ := r
  obtain ⟨cq, q1, q2⟩ := E.cell
  obtain ⟨c1, k1, b1, b2, -, b3, -, -⟩ := Cond.instantiable_spec (show (Cond.instantiable y'.cls kk).before w.args w.s = true from mvT S.2.1 wi)
  have hsel : (Cond.selects y'.cls y' y').before w.args w.s = true := selects_self_of_private b1 b2 (Bool.or_eq_false_iff.mp b3).1 (Cond.privateMethod_at (mvP S.2.1 wp (args := w.args))) (mvT S.2.1 w2) hy
  obtain ⟨v, _, ⟨T', L', k', n'⟩, -, X', ⟨Lc, hQ, l', y2, z2⟩, q⟩ := X.privateBack S.1 (y := y') S.2.2.1 (mvT S.2.1 w1) (mvT S.2.1 w2) hsel (Cond.privateMethod_at (mvP S.2.1 wp (args := w.args))) (mvT S.2.1 w4) hy (backOf (W := wt rest) (Q := fun v h L => Q v h ∧ Fr n0 L) (M []) S.2.1 w4 w3 hf hl) (g := mkF w.m pc Ls.toArray (as.reverse ++ .ref a :: rest)) rfl (by rw [S.2.2.2.2.1]; simpa using hLs) (Steps.refl _) (a := a) (by rw [e]; exact q1) q2 (argsL := as) (rest := rest) (lenOf hpd hlen) rfl (by show 2 * 0 + _ ≤ _; simp [wt]) (hb S.2.2.2.1 hd) (fun _ _ => ⟨rfl, e, hc, hs⟩)
  dsimp only [Pt.U, Pt.locs, Pt.cells, Pt.slots] at X' l' y2 z2 q hQ
  subst l' y2 z2
  exact ⟨v, T'.heap, hQ.1, S, T', _, X', rfl, N.app hQ.2, fun t z => k t (q.trans z)⟩
/-- System.arraycopy between two arrays of one primitive kind, from the first place of both -/
theorem Go.acopy {nn : Int32} {vd : List Value} (r : Go w l R Z n0 y code ml ret pc Ls (.int nn :: .int 0 :: .ref b :: .int 0 :: .ref a :: st) h cells slots) (pc' : Nat) (hd : decode code pc = .ok (.invokestatic idx, 3)) (hp : pc + 3 = pc') (w1 : (Cond.methodLink y.cls idx Jvm.Stand.acN).before a0 Z = true) (w2 : (Cond.native Jvm.Stand.acN).before a0 Z = true) (w3 : (Cond.static Jvm.Stand.acN).before a0 Z = true) (w4 : (Cond.initialized "java/lang/System").before a0 Z = true)
    (A : Ary Z h a ty vs) (B : Ary Z h b ty vd) (hty : refKind ty = false) (hn : ¬ nn < 0) (h4 : nn.toNatClampNeg ≤ vs.length) (h5 : nn.toNatClampNeg ≤ vd.length) (g0 : n0 ≤ b) (hLs : Ls.length = ml) (hf : 1 ≤ R.frames) (hl : wt st + (nativeFrameWords "java/lang/System" "arraycopy" 5 + 11) ≤ R.locals) :
    ∃ h', Keep h h' [b] ∧ Ary Z h' b ty (vs.take nn.toNatClampNeg ++ vd.drop nn.toNatClampNeg) ∧ Go w l R Z n0 y code ml ret pc' Ls st h' cells slots := by
  subst hp
  obtain ⟨S, T, locs, X, e, N, k⟩ := r
  obtain ⟨ka, da, Va, za⟩ := A
  obtain ⟨kb, db, Vb, zb⟩ := B
  have z0 : (0 : Int32).toNatClampNeg = 0 := rfl
  obtain ⟨T', h', L, X', e', N', K, V, q⟩ := cpA X S.1 S.2.1 S.2.2.1 w1 w2 w3 w4 e (us := vs.take nn.toNatClampNeg) Va Vb (Or.inl ⟨rfl, hty⟩) (sp := 0) (dp := 0) (nn := nn) (by decide) (by decide) hn (by rw [len_nat za, z0]; omega) (by rw [len_nat zb, z0]; omega)
    (by
      rw [z0]
      apply List.ext_getElem?
      intro i
      by_cases hi : i < nn.toNatClampNeg
      · rw [List.getElem?_take_of_lt hi, List.getElem?_map, List.getElem?_range hi]
        simp only [Option.map_some, Nat.zero_add, List.getD_eq_getElem?_getD]
        rw [List.getElem?_eq_getElem (by omega)]; rfl
      · rw [List.getElem?_eq_none (by simp; omega), List.getElem?_eq_none (by simp; omega)])
    (by rw [z0]; omega) N g0 (g := mkF w.m pc Ls.toArray (.int nn :: .int 0 :: .ref b :: .int 0 :: .ref a :: st)) rfl (by rw [S.2.2.2.2.1]; simpa using hLs) rfl (hb S.2.2.2.1 hd) hf (W := wt st) (by show 2 * 0 + _ ≤ _; simp [wt]) hl
  refine ⟨h', K, ⟨kb, db, ?_, ?_⟩, S, T', L, X', e', N', fun t z => k t (q t z)⟩
  · have hlen : (vs.take nn.toNatClampNeg ++ vd.drop nn.toNatClampNeg).length = vd.length := by simp; omega
    rw [hlen]
    rw [z0] at V
    simpa using V
  · have hlen : (vs.take nn.toNatClampNeg ++ vd.drop nn.toNatClampNeg).length = vd.length := by simp; omega
    rw [hlen]; exact zb
/-! returning -/
theorem Go.retV (r : Go w l R Z n0 y code ml none pc Ls [] h cells slots) (hd : decode code pc = .ok (.return_, 1)) {Q : Heap → Prop} (q : Q h) {C S : Nat} (hc : cells ≤ C) (hs : slots ≤ S) : Fini w n0 (Ret0 Q) C S := by
  obtain ⟨S, T, locs, X, e, N, k⟩ := r
  obtain ⟨fs, hr, hrun, hended, hW, hsame⟩ := X.leave (v := none) (fun _ => rfl) S.2.2.2.2.2.2.1
  exact ⟨_, _, k _ (X.returnOut S.1 S.2.2.2.2.2.1 (hb S.2.2.2.1 hd) hr), hrun, hended, _, _, rfl, ⟨⟨rfl, by show Q T.heap; rw [e]; exact q⟩, N⟩, ⟨_, rfl⟩, hW, hsame.mono hc hs⟩
theorem Go.retI {z : Int32} (r : Go w l R Z n0 y code ml (some .int) pc Ls (.int z :: st) h cells slots) (hd : decode code pc = .ok (.ireturn, 1)) {Q : Value → Heap → Prop} (q : Q (.int z) h) {C S : Nat} (hc : cells ≤ C) (hs : slots ≤ S) : Fini w n0 (Ret Q) C S := by
  obtain ⟨S, T, locs, X, e, N, k⟩ := r
  obtain ⟨fs, hr, hrun, hended, hW, hsame⟩ := X.leave (v := some (.int z)) (fun h => by rw [S.2.2.2.2.2.1] at h; cases h) S.2.2.2.2.2.2.1
  exact ⟨_, _, k _ (retOut X S.1 S.2.2.2.2.2.1 rfl (Or.inl ⟨rfl, Or.inl rfl, z, rfl⟩) (hb S.2.2.2.1 hd) hr), hrun, hended, _, _, rfl, ⟨⟨_, rfl, by show Q _ T.heap; rw [e]; exact q⟩, N⟩, ⟨_, rfl⟩, hW, hsame.mono hc hs⟩
theorem Go.retN {t : FieldType} {z z' : Int32} (r : Go w l R Z n0 y code ml (some t) pc Ls (.int z :: st) h cells slots) (hd : decode code pc = .ok (.ireturn, 1)) (ht : t = .boolean ∨ t = .byte ∨ t = .char ∨ t = .short) (hz : nar t z = z') {Q : Value → Heap → Prop} (q : Q (.int z') h) {C S : Nat} (hc : cells ≤ C) (hs : slots ≤ S) : Fini w n0 (Ret Q) C S := by
  subst hz
  obtain ⟨S, T, locs, X, e, N, k⟩ := r
  obtain ⟨fs, hr, hrun, hended, hW, hsame⟩ := X.leave (v := some (.int (nar t z))) (fun h => by rw [S.2.2.2.2.2.1] at h; cases h) S.2.2.2.2.2.2.1
  exact ⟨_, _, k _ (Jvm.RoadKit.retN X S.1 S.2.2.2.2.2.1 ht (hb S.2.2.2.1 hd) hr), hrun, hended, _, _, rfl, ⟨⟨_, rfl, by show Q _ T.heap; rw [e]; exact q⟩, N⟩, ⟨_, rfl⟩, hW, hsame.mono hc hs⟩
theorem Go.retL {z : Int64} (r : Go w l R Z n0 y code ml (some .long) pc Ls (.long z :: st) h cells slots) (hd : decode code pc = .ok (.lreturn, 1)) {Q : Value → Heap → Prop} (q : Q (.long z) h) {C S : Nat} (hc : cells ≤ C) (hs : slots ≤ S) : Fini w n0 (Ret Q) C S := by
  obtain ⟨S, T, locs, X, e, N, k⟩ := r
  obtain ⟨fs, hr, hrun, hended, hW, hsame⟩ := X.leave (v := some (.long z)) (fun h => by rw [S.2.2.2.2.2.1] at h; cases h) S.2.2.2.2.2.2.1
  exact ⟨_, _, k _ (retOut X S.1 S.2.2.2.2.2.1 rfl (Or.inr (Or.inl ⟨rfl, rfl, z, rfl⟩)) (hb S.2.2.2.1 hd) hr), hrun, hended, _, _, rfl, ⟨⟨_, rfl, by show Q _ T.heap; rw [e]; exact q⟩, N⟩, ⟨_, rfl⟩, hW, hsame.mono hc hs⟩
theorem Go.retA {t : FieldType} (r : Go w l R Z n0 y code ml (some t) pc Ls (.ref a :: st) h cells slots) (hd : decode code pc = .ok (.areturn, 1)) (ht : t.isReference = true) (hn : narrow t (.ref a) = .ref a) {Q : Value → Heap → Prop} (q : Q (.ref a) h) {C S : Nat} (hc : cells ≤ C) (hs : slots ≤ S) : Fini w n0 (Ret Q) C S := by
  obtain ⟨S, T, locs, X, e, N, k⟩ := r
  obtain ⟨fs, hr, hrun, hended, hW, hsame⟩ := X.leave (v := some (.ref a)) (fun h => by rw [S.2.2.2.2.2.1] at h; cases h) S.2.2.2.2.2.2.1
  exact ⟨_, _, k _ (retOut X S.1 S.2.2.2.2.2.1 hn (Or.inr (Or.inr (Or.inr (Or.inr ⟨rfl, ht, rfl⟩)))) (hb S.2.2.2.1 hd) hr), hrun, hended, _, _, rfl, ⟨⟨_, rfl, by show Q _ T.heap; rw [e]; exact q⟩, N⟩, ⟨_, rfl⟩, hW, hsame.mono hc hs⟩
/-! small numbers -/
theorem nlt {a b : Nat} (ha : a < 2 ^ 31) (hb : b < 2 ^ 31) : Int32.ofNat a < Int32.ofNat b ↔ a < b := by
  rw [Int32.lt_iff_toInt_lt, Int32.toInt_ofNat_small ha, Int32.toInt_ofNat_small hb]; omega
theorem nadd (a b : Nat) : Int32.ofNat a + Int32.ofNat b = Int32.ofNat (a + b) := (Int32.ofNat_add a b).symm
theorem nadd1 (a : Nat) : Int32.ofNat a + 1 = Int32.ofNat (a + 1) := nadd a 1
theorem nsub {a b : Nat} (h : b ≤ a) : Int32.ofNat a - Int32.ofNat b = Int32.ofNat (a - b) := (Int32.ofNat_sub a b h).symm
theorem neqn {a b : Nat} (ha : a < 2 ^ 31) (hb : b < 2 ^ 31) : Int32.ofNat a = Int32.ofNat b ↔ a = b := by
  rw [← Int32.toInt_inj, Int32.toInt_ofNat_small ha, Int32.toInt_ofNat_small hb]; omega
theorem get_long {os : List Int64} {j : Nat} (hj : j < os.length) : (os.map Value.long)[j]? = some (.long (os.getD j 0)) := by
  rw [List.getElem?_map, List.getD_eq_getElem?_getD, List.getElem?_eq_getElem hj]; rfl
theorem get_int {os : List Int32} {j : Nat} (hj : j < os.length) : (os.map Value.int)[j]? = some (.int (os.getD j 0)) := by
  rw [List.getElem?_map, List.getD_eq_getElem?_getD, List.getElem?_eq_getElem hj]; rfl
end Walk
end Jvm.OwnKit
namespace Jvm.Pilot.@@N@@
open Jvm Jvm.ClassFile Sem Op Lib Jvm.Free Jvm.Stand Jvm.LawKit Jvm.RoadKit Bundle Jvm.OwnKit Jvm.Pilot.@@N@@.Jvm.D
abbrev Ws (Z : State) (a0 : Array Value) : Prop := ∀ d ∈ tables_1, d.before a0 Z = true
theorem wd_0 {Z : State} {a0 : Array Value} (hw : Ws Z a0) : (Jvm.Cond.classLink "com/example/slott/slott/engine/time/DbmUpPinLaw" (7 : Nat) "com/example/slott/slott/engine/time/Dbm").before a0 Z = true := hw _ (List.mem_of_getElem? (i := 0) rfl)
theorem wd_1 {Z : State} {a0 : Array Value} (hw : Ws Z a0) : (Jvm.Cond.instantiable "com/example/slott/slott/engine/time/Dbm" (1 : Nat)).before a0 Z = true := hw _ (List.mem_of_getElem? (i := 1) rfl)
theorem wd_2 {Z : State} {a0 : Array Value} (hw : Ws Z a0) : (Jvm.Cond.initialized "com/example/slott/slott/engine/time/Dbm").before a0 Z = true := hw _ (List.mem_of_getElem? (i := 2) rfl)
theorem wd_3 {Z : State} {a0 : Array Value} (hw : Ws Z a0) : (Jvm.Cond.methodLink "com/example/slott/slott/engine/time/DbmUpPinLaw" (9 : Nat) ({ cls := "com/example/slott/slott/engine/time/Dbm", name := "<init>", desc := "(I)V" } : Jvm.MethodName)).before a0 Z = true := hw _ (List.mem_of_getElem? (i := 3) rfl)
theorem wd_4 {Z : State} {a0 : Array Value} (hw : Ws Z a0) : (Jvm.Cond.instanceMethod ({ cls := "com/example/slott/slott/engine/time/Dbm", name := "<init>", desc := "(I)V" } : Jvm.MethodName)).before a0 Z = true := hw _ (List.mem_of_getElem? (i := 4) rfl)
theorem wd_5 {Z : State} {a0 : Array Value} (hw : Ws Z a0) : (Jvm.Cond.code ({ cls := "com/example/slott/slott/engine/time/Dbm", name := "<init>", desc := "(I)V" } : Jvm.MethodName) prog_52_method_1_code (2 : Nat) (Option.none : Option Jvm.ClassFile.FieldType)).before a0 Z = true := hw _ (List.mem_of_getElem? (i := 5) rfl)
theorem wd_6 {Z : State} {a0 : Array Value} (hw : Ws Z a0) : (Jvm.Cond.methodLink "com/example/slott/slott/engine/time/Dbm" (3 : Nat) ({ cls := "java/lang/Object", name := "<init>", desc := "()V" } : Jvm.MethodName)).before a0 Z = true := hw _ (List.mem_of_getElem? (i := 6) rfl)
theorem wd_7 {Z : State} {a0 : Array Value} (hw : Ws Z a0) : (Jvm.Cond.instanceMethod ({ cls := "java/lang/Object", name := "<init>", desc := "()V" } : Jvm.MethodName)).before a0 Z = true := hw _ (List.mem_of_getElem? (i := 7) rfl)
theorem wd_8 {Z : State} {a0 : Array Value} (hw : Ws Z a0) : (Jvm.Cond.code ({ cls := "java/lang/Object", name := "<init>", desc := "()V" } : Jvm.MethodName) object_method_1_code (1 : Nat) (Option.none : Option Jvm.ClassFile.FieldType)).before a0 Z = true := hw _ (List.mem_of_getElem? (i := 8) rfl)
theorem wd_9 {Z : State} {a0 : Array Value} (hw : Ws Z a0) : (Jvm.Cond.fieldLink "com/example/slott/slott/engine/time/Dbm" (9 : Nat) "com/example/slott/slott/engine/time/Dbm" "dimension" "I").before a0 Z = true := hw _ (List.mem_of_getElem? (i := 9) rfl)
theorem wd_10 {Z : State} {a0 : Array Value} (hw : Ws Z a0) : (Jvm.Cond.laysFinal "com/example/slott/slott/engine/time/Dbm" "com/example/slott/slott/engine/time/Dbm" "dimension" "I").before a0 Z = true := hw _ (List.mem_of_getElem? (i := 10) rfl)
theorem wd_11 {Z : State} {a0 : Array Value} (hw : Ws Z a0) : (Jvm.Cond.arrayClass Jvm.ClassFile.FieldType.long).before a0 Z = true := hw _ (List.mem_of_getElem? (i := 11) rfl)
theorem wd_12 {Z : State} {a0 : Array Value} (hw : Ws Z a0) : (Jvm.Cond.methodLink "com/example/slott/slott/engine/time/DbmUpPinLaw" (12 : Nat) ({ cls := "com/example/slott/slott/engine/time/DbmUpPinLaw", name := "put", desc := "([J[JIJJ)V" } : Jvm.MethodName)).before a0 Z = true := hw _ (List.mem_of_getElem? (i := 12) rfl)
theorem wd_13 {Z : State} {a0 : Array Value} (hw : Ws Z a0) : (Jvm.Cond.static ({ cls := "com/example/slott/slott/engine/time/DbmUpPinLaw", name := "put", desc := "([J[JIJJ)V" } : Jvm.MethodName)).before a0 Z = true := hw _ (List.mem_of_getElem? (i := 13) rfl)
theorem wd_14 {Z : State} {a0 : Array Value} (hw : Ws Z a0) : (Jvm.Cond.initialized "com/example/slott/slott/engine/time/DbmUpPinLaw").before a0 Z = true := hw _ (List.mem_of_getElem? (i := 14) rfl)
theorem wd_15 {Z : State} {a0 : Array Value} (hw : Ws Z a0) : (Jvm.Cond.code ({ cls := "com/example/slott/slott/engine/time/DbmUpPinLaw", name := "put", desc := "([J[JIJJ)V" } : Jvm.MethodName) method_3_code (9 : Nat) (Option.none : Option Jvm.ClassFile.FieldType)).before a0 Z = true := hw _ (List.mem_of_getElem? (i := 15) rfl)
theorem wd_16 {Z : State} {a0 : Array Value} (hw : Ws Z a0) : (Jvm.Cond.methodLink "com/example/slott/slott/engine/time/DbmUpPinLaw" (18 : Nat) ({ cls := "com/example/slott/slott/engine/time/Dbm", name := "up", desc := "([J)V" } : Jvm.MethodName)).before a0 Z = true := hw _ (List.mem_of_getElem? (i := 16) rfl)
theorem wd_17 {Z : State} {a0 : Array Value} (hw : Ws Z a0) : (Jvm.Cond.declares ({ cls := "com/example/slott/slott/engine/time/Dbm", name := "up", desc := "([J)V" } : Jvm.MethodName)).before a0 Z = true := hw _ (List.mem_of_getElem? (i := 17) rfl)
theorem wd_18 {Z : State} {a0 : Array Value} (hw : Ws Z a0) : (Jvm.Cond.instanceMethod ({ cls := "com/example/slott/slott/engine/time/Dbm", name := "up", desc := "([J)V" } : Jvm.MethodName)).before a0 Z = true := hw _ (List.mem_of_getElem? (i := 18) rfl)
theorem wd_19 {Z : State} {a0 : Array Value} (hw : Ws Z a0) : (Jvm.Cond.selects "com/example/slott/slott/engine/time/Dbm" ({ cls := "com/example/slott/slott/engine/time/Dbm", name := "up", desc := "([J)V" } : Jvm.MethodName) ({ cls := "com/example/slott/slott/engine/time/Dbm", name := "up", desc := "([J)V" } : Jvm.MethodName)).before a0 Z = true := hw _ (List.mem_of_getElem? (i := 19) rfl)
theorem wd_20 {Z : State} {a0 : Array Value} (hw : Ws Z a0) : (Jvm.Cond.code ({ cls := "com/example/slott/slott/engine/time/Dbm", name := "up", desc := "([J)V" } : Jvm.MethodName) prog_52_method_11_code (3 : Nat) (Option.none : Option Jvm.ClassFile.FieldType)).before a0 Z = true := hw _ (List.mem_of_getElem? (i := 20) rfl)
theorem wd_21 {Z : State} {a0 : Array Value} (hw : Ws Z a0) : (Jvm.Cond.methodLink "com/example/slott/slott/engine/time/DbmUpPinLaw" (22 : Nat) ({ cls := "com/example/slott/slott/engine/time/DbmUpPinLaw", name := "check", desc := "([J[JII)Z" } : Jvm.MethodName)).before a0 Z = true := hw _ (List.mem_of_getElem? (i := 21) rfl)
theorem wd_22 {Z : State} {a0 : Array Value} (hw : Ws Z a0) : (Jvm.Cond.static ({ cls := "com/example/slott/slott/engine/time/DbmUpPinLaw", name := "check", desc := "([J[JII)Z" } : Jvm.MethodName)).before a0 Z = true := hw _ (List.mem_of_getElem? (i := 22) rfl)
theorem wd_23 {Z : State} {a0 : Array Value} (hw : Ws Z a0) : (Jvm.Cond.code ({ cls := "com/example/slott/slott/engine/time/DbmUpPinLaw", name := "check", desc := "([J[JII)Z" } : Jvm.MethodName) method_4_code (9 : Nat) (Option.some Jvm.ClassFile.FieldType.boolean)).before a0 Z = true := hw _ (List.mem_of_getElem? (i := 23) rfl)
theorem wd_24 {Z : State} {a0 : Array Value} (hw : Ws Z a0) : (Jvm.Cond.constantLong "com/example/slott/slott/engine/time/Dbm" (25 : Nat) (9223372036854775807 : Int64)).before a0 Z = true := hw _ (List.mem_of_getElem? (i := 24) rfl)
theorem wd_25 {Z : State} {a0 : Array Value} (hw : Ws Z a0) : (Jvm.Cond.constantLong "com/example/slott/slott/engine/time/DbmUpPinLaw" (28 : Nat) (9223372036854775807 : Int64)).before a0 Z = true := hw _ (List.mem_of_getElem? (i := 25) rfl)
abbrev Y0 : MethodName := x
abbrev Y1 : MethodName := ⟨"com/example/slott/slott/engine/time/Dbm", "<init>", "(I)V"⟩
theorem d1_0 : decode prog_52_method_1_code 0 = .ok (.aload_n 0, 1) := by decide +kernel
theorem d1_1 : decode prog_52_method_1_code 1 = .ok (.invokespecial 3, 3) := by decide +kernel
theorem d1_4 : decode prog_52_method_1_code 4 = .ok (.aload_n 0, 1) := by decide +kernel
theorem d1_5 : decode prog_52_method_1_code 5 = .ok (.iload_n 1, 1) := by decide +kernel
theorem d1_6 : decode prog_52_method_1_code 6 = .ok (.iconst 1, 1) := by decide +kernel
theorem d1_7 : decode prog_52_method_1_code 7 = .ok (.iadd, 1) := by decide +kernel
theorem d1_8 : decode prog_52_method_1_code 8 = .ok (.putfield 9, 3) := by decide +kernel
theorem d1_11 : decode prog_52_method_1_code 11 = .ok (.return_, 1) := by decide +kernel
theorem pd_1 : parseMethodDescriptor "(I)V" = some ⟨[.int], none⟩ := by decide +kernel
abbrev Y2 : MethodName := ⟨"java/lang/Object", "<init>", "()V"⟩
abbrev Y3 : MethodName := ⟨"com/example/slott/slott/engine/time/DbmUpPinLaw", "put", "([J[JIJJ)V"⟩
theorem d3_0 : decode method_3_code 0 = .ok (.lload_n 3, 1) := by decide +kernel
theorem d3_1 : decode method_3_code 1 = .ok (.iload_n 2, 1) := by decide +kernel
theorem d3_2 : decode method_3_code 2 = .ok (.i2l, 1) := by decide +kernel
theorem d3_3 : decode method_3_code 3 = .ok (.lload 5, 2) := by decide +kernel
theorem d3_5 : decode method_3_code 5 = .ok (.lmul, 1) := by decide +kernel
theorem d3_6 : decode method_3_code 6 = .ok (.ladd, 1) := by decide +kernel
theorem d3_7 : decode method_3_code 7 = .ok (.lstore 7, 2) := by decide +kernel
theorem d3_9 : decode method_3_code 9 = .ok (.aload_n 0, 1) := by decide +kernel
theorem d3_10 : decode method_3_code 10 = .ok (.iload_n 2, 1) := by decide +kernel
theorem d3_11 : decode method_3_code 11 = .ok (.lload 7, 2) := by decide +kernel
theorem d3_13 : decode method_3_code 13 = .ok (.lastore, 1) := by decide +kernel
theorem d3_14 : decode method_3_code 14 = .ok (.aload_n 1, 1) := by decide +kernel
theorem d3_15 : decode method_3_code 15 = .ok (.iload_n 2, 1) := by decide +kernel
theorem d3_16 : decode method_3_code 16 = .ok (.lload 7, 2) := by decide +kernel
theorem d3_18 : decode method_3_code 18 = .ok (.lastore, 1) := by decide +kernel
theorem d3_19 : decode method_3_code 19 = .ok (.return_, 1) := by decide +kernel
theorem pd_3 : parseMethodDescriptor "([J[JIJJ)V" = some ⟨[(.array .long), (.array .long), .int, .long, .long], none⟩ := by decide +kernel
abbrev Y4 : MethodName := ⟨"com/example/slott/slott/engine/time/Dbm", "up", "([J)V"⟩
theorem d4_0 : decode prog_52_method_11_code 0 = .ok (.iconst 1, 1) := by decide +kernel
theorem d4_1 : decode prog_52_method_11_code 1 = .ok (.istore_n 2, 1) := by decide +kernel
theorem d4_2 : decode prog_52_method_11_code 2 = .ok (.iload_n 2, 1) := by decide +kernel
theorem d4_3 : decode prog_52_method_11_code 3 = .ok (.aload_n 0, 1) := by decide +kernel
theorem d4_4 : decode prog_52_method_11_code 4 = .ok (.getfield 9, 3) := by decide +kernel
theorem d4_7 : decode prog_52_method_11_code 7 = .ok (.if_icmp .ge 20, 3) := by decide +kernel
theorem d4_10 : decode prog_52_method_11_code 10 = .ok (.aload_n 1, 1) := by decide +kernel
theorem d4_11 : decode prog_52_method_11_code 11 = .ok (.iload_n 2, 1) := by decide +kernel
theorem d4_12 : decode prog_52_method_11_code 12 = .ok (.aload_n 0, 1) := by decide +kernel
theorem d4_13 : decode prog_52_method_11_code 13 = .ok (.getfield 9, 3) := by decide +kernel
theorem d4_16 : decode prog_52_method_11_code 16 = .ok (.imul, 1) := by decide +kernel
theorem d4_17 : decode prog_52_method_11_code 17 = .ok (.ldc2_w 25, 3) := by decide +kernel
theorem d4_20 : decode prog_52_method_11_code 20 = .ok (.lastore, 1) := by decide +kernel
theorem d4_21 : decode prog_52_method_11_code 21 = .ok (.iinc 2 1, 3) := by decide +kernel
theorem d4_24 : decode prog_52_method_11_code 24 = .ok (.goto (-22), 3) := by decide +kernel
theorem d4_27 : decode prog_52_method_11_code 27 = .ok (.return_, 1) := by decide +kernel
theorem pd_4 : parseMethodDescriptor "([J)V" = some ⟨[(.array .long)], none⟩ := by decide +kernel
abbrev Y5 : MethodName := ⟨"com/example/slott/slott/engine/time/DbmUpPinLaw", "check", "([J[JII)Z"⟩
theorem d5_0 : decode method_4_code 0 = .ok (.iload_n 2, 1) := by decide +kernel
theorem d5_1 : decode method_4_code 1 = .ok (.iload_n 3, 1) := by decide +kernel
theorem d5_2 : decode method_4_code 2 = .ok (.idiv, 1) := by decide +kernel
theorem d5_3 : decode method_4_code 3 = .ok (.istore 4, 2) := by decide +kernel
theorem d5_5 : decode method_4_code 5 = .ok (.iload_n 2, 1) := by decide +kernel
theorem d5_6 : decode method_4_code 6 = .ok (.iload_n 3, 1) := by decide +kernel
theorem d5_7 : decode method_4_code 7 = .ok (.irem, 1) := by decide +kernel
theorem d5_8 : decode method_4_code 8 = .ok (.istore 5, 2) := by decide +kernel
theorem d5_10 : decode method_4_code 10 = .ok (.iload 5, 2) := by decide +kernel
theorem d5_12 : decode method_4_code 12 = .ok (.ifCond .ne 19, 3) := by decide +kernel
theorem d5_15 : decode method_4_code 15 = .ok (.iload 4, 2) := by decide +kernel
theorem d5_17 : decode method_4_code 17 = .ok (.iconst 1, 1) := by decide +kernel
theorem d5_18 : decode method_4_code 18 = .ok (.if_icmp .lt 13, 3) := by decide +kernel
theorem d5_21 : decode method_4_code 21 = .ok (.iload 4, 2) := by decide +kernel
theorem d5_23 : decode method_4_code 23 = .ok (.iload_n 3, 1) := by decide +kernel
theorem d5_24 : decode method_4_code 24 = .ok (.if_icmp .ge 7, 3) := by decide +kernel
theorem d5_27 : decode method_4_code 27 = .ok (.iconst 1, 1) := by decide +kernel
theorem d5_28 : decode method_4_code 28 = .ok (.goto 4, 3) := by decide +kernel
theorem d5_31 : decode method_4_code 31 = .ok (.iconst 0, 1) := by decide +kernel
theorem d5_32 : decode method_4_code 32 = .ok (.istore 6, 2) := by decide +kernel
theorem d5_34 : decode method_4_code 34 = .ok (.iload 6, 2) := by decide +kernel
theorem d5_36 : decode method_4_code 36 = .ok (.ifCond .eq 9, 3) := by decide +kernel
theorem d5_39 : decode method_4_code 39 = .ok (.ldc2_w 28, 3) := by decide +kernel
theorem d5_42 : decode method_4_code 42 = .ok (.goto 6, 3) := by decide +kernel
theorem d5_45 : decode method_4_code 45 = .ok (.aload_n 1, 1) := by decide +kernel
theorem d5_46 : decode method_4_code 46 = .ok (.iload_n 2, 1) := by decide +kernel
theorem d5_47 : decode method_4_code 47 = .ok (.laload, 1) := by decide +kernel
theorem d5_48 : decode method_4_code 48 = .ok (.lstore 7, 2) := by decide +kernel
theorem d5_50 : decode method_4_code 50 = .ok (.aload_n 0, 1) := by decide +kernel
theorem d5_51 : decode method_4_code 51 = .ok (.iload_n 2, 1) := by decide +kernel
theorem d5_52 : decode method_4_code 52 = .ok (.laload, 1) := by decide +kernel
theorem d5_53 : decode method_4_code 53 = .ok (.lload 7, 2) := by decide +kernel
theorem d5_55 : decode method_4_code 55 = .ok (.lcmp, 1) := by decide +kernel
theorem d5_56 : decode method_4_code 56 = .ok (.ifCond .ne 7, 3) := by decide +kernel
theorem d5_59 : decode method_4_code 59 = .ok (.iconst 1, 1) := by decide +kernel
theorem d5_60 : decode method_4_code 60 = .ok (.goto 4, 3) := by decide +kernel
theorem d5_64 : decode method_4_code 64 = .ok (.ireturn, 1) := by decide +kernel
theorem pd_5 : parseMethodDescriptor "([J[JII)Z" = some ⟨[(.array .long), (.array .long), .int, .int], some .boolean⟩ := by decide +kernel
theorem pl_0 : plainFor Y0 = true := plainFor_of_name (show plainName "com/example/slott/slott/engine/time/DbmUpPinLaw" = true by first | (simp [plainName, overriddenIn]; done) | decide +kernel)
theorem pl_1 : plainFor Y1 = true := plainFor_of_name (show plainName "com/example/slott/slott/engine/time/Dbm" = true by first | (simp [plainName, overriddenIn]; done) | decide +kernel)
theorem pl_3 : plainFor Y3 = true := plainFor_of_name (show plainName "com/example/slott/slott/engine/time/DbmUpPinLaw" = true by first | (simp [plainName, overriddenIn]; done) | decide +kernel)
theorem pl_4 : plainFor Y4 = true := plainFor_of_name (show plainName "com/example/slott/slott/engine/time/Dbm" = true by first | (simp [plainName, overriddenIn]; done) | decide +kernel)
theorem pl_5 : plainFor Y5 = true := plainFor_of_name (show plainName "com/example/slott/slott/engine/time/DbmUpPinLaw" = true by first | (simp [plainName, overriddenIn]; done) | decide +kernel)
theorem ic_0 : Int32.ofInt (0) = (0 : Int32) := rfl
theorem ic_1 : Int32.ofInt (1) = (1 : Int32) := rfl
theorem ic_2 : Int32.ofInt (2) = (2 : Int32) := rfl
theorem ic_3 : Int32.ofInt (3) = (3 : Int32) := rfl
theorem ic_4 : Int32.ofInt (4) = (4 : Int32) := rfl
theorem ic_5 : Int32.ofInt (5) = (5 : Int32) := rfl
theorem bi_6 : (Int8.ofInt (6)).toInt32 = (6 : Int32) := by decide
theorem bi_7 : (Int8.ofInt (7)).toInt32 = (7 : Int32) := by decide
theorem bi_8 : (Int8.ofInt (8)).toInt32 = (8 : Int32) := by decide
theorem bi_9 : (Int8.ofInt (9)).toInt32 = (9 : Int32) := by decide
theorem bi_10 : (Int8.ofInt (10)).toInt32 = (10 : Int32) := by decide
theorem bi_11 : (Int8.ofInt (11)).toInt32 = (11 : Int32) := by decide
theorem bi_12 : (Int8.ofInt (12)).toInt32 = (12 : Int32) := by decide
theorem bi_13 : (Int8.ofInt (13)).toInt32 = (13 : Int32) := by decide
theorem bi_14 : (Int8.ofInt (14)).toInt32 = (14 : Int32) := by decide
theorem bi_15 : (Int8.ofInt (15)).toInt32 = (15 : Int32) := by decide
theorem bi_16 : (Int8.ofInt (16)).toInt32 = (16 : Int32) := by decide
/-- Object.<init>, called from a constructor -/
theorem goInitO {w : W} {l : Launch} {R : Room} {Z : State} {n0 : Nat} {y : MethodName} {code : ByteArray} {ml : Nat} {ret : Option FieldType} {pc : Nat} {Ls : List Slot} {st : List Value} {h : Heap} {cells slots : Nat} {a : Addr} {idx : Nat} {a0 : Array Value} (r : Go w l R Z n0 y code ml ret pc Ls (.ref a :: st) h cells slots) (pc' : Nat) (hd : decode code pc = .ok (.invokespecial idx, 3)) (hp : pc + 3 = pc') (w1 : (Jvm.Cond.methodLink y.cls idx Lib.objectInit).before a0 Z = true) (w2 : (Jvm.Cond.instanceMethod Lib.objectInit).before a0 Z = true) (w3 : (Jvm.Cond.code Lib.objectInit object_method_1_code 1 none).before a0 Z = true) (hLs : Ls.length = ml) (hf : 1 ≤ R.frames) (hl : wt st + 12 ≤ R.locals) : Go w l R Z n0 y code ml ret pc' Ls st h cells slots := by
  subst hp
  obtain ⟨S, T, locs, X, e, N, k⟩ := r
  obtain ⟨T', X', e', q⟩ := Jvm.RoadKit.initO X S.1 S.2.1 S.2.2.1 w1 w2 w3 e (g := mkF w.m pc Ls.toArray (.ref a :: st)) rfl (by rw [S.2.2.2.2.1]; simpa using hLs) rfl (hb S.2.2.2.1 hd) hf (W := wt st) (by show 2 * 0 + _ ≤ _; simp [wt]) hl
  exact ⟨S, T', locs, X', e', N, fun t z => k t (q t z)⟩

abbrev top : Int64 := 9223372036854775807
def upTo (d : Nat) (zs : List Int64) : Nat → List Int64
  | 0 => zs
  | t + 1 => (upTo d zs t).set ((t + 1) * d) top
theorem upTo_len (d : Nat) (zs : List Int64) (t : Nat) : (upTo d zs t).length = zs.length := by
  induction t with
  | zero => rfl
  | succ t ih => simp [upTo, ih]
theorem upTo_get (d : Nat) (zs : List Int64) (hd : 0 < d) (k : Nat) (hk : k < zs.length) (t : Nat) : (upTo d zs t).getD k 0 = if k % d = 0 ∧ 1 ≤ k / d ∧ k / d < t + 1 then top else zs.getD k 0 := by
  induction t with
  | zero => rw [if_neg (by omega)]; rfl
  | succ t ih =>
    simp only [upTo]
    by_cases he : (t + 1) * d = k
    · have h1 : k % d = 0 := by rw [← he]; exact Nat.mul_mod_left _ _
      have h2 : k / d = t + 1 := by rw [← he]; exact Nat.mul_div_left _ hd
      rw [if_pos ⟨h1, by omega, by omega⟩, List.getD_eq_getElem?_getD, he, List.getElem?_set_self (by rw [upTo_len]; exact hk)]; rfl
    · rw [List.getD_eq_getElem?_getD, List.getElem?_set_ne he, ← List.getD_eq_getElem?_getD, ih]
      by_cases h1 : k % d = 0
      · have h3 : k / d ≠ t + 1 := fun q => he (by rw [← q]; have := Nat.div_add_mod k d; rw [h1] at this; rw [Nat.mul_comm]; omega)
        by_cases h2 : 1 ≤ k / d ∧ k / d < t + 1
        · rw [if_pos ⟨h1, h2⟩, if_pos ⟨h1, by omega, by omega⟩]
        · rw [if_neg (fun q => h2 q.2), if_neg (fun q => h2 ⟨by omega, by omega⟩)]
      · rw [if_neg (fun q => h1 q.1), if_neg (fun q => h1 q.1)]
theorem small_div : ∀ k, k < 16 → ∀ d, d < 5 → 0 < d → Int32.ofNat k / Int32.ofNat d = Int32.ofNat (k / d) ∧ Int32.ofNat k % Int32.ofNat d = Int32.ofNat (k % d) := by decide +kernel
theorem small_mul : ∀ k, k < 5 → ∀ d, d < 5 → Int32.ofNat k * Int32.ofNat d = Int32.ofNat (k * d) := by decide +kernel
theorem set_long (zs : List Int64) (k : Nat) (v : Int64) : (zs.map Value.long).set k (.long v) = (zs.set k v).map Value.long := by simp [List.map_set]

set_option maxRecDepth 65536 in
set_option maxHeartbeats 40000000 in
theorem init_met {l : Launch} {Z : State} {a0 : Array Value} (hw : Ws Z a0) (a : Addr) (k : Int32) (h0 : Heap) (n0 : Nat) (g : n0 ≤ a) (E : Exa Z h0 a "com/example/slott/slott/engine/time/Dbm") (F : Fld Z h0 a "com/example/slott/slott/engine/time/Dbm" "dimension" "I" (.int 0)) : Met l Z Y1 prog_52_method_1_code 2 none ({ frames := 1, cells := 0, slots := 0, locals := 20 } : Room) [.ref a, .int k] h0 n0 (Ret0 fun h => Exa Z h a "com/example/slott/slott/engine/time/Dbm" ∧ Fld Z h a "com/example/slott/slott/engine/time/Dbm" "dimension" "I" (.int (k + 1))) := by
  refine Met.intro (Ls := [.val (.ref a), .val (.int k)]) pl_1 (fun m => by simp [entryFrame, mkF, argsToLocals, Value.category, maxLocals]) fun w r => ?_
  replace r := r.ald0 1 d1_0 rfl
  replace r := goInitO r 4 d1_1 rfl (wd_6 hw) (wd_7 hw) (wd_8 hw) rfl (Nat.le_of_ble_eq_true rfl) (Nat.le_of_ble_eq_true rfl)
  replace r := r.ald0 5 d1_4 rfl
  replace r := r.ild1 6 d1_5 rfl
  replace r := r.iconstV 7 d1_6 rfl (1 : Int32) ic_1
  replace r := r.iadd 8 d1_7 rfl
  obtain ⟨h2, W2, r⟩ := r.putF 11 d1_8 rfl (wd_9 hw) (Or.inr ⟨(wd_10 hw), rfl, rfl⟩) (wd_1 hw) E F (ty := .int) (by decide) rfl rfl g
  exact r.retV d1_11 ⟨E.wr W2, F.same W2⟩ (by decide) (by decide)
set_option maxRecDepth 65536 in
set_option maxHeartbeats 40000000 in
theorem put_met {l : Launch} {Z : State} {a0 : Array Value} (hw : Ws Z a0) (z o : Addr) (hzo : z ≠ o) (k : Nat) (a b : Int64) (zs os : List Int64) (h0 : Heap) (n0 : Nat) (gz : n0 ≤ z) (go : n0 ≤ o) (A : Ary Z h0 z .long (zs.map .long)) (B : Ary Z h0 o .long (os.map .long)) (k1 : k < zs.length) (k2 : k < os.length) : Met l Z Y3 method_3_code 9 none ({ frames := 0, cells := 0, slots := 0, locals := 0 } : Room) [.ref z, .ref o, .int (Int32.ofNat k), .long a, .long b] h0 n0 (Ret0 fun h => Keep h0 h [z, o] ∧ Ary Z h z .long ((zs.set k (a + (Int32.ofNat k).toInt64 * b)).map .long) ∧ Ary Z h o .long ((os.set k (a + (Int32.ofNat k).toInt64 * b)).map .long)) := by
  have la := A.len; have lb := B.len
  rw [List.length_map] at la lb
  have kk : (Int32.ofNat k).toNatClampNeg = k := len_nat (by omega)
  refine Met.intro (Ls := [.val (.ref z), .val (.ref o), .val (.int (Int32.ofNat k)), .val (.long a), .second, .val (.long b), .second, .unset, .unset]) pl_3 (fun m => by simp [entryFrame, mkF, argsToLocals, Value.category, maxLocals]) fun w r => ?_
  replace r := r.lld3 1 d3_0 rfl
  replace r := r.ild2 2 d3_1 rfl
  replace r := r.i2l 3 d3_2 rfl
  replace r := r.lld5 5 d3_3 rfl
  replace r := r.lmul 6 d3_5 rfl
  replace r := r.ladd 7 d3_6 rfl
  replace r := r.lst7 9 d3_7 rfl (Two.of rfl)
  replace r := r.ald0 10 d3_9 rfl
  replace r := r.ild2 11 d3_10 rfl
  replace r := r.lld7 13 d3_11 rfl
  obtain ⟨h1, W1, A1, r⟩ := r.last 14 d3_13 rfl A (len_nn (by omega)) (by rw [kk, List.length_map]; exact k1) gz
  have B1 := B.other W1 (Ne.symm hzo)
  replace r := r.ald1 15 d3_14 rfl
  replace r := r.ild2 16 d3_15 rfl
  replace r := r.lld7 18 d3_16 rfl
  obtain ⟨h2, W2, B2, r⟩ := r.last 19 d3_18 rfl B1 (len_nn (by omega)) (by rw [kk, List.length_map]; exact k2) go
  have A2 := A1.other W2 hzo
  rw [kk, set_long] at A2 B2
  exact r.retV d3_19 ⟨((Keep.refl h0 [z, o]).wr W1 (Or.inl (by simp))).wr W2 (Or.inl (by simp)), A2, B2⟩ (by decide) (by decide)
set_option maxRecDepth 65536 in
set_option maxHeartbeats 40000000 in
theorem up_loop {l : Launch} {Z : State} {a0 : Array Value} (hw : Ws Z a0) {w : W} {R : Room} {h0 : Heap} {n0 : Nat} {a z : Addr} {zs : List Int64} {d : Nat} (hd : 0 < d) (hd5 : d < 5) (hz : zs.length = 16) (gz : n0 ≤ z) (haz : a ≠ z) (k : Nat) : ∀ t h, t + 1 + k = d → Keep h0 h [z] → Fld Z h a "com/example/slott/slott/engine/time/Dbm" "dimension" "I" (.int (Int32.ofNat d)) → Ary Z h z .long ((upTo d zs t).map .long) → Go w l R Z n0 Y4 prog_52_method_11_code 3 none 2 [.val (.ref a), .val (.ref z), .val (.int (Int32.ofNat (t + 1)))] [] h 0 0 → Fini w n0 (Ret0 fun h => Keep h0 h [z] ∧ Ary Z h z .long ((upTo d zs (d - 1)).map .long)) 0 0 := by
  induction k with
  | zero =>
    intro t h ht K F A r
    obtain rfl : d = t + 1 := by omega
    replace r := r.ild2 3 d4_2 rfl
    replace r := r.ald0 4 d4_3 rfl
    replace r := r.getF 7 d4_4 rfl (wd_9 hw) F
    replace r := r.ic_geT 27 d4_7 (by decide) (fun q => Nat.lt_irrefl _ ((nlt (by omega) (by omega)).mp q))
    exact r.retV d4_27 ⟨K, A⟩ (by decide) (by decide)
  | succ k ih =>
    intro t h ht K F A r
    replace r := r.ild2 3 d4_2 rfl
    replace r := r.ald0 4 d4_3 rfl
    replace r := r.getF 7 d4_4 rfl (wd_9 hw) F
    replace r := r.ic_geF 10 d4_7 rfl ((nlt (by omega) (by omega)).mpr (by omega))
    replace r := r.ald1 11 d4_10 rfl
    replace r := r.ild2 12 d4_11 rfl
    replace r := r.ald0 13 d4_12 rfl
    replace r := r.getF 16 d4_13 rfl (wd_9 hw) F
    replace r := r.imul 17 d4_16 rfl
    rw [small_mul (t + 1) (by omega) d hd5] at r
    replace r := r.ldc2 20 d4_17 rfl (wd_24 hw)
    have hm : (t + 1) * d ≤ 3 * 4 := Nat.mul_le_mul (by omega) (by omega)
    have kk : (Int32.ofNat ((t + 1) * d)).toNatClampNeg = (t + 1) * d := len_nat (by omega)
    obtain ⟨h1, W1, A1, r⟩ := r.last 21 d4_20 rfl A (len_nn (by omega)) (by rw [kk, List.length_map, upTo_len]; omega) gz
    rw [kk, set_long] at A1
    replace r := r.inc2 24 d4_21 rfl (d := 1) rfl
    replace r := r.goto 2 d4_24 (by decide)
    rw [nadd1] at r
    exact ih (t + 1) h1 (by omega) (K.wr W1 (Or.inl (by simp))) (F.other W1 (Or.inl haz)) A1 r
set_option maxRecDepth 65536 in
set_option maxHeartbeats 40000000 in
theorem up_met {l : Launch} {Z : State} {a0 : Array Value} (hw : Ws Z a0) (a z : Addr) (haz : a ≠ z) (zs : List Int64) (d : Nat) (hd : 0 < d) (hd5 : d < 5) (hz : zs.length = 16) (h0 : Heap) (n0 : Nat) (gz : n0 ≤ z) (F : Fld Z h0 a "com/example/slott/slott/engine/time/Dbm" "dimension" "I" (.int (Int32.ofNat d))) (A : Ary Z h0 z .long (zs.map .long)) : Met l Z Y4 prog_52_method_11_code 3 none ({ frames := 0, cells := 0, slots := 0, locals := 0 } : Room) [.ref a, .ref z] h0 n0 (Ret0 fun h => Keep h0 h [z] ∧ Ary Z h z .long ((upTo d zs (d - 1)).map .long)) := by
  refine Met.intro (Ls := [.val (.ref a), .val (.ref z), .unset]) pl_4 (fun m => by simp [entryFrame, mkF, argsToLocals, Value.category, maxLocals]) fun w r => ?_
  replace r := r.iconstV 1 d4_0 rfl (1 : Int32) ic_1
  replace r := r.ist2 2 d4_1 rfl (One.of rfl)
  exact up_loop hw hd hd5 hz gz haz (d - 1) 0 h0 (by omega) (Keep.refl _ _) F A r
set_option maxRecDepth 65536 in
set_option maxHeartbeats 40000000 in
theorem chk_met {l : Launch} {Z : State} {a0 : Array Value} (hw : Ws Z a0) (z o : Addr) (k d : Nat) (zs os : List Int64) (hk : k < 16) (hd : 0 < d) (hd5 : d < 5) (h0 : Heap) (n0 : Nat) (A : Ary Z h0 z .long (zs.map .long)) (B : Ary Z h0 o .long (os.map .long)) (k1 : zs.length = 16) (k2 : os.length = 16) (he : zs.getD k 0 = if k % d = 0 ∧ 1 ≤ k / d ∧ k / d < d then top else os.getD k 0) : Met l Z Y5 method_4_code 9 (some .boolean) ({ frames := 0, cells := 0, slots := 0, locals := 0 } : Room) [.ref z, .ref o, .int (Int32.ofNat k), .int (Int32.ofNat d)] h0 n0 (Ret fun v h => v = .int 1 ∧ h = h0) := by
  have kk : (Int32.ofNat k).toNatClampNeg = k := len_nat (by omega)
  have hdn : Int32.ofNat d ≠ 0 := fun q => by rw [show (0 : Int32) = Int32.ofNat 0 from rfl, neqn (by omega) (by omega)] at q; omega
  have q1 : k / d < 16 := Nat.lt_of_le_of_lt (Nat.div_le_self _ _) hk
  have q2 : k % d < 16 := Nat.lt_of_le_of_lt (Nat.mod_le _ _) hk
  obtain ⟨s1, s2⟩ := small_div k hk d hd5 hd
  refine Met.intro (Ls := [.val (.ref z), .val (.ref o), .val (.int (Int32.ofNat k)), .val (.int (Int32.ofNat d)), .unset, .unset, .unset, .unset, .unset]) pl_5 (fun m => by simp [entryFrame, mkF, argsToLocals, Value.category, maxLocals]) fun w r => ?_
  replace r := r.ild2 1 d5_0 rfl
  replace r := r.ild3 2 d5_1 rfl
  replace r := r.idiv 3 d5_2 rfl hdn
  replace r := r.ist4 5 d5_3 rfl (One.of rfl)
  replace r := r.ild2 6 d5_5 rfl
  replace r := r.ild3 7 d5_6 rfl
  replace r := r.irem 8 d5_7 rfl hdn
  replace r := r.ist5 10 d5_8 rfl (One.of rfl)
  rw [s1, s2] at r
  have J : ∃ (b : Int32), Go w l ({ frames := 0, cells := 0, slots := 0, locals := 0 } : Room) Z n0 Y5 method_4_code 9 (some .boolean) 50 [.val (.ref z), .val (.ref o), .val (.int (Int32.ofNat k)), .val (.int (Int32.ofNat d)), .val (.int (Int32.ofNat (k / d))), .val (.int (Int32.ofNat (k % d))), .val (.int b), .val (.long (zs.getD k 0)), .second] [] h0 0 0 := by
    replace r := r.ild5 12 d5_10 rfl
    rcases r.if_ne 31 15 d5_12 (by decide) rfl with ⟨hc, r⟩ | ⟨hc, r⟩
    · rw [show (0 : Int32) = Int32.ofNat 0 from rfl, neqn (by omega) (by omega)] at hc
      replace r := r.iconstV 32 d5_31 rfl (0 : Int32) ic_0
      replace r := r.ist6 34 d5_32 rfl (One.of rfl)
      replace r := r.ild6 36 d5_34 rfl
      replace r := r.if_eqT 45 d5_36 (by decide) rfl
      replace r := r.ald1 46 d5_45 rfl
      replace r := r.ild2 47 d5_46 rfl
      replace r := r.lald 48 d5_47 rfl B (len_nn (by omega)) (by rw [kk]; exact get_long (by omega))
      rw [show os.getD k 0 = zs.getD k 0 from by rw [he, if_neg (fun q => hc q.1)]] at r
      replace r := r.lst7 50 d5_48 rfl (Two.of rfl)
      exact ⟨_, r⟩
    · rw [show (0 : Int32) = Int32.ofNat 0 from rfl, neqn (by omega) (by omega)] at hc
      have m0 := hc
      replace r := r.ild4 17 d5_15 rfl
      replace r := r.iconstV 18 d5_17 rfl (1 : Int32) ic_1
      rcases r.ic_lt 31 21 d5_18 (by decide) rfl with ⟨hc, r⟩ | ⟨hc, r⟩
      · rw [show (1 : Int32) = Int32.ofNat 1 from rfl, nlt (by omega) (by omega)] at hc
        replace r := r.iconstV 32 d5_31 rfl (0 : Int32) ic_0
        replace r := r.ist6 34 d5_32 rfl (One.of rfl)
        replace r := r.ild6 36 d5_34 rfl
        replace r := r.if_eqT 45 d5_36 (by decide) rfl
        replace r := r.ald1 46 d5_45 rfl
        replace r := r.ild2 47 d5_46 rfl
        replace r := r.lald 48 d5_47 rfl B (len_nn (by omega)) (by rw [kk]; exact get_long (by omega))
        rw [show os.getD k 0 = zs.getD k 0 from by rw [he, if_neg (fun q => by omega)]] at r
        replace r := r.lst7 50 d5_48 rfl (Two.of rfl)
        exact ⟨_, r⟩
      · rw [show (1 : Int32) = Int32.ofNat 1 from rfl, nlt (by omega) (by omega)] at hc
        have m1 := hc
        replace r := r.ild4 23 d5_21 rfl
        replace r := r.ild3 24 d5_23 rfl
        rcases r.ic_ge 31 27 d5_24 (by decide) rfl with ⟨hc, r⟩ | ⟨hc, r⟩
        · rw [nlt (by omega) (by omega)] at hc
          replace r := r.iconstV 32 d5_31 rfl (0 : Int32) ic_0
          replace r := r.ist6 34 d5_32 rfl (One.of rfl)
          replace r := r.ild6 36 d5_34 rfl
          replace r := r.if_eqT 45 d5_36 (by decide) rfl
          replace r := r.ald1 46 d5_45 rfl
          replace r := r.ild2 47 d5_46 rfl
          replace r := r.lald 48 d5_47 rfl B (len_nn (by omega)) (by rw [kk]; exact get_long (by omega))
          rw [show os.getD k 0 = zs.getD k 0 from by rw [he, if_neg (fun q => hc q.2.2)]] at r
          replace r := r.lst7 50 d5_48 rfl (Two.of rfl)
          exact ⟨_, r⟩
        · rw [nlt (by omega) (by omega)] at hc
          replace r := r.iconstV 28 d5_27 rfl (1 : Int32) ic_1
          replace r := r.goto 32 d5_28 (by decide)
          replace r := r.ist6 34 d5_32 rfl (One.of rfl)
          replace r := r.ild6 36 d5_34 rfl
          replace r := r.if_eqF 39 d5_36 rfl (by decide)
          replace r := r.ldc2 42 d5_39 rfl (wd_25 hw)
          rw [show (9223372036854775807 : Int64) = zs.getD k 0 from by rw [he, if_pos ⟨m0, by omega, hc⟩]] at r
          replace r := r.goto 48 d5_42 (by decide)
          replace r := r.lst7 50 d5_48 rfl (Two.of rfl)
          exact ⟨_, r⟩
  obtain ⟨b, r⟩ := J
  replace r := r.ald0 51 d5_50 rfl
  replace r := r.ild2 52 d5_51 rfl
  replace r := r.lald 53 d5_52 rfl A (len_nn (by omega)) (by rw [kk]; exact get_long (by omega))
  replace r := r.lld7 55 d5_53 rfl
  replace r := r.lcmp 56 d5_55 rfl
  replace r := r.if_neF 59 d5_56 rfl ((lw_eq _ _).mpr rfl)
  replace r := r.iconstV 60 d5_59 rfl (1 : Int32) ic_1
  replace r := r.goto 64 d5_60 (by decide)
  exact r.retN d5_64 (Or.inl rfl) (z' := 1) rfl ⟨rfl, rfl⟩ (by decide) (by decide)

theorem and3 (x : Int32) : ∃ k : Nat, k < 4 ∧ x &&& 3 = Int32.ofNat k := by
  have h := c_mask x 3 2 (by decide) (by decide)
  have h1 : 0 ≤ x.toInt % (2 ^ 2 : Nat) := Int.emod_nonneg _ (by decide)
  have h2 : x.toInt % (2 ^ 2 : Nat) < (2 ^ 2 : Nat) := Int.emod_lt_of_pos _ (by decide)
  rw [← h] at h1 h2
  have e4 : ((2 ^ 2 : Nat) : Int) = 4 := rfl
  rw [e4] at h2
  refine ⟨(x &&& 3).toInt.toNat, by omega, ?_⟩
  rw [← Int32.toInt_inj, Int32.toInt_ofNat_small (by omega)]; omega
abbrev V (a b : Int64) (k : Nat) : Int64 := a + (Int32.ofNat k).toInt64 * b
def PL (a b : Int64) (k : Nat) : List Int64 := (List.range k).map (V a b) ++ List.replicate (16 - k) 0
theorem PL_len (a b : Int64) (k : Nat) (h : k ≤ 16) : (PL a b k).length = 16 := by simp [PL]; omega

theorem PL_0 (a b : Int64) : (PL a b 0).set 0 (a + (Int32.ofNat 0).toInt64 * b) = PL a b 1 := rfl
theorem PL_1 (a b : Int64) : (PL a b 1).set 1 (a + (Int32.ofNat 1).toInt64 * b) = PL a b 2 := rfl
theorem PL_2 (a b : Int64) : (PL a b 2).set 2 (a + (Int32.ofNat 2).toInt64 * b) = PL a b 3 := rfl
theorem PL_3 (a b : Int64) : (PL a b 3).set 3 (a + (Int32.ofNat 3).toInt64 * b) = PL a b 4 := rfl
theorem PL_4 (a b : Int64) : (PL a b 4).set 4 (a + (Int32.ofNat 4).toInt64 * b) = PL a b 5 := rfl
theorem PL_5 (a b : Int64) : (PL a b 5).set 5 (a + (Int32.ofNat 5).toInt64 * b) = PL a b 6 := rfl
theorem PL_6 (a b : Int64) : (PL a b 6).set 6 (a + (Int32.ofNat 6).toInt64 * b) = PL a b 7 := rfl
theorem PL_7 (a b : Int64) : (PL a b 7).set 7 (a + (Int32.ofNat 7).toInt64 * b) = PL a b 8 := rfl
theorem PL_8 (a b : Int64) : (PL a b 8).set 8 (a + (Int32.ofNat 8).toInt64 * b) = PL a b 9 := rfl
theorem PL_9 (a b : Int64) : (PL a b 9).set 9 (a + (Int32.ofNat 9).toInt64 * b) = PL a b 10 := rfl
theorem PL_10 (a b : Int64) : (PL a b 10).set 10 (a + (Int32.ofNat 10).toInt64 * b) = PL a b 11 := rfl
theorem PL_11 (a b : Int64) : (PL a b 11).set 11 (a + (Int32.ofNat 11).toInt64 * b) = PL a b 12 := rfl
theorem PL_12 (a b : Int64) : (PL a b 12).set 12 (a + (Int32.ofNat 12).toInt64 * b) = PL a b 13 := rfl
theorem PL_13 (a b : Int64) : (PL a b 13).set 13 (a + (Int32.ofNat 13).toInt64 * b) = PL a b 14 := rfl
theorem PL_14 (a b : Int64) : (PL a b 14).set 14 (a + (Int32.ofNat 14).toInt64 * b) = PL a b 15 := rfl
theorem PL_15 (a b : Int64) : (PL a b 15).set 15 (a + (Int32.ofNat 15).toInt64 * b) = PL a b 16 := rfl
set_option maxRecDepth 65536 in
set_option maxHeartbeats 40000000 in
theorem law_met {l : Launch} {Z : State} {a0 : Array Value} (hw : Ws Z a0) (x : Int32) (a b : Int64) (h0 : Heap) (n0 : Nat) (hn : n0 ≤ h0.size) : Met l Z Y0 code maxLocals ret room_1 [.int x, .long a, .long b] h0 n0 (Ret fun v h => v = .int 1) := by
  refine Met.intro (Ls := [.val (.int x), .val (.long a), .second, .val (.long b), .second, .unset, .unset, .unset, .unset, .unset, .unset]) pl_0 (fun m => by simp [entryFrame, mkF, argsToLocals, Value.category, maxLocals]) fun w r => ?_
  obtain ⟨q, hq, eq⟩ := and3 x
  replace r := r.ild0 1 at_0 rfl
  replace r := r.iconstV 2 at_1 rfl (3 : Int32) ic_3
  replace r := r.iand 3 at_2 rfl
  rw [eq] at r
  replace r := r.ist5 5 at_3 rfl (One.of rfl)
  replace r := r.ild5 7 at_5 rfl
  replace r := r.iconstV 8 at_7 rfl (1 : Int32) ic_1
  replace r := r.iadd 9 at_8 rfl
  rw [nadd1] at r
  replace r := r.ist6 11 at_9 rfl (One.of rfl)
  obtain ⟨h1, m, z1, X1, E1, D1, r⟩ := r.newO 14 at_11 rfl (wd_0 hw) (wd_1 hw) (wd_2 hw) (by decide) (by decide)
  have gm : n0 ≤ m := by rw [z1]; exact hn
  replace r := r.dup 15 at_14 rfl rfl
  replace r := r.ild5 17 at_15 rfl
  obtain ⟨_, h2, ⟨rfl, E2, F2⟩, r'⟩ := r.callI (as := [.int (Int32.ofNat q)]) (rest := [.ref m]) 20 at_17 rfl (init_met hw m (Int32.ofNat q) _ n0 gm E1 (D1 (Or.inr (wd_10 hw)) (ty := .int) (by decide))) rfl (wd_3 hw) (wd_4 hw) (wd_2 hw) (wd_5 hw) pd_1 rfl rfl rfl (by decide) (Nat.le_of_ble_eq_true rfl) (Nat.le_of_ble_eq_true rfl) (Nat.le_of_ble_eq_true rfl) (Nat.le_of_ble_eq_true rfl)
  clear r; have r := r'; clear r'
  rw [nadd1] at F2
  change Go w l _ Z n0 _ _ _ _ _ _ [.ref m] _ _ _ at r
  replace r := r.ast7 22 at_20 rfl (One.of rfl)
  replace r := r.bipushV 24 at_22 rfl (16 : Int32) bi_16
  obtain ⟨h3, z, z3, X3, A, r⟩ := r.newA (vs := (PL a b 0).map .long) 26 at_24 rfl (wd_11 hw) (by decide) rfl 16 (by decide) (by decide) (by decide) (by decide)
  have mz : m ≠ z := by rw [z3]; exact Nat.ne_of_lt E2.lt
  have gz : n0 ≤ z := by rw [z3]; exact Nat.le_trans gm (Nat.le_of_lt E2.lt)
  replace E2 := E2.ext X3; replace F2 := F2.ext X3
  replace r := r.ast8 28 at_26 rfl (One.of rfl)
  replace r := r.bipushV 30 at_28 rfl (16 : Int32) bi_16
  obtain ⟨h4, o, z4, X4, B, r⟩ := r.newA (vs := (PL a b 0).map .long) 32 at_30 rfl (wd_11 hw) (by decide) rfl 16 (by decide) (by decide) (by decide) (by decide)
  have mo : m ≠ o := by rw [z4]; exact Nat.ne_of_lt E2.lt
  have zo : z ≠ o := by rw [z4]; exact Nat.ne_of_lt A.lt
  have go : n0 ≤ o := by rw [z4]; exact Nat.le_trans gz (Nat.le_of_lt A.lt)
  replace E2 := E2.ext X4; replace F2 := F2.ext X4; replace A := A.ext X4
  replace r := r.ast9 34 at_32 rfl (One.of rfl)
  replace r := r.ald8 36 at_34 rfl
  replace r := r.ald9 38 at_36 rfl
  replace r := r.iconstV 39 at_38 rfl (0 : Int32) ic_0
  replace r := r.lld1 40 at_39 rfl
  replace r := r.lld3 41 at_40 rfl
  obtain ⟨_, h', ⟨rfl, K, A', B'⟩, r'⟩ := r.callS (rest := []) 44 at_41 rfl (put_met hw z o zo 0 a b _ _ _ n0 gz go A B (by rw [PL_len _ _ _ (by decide)]; decide) (by rw [PL_len _ _ _ (by decide)]; decide)) (wd_12 hw) (wd_13 hw) (wd_14 hw) (wd_15 hw) pd_3 rfl rfl rfl (by decide) (Nat.le_of_ble_eq_true rfl) (Nat.le_of_ble_eq_true rfl) (Nat.le_of_ble_eq_true rfl) (Nat.le_of_ble_eq_true rfl)
  clear r; have r := r'; clear r'
  change Go w l _ Z n0 _ _ _ _ _ _ [] _ _ _ at r
  replace E2 := E2.keep K; replace F2 := F2.keep K (ninS mz (ninS mo nin0)); rw [PL_0] at A' B'; clear K A B; have A := A'; have B := B'; clear A' B'
  replace r := r.ald8 46 at_44 rfl
  replace r := r.ald9 48 at_46 rfl
  replace r := r.iconstV 49 at_48 rfl (1 : Int32) ic_1
  replace r := r.lld1 50 at_49 rfl
  replace r := r.lld3 51 at_50 rfl
  obtain ⟨_, h', ⟨rfl, K, A', B'⟩, r'⟩ := r.callS (rest := []) 54 at_51 rfl (put_met hw z o zo 1 a b _ _ _ n0 gz go A B (by rw [PL_len _ _ _ (by decide)]; decide) (by rw [PL_len _ _ _ (by decide)]; decide)) (wd_12 hw) (wd_13 hw) (wd_14 hw) (wd_15 hw) pd_3 rfl rfl rfl (by decide) (Nat.le_of_ble_eq_true rfl) (Nat.le_of_ble_eq_true rfl) (Nat.le_of_ble_eq_true rfl) (Nat.le_of_ble_eq_true rfl)
  clear r; have r := r'; clear r'
  change Go w l _ Z n0 _ _ _ _ _ _ [] _ _ _ at r
  replace E2 := E2.keep K; replace F2 := F2.keep K (ninS mz (ninS mo nin0)); rw [PL_1] at A' B'; clear K A B; have A := A'; have B := B'; clear A' B'
  replace r := r.ald8 56 at_54 rfl
  replace r := r.ald9 58 at_56 rfl
  replace r := r.iconstV 59 at_58 rfl (2 : Int32) ic_2
  replace r := r.lld1 60 at_59 rfl
  replace r := r.lld3 61 at_60 rfl
  obtain ⟨_, h', ⟨rfl, K, A', B'⟩, r'⟩ := r.callS (rest := []) 64 at_61 rfl (put_met hw z o zo 2 a b _ _ _ n0 gz go A B (by rw [PL_len _ _ _ (by decide)]; decide) (by rw [PL_len _ _ _ (by decide)]; decide)) (wd_12 hw) (wd_13 hw) (wd_14 hw) (wd_15 hw) pd_3 rfl rfl rfl (by decide) (Nat.le_of_ble_eq_true rfl) (Nat.le_of_ble_eq_true rfl) (Nat.le_of_ble_eq_true rfl) (Nat.le_of_ble_eq_true rfl)
  clear r; have r := r'; clear r'
  change Go w l _ Z n0 _ _ _ _ _ _ [] _ _ _ at r
  replace E2 := E2.keep K; replace F2 := F2.keep K (ninS mz (ninS mo nin0)); rw [PL_2] at A' B'; clear K A B; have A := A'; have B := B'; clear A' B'
  replace r := r.ald8 66 at_64 rfl
  replace r := r.ald9 68 at_66 rfl
  replace r := r.iconstV 69 at_68 rfl (3 : Int32) ic_3
  replace r := r.lld1 70 at_69 rfl
  replace r := r.lld3 71 at_70 rfl
  obtain ⟨_, h', ⟨rfl, K, A', B'⟩, r'⟩ := r.callS (rest := []) 74 at_71 rfl (put_met hw z o zo 3 a b _ _ _ n0 gz go A B (by rw [PL_len _ _ _ (by decide)]; decide) (by rw [PL_len _ _ _ (by decide)]; decide)) (wd_12 hw) (wd_13 hw) (wd_14 hw) (wd_15 hw) pd_3 rfl rfl rfl (by decide) (Nat.le_of_ble_eq_true rfl) (Nat.le_of_ble_eq_true rfl) (Nat.le_of_ble_eq_true rfl) (Nat.le_of_ble_eq_true rfl)
  clear r; have r := r'; clear r'
  change Go w l _ Z n0 _ _ _ _ _ _ [] _ _ _ at r
  replace E2 := E2.keep K; replace F2 := F2.keep K (ninS mz (ninS mo nin0)); rw [PL_3] at A' B'; clear K A B; have A := A'; have B := B'; clear A' B'
  replace r := r.ald8 76 at_74 rfl
  replace r := r.ald9 78 at_76 rfl
  replace r := r.iconstV 79 at_78 rfl (4 : Int32) ic_4
  replace r := r.lld1 80 at_79 rfl
  replace r := r.lld3 81 at_80 rfl
  obtain ⟨_, h', ⟨rfl, K, A', B'⟩, r'⟩ := r.callS (rest := []) 84 at_81 rfl (put_met hw z o zo 4 a b _ _ _ n0 gz go A B (by rw [PL_len _ _ _ (by decide)]; decide) (by rw [PL_len _ _ _ (by decide)]; decide)) (wd_12 hw) (wd_13 hw) (wd_14 hw) (wd_15 hw) pd_3 rfl rfl rfl (by decide) (Nat.le_of_ble_eq_true rfl) (Nat.le_of_ble_eq_true rfl) (Nat.le_of_ble_eq_true rfl) (Nat.le_of_ble_eq_true rfl)
  clear r; have r := r'; clear r'
  change Go w l _ Z n0 _ _ _ _ _ _ [] _ _ _ at r
  replace E2 := E2.keep K; replace F2 := F2.keep K (ninS mz (ninS mo nin0)); rw [PL_4] at A' B'; clear K A B; have A := A'; have B := B'; clear A' B'
  replace r := r.ald8 86 at_84 rfl
  replace r := r.ald9 88 at_86 rfl
  replace r := r.iconstV 89 at_88 rfl (5 : Int32) ic_5
  replace r := r.lld1 90 at_89 rfl
  replace r := r.lld3 91 at_90 rfl
  obtain ⟨_, h', ⟨rfl, K, A', B'⟩, r'⟩ := r.callS (rest := []) 94 at_91 rfl (put_met hw z o zo 5 a b _ _ _ n0 gz go A B (by rw [PL_len _ _ _ (by decide)]; decide) (by rw [PL_len _ _ _ (by decide)]; decide)) (wd_12 hw) (wd_13 hw) (wd_14 hw) (wd_15 hw) pd_3 rfl rfl rfl (by decide) (Nat.le_of_ble_eq_true rfl) (Nat.le_of_ble_eq_true rfl) (Nat.le_of_ble_eq_true rfl) (Nat.le_of_ble_eq_true rfl)
  clear r; have r := r'; clear r'
  change Go w l _ Z n0 _ _ _ _ _ _ [] _ _ _ at r
  replace E2 := E2.keep K; replace F2 := F2.keep K (ninS mz (ninS mo nin0)); rw [PL_5] at A' B'; clear K A B; have A := A'; have B := B'; clear A' B'
  replace r := r.ald8 96 at_94 rfl
  replace r := r.ald9 98 at_96 rfl
  replace r := r.bipushV 100 at_98 rfl (6 : Int32) bi_6
  replace r := r.lld1 101 at_100 rfl
  replace r := r.lld3 102 at_101 rfl
  obtain ⟨_, h', ⟨rfl, K, A', B'⟩, r'⟩ := r.callS (rest := []) 105 at_102 rfl (put_met hw z o zo 6 a b _ _ _ n0 gz go A B (by rw [PL_len _ _ _ (by decide)]; decide) (by rw [PL_len _ _ _ (by decide)]; decide)) (wd_12 hw) (wd_13 hw) (wd_14 hw) (wd_15 hw) pd_3 rfl rfl rfl (by decide) (Nat.le_of_ble_eq_true rfl) (Nat.le_of_ble_eq_true rfl) (Nat.le_of_ble_eq_true rfl) (Nat.le_of_ble_eq_true rfl)
  clear r; have r := r'; clear r'
  change Go w l _ Z n0 _ _ _ _ _ _ [] _ _ _ at r
  replace E2 := E2.keep K; replace F2 := F2.keep K (ninS mz (ninS mo nin0)); rw [PL_6] at A' B'; clear K A B; have A := A'; have B := B'; clear A' B'
  replace r := r.ald8 107 at_105 rfl
  replace r := r.ald9 109 at_107 rfl
  replace r := r.bipushV 111 at_109 rfl (7 : Int32) bi_7
  replace r := r.lld1 112 at_111 rfl
  replace r := r.lld3 113 at_112 rfl
  obtain ⟨_, h', ⟨rfl, K, A', B'⟩, r'⟩ := r.callS (rest := []) 116 at_113 rfl (put_met hw z o zo 7 a b _ _ _ n0 gz go A B (by rw [PL_len _ _ _ (by decide)]; decide) (by rw [PL_len _ _ _ (by decide)]; decide)) (wd_12 hw) (wd_13 hw) (wd_14 hw) (wd_15 hw) pd_3 rfl rfl rfl (by decide) (Nat.le_of_ble_eq_true rfl) (Nat.le_of_ble_eq_true rfl) (Nat.le_of_ble_eq_true rfl) (Nat.le_of_ble_eq_true rfl)
  clear r; have r := r'; clear r'
  change Go w l _ Z n0 _ _ _ _ _ _ [] _ _ _ at r
  replace E2 := E2.keep K; replace F2 := F2.keep K (ninS mz (ninS mo nin0)); rw [PL_7] at A' B'; clear K A B; have A := A'; have B := B'; clear A' B'
  replace r := r.ald8 118 at_116 rfl
  replace r := r.ald9 120 at_118 rfl
  replace r := r.bipushV 122 at_120 rfl (8 : Int32) bi_8
  replace r := r.lld1 123 at_122 rfl
  replace r := r.lld3 124 at_123 rfl
  obtain ⟨_, h', ⟨rfl, K, A', B'⟩, r'⟩ := r.callS (rest := []) 127 at_124 rfl (put_met hw z o zo 8 a b _ _ _ n0 gz go A B (by rw [PL_len _ _ _ (by decide)]; decide) (by rw [PL_len _ _ _ (by decide)]; decide)) (wd_12 hw) (wd_13 hw) (wd_14 hw) (wd_15 hw) pd_3 rfl rfl rfl (by decide) (Nat.le_of_ble_eq_true rfl) (Nat.le_of_ble_eq_true rfl) (Nat.le_of_ble_eq_true rfl) (Nat.le_of_ble_eq_true rfl)
  clear r; have r := r'; clear r'
  change Go w l _ Z n0 _ _ _ _ _ _ [] _ _ _ at r
  replace E2 := E2.keep K; replace F2 := F2.keep K (ninS mz (ninS mo nin0)); rw [PL_8] at A' B'; clear K A B; have A := A'; have B := B'; clear A' B'
  replace r := r.ald8 129 at_127 rfl
  replace r := r.ald9 131 at_129 rfl
  replace r := r.bipushV 133 at_131 rfl (9 : Int32) bi_9
  replace r := r.lld1 134 at_133 rfl
  replace r := r.lld3 135 at_134 rfl
  obtain ⟨_, h', ⟨rfl, K, A', B'⟩, r'⟩ := r.callS (rest := []) 138 at_135 rfl (put_met hw z o zo 9 a b _ _ _ n0 gz go A B (by rw [PL_len _ _ _ (by decide)]; decide) (by rw [PL_len _ _ _ (by decide)]; decide)) (wd_12 hw) (wd_13 hw) (wd_14 hw) (wd_15 hw) pd_3 rfl rfl rfl (by decide) (Nat.le_of_ble_eq_true rfl) (Nat.le_of_ble_eq_true rfl) (Nat.le_of_ble_eq_true rfl) (Nat.le_of_ble_eq_true rfl)
  clear r; have r := r'; clear r'
  change Go w l _ Z n0 _ _ _ _ _ _ [] _ _ _ at r
  replace E2 := E2.keep K; replace F2 := F2.keep K (ninS mz (ninS mo nin0)); rw [PL_9] at A' B'; clear K A B; have A := A'; have B := B'; clear A' B'
  replace r := r.ald8 140 at_138 rfl
  replace r := r.ald9 142 at_140 rfl
  replace r := r.bipushV 144 at_142 rfl (10 : Int32) bi_10
  replace r := r.lld1 145 at_144 rfl
  replace r := r.lld3 146 at_145 rfl
  obtain ⟨_, h', ⟨rfl, K, A', B'⟩, r'⟩ := r.callS (rest := []) 149 at_146 rfl (put_met hw z o zo 10 a b _ _ _ n0 gz go A B (by rw [PL_len _ _ _ (by decide)]; decide) (by rw [PL_len _ _ _ (by decide)]; decide)) (wd_12 hw) (wd_13 hw) (wd_14 hw) (wd_15 hw) pd_3 rfl rfl rfl (by decide) (Nat.le_of_ble_eq_true rfl) (Nat.le_of_ble_eq_true rfl) (Nat.le_of_ble_eq_true rfl) (Nat.le_of_ble_eq_true rfl)
  clear r; have r := r'; clear r'
  change Go w l _ Z n0 _ _ _ _ _ _ [] _ _ _ at r
  replace E2 := E2.keep K; replace F2 := F2.keep K (ninS mz (ninS mo nin0)); rw [PL_10] at A' B'; clear K A B; have A := A'; have B := B'; clear A' B'
  replace r := r.ald8 151 at_149 rfl
  replace r := r.ald9 153 at_151 rfl
  replace r := r.bipushV 155 at_153 rfl (11 : Int32) bi_11
  replace r := r.lld1 156 at_155 rfl
  replace r := r.lld3 157 at_156 rfl
  obtain ⟨_, h', ⟨rfl, K, A', B'⟩, r'⟩ := r.callS (rest := []) 160 at_157 rfl (put_met hw z o zo 11 a b _ _ _ n0 gz go A B (by rw [PL_len _ _ _ (by decide)]; decide) (by rw [PL_len _ _ _ (by decide)]; decide)) (wd_12 hw) (wd_13 hw) (wd_14 hw) (wd_15 hw) pd_3 rfl rfl rfl (by decide) (Nat.le_of_ble_eq_true rfl) (Nat.le_of_ble_eq_true rfl) (Nat.le_of_ble_eq_true rfl) (Nat.le_of_ble_eq_true rfl)
  clear r; have r := r'; clear r'
  change Go w l _ Z n0 _ _ _ _ _ _ [] _ _ _ at r
  replace E2 := E2.keep K; replace F2 := F2.keep K (ninS mz (ninS mo nin0)); rw [PL_11] at A' B'; clear K A B; have A := A'; have B := B'; clear A' B'
  replace r := r.ald8 162 at_160 rfl
  replace r := r.ald9 164 at_162 rfl
  replace r := r.bipushV 166 at_164 rfl (12 : Int32) bi_12
  replace r := r.lld1 167 at_166 rfl
  replace r := r.lld3 168 at_167 rfl
  obtain ⟨_, h', ⟨rfl, K, A', B'⟩, r'⟩ := r.callS (rest := []) 171 at_168 rfl (put_met hw z o zo 12 a b _ _ _ n0 gz go A B (by rw [PL_len _ _ _ (by decide)]; decide) (by rw [PL_len _ _ _ (by decide)]; decide)) (wd_12 hw) (wd_13 hw) (wd_14 hw) (wd_15 hw) pd_3 rfl rfl rfl (by decide) (Nat.le_of_ble_eq_true rfl) (Nat.le_of_ble_eq_true rfl) (Nat.le_of_ble_eq_true rfl) (Nat.le_of_ble_eq_true rfl)
  clear r; have r := r'; clear r'
  change Go w l _ Z n0 _ _ _ _ _ _ [] _ _ _ at r
  replace E2 := E2.keep K; replace F2 := F2.keep K (ninS mz (ninS mo nin0)); rw [PL_12] at A' B'; clear K A B; have A := A'; have B := B'; clear A' B'
  replace r := r.ald8 173 at_171 rfl
  replace r := r.ald9 175 at_173 rfl
  replace r := r.bipushV 177 at_175 rfl (13 : Int32) bi_13
  replace r := r.lld1 178 at_177 rfl
  replace r := r.lld3 179 at_178 rfl
  obtain ⟨_, h', ⟨rfl, K, A', B'⟩, r'⟩ := r.callS (rest := []) 182 at_179 rfl (put_met hw z o zo 13 a b _ _ _ n0 gz go A B (by rw [PL_len _ _ _ (by decide)]; decide) (by rw [PL_len _ _ _ (by decide)]; decide)) (wd_12 hw) (wd_13 hw) (wd_14 hw) (wd_15 hw) pd_3 rfl rfl rfl (by decide) (Nat.le_of_ble_eq_true rfl) (Nat.le_of_ble_eq_true rfl) (Nat.le_of_ble_eq_true rfl) (Nat.le_of_ble_eq_true rfl)
  clear r; have r := r'; clear r'
  change Go w l _ Z n0 _ _ _ _ _ _ [] _ _ _ at r
  replace E2 := E2.keep K; replace F2 := F2.keep K (ninS mz (ninS mo nin0)); rw [PL_13] at A' B'; clear K A B; have A := A'; have B := B'; clear A' B'
  replace r := r.ald8 184 at_182 rfl
  replace r := r.ald9 186 at_184 rfl
  replace r := r.bipushV 188 at_186 rfl (14 : Int32) bi_14
  replace r := r.lld1 189 at_188 rfl
  replace r := r.lld3 190 at_189 rfl
  obtain ⟨_, h', ⟨rfl, K, A', B'⟩, r'⟩ := r.callS (rest := []) 193 at_190 rfl (put_met hw z o zo 14 a b _ _ _ n0 gz go A B (by rw [PL_len _ _ _ (by decide)]; decide) (by rw [PL_len _ _ _ (by decide)]; decide)) (wd_12 hw) (wd_13 hw) (wd_14 hw) (wd_15 hw) pd_3 rfl rfl rfl (by decide) (Nat.le_of_ble_eq_true rfl) (Nat.le_of_ble_eq_true rfl) (Nat.le_of_ble_eq_true rfl) (Nat.le_of_ble_eq_true rfl)
  clear r; have r := r'; clear r'
  change Go w l _ Z n0 _ _ _ _ _ _ [] _ _ _ at r
  replace E2 := E2.keep K; replace F2 := F2.keep K (ninS mz (ninS mo nin0)); rw [PL_14] at A' B'; clear K A B; have A := A'; have B := B'; clear A' B'
  replace r := r.ald8 195 at_193 rfl
  replace r := r.ald9 197 at_195 rfl
  replace r := r.bipushV 199 at_197 rfl (15 : Int32) bi_15
  replace r := r.lld1 200 at_199 rfl
  replace r := r.lld3 201 at_200 rfl
  obtain ⟨_, h', ⟨rfl, K, A', B'⟩, r'⟩ := r.callS (rest := []) 204 at_201 rfl (put_met hw z o zo 15 a b _ _ _ n0 gz go A B (by rw [PL_len _ _ _ (by decide)]; decide) (by rw [PL_len _ _ _ (by decide)]; decide)) (wd_12 hw) (wd_13 hw) (wd_14 hw) (wd_15 hw) pd_3 rfl rfl rfl (by decide) (Nat.le_of_ble_eq_true rfl) (Nat.le_of_ble_eq_true rfl) (Nat.le_of_ble_eq_true rfl) (Nat.le_of_ble_eq_true rfl)
  clear r; have r := r'; clear r'
  change Go w l _ Z n0 _ _ _ _ _ _ [] _ _ _ at r
  replace E2 := E2.keep K; replace F2 := F2.keep K (ninS mz (ninS mo nin0)); rw [PL_15] at A' B'; clear K A B; have A := A'; have B := B'; clear A' B'
  replace r := r.ald7 206 at_204 rfl
  replace r := r.ald8 208 at_206 rfl
  obtain ⟨_, h', ⟨rfl, K, A'⟩, r'⟩ := r.callV (as := [.ref z]) (rest := []) 211 at_208 rfl (up_met hw m z mz _ (q + 1) (by omega) (by omega) (PL_len _ _ _ (by decide)) _ n0 gz F2 A) E2 (wd_16 hw) (wd_17 hw) (wd_18 hw) (wd_19 hw) (wd_2 hw) (wd_20 hw) pd_4 rfl rfl rfl (by decide) (Nat.le_of_ble_eq_true rfl) (Nat.le_of_ble_eq_true rfl) (Nat.le_of_ble_eq_true rfl) (Nat.le_of_ble_eq_true rfl)
  clear r; have r := r'; clear r'
  change Go w l _ Z n0 _ _ _ _ _ _ [] _ _ _ at r
  replace B := B.keep K (ninS (Ne.symm zo) nin0); clear K A; have A := A'; clear A'
  have lz : (upTo (q + 1) (PL a b 16) (q + 1 - 1)).length = 16 := by rw [upTo_len]; exact PL_len _ _ _ (by decide)
  have hz : ∀ k, k < 16 → (upTo (q + 1) (PL a b 16) (q + 1 - 1)).getD k 0 = if k % (q + 1) = 0 ∧ 1 ≤ k / (q + 1) ∧ k / (q + 1) < q + 1 then top else (PL a b 16).getD k 0 := fun k hk => upTo_get _ _ (by omega) k (by rw [PL_len _ _ _ (by decide)]; exact hk) _
  replace r := r.iconstV 212 at_211 rfl (1 : Int32) ic_1
  replace r := r.ist10 214 at_212 rfl (One.of rfl)
  replace r := r.ild10 216 at_214 rfl
  replace r := r.ald8 218 at_216 rfl
  replace r := r.ald9 220 at_218 rfl
  replace r := r.iconstV 221 at_220 rfl (0 : Int32) ic_0
  replace r := r.ild6 223 at_221 rfl
  obtain ⟨_, _, ⟨_, rfl, rfl, rfl⟩, r'⟩ := r.callS (rest := [.int 1]) 226 at_223 rfl (chk_met hw z o 0 (q + 1) _ _ (by decide) (by omega) (by omega) _ n0 A B lz (PL_len _ _ _ (by decide)) (hz 0 (by decide))) (wd_21 hw) (wd_22 hw) (wd_14 hw) (wd_23 hw) pd_5 rfl rfl rfl (by decide) (Nat.le_of_ble_eq_true rfl) (Nat.le_of_ble_eq_true rfl) (Nat.le_of_ble_eq_true rfl) (Nat.le_of_ble_eq_true rfl)
  clear r; have r := r'; clear r'
  change Go w l _ Z n0 _ _ _ _ _ _ [.int 1, .int 1] _ _ _ at r
  replace r := r.iand 227 at_226 rfl
  rw [show (1 : Int32) &&& 1 = 1 from rfl] at r
  replace r := r.ist10 229 at_227 rfl (One.of rfl)
  replace r := r.ild10 231 at_229 rfl
  replace r := r.ald8 233 at_231 rfl
  replace r := r.ald9 235 at_233 rfl
  replace r := r.iconstV 236 at_235 rfl (1 : Int32) ic_1
  replace r := r.ild6 238 at_236 rfl
  obtain ⟨_, _, ⟨_, rfl, rfl, rfl⟩, r'⟩ := r.callS (rest := [.int 1]) 241 at_238 rfl (chk_met hw z o 1 (q + 1) _ _ (by decide) (by omega) (by omega) _ n0 A B lz (PL_len _ _ _ (by decide)) (hz 1 (by decide))) (wd_21 hw) (wd_22 hw) (wd_14 hw) (wd_23 hw) pd_5 rfl rfl rfl (by decide) (Nat.le_of_ble_eq_true rfl) (Nat.le_of_ble_eq_true rfl) (Nat.le_of_ble_eq_true rfl) (Nat.le_of_ble_eq_true rfl)
  clear r; have r := r'; clear r'
  change Go w l _ Z n0 _ _ _ _ _ _ [.int 1, .int 1] _ _ _ at r
  replace r := r.iand 242 at_241 rfl
  rw [show (1 : Int32) &&& 1 = 1 from rfl] at r
  replace r := r.ist10 244 at_242 rfl (One.of rfl)
  replace r := r.ild10 246 at_244 rfl
  replace r := r.ald8 248 at_246 rfl
  replace r := r.ald9 250 at_248 rfl
  replace r := r.iconstV 251 at_250 rfl (2 : Int32) ic_2
  replace r := r.ild6 253 at_251 rfl
  obtain ⟨_, _, ⟨_, rfl, rfl, rfl⟩, r'⟩ := r.callS (rest := [.int 1]) 256 at_253 rfl (chk_met hw z o 2 (q + 1) _ _ (by decide) (by omega) (by omega) _ n0 A B lz (PL_len _ _ _ (by decide)) (hz 2 (by decide))) (wd_21 hw) (wd_22 hw) (wd_14 hw) (wd_23 hw) pd_5 rfl rfl rfl (by decide) (Nat.le_of_ble_eq_true rfl) (Nat.le_of_ble_eq_true rfl) (Nat.le_of_ble_eq_true rfl) (Nat.le_of_ble_eq_true rfl)
  clear r; have r := r'; clear r'
  change Go w l _ Z n0 _ _ _ _ _ _ [.int 1, .int 1] _ _ _ at r
  replace r := r.iand 257 at_256 rfl
  rw [show (1 : Int32) &&& 1 = 1 from rfl] at r
  replace r := r.ist10 259 at_257 rfl (One.of rfl)
  replace r := r.ild10 261 at_259 rfl
  replace r := r.ald8 263 at_261 rfl
  replace r := r.ald9 265 at_263 rfl
  replace r := r.iconstV 266 at_265 rfl (3 : Int32) ic_3
  replace r := r.ild6 268 at_266 rfl
  obtain ⟨_, _, ⟨_, rfl, rfl, rfl⟩, r'⟩ := r.callS (rest := [.int 1]) 271 at_268 rfl (chk_met hw z o 3 (q + 1) _ _ (by decide) (by omega) (by omega) _ n0 A B lz (PL_len _ _ _ (by decide)) (hz 3 (by decide))) (wd_21 hw) (wd_22 hw) (wd_14 hw) (wd_23 hw) pd_5 rfl rfl rfl (by decide) (Nat.le_of_ble_eq_true rfl) (Nat.le_of_ble_eq_true rfl) (Nat.le_of_ble_eq_true rfl) (Nat.le_of_ble_eq_true rfl)
  clear r; have r := r'; clear r'
  change Go w l _ Z n0 _ _ _ _ _ _ [.int 1, .int 1] _ _ _ at r
  replace r := r.iand 272 at_271 rfl
  rw [show (1 : Int32) &&& 1 = 1 from rfl] at r
  replace r := r.ist10 274 at_272 rfl (One.of rfl)
  replace r := r.ild10 276 at_274 rfl
  replace r := r.ald8 278 at_276 rfl
  replace r := r.ald9 280 at_278 rfl
  replace r := r.iconstV 281 at_280 rfl (4 : Int32) ic_4
  replace r := r.ild6 283 at_281 rfl
  obtain ⟨_, _, ⟨_, rfl, rfl, rfl⟩, r'⟩ := r.callS (rest := [.int 1]) 286 at_283 rfl (chk_met hw z o 4 (q + 1) _ _ (by decide) (by omega) (by omega) _ n0 A B lz (PL_len _ _ _ (by decide)) (hz 4 (by decide))) (wd_21 hw) (wd_22 hw) (wd_14 hw) (wd_23 hw) pd_5 rfl rfl rfl (by decide) (Nat.le_of_ble_eq_true rfl) (Nat.le_of_ble_eq_true rfl) (Nat.le_of_ble_eq_true rfl) (Nat.le_of_ble_eq_true rfl)
  clear r; have r := r'; clear r'
  change Go w l _ Z n0 _ _ _ _ _ _ [.int 1, .int 1] _ _ _ at r
  replace r := r.iand 287 at_286 rfl
  rw [show (1 : Int32) &&& 1 = 1 from rfl] at r
  replace r := r.ist10 289 at_287 rfl (One.of rfl)
  replace r := r.ild10 291 at_289 rfl
  replace r := r.ald8 293 at_291 rfl
  replace r := r.ald9 295 at_293 rfl
  replace r := r.iconstV 296 at_295 rfl (5 : Int32) ic_5
  replace r := r.ild6 298 at_296 rfl
  obtain ⟨_, _, ⟨_, rfl, rfl, rfl⟩, r'⟩ := r.callS (rest := [.int 1]) 301 at_298 rfl (chk_met hw z o 5 (q + 1) _ _ (by decide) (by omega) (by omega) _ n0 A B lz (PL_len _ _ _ (by decide)) (hz 5 (by decide))) (wd_21 hw) (wd_22 hw) (wd_14 hw) (wd_23 hw) pd_5 rfl rfl rfl (by decide) (Nat.le_of_ble_eq_true rfl) (Nat.le_of_ble_eq_true rfl) (Nat.le_of_ble_eq_true rfl) (Nat.le_of_ble_eq_true rfl)
  clear r; have r := r'; clear r'
  change Go w l _ Z n0 _ _ _ _ _ _ [.int 1, .int 1] _ _ _ at r
  replace r := r.iand 302 at_301 rfl
  rw [show (1 : Int32) &&& 1 = 1 from rfl] at r
  replace r := r.ist10 304 at_302 rfl (One.of rfl)
  replace r := r.ild10 306 at_304 rfl
  replace r := r.ald8 308 at_306 rfl
  replace r := r.ald9 310 at_308 rfl
  replace r := r.bipushV 312 at_310 rfl (6 : Int32) bi_6
  replace r := r.ild6 314 at_312 rfl
  obtain ⟨_, _, ⟨_, rfl, rfl, rfl⟩, r'⟩ := r.callS (rest := [.int 1]) 317 at_314 rfl (chk_met hw z o 6 (q + 1) _ _ (by decide) (by omega) (by omega) _ n0 A B lz (PL_len _ _ _ (by decide)) (hz 6 (by decide))) (wd_21 hw) (wd_22 hw) (wd_14 hw) (wd_23 hw) pd_5 rfl rfl rfl (by decide) (Nat.le_of_ble_eq_true rfl) (Nat.le_of_ble_eq_true rfl) (Nat.le_of_ble_eq_true rfl) (Nat.le_of_ble_eq_true rfl)
  clear r; have r := r'; clear r'
  change Go w l _ Z n0 _ _ _ _ _ _ [.int 1, .int 1] _ _ _ at r
  replace r := r.iand 318 at_317 rfl
  rw [show (1 : Int32) &&& 1 = 1 from rfl] at r
  replace r := r.ist10 320 at_318 rfl (One.of rfl)
  replace r := r.ild10 322 at_320 rfl
  replace r := r.ald8 324 at_322 rfl
  replace r := r.ald9 326 at_324 rfl
  replace r := r.bipushV 328 at_326 rfl (7 : Int32) bi_7
  replace r := r.ild6 330 at_328 rfl
  obtain ⟨_, _, ⟨_, rfl, rfl, rfl⟩, r'⟩ := r.callS (rest := [.int 1]) 333 at_330 rfl (chk_met hw z o 7 (q + 1) _ _ (by decide) (by omega) (by omega) _ n0 A B lz (PL_len _ _ _ (by decide)) (hz 7 (by decide))) (wd_21 hw) (wd_22 hw) (wd_14 hw) (wd_23 hw) pd_5 rfl rfl rfl (by decide) (Nat.le_of_ble_eq_true rfl) (Nat.le_of_ble_eq_true rfl) (Nat.le_of_ble_eq_true rfl) (Nat.le_of_ble_eq_true rfl)
  clear r; have r := r'; clear r'
  change Go w l _ Z n0 _ _ _ _ _ _ [.int 1, .int 1] _ _ _ at r
  replace r := r.iand 334 at_333 rfl
  rw [show (1 : Int32) &&& 1 = 1 from rfl] at r
  replace r := r.ist10 336 at_334 rfl (One.of rfl)
  replace r := r.ild10 338 at_336 rfl
  replace r := r.ald8 340 at_338 rfl
  replace r := r.ald9 342 at_340 rfl
  replace r := r.bipushV 344 at_342 rfl (8 : Int32) bi_8
  replace r := r.ild6 346 at_344 rfl
  obtain ⟨_, _, ⟨_, rfl, rfl, rfl⟩, r'⟩ := r.callS (rest := [.int 1]) 349 at_346 rfl (chk_met hw z o 8 (q + 1) _ _ (by decide) (by omega) (by omega) _ n0 A B lz (PL_len _ _ _ (by decide)) (hz 8 (by decide))) (wd_21 hw) (wd_22 hw) (wd_14 hw) (wd_23 hw) pd_5 rfl rfl rfl (by decide) (Nat.le_of_ble_eq_true rfl) (Nat.le_of_ble_eq_true rfl) (Nat.le_of_ble_eq_true rfl) (Nat.le_of_ble_eq_true rfl)
  clear r; have r := r'; clear r'
  change Go w l _ Z n0 _ _ _ _ _ _ [.int 1, .int 1] _ _ _ at r
  replace r := r.iand 350 at_349 rfl
  rw [show (1 : Int32) &&& 1 = 1 from rfl] at r
  replace r := r.ist10 352 at_350 rfl (One.of rfl)
  replace r := r.ild10 354 at_352 rfl
  replace r := r.ald8 356 at_354 rfl
  replace r := r.ald9 358 at_356 rfl
  replace r := r.bipushV 360 at_358 rfl (9 : Int32) bi_9
  replace r := r.ild6 362 at_360 rfl
  obtain ⟨_, _, ⟨_, rfl, rfl, rfl⟩, r'⟩ := r.callS (rest := [.int 1]) 365 at_362 rfl (chk_met hw z o 9 (q + 1) _ _ (by decide) (by omega) (by omega) _ n0 A B lz (PL_len _ _ _ (by decide)) (hz 9 (by decide))) (wd_21 hw) (wd_22 hw) (wd_14 hw) (wd_23 hw) pd_5 rfl rfl rfl (by decide) (Nat.le_of_ble_eq_true rfl) (Nat.le_of_ble_eq_true rfl) (Nat.le_of_ble_eq_true rfl) (Nat.le_of_ble_eq_true rfl)
  clear r; have r := r'; clear r'
  change Go w l _ Z n0 _ _ _ _ _ _ [.int 1, .int 1] _ _ _ at r
  replace r := r.iand 366 at_365 rfl
  rw [show (1 : Int32) &&& 1 = 1 from rfl] at r
  replace r := r.ist10 368 at_366 rfl (One.of rfl)
  replace r := r.ild10 370 at_368 rfl
  replace r := r.ald8 372 at_370 rfl
  replace r := r.ald9 374 at_372 rfl
  replace r := r.bipushV 376 at_374 rfl (10 : Int32) bi_10
  replace r := r.ild6 378 at_376 rfl
  obtain ⟨_, _, ⟨_, rfl, rfl, rfl⟩, r'⟩ := r.callS (rest := [.int 1]) 381 at_378 rfl (chk_met hw z o 10 (q + 1) _ _ (by decide) (by omega) (by omega) _ n0 A B lz (PL_len _ _ _ (by decide)) (hz 10 (by decide))) (wd_21 hw) (wd_22 hw) (wd_14 hw) (wd_23 hw) pd_5 rfl rfl rfl (by decide) (Nat.le_of_ble_eq_true rfl) (Nat.le_of_ble_eq_true rfl) (Nat.le_of_ble_eq_true rfl) (Nat.le_of_ble_eq_true rfl)
  clear r; have r := r'; clear r'
  change Go w l _ Z n0 _ _ _ _ _ _ [.int 1, .int 1] _ _ _ at r
  replace r := r.iand 382 at_381 rfl
  rw [show (1 : Int32) &&& 1 = 1 from rfl] at r
  replace r := r.ist10 384 at_382 rfl (One.of rfl)
  replace r := r.ild10 386 at_384 rfl
  replace r := r.ald8 388 at_386 rfl
  replace r := r.ald9 390 at_388 rfl
  replace r := r.bipushV 392 at_390 rfl (11 : Int32) bi_11
  replace r := r.ild6 394 at_392 rfl
  obtain ⟨_, _, ⟨_, rfl, rfl, rfl⟩, r'⟩ := r.callS (rest := [.int 1]) 397 at_394 rfl (chk_met hw z o 11 (q + 1) _ _ (by decide) (by omega) (by omega) _ n0 A B lz (PL_len _ _ _ (by decide)) (hz 11 (by decide))) (wd_21 hw) (wd_22 hw) (wd_14 hw) (wd_23 hw) pd_5 rfl rfl rfl (by decide) (Nat.le_of_ble_eq_true rfl) (Nat.le_of_ble_eq_true rfl) (Nat.le_of_ble_eq_true rfl) (Nat.le_of_ble_eq_true rfl)
  clear r; have r := r'; clear r'
  change Go w l _ Z n0 _ _ _ _ _ _ [.int 1, .int 1] _ _ _ at r
  replace r := r.iand 398 at_397 rfl
  rw [show (1 : Int32) &&& 1 = 1 from rfl] at r
  replace r := r.ist10 400 at_398 rfl (One.of rfl)
  replace r := r.ild10 402 at_400 rfl
  replace r := r.ald8 404 at_402 rfl
  replace r := r.ald9 406 at_404 rfl
  replace r := r.bipushV 408 at_406 rfl (12 : Int32) bi_12
  replace r := r.ild6 410 at_408 rfl
  obtain ⟨_, _, ⟨_, rfl, rfl, rfl⟩, r'⟩ := r.callS (rest := [.int 1]) 413 at_410 rfl (chk_met hw z o 12 (q + 1) _ _ (by decide) (by omega) (by omega) _ n0 A B lz (PL_len _ _ _ (by decide)) (hz 12 (by decide))) (wd_21 hw) (wd_22 hw) (wd_14 hw) (wd_23 hw) pd_5 rfl rfl rfl (by decide) (Nat.le_of_ble_eq_true rfl) (Nat.le_of_ble_eq_true rfl) (Nat.le_of_ble_eq_true rfl) (Nat.le_of_ble_eq_true rfl)
  clear r; have r := r'; clear r'
  change Go w l _ Z n0 _ _ _ _ _ _ [.int 1, .int 1] _ _ _ at r
  replace r := r.iand 414 at_413 rfl
  rw [show (1 : Int32) &&& 1 = 1 from rfl] at r
  replace r := r.ist10 416 at_414 rfl (One.of rfl)
  replace r := r.ild10 418 at_416 rfl
  replace r := r.ald8 420 at_418 rfl
  replace r := r.ald9 422 at_420 rfl
  replace r := r.bipushV 424 at_422 rfl (13 : Int32) bi_13
  replace r := r.ild6 426 at_424 rfl
  obtain ⟨_, _, ⟨_, rfl, rfl, rfl⟩, r'⟩ := r.callS (rest := [.int 1]) 429 at_426 rfl (chk_met hw z o 13 (q + 1) _ _ (by decide) (by omega) (by omega) _ n0 A B lz (PL_len _ _ _ (by decide)) (hz 13 (by decide))) (wd_21 hw) (wd_22 hw) (wd_14 hw) (wd_23 hw) pd_5 rfl rfl rfl (by decide) (Nat.le_of_ble_eq_true rfl) (Nat.le_of_ble_eq_true rfl) (Nat.le_of_ble_eq_true rfl) (Nat.le_of_ble_eq_true rfl)
  clear r; have r := r'; clear r'
  change Go w l _ Z n0 _ _ _ _ _ _ [.int 1, .int 1] _ _ _ at r
  replace r := r.iand 430 at_429 rfl
  rw [show (1 : Int32) &&& 1 = 1 from rfl] at r
  replace r := r.ist10 432 at_430 rfl (One.of rfl)
  replace r := r.ild10 434 at_432 rfl
  replace r := r.ald8 436 at_434 rfl
  replace r := r.ald9 438 at_436 rfl
  replace r := r.bipushV 440 at_438 rfl (14 : Int32) bi_14
  replace r := r.ild6 442 at_440 rfl
  obtain ⟨_, _, ⟨_, rfl, rfl, rfl⟩, r'⟩ := r.callS (rest := [.int 1]) 445 at_442 rfl (chk_met hw z o 14 (q + 1) _ _ (by decide) (by omega) (by omega) _ n0 A B lz (PL_len _ _ _ (by decide)) (hz 14 (by decide))) (wd_21 hw) (wd_22 hw) (wd_14 hw) (wd_23 hw) pd_5 rfl rfl rfl (by decide) (Nat.le_of_ble_eq_true rfl) (Nat.le_of_ble_eq_true rfl) (Nat.le_of_ble_eq_true rfl) (Nat.le_of_ble_eq_true rfl)
  clear r; have r := r'; clear r'
  change Go w l _ Z n0 _ _ _ _ _ _ [.int 1, .int 1] _ _ _ at r
  replace r := r.iand 446 at_445 rfl
  rw [show (1 : Int32) &&& 1 = 1 from rfl] at r
  replace r := r.ist10 448 at_446 rfl (One.of rfl)
  replace r := r.ild10 450 at_448 rfl
  replace r := r.ald8 452 at_450 rfl
  replace r := r.ald9 454 at_452 rfl
  replace r := r.bipushV 456 at_454 rfl (15 : Int32) bi_15
  replace r := r.ild6 458 at_456 rfl
  obtain ⟨_, _, ⟨_, rfl, rfl, rfl⟩, r'⟩ := r.callS (rest := [.int 1]) 461 at_458 rfl (chk_met hw z o 15 (q + 1) _ _ (by decide) (by omega) (by omega) _ n0 A B lz (PL_len _ _ _ (by decide)) (hz 15 (by decide))) (wd_21 hw) (wd_22 hw) (wd_14 hw) (wd_23 hw) pd_5 rfl rfl rfl (by decide) (Nat.le_of_ble_eq_true rfl) (Nat.le_of_ble_eq_true rfl) (Nat.le_of_ble_eq_true rfl) (Nat.le_of_ble_eq_true rfl)
  clear r; have r := r'; clear r'
  change Go w l _ Z n0 _ _ _ _ _ _ [.int 1, .int 1] _ _ _ at r
  replace r := r.iand 462 at_461 rfl
  rw [show (1 : Int32) &&& 1 = 1 from rfl] at r
  replace r := r.ist10 464 at_462 rfl (One.of rfl)
  replace r := r.ild10 466 at_464 rfl
  exact r.retN at_466 (Or.inl rfl) (z' := 1) rfl (by rfl) (by decide) (by decide)
set_option maxRecDepth 65536 in
set_option maxHeartbeats 40000000 in
theorem comes_1 {Post : Tables → Env → Array Value → State → Outcome → State → Prop} (hpost : ∀ tb e args s v u, (limb_1_1.after args s (.returned v) u = true ∧ limb_1_2.after args s (.returned v) u = true ∧ True) → FrameEnd s (.returned v) u (Jvm.fieldLocs frame_1_writes args s ++ Jvm.arrayLocs frame_1_arrays args s ++ Jvm.staticLocs frame_1_statics s) 16 192 → Post tb e args s (.returned v) u) :
    ArmFor flags0 classFile x code maxLocals ret World_1 tables_1 room_1 Calls_1 rest_1 Pre_1 Post := by
  intro l hfl _ _ p e ha hc hk s m args below hf hA hF happ hP
  obtain ⟨hcalls, hrest, hpre⟩ := hP
  obtain ⟨-, -, -, hnamed, -, -, -, hat⟩ := (Spec.applies_iff hf).mp happ
  obtain ⟨hg, hn⟩ := and_e (Cond.before_iff.mp (show (Jvm.Cond.and given_1 narrow_1).before args s = true from hpre))
  obtain ⟨g1, g2⟩ := and_e hg
  obtain ⟨g3, g4⟩ := and_e g2
  obtain ⟨g5, g6⟩ := and_e g4
  obtain ⟨w0, w1, w2, rfl⟩ : ∃ w0 w1 w2 : Value, args = #[w0, w1, w2] := by
    have hs : args.size = 3 := by simpa [Cond.value, given_1] using g1
    obtain ⟨L⟩ := args
    match L, hs with
    | [w0, w1, w2], _ => exact ⟨w0, w1, w2, rfl⟩
  have hw : Ws s _ := fun d (hd : d ∈ tables_1) => atoms_spec (ws := Jvm.Cond.code x code maxLocals ret :: tables_1) hat d (List.mem_cons_of_mem _ hd)
  obtain ⟨i0, ei0⟩ := is_v g3
  obtain rfl : w0 = (.int i0) := Option.some.inj ei0
  obtain ⟨i1, ei1⟩ := isL_v g5
  obtain rfl : w1 = (.long i1) := Option.some.inj ei1
  obtain ⟨i2, ei2⟩ := isL_v g6
  obtain rfl : w2 = (.long i2) := Option.some.inj ei2
  obtain ⟨n, o, h1, h2, h3, _, L, rfl, ⟨⟨_, rfl, rfl⟩, N⟩, hq⟩ := law_met (l := l) hw i0 i1 i2 s.heap s.heap.size (Nat.le_refl _) tables_1 p e ha hc hk s m _ below hf ((Spec.applies_iff_loose hf).mp happ).1 ⟨rfl, State.Warmed39.refl s, rfl⟩ trivial
  refine ⟨n, _, h1, h2, h3, hpost _ _ _ _ _ _ ⟨Cond.after_iff.mpr rfl, Cond.after_iff.mpr (eq_i res_at (Term.int_eval (1)) rfl), trivial⟩ ⟨hq.1, hq.2.1, (hq.2.2.sift fun y hy => Or.inr (N y hy)).mono (by decide) (by decide)⟩⟩
theorem main_1_1 : Claimed_1_1 := comes_1 fun _ _ _ _ _ _ h hF => ⟨h.1, hF⟩
theorem main_1_2 : Claimed_1_2 := comes_1 fun _ _ _ _ _ _ h hF => ⟨h.2.1, hF⟩
end Jvm.Pilot.@@N@@
namespace Jvm.Pilot.@@N@@
open Jvm Jvm.ClassFile Sem Op Lib Jvm.Free Jvm.Stand Jvm.Pilot.@@N@@.Jvm.D
/-! MADE BY PROGRAM (witnessworld.py) out of the Statement's table words and the real class files: 11 classes; the members and pool entries that the words name. The judged class is class 1, her method 1. -/
namespace start1
open Jvm.ClassFile
def u (s : String) : CpInfo := .utf8 (stringToUtf16 s)
/-- a pool by its gaps: so many unusable entries, then the entry; so many at the end -/
def gap : Nat → List CpInfo → List CpInfo
  | 0, r => r
  | n + 1, r => .unusable :: gap n r
def poolList (es : List (Nat × CpInfo)) (last : Nat) : List CpInfo := es.foldr (fun e r => gap e.1 (e.2 :: r)) (gap last [])
def pool (es : List (Nat × CpInfo)) (last : Nat) : Array CpInfo := ⟨poolList es last⟩
def fileOf (pool : Array CpInfo) (this : Nat) (attrs : Array Attribute := #[]) (ms : Array MethodInfo := #[]) (fl : Nat := 33) (sup : Nat := 0) (ifs : Array Nat := #[]) (fds : Array FieldInfo := #[]) : ClassFile where
  minorVersion := 0
  majorVersion := 65
  constantPool := pool
  accessFlags := fl
  thisClass := this
  superClass := sup
  interfaces := ifs
  fields := fds
  methods := ms
  attributes := attrs
def plain (name : String) (sup : Option ClassId) : Class where
  name := name
  kind := .ordinary
  loader := none
  accessFlags := 33
  super := sup
  interfaces := #[]
  cf := none
  fields := #[]
  methods := #[]
  instanceTypes := #[]
  staticTypes := #[]
  resolved := #[]
  callSites := []
  init := .initialized
  statics := none
  mirror := none

def pool0 : Array CpInfo := pool [(5, u "<init>"), (0, u "()V"), (1, .class_ 10), (1, u "java/lang/Object")] 113

def k0c0 : Code := { maxStack := 0, maxLocals := 1, code := object_method_1_code, exceptionTable := #[], attributes := #[] }
def k0m0 : Method := { name := "<init>", desc := "()V", sig := { parameters := [], returnType := none }, accessFlags := 1, code := some k0c0 }
/-- java/lang/Object -/
def k0 : Class := { plain "java/lang/Object" none with
  accessFlags := 33
  interfaces := #[]
  cf := some (fileOf pool0 8 #[] #[{ accessFlags := 1, nameIndex := 5, descriptorIndex := 6, attributes := #[] }] 33 0 #[] #[])
  fields := #[]
  methods := #[k0m0]
  instanceTypes := #[]
  staticTypes := #[]
  resolved := Array.replicate 124 none
  statics := none }

def pool1 : Array CpInfo := pool [(2, .class_ 4), (1, u "java/lang/Object"), (0, u "<init>"), (0, u "()V"), (0, .class_ 8), (0, u "com/example/slott/slott/engine/time/Dbm"), (0, .methodref 7 10), (0, .nameAndType 5 11), (0, u "(I)V"), (0, .methodref 13 14), (0, .class_ 15), (0, .nameAndType 16 17), (0, u "com/example/slott/slott/engine/time/DbmUpPinLaw"), (0, u "put"), (0, u "([J[JIJJ)V"), (0, .methodref 7 19), (0, .nameAndType 20 21), (0, u "up"), (0, u "([J)V"), (0, .methodref 13 23), (0, .nameAndType 24 25), (0, u "check"), (0, u "([J[JII)Z"), (2, .long 9223372036854775807), (3, u "law"), (0, u "(IJJ)Z")] 3

def k1m0 : Method := { name := "<init>", desc := "()V", sig := { parameters := [], returnType := none }, accessFlags := 1, code := none }
def k1c1 : Code := { maxStack := 7, maxLocals := 11, code := code, exceptionTable := #[], attributes := #[] }
def k1m1 : Method := { name := "law", desc := "(IJJ)Z", sig := { parameters := [.int, .long, .long], returnType := some .boolean }, accessFlags := 9, code := some k1c1 }
def k1c2 : Code := { maxStack := 6, maxLocals := 9, code := method_3_code, exceptionTable := #[], attributes := #[] }
def k1m2 : Method := { name := "put", desc := "([J[JIJJ)V", sig := { parameters := [(.array .long), (.array .long), .int, .long, .long], returnType := none }, accessFlags := 10, code := some k1c2 }
def k1c3 : Code := { maxStack := 4, maxLocals := 9, code := method_4_code, exceptionTable := #[], attributes := #[] }
def k1m3 : Method := { name := "check", desc := "([J[JII)Z", sig := { parameters := [(.array .long), (.array .long), .int, .int], returnType := some .boolean }, accessFlags := 10, code := some k1c3 }
/-- com/example/slott/slott/engine/time/DbmUpPinLaw -/
def k1 : Class := { plain "com/example/slott/slott/engine/time/DbmUpPinLaw" (some 0) with
  accessFlags := 49
  interfaces := #[]
  cf := some (fileOf pool1 13 #[] #[{ accessFlags := 1, nameIndex := 5, descriptorIndex := 6, attributes := #[] }, { accessFlags := 9, nameIndex := 32, descriptorIndex := 33, attributes := #[] }, { accessFlags := 10, nameIndex := 16, descriptorIndex := 17, attributes := #[] }, { accessFlags := 10, nameIndex := 24, descriptorIndex := 25, attributes := #[] }] 49 2 #[] #[])
  fields := #[]
  methods := #[k1m0, k1m1, k1m2, k1m3]
  instanceTypes := #[]
  staticTypes := #[]
  resolved := Array.replicate 37 none
  statics := none }

def pool2 : Array CpInfo := pool [(3, .methodref 4 5), (0, .class_ 6), (0, .nameAndType 7 8), (0, u "java/lang/Object"), (0, u "<init>"), (0, u "()V"), (0, .fieldref 10 11), (0, .class_ 12), (0, .nameAndType 13 14), (0, u "com/example/slott/slott/engine/time/Dbm"), (0, u "dimension"), (0, u "I"), (10, .long 9223372036854775807), (12, u "([J)V"), (15, u "INFINITY"), (0, u "J"), (1, u "NOT_COMPARED"), (0, u "LESS_OR_EQUAL_ZERO"), (2, u "EMPTY"), (0, u "(I)V"), (14, u "up")] 7

def k2c0 : Code := { maxStack := 3, maxLocals := 2, code := prog_52_method_1_code, exceptionTable := #[], attributes := #[] }
def k2m0 : Method := { name := "<init>", desc := "(I)V", sig := { parameters := [.int], returnType := none }, accessFlags := 0, code := some k2c0 }
def k2c1 : Code := { maxStack := 4, maxLocals := 3, code := prog_52_method_11_code, exceptionTable := #[], attributes := #[] }
def k2m1 : Method := { name := "up", desc := "([J)V", sig := { parameters := [(.array .long)], returnType := none }, accessFlags := 0, code := some k2c1 }
/-- com/example/slott/slott/engine/time/Dbm -/
def k2 : Class := { plain "com/example/slott/slott/engine/time/Dbm" (some 0) with
  accessFlags := 48
  interfaces := #[]
  cf := some (fileOf pool2 10 #[] #[{ accessFlags := 0, nameIndex := 7, descriptorIndex := 62, attributes := #[] }, { accessFlags := 0, nameIndex := 77, descriptorIndex := 38, attributes := #[] }] 48 4 #[] #[{ accessFlags := 24, nameIndex := 54, descriptorIndex := 55, attributes := #[] }, { accessFlags := 24, nameIndex := 57, descriptorIndex := 55, attributes := #[] }, { accessFlags := 26, nameIndex := 58, descriptorIndex := 55, attributes := #[] }, { accessFlags := 26, nameIndex := 61, descriptorIndex := 55, attributes := #[] }, { accessFlags := 18, nameIndex := 13, descriptorIndex := 14, attributes := #[] }])
  fields := #[{ name := "INFINITY", type := .long, accessFlags := 24, slot := 0, constantValue := 0 }, { name := "NOT_COMPARED", type := .long, accessFlags := 24, slot := 1, constantValue := 0 }, { name := "LESS_OR_EQUAL_ZERO", type := .long, accessFlags := 26, slot := 2, constantValue := 0 }, { name := "EMPTY", type := .long, accessFlags := 26, slot := 3, constantValue := 0 }, { name := "dimension", type := .int, accessFlags := 18, slot := 0, constantValue := 0 }]
  methods := #[k2m0, k2m1]
  instanceTypes := #[.int]
  staticTypes := #[.long, .long, .long, .long]
  resolved := Array.replicate 85 none
  statics := none }

def pool3 : Array CpInfo := pool [(1, u "java/lang/Cloneable"), (0, .class_ 1), (0, u "java/lang/Object"), (0, .class_ 3)] 3

/-- java/lang/Cloneable -/
def k3 : Class := { plain "java/lang/Cloneable" (some 0) with
  accessFlags := 1537
  interfaces := #[]
  cf := some (fileOf pool3 2 #[] #[] 1537 4 #[] #[])
  fields := #[]
  methods := #[]
  instanceTypes := #[]
  staticTypes := #[]
  resolved := Array.replicate 8 none
  statics := none }

def pool4 : Array CpInfo := pool [(1, u "java/io/Serializable"), (0, .class_ 1), (0, u "java/lang/Object"), (0, .class_ 3)] 3

/-- java/io/Serializable -/
def k4 : Class := { plain "java/io/Serializable" (some 0) with
  accessFlags := 1537
  interfaces := #[]
  cf := some (fileOf pool4 2 #[] #[] 1537 4 #[] #[])
  fields := #[]
  methods := #[]
  instanceTypes := #[]
  staticTypes := #[]
  resolved := Array.replicate 8 none
  statics := none }

/-- the primitive byte -/
def k5 : Class := { plain "byte" none with kind := .primitive 'B', accessFlags := 0x411 }
/-- [B -/
def k6 : Class := { plain "[B" (some 0) with kind := .array 5 .byte, interfaces := #[3, 4], accessFlags := 1041 }

/-- the primitive int -/
def k7 : Class := { plain "int" none with kind := .primitive 'I', accessFlags := 0x411 }
/-- [I -/
def k8 : Class := { plain "[I" (some 0) with kind := .array 7 .int, interfaces := #[3, 4], accessFlags := 1041 }

/-- the primitive long -/
def k9 : Class := { plain "long" none with kind := .primitive 'J', accessFlags := 0x411 }
/-- [J -/
def k10 : Class := { plain "[J" (some 0) with kind := .array 9 .long, interfaces := #[3, 4], accessFlags := 1041 }

def heap : Heap := #[]
def classes : Array Class := #[k0, k1, k2, k3, k4, k5, k6, k7, k8, k9, k10]
def interned : List (Array UInt16 × Addr) := []
def slotsUsed : Nat := 0
def theMethod : MethodId := ⟨1, 1⟩
def args0 : Array Value := #[.int 3, .long 5, .long 7]
def aboutOver (below : List Frame) : State where
  vm := { classes := classes, interned := interned.toArray }
  heap := heap
  slotsUsed := slotsUsed
  threads := #[{ frames := .invoking theMethod args0 :: below }]
def below0 : List Frame := [.native { method := ⟨0, 0⟩, args := #[] }]
def about1 : State := aboutOver below0
def p0 : Program := .bare "" "" ""
def e0 : Env := launch0.env 0 0 0
theorem w_frames : about1.frames = Frame.invoking theMethod args0 :: below0 := rfl
set_option maxRecDepth 65536 in
theorem w_args : argsFit about1.vm theMethod args0 = true := by decide +kernel
set_option maxRecDepth 65536 in
theorem w_heap : heapFits about1 = true := by decide +kernel
set_option maxRecDepth 65536 in
theorem w_runnable : about1.curStatus? = some .runnable := by decide +kernel
set_option maxRecDepth 65536 in
theorem w_alone : about1.alone = true := by decide +kernel
set_option maxRecDepth 65536 in
theorem w_named : about1.methodNamed? x = some theMethod := by decide +kernel
set_option maxRecDepth 65536 in
theorem w_hears : about1.hears theMethod below0 = true := by decide +kernel
set_option maxRecDepth 65536 in
theorem w_ripe : about1.ripe theMethod args0 below0 = true := by decide +kernel
theorem w_running : about1.status = .running := rfl
set_option maxRecDepth 65536 in
theorem w_room : about1.hasRoom e0.platform room_1 = true :=
  launch0.hasRoom_least _ room_1 (by decide +kernel) (by decide +kernel) (by decide +kernel) (by decide +kernel) (by decide +kernel) (by decide +kernel)
theorem allAtoms_all (ts : List Jvm.Cond) (a : Array Jvm.Value) (st : Jvm.State) : (allAtoms ts).before a st = ts.all (fun c => c.before a st) := by
  induction ts with
  | nil => rfl
  | cons c t ih =>
    show (Jvm.Cond.and c (allAtoms t)).before a st = _
    rw [Jvm.Cond.before_and, ih, List.all_cons]
def words1 : List Jvm.Cond := Jvm.Cond.code x code maxLocals ret :: tables_1
/-- a 'code' word, met by the world's own term for the bytes: nothing is compared byte by byte -/
theorem code_word {y : MethodName} {bytes : ByteArray} {mx : Nat} {rt : Option FieldType} {a : Array Value} {s : State} {m : MethodId} {meth : Method} {c : Code} (h1 : s.methodNamed? y = some m) (h2 : s.vm.method? m = some meth) (h3 : meth.code = some c) (h4 : c.code = bytes)
    (h5 : (c.maxLocals == mx && c.exceptionTable.isEmpty && decide (c.maxStack ≤ mostOperands) && decide (meth.sig.returnType = rt) && !meth.locks && decide (parseMethodDescriptor y.desc = some meth.sig)) = true) : (Jvm.Cond.code y bytes mx rt).before a s = true := by
  simp only [Bool.and_eq_true, beq_iff_eq, Bool.not_eq_true', decide_eq_true_eq] at h5
  obtain ⟨⟨⟨⟨⟨g1, g2⟩, g3⟩, g4⟩, g5⟩, g6⟩ := h5
  simp [Cond.before, Cond.holds, Cond.value, h1, h2, h3, h4, g1, g2, g3, g4, g5, g6]
def isCode : Jvm.Cond → Bool
  | .code _ _ _ _ => true
  | _ => false
theorem all_split {L : List Jvm.Cond} {P : Jvm.Cond → Bool} (h1 : L.all (fun c => isCode c || P c) = true) (h2 : ∀ c ∈ L.filter isCode, P c = true) : L.all P = true := by
  refine List.all_eq_true.mpr fun c hc => ?_
  have h := List.all_eq_true.mp h1 c hc
  rcases Bool.eq_false_or_eq_true (isCode c) with hi | hi
  · exact h2 c (List.mem_filter.mpr ⟨hc, hi⟩)
  · simpa [hi] using h
set_option maxRecDepth 65536 in
theorem w_c0 : (Jvm.Cond.code x code maxLocals ret).before args0 about1 = true := code_word (m := ⟨1, 1⟩) (meth := k1m1) (c := k1c1) (by decide +kernel) rfl rfl rfl (by decide +kernel)
set_option maxRecDepth 65536 in
theorem w_c1 : (Jvm.Cond.code ({ cls := "com/example/slott/slott/engine/time/Dbm", name := "<init>", desc := "(I)V" } : Jvm.MethodName) prog_52_method_1_code (2 : Nat) (Option.none : Option Jvm.ClassFile.FieldType)).before args0 about1 = true := code_word (m := ⟨2, 0⟩) (meth := k2m0) (c := k2c0) (by decide +kernel) rfl rfl rfl (by decide +kernel)
set_option maxRecDepth 65536 in
theorem w_c2 : (Jvm.Cond.code ({ cls := "java/lang/Object", name := "<init>", desc := "()V" } : Jvm.MethodName) object_method_1_code (1 : Nat) (Option.none : Option Jvm.ClassFile.FieldType)).before args0 about1 = true := code_word (m := ⟨0, 0⟩) (meth := k0m0) (c := k0c0) (by decide +kernel) rfl rfl rfl (by decide +kernel)
set_option maxRecDepth 65536 in
theorem w_c3 : (Jvm.Cond.code ({ cls := "com/example/slott/slott/engine/time/DbmUpPinLaw", name := "put", desc := "([J[JIJJ)V" } : Jvm.MethodName) method_3_code (9 : Nat) (Option.none : Option Jvm.ClassFile.FieldType)).before args0 about1 = true := code_word (m := ⟨1, 2⟩) (meth := k1m2) (c := k1c2) (by decide +kernel) rfl rfl rfl (by decide +kernel)
set_option maxRecDepth 65536 in
theorem w_c4 : (Jvm.Cond.code ({ cls := "com/example/slott/slott/engine/time/Dbm", name := "up", desc := "([J)V" } : Jvm.MethodName) prog_52_method_11_code (3 : Nat) (Option.none : Option Jvm.ClassFile.FieldType)).before args0 about1 = true := code_word (m := ⟨2, 1⟩) (meth := k2m1) (c := k2c1) (by decide +kernel) rfl rfl rfl (by decide +kernel)
set_option maxRecDepth 65536 in
theorem w_c5 : (Jvm.Cond.code ({ cls := "com/example/slott/slott/engine/time/DbmUpPinLaw", name := "check", desc := "([J[JII)Z" } : Jvm.MethodName) method_4_code (9 : Nat) (Option.some Jvm.ClassFile.FieldType.boolean)).before args0 about1 = true := code_word (m := ⟨1, 3⟩) (meth := k1m3) (c := k1c3) (by decide +kernel) rfl rfl rfl (by decide +kernel)
def codes1 : List Jvm.Cond := [Jvm.Cond.code x code maxLocals ret, Jvm.Cond.code ({ cls := "com/example/slott/slott/engine/time/Dbm", name := "<init>", desc := "(I)V" } : Jvm.MethodName) prog_52_method_1_code (2 : Nat) (Option.none : Option Jvm.ClassFile.FieldType), Jvm.Cond.code ({ cls := "java/lang/Object", name := "<init>", desc := "()V" } : Jvm.MethodName) object_method_1_code (1 : Nat) (Option.none : Option Jvm.ClassFile.FieldType), Jvm.Cond.code ({ cls := "com/example/slott/slott/engine/time/DbmUpPinLaw", name := "put", desc := "([J[JIJJ)V" } : Jvm.MethodName) method_3_code (9 : Nat) (Option.none : Option Jvm.ClassFile.FieldType), Jvm.Cond.code ({ cls := "com/example/slott/slott/engine/time/Dbm", name := "up", desc := "([J)V" } : Jvm.MethodName) prog_52_method_11_code (3 : Nat) (Option.none : Option Jvm.ClassFile.FieldType), Jvm.Cond.code ({ cls := "com/example/slott/slott/engine/time/DbmUpPinLaw", name := "check", desc := "([J[JII)Z" } : Jvm.MethodName) method_4_code (9 : Nat) (Option.some Jvm.ClassFile.FieldType.boolean)]
set_option maxRecDepth 65536 in
theorem codes_eq : words1.filter isCode = codes1 := rfl
theorem w_codes : ∀ c ∈ words1.filter isCode, c.before args0 about1 = true := by
  rw [codes_eq]
  intro c hc
  simp only [codes1, List.mem_cons, List.not_mem_nil, or_false] at hc
  rcases hc with rfl | rfl | rfl | rfl | rfl | rfl
  · exact w_c0
  · exact w_c1
  · exact w_c2
  · exact w_c3
  · exact w_c4
  · exact w_c5
set_option maxRecDepth 65536 in
theorem w_t1 : (words1.take 24).all (fun c => isCode c || c.before args0 about1) = true := by decide +kernel
set_option maxRecDepth 65536 in
theorem w_t2 : (words1.drop 24).all (fun c => isCode c || c.before args0 about1) = true := by decide +kernel
theorem w_tables : (allAtoms (Jvm.Cond.code x code maxLocals ret :: tables_1)).before args0 about1 = true := by
  rw [allAtoms_all]
  show words1.all (fun c => c.before args0 about1) = true
  refine all_split ?_ w_codes
  rw [← List.take_append_drop 24 words1, List.all_append, w_t1, w_t2]
  rfl
set_option maxRecDepth 65536 in
theorem w_case : (Jvm.Cond.and given_1 narrow_1).before args0 about1 = true := by decide +kernel
theorem w_applies : (headSpec (Jvm.Cond.code x code maxLocals ret :: tables_1) room_1).applies x e0.platform about1 = true :=
  (Spec.applies_iff w_frames).mpr ⟨w_running, w_runnable, w_alone, w_named, w_hears, w_ripe, w_room, w_tables⟩
theorem atStart : AtStart classFile x code maxLocals ret World_1 tables_1 room_1 Calls_1 rest_1 Pre_1 launch0 p0 e0 about1 theMethod args0 below0 :=
  ⟨lists_1, trivial, launch0.admits_env _ _ _, launch0.least_env, fairChoices_fair.cas, fairChoices_fair.clock, w_frames, w_args, w_heap, w_applies, trivial, trivial, w_case⟩
end start1
theorem witness_1 : WitnessClaimed_1 := ⟨start1.p0, start1.e0, start1.about1, start1.theMethod, start1.args0, start1.below0, start1.atStart⟩
end Jvm.Pilot.@@N@@
