import JvmDerived
import JvmDerived.Pilot.@@N@@Statement
import JvmDerived.Pilot.@@N@@Code
set_option linter.unusedVariables false
set_option linter.unusedSimpArgs false
namespace Jvm.OwnKit
open Sem ClassFile Op Lib Jvm.Stand Jvm.Free Jvm.LawKit Jvm.RoadKit
/-! The walk told forwards: 'Go .. pc Ls st h cells slots' says that the run of a body has come to pc with these locals, this stack and this heap. One theorem an instruction carries it on. -/
abbrev W : Type := Program × Env × State × MethodId × Array Value × List Frame × Method × Code × State
abbrev W.p (w : W) : Program := w.1
abbrev W.e (w : W) : Env := w.2.1
abbrev W.s (w : W) : State := w.2.2.1
abbrev W.m (w : W) : MethodId := w.2.2.2.1
abbrev W.args (w : W) : Array Value := w.2.2.2.2.1
abbrev W.below (w : W) : List Frame := w.2.2.2.2.2.1
abbrev W.meth (w : W) : Method := w.2.2.2.2.2.2.1
abbrev W.c (w : W) : Code := w.2.2.2.2.2.2.2.1
abbrev W.S0 (w : W) : State := w.2.2.2.2.2.2.2.2
def Sure (w : W) (Z : State) (y : MethodName) (code : ByteArray) (ml : Nat) (ret : Option FieldType) : Prop :=
  w.p.tables.exec = Jvm.exec ∧ Z.Warmed39 w.s.vm ∧ w.s.vm.findClass y.cls = some w.m.cls ∧ w.c.code = code ∧ w.c.maxLocals = ml ∧ w.meth.sig.returnType = ret ∧ w.meth.locks = false ∧ w.meth.name = y.name
def Go (w : W) (l : Launch) (R : Room) (Z : State) (n0 : Nat) (y : MethodName) (code : ByteArray) (ml : Nat) (ret : Option FieldType) (pc : Nat) (Ls : List Slot) (st : List Value) (h : Heap) (cells slots : Nat) : Prop :=
  Sure w Z y code ml ret ∧ ∃ T locs, Stand w.p l w.e R w.s w.m w.args w.below w.meth w.c T locs cells slots ∧ T.heap = h ∧ Fr n0 locs ∧
    ∀ t, Steps w.p.tables w.e w.below (T.setTop (mkF w.m pc Ls.toArray st)) t → Steps w.p.tables w.e w.below w.S0 t
def Fini (w : W) (n0 : Nat) (Q : Option Value → Heap → Prop) (C S : Nat) : Prop :=
  ∃ s₂ o, Steps w.p.tables w.e w.below w.S0 s₂ ∧ s₂.status = .running ∧ Ended s₂ w.below o ∧ ∃ v L, o = .returned v ∧ (Q v s₂.heap ∧ Fr n0 L) ∧ FrameEnd w.s o s₂ L C S
def Met (l : Launch) (Z : State) (y : MethodName) (code : ByteArray) (ml : Nat) (ret : Option FieldType) (rm : Room) (as : List Value) (h0 : Heap) (n0 : Nat) (Q : Option Value → Heap → Prop) : Prop :=
  ∀ ws, MetFree l y (head1 (Cond.code y code ml ret :: ws) rm) (fun a U => a = as.toArray ∧ Z.Warmed39 U.vm ∧ U.heap = h0) (fun _ _ _ _ _ => True) (fun _ U o U' => ∃ v L, o = .returned v ∧ (Q v U'.heap ∧ Fr n0 L) ∧ FrameEnd U o U' L rm.cells rm.slots)
def Ret (Q : Value → Heap → Prop) : Option Value → Heap → Prop := fun v h => ∃ u, v = some u ∧ Q u h
def Ret0 (Q : Heap → Prop) : Option Value → Heap → Prop := fun v h => v = none ∧ Q h
section Walk
variable {w : W} {l : Launch} {R : Room} {Z : State} {n0 : Nat} {y : MethodName} {code : ByteArray} {ml : Nat} {ret : Option FieldType} {pc : Nat} {Ls : List Slot} {st : List Value} {h : Heap} {cells slots : Nat}
theorem Met.intro {rm : Room} {as : List Value} {Q : Option Value → Heap → Prop} (hp : plainFor y = true) (hf : ∀ m, entryFrame m as.toArray ml = mkF m 0 Ls.toArray [])
    (body : ∀ w : W, Go w l rm Z n0 y code ml ret 0 Ls [] h 0 0 → Fini w n0 Q rm.cells rm.slots) : Met l Z y code ml ret rm as h n0 Q := by
  intro ws
  refine MetFree.of_bodySF hp hisR ?_
  intro p e s m args below meth c s₁ Bd hml0 hP hK
  obtain ⟨rfl, hZ, hh⟩ := hP
  have hown : s.vm.findClass y.cls = some m.cls := findClass_of_methodNamed Bd.named
  have hnm := (name_of_methodNamed Bd.named Bd.method).1
  have X0 : Stand p l e rm s m as.toArray below meth c s₁ [] 0 0 := Stand.of_body Bd
  have e0 : s₁.heap = h := by rw [← hh, Bd.state]; rfl
  exact body (p, e, s, m, as.toArray, below, meth, c, s₁.setTop (entryFrame m as.toArray ml)) ⟨⟨Bd.exec, hZ, hown, Bd.bytes, hml0, Bd.returns, BodyLoose.notSynchronized Bd, hnm⟩, s₁, [], X0, e0, Fr.nil n0, fun t k => castTop (hf m) k⟩
theorem Go.more (r : Go w l R Z n0 y code ml ret pc Ls st h cells slots) {cells' slots' : Nat} (h1 : cells ≤ cells') (h2 : slots ≤ slots') : Go w l R Z n0 y code ml ret pc Ls st h cells' slots' := by
  obtain ⟨S, T, locs, X, e, N, k⟩ := r
  exact ⟨S, T, locs, X.more h1 h2, e, N, k⟩
/-- one step that leaves the heap -/
theorem Go.step (r : Go w l R Z n0 y code ml ret pc Ls st h cells slots) {pc' : Nat} {Ls' : List Slot} {st' : List Value}
    (f : ∀ T t, At T w.m w.c w.below → w.p.tables.exec = Jvm.exec → w.c.code = code → Steps w.p.tables w.e w.below (T.setTop (mkF w.m pc' Ls'.toArray st')) t → Steps w.p.tables w.e w.below (T.setTop (mkF w.m pc Ls.toArray st)) t) :
    Go w l R Z n0 y code ml ret pc' Ls' st' h cells slots := by
  obtain ⟨S, T, locs, X, e, N, k⟩ := r
  exact ⟨S, T, locs, X, e, N, fun t q => k t (f T t X.here S.1 S.2.2.2.1 q)⟩
def oneB : Slot → Bool
  | .unset => true
  | .val v => v.category == 1
  | .second => false
theorem One.of {o : Slot} (h : oneB o = true) : One o := by
  cases o with
  | unset => exact One.u
  | val v => exact One.val (by simpa [oneB] using h)
  | second => cases h
theorem Go.iconst {i : Int} (r : Go w l R Z n0 y code ml ret pc Ls st h cells slots) (pc' : Nat) (hd : decode code pc = .ok (.iconst i, 1)) (hp : pc + 1 = pc') : Go w l R Z n0 y code ml ret pc' Ls (.int (Int32.ofInt i) :: st) h cells slots := by
  subst hp; exact r.step fun T t a x b k => XS.iconst a x rfl (hb b hd) k
theorem Go.bipush {i : Int} (r : Go w l R Z n0 y code ml ret pc Ls st h cells slots) (pc' : Nat) (hd : decode code pc = .ok (.bipush i, 2)) (hp : pc + 2 = pc') : Go w l R Z n0 y code ml ret pc' Ls (.int (Int8.ofInt i).toInt32 :: st) h cells slots := by
  subst hp; exact r.step fun T t a x b k => XS.bipush a x rfl (hb b hd) k
theorem Go.sipush {i : Int} (r : Go w l R Z n0 y code ml ret pc Ls st h cells slots) (pc' : Nat) (hd : decode code pc = .ok (.sipush i, 3)) (hp : pc + 3 = pc') : Go w l R Z n0 y code ml ret pc' Ls (.int (Int16.ofInt i).toInt32 :: st) h cells slots := by
  subst hp; exact r.step fun T t a x b k => XS.sipush a x rfl (hb b hd) k
theorem Go.iconstV {i : Int} (r : Go w l R Z n0 y code ml ret pc Ls st h cells slots) (pc' : Nat) (hd : decode code pc = .ok (.iconst i, 1)) (hp : pc + 1 = pc') (v : Int32) (hv : Int32.ofInt i = v) : Go w l R Z n0 y code ml ret pc' Ls (.int v :: st) h cells slots := by
  subst hp; exact r.step fun T t a x b k => XS.iconst a x rfl (hb b hd) (by rw [hv]; exact k)
theorem Go.bipushV {i : Int} (r : Go w l R Z n0 y code ml ret pc Ls st h cells slots) (pc' : Nat) (hd : decode code pc = .ok (.bipush i, 2)) (hp : pc + 2 = pc') (v : Int32) (hv : (Int8.ofInt i).toInt32 = v) : Go w l R Z n0 y code ml ret pc' Ls (.int v :: st) h cells slots := by
  subst hp; exact r.step fun T t a x b k => XS.bipush a x rfl (hb b hd) (by rw [hv]; exact k)
theorem Go.sipushV {i : Int} (r : Go w l R Z n0 y code ml ret pc Ls st h cells slots) (pc' : Nat) (hd : decode code pc = .ok (.sipush i, 3)) (hp : pc + 3 = pc') (v : Int32) (hv : (Int16.ofInt i).toInt32 = v) : Go w l R Z n0 y code ml ret pc' Ls (.int v :: st) h cells slots := by
  subst hp; exact r.step fun T t a x b k => XS.sipush a x rfl (hb b hd) (by rw [hv]; exact k)
theorem Go.lconstV {i : Fin 2} (r : Go w l R Z n0 y code ml ret pc Ls st h cells slots) (pc' : Nat) (hd : decode code pc = .ok (.lconst i, 1)) (hp : pc + 1 = pc') (v : Int64) (hv : Int64.ofNat i = v) : Go w l R Z n0 y code ml ret pc' Ls (.long v :: st) h cells slots := by
  subst hp; exact r.step fun T t a x b k => XS.lconst a x rfl (hb b hd) (by rw [hv]; exact k)
theorem Go.iadd {u v : Int32} (r : Go w l R Z n0 y code ml ret pc Ls (.int v :: .int u :: st) h cells slots) (pc' : Nat) (hd : decode code pc = .ok (.iadd, 1)) (hp : pc + 1 = pc') : Go w l R Z n0 y code ml ret pc' Ls (.int (u + v) :: st) h cells slots := by
  subst hp; exact r.step fun T t a x b k => XS.iadd a x rfl (hb b hd) rfl k
theorem Go.isub {u v : Int32} (r : Go w l R Z n0 y code ml ret pc Ls (.int v :: .int u :: st) h cells slots) (pc' : Nat) (hd : decode code pc = .ok (.isub, 1)) (hp : pc + 1 = pc') : Go w l R Z n0 y code ml ret pc' Ls (.int (u - v) :: st) h cells slots := by
  subst hp; exact r.step fun T t a x b k => XS.isub a x rfl (hb b hd) rfl k
theorem Go.imul {u v : Int32} (r : Go w l R Z n0 y code ml ret pc Ls (.int v :: .int u :: st) h cells slots) (pc' : Nat) (hd : decode code pc = .ok (.imul, 1)) (hp : pc + 1 = pc') : Go w l R Z n0 y code ml ret pc' Ls (.int (u * v) :: st) h cells slots := by
  subst hp; exact r.step fun T t a x b k => XS.imul a x rfl (hb b hd) rfl k
theorem Go.iand {u v : Int32} (r : Go w l R Z n0 y code ml ret pc Ls (.int v :: .int u :: st) h cells slots) (pc' : Nat) (hd : decode code pc = .ok (.iand, 1)) (hp : pc + 1 = pc') : Go w l R Z n0 y code ml ret pc' Ls (.int (u &&& v) :: st) h cells slots := by
  subst hp; exact r.step fun T t a x b k => XS.iand a x rfl (hb b hd) rfl k
theorem Go.ior {u v : Int32} (r : Go w l R Z n0 y code ml ret pc Ls (.int v :: .int u :: st) h cells slots) (pc' : Nat) (hd : decode code pc = .ok (.ior, 1)) (hp : pc + 1 = pc') : Go w l R Z n0 y code ml ret pc' Ls (.int (u ||| v) :: st) h cells slots := by
  subst hp; exact r.step fun T t a x b k => XS.ior a x rfl (hb b hd) rfl k
theorem Go.ixor {u v : Int32} (r : Go w l R Z n0 y code ml ret pc Ls (.int v :: .int u :: st) h cells slots) (pc' : Nat) (hd : decode code pc = .ok (.ixor, 1)) (hp : pc + 1 = pc') : Go w l R Z n0 y code ml ret pc' Ls (.int (u ^^^ v) :: st) h cells slots := by
  subst hp; exact r.step fun T t a x b k => XS.ixor a x rfl (hb b hd) rfl k
theorem Go.ladd {u v : Int64} (r : Go w l R Z n0 y code ml ret pc Ls (.long v :: .long u :: st) h cells slots) (pc' : Nat) (hd : decode code pc = .ok (.ladd, 1)) (hp : pc + 1 = pc') : Go w l R Z n0 y code ml ret pc' Ls (.long (u + v) :: st) h cells slots := by
  subst hp; exact r.step fun T t a x b k => XS.ladd a x rfl (hb b hd) rfl k
theorem Go.lsub {u v : Int64} (r : Go w l R Z n0 y code ml ret pc Ls (.long v :: .long u :: st) h cells slots) (pc' : Nat) (hd : decode code pc = .ok (.lsub, 1)) (hp : pc + 1 = pc') : Go w l R Z n0 y code ml ret pc' Ls (.long (u - v) :: st) h cells slots := by
  subst hp; exact r.step fun T t a x b k => XS.lsub a x rfl (hb b hd) rfl k
theorem Go.lmul {u v : Int64} (r : Go w l R Z n0 y code ml ret pc Ls (.long v :: .long u :: st) h cells slots) (pc' : Nat) (hd : decode code pc = .ok (.lmul, 1)) (hp : pc + 1 = pc') : Go w l R Z n0 y code ml ret pc' Ls (.long (u * v) :: st) h cells slots := by
  subst hp; exact r.step fun T t a x b k => XS.lmul a x rfl (hb b hd) rfl k
theorem Go.land {u v : Int64} (r : Go w l R Z n0 y code ml ret pc Ls (.long v :: .long u :: st) h cells slots) (pc' : Nat) (hd : decode code pc = .ok (.land, 1)) (hp : pc + 1 = pc') : Go w l R Z n0 y code ml ret pc' Ls (.long (u &&& v) :: st) h cells slots := by
  subst hp; exact r.step fun T t a x b k => XS.land a x rfl (hb b hd) rfl k
theorem Go.lor {u v : Int64} (r : Go w l R Z n0 y code ml ret pc Ls (.long v :: .long u :: st) h cells slots) (pc' : Nat) (hd : decode code pc = .ok (.lor, 1)) (hp : pc + 1 = pc') : Go w l R Z n0 y code ml ret pc' Ls (.long (u ||| v) :: st) h cells slots := by
  subst hp; exact r.step fun T t a x b k => XS.lor a x rfl (hb b hd) rfl k
theorem Go.lxor {u v : Int64} (r : Go w l R Z n0 y code ml ret pc Ls (.long v :: .long u :: st) h cells slots) (pc' : Nat) (hd : decode code pc = .ok (.lxor, 1)) (hp : pc + 1 = pc') : Go w l R Z n0 y code ml ret pc' Ls (.long (u ^^^ v) :: st) h cells slots := by
  subst hp; exact r.step fun T t a x b k => XS.lxor a x rfl (hb b hd) rfl k
theorem Go.idiv {u v : Int32} (r : Go w l R Z n0 y code ml ret pc Ls (.int v :: .int u :: st) h cells slots) (pc' : Nat) (hd : decode code pc = .ok (.idiv, 1)) (hp : pc + 1 = pc') (hv : v ≠ 0) : Go w l R Z n0 y code ml ret pc' Ls (.int (u / v) :: st) h cells slots := by
  subst hp; exact r.step fun T t a x b k => XS.idiv a x rfl (hb b hd) rfl hv k
theorem Go.irem {u v : Int32} (r : Go w l R Z n0 y code ml ret pc Ls (.int v :: .int u :: st) h cells slots) (pc' : Nat) (hd : decode code pc = .ok (.irem, 1)) (hp : pc + 1 = pc') (hv : v ≠ 0) : Go w l R Z n0 y code ml ret pc' Ls (.int (u % v) :: st) h cells slots := by
  subst hp; exact r.step fun T t a x b k => XS.irem a x rfl (hb b hd) rfl hv (by rw [irem_eq_mod]; exact k)
theorem Go.ishl {u v : Int32} (r : Go w l R Z n0 y code ml ret pc Ls (.int v :: .int u :: st) h cells slots) (pc' : Nat) (hd : decode code pc = .ok (.ishl, 1)) (hp : pc + 1 = pc') : Go w l R Z n0 y code ml ret pc' Ls (.int (u <<< (v &&& 31)) :: st) h cells slots := by
  subst hp; exact r.step fun T t a x b k => XS.ishl a x rfl (hb b hd) rfl k
theorem Go.ishr {u v : Int32} (r : Go w l R Z n0 y code ml ret pc Ls (.int v :: .int u :: st) h cells slots) (pc' : Nat) (hd : decode code pc = .ok (.ishr, 1)) (hp : pc + 1 = pc') : Go w l R Z n0 y code ml ret pc' Ls (.int (u >>> (v &&& 31)) :: st) h cells slots := by
  subst hp; exact r.step fun T t a x b k => XS.ishr a x rfl (hb b hd) rfl k
theorem Go.iushr {u v : Int32} (r : Go w l R Z n0 y code ml ret pc Ls (.int v :: .int u :: st) h cells slots) (pc' : Nat) (hd : decode code pc = .ok (.iushr, 1)) (hp : pc + 1 = pc') : Go w l R Z n0 y code ml ret pc' Ls (.int ((u.toUInt32 >>> (v &&& 31).toUInt32).toInt32) :: st) h cells slots := by
  subst hp; exact r.step fun T t a x b k => XS.iushr a x rfl (hb b hd) rfl k
theorem Go.lshl {u : Int64} {v : Int32} (r : Go w l R Z n0 y code ml ret pc Ls (.int v :: .long u :: st) h cells slots) (pc' : Nat) (hd : decode code pc = .ok (.lshl, 1)) (hp : pc + 1 = pc') : Go w l R Z n0 y code ml ret pc' Ls (.long (u <<< (v &&& 0x3f).toInt64) :: st) h cells slots := by
  subst hp; exact r.step fun T t a x b k => XS.lshl a x rfl (hb b hd) rfl k
theorem Go.lshr {u : Int64} {v : Int32} (r : Go w l R Z n0 y code ml ret pc Ls (.int v :: .long u :: st) h cells slots) (pc' : Nat) (hd : decode code pc = .ok (.lshr, 1)) (hp : pc + 1 = pc') : Go w l R Z n0 y code ml ret pc' Ls (.long (u >>> (v &&& 0x3f).toInt64) :: st) h cells slots := by
  subst hp; exact r.step fun T t a x b k => XS.lshr a x rfl (hb b hd) rfl k
theorem Go.lushr {u : Int64} {v : Int32} (r : Go w l R Z n0 y code ml ret pc Ls (.int v :: .long u :: st) h cells slots) (pc' : Nat) (hd : decode code pc = .ok (.lushr, 1)) (hp : pc + 1 = pc') : Go w l R Z n0 y code ml ret pc' Ls (.long ((u.toUInt64 >>> (v &&& 0x3f).toInt64.toUInt64).toInt64) :: st) h cells slots := by
  subst hp; exact r.step fun T t a x b k => XS.lushr a x rfl (hb b hd) rfl k
theorem Go.lcmp {u v : Int64} (r : Go w l R Z n0 y code ml ret pc Ls (.long v :: .long u :: st) h cells slots) (pc' : Nat) (hd : decode code pc = .ok (.lcmp, 1)) (hp : pc + 1 = pc') : Go w l R Z n0 y code ml ret pc' Ls (.int (lcmpW u v) :: st) h cells slots := by
  subst hp; exact r.step fun T t a x b k => XS.lcmp a x rfl (hb b hd) rfl k
theorem Go.i2l {u : Int32} (r : Go w l R Z n0 y code ml ret pc Ls (.int u :: st) h cells slots) (pc' : Nat) (hd : decode code pc = .ok (.i2l, 1)) (hp : pc + 1 = pc') : Go w l R Z n0 y code ml ret pc' Ls (.long u.toInt64 :: st) h cells slots := by
  subst hp; exact r.step fun T t a x b k => XS.i2l a x rfl (hb b hd) rfl k
theorem Go.l2i {u : Int64} (r : Go w l R Z n0 y code ml ret pc Ls (.long u :: st) h cells slots) (pc' : Nat) (hd : decode code pc = .ok (.l2i, 1)) (hp : pc + 1 = pc') : Go w l R Z n0 y code ml ret pc' Ls (.int u.toInt32 :: st) h cells slots := by
  subst hp; exact r.step fun T t a x b k => XS.l2i a x rfl (hb b hd) rfl k
theorem Go.i2b {u : Int32} (r : Go w l R Z n0 y code ml ret pc Ls (.int u :: st) h cells slots) (pc' : Nat) (hd : decode code pc = .ok (.i2b, 1)) (hp : pc + 1 = pc') : Go w l R Z n0 y code ml ret pc' Ls (.int u.toInt8.toInt32 :: st) h cells slots := by
  subst hp; exact r.step fun T t a x b k => XS.i2b a x rfl (hb b hd) rfl k
theorem Go.dup {v : Value} (r : Go w l R Z n0 y code ml ret pc Ls (v :: st) h cells slots) (pc' : Nat) (hd : decode code pc = .ok (.dup, 1)) (hp : pc + 1 = pc') (hv : v.category = 1) : Go w l R Z n0 y code ml ret pc' Ls (v :: v :: st) h cells slots := by
  subst hp; exact r.step fun T t a x b k => XS.dup a x rfl (hb b hd) rfl hv k
theorem Go.pop {v : Value} (r : Go w l R Z n0 y code ml ret pc Ls (v :: st) h cells slots) (pc' : Nat) (hd : decode code pc = .ok (.pop, 1)) (hp : pc + 1 = pc') (hv : v.category = 1) : Go w l R Z n0 y code ml ret pc' Ls st h cells slots := by
  subst hp; exact r.step fun T t a x b k => XS.pop a x rfl (hb b hd) rfl hv k
theorem Go.dupX1 {u v : Value} (r : Go w l R Z n0 y code ml ret pc Ls (v :: u :: st) h cells slots) (pc' : Nat) (hd : decode code pc = .ok (.dup_x1, 1)) (hp : pc + 1 = pc') (hv : v.category = 1) (hu : u.category = 1) : Go w l R Z n0 y code ml ret pc' Ls (v :: u :: v :: st) h cells slots := by
  subst hp; exact r.step fun T t a x b k => XS.dupX1 a x rfl (hb b hd) rfl hv hu k
theorem Go.dup2 {u v : Value} (r : Go w l R Z n0 y code ml ret pc Ls (v :: u :: st) h cells slots) (pc' : Nat) (hd : decode code pc = .ok (.dup2, 1)) (hp : pc + 1 = pc') (hv : v.category = 1) (hu : u.category = 1) : Go w l R Z n0 y code ml ret pc' Ls (v :: u :: v :: u :: st) h cells slots := by
  subst hp; exact r.step fun T t a x b k => XT.dup2 a x rfl (hb b hd) rfl hv hu k
theorem Go.iloadG {v : Int32} {k : Nat} (r : Go w l R Z n0 y code ml ret pc Ls st h cells slots) (pc' : Nat) (hd : decode code pc = .ok (.iload k, 2)) (hp : pc + 2 = pc') (hl : Ls[k]? = some (.val (.int v))) : Go w l R Z n0 y code ml ret pc' Ls ((.int v) :: st) h cells slots := by
  subst hp; exact r.step fun T t a x b k => XS.iload a x rfl (hb b hd) (show Ls.toArray[_]? = _ by rw [List.getElem?_toArray]; exact hl) k
theorem Go.iloadNG {v : Int32} {k : Fin 4} (r : Go w l R Z n0 y code ml ret pc Ls st h cells slots) (pc' : Nat) (hd : decode code pc = .ok (.iload_n k, 1)) (hp : pc + 1 = pc') (hl : Ls[k.val]? = some (.val (.int v))) : Go w l R Z n0 y code ml ret pc' Ls ((.int v) :: st) h cells slots := by
  subst hp; exact r.step fun T t a x b k => XS.iloadN a x rfl (hb b hd) (show Ls.toArray[_]? = _ by rw [List.getElem?_toArray]; exact hl) k
theorem Go.lloadG {v : Int64} {k : Nat} (r : Go w l R Z n0 y code ml ret pc Ls st h cells slots) (pc' : Nat) (hd : decode code pc = .ok (.lload k, 2)) (hp : pc + 2 = pc') (hl : Ls[k]? = some (.val (.long v))) : Go w l R Z n0 y code ml ret pc' Ls ((.long v) :: st) h cells slots := by
  subst hp; exact r.step fun T t a x b k => XS.lload a x rfl (hb b hd) (show Ls.toArray[_]? = _ by rw [List.getElem?_toArray]; exact hl) k
theorem Go.lloadNG {v : Int64} {k : Fin 4} (r : Go w l R Z n0 y code ml ret pc Ls st h cells slots) (pc' : Nat) (hd : decode code pc = .ok (.lload_n k, 1)) (hp : pc + 1 = pc') (hl : Ls[k.val]? = some (.val (.long v))) : Go w l R Z n0 y code ml ret pc' Ls ((.long v) :: st) h cells slots := by
  subst hp; exact r.step fun T t a x b k => XS.lloadN a x rfl (hb b hd) (show Ls.toArray[_]? = _ by rw [List.getElem?_toArray]; exact hl) k
theorem Go.aloadG {v : Value} {k : Nat} (r : Go w l R Z n0 y code ml ret pc Ls st h cells slots) (pc' : Nat) (hd : decode code pc = .ok (.aload k, 2)) (hp : pc + 2 = pc') (hl : Ls[k]? = some (.val v)) (hv : v.isRef = true) : Go w l R Z n0 y code ml ret pc' Ls (v :: st) h cells slots := by
  subst hp; exact r.step fun T t a x b k => XS.aload a x rfl (hb b hd) (show Ls.toArray[_]? = _ by rw [List.getElem?_toArray]; exact hl) hv k
theorem Go.aloadNG {v : Value} {k : Fin 4} (r : Go w l R Z n0 y code ml ret pc Ls st h cells slots) (pc' : Nat) (hd : decode code pc = .ok (.aload_n k, 1)) (hp : pc + 1 = pc') (hl : Ls[k.val]? = some (.val v)) (hv : v.isRef = true) : Go w l R Z n0 y code ml ret pc' Ls (v :: st) h cells slots := by
  subst hp; exact r.step fun T t a x b k => XS.aloadN a x rfl (hb b hd) (show Ls.toArray[_]? = _ by rw [List.getElem?_toArray]; exact hl) hv k
theorem storeL {Ls Ls' : List Slot} {i : Nat} {v : Value} {o : Slot} (ho : Ls[i]? = some o) (h1 : One o) (hv : v.category = 1) (he : Ls.set i (.val v) = Ls') : storeLocals Ls.toArray i v = some Ls'.toArray := by
  subst he
  rw [XS.store1 (o := o) (by rw [List.getElem?_toArray]; exact ho) h1 hv]
  simp
/-- a long over two slots -/
def Two (o p : Slot) : Prop := (o = .unset ∧ p = .unset) ∨ (∃ v, o = .val (.long v) ∧ p = .second) ∨ (o = .unset ∧ ∃ v : Value, p = .val v ∧ v.category = 1) ∨ (∃ v : Value, o = .val v ∧ v.category = 1 ∧ (p = .unset ∨ ∃ u : Value, p = .val u ∧ u.category = 1))
def twoB : Slot → Slot → Bool
  | .unset, .unset => true
  | .unset, .val v => v.category == 1
  | .val (.long _), .second => true
  | .val v, .unset => v.category == 1
  | .val v, .val u => v.category == 1 && u.category == 1
  | _, _ => false
theorem Two.of {o p : Slot} (h : twoB o p = true) : Two o p := by
  cases o with
  | unset => cases p with
    | unset => exact Or.inl ⟨rfl, rfl⟩
    | val v => exact Or.inr (Or.inr (Or.inl ⟨rfl, v, rfl, by simpa [twoB] using h⟩))
    | second => cases h
  | second => cases h
  | val v => cases p with
    | unset => exact Or.inr (Or.inr (Or.inr ⟨v, rfl, by cases v <;> simpa [twoB] using h, Or.inl rfl⟩))
    | val u => exact Or.inr (Or.inr (Or.inr ⟨v, rfl, by cases v <;> simp_all [twoB], Or.inr ⟨u, rfl, by cases v <;> simp_all [twoB]⟩⟩))
    | second => cases v with
      | long z => exact Or.inr (Or.inl ⟨z, rfl, rfl⟩)
      | _ => simp [twoB] at h
theorem storeL2 {Ls Ls' : List Slot} {i : Nat} {v : Int64} {o q : Slot} (ho : Ls[i]? = some o) (hq : Ls[i + 1]? = some q) (h2 : Two o q) (he : (Ls.set i (.val (.long v))).set (i + 1) .second = Ls') : storeLocals Ls.toArray i (.long v) = some Ls'.toArray := by
  subst he
  obtain ⟨h3, h4⟩ := List.getElem?_eq_some_iff.mp ho
  obtain ⟨h5, h6⟩ := List.getElem?_eq_some_iff.mp hq
  have a1 : ∀ p q : Slot, ((Ls.set i p)[i + 1]? = some q) ↔ q = Ls[i + 1] := fun p q => by rw [List.getElem?_set_ne (by omega), hq, h6]; constructor <;> (intro z; simp_all)
  rcases h2 with ⟨rfl, rfl⟩ | ⟨u, rfl, rfl⟩ | ⟨rfl, u, rfl, hu⟩ | ⟨u, rfl, hu, rfl | ⟨u', rfl, hu'⟩⟩ <;>
    simp [storeLocals, storeSelf, Jvm.setAt, Value.category, ho, hq, h3, h5, List.getElem?_set_ne, List.set_comm, *] <;> (try simp_all [Value.category])
theorem Go.istoreG {u : Int32} {k : Nat} {o : Slot} {Ls' : List Slot} (r : Go w l R Z n0 y code ml ret pc Ls ((.int u) :: st) h cells slots) (pc' : Nat) (hd : decode code pc = .ok (.istore k, 2)) (hp : pc + 2 = pc') (ho : Ls[k]? = some o) (h1 : One o) (he : Ls.set k (.val (.int u)) = Ls') : Go w l R Z n0 y code ml ret pc' Ls' st h cells slots := by
  subst hp; exact r.step fun T t a x b k => XS.istore a x rfl (hb b hd) rfl (storeL ho h1 rfl he) k
theorem Go.istoreNG {u : Int32} {k : Fin 4} {o : Slot} {Ls' : List Slot} (r : Go w l R Z n0 y code ml ret pc Ls ((.int u) :: st) h cells slots) (pc' : Nat) (hd : decode code pc = .ok (.istore_n k, 1)) (hp : pc + 1 = pc') (ho : Ls[k.val]? = some o) (h1 : One o) (he : Ls.set k.val (.val (.int u)) = Ls') : Go w l R Z n0 y code ml ret pc' Ls' st h cells slots := by
  subst hp; exact r.step fun T t a x b k => XS.istoreN a x rfl (hb b hd) rfl (storeL ho h1 rfl he) k
theorem Go.astoreG {u : Value} {k : Nat} {o : Slot} {Ls' : List Slot} (r : Go w l R Z n0 y code ml ret pc Ls (u :: st) h cells slots) (pc' : Nat) (hd : decode code pc = .ok (.astore k, 2)) (hp : pc + 2 = pc') (hv : u.isRef = true) (hc : u.category = 1) (ho : Ls[k]? = some o) (h1 : One o) (he : Ls.set k (.val u) = Ls') : Go w l R Z n0 y code ml ret pc' Ls' st h cells slots := by
  subst hp; exact r.step fun T t a x b k => XS.astore a x rfl (hb b hd) rfl hv (storeL ho h1 hc he) k
theorem Go.astoreNG {u : Value} {k : Fin 4} {o : Slot} {Ls' : List Slot} (r : Go w l R Z n0 y code ml ret pc Ls (u :: st) h cells slots) (pc' : Nat) (hd : decode code pc = .ok (.astore_n k, 1)) (hp : pc + 1 = pc') (hv : u.isRef = true) (hc : u.category = 1) (ho : Ls[k.val]? = some o) (h1 : One o) (he : Ls.set k.val (.val u) = Ls') : Go w l R Z n0 y code ml ret pc' Ls' st h cells slots := by
  subst hp; exact r.step fun T t a x b k => XS.astoreN a x rfl (hb b hd) rfl hv (storeL ho h1 hc he) k
theorem Go.lstoreG {u : Int64} {k : Nat} {o q : Slot} {Ls' : List Slot} (r : Go w l R Z n0 y code ml ret pc Ls (.long u :: st) h cells slots) (pc' : Nat) (hd : decode code pc = .ok (.lstore k, 2)) (hp : pc + 2 = pc') (ho : Ls[k]? = some o) (hq : Ls[k + 1]? = some q) (h2 : Two o q) (he : (Ls.set k (.val (.long u))).set (k + 1) .second = Ls') : Go w l R Z n0 y code ml ret pc' Ls' st h cells slots := by
  subst hp; exact r.step fun T t a x b k => XS.lstore a x rfl (hb b hd) rfl (storeL2 ho hq h2 he) k
theorem Go.lstoreNG {u : Int64} {k : Fin 4} {o q : Slot} {Ls' : List Slot} (r : Go w l R Z n0 y code ml ret pc Ls (.long u :: st) h cells slots) (pc' : Nat) (hd : decode code pc = .ok (.lstore_n k, 1)) (hp : pc + 1 = pc') (ho : Ls[k.val]? = some o) (hq : Ls[k.val + 1]? = some q) (h2 : Two o q) (he : (Ls.set k.val (.val (.long u))).set (k.val + 1) .second = Ls') : Go w l R Z n0 y code ml ret pc' Ls' st h cells slots := by
  subst hp; exact r.step fun T t a x b k => XS.lstoreN a x rfl (hb b hd) rfl (storeL2 ho hq h2 he) k
theorem Go.iincG {u : Int32} {k : Nat} {i : Int} {Ls' : List Slot} (r : Go w l R Z n0 y code ml ret pc Ls st h cells slots) (pc' : Nat) (hd : decode code pc = .ok (.iinc k i, 3)) (hp : pc + 3 = pc') (hl : Ls[k]? = some (.val (.int u))) (he : Ls.set k (.val (.int (u + Int32.ofInt i))) = Ls') : Go w l R Z n0 y code ml ret pc' Ls' st h cells slots := by
  subst hp; exact r.step fun T t a x b k => XS.iinc a x rfl (hb b hd) (show Ls.toArray[_]? = _ by rw [List.getElem?_toArray]; exact hl) (storeL hl (One.val rfl) rfl he) k
theorem get_s {α : Type} {a : α} {L : List α} {k : Nat} {v : α} (h : L[k]? = some v) : (a :: L)[k + 1]? = some v := h
theorem get_z {α : Type} {L : List α} {v : α} : (v :: L)[0]? = some v := rfl
theorem set_s {α : Type} {a v : α} {L L' : List α} {k : Nat} (h : L.set k v = L') : (a :: L).set (k + 1) v = a :: L' := by subst h; rfl
theorem set_z {α : Type} {a v : α} {L : List α} : (a :: L).set 0 v = v :: L := rfl
theorem Go.ald0 {v : Addr} {q : List Slot} (r : Go w l R Z n0 y code ml ret pc (.val (.ref v) :: q) st h cells slots) (pc' : Nat) (hd : decode code pc = .ok (.aload_n 0, 1)) (hp : pc + 1 = pc') : Go w l R Z n0 y code ml ret pc' (.val (.ref v) :: q) ((.ref v) :: st) h cells slots := r.aloadNG pc' hd hp get_z rfl
theorem Go.ald1 {v : Addr} {a0 : Slot} {q : List Slot} (r : Go w l R Z n0 y code ml ret pc (a0 :: .val (.ref v) :: q) st h cells slots) (pc' : Nat) (hd : decode code pc = .ok (.aload_n 1, 1)) (hp : pc + 1 = pc') : Go w l R Z n0 y code ml ret pc' (a0 :: .val (.ref v) :: q) ((.ref v) :: st) h cells slots := r.aloadNG pc' hd hp (get_s get_z) rfl
theorem Go.ald13 {v : Addr} {a0 a1 a2 a3 a4 a5 a6 a7 a8 a9 a10 a11 a12 : Slot} {q : List Slot} (r : Go w l R Z n0 y code ml ret pc (a0 :: a1 :: a2 :: a3 :: a4 :: a5 :: a6 :: a7 :: a8 :: a9 :: a10 :: a11 :: a12 :: .val (.ref v) :: q) st h cells slots) (pc' : Nat) (hd : decode code pc = .ok (.aload 13, 2)) (hp : pc + 2 = pc') : Go w l R Z n0 y code ml ret pc' (a0 :: a1 :: a2 :: a3 :: a4 :: a5 :: a6 :: a7 :: a8 :: a9 :: a10 :: a11 :: a12 :: .val (.ref v) :: q) ((.ref v) :: st) h cells slots := r.aloadG pc' hd hp (get_s (get_s (get_s (get_s (get_s (get_s (get_s (get_s (get_s (get_s (get_s (get_s (get_s get_z))))))))))))) rfl
theorem Go.ald14 {v : Addr} {a0 a1 a2 a3 a4 a5 a6 a7 a8 a9 a10 a11 a12 a13 : Slot} {q : List Slot} (r : Go w l R Z n0 y code ml ret pc (a0 :: a1 :: a2 :: a3 :: a4 :: a5 :: a6 :: a7 :: a8 :: a9 :: a10 :: a11 :: a12 :: a13 :: .val (.ref v) :: q) st h cells slots) (pc' : Nat) (hd : decode code pc = .ok (.aload 14, 2)) (hp : pc + 2 = pc') : Go w l R Z n0 y code ml ret pc' (a0 :: a1 :: a2 :: a3 :: a4 :: a5 :: a6 :: a7 :: a8 :: a9 :: a10 :: a11 :: a12 :: a13 :: .val (.ref v) :: q) ((.ref v) :: st) h cells slots := r.aloadG pc' hd hp (get_s (get_s (get_s (get_s (get_s (get_s (get_s (get_s (get_s (get_s (get_s (get_s (get_s (get_s get_z)))))))))))))) rfl
theorem Go.ast13 {v : Addr} {o : Slot} {a0 a1 a2 a3 a4 a5 a6 a7 a8 a9 a10 a11 a12 : Slot} {q : List Slot} (r : Go w l R Z n0 y code ml ret pc (a0 :: a1 :: a2 :: a3 :: a4 :: a5 :: a6 :: a7 :: a8 :: a9 :: a10 :: a11 :: a12 :: o :: q) ((.ref v) :: st) h cells slots) (pc' : Nat) (hd : decode code pc = .ok (.astore 13, 2)) (hp : pc + 2 = pc') (ho : One o) : Go w l R Z n0 y code ml ret pc' (a0 :: a1 :: a2 :: a3 :: a4 :: a5 :: a6 :: a7 :: a8 :: a9 :: a10 :: a11 :: a12 :: .val (.ref v) :: q) st h cells slots := r.astoreG pc' hd hp rfl rfl (get_s (get_s (get_s (get_s (get_s (get_s (get_s (get_s (get_s (get_s (get_s (get_s (get_s get_z))))))))))))) ho (set_s (set_s (set_s (set_s (set_s (set_s (set_s (set_s (set_s (set_s (set_s (set_s (set_s set_z)))))))))))))
theorem Go.ast14 {v : Addr} {o : Slot} {a0 a1 a2 a3 a4 a5 a6 a7 a8 a9 a10 a11 a12 a13 : Slot} {q : List Slot} (r : Go w l R Z n0 y code ml ret pc (a0 :: a1 :: a2 :: a3 :: a4 :: a5 :: a6 :: a7 :: a8 :: a9 :: a10 :: a11 :: a12 :: a13 :: o :: q) ((.ref v) :: st) h cells slots) (pc' : Nat) (hd : decode code pc = .ok (.astore 14, 2)) (hp : pc + 2 = pc') (ho : One o) : Go w l R Z n0 y code ml ret pc' (a0 :: a1 :: a2 :: a3 :: a4 :: a5 :: a6 :: a7 :: a8 :: a9 :: a10 :: a11 :: a12 :: a13 :: .val (.ref v) :: q) st h cells slots := r.astoreG pc' hd hp rfl rfl (get_s (get_s (get_s (get_s (get_s (get_s (get_s (get_s (get_s (get_s (get_s (get_s (get_s (get_s get_z)))))))))))))) ho (set_s (set_s (set_s (set_s (set_s (set_s (set_s (set_s (set_s (set_s (set_s (set_s (set_s (set_s set_z))))))))))))))
theorem Go.ild0 {v : Int32} {q : List Slot} (r : Go w l R Z n0 y code ml ret pc (.val (.int v) :: q) st h cells slots) (pc' : Nat) (hd : decode code pc = .ok (.iload_n 0, 1)) (hp : pc + 1 = pc') : Go w l R Z n0 y code ml ret pc' (.val (.int v) :: q) ((.int v) :: st) h cells slots := r.iloadNG pc' hd hp get_z
theorem Go.ild2 {v : Int32} {a0 a1 : Slot} {q : List Slot} (r : Go w l R Z n0 y code ml ret pc (a0 :: a1 :: .val (.int v) :: q) st h cells slots) (pc' : Nat) (hd : decode code pc = .ok (.iload_n 2, 1)) (hp : pc + 1 = pc') : Go w l R Z n0 y code ml ret pc' (a0 :: a1 :: .val (.int v) :: q) ((.int v) :: st) h cells slots := r.iloadNG pc' hd hp (get_s (get_s get_z))
theorem Go.ild3 {v : Int32} {a0 a1 a2 : Slot} {q : List Slot} (r : Go w l R Z n0 y code ml ret pc (a0 :: a1 :: a2 :: .val (.int v) :: q) st h cells slots) (pc' : Nat) (hd : decode code pc = .ok (.iload_n 3, 1)) (hp : pc + 1 = pc') : Go w l R Z n0 y code ml ret pc' (a0 :: a1 :: a2 :: .val (.int v) :: q) ((.int v) :: st) h cells slots := r.iloadNG pc' hd hp (get_s (get_s (get_s get_z)))
theorem Go.ild4 {v : Int32} {a0 a1 a2 a3 : Slot} {q : List Slot} (r : Go w l R Z n0 y code ml ret pc (a0 :: a1 :: a2 :: a3 :: .val (.int v) :: q) st h cells slots) (pc' : Nat) (hd : decode code pc = .ok (.iload 4, 2)) (hp : pc + 2 = pc') : Go w l R Z n0 y code ml ret pc' (a0 :: a1 :: a2 :: a3 :: .val (.int v) :: q) ((.int v) :: st) h cells slots := r.iloadG pc' hd hp (get_s (get_s (get_s (get_s get_z))))
theorem Go.ild6 {v : Int32} {a0 a1 a2 a3 a4 a5 : Slot} {q : List Slot} (r : Go w l R Z n0 y code ml ret pc (a0 :: a1 :: a2 :: a3 :: a4 :: a5 :: .val (.int v) :: q) st h cells slots) (pc' : Nat) (hd : decode code pc = .ok (.iload 6, 2)) (hp : pc + 2 = pc') : Go w l R Z n0 y code ml ret pc' (a0 :: a1 :: a2 :: a3 :: a4 :: a5 :: .val (.int v) :: q) ((.int v) :: st) h cells slots := r.iloadG pc' hd hp (get_s (get_s (get_s (get_s (get_s (get_s get_z))))))
theorem Go.ild7 {v : Int32} {a0 a1 a2 a3 a4 a5 a6 : Slot} {q : List Slot} (r : Go w l R Z n0 y code ml ret pc (a0 :: a1 :: a2 :: a3 :: a4 :: a5 :: a6 :: .val (.int v) :: q) st h cells slots) (pc' : Nat) (hd : decode code pc = .ok (.iload 7, 2)) (hp : pc + 2 = pc') : Go w l R Z n0 y code ml ret pc' (a0 :: a1 :: a2 :: a3 :: a4 :: a5 :: a6 :: .val (.int v) :: q) ((.int v) :: st) h cells slots := r.iloadG pc' hd hp (get_s (get_s (get_s (get_s (get_s (get_s (get_s get_z)))))))
theorem Go.ild8 {v : Int32} {a0 a1 a2 a3 a4 a5 a6 a7 : Slot} {q : List Slot} (r : Go w l R Z n0 y code ml ret pc (a0 :: a1 :: a2 :: a3 :: a4 :: a5 :: a6 :: a7 :: .val (.int v) :: q) st h cells slots) (pc' : Nat) (hd : decode code pc = .ok (.iload 8, 2)) (hp : pc + 2 = pc') : Go w l R Z n0 y code ml ret pc' (a0 :: a1 :: a2 :: a3 :: a4 :: a5 :: a6 :: a7 :: .val (.int v) :: q) ((.int v) :: st) h cells slots := r.iloadG pc' hd hp (get_s (get_s (get_s (get_s (get_s (get_s (get_s (get_s get_z))))))))
theorem Go.ild9 {v : Int32} {a0 a1 a2 a3 a4 a5 a6 a7 a8 : Slot} {q : List Slot} (r : Go w l R Z n0 y code ml ret pc (a0 :: a1 :: a2 :: a3 :: a4 :: a5 :: a6 :: a7 :: a8 :: .val (.int v) :: q) st h cells slots) (pc' : Nat) (hd : decode code pc = .ok (.iload 9, 2)) (hp : pc + 2 = pc') : Go w l R Z n0 y code ml ret pc' (a0 :: a1 :: a2 :: a3 :: a4 :: a5 :: a6 :: a7 :: a8 :: .val (.int v) :: q) ((.int v) :: st) h cells slots := r.iloadG pc' hd hp (get_s (get_s (get_s (get_s (get_s (get_s (get_s (get_s (get_s get_z)))))))))
theorem Go.ild10 {v : Int32} {a0 a1 a2 a3 a4 a5 a6 a7 a8 a9 : Slot} {q : List Slot} (r : Go w l R Z n0 y code ml ret pc (a0 :: a1 :: a2 :: a3 :: a4 :: a5 :: a6 :: a7 :: a8 :: a9 :: .val (.int v) :: q) st h cells slots) (pc' : Nat) (hd : decode code pc = .ok (.iload 10, 2)) (hp : pc + 2 = pc') : Go w l R Z n0 y code ml ret pc' (a0 :: a1 :: a2 :: a3 :: a4 :: a5 :: a6 :: a7 :: a8 :: a9 :: .val (.int v) :: q) ((.int v) :: st) h cells slots := r.iloadG pc' hd hp (get_s (get_s (get_s (get_s (get_s (get_s (get_s (get_s (get_s (get_s get_z))))))))))
theorem Go.ild11 {v : Int32} {a0 a1 a2 a3 a4 a5 a6 a7 a8 a9 a10 : Slot} {q : List Slot} (r : Go w l R Z n0 y code ml ret pc (a0 :: a1 :: a2 :: a3 :: a4 :: a5 :: a6 :: a7 :: a8 :: a9 :: a10 :: .val (.int v) :: q) st h cells slots) (pc' : Nat) (hd : decode code pc = .ok (.iload 11, 2)) (hp : pc + 2 = pc') : Go w l R Z n0 y code ml ret pc' (a0 :: a1 :: a2 :: a3 :: a4 :: a5 :: a6 :: a7 :: a8 :: a9 :: a10 :: .val (.int v) :: q) ((.int v) :: st) h cells slots := r.iloadG pc' hd hp (get_s (get_s (get_s (get_s (get_s (get_s (get_s (get_s (get_s (get_s (get_s get_z)))))))))))
theorem Go.ild12 {v : Int32} {a0 a1 a2 a3 a4 a5 a6 a7 a8 a9 a10 a11 : Slot} {q : List Slot} (r : Go w l R Z n0 y code ml ret pc (a0 :: a1 :: a2 :: a3 :: a4 :: a5 :: a6 :: a7 :: a8 :: a9 :: a10 :: a11 :: .val (.int v) :: q) st h cells slots) (pc' : Nat) (hd : decode code pc = .ok (.iload 12, 2)) (hp : pc + 2 = pc') : Go w l R Z n0 y code ml ret pc' (a0 :: a1 :: a2 :: a3 :: a4 :: a5 :: a6 :: a7 :: a8 :: a9 :: a10 :: a11 :: .val (.int v) :: q) ((.int v) :: st) h cells slots := r.iloadG pc' hd hp (get_s (get_s (get_s (get_s (get_s (get_s (get_s (get_s (get_s (get_s (get_s (get_s get_z))))))))))))
theorem Go.ild15 {v : Int32} {a0 a1 a2 a3 a4 a5 a6 a7 a8 a9 a10 a11 a12 a13 a14 : Slot} {q : List Slot} (r : Go w l R Z n0 y code ml ret pc (a0 :: a1 :: a2 :: a3 :: a4 :: a5 :: a6 :: a7 :: a8 :: a9 :: a10 :: a11 :: a12 :: a13 :: a14 :: .val (.int v) :: q) st h cells slots) (pc' : Nat) (hd : decode code pc = .ok (.iload 15, 2)) (hp : pc + 2 = pc') : Go w l R Z n0 y code ml ret pc' (a0 :: a1 :: a2 :: a3 :: a4 :: a5 :: a6 :: a7 :: a8 :: a9 :: a10 :: a11 :: a12 :: a13 :: a14 :: .val (.int v) :: q) ((.int v) :: st) h cells slots := r.iloadG pc' hd hp (get_s (get_s (get_s (get_s (get_s (get_s (get_s (get_s (get_s (get_s (get_s (get_s (get_s (get_s (get_s get_z)))))))))))))))
theorem Go.ild16 {v : Int32} {a0 a1 a2 a3 a4 a5 a6 a7 a8 a9 a10 a11 a12 a13 a14 a15 : Slot} {q : List Slot} (r : Go w l R Z n0 y code ml ret pc (a0 :: a1 :: a2 :: a3 :: a4 :: a5 :: a6 :: a7 :: a8 :: a9 :: a10 :: a11 :: a12 :: a13 :: a14 :: a15 :: .val (.int v) :: q) st h cells slots) (pc' : Nat) (hd : decode code pc = .ok (.iload 16, 2)) (hp : pc + 2 = pc') : Go w l R Z n0 y code ml ret pc' (a0 :: a1 :: a2 :: a3 :: a4 :: a5 :: a6 :: a7 :: a8 :: a9 :: a10 :: a11 :: a12 :: a13 :: a14 :: a15 :: .val (.int v) :: q) ((.int v) :: st) h cells slots := r.iloadG pc' hd hp (get_s (get_s (get_s (get_s (get_s (get_s (get_s (get_s (get_s (get_s (get_s (get_s (get_s (get_s (get_s (get_s get_z))))))))))))))))
theorem Go.ild17 {v : Int32} {a0 a1 a2 a3 a4 a5 a6 a7 a8 a9 a10 a11 a12 a13 a14 a15 a16 : Slot} {q : List Slot} (r : Go w l R Z n0 y code ml ret pc (a0 :: a1 :: a2 :: a3 :: a4 :: a5 :: a6 :: a7 :: a8 :: a9 :: a10 :: a11 :: a12 :: a13 :: a14 :: a15 :: a16 :: .val (.int v) :: q) st h cells slots) (pc' : Nat) (hd : decode code pc = .ok (.iload 17, 2)) (hp : pc + 2 = pc') : Go w l R Z n0 y code ml ret pc' (a0 :: a1 :: a2 :: a3 :: a4 :: a5 :: a6 :: a7 :: a8 :: a9 :: a10 :: a11 :: a12 :: a13 :: a14 :: a15 :: a16 :: .val (.int v) :: q) ((.int v) :: st) h cells slots := r.iloadG pc' hd hp (get_s (get_s (get_s (get_s (get_s (get_s (get_s (get_s (get_s (get_s (get_s (get_s (get_s (get_s (get_s (get_s (get_s get_z)))))))))))))))))
theorem Go.ild18 {v : Int32} {a0 a1 a2 a3 a4 a5 a6 a7 a8 a9 a10 a11 a12 a13 a14 a15 a16 a17 : Slot} {q : List Slot} (r : Go w l R Z n0 y code ml ret pc (a0 :: a1 :: a2 :: a3 :: a4 :: a5 :: a6 :: a7 :: a8 :: a9 :: a10 :: a11 :: a12 :: a13 :: a14 :: a15 :: a16 :: a17 :: .val (.int v) :: q) st h cells slots) (pc' : Nat) (hd : decode code pc = .ok (.iload 18, 2)) (hp : pc + 2 = pc') : Go w l R Z n0 y code ml ret pc' (a0 :: a1 :: a2 :: a3 :: a4 :: a5 :: a6 :: a7 :: a8 :: a9 :: a10 :: a11 :: a12 :: a13 :: a14 :: a15 :: a16 :: a17 :: .val (.int v) :: q) ((.int v) :: st) h cells slots := r.iloadG pc' hd hp (get_s (get_s (get_s (get_s (get_s (get_s (get_s (get_s (get_s (get_s (get_s (get_s (get_s (get_s (get_s (get_s (get_s (get_s get_z))))))))))))))))))
theorem Go.ild19 {v : Int32} {a0 a1 a2 a3 a4 a5 a6 a7 a8 a9 a10 a11 a12 a13 a14 a15 a16 a17 a18 : Slot} {q : List Slot} (r : Go w l R Z n0 y code ml ret pc (a0 :: a1 :: a2 :: a3 :: a4 :: a5 :: a6 :: a7 :: a8 :: a9 :: a10 :: a11 :: a12 :: a13 :: a14 :: a15 :: a16 :: a17 :: a18 :: .val (.int v) :: q) st h cells slots) (pc' : Nat) (hd : decode code pc = .ok (.iload 19, 2)) (hp : pc + 2 = pc') : Go w l R Z n0 y code ml ret pc' (a0 :: a1 :: a2 :: a3 :: a4 :: a5 :: a6 :: a7 :: a8 :: a9 :: a10 :: a11 :: a12 :: a13 :: a14 :: a15 :: a16 :: a17 :: a18 :: .val (.int v) :: q) ((.int v) :: st) h cells slots := r.iloadG pc' hd hp (get_s (get_s (get_s (get_s (get_s (get_s (get_s (get_s (get_s (get_s (get_s (get_s (get_s (get_s (get_s (get_s (get_s (get_s (get_s get_z)))))))))))))))))))
theorem Go.ild20 {v : Int32} {a0 a1 a2 a3 a4 a5 a6 a7 a8 a9 a10 a11 a12 a13 a14 a15 a16 a17 a18 a19 : Slot} {q : List Slot} (r : Go w l R Z n0 y code ml ret pc (a0 :: a1 :: a2 :: a3 :: a4 :: a5 :: a6 :: a7 :: a8 :: a9 :: a10 :: a11 :: a12 :: a13 :: a14 :: a15 :: a16 :: a17 :: a18 :: a19 :: .val (.int v) :: q) st h cells slots) (pc' : Nat) (hd : decode code pc = .ok (.iload 20, 2)) (hp : pc + 2 = pc') : Go w l R Z n0 y code ml ret pc' (a0 :: a1 :: a2 :: a3 :: a4 :: a5 :: a6 :: a7 :: a8 :: a9 :: a10 :: a11 :: a12 :: a13 :: a14 :: a15 :: a16 :: a17 :: a18 :: a19 :: .val (.int v) :: q) ((.int v) :: st) h cells slots := r.iloadG pc' hd hp (get_s (get_s (get_s (get_s (get_s (get_s (get_s (get_s (get_s (get_s (get_s (get_s (get_s (get_s (get_s (get_s (get_s (get_s (get_s (get_s get_z))))))))))))))))))))
theorem Go.ild21 {v : Int32} {a0 a1 a2 a3 a4 a5 a6 a7 a8 a9 a10 a11 a12 a13 a14 a15 a16 a17 a18 a19 a20 : Slot} {q : List Slot} (r : Go w l R Z n0 y code ml ret pc (a0 :: a1 :: a2 :: a3 :: a4 :: a5 :: a6 :: a7 :: a8 :: a9 :: a10 :: a11 :: a12 :: a13 :: a14 :: a15 :: a16 :: a17 :: a18 :: a19 :: a20 :: .val (.int v) :: q) st h cells slots) (pc' : Nat) (hd : decode code pc = .ok (.iload 21, 2)) (hp : pc + 2 = pc') : Go w l R Z n0 y code ml ret pc' (a0 :: a1 :: a2 :: a3 :: a4 :: a5 :: a6 :: a7 :: a8 :: a9 :: a10 :: a11 :: a12 :: a13 :: a14 :: a15 :: a16 :: a17 :: a18 :: a19 :: a20 :: .val (.int v) :: q) ((.int v) :: st) h cells slots := r.iloadG pc' hd hp (get_s (get_s (get_s (get_s (get_s (get_s (get_s (get_s (get_s (get_s (get_s (get_s (get_s (get_s (get_s (get_s (get_s (get_s (get_s (get_s (get_s get_z)))))))))))))))))))))
theorem Go.ild22 {v : Int32} {a0 a1 a2 a3 a4 a5 a6 a7 a8 a9 a10 a11 a12 a13 a14 a15 a16 a17 a18 a19 a20 a21 : Slot} {q : List Slot} (r : Go w l R Z n0 y code ml ret pc (a0 :: a1 :: a2 :: a3 :: a4 :: a5 :: a6 :: a7 :: a8 :: a9 :: a10 :: a11 :: a12 :: a13 :: a14 :: a15 :: a16 :: a17 :: a18 :: a19 :: a20 :: a21 :: .val (.int v) :: q) st h cells slots) (pc' : Nat) (hd : decode code pc = .ok (.iload 22, 2)) (hp : pc + 2 = pc') : Go w l R Z n0 y code ml ret pc' (a0 :: a1 :: a2 :: a3 :: a4 :: a5 :: a6 :: a7 :: a8 :: a9 :: a10 :: a11 :: a12 :: a13 :: a14 :: a15 :: a16 :: a17 :: a18 :: a19 :: a20 :: a21 :: .val (.int v) :: q) ((.int v) :: st) h cells slots := r.iloadG pc' hd hp (get_s (get_s (get_s (get_s (get_s (get_s (get_s (get_s (get_s (get_s (get_s (get_s (get_s (get_s (get_s (get_s (get_s (get_s (get_s (get_s (get_s (get_s get_z))))))))))))))))))))))
theorem Go.inc2 {v d : Int32} {i : Int} {a0 a1 : Slot} {q : List Slot} (r : Go w l R Z n0 y code ml ret pc (a0 :: a1 :: .val (.int v) :: q) st h cells slots) (pc' : Nat) (hd : decode code pc = .ok (.iinc 2 i, 3)) (hp : pc + 3 = pc') (he : Int32.ofInt i = d) : Go w l R Z n0 y code ml ret pc' (a0 :: a1 :: .val (.int (v + d)) :: q) st h cells slots := r.iincG pc' hd hp (get_s (get_s get_z)) (by rw [he]; exact (set_s (set_s set_z)))
theorem Go.inc4 {v d : Int32} {i : Int} {a0 a1 a2 a3 : Slot} {q : List Slot} (r : Go w l R Z n0 y code ml ret pc (a0 :: a1 :: a2 :: a3 :: .val (.int v) :: q) st h cells slots) (pc' : Nat) (hd : decode code pc = .ok (.iinc 4 i, 3)) (hp : pc + 3 = pc') (he : Int32.ofInt i = d) : Go w l R Z n0 y code ml ret pc' (a0 :: a1 :: a2 :: a3 :: .val (.int (v + d)) :: q) st h cells slots := r.iincG pc' hd hp (get_s (get_s (get_s (get_s get_z)))) (by rw [he]; exact (set_s (set_s (set_s (set_s set_z)))))
theorem Go.ist2 {v : Int32} {o : Slot} {a0 a1 : Slot} {q : List Slot} (r : Go w l R Z n0 y code ml ret pc (a0 :: a1 :: o :: q) ((.int v) :: st) h cells slots) (pc' : Nat) (hd : decode code pc = .ok (.istore_n 2, 1)) (hp : pc + 1 = pc') (ho : One o) : Go w l R Z n0 y code ml ret pc' (a0 :: a1 :: .val (.int v) :: q) st h cells slots := r.istoreNG pc' hd hp (get_s (get_s get_z)) ho (set_s (set_s set_z))
theorem Go.ist3 {v : Int32} {o : Slot} {a0 a1 a2 : Slot} {q : List Slot} (r : Go w l R Z n0 y code ml ret pc (a0 :: a1 :: a2 :: o :: q) ((.int v) :: st) h cells slots) (pc' : Nat) (hd : decode code pc = .ok (.istore_n 3, 1)) (hp : pc + 1 = pc') (ho : One o) : Go w l R Z n0 y code ml ret pc' (a0 :: a1 :: a2 :: .val (.int v) :: q) st h cells slots := r.istoreNG pc' hd hp (get_s (get_s (get_s get_z))) ho (set_s (set_s (set_s set_z)))
theorem Go.ist4 {v : Int32} {o : Slot} {a0 a1 a2 a3 : Slot} {q : List Slot} (r : Go w l R Z n0 y code ml ret pc (a0 :: a1 :: a2 :: a3 :: o :: q) ((.int v) :: st) h cells slots) (pc' : Nat) (hd : decode code pc = .ok (.istore 4, 2)) (hp : pc + 2 = pc') (ho : One o) : Go w l R Z n0 y code ml ret pc' (a0 :: a1 :: a2 :: a3 :: .val (.int v) :: q) st h cells slots := r.istoreG pc' hd hp (get_s (get_s (get_s (get_s get_z)))) ho (set_s (set_s (set_s (set_s set_z))))
theorem Go.ist9 {v : Int32} {o : Slot} {a0 a1 a2 a3 a4 a5 a6 a7 a8 : Slot} {q : List Slot} (r : Go w l R Z n0 y code ml ret pc (a0 :: a1 :: a2 :: a3 :: a4 :: a5 :: a6 :: a7 :: a8 :: o :: q) ((.int v) :: st) h cells slots) (pc' : Nat) (hd : decode code pc = .ok (.istore 9, 2)) (hp : pc + 2 = pc') (ho : One o) : Go w l R Z n0 y code ml ret pc' (a0 :: a1 :: a2 :: a3 :: a4 :: a5 :: a6 :: a7 :: a8 :: .val (.int v) :: q) st h cells slots := r.istoreG pc' hd hp (get_s (get_s (get_s (get_s (get_s (get_s (get_s (get_s (get_s get_z))))))))) ho (set_s (set_s (set_s (set_s (set_s (set_s (set_s (set_s (set_s set_z)))))))))
theorem Go.ist10 {v : Int32} {o : Slot} {a0 a1 a2 a3 a4 a5 a6 a7 a8 a9 : Slot} {q : List Slot} (r : Go w l R Z n0 y code ml ret pc (a0 :: a1 :: a2 :: a3 :: a4 :: a5 :: a6 :: a7 :: a8 :: a9 :: o :: q) ((.int v) :: st) h cells slots) (pc' : Nat) (hd : decode code pc = .ok (.istore 10, 2)) (hp : pc + 2 = pc') (ho : One o) : Go w l R Z n0 y code ml ret pc' (a0 :: a1 :: a2 :: a3 :: a4 :: a5 :: a6 :: a7 :: a8 :: a9 :: .val (.int v) :: q) st h cells slots := r.istoreG pc' hd hp (get_s (get_s (get_s (get_s (get_s (get_s (get_s (get_s (get_s (get_s get_z)))))))))) ho (set_s (set_s (set_s (set_s (set_s (set_s (set_s (set_s (set_s (set_s set_z))))))))))
theorem Go.ist11 {v : Int32} {o : Slot} {a0 a1 a2 a3 a4 a5 a6 a7 a8 a9 a10 : Slot} {q : List Slot} (r : Go w l R Z n0 y code ml ret pc (a0 :: a1 :: a2 :: a3 :: a4 :: a5 :: a6 :: a7 :: a8 :: a9 :: a10 :: o :: q) ((.int v) :: st) h cells slots) (pc' : Nat) (hd : decode code pc = .ok (.istore 11, 2)) (hp : pc + 2 = pc') (ho : One o) : Go w l R Z n0 y code ml ret pc' (a0 :: a1 :: a2 :: a3 :: a4 :: a5 :: a6 :: a7 :: a8 :: a9 :: a10 :: .val (.int v) :: q) st h cells slots := r.istoreG pc' hd hp (get_s (get_s (get_s (get_s (get_s (get_s (get_s (get_s (get_s (get_s (get_s get_z))))))))))) ho (set_s (set_s (set_s (set_s (set_s (set_s (set_s (set_s (set_s (set_s (set_s set_z)))))))))))
theorem Go.ist12 {v : Int32} {o : Slot} {a0 a1 a2 a3 a4 a5 a6 a7 a8 a9 a10 a11 : Slot} {q : List Slot} (r : Go w l R Z n0 y code ml ret pc (a0 :: a1 :: a2 :: a3 :: a4 :: a5 :: a6 :: a7 :: a8 :: a9 :: a10 :: a11 :: o :: q) ((.int v) :: st) h cells slots) (pc' : Nat) (hd : decode code pc = .ok (.istore 12, 2)) (hp : pc + 2 = pc') (ho : One o) : Go w l R Z n0 y code ml ret pc' (a0 :: a1 :: a2 :: a3 :: a4 :: a5 :: a6 :: a7 :: a8 :: a9 :: a10 :: a11 :: .val (.int v) :: q) st h cells slots := r.istoreG pc' hd hp (get_s (get_s (get_s (get_s (get_s (get_s (get_s (get_s (get_s (get_s (get_s (get_s get_z)))))))))))) ho (set_s (set_s (set_s (set_s (set_s (set_s (set_s (set_s (set_s (set_s (set_s (set_s set_z))))))))))))
theorem Go.ist15 {v : Int32} {o : Slot} {a0 a1 a2 a3 a4 a5 a6 a7 a8 a9 a10 a11 a12 a13 a14 : Slot} {q : List Slot} (r : Go w l R Z n0 y code ml ret pc (a0 :: a1 :: a2 :: a3 :: a4 :: a5 :: a6 :: a7 :: a8 :: a9 :: a10 :: a11 :: a12 :: a13 :: a14 :: o :: q) ((.int v) :: st) h cells slots) (pc' : Nat) (hd : decode code pc = .ok (.istore 15, 2)) (hp : pc + 2 = pc') (ho : One o) : Go w l R Z n0 y code ml ret pc' (a0 :: a1 :: a2 :: a3 :: a4 :: a5 :: a6 :: a7 :: a8 :: a9 :: a10 :: a11 :: a12 :: a13 :: a14 :: .val (.int v) :: q) st h cells slots := r.istoreG pc' hd hp (get_s (get_s (get_s (get_s (get_s (get_s (get_s (get_s (get_s (get_s (get_s (get_s (get_s (get_s (get_s get_z))))))))))))))) ho (set_s (set_s (set_s (set_s (set_s (set_s (set_s (set_s (set_s (set_s (set_s (set_s (set_s (set_s (set_s set_z)))))))))))))))
theorem Go.ist16 {v : Int32} {o : Slot} {a0 a1 a2 a3 a4 a5 a6 a7 a8 a9 a10 a11 a12 a13 a14 a15 : Slot} {q : List Slot} (r : Go w l R Z n0 y code ml ret pc (a0 :: a1 :: a2 :: a3 :: a4 :: a5 :: a6 :: a7 :: a8 :: a9 :: a10 :: a11 :: a12 :: a13 :: a14 :: a15 :: o :: q) ((.int v) :: st) h cells slots) (pc' : Nat) (hd : decode code pc = .ok (.istore 16, 2)) (hp : pc + 2 = pc') (ho : One o) : Go w l R Z n0 y code ml ret pc' (a0 :: a1 :: a2 :: a3 :: a4 :: a5 :: a6 :: a7 :: a8 :: a9 :: a10 :: a11 :: a12 :: a13 :: a14 :: a15 :: .val (.int v) :: q) st h cells slots := r.istoreG pc' hd hp (get_s (get_s (get_s (get_s (get_s (get_s (get_s (get_s (get_s (get_s (get_s (get_s (get_s (get_s (get_s (get_s get_z)))))))))))))))) ho (set_s (set_s (set_s (set_s (set_s (set_s (set_s (set_s (set_s (set_s (set_s (set_s (set_s (set_s (set_s (set_s set_z))))))))))))))))
theorem Go.ist17 {v : Int32} {o : Slot} {a0 a1 a2 a3 a4 a5 a6 a7 a8 a9 a10 a11 a12 a13 a14 a15 a16 : Slot} {q : List Slot} (r : Go w l R Z n0 y code ml ret pc (a0 :: a1 :: a2 :: a3 :: a4 :: a5 :: a6 :: a7 :: a8 :: a9 :: a10 :: a11 :: a12 :: a13 :: a14 :: a15 :: a16 :: o :: q) ((.int v) :: st) h cells slots) (pc' : Nat) (hd : decode code pc = .ok (.istore 17, 2)) (hp : pc + 2 = pc') (ho : One o) : Go w l R Z n0 y code ml ret pc' (a0 :: a1 :: a2 :: a3 :: a4 :: a5 :: a6 :: a7 :: a8 :: a9 :: a10 :: a11 :: a12 :: a13 :: a14 :: a15 :: a16 :: .val (.int v) :: q) st h cells slots := r.istoreG pc' hd hp (get_s (get_s (get_s (get_s (get_s (get_s (get_s (get_s (get_s (get_s (get_s (get_s (get_s (get_s (get_s (get_s (get_s get_z))))))))))))))))) ho (set_s (set_s (set_s (set_s (set_s (set_s (set_s (set_s (set_s (set_s (set_s (set_s (set_s (set_s (set_s (set_s (set_s set_z)))))))))))))))))
theorem Go.ist18 {v : Int32} {o : Slot} {a0 a1 a2 a3 a4 a5 a6 a7 a8 a9 a10 a11 a12 a13 a14 a15 a16 a17 : Slot} {q : List Slot} (r : Go w l R Z n0 y code ml ret pc (a0 :: a1 :: a2 :: a3 :: a4 :: a5 :: a6 :: a7 :: a8 :: a9 :: a10 :: a11 :: a12 :: a13 :: a14 :: a15 :: a16 :: a17 :: o :: q) ((.int v) :: st) h cells slots) (pc' : Nat) (hd : decode code pc = .ok (.istore 18, 2)) (hp : pc + 2 = pc') (ho : One o) : Go w l R Z n0 y code ml ret pc' (a0 :: a1 :: a2 :: a3 :: a4 :: a5 :: a6 :: a7 :: a8 :: a9 :: a10 :: a11 :: a12 :: a13 :: a14 :: a15 :: a16 :: a17 :: .val (.int v) :: q) st h cells slots := r.istoreG pc' hd hp (get_s (get_s (get_s (get_s (get_s (get_s (get_s (get_s (get_s (get_s (get_s (get_s (get_s (get_s (get_s (get_s (get_s (get_s get_z)))))))))))))))))) ho (set_s (set_s (set_s (set_s (set_s (set_s (set_s (set_s (set_s (set_s (set_s (set_s (set_s (set_s (set_s (set_s (set_s (set_s set_z))))))))))))))))))
theorem Go.ist19 {v : Int32} {o : Slot} {a0 a1 a2 a3 a4 a5 a6 a7 a8 a9 a10 a11 a12 a13 a14 a15 a16 a17 a18 : Slot} {q : List Slot} (r : Go w l R Z n0 y code ml ret pc (a0 :: a1 :: a2 :: a3 :: a4 :: a5 :: a6 :: a7 :: a8 :: a9 :: a10 :: a11 :: a12 :: a13 :: a14 :: a15 :: a16 :: a17 :: a18 :: o :: q) ((.int v) :: st) h cells slots) (pc' : Nat) (hd : decode code pc = .ok (.istore 19, 2)) (hp : pc + 2 = pc') (ho : One o) : Go w l R Z n0 y code ml ret pc' (a0 :: a1 :: a2 :: a3 :: a4 :: a5 :: a6 :: a7 :: a8 :: a9 :: a10 :: a11 :: a12 :: a13 :: a14 :: a15 :: a16 :: a17 :: a18 :: .val (.int v) :: q) st h cells slots := r.istoreG pc' hd hp (get_s (get_s (get_s (get_s (get_s (get_s (get_s (get_s (get_s (get_s (get_s (get_s (get_s (get_s (get_s (get_s (get_s (get_s (get_s get_z))))))))))))))))))) ho (set_s (set_s (set_s (set_s (set_s (set_s (set_s (set_s (set_s (set_s (set_s (set_s (set_s (set_s (set_s (set_s (set_s (set_s (set_s set_z)))))))))))))))))))
theorem Go.ist20 {v : Int32} {o : Slot} {a0 a1 a2 a3 a4 a5 a6 a7 a8 a9 a10 a11 a12 a13 a14 a15 a16 a17 a18 a19 : Slot} {q : List Slot} (r : Go w l R Z n0 y code ml ret pc (a0 :: a1 :: a2 :: a3 :: a4 :: a5 :: a6 :: a7 :: a8 :: a9 :: a10 :: a11 :: a12 :: a13 :: a14 :: a15 :: a16 :: a17 :: a18 :: a19 :: o :: q) ((.int v) :: st) h cells slots) (pc' : Nat) (hd : decode code pc = .ok (.istore 20, 2)) (hp : pc + 2 = pc') (ho : One o) : Go w l R Z n0 y code ml ret pc' (a0 :: a1 :: a2 :: a3 :: a4 :: a5 :: a6 :: a7 :: a8 :: a9 :: a10 :: a11 :: a12 :: a13 :: a14 :: a15 :: a16 :: a17 :: a18 :: a19 :: .val (.int v) :: q) st h cells slots := r.istoreG pc' hd hp (get_s (get_s (get_s (get_s (get_s (get_s (get_s (get_s (get_s (get_s (get_s (get_s (get_s (get_s (get_s (get_s (get_s (get_s (get_s (get_s get_z)))))))))))))))))))) ho (set_s (set_s (set_s (set_s (set_s (set_s (set_s (set_s (set_s (set_s (set_s (set_s (set_s (set_s (set_s (set_s (set_s (set_s (set_s (set_s set_z))))))))))))))))))))
theorem Go.ist21 {v : Int32} {o : Slot} {a0 a1 a2 a3 a4 a5 a6 a7 a8 a9 a10 a11 a12 a13 a14 a15 a16 a17 a18 a19 a20 : Slot} {q : List Slot} (r : Go w l R Z n0 y code ml ret pc (a0 :: a1 :: a2 :: a3 :: a4 :: a5 :: a6 :: a7 :: a8 :: a9 :: a10 :: a11 :: a12 :: a13 :: a14 :: a15 :: a16 :: a17 :: a18 :: a19 :: a20 :: o :: q) ((.int v) :: st) h cells slots) (pc' : Nat) (hd : decode code pc = .ok (.istore 21, 2)) (hp : pc + 2 = pc') (ho : One o) : Go w l R Z n0 y code ml ret pc' (a0 :: a1 :: a2 :: a3 :: a4 :: a5 :: a6 :: a7 :: a8 :: a9 :: a10 :: a11 :: a12 :: a13 :: a14 :: a15 :: a16 :: a17 :: a18 :: a19 :: a20 :: .val (.int v) :: q) st h cells slots := r.istoreG pc' hd hp (get_s (get_s (get_s (get_s (get_s (get_s (get_s (get_s (get_s (get_s (get_s (get_s (get_s (get_s (get_s (get_s (get_s (get_s (get_s (get_s (get_s get_z))))))))))))))))))))) ho (set_s (set_s (set_s (set_s (set_s (set_s (set_s (set_s (set_s (set_s (set_s (set_s (set_s (set_s (set_s (set_s (set_s (set_s (set_s (set_s (set_s set_z)))))))))))))))))))))
theorem Go.ist22 {v : Int32} {o : Slot} {a0 a1 a2 a3 a4 a5 a6 a7 a8 a9 a10 a11 a12 a13 a14 a15 a16 a17 a18 a19 a20 a21 : Slot} {q : List Slot} (r : Go w l R Z n0 y code ml ret pc (a0 :: a1 :: a2 :: a3 :: a4 :: a5 :: a6 :: a7 :: a8 :: a9 :: a10 :: a11 :: a12 :: a13 :: a14 :: a15 :: a16 :: a17 :: a18 :: a19 :: a20 :: a21 :: o :: q) ((.int v) :: st) h cells slots) (pc' : Nat) (hd : decode code pc = .ok (.istore 22, 2)) (hp : pc + 2 = pc') (ho : One o) : Go w l R Z n0 y code ml ret pc' (a0 :: a1 :: a2 :: a3 :: a4 :: a5 :: a6 :: a7 :: a8 :: a9 :: a10 :: a11 :: a12 :: a13 :: a14 :: a15 :: a16 :: a17 :: a18 :: a19 :: a20 :: a21 :: .val (.int v) :: q) st h cells slots := r.istoreG pc' hd hp (get_s (get_s (get_s (get_s (get_s (get_s (get_s (get_s (get_s (get_s (get_s (get_s (get_s (get_s (get_s (get_s (get_s (get_s (get_s (get_s (get_s (get_s get_z)))))))))))))))))))))) ho (set_s (set_s (set_s (set_s (set_s (set_s (set_s (set_s (set_s (set_s (set_s (set_s (set_s (set_s (set_s (set_s (set_s (set_s (set_s (set_s (set_s (set_s set_z))))))))))))))))))))))
theorem Go.lld0 {v : Int64} {q : List Slot} (r : Go w l R Z n0 y code ml ret pc (.val (.long v) :: q) st h cells slots) (pc' : Nat) (hd : decode code pc = .ok (.lload_n 0, 1)) (hp : pc + 1 = pc') : Go w l R Z n0 y code ml ret pc' (.val (.long v) :: q) ((.long v) :: st) h cells slots := r.lloadNG pc' hd hp get_z
theorem Go.lld1 {v : Int64} {a0 : Slot} {q : List Slot} (r : Go w l R Z n0 y code ml ret pc (a0 :: .val (.long v) :: q) st h cells slots) (pc' : Nat) (hd : decode code pc = .ok (.lload_n 1, 1)) (hp : pc + 1 = pc') : Go w l R Z n0 y code ml ret pc' (a0 :: .val (.long v) :: q) ((.long v) :: st) h cells slots := r.lloadNG pc' hd hp (get_s get_z)
theorem Go.lld2 {v : Int64} {a0 a1 : Slot} {q : List Slot} (r : Go w l R Z n0 y code ml ret pc (a0 :: a1 :: .val (.long v) :: q) st h cells slots) (pc' : Nat) (hd : decode code pc = .ok (.lload_n 2, 1)) (hp : pc + 1 = pc') : Go w l R Z n0 y code ml ret pc' (a0 :: a1 :: .val (.long v) :: q) ((.long v) :: st) h cells slots := r.lloadNG pc' hd hp (get_s (get_s get_z))
theorem Go.lld3 {v : Int64} {a0 a1 a2 : Slot} {q : List Slot} (r : Go w l R Z n0 y code ml ret pc (a0 :: a1 :: a2 :: .val (.long v) :: q) st h cells slots) (pc' : Nat) (hd : decode code pc = .ok (.lload_n 3, 1)) (hp : pc + 1 = pc') : Go w l R Z n0 y code ml ret pc' (a0 :: a1 :: a2 :: .val (.long v) :: q) ((.long v) :: st) h cells slots := r.lloadNG pc' hd hp (get_s (get_s (get_s get_z)))
theorem Go.lld4 {v : Int64} {a0 a1 a2 a3 : Slot} {q : List Slot} (r : Go w l R Z n0 y code ml ret pc (a0 :: a1 :: a2 :: a3 :: .val (.long v) :: q) st h cells slots) (pc' : Nat) (hd : decode code pc = .ok (.lload 4, 2)) (hp : pc + 2 = pc') : Go w l R Z n0 y code ml ret pc' (a0 :: a1 :: a2 :: a3 :: .val (.long v) :: q) ((.long v) :: st) h cells slots := r.lloadG pc' hd hp (get_s (get_s (get_s (get_s get_z))))
theorem Go.lld5 {v : Int64} {a0 a1 a2 a3 a4 : Slot} {q : List Slot} (r : Go w l R Z n0 y code ml ret pc (a0 :: a1 :: a2 :: a3 :: a4 :: .val (.long v) :: q) st h cells slots) (pc' : Nat) (hd : decode code pc = .ok (.lload 5, 2)) (hp : pc + 2 = pc') : Go w l R Z n0 y code ml ret pc' (a0 :: a1 :: a2 :: a3 :: a4 :: .val (.long v) :: q) ((.long v) :: st) h cells slots := r.lloadG pc' hd hp (get_s (get_s (get_s (get_s (get_s get_z)))))
theorem Go.lld7 {v : Int64} {a0 a1 a2 a3 a4 a5 a6 : Slot} {q : List Slot} (r : Go w l R Z n0 y code ml ret pc (a0 :: a1 :: a2 :: a3 :: a4 :: a5 :: a6 :: .val (.long v) :: q) st h cells slots) (pc' : Nat) (hd : decode code pc = .ok (.lload 7, 2)) (hp : pc + 2 = pc') : Go w l R Z n0 y code ml ret pc' (a0 :: a1 :: a2 :: a3 :: a4 :: a5 :: a6 :: .val (.long v) :: q) ((.long v) :: st) h cells slots := r.lloadG pc' hd hp (get_s (get_s (get_s (get_s (get_s (get_s (get_s get_z)))))))
theorem Go.lld9 {v : Int64} {a0 a1 a2 a3 a4 a5 a6 a7 a8 : Slot} {q : List Slot} (r : Go w l R Z n0 y code ml ret pc (a0 :: a1 :: a2 :: a3 :: a4 :: a5 :: a6 :: a7 :: a8 :: .val (.long v) :: q) st h cells slots) (pc' : Nat) (hd : decode code pc = .ok (.lload 9, 2)) (hp : pc + 2 = pc') : Go w l R Z n0 y code ml ret pc' (a0 :: a1 :: a2 :: a3 :: a4 :: a5 :: a6 :: a7 :: a8 :: .val (.long v) :: q) ((.long v) :: st) h cells slots := r.lloadG pc' hd hp (get_s (get_s (get_s (get_s (get_s (get_s (get_s (get_s (get_s get_z)))))))))
theorem Go.lst9 {v : Int64} {o o' : Slot} {a0 a1 a2 a3 a4 a5 a6 a7 a8 : Slot} {q : List Slot} (r : Go w l R Z n0 y code ml ret pc (a0 :: a1 :: a2 :: a3 :: a4 :: a5 :: a6 :: a7 :: a8 :: o :: o' :: q) (.long v :: st) h cells slots) (pc' : Nat) (hd : decode code pc = .ok (.lstore 9, 2)) (hp : pc + 2 = pc') (ho : Two o o') : Go w l R Z n0 y code ml ret pc' (a0 :: a1 :: a2 :: a3 :: a4 :: a5 :: a6 :: a7 :: a8 :: .val (.long v) :: .second :: q) st h cells slots := r.lstoreG pc' hd hp (get_s (get_s (get_s (get_s (get_s (get_s (get_s (get_s (get_s get_z))))))))) (get_s (get_s (get_s (get_s (get_s (get_s (get_s (get_s (get_s (get_s get_z)))))))))) ho (by show ((a0 :: a1 :: a2 :: a3 :: a4 :: a5 :: a6 :: a7 :: a8 :: o :: o' :: q).set 9 (.val (.long v))).set (9 + 1) .second = _; rw [show (a0 :: a1 :: a2 :: a3 :: a4 :: a5 :: a6 :: a7 :: a8 :: o :: o' :: q).set 9 (.val (.long v)) = (a0 :: a1 :: a2 :: a3 :: a4 :: a5 :: a6 :: a7 :: a8 :: .val (.long v) :: o' :: q) from (set_s (set_s (set_s (set_s (set_s (set_s (set_s (set_s (set_s set_z)))))))))]; exact (set_s (set_s (set_s (set_s (set_s (set_s (set_s (set_s (set_s (set_s set_z)))))))))))
theorem Go.goto {o : Int} (r : Go w l R Z n0 y code ml ret pc Ls st h cells slots) (pc' : Nat) (hd : decode code pc = .ok (.goto o, 3)) (hp : (pc : Int) + o = pc') : Go w l R Z n0 y code ml ret pc' Ls st h cells slots :=
  r.step fun T t a x b k => XS.goto a x rfl (pc0 := pc) (pc' := pc') rfl (hb b hd) (by rw [hp]; exact Int.natCast_nonneg _) (by rw [hp]; exact Int.toNat_natCast _) k
theorem Go.ifT {o : Int} {cd : ClassFile.Cond} {u : Int32} (r : Go w l R Z n0 y code ml ret pc Ls (.int u :: st) h cells slots) (pc' : Nat) (hd : decode code pc = .ok (.ifCond cd o, 3)) (hp : (pc : Int) + o = pc') (hc : ifCond.holds cd u = true) : Go w l R Z n0 y code ml ret pc' Ls st h cells slots :=
  r.step fun T t a x b k => XS.ifYes a x rfl (pc0 := pc) (pc' := pc') rfl (hb b hd) rfl hc (by rw [hp]; exact Int.natCast_nonneg _) (by rw [hp]; exact Int.toNat_natCast _) k
theorem Go.ifF {o : Int} {cd : ClassFile.Cond} {u : Int32} (r : Go w l R Z n0 y code ml ret pc Ls (.int u :: st) h cells slots) (pc' : Nat) (hd : decode code pc = .ok (.ifCond cd o, 3)) (hp : pc + 3 = pc') (hc : ifCond.holds cd u = false) : Go w l R Z n0 y code ml ret pc' Ls st h cells slots := by
  subst hp; exact r.step fun T t a x b k => XS.ifNo a x rfl (hb b hd) rfl hc k
theorem Go.icT {o : Int} {cd : ClassFile.Cond} {u v : Int32} (r : Go w l R Z n0 y code ml ret pc Ls (.int v :: .int u :: st) h cells slots) (pc' : Nat) (hd : decode code pc = .ok (.if_icmp cd o, 3)) (hp : (pc : Int) + o = pc') (hc : if_icmp.holds cd u v = true) : Go w l R Z n0 y code ml ret pc' Ls st h cells slots :=
  r.step fun T t a x b k => XS.icmpYes a x rfl (pc0 := pc) (pc' := pc') rfl (hb b hd) rfl hc (by rw [hp]; exact Int.natCast_nonneg _) (by rw [hp]; exact Int.toNat_natCast _) k
theorem Go.icF {o : Int} {cd : ClassFile.Cond} {u v : Int32} (r : Go w l R Z n0 y code ml ret pc Ls (.int v :: .int u :: st) h cells slots) (pc' : Nat) (hd : decode code pc = .ok (.if_icmp cd o, 3)) (hp : pc + 3 = pc') (hc : if_icmp.holds cd u v = false) : Go w l R Z n0 y code ml ret pc' Ls st h cells slots := by
  subst hp; exact r.step fun T t a x b k => XS.icmpNo a x rfl (hb b hd) rfl hc k
theorem Go.if_eqT {o : Int} {u : Int32} (r : Go w l R Z n0 y code ml ret pc Ls (.int u :: st) h cells slots) (pc' : Nat) (hd : decode code pc = .ok (.ifCond .eq o, 3)) (hp : (pc : Int) + o = pc') (hc : u = 0) : Go w l R Z n0 y code ml ret pc' Ls st h cells slots := r.ifT pc' hd hp ((if0 _ _).trans (teq hc).1)
theorem Go.if_eqF {o : Int} {u : Int32} (r : Go w l R Z n0 y code ml ret pc Ls (.int u :: st) h cells slots) (pc' : Nat) (hd : decode code pc = .ok (.ifCond .eq o, 3)) (hp : pc + 3 = pc') (hc : ¬ u = 0) : Go w l R Z n0 y code ml ret pc' Ls st h cells slots := r.ifF pc' hd hp ((if0 _ _).trans (feq hc).1)
theorem Go.if_eq {o : Int} {u : Int32} (r : Go w l R Z n0 y code ml ret pc Ls (.int u :: st) h cells slots) (pcT pcF : Nat) (hd : decode code pc = .ok (.ifCond .eq o, 3)) (hp : (pc : Int) + o = pcT) (hq : pc + 3 = pcF) : ((u = 0) ∧ Go w l R Z n0 y code ml ret pcT Ls st h cells slots) ∨ ((¬ u = 0) ∧ Go w l R Z n0 y code ml ret pcF Ls st h cells slots) := by
  by_cases hc : u = 0
  · exact Or.inl ⟨hc, r.if_eqT pcT hd hp hc⟩
  · exact Or.inr ⟨hc, r.if_eqF pcF hd hq hc⟩
theorem Go.ic_eqT {o : Int} {u v : Int32} (r : Go w l R Z n0 y code ml ret pc Ls (.int v :: .int u :: st) h cells slots) (pc' : Nat) (hd : decode code pc = .ok (.if_icmp .eq o, 3)) (hp : (pc : Int) + o = pc') (hc : u = v) : Go w l R Z n0 y code ml ret pc' Ls st h cells slots := r.icT pc' hd hp (teq hc).1
theorem Go.ic_eqF {o : Int} {u v : Int32} (r : Go w l R Z n0 y code ml ret pc Ls (.int v :: .int u :: st) h cells slots) (pc' : Nat) (hd : decode code pc = .ok (.if_icmp .eq o, 3)) (hp : pc + 3 = pc') (hc : ¬ u = v) : Go w l R Z n0 y code ml ret pc' Ls st h cells slots := r.icF pc' hd hp (feq hc).1
theorem Go.ic_eq {o : Int} {u v : Int32} (r : Go w l R Z n0 y code ml ret pc Ls (.int v :: .int u :: st) h cells slots) (pcT pcF : Nat) (hd : decode code pc = .ok (.if_icmp .eq o, 3)) (hp : (pc : Int) + o = pcT) (hq : pc + 3 = pcF) : ((u = v) ∧ Go w l R Z n0 y code ml ret pcT Ls st h cells slots) ∨ ((¬ u = v) ∧ Go w l R Z n0 y code ml ret pcF Ls st h cells slots) := by
  by_cases hc : u = v
  · exact Or.inl ⟨hc, r.ic_eqT pcT hd hp hc⟩
  · exact Or.inr ⟨hc, r.ic_eqF pcF hd hq hc⟩
theorem Go.if_neT {o : Int} {u : Int32} (r : Go w l R Z n0 y code ml ret pc Ls (.int u :: st) h cells slots) (pc' : Nat) (hd : decode code pc = .ok (.ifCond .ne o, 3)) (hp : (pc : Int) + o = pc') (hc : ¬ u = 0) : Go w l R Z n0 y code ml ret pc' Ls st h cells slots := r.ifT pc' hd hp ((if0 _ _).trans (feq hc).2)
theorem Go.if_neF {o : Int} {u : Int32} (r : Go w l R Z n0 y code ml ret pc Ls (.int u :: st) h cells slots) (pc' : Nat) (hd : decode code pc = .ok (.ifCond .ne o, 3)) (hp : pc + 3 = pc') (hc : u = 0) : Go w l R Z n0 y code ml ret pc' Ls st h cells slots := r.ifF pc' hd hp ((if0 _ _).trans (teq hc).2)
theorem Go.if_ne {o : Int} {u : Int32} (r : Go w l R Z n0 y code ml ret pc Ls (.int u :: st) h cells slots) (pcT pcF : Nat) (hd : decode code pc = .ok (.ifCond .ne o, 3)) (hp : (pc : Int) + o = pcT) (hq : pc + 3 = pcF) : ((¬ u = 0) ∧ Go w l R Z n0 y code ml ret pcT Ls st h cells slots) ∨ ((u = 0) ∧ Go w l R Z n0 y code ml ret pcF Ls st h cells slots) := by
  by_cases hc : ¬ u = 0
  · exact Or.inl ⟨hc, r.if_neT pcT hd hp hc⟩
  · exact Or.inr ⟨Classical.not_not.mp hc, r.if_neF pcF hd hq (Classical.not_not.mp hc)⟩
theorem Go.ic_neT {o : Int} {u v : Int32} (r : Go w l R Z n0 y code ml ret pc Ls (.int v :: .int u :: st) h cells slots) (pc' : Nat) (hd : decode code pc = .ok (.if_icmp .ne o, 3)) (hp : (pc : Int) + o = pc') (hc : ¬ u = v) : Go w l R Z n0 y code ml ret pc' Ls st h cells slots := r.icT pc' hd hp (feq hc).2
theorem Go.ic_neF {o : Int} {u v : Int32} (r : Go w l R Z n0 y code ml ret pc Ls (.int v :: .int u :: st) h cells slots) (pc' : Nat) (hd : decode code pc = .ok (.if_icmp .ne o, 3)) (hp : pc + 3 = pc') (hc : u = v) : Go w l R Z n0 y code ml ret pc' Ls st h cells slots := r.icF pc' hd hp (teq hc).2
theorem Go.ic_ne {o : Int} {u v : Int32} (r : Go w l R Z n0 y code ml ret pc Ls (.int v :: .int u :: st) h cells slots) (pcT pcF : Nat) (hd : decode code pc = .ok (.if_icmp .ne o, 3)) (hp : (pc : Int) + o = pcT) (hq : pc + 3 = pcF) : ((¬ u = v) ∧ Go w l R Z n0 y code ml ret pcT Ls st h cells slots) ∨ ((u = v) ∧ Go w l R Z n0 y code ml ret pcF Ls st h cells slots) := by
  by_cases hc : ¬ u = v
  · exact Or.inl ⟨hc, r.ic_neT pcT hd hp hc⟩
  · exact Or.inr ⟨Classical.not_not.mp hc, r.ic_neF pcF hd hq (Classical.not_not.mp hc)⟩
theorem Go.if_ltT {o : Int} {u : Int32} (r : Go w l R Z n0 y code ml ret pc Ls (.int u :: st) h cells slots) (pc' : Nat) (hd : decode code pc = .ok (.ifCond .lt o, 3)) (hp : (pc : Int) + o = pc') (hc : u < 0) : Go w l R Z n0 y code ml ret pc' Ls st h cells slots := r.ifT pc' hd hp ((if0 _ _).trans (tlt hc).1)
theorem Go.if_ltF {o : Int} {u : Int32} (r : Go w l R Z n0 y code ml ret pc Ls (.int u :: st) h cells slots) (pc' : Nat) (hd : decode code pc = .ok (.ifCond .lt o, 3)) (hp : pc + 3 = pc') (hc : ¬ u < 0) : Go w l R Z n0 y code ml ret pc' Ls st h cells slots := r.ifF pc' hd hp ((if0 _ _).trans (flt hc).1)
theorem Go.if_lt {o : Int} {u : Int32} (r : Go w l R Z n0 y code ml ret pc Ls (.int u :: st) h cells slots) (pcT pcF : Nat) (hd : decode code pc = .ok (.ifCond .lt o, 3)) (hp : (pc : Int) + o = pcT) (hq : pc + 3 = pcF) : ((u < 0) ∧ Go w l R Z n0 y code ml ret pcT Ls st h cells slots) ∨ ((¬ u < 0) ∧ Go w l R Z n0 y code ml ret pcF Ls st h cells slots) := by
  by_cases hc : u < 0
  · exact Or.inl ⟨hc, r.if_ltT pcT hd hp hc⟩
  · exact Or.inr ⟨hc, r.if_ltF pcF hd hq hc⟩
theorem Go.ic_ltT {o : Int} {u v : Int32} (r : Go w l R Z n0 y code ml ret pc Ls (.int v :: .int u :: st) h cells slots) (pc' : Nat) (hd : decode code pc = .ok (.if_icmp .lt o, 3)) (hp : (pc : Int) + o = pc') (hc : u < v) : Go w l R Z n0 y code ml ret pc' Ls st h cells slots := r.icT pc' hd hp (tlt hc).1
theorem Go.ic_ltF {o : Int} {u v : Int32} (r : Go w l R Z n0 y code ml ret pc Ls (.int v :: .int u :: st) h cells slots) (pc' : Nat) (hd : decode code pc = .ok (.if_icmp .lt o, 3)) (hp : pc + 3 = pc') (hc : ¬ u < v) : Go w l R Z n0 y code ml ret pc' Ls st h cells slots := r.icF pc' hd hp (flt hc).1
theorem Go.ic_lt {o : Int} {u v : Int32} (r : Go w l R Z n0 y code ml ret pc Ls (.int v :: .int u :: st) h cells slots) (pcT pcF : Nat) (hd : decode code pc = .ok (.if_icmp .lt o, 3)) (hp : (pc : Int) + o = pcT) (hq : pc + 3 = pcF) : ((u < v) ∧ Go w l R Z n0 y code ml ret pcT Ls st h cells slots) ∨ ((¬ u < v) ∧ Go w l R Z n0 y code ml ret pcF Ls st h cells slots) := by
  by_cases hc : u < v
  · exact Or.inl ⟨hc, r.ic_ltT pcT hd hp hc⟩
  · exact Or.inr ⟨hc, r.ic_ltF pcF hd hq hc⟩
theorem Go.if_geT {o : Int} {u : Int32} (r : Go w l R Z n0 y code ml ret pc Ls (.int u :: st) h cells slots) (pc' : Nat) (hd : decode code pc = .ok (.ifCond .ge o, 3)) (hp : (pc : Int) + o = pc') (hc : ¬ u < 0) : Go w l R Z n0 y code ml ret pc' Ls st h cells slots := r.ifT pc' hd hp ((if0 _ _).trans (flt hc).2.1)
theorem Go.if_geF {o : Int} {u : Int32} (r : Go w l R Z n0 y code ml ret pc Ls (.int u :: st) h cells slots) (pc' : Nat) (hd : decode code pc = .ok (.ifCond .ge o, 3)) (hp : pc + 3 = pc') (hc : u < 0) : Go w l R Z n0 y code ml ret pc' Ls st h cells slots := r.ifF pc' hd hp ((if0 _ _).trans (tlt hc).2.1)
theorem Go.if_ge {o : Int} {u : Int32} (r : Go w l R Z n0 y code ml ret pc Ls (.int u :: st) h cells slots) (pcT pcF : Nat) (hd : decode code pc = .ok (.ifCond .ge o, 3)) (hp : (pc : Int) + o = pcT) (hq : pc + 3 = pcF) : ((¬ u < 0) ∧ Go w l R Z n0 y code ml ret pcT Ls st h cells slots) ∨ ((u < 0) ∧ Go w l R Z n0 y code ml ret pcF Ls st h cells slots) := by
  by_cases hc : ¬ u < 0
  · exact Or.inl ⟨hc, r.if_geT pcT hd hp hc⟩
  · exact Or.inr ⟨Classical.not_not.mp hc, r.if_geF pcF hd hq (Classical.not_not.mp hc)⟩
theorem Go.ic_geT {o : Int} {u v : Int32} (r : Go w l R Z n0 y code ml ret pc Ls (.int v :: .int u :: st) h cells slots) (pc' : Nat) (hd : decode code pc = .ok (.if_icmp .ge o, 3)) (hp : (pc : Int) + o = pc') (hc : ¬ u < v) : Go w l R Z n0 y code ml ret pc' Ls st h cells slots := r.icT pc' hd hp (flt hc).2.1
theorem Go.ic_geF {o : Int} {u v : Int32} (r : Go w l R Z n0 y code ml ret pc Ls (.int v :: .int u :: st) h cells slots) (pc' : Nat) (hd : decode code pc = .ok (.if_icmp .ge o, 3)) (hp : pc + 3 = pc') (hc : u < v) : Go w l R Z n0 y code ml ret pc' Ls st h cells slots := r.icF pc' hd hp (tlt hc).2.1
theorem Go.ic_ge {o : Int} {u v : Int32} (r : Go w l R Z n0 y code ml ret pc Ls (.int v :: .int u :: st) h cells slots) (pcT pcF : Nat) (hd : decode code pc = .ok (.if_icmp .ge o, 3)) (hp : (pc : Int) + o = pcT) (hq : pc + 3 = pcF) : ((¬ u < v) ∧ Go w l R Z n0 y code ml ret pcT Ls st h cells slots) ∨ ((u < v) ∧ Go w l R Z n0 y code ml ret pcF Ls st h cells slots) := by
  by_cases hc : ¬ u < v
  · exact Or.inl ⟨hc, r.ic_geT pcT hd hp hc⟩
  · exact Or.inr ⟨Classical.not_not.mp hc, r.ic_geF pcF hd hq (Classical.not_not.mp hc)⟩
theorem Go.if_gtT {o : Int} {u : Int32} (r : Go w l R Z n0 y code ml ret pc Ls (.int u :: st) h cells slots) (pc' : Nat) (hd : decode code pc = .ok (.ifCond .gt o, 3)) (hp : (pc : Int) + o = pc') (hc : 0 < u) : Go w l R Z n0 y code ml ret pc' Ls st h cells slots := r.ifT pc' hd hp ((if0 _ _).trans (tlt hc).2.2.1)
theorem Go.if_gtF {o : Int} {u : Int32} (r : Go w l R Z n0 y code ml ret pc Ls (.int u :: st) h cells slots) (pc' : Nat) (hd : decode code pc = .ok (.ifCond .gt o, 3)) (hp : pc + 3 = pc') (hc : ¬ 0 < u) : Go w l R Z n0 y code ml ret pc' Ls st h cells slots := r.ifF pc' hd hp ((if0 _ _).trans (flt hc).2.2.1)
theorem Go.if_gt {o : Int} {u : Int32} (r : Go w l R Z n0 y code ml ret pc Ls (.int u :: st) h cells slots) (pcT pcF : Nat) (hd : decode code pc = .ok (.ifCond .gt o, 3)) (hp : (pc : Int) + o = pcT) (hq : pc + 3 = pcF) : ((0 < u) ∧ Go w l R Z n0 y code ml ret pcT Ls st h cells slots) ∨ ((¬ 0 < u) ∧ Go w l R Z n0 y code ml ret pcF Ls st h cells slots) := by
  by_cases hc : 0 < u
  · exact Or.inl ⟨hc, r.if_gtT pcT hd hp hc⟩
  · exact Or.inr ⟨hc, r.if_gtF pcF hd hq hc⟩
theorem Go.ic_gtT {o : Int} {u v : Int32} (r : Go w l R Z n0 y code ml ret pc Ls (.int v :: .int u :: st) h cells slots) (pc' : Nat) (hd : decode code pc = .ok (.if_icmp .gt o, 3)) (hp : (pc : Int) + o = pc') (hc : v < u) : Go w l R Z n0 y code ml ret pc' Ls st h cells slots := r.icT pc' hd hp (tlt hc).2.2.1
theorem Go.ic_gtF {o : Int} {u v : Int32} (r : Go w l R Z n0 y code ml ret pc Ls (.int v :: .int u :: st) h cells slots) (pc' : Nat) (hd : decode code pc = .ok (.if_icmp .gt o, 3)) (hp : pc + 3 = pc') (hc : ¬ v < u) : Go w l R Z n0 y code ml ret pc' Ls st h cells slots := r.icF pc' hd hp (flt hc).2.2.1
theorem Go.ic_gt {o : Int} {u v : Int32} (r : Go w l R Z n0 y code ml ret pc Ls (.int v :: .int u :: st) h cells slots) (pcT pcF : Nat) (hd : decode code pc = .ok (.if_icmp .gt o, 3)) (hp : (pc : Int) + o = pcT) (hq : pc + 3 = pcF) : ((v < u) ∧ Go w l R Z n0 y code ml ret pcT Ls st h cells slots) ∨ ((¬ v < u) ∧ Go w l R Z n0 y code ml ret pcF Ls st h cells slots) := by
  by_cases hc : v < u
  · exact Or.inl ⟨hc, r.ic_gtT pcT hd hp hc⟩
  · exact Or.inr ⟨hc, r.ic_gtF pcF hd hq hc⟩
theorem Go.if_leT {o : Int} {u : Int32} (r : Go w l R Z n0 y code ml ret pc Ls (.int u :: st) h cells slots) (pc' : Nat) (hd : decode code pc = .ok (.ifCond .le o, 3)) (hp : (pc : Int) + o = pc') (hc : ¬ 0 < u) : Go w l R Z n0 y code ml ret pc' Ls st h cells slots := r.ifT pc' hd hp ((if0 _ _).trans (flt hc).2.2.2)
theorem Go.if_leF {o : Int} {u : Int32} (r : Go w l R Z n0 y code ml ret pc Ls (.int u :: st) h cells slots) (pc' : Nat) (hd : decode code pc = .ok (.ifCond .le o, 3)) (hp : pc + 3 = pc') (hc : 0 < u) : Go w l R Z n0 y code ml ret pc' Ls st h cells slots := r.ifF pc' hd hp ((if0 _ _).trans (tlt hc).2.2.2)
theorem Go.if_le {o : Int} {u : Int32} (r : Go w l R Z n0 y code ml ret pc Ls (.int u :: st) h cells slots) (pcT pcF : Nat) (hd : decode code pc = .ok (.ifCond .le o, 3)) (hp : (pc : Int) + o = pcT) (hq : pc + 3 = pcF) : ((¬ 0 < u) ∧ Go w l R Z n0 y code ml ret pcT Ls st h cells slots) ∨ ((0 < u) ∧ Go w l R Z n0 y code ml ret pcF Ls st h cells slots) := by
  by_cases hc : ¬ 0 < u
  · exact Or.inl ⟨hc, r.if_leT pcT hd hp hc⟩
  · exact Or.inr ⟨Classical.not_not.mp hc, r.if_leF pcF hd hq (Classical.not_not.mp hc)⟩
theorem Go.ic_leT {o : Int} {u v : Int32} (r : Go w l R Z n0 y code ml ret pc Ls (.int v :: .int u :: st) h cells slots) (pc' : Nat) (hd : decode code pc = .ok (.if_icmp .le o, 3)) (hp : (pc : Int) + o = pc') (hc : ¬ v < u) : Go w l R Z n0 y code ml ret pc' Ls st h cells slots := r.icT pc' hd hp (flt hc).2.2.2
theorem Go.ic_leF {o : Int} {u v : Int32} (r : Go w l R Z n0 y code ml ret pc Ls (.int v :: .int u :: st) h cells slots) (pc' : Nat) (hd : decode code pc = .ok (.if_icmp .le o, 3)) (hp : pc + 3 = pc') (hc : v < u) : Go w l R Z n0 y code ml ret pc' Ls st h cells slots := r.icF pc' hd hp (tlt hc).2.2.2
theorem Go.ic_le {o : Int} {u v : Int32} (r : Go w l R Z n0 y code ml ret pc Ls (.int v :: .int u :: st) h cells slots) (pcT pcF : Nat) (hd : decode code pc = .ok (.if_icmp .le o, 3)) (hp : (pc : Int) + o = pcT) (hq : pc + 3 = pcF) : ((¬ v < u) ∧ Go w l R Z n0 y code ml ret pcT Ls st h cells slots) ∨ ((v < u) ∧ Go w l R Z n0 y code ml ret pcF Ls st h cells slots) := by
  by_cases hc : ¬ v < u
  · exact Or.inl ⟨hc, r.ic_leT pcT hd hp hc⟩
  · exact Or.inr ⟨Classical.not_not.mp hc, r.ic_leF pcF hd hq (Classical.not_not.mp hc)⟩
/-! constants of the pool -/
theorem Go.ldcI {idx : Nat} {v : Int32} {a0 : Array Value} (r : Go w l R Z n0 y code ml ret pc Ls st h cells slots) (pc' : Nat) (hd : decode code pc = .ok (.ldc idx, 2)) (hp : pc + 2 = pc') (wc : (Cond.constant y.cls idx v).before a0 Z = true) : Go w l R Z n0 y code ml ret pc' Ls (.int v :: st) h cells slots := by
  subst hp
  obtain ⟨S, T, locs, X, e, N, k⟩ := r
  exact ⟨S, T, locs, X, e, N, fun t q => k t (X.ldcInt S.1 S.2.2.1 (mvT S.2.1 wc) (g := mkF w.m pc Ls.toArray st) rfl (hb S.2.2.2.1 hd) t q)⟩
theorem Go.ldc2 {idx : Nat} {v : Int64} {a0 : Array Value} (r : Go w l R Z n0 y code ml ret pc Ls st h cells slots) (pc' : Nat) (hd : decode code pc = .ok (.ldc2_w idx, 3)) (hp : pc + 3 = pc') (wc : (Cond.constantLong y.cls idx v).before a0 Z = true) : Go w l R Z n0 y code ml ret pc' Ls (.long v :: st) h cells slots := by
  subst hp
  obtain ⟨S, T, locs, X, e, N, k⟩ := r
  exact ⟨S, T, locs, X, e, N, fun t q => k t (X.ldc2Long S.1 S.2.2.1 (mvT S.2.1 wc) (g := mkF w.m pc Ls.toArray st) rfl (hb S.2.2.2.1 hd) t q)⟩
/-! fields -/
theorem Go.getF {idx : Nat} {O n d : String} {v : Value} {a : Addr} {a0 : Array Value} (r : Go w l R Z n0 y code ml ret pc Ls (.ref a :: st) h cells slots) (pc' : Nat) (hd : decode code pc = .ok (.getfield idx, 3)) (hp : pc + 3 = pc') (wf : (Cond.fieldLink y.cls idx O n d).before a0 Z = true) (F : Fld Z h a O n d v) : Go w l R Z n0 y code ml ret pc' Ls (v :: st) h cells slots := by
  subst hp
  obtain ⟨S, T, locs, X, e, N, k⟩ := r
  obtain ⟨T', X', e', q⟩ := Jvm.RoadKit.getF X S.1 S.2.1 S.2.2.1 (host := "") (Or.inl wf) Via.refl e F (g := mkF w.m pc Ls.toArray (.ref a :: st)) rfl rfl (hb S.2.2.2.1 hd)
  exact ⟨S, T', locs, X', e', N, fun t z => k t (q t z)⟩
/-- a field's place in an object of class C that may be written here: 'lays', or 'laysFinal' in a constructor of its own class -/
def Wry (Z : State) (a0 : Array Value) (y : MethodName) (C O n d : String) : Prop := (Cond.lays C O n d).before a0 Z = true ∨ ((Cond.laysFinal C O n d).before a0 Z = true ∧ y.cls = O ∧ y.name = "<init>")
theorem Go.putF {idx kk : Nat} {C O n d : String} {v old : Value} {a : Addr} {a0 : Array Value} (r : Go w l R Z n0 y code ml ret pc Ls (v :: .ref a :: st) h cells slots) (pc' : Nat) (hd : decode code pc = .ok (.putfield idx, 3)) (hp : pc + 3 = pc') (wf : (Cond.fieldLink y.cls idx O n d).before a0 Z = true) (wl : Wry Z a0 y C O n d) (wi : (Cond.instantiable C kk).before a0 Z = true) (E : Exa Z h a C) (F : Fld Z h a O n d old) {ty : FieldType} (hty : parseFieldDescriptor d = some ty) (hn : narrow ty v = v) (hf : fits ty v = true) (g0 : n0 ≤ a) :
    ∃ h', Wr h h' a (Jvm.RoadKit.slotOf Z O n d) v ∧ Go w l R Z n0 y code ml ret pc' Ls st h' cells slots := by
  subst hp
  obtain ⟨S, T, locs, X, e, N, k⟩ := r
  obtain ⟨T', h', X', e', Wq, q⟩ := Jvm.RoadKit.putF X S.1 S.2.1 S.2.2.1 (host := "") (Or.inl wf) Via.refl e F E (wl.imp id fun z => ⟨z.1, z.2.1, S.2.2.2.2.2.2.2.trans z.2.2⟩) wi hty hn hf (g := mkF w.m pc Ls.toArray (v :: .ref a :: st)) rfl rfl (hb S.2.2.2.1 hd)
  exact ⟨h', Wq, S, T', _, X', e', Fr.snoc X' N g0, fun t z => k t (q t z)⟩
theorem Go.putFN {idx kk : Nat} {C O n d : String} {v v' old : Value} {a : Addr} {a0 : Array Value} (r : Go w l R Z n0 y code ml ret pc Ls (v :: .ref a :: st) h cells slots) (pc' : Nat) (hd : decode code pc = .ok (.putfield idx, 3)) (hp : pc + 3 = pc') (wf : (Cond.fieldLink y.cls idx O n d).before a0 Z = true) (wl : Wry Z a0 y C O n d) (wi : (Cond.instantiable C kk).before a0 Z = true) (E : Exa Z h a C) (F : Fld Z h a O n d old) {ty : FieldType} (hty : parseFieldDescriptor d = some ty) (hn : narrow ty v = v') (hf : fits ty v' = true) (g0 : n0 ≤ a) :
    ∃ h', Wr h h' a (Jvm.RoadKit.slotOf Z O n d) v' ∧ Go w l R Z n0 y code ml ret pc' Ls st h' cells slots := by
  subst hp
  obtain ⟨S, T, locs, X, e, N, k⟩ := r
  obtain ⟨T', h', X', e', Wq, q⟩ := Jvm.RoadKit.putFN X S.1 S.2.1 S.2.2.1 wf Via.refl e F E (wl.imp id fun z => ⟨z.1, z.2.1, S.2.2.2.2.2.2.2.trans z.2.2⟩) wi hty hn hf (g := mkF w.m pc Ls.toArray (v :: .ref a :: st)) rfl rfl (hb S.2.2.2.1 hd)
  exact ⟨h', Wq, S, T', _, X', e', Fr.snoc X' N g0, fun t z => k t (q t z)⟩
/-! making -/
theorem Go.newO {idx n : Nat} {C : String} {a0 : Array Value} (r : Go w l R Z n0 y code ml ret pc Ls st h cells slots) (pc' : Nat) (hd : decode code pc = .ok (.new idx, 3)) (hp : pc + 3 = pc') (w1 : (Cond.classLink y.cls idx C).before a0 Z = true) (w2 : (Cond.instantiable C n).before a0 Z = true) (w3 : (Cond.initialized C).before a0 Z = true) (hc : cells + 1 ≤ R.cells) (hs : slots + n ≤ R.slots) :
    ∃ h' a, a = h.size ∧ Ext h h' ∧ Exa Z h' a C ∧ (∀ {O nm d : String} {ty : FieldType}, Laid Z a0 C O nm d → parseFieldDescriptor d = some ty → Fld Z h' a O nm d (defaultValue ty)) ∧ Go w l R Z n0 y code ml ret pc' Ls (.ref a :: st) h' (cells + 1) (slots + n) := by
  subst hp
  obtain ⟨S, T, locs, X, e, N, k⟩ := r
  obtain ⟨T', h', X', e', E, A, D, -, q⟩ := Jvm.RoadKit.newO X S.1 S.2.1 S.2.2.1 w1 w2 w3 e (g := mkF w.m pc Ls.toArray st) rfl (hb S.2.2.2.1 hd) hc hs
  exact ⟨h', h.size, rfl, E, A, D, S, T', locs, X', e', N, fun t z => k t (q t z)⟩
/-- an array with all its components -/
def Ary (Z : State) (h : Heap) (a : Addr) (ty : FieldType) (vs : List Value) : Prop := ∃ k d, Arv Z h a k ty (Int32.ofNat vs.length) vs d ∧ vs.length < 2 ^ 31
theorem len_nat {n : Nat} (h : n < 2 ^ 31) : (Int32.ofNat n).toNatClampNeg = n := by
  have := Int32.toInt_ofNat_small h
  simp only [Int32.toNatClampNeg]; omega
theorem len_nn {n : Nat} (h : n < 2 ^ 31) : ¬ Int32.ofNat n < 0 := by
  rw [Int32.lt_iff_toInt_lt, Int32.toInt_ofNat_small h]; have : (0 : Int32).toInt = 0 := rfl; omega
theorem nn_back {n : Int32} (h : ¬ n < 0) : Int32.ofNat n.toNatClampNeg = n := by
  have h1 := (back32 h).1
  simpa using h1
variable {a b : Addr} {ty : FieldType} {vs : List Value} {h' : Heap}
theorem Ary.lt (A : Ary Z h a ty vs) : a < h.size := by obtain ⟨k, d, V, -⟩ := A; exact V.lt
theorem Ary.ext (A : Ary Z h a ty vs) (E : Ext h h') : Ary Z h' a ty vs := by obtain ⟨k, d, V, q⟩ := A; exact ⟨k, d, V.ext E, q⟩
theorem Ary.other {v : Value} {sl : Nat} (A : Ary Z h b ty vs) (Wq : Wr h h' a sl v) (q : b ≠ a) : Ary Z h' b ty vs := by obtain ⟨k, d, V, z⟩ := A; exact ⟨k, d, V.other Wq q, z⟩
theorem Ary.keep {ws : List Addr} (A : Ary Z h a ty vs) (K : Keep h h' ws) (q : a ∉ ws) : Ary Z h' a ty vs := by obtain ⟨k, d, V, z⟩ := A; exact ⟨k, d, V.keep K q, z⟩
theorem Ary.len (A : Ary Z h a ty vs) : vs.length < 2 ^ 31 := by obtain ⟨k, d, V, z⟩ := A; exact z
theorem Ary.unf (A : Ary Z h a ty vs) : ∃ c : Cell, Arr Z h a c ty ∧ c.slots.size = vs.length ∧ (∀ i : Nat, i < vs.length → c.slots[i]? = vs[i]?) ∧ c.slots.size.toInt32 = Int32.ofNat vs.length := by
  obtain ⟨k, d, ⟨c, A1, A2, A3, A4, A5, A6⟩, z⟩ := A
  have e := len_nat z
  rw [e] at A3
  refine ⟨c, A1, A3, fun i hi => ?_, by rw [A3]⟩
  rw [A5 i (by omega), List.getD_eq_getElem?_getD, List.getElem?_eq_getElem hi]; rfl
theorem Ary.set {v : Value} {j : Int32} (A : Ary Z h a ty vs) (Wq : Wr h h' a j.toNatClampNeg v) (hf : fits ty v = true) (hj : j.toNatClampNeg < vs.length) : Ary Z h' a ty (vs.set j.toNatClampNeg v) := by
  obtain ⟨k, d, ⟨c, A1, A2, A3, A4, A5, A6⟩, z⟩ := A
  refine ⟨k, d, ?_, by simpa using z⟩
  have := Arv.set A1 A2 A3 A4 A5 A6 hf Wq _ rfl hj
  simpa using this
theorem Go.newA {aty : ArrayType} {n : Int32} {vs : List Value} {a0 : Array Value} (r : Go w l R Z n0 y code ml ret pc Ls (.int n :: st) h cells slots) (pc' : Nat) (hd : decode code pc = .ok (.newarray aty, 2)) (hp : pc + 2 = pc') (w1 : (Cond.arrayClass (newarray.typeOf aty)).before a0 Z = true) (hn : ¬ n < 0) (hv : List.replicate n.toNatClampNeg (defaultValue (newarray.typeOf aty)) = vs) (cap : Nat) (hcap : n.toNatClampNeg ≤ cap) (hb8 : cap * 8 ≤ 536870912) (hc : cells + 1 ≤ R.cells) (hs : slots + cap ≤ R.slots) :
    ∃ h' a, a = h.size ∧ Ext h h' ∧ Ary Z h' a (newarray.typeOf aty) vs ∧ Go w l R Z n0 y code ml ret pc' Ls (.ref a :: st) h' (cells + 1) (slots + cap) := by
  subst hp
  obtain ⟨S, T, locs, X, e, N, k⟩ := r
  obtain ⟨T', h', kA, X', e', E, A, q⟩ := Jvm.RoadKit.newP X S.1 S.2.1 w1 e (g := mkF w.m pc Ls.toArray (.int n :: st)) rfl (hb S.2.2.2.1 hd) rfl hn hcap hb8 hc hs
  refine ⟨h', h.size, rfl, E, ?_, S, T', locs, X', e', N, fun t z => k t (q t z)⟩
  have hl : vs.length = n.toNatClampNeg := by rw [← hv]; simp
  refine ⟨kA, defaultValue (newarray.typeOf aty), ?_, by rw [hl]; exact (back32 hn).2⟩
  rw [hl, nn_back hn, ← hv]
  exact (Arv.new A hn).pad (by simpa using pad_rep [] (defaultValue (newarray.typeOf aty)) n.toNatClampNeg)
/-! arrays -/
theorem inb {j : Int32} {n : Nat} (h0 : ¬ j < 0) (hj : j.toNatClampNeg < n) : ¬ (j < 0 ∨ n ≤ j.toNatClampNeg) := fun q => q.elim h0 (Nat.not_le.mpr hj)
theorem Go.alen (r : Go w l R Z n0 y code ml ret pc Ls (.ref a :: st) h cells slots) (pc' : Nat) (hd : decode code pc = .ok (.arraylength, 1)) (hp : pc + 1 = pc') (A : Ary Z h a ty vs) (n : Int32) (hn : Int32.ofNat vs.length = n) : Go w l R Z n0 y code ml ret pc' Ls (.int n :: st) h cells slots := by
  subst hp hn
  obtain ⟨S, T, locs, X, e, N, k⟩ := r
  obtain ⟨c, A1, A2, A3, A4⟩ := A.unf
  exact ⟨S, T, locs, X, e, N, fun t q => k t (X.arraylength S.1 (by rw [e]; exact A1.1) (State.isArrayOf_alike S.2.1.alike A1.2.1) (g := mkF w.m pc Ls.toArray (.ref a :: st)) rfl rfl (hb S.2.2.2.1 hd) t (by rw [A4]; exact q))⟩
theorem Go.iald {j : Int32} {v : Value} (r : Go w l R Z n0 y code ml ret pc Ls (.int j :: .ref a :: st) h cells slots) (pc' : Nat) (hd : decode code pc = .ok (.iaload, 1)) (hp : pc + 1 = pc') (A : Ary Z h a .int vs) (h0 : ¬ j < 0) (hv : vs[j.toNatClampNeg]? = some v) : Go w l R Z n0 y code ml ret pc' Ls (v :: st) h cells slots := by
  subst hp
  obtain ⟨S, T, locs, X, e, N, k⟩ := r
  obtain ⟨c, A1, A2, A3, A4⟩ := A.unf
  have hj := (List.getElem?_eq_some_iff.mp hv).1
  exact ⟨S, T, locs, X, e, N, fun t q => k t (X.iaload S.1 (by rw [e]; exact A1.1) (State.isArrayOf_alike S.2.1.alike A1.2.1) A1.2.2 (by rw [A2]; exact inb h0 hj) ((A3 _ hj).trans hv) (g := mkF w.m pc Ls.toArray (.int j :: .ref a :: st)) rfl rfl (hb S.2.2.2.1 hd) t q)⟩
theorem Go.lald {j : Int32} {v : Value} (r : Go w l R Z n0 y code ml ret pc Ls (.int j :: .ref a :: st) h cells slots) (pc' : Nat) (hd : decode code pc = .ok (.laload, 1)) (hp : pc + 1 = pc') (A : Ary Z h a .long vs) (h0 : ¬ j < 0) (hv : vs[j.toNatClampNeg]? = some v) : Go w l R Z n0 y code ml ret pc' Ls (v :: st) h cells slots := by
  subst hp
  obtain ⟨S, T, locs, X, e, N, k⟩ := r
  obtain ⟨c, A1, A2, A3, A4⟩ := A.unf
  have hj := (List.getElem?_eq_some_iff.mp hv).1
  exact ⟨S, T, locs, X, e, N, fun t q => k t (X.laload S.1 (by rw [e]; exact A1.1) (State.isArrayOf_alike S.2.1.alike A1.2.1) A1.2.2 (by rw [A2]; exact inb h0 hj) ((A3 _ hj).trans hv) (g := mkF w.m pc Ls.toArray (.int j :: .ref a :: st)) rfl rfl (hb S.2.2.2.1 hd) t q)⟩
theorem Go.bald {j : Int32} {v : Value} (r : Go w l R Z n0 y code ml ret pc Ls (.int j :: .ref a :: st) h cells slots) (pc' : Nat) (hd : decode code pc = .ok (.baload, 1)) (hp : pc + 1 = pc') (A : Ary Z h a .byte vs) (h0 : ¬ j < 0) (hv : vs[j.toNatClampNeg]? = some v) : Go w l R Z n0 y code ml ret pc' Ls (v :: st) h cells slots := by
  subst hp
  obtain ⟨S, T, locs, X, e, N, k⟩ := r
  obtain ⟨c, A1, A2, A3, A4⟩ := A.unf
  have hj := (List.getElem?_eq_some_iff.mp hv).1
  exact ⟨S, T, locs, X, e, N, fun t q => k t (X.baloadBytes S.1 (by rw [e]; exact A1.1) (State.isArrayOf_alike S.2.1.alike A1.2.1) A1.2.2 (by rw [A2]; exact inb h0 hj) ((A3 _ hj).trans hv) (g := mkF w.m pc Ls.toArray (.int j :: .ref a :: st)) rfl rfl (hb S.2.2.2.1 hd) t q)⟩
theorem Go.zald {j : Int32} {v : Value} (r : Go w l R Z n0 y code ml ret pc Ls (.int j :: .ref a :: st) h cells slots) (pc' : Nat) (hd : decode code pc = .ok (.baload, 1)) (hp : pc + 1 = pc') (A : Ary Z h a .boolean vs) (h0 : ¬ j < 0) (hv : vs[j.toNatClampNeg]? = some v) : Go w l R Z n0 y code ml ret pc' Ls (v :: st) h cells slots := by
  subst hp
  obtain ⟨S, T, locs, X, e, N, k⟩ := r
  obtain ⟨c, A1, A2, A3, A4⟩ := A.unf
  have hj := (List.getElem?_eq_some_iff.mp hv).1
  exact ⟨S, T, locs, X, e, N, fun t q => k t (X.baloadBooleans S.1 (by rw [e]; exact A1.1) (State.isArrayOf_alike S.2.1.alike A1.2.1) A1.2.2 (by rw [A2]; exact inb h0 hj) ((A3 _ hj).trans hv) (g := mkF w.m pc Ls.toArray (.int j :: .ref a :: st)) rfl rfl (hb S.2.2.2.1 hd) t q)⟩
theorem Go.iast {j x : Int32} (r : Go w l R Z n0 y code ml ret pc Ls (.int x :: .int j :: .ref a :: st) h cells slots) (pc' : Nat) (hd : decode code pc = .ok (.iastore, 1)) (hp : pc + 1 = pc') (A : Ary Z h a .int vs) (h0 : ¬ j < 0) (hj : j.toNatClampNeg < vs.length) (g0 : n0 ≤ a) :
    ∃ h', Wr h h' a j.toNatClampNeg (.int x) ∧ Ary Z h' a .int (vs.set j.toNatClampNeg (.int x)) ∧ Go w l R Z n0 y code ml ret pc' Ls st h' cells slots := by
  subst hp
  obtain ⟨S, T, locs, X, e, N, k⟩ := r
  obtain ⟨c, A1, A2, A3, A4⟩ := A.unf
  obtain ⟨T', h', X', e', Wq, q⟩ := stI X S.1 S.2.1 e A1 (j := j) (by rw [A2]; exact inb h0 hj) (g := mkF w.m pc Ls.toArray (.int x :: .int j :: .ref a :: st)) rfl rfl (hb S.2.2.2.1 hd)
  exact ⟨h', Wq, A.set Wq rfl hj, S, T', _, X', e', Fr.snoc X' N g0, fun t z => k t (q t z)⟩
theorem Go.last {j : Int32} {x : Int64} (r : Go w l R Z n0 y code ml ret pc Ls (.long x :: .int j :: .ref a :: st) h cells slots) (pc' : Nat) (hd : decode code pc = .ok (.lastore, 1)) (hp : pc + 1 = pc') (A : Ary Z h a .long vs) (h0 : ¬ j < 0) (hj : j.toNatClampNeg < vs.length) (g0 : n0 ≤ a) :
    ∃ h', Wr h h' a j.toNatClampNeg (.long x) ∧ Ary Z h' a .long (vs.set j.toNatClampNeg (.long x)) ∧ Go w l R Z n0 y code ml ret pc' Ls st h' cells slots := by
  subst hp
  obtain ⟨S, T, locs, X, e, N, k⟩ := r
  obtain ⟨c, A1, A2, A3, A4⟩ := A.unf
  obtain ⟨T', h', X', e', Wq, q⟩ := stJ X S.1 S.2.1 e A1 (j := j) (by rw [A2]; exact inb h0 hj) (g := mkF w.m pc Ls.toArray (.long x :: .int j :: .ref a :: st)) rfl rfl (hb S.2.2.2.1 hd)
  exact ⟨h', Wq, A.set Wq rfl hj, S, T', _, X', e', Fr.snoc X' N g0, fun t z => k t (q t z)⟩
theorem Go.bast {j x : Int32} (r : Go w l R Z n0 y code ml ret pc Ls (.int x :: .int j :: .ref a :: st) h cells slots) (pc' : Nat) (hd : decode code pc = .ok (.bastore, 1)) (hp : pc + 1 = pc') (A : Ary Z h a .byte vs) (h0 : ¬ j < 0) (hj : j.toNatClampNeg < vs.length) (g0 : n0 ≤ a) :
    ∃ h', Wr h h' a j.toNatClampNeg (.int x.toInt8.toInt32) ∧ Ary Z h' a .byte (vs.set j.toNatClampNeg (.int x.toInt8.toInt32)) ∧ Go w l R Z n0 y code ml ret pc' Ls st h' cells slots := by
  subst hp
  obtain ⟨S, T, locs, X, e, N, k⟩ := r
  obtain ⟨c, A1, A2, A3, A4⟩ := A.unf
  obtain ⟨T', h', X', e', Wq, q⟩ := stB X S.1 S.2.1 e A1 (j := j) (by rw [A2]; exact inb h0 hj) (g := mkF w.m pc Ls.toArray (.int x :: .int j :: .ref a :: st)) rfl rfl (hb S.2.2.2.1 hd)
  exact ⟨h', Wq, A.set Wq (fits_nar_byte _) hj, S, T', _, X', e', Fr.snoc X' N g0, fun t z => k t (q t z)⟩
theorem Go.zast {j x : Int32} (r : Go w l R Z n0 y code ml ret pc Ls (.int x :: .int j :: .ref a :: st) h cells slots) (pc' : Nat) (hd : decode code pc = .ok (.bastore, 1)) (hp : pc + 1 = pc') (A : Ary Z h a .boolean vs) (h0 : ¬ j < 0) (hj : j.toNatClampNeg < vs.length) (g0 : n0 ≤ a) :
    ∃ h', Wr h h' a j.toNatClampNeg (.int (x &&& 1)) ∧ Ary Z h' a .boolean (vs.set j.toNatClampNeg (.int (x &&& 1))) ∧ Go w l R Z n0 y code ml ret pc' Ls st h' cells slots := by
  subst hp
  obtain ⟨S, T, locs, X, e, N, k⟩ := r
  obtain ⟨c, A1, A2, A3, A4⟩ := A.unf
  obtain ⟨T', h', X', e', Wq, q⟩ := stZ X S.1 S.2.1 e A1 (j := j) (by rw [A2]; exact inb h0 hj) (g := mkF w.m pc Ls.toArray (.int x :: .int j :: .ref a :: st)) rfl rfl (hb S.2.2.2.1 hd)
  exact ⟨h', Wq, A.set Wq (fits_nar_bool _) hj, S, T', _, X', e', Fr.snoc X' N g0, fun t z => k t (q t z)⟩
/-! calls -/
def wt (st : List Value) : Nat := (st.map fun v => v.category).sum
variable {y' : MethodName} {code' : ByteArray} {ml' : Nat} {ret' : Option FieldType} {rm : Room} {as rest : List Value} {Q : Option Value → Heap → Prop} {ps : List FieldType} {rt : Option FieldType} {a0 : Array Value} {idx : Nat}
theorem Go.callS (r : Go w l R Z n0 y code ml ret pc Ls st h cells slots) (pc' : Nat) (hd : decode code pc = .ok (.invokestatic idx, 3)) (hp : pc + 3 = pc') (M : Met l Z y' code' ml' ret' rm as h n0 Q) (w1 : (Cond.methodLink y.cls idx y').before a0 Z = true) (w2 : (Cond.static y').before a0 Z = true) (w3 : (Cond.initialized y'.cls).before a0 Z = true) (w4 : (Cond.code y' code' ml' ret').before a0 Z = true)
    (hpd : parseMethodDescriptor y'.desc = some ⟨ps, rt⟩) (hlen : as.length = ps.length) (hst : st = as.reverse ++ rest) (hLs : Ls.length = ml) (hy : y'.cls ≠ "java/lang/invoke/MethodHandle" ∧ y'.cls ≠ "java/lang/invoke/VarHandle") (hf : rm.frames + 1 ≤ R.frames) (hl : wt rest + (ml' + 11) + rm.locals ≤ R.locals) (hc : cells + rm.cells ≤ R.cells) (hs : slots + rm.slots ≤ R.slots) :
    ∃ v h', Q v h' ∧ Go w l R Z n0 y code ml ret pc' Ls (v.toList ++ rest) h' (cells + rm.cells) (slots + rm.slots) := by
  subst hp hst
  obtain ⟨S, T, locs, X, e, N, k⟩ := r
  obtain ⟨v, _, ⟨T', L', k', n'⟩, -, X', ⟨Lc, hQ, l', y2, z2⟩, q⟩ := Jvm.LawKit.callS X S.1 (y := y') S.2.2.1 (mvT S.2.1 w1) (mvT S.2.1 w2) (mvT S.2.1 w3) (mvT S.2.1 w4) hy (backOf (W := wt rest) (Q := fun v h L => Q v h ∧ Fr n0 L) (M []) S.2.1 w4 w3 hf hl) (g := mkF w.m pc Ls.toArray (as.reverse ++ rest)) rfl (by rw [S.2.2.2.2.1]; simpa using hLs) (argsL := as) (rest := rest) (lenOf hpd hlen) rfl (by show 2 * 0 + _ ≤ _; simp [wt]) (hb S.2.2.2.1 hd) (fun _ _ => ⟨rfl, e, hc, hs⟩)
  dsimp only [Pt.U, Pt.locs, Pt.cells, Pt.slots] at X' l' y2 z2 q hQ
  subst l' y2 z2
  exact ⟨v, T'.heap, hQ.1, S, T', _, X', rfl, N.app hQ.2, fun t z => k t (q t z)⟩
theorem Go.callI (r : Go w l R Z n0 y code ml ret pc Ls st h cells slots) (pc' : Nat) (hd : decode code pc = .ok (.invokespecial idx, 3)) (hp : pc + 3 = pc') (M : Met l Z y' code' ml' none rm (.ref a :: as) h n0 Q) (hin : y'.name = "<init>") (w1 : (Cond.methodLink y.cls idx y').before a0 Z = true) (w2 : (Cond.instanceMethod y').before a0 Z = true) (w3 : (Cond.initialized y'.cls).before a0 Z = true) (w4 : (Cond.code y' code' ml' none).before a0 Z = true)
    (hpd : parseMethodDescriptor y'.desc = some ⟨ps, rt⟩) (hlen : as.length = ps.length) (hst : st = as.reverse ++ .ref a :: rest) (hLs : Ls.length = ml) (hy : y'.cls ≠ "java/lang/invoke/MethodHandle" ∧ y'.cls ≠ "java/lang/invoke/VarHandle") (hf : rm.frames + 1 ≤ R.frames) (hl : wt rest + (ml' + 11) + rm.locals ≤ R.locals) (hc : cells + rm.cells ≤ R.cells) (hs : slots + rm.slots ≤ R.slots) :
    ∃ v h', Q v h' ∧ Go w l R Z n0 y code ml ret pc' Ls (v.toList ++ rest) h' (cells + rm.cells) (slots + rm.slots) := by
  subst hp hst
  obtain ⟨S, T, locs, X, e, N, k⟩ := r
  obtain ⟨v, _, ⟨T', L', k', n'⟩, -, X', ⟨Lc, hQ, l', y2, z2⟩, q⟩ := X.specialBack S.1 (y := y') hin S.2.2.1 (mvT S.2.1 w1) (mvT S.2.1 w2) (mvT S.2.1 w4) hy (backOf (W := wt rest) (Q := fun v h L => Q v h ∧ Fr n0 L) (M []) S.2.1 w4 w3 hf hl) (g := mkF w.m pc Ls.toArray (as.reverse ++ .ref a :: rest)) rfl (by rw [S.2.2.2.2.1]; simpa using hLs) (Steps.refl _) (a := a) (argsL := as) (rest := rest) (lenOf hpd hlen) rfl (by show 2 * 0 + _ ≤ _; simp [wt]) (hb S.2.2.2.1 hd) (fun _ _ => ⟨rfl, e, hc, hs⟩)
  dsimp only [Pt.U, Pt.locs, Pt.cells, Pt.slots] at X' l' y2 z2 q hQ
  subst l' y2 z2
  exact ⟨v, T'.heap, hQ.1, S, T', _, X', rfl, N.app hQ.2, fun t z => k t (q.trans z)⟩
theorem Go.callV (r : Go w l R Z n0 y code ml ret pc Ls st h cells slots) (pc' : Nat) (hd : decode code pc = .ok (.invokevirtual idx, 3)) (hp : pc + 3 = pc') (M : Met l Z y' code' ml' ret' rm (.ref a :: as) h n0 Q) (E : Exa Z h a y'.cls) (w1 : (Cond.methodLink y.cls idx y').before a0 Z = true) (wd : (Cond.declares y').before a0 Z = true) (w2 : (Cond.instanceMethod y').before a0 Z = true) (ws : (Cond.selects y'.cls y' y').before a0 Z = true) (w3 : (Cond.initialized y'.cls).before a0 Z = true) (w4 : (Cond.code y' code' ml' ret').before a0 Z = true)
    (hpd : parseMethodDescriptor y'.desc = some ⟨ps, rt⟩) (hlen : as.length = ps.length) (hst : st = as.reverse ++ .ref a :: rest) (hLs : Ls.length = ml) (hy : y'.cls ≠ "java/lang/invoke/MethodHandle" ∧ y'.cls ≠ "java/lang/invoke/VarHandle") (hf : rm.frames + 1 ≤ R.frames) (hl : wt rest + (ml' + 11) + rm.locals ≤ R.locals) (hc : cells + rm.cells ≤ R.cells) (hs : slots + rm.slots ≤ R.slots) :
    ∃ v h', Q v h' ∧ Go w l R Z n0 y code ml ret pc' Ls (v.toList ++ rest) h' (cells + rm.cells) (slots + rm.slots) := by
  subst hp hst
  obtain ⟨S, T, locs, X, e, N, k⟩ := r
  obtain ⟨cq, kq, qa, qb, qc⟩ := isOf S.2.1 e E
  obtain ⟨v, _, ⟨T', L', k', n'⟩, -, X', ⟨Lc, hQ, l', y2, z2⟩, q⟩ := X.virtualBack S.1 (y := y') (z := y') S.2.2.1 (mvT S.2.1 w1) (mvT S.2.1 wd) (notFace_of_selects (args := #[]) (mvT S.2.1 ws)) (mvT S.2.1 ws) (mvT S.2.1 w2) hy (backOf (W := wt rest) (Q := fun v h L => Q v h ∧ Fr n0 L) (M []) S.2.1 w4 w3 hf hl) qa qc (g := mkF w.m pc Ls.toArray (as.reverse ++ .ref a :: rest)) rfl (by rw [S.2.2.2.2.1]; simpa using hLs) (Steps.refl _) (argsL := as) (rest := rest) (lenOf hpd hlen) rfl (by show 2 * 0 + _ ≤ _; simp [wt]) (hb S.2.2.2.1 hd) (fun _ _ => ⟨rfl, e, hc, hs⟩)
  dsimp only [Pt.U, Pt.locs, Pt.cells, Pt.slots] at X' l' y2 z2 q hQ
  subst l' y2 z2
  exact ⟨v, T'.heap, hQ.1, S, T', _, X', rfl, N.app hQ.2, fun t z => k t (q.trans z)⟩
theorem Go.callP {kk : Nat} (r : Go w l R Z n0 y code ml ret pc Ls st h cells slots) (pc' : Nat) (hd : decode code pc = .ok (.invokevirtual idx, 3)) (hp : pc + 3 = pc') (M : Met l Z y' code' ml' ret' rm (.ref a :: as) h n0 Q) (E : Exa Z h a y'.cls) (w1 : (Cond.methodLink y.cls idx y').before a0 Z = true) (w2 : (Cond.instanceMethod y').before a0 Z = true) (wp : (Cond.privateMethod y').before a0 Z = true) (w3 : (Cond.initialized y'.cls).before a0 Z = true) (wi : (Cond.instantiable y'.cls kk).before a0 Z = true) (w4 : (Cond.code y' code' ml' ret').before a0 Z = true)
    (hpd : parseMethodDescriptor y'.desc = some ⟨ps, rt⟩) (hlen : as.length = ps.length) (hst : st = as.reverse ++ .ref a :: rest) (hLs : Ls.length = ml) (hy : y'.cls ≠ "java/lang/invoke/MethodHandle" ∧ y'.cls ≠ "java/lang/invoke/VarHandle") (hf : rm.frames + 1 ≤ R.frames) (hl : wt rest + (ml' + 11) + rm.locals ≤ R.locals) (hc : cells + rm.cells ≤ R.cells) (hs : slots + rm.slots ≤ R.slots) :
    ∃ v h', Q v h' ∧ Go w l R Z n0 y code ml ret pc' Ls (v.toList ++ rest) h' (cells + rm.cells) (slots + rm.slots) := by
  subst hp hst
  obtain ⟨S, T, locs, X, e, N, k⟩ := r
  obtain ⟨cq, q1, q2⟩ := E.cell
  obtain ⟨c1, k1, b1, b2, -, b3, -, -⟩ := Cond.instantiable_spec (show (Cond.instantiable y'.cls kk).before w.args w.s = true from mvT S.2.1 wi)
  have hsel : (Cond.selects y'.cls y' y').before w.args w.s = true := selects_self_of_private b1 b2 (Bool.or_eq_false_iff.mp b3).1 (Cond.privateMethod_at (mvP S.2.1 wp (args := w.args))) (mvT S.2.1 w2) hy
  obtain ⟨v, _, ⟨T', L', k', n'⟩, -, X', ⟨Lc, hQ, l', y2, z2⟩, q⟩ := X.privateBack S.1 (y := y') S.2.2.1 (mvT S.2.1 w1) (mvT S.2.1 w2) hsel (Cond.privateMethod_at (mvP S.2.1 wp (args := w.args))) (mvT S.2.1 w4) hy (backOf (W := wt rest) (Q := fun v h L => Q v h ∧ Fr n0 L) (M []) S.2.1 w4 w3 hf hl) (g := mkF w.m pc Ls.toArray (as.reverse ++ .ref a :: rest)) rfl (by rw [S.2.2.2.2.1]; simpa using hLs) (Steps.refl _) (a := a) (by rw [e]; exact q1) q2 (argsL := as) (rest := rest) (lenOf hpd hlen) rfl (by show 2 * 0 + _ ≤ _; simp [wt]) (hb S.2.2.2.1 hd) (fun _ _ => ⟨rfl, e, hc, hs⟩)
  dsimp only [Pt.U, Pt.locs, Pt.cells, Pt.slots] at X' l' y2 z2 q hQ
  subst l' y2 z2
  exact ⟨v, T'.heap, hQ.1, S, T', _, X', rfl, N.app hQ.2, fun t z => k t (q.trans z)⟩
/-- System.arraycopy between two arrays of one primitive kind, from the first place of both -/
theorem Go.acopy {nn : Int32} {vd : List Value} (r : Go w l R Z n0 y code ml ret pc Ls (.int nn :: .int 0 :: .ref b :: .int 0 :: .ref a :: st) h cells slots) (pc' : Nat) (hd : decode code pc = .ok (.invokestatic idx, 3)) (hp : pc + 3 = pc') (w1 : (Cond.methodLink y.cls idx Jvm.Stand.acN).before a0 Z = true) (w2 : (Cond.native Jvm.Stand.acN).before a0 Z = true) (w3 : (Cond.static Jvm.Stand.acN).before a0 Z = true) (w4 : (Cond.initialized "java/lang/System").before a0 Z = true)
    (A : Ary Z h a ty vs) (B : Ary Z h b ty vd) (hty : refKind ty = false) (hn : ¬ nn < 0) (h4 : nn.toNatClampNeg ≤ vs.length) (h5 : nn.toNatClampNeg ≤ vd.length) (g0 : n0 ≤ b) (hLs : Ls.length = ml) (hf : 1 ≤ R.frames) (hl : wt st + (nativeFrameWords "java/lang/System" "arraycopy" 5 + 11) ≤ R.locals) :
    ∃ h', Keep h h' [b] ∧ Ary Z h' b ty (vs.take nn.toNatClampNeg ++ vd.drop nn.toNatClampNeg) ∧ Go w l R Z n0 y code ml ret pc' Ls st h' cells slots := by
  subst hp
  obtain ⟨S, T, locs, X, e, N, k⟩ := r
  obtain ⟨ka, da, Va, za⟩ := A
  obtain ⟨kb, db, Vb, zb⟩ := B
  have z0 : (0 : Int32).toNatClampNeg = 0 := rfl
  obtain ⟨T', h', L, X', e', N', K, V, q⟩ := cpA X S.1 S.2.1 S.2.2.1 w1 w2 w3 w4 e (us := vs.take nn.toNatClampNeg) Va Vb (Or.inl ⟨rfl, hty⟩) (sp := 0) (dp := 0) (nn := nn) (by decide) (by decide) hn (by rw [len_nat za, z0]; omega) (by rw [len_nat zb, z0]; omega)
    (by
      rw [z0]
      apply List.ext_getElem?
      intro i
      by_cases hi : i < nn.toNatClampNeg
      · rw [List.getElem?_take_of_lt hi, List.getElem?_map, List.getElem?_range hi]
        simp only [Option.map_some, Nat.zero_add, List.getD_eq_getElem?_getD]
        rw [List.getElem?_eq_getElem (by omega)]; rfl
      · rw [List.getElem?_eq_none (by simp; omega), List.getElem?_eq_none (by simp; omega)])
    (by rw [z0]; omega) N g0 (g := mkF w.m pc Ls.toArray (.int nn :: .int 0 :: .ref b :: .int 0 :: .ref a :: st)) rfl (by rw [S.2.2.2.2.1]; simpa using hLs) rfl (hb S.2.2.2.1 hd) hf (W := wt st) (by show 2 * 0 + _ ≤ _; simp [wt]) hl
  refine ⟨h', K, ⟨kb, db, ?_, ?_⟩, S, T', L, X', e', N', fun t z => k t (q t z)⟩
  · have hlen : (vs.take nn.toNatClampNeg ++ vd.drop nn.toNatClampNeg).length = vd.length := by simp; omega
    rw [hlen]
    rw [z0] at V
    simpa using V
  · have hlen : (vs.take nn.toNatClampNeg ++ vd.drop nn.toNatClampNeg).length = vd.length := by simp; omega
    rw [hlen]; exact zb
/-! returning -/
theorem Go.retV (r : Go w l R Z n0 y code ml none pc Ls [] h cells slots) (hd : decode code pc = .ok (.return_, 1)) {Q : Heap → Prop} (q : Q h) {C S : Nat} (hc : cells ≤ C) (hs : slots ≤ S) : Fini w n0 (Ret0 Q) C S := by
  obtain ⟨S, T, locs, X, e, N, k⟩ := r
  obtain ⟨fs, hr, hrun, hended, hW, hsame⟩ := X.leave (v := none) (fun _ => rfl) S.2.2.2.2.2.2.1
  exact ⟨_, _, k _ (X.returnOut S.1 S.2.2.2.2.2.1 (hb S.2.2.2.1 hd) hr), hrun, hended, _, _, rfl, ⟨⟨rfl, by show Q T.heap; rw [e]; exact q⟩, N⟩, ⟨_, rfl⟩, hW, hsame.mono hc hs⟩
theorem Go.retI {z : Int32} (r : Go w l R Z n0 y code ml (some .int) pc Ls (.int z :: st) h cells slots) (hd : decode code pc = .ok (.ireturn, 1)) {Q : Value → Heap → Prop} (q : Q (.int z) h) {C S : Nat} (hc : cells ≤ C) (hs : slots ≤ S) : Fini w n0 (Ret Q) C S := by
  obtain ⟨S, T, locs, X, e, N, k⟩ := r
  obtain ⟨fs, hr, hrun, hended, hW, hsame⟩ := X.leave (v := some (.int z)) (fun h => by rw [S.2.2.2.2.2.1] at h; cases h) S.2.2.2.2.2.2.1
  exact ⟨_, _, k _ (retOut X S.1 S.2.2.2.2.2.1 rfl (Or.inl ⟨rfl, Or.inl rfl, z, rfl⟩) (hb S.2.2.2.1 hd) hr), hrun, hended, _, _, rfl, ⟨⟨_, rfl, by show Q _ T.heap; rw [e]; exact q⟩, N⟩, ⟨_, rfl⟩, hW, hsame.mono hc hs⟩
theorem Go.retN {t : FieldType} {z z' : Int32} (r : Go w l R Z n0 y code ml (some t) pc Ls (.int z :: st) h cells slots) (hd : decode code pc = .ok (.ireturn, 1)) (ht : t = .boolean ∨ t = .byte ∨ t = .char ∨ t = .short) (hz : nar t z = z') {Q : Value → Heap → Prop} (q : Q (.int z') h) {C S : Nat} (hc : cells ≤ C) (hs : slots ≤ S) : Fini w n0 (Ret Q) C S := by
  subst hz
  obtain ⟨S, T, locs, X, e, N, k⟩ := r
  obtain ⟨fs, hr, hrun, hended, hW, hsame⟩ := X.leave (v := some (.int (nar t z))) (fun h => by rw [S.2.2.2.2.2.1] at h; cases h) S.2.2.2.2.2.2.1
  exact ⟨_, _, k _ (Jvm.RoadKit.retN X S.1 S.2.2.2.2.2.1 ht (hb S.2.2.2.1 hd) hr), hrun, hended, _, _, rfl, ⟨⟨_, rfl, by show Q _ T.heap; rw [e]; exact q⟩, N⟩, ⟨_, rfl⟩, hW, hsame.mono hc hs⟩
theorem Go.retL {z : Int64} (r : Go w l R Z n0 y code ml (some .long) pc Ls (.long z :: st) h cells slots) (hd : decode code pc = .ok (.lreturn, 1)) {Q : Value → Heap → Prop} (q : Q (.long z) h) {C S : Nat} (hc : cells ≤ C) (hs : slots ≤ S) : Fini w n0 (Ret Q) C S := by
  obtain ⟨S, T, locs, X, e, N, k⟩ := r
  obtain ⟨fs, hr, hrun, hended, hW, hsame⟩ := X.leave (v := some (.long z)) (fun h => by rw [S.2.2.2.2.2.1] at h; cases h) S.2.2.2.2.2.2.1
  exact ⟨_, _, k _ (retOut X S.1 S.2.2.2.2.2.1 rfl (Or.inr (Or.inl ⟨rfl, rfl, z, rfl⟩)) (hb S.2.2.2.1 hd) hr), hrun, hended, _, _, rfl, ⟨⟨_, rfl, by show Q _ T.heap; rw [e]; exact q⟩, N⟩, ⟨_, rfl⟩, hW, hsame.mono hc hs⟩
theorem Go.retA {t : FieldType} (r : Go w l R Z n0 y code ml (some t) pc Ls (.ref a :: st) h cells slots) (hd : decode code pc = .ok (.areturn, 1)) (ht : t.isReference = true) (hn : narrow t (.ref a) = .ref a) {Q : Value → Heap → Prop} (q : Q (.ref a) h) {C S : Nat} (hc : cells ≤ C) (hs : slots ≤ S) : Fini w n0 (Ret Q) C S := by
  obtain ⟨S, T, locs, X, e, N, k⟩ := r
  obtain ⟨fs, hr, hrun, hended, hW, hsame⟩ := X.leave (v := some (.ref a)) (fun h => by rw [S.2.2.2.2.2.1] at h; cases h) S.2.2.2.2.2.2.1
  exact ⟨_, _, k _ (retOut X S.1 S.2.2.2.2.2.1 hn (Or.inr (Or.inr (Or.inr (Or.inr ⟨rfl, ht, rfl⟩)))) (hb S.2.2.2.1 hd) hr), hrun, hended, _, _, rfl, ⟨⟨_, rfl, by show Q _ T.heap; rw [e]; exact q⟩, N⟩, ⟨_, rfl⟩, hW, hsame.mono hc hs⟩
/-! small numbers -/
theorem nlt {a b : Nat} (ha : a < 2 ^ 31) (hb : b < 2 ^ 31) : Int32.ofNat a < Int32.ofNat b ↔ a < b := by
  rw [Int32.lt_iff_toInt_lt, Int32.toInt_ofNat_small ha, Int32.toInt_ofNat_small hb]; omega
theorem nadd (a b : Nat) : Int32.ofNat a + Int32.ofNat b = Int32.ofNat (a + b) := (Int32.ofNat_add a b).symm
theorem nadd1 (a : Nat) : Int32.ofNat a + 1 = Int32.ofNat (a + 1) := nadd a 1
theorem nsub {a b : Nat} (h : b ≤ a) : Int32.ofNat a - Int32.ofNat b = Int32.ofNat (a - b) := (Int32.ofNat_sub a b h).symm
theorem neqn {a b : Nat} (ha : a < 2 ^ 31) (hb : b < 2 ^ 31) : Int32.ofNat a = Int32.ofNat b ↔ a = b := by
  rw [← Int32.toInt_inj, Int32.toInt_ofNat_small ha, Int32.toInt_ofNat_small hb]; omega
theorem get_long {os : List Int64} {j : Nat} (hj : j < os.length) : (os.map Value.long)[j]? = some (.long (os.getD j 0)) := by
  rw [List.getElem?_map, List.getD_eq_getElem?_getD, List.getElem?_eq_getElem hj]; rfl
theorem get_int {os : List Int32} {j : Nat} (hj : j < os.length) : (os.map Value.int)[j]? = some (.int (os.getD j 0)) := by
  rw [List.getElem?_map, List.getD_eq_getElem?_getD, List.getElem?_eq_getElem hj]; rfl
end Walk
end Jvm.OwnKit
namespace Jvm.Pilot.@@N@@
open Jvm Jvm.ClassFile Sem Op Lib Jvm.Free Jvm.Stand Jvm.LawKit Jvm.RoadKit Bundle Jvm.OwnKit Jvm.Pilot.@@N@@.Jvm.D
abbrev Ws (Z : State) (a0 : Array Value) : Prop := ∀ d ∈ tables_1, d.before a0 Z = true
theorem wd_0 {Z : State} {a0 : Array Value} (hw : Ws Z a0) : (Jvm.Cond.classLink "com/example/slott/slott/engine/bits/BitFieldsGetPinLaw" (7 : Nat) "com/example/slott/slott/engine/bits/BitFields").before a0 Z = true := hw _ (List.mem_of_getElem? (i := 0) rfl)
theorem wd_1 {Z : State} {a0 : Array Value} (hw : Ws Z a0) : (Jvm.Cond.instantiable "com/example/slott/slott/engine/bits/BitFields" (4 : Nat)).before a0 Z = true := hw _ (List.mem_of_getElem? (i := 1) rfl)
theorem wd_2 {Z : State} {a0 : Array Value} (hw : Ws Z a0) : (Jvm.Cond.initialized "com/example/slott/slott/engine/bits/BitFields").before a0 Z = true := hw _ (List.mem_of_getElem? (i := 2) rfl)
theorem wd_3 {Z : State} {a0 : Array Value} (hw : Ws Z a0) : (Jvm.Cond.arrayClass Jvm.ClassFile.FieldType.int).before a0 Z = true := hw _ (List.mem_of_getElem? (i := 3) rfl)
theorem wd_4 {Z : State} {a0 : Array Value} (hw : Ws Z a0) : (Jvm.Cond.methodLink "com/example/slott/slott/engine/bits/BitFieldsGetPinLaw" (9 : Nat) ({ cls := "com/example/slott/slott/engine/bits/BitFields", name := "<init>", desc := "([I)V" } : Jvm.MethodName)).before a0 Z = true := hw _ (List.mem_of_getElem? (i := 4) rfl)
theorem wd_5 {Z : State} {a0 : Array Value} (hw : Ws Z a0) : (Jvm.Cond.instanceMethod ({ cls := "com/example/slott/slott/engine/bits/BitFields", name := "<init>", desc := "([I)V" } : Jvm.MethodName)).before a0 Z = true := hw _ (List.mem_of_getElem? (i := 5) rfl)
theorem wd_6 {Z : State} {a0 : Array Value} (hw : Ws Z a0) : (Jvm.Cond.code ({ cls := "com/example/slott/slott/engine/bits/BitFields", name := "<init>", desc := "([I)V" } : Jvm.MethodName) prog_27_method_1_code (5 : Nat) (Option.none : Option Jvm.ClassFile.FieldType)).before a0 Z = true := hw _ (List.mem_of_getElem? (i := 6) rfl)
theorem wd_7 {Z : State} {a0 : Array Value} (hw : Ws Z a0) : (Jvm.Cond.methodLink "com/example/slott/slott/engine/bits/BitFields" (1 : Nat) ({ cls := "java/lang/Object", name := "<init>", desc := "()V" } : Jvm.MethodName)).before a0 Z = true := hw _ (List.mem_of_getElem? (i := 7) rfl)
theorem wd_8 {Z : State} {a0 : Array Value} (hw : Ws Z a0) : (Jvm.Cond.instanceMethod ({ cls := "java/lang/Object", name := "<init>", desc := "()V" } : Jvm.MethodName)).before a0 Z = true := hw _ (List.mem_of_getElem? (i := 8) rfl)
theorem wd_9 {Z : State} {a0 : Array Value} (hw : Ws Z a0) : (Jvm.Cond.code ({ cls := "java/lang/Object", name := "<init>", desc := "()V" } : Jvm.MethodName) object_method_1_code (1 : Nat) (Option.none : Option Jvm.ClassFile.FieldType)).before a0 Z = true := hw _ (List.mem_of_getElem? (i := 9) rfl)
theorem wd_10 {Z : State} {a0 : Array Value} (hw : Ws Z a0) : (Jvm.Cond.fieldLink "com/example/slott/slott/engine/bits/BitFields" (7 : Nat) "com/example/slott/slott/engine/bits/BitFields" "word" "[I").before a0 Z = true := hw _ (List.mem_of_getElem? (i := 10) rfl)
theorem wd_11 {Z : State} {a0 : Array Value} (hw : Ws Z a0) : (Jvm.Cond.laysFinal "com/example/slott/slott/engine/bits/BitFields" "com/example/slott/slott/engine/bits/BitFields" "word" "[I").before a0 Z = true := hw _ (List.mem_of_getElem? (i := 11) rfl)
theorem wd_12 {Z : State} {a0 : Array Value} (hw : Ws Z a0) : (Jvm.Cond.fieldLink "com/example/slott/slott/engine/bits/BitFields" (13 : Nat) "com/example/slott/slott/engine/bits/BitFields" "shift" "[I").before a0 Z = true := hw _ (List.mem_of_getElem? (i := 12) rfl)
theorem wd_13 {Z : State} {a0 : Array Value} (hw : Ws Z a0) : (Jvm.Cond.laysFinal "com/example/slott/slott/engine/bits/BitFields" "com/example/slott/slott/engine/bits/BitFields" "shift" "[I").before a0 Z = true := hw _ (List.mem_of_getElem? (i := 13) rfl)
theorem wd_14 {Z : State} {a0 : Array Value} (hw : Ws Z a0) : (Jvm.Cond.arrayClass Jvm.ClassFile.FieldType.long).before a0 Z = true := hw _ (List.mem_of_getElem? (i := 14) rfl)
theorem wd_15 {Z : State} {a0 : Array Value} (hw : Ws Z a0) : (Jvm.Cond.fieldLink "com/example/slott/slott/engine/bits/BitFields" (16 : Nat) "com/example/slott/slott/engine/bits/BitFields" "mask" "[J").before a0 Z = true := hw _ (List.mem_of_getElem? (i := 15) rfl)
theorem wd_16 {Z : State} {a0 : Array Value} (hw : Ws Z a0) : (Jvm.Cond.laysFinal "com/example/slott/slott/engine/bits/BitFields" "com/example/slott/slott/engine/bits/BitFields" "mask" "[J").before a0 Z = true := hw _ (List.mem_of_getElem? (i := 16) rfl)
theorem wd_17 {Z : State} {a0 : Array Value} (hw : Ws Z a0) : (Jvm.Cond.fieldLink "com/example/slott/slott/engine/bits/BitFields" (22 : Nat) "com/example/slott/slott/engine/bits/BitFields" "words" "I").before a0 Z = true := hw _ (List.mem_of_getElem? (i := 17) rfl)
theorem wd_18 {Z : State} {a0 : Array Value} (hw : Ws Z a0) : (Jvm.Cond.laysFinal "com/example/slott/slott/engine/bits/BitFields" "com/example/slott/slott/engine/bits/BitFields" "words" "I").before a0 Z = true := hw _ (List.mem_of_getElem? (i := 18) rfl)
theorem wd_19 {Z : State} {a0 : Array Value} (hw : Ws Z a0) : (Jvm.Cond.methodLink "com/example/slott/slott/engine/bits/BitFieldsGetPinLaw" (12 : Nat) ({ cls := "com/example/slott/slott/engine/bits/BitFields", name := "get", desc := "([JII)J" } : Jvm.MethodName)).before a0 Z = true := hw _ (List.mem_of_getElem? (i := 19) rfl)
theorem wd_20 {Z : State} {a0 : Array Value} (hw : Ws Z a0) : (Jvm.Cond.declares ({ cls := "com/example/slott/slott/engine/bits/BitFields", name := "get", desc := "([JII)J" } : Jvm.MethodName)).before a0 Z = true := hw _ (List.mem_of_getElem? (i := 20) rfl)
theorem wd_21 {Z : State} {a0 : Array Value} (hw : Ws Z a0) : (Jvm.Cond.instanceMethod ({ cls := "com/example/slott/slott/engine/bits/BitFields", name := "get", desc := "([JII)J" } : Jvm.MethodName)).before a0 Z = true := hw _ (List.mem_of_getElem? (i := 21) rfl)
theorem wd_22 {Z : State} {a0 : Array Value} (hw : Ws Z a0) : (Jvm.Cond.selects "com/example/slott/slott/engine/bits/BitFields" ({ cls := "com/example/slott/slott/engine/bits/BitFields", name := "get", desc := "([JII)J" } : Jvm.MethodName) ({ cls := "com/example/slott/slott/engine/bits/BitFields", name := "get", desc := "([JII)J" } : Jvm.MethodName)).before a0 Z = true := hw _ (List.mem_of_getElem? (i := 22) rfl)
theorem wd_23 {Z : State} {a0 : Array Value} (hw : Ws Z a0) : (Jvm.Cond.code ({ cls := "com/example/slott/slott/engine/bits/BitFields", name := "get", desc := "([JII)J" } : Jvm.MethodName) prog_27_method_5_code (4 : Nat) (Option.some Jvm.ClassFile.FieldType.long)).before a0 Z = true := hw _ (List.mem_of_getElem? (i := 23) rfl)
theorem wd_24 {Z : State} {a0 : Array Value} (hw : Ws Z a0) : (Jvm.Cond.methodLink "com/example/slott/slott/engine/bits/BitFieldsGetPinLaw" (16 : Nat) ({ cls := "com/example/slott/slott/engine/bits/BitFieldsGetPinLaw", name := "expect", desc := "(JJJIII)J" } : Jvm.MethodName)).before a0 Z = true := hw _ (List.mem_of_getElem? (i := 24) rfl)
theorem wd_25 {Z : State} {a0 : Array Value} (hw : Ws Z a0) : (Jvm.Cond.static ({ cls := "com/example/slott/slott/engine/bits/BitFieldsGetPinLaw", name := "expect", desc := "(JJJIII)J" } : Jvm.MethodName)).before a0 Z = true := hw _ (List.mem_of_getElem? (i := 25) rfl)
theorem wd_26 {Z : State} {a0 : Array Value} (hw : Ws Z a0) : (Jvm.Cond.initialized "com/example/slott/slott/engine/bits/BitFieldsGetPinLaw").before a0 Z = true := hw _ (List.mem_of_getElem? (i := 26) rfl)
theorem wd_27 {Z : State} {a0 : Array Value} (hw : Ws Z a0) : (Jvm.Cond.code ({ cls := "com/example/slott/slott/engine/bits/BitFieldsGetPinLaw", name := "expect", desc := "(JJJIII)J" } : Jvm.MethodName) method_3_code (11 : Nat) (Option.some Jvm.ClassFile.FieldType.long)).before a0 Z = true := hw _ (List.mem_of_getElem? (i := 27) rfl)
abbrev Y0 : MethodName := x
abbrev Y1 : MethodName := ⟨"com/example/slott/slott/engine/bits/BitFields", "<init>", "([I)V"⟩
theorem d1_0 : decode prog_27_method_1_code 0 = .ok (.aload_n 0, 1) := by decide +kernel
theorem d1_1 : decode prog_27_method_1_code 1 = .ok (.invokespecial 1, 3) := by decide +kernel
theorem d1_4 : decode prog_27_method_1_code 4 = .ok (.aload_n 0, 1) := by decide +kernel
theorem d1_5 : decode prog_27_method_1_code 5 = .ok (.aload_n 1, 1) := by decide +kernel
theorem d1_6 : decode prog_27_method_1_code 6 = .ok (.arraylength, 1) := by decide +kernel
theorem d1_7 : decode prog_27_method_1_code 7 = .ok (.newarray .int, 2) := by decide +kernel
theorem d1_9 : decode prog_27_method_1_code 9 = .ok (.putfield 7, 3) := by decide +kernel
theorem d1_12 : decode prog_27_method_1_code 12 = .ok (.aload_n 0, 1) := by decide +kernel
theorem d1_13 : decode prog_27_method_1_code 13 = .ok (.aload_n 1, 1) := by decide +kernel
theorem d1_14 : decode prog_27_method_1_code 14 = .ok (.arraylength, 1) := by decide +kernel
theorem d1_15 : decode prog_27_method_1_code 15 = .ok (.newarray .int, 2) := by decide +kernel
theorem d1_17 : decode prog_27_method_1_code 17 = .ok (.putfield 13, 3) := by decide +kernel
theorem d1_20 : decode prog_27_method_1_code 20 = .ok (.aload_n 0, 1) := by decide +kernel
theorem d1_21 : decode prog_27_method_1_code 21 = .ok (.aload_n 1, 1) := by decide +kernel
theorem d1_22 : decode prog_27_method_1_code 22 = .ok (.arraylength, 1) := by decide +kernel
theorem d1_23 : decode prog_27_method_1_code 23 = .ok (.newarray .long, 2) := by decide +kernel
theorem d1_25 : decode prog_27_method_1_code 25 = .ok (.putfield 16, 3) := by decide +kernel
theorem d1_28 : decode prog_27_method_1_code 28 = .ok (.iconst 0, 1) := by decide +kernel
theorem d1_29 : decode prog_27_method_1_code 29 = .ok (.istore_n 2, 1) := by decide +kernel
theorem d1_30 : decode prog_27_method_1_code 30 = .ok (.iconst 0, 1) := by decide +kernel
theorem d1_31 : decode prog_27_method_1_code 31 = .ok (.istore_n 3, 1) := by decide +kernel
theorem d1_32 : decode prog_27_method_1_code 32 = .ok (.iconst 0, 1) := by decide +kernel
theorem d1_33 : decode prog_27_method_1_code 33 = .ok (.istore 4, 2) := by decide +kernel
theorem d1_35 : decode prog_27_method_1_code 35 = .ok (.iload 4, 2) := by decide +kernel
theorem d1_37 : decode prog_27_method_1_code 37 = .ok (.aload_n 1, 1) := by decide +kernel
theorem d1_38 : decode prog_27_method_1_code 38 = .ok (.arraylength, 1) := by decide +kernel
theorem d1_39 : decode prog_27_method_1_code 39 = .ok (.if_icmp .ge 63, 3) := by decide +kernel
theorem d1_42 : decode prog_27_method_1_code 42 = .ok (.iload_n 3, 1) := by decide +kernel
theorem d1_43 : decode prog_27_method_1_code 43 = .ok (.aload_n 1, 1) := by decide +kernel
theorem d1_44 : decode prog_27_method_1_code 44 = .ok (.iload 4, 2) := by decide +kernel
theorem d1_46 : decode prog_27_method_1_code 46 = .ok (.iaload, 1) := by decide +kernel
theorem d1_47 : decode prog_27_method_1_code 47 = .ok (.iadd, 1) := by decide +kernel
theorem d1_48 : decode prog_27_method_1_code 48 = .ok (.bipush 64, 2) := by decide +kernel
theorem d1_50 : decode prog_27_method_1_code 50 = .ok (.if_icmp .le 8, 3) := by decide +kernel
theorem d1_53 : decode prog_27_method_1_code 53 = .ok (.iinc 2 1, 3) := by decide +kernel
theorem d1_56 : decode prog_27_method_1_code 56 = .ok (.iconst 0, 1) := by decide +kernel
theorem d1_57 : decode prog_27_method_1_code 57 = .ok (.istore_n 3, 1) := by decide +kernel
theorem d1_58 : decode prog_27_method_1_code 58 = .ok (.aload_n 0, 1) := by decide +kernel
theorem d1_59 : decode prog_27_method_1_code 59 = .ok (.getfield 7, 3) := by decide +kernel
theorem d1_62 : decode prog_27_method_1_code 62 = .ok (.iload 4, 2) := by decide +kernel
theorem d1_64 : decode prog_27_method_1_code 64 = .ok (.iload_n 2, 1) := by decide +kernel
theorem d1_65 : decode prog_27_method_1_code 65 = .ok (.iastore, 1) := by decide +kernel
theorem d1_66 : decode prog_27_method_1_code 66 = .ok (.aload_n 0, 1) := by decide +kernel
theorem d1_67 : decode prog_27_method_1_code 67 = .ok (.getfield 13, 3) := by decide +kernel
theorem d1_70 : decode prog_27_method_1_code 70 = .ok (.iload 4, 2) := by decide +kernel
theorem d1_72 : decode prog_27_method_1_code 72 = .ok (.iload_n 3, 1) := by decide +kernel
theorem d1_73 : decode prog_27_method_1_code 73 = .ok (.iastore, 1) := by decide +kernel
theorem d1_74 : decode prog_27_method_1_code 74 = .ok (.aload_n 0, 1) := by decide +kernel
theorem d1_75 : decode prog_27_method_1_code 75 = .ok (.getfield 16, 3) := by decide +kernel
theorem d1_78 : decode prog_27_method_1_code 78 = .ok (.iload 4, 2) := by decide +kernel
theorem d1_80 : decode prog_27_method_1_code 80 = .ok (.lconst 1, 1) := by decide +kernel
theorem d1_81 : decode prog_27_method_1_code 81 = .ok (.aload_n 1, 1) := by decide +kernel
theorem d1_82 : decode prog_27_method_1_code 82 = .ok (.iload 4, 2) := by decide +kernel
theorem d1_84 : decode prog_27_method_1_code 84 = .ok (.iaload, 1) := by decide +kernel
theorem d1_85 : decode prog_27_method_1_code 85 = .ok (.lshl, 1) := by decide +kernel
theorem d1_86 : decode prog_27_method_1_code 86 = .ok (.lconst 1, 1) := by decide +kernel
theorem d1_87 : decode prog_27_method_1_code 87 = .ok (.lsub, 1) := by decide +kernel
theorem d1_88 : decode prog_27_method_1_code 88 = .ok (.lastore, 1) := by decide +kernel
theorem d1_89 : decode prog_27_method_1_code 89 = .ok (.iload_n 3, 1) := by decide +kernel
theorem d1_90 : decode prog_27_method_1_code 90 = .ok (.aload_n 1, 1) := by decide +kernel
theorem d1_91 : decode prog_27_method_1_code 91 = .ok (.iload 4, 2) := by decide +kernel
theorem d1_93 : decode prog_27_method_1_code 93 = .ok (.iaload, 1) := by decide +kernel
theorem d1_94 : decode prog_27_method_1_code 94 = .ok (.iadd, 1) := by decide +kernel
theorem d1_95 : decode prog_27_method_1_code 95 = .ok (.istore_n 3, 1) := by decide +kernel
theorem d1_96 : decode prog_27_method_1_code 96 = .ok (.iinc 4 1, 3) := by decide +kernel
theorem d1_99 : decode prog_27_method_1_code 99 = .ok (.goto (-64), 3) := by decide +kernel
theorem d1_102 : decode prog_27_method_1_code 102 = .ok (.aload_n 0, 1) := by decide +kernel
theorem d1_103 : decode prog_27_method_1_code 103 = .ok (.iload_n 2, 1) := by decide +kernel
theorem d1_104 : decode prog_27_method_1_code 104 = .ok (.iconst 1, 1) := by decide +kernel
theorem d1_105 : decode prog_27_method_1_code 105 = .ok (.iadd, 1) := by decide +kernel
theorem d1_106 : decode prog_27_method_1_code 106 = .ok (.putfield 22, 3) := by decide +kernel
theorem d1_109 : decode prog_27_method_1_code 109 = .ok (.return_, 1) := by decide +kernel
theorem pd_1 : parseMethodDescriptor "([I)V" = some ⟨[(.array .int)], none⟩ := by decide +kernel
abbrev Y2 : MethodName := ⟨"java/lang/Object", "<init>", "()V"⟩
abbrev Y3 : MethodName := ⟨"com/example/slott/slott/engine/bits/BitFields", "get", "([JII)J"⟩
theorem d3_0 : decode prog_27_method_5_code 0 = .ok (.aload_n 1, 1) := by decide +kernel
theorem d3_1 : decode prog_27_method_5_code 1 = .ok (.iload_n 2, 1) := by decide +kernel
theorem d3_2 : decode prog_27_method_5_code 2 = .ok (.aload_n 0, 1) := by decide +kernel
theorem d3_3 : decode prog_27_method_5_code 3 = .ok (.getfield 7, 3) := by decide +kernel
theorem d3_6 : decode prog_27_method_5_code 6 = .ok (.iload_n 3, 1) := by decide +kernel
theorem d3_7 : decode prog_27_method_5_code 7 = .ok (.iaload, 1) := by decide +kernel
theorem d3_8 : decode prog_27_method_5_code 8 = .ok (.iadd, 1) := by decide +kernel
theorem d3_9 : decode prog_27_method_5_code 9 = .ok (.laload, 1) := by decide +kernel
theorem d3_10 : decode prog_27_method_5_code 10 = .ok (.aload_n 0, 1) := by decide +kernel
theorem d3_11 : decode prog_27_method_5_code 11 = .ok (.getfield 13, 3) := by decide +kernel
theorem d3_14 : decode prog_27_method_5_code 14 = .ok (.iload_n 3, 1) := by decide +kernel
theorem d3_15 : decode prog_27_method_5_code 15 = .ok (.iaload, 1) := by decide +kernel
theorem d3_16 : decode prog_27_method_5_code 16 = .ok (.lushr, 1) := by decide +kernel
theorem d3_17 : decode prog_27_method_5_code 17 = .ok (.aload_n 0, 1) := by decide +kernel
theorem d3_18 : decode prog_27_method_5_code 18 = .ok (.getfield 16, 3) := by decide +kernel
theorem d3_21 : decode prog_27_method_5_code 21 = .ok (.iload_n 3, 1) := by decide +kernel
theorem d3_22 : decode prog_27_method_5_code 22 = .ok (.laload, 1) := by decide +kernel
theorem d3_23 : decode prog_27_method_5_code 23 = .ok (.land, 1) := by decide +kernel
theorem d3_24 : decode prog_27_method_5_code 24 = .ok (.lreturn, 1) := by decide +kernel
theorem pd_3 : parseMethodDescriptor "([JII)J" = some ⟨[(.array .long), .int, .int], some .long⟩ := by decide +kernel
abbrev Y4 : MethodName := ⟨"com/example/slott/slott/engine/bits/BitFieldsGetPinLaw", "expect", "(JJJIII)J"⟩
theorem d4_0 : decode method_3_code 0 = .ok (.iload 8, 2) := by decide +kernel
theorem d4_2 : decode method_3_code 2 = .ok (.ifCond .ne 5, 3) := by decide +kernel
theorem d4_5 : decode method_3_code 5 = .ok (.lconst 0, 1) := by decide +kernel
theorem d4_6 : decode method_3_code 6 = .ok (.lreturn, 1) := by decide +kernel
theorem d4_7 : decode method_3_code 7 = .ok (.iload 6, 2) := by decide +kernel
theorem d4_9 : decode method_3_code 9 = .ok (.ifCond .ne 9, 3) := by decide +kernel
theorem d4_12 : decode method_3_code 12 = .ok (.lload_n 0, 1) := by decide +kernel
theorem d4_13 : decode method_3_code 13 = .ok (.lstore 9, 2) := by decide +kernel
theorem d4_15 : decode method_3_code 15 = .ok (.goto 19, 3) := by decide +kernel
theorem d4_18 : decode method_3_code 18 = .ok (.iload 6, 2) := by decide +kernel
theorem d4_20 : decode method_3_code 20 = .ok (.iconst 1, 1) := by decide +kernel
theorem d4_21 : decode method_3_code 21 = .ok (.if_icmp .ne 9, 3) := by decide +kernel
theorem d4_24 : decode method_3_code 24 = .ok (.lload_n 2, 1) := by decide +kernel
theorem d4_25 : decode method_3_code 25 = .ok (.lstore 9, 2) := by decide +kernel
theorem d4_27 : decode method_3_code 27 = .ok (.goto 7, 3) := by decide +kernel
theorem d4_30 : decode method_3_code 30 = .ok (.lload 4, 2) := by decide +kernel
theorem d4_32 : decode method_3_code 32 = .ok (.lstore 9, 2) := by decide +kernel
theorem d4_34 : decode method_3_code 34 = .ok (.lload 9, 2) := by decide +kernel
theorem d4_36 : decode method_3_code 36 = .ok (.bipush 64, 2) := by decide +kernel
theorem d4_38 : decode method_3_code 38 = .ok (.iload 7, 2) := by decide +kernel
theorem d4_40 : decode method_3_code 40 = .ok (.isub, 1) := by decide +kernel
theorem d4_41 : decode method_3_code 41 = .ok (.iload 8, 2) := by decide +kernel
theorem d4_43 : decode method_3_code 43 = .ok (.isub, 1) := by decide +kernel
theorem d4_44 : decode method_3_code 44 = .ok (.lshl, 1) := by decide +kernel
theorem d4_45 : decode method_3_code 45 = .ok (.bipush 64, 2) := by decide +kernel
theorem d4_47 : decode method_3_code 47 = .ok (.iload 8, 2) := by decide +kernel
theorem d4_49 : decode method_3_code 49 = .ok (.isub, 1) := by decide +kernel
theorem d4_50 : decode method_3_code 50 = .ok (.lushr, 1) := by decide +kernel
theorem d4_51 : decode method_3_code 51 = .ok (.lreturn, 1) := by decide +kernel
theorem pd_4 : parseMethodDescriptor "(JJJIII)J" = some ⟨[.long, .long, .long, .int, .int, .int], some .long⟩ := by decide +kernel
theorem pl_0 : plainFor Y0 = true := plainFor_of_name (show plainName "com/example/slott/slott/engine/bits/BitFieldsGetPinLaw" = true by first | (simp [plainName, overriddenIn]; done) | decide +kernel)
theorem pl_1 : plainFor Y1 = true := plainFor_of_name (show plainName "com/example/slott/slott/engine/bits/BitFields" = true by first | (simp [plainName, overriddenIn]; done) | decide +kernel)
theorem pl_3 : plainFor Y3 = true := plainFor_of_name (show plainName "com/example/slott/slott/engine/bits/BitFields" = true by first | (simp [plainName, overriddenIn]; done) | decide +kernel)
theorem pl_4 : plainFor Y4 = true := plainFor_of_name (show plainName "com/example/slott/slott/engine/bits/BitFieldsGetPinLaw" = true by first | (simp [plainName, overriddenIn]; done) | decide +kernel)
theorem ic_0 : Int32.ofInt (0) = (0 : Int32) := rfl
theorem ic_1 : Int32.ofInt (1) = (1 : Int32) := rfl
theorem ic_2 : Int32.ofInt (2) = (2 : Int32) := rfl
theorem ic_3 : Int32.ofInt (3) = (3 : Int32) := rfl
theorem ic_4 : Int32.ofInt (4) = (4 : Int32) := rfl
theorem ic_5 : Int32.ofInt (5) = (5 : Int32) := rfl
theorem bi_6 : (Int8.ofInt (6)).toInt32 = (6 : Int32) := by decide
theorem bi_12 : (Int8.ofInt (12)).toInt32 = (12 : Int32) := by decide
theorem bi_18 : (Int8.ofInt (18)).toInt32 = (18 : Int32) := by decide
theorem bi_63 : (Int8.ofInt (63)).toInt32 = (63 : Int32) := by decide
theorem bi_64 : (Int8.ofInt (64)).toInt32 = (64 : Int32) := by decide
/-- Object.<init>, called from a constructor -/
theorem goInitO {w : W} {l : Launch} {R : Room} {Z : State} {n0 : Nat} {y : MethodName} {code : ByteArray} {ml : Nat} {ret : Option FieldType} {pc : Nat} {Ls : List Slot} {st : List Value} {h : Heap} {cells slots : Nat} {a : Addr} {idx : Nat} {a0 : Array Value} (r : Go w l R Z n0 y code ml ret pc Ls (.ref a :: st) h cells slots) (pc' : Nat) (hd : decode code pc = .ok (.invokespecial idx, 3)) (hp : pc + 3 = pc') (w1 : (Jvm.Cond.methodLink y.cls idx Lib.objectInit).before a0 Z = true) (w2 : (Jvm.Cond.instanceMethod Lib.objectInit).before a0 Z = true) (w3 : (Jvm.Cond.code Lib.objectInit object_method_1_code 1 none).before a0 Z = true) (hLs : Ls.length = ml) (hf : 1 ≤ R.frames) (hl : wt st + 12 ≤ R.locals) : Go w l R Z n0 y code ml ret pc' Ls st h cells slots := by
  subst hp
  obtain ⟨S, T, locs, X, e, N, k⟩ := r
  obtain ⟨T', X', e', q⟩ := Jvm.RoadKit.initO X S.1 S.2.1 S.2.2.1 w1 w2 w3 e (g := mkF w.m pc Ls.toArray (.ref a :: st)) rfl (by rw [S.2.2.2.2.1]; simpa using hLs) rfl (hb S.2.2.2.1 hd) hf (W := wt st) (by show 2 * 0 + _ ≤ _; simp [wt]) hl
  exact ⟨S, T', locs, X', e', N, fun t z => k t (q t z)⟩
theorem sn_word_shift {Z : State} {a0 : Array Value} (hw : Ws Z a0) : Jvm.RoadKit.slotOf Z "com/example/slott/slott/engine/bits/BitFields" "word" "[I" ≠ Jvm.RoadKit.slotOf Z "com/example/slott/slott/engine/bits/BitFields" "shift" "[I" := slot_ne (C := "com/example/slott/slott/engine/bits/BitFields") (Or.inr (wd_11 hw)) (Or.inr (wd_13 hw)) (by decide) (t := (.array .int)) (t' := (.array .int)) (by decide) (by decide)
theorem sn_word_mask {Z : State} {a0 : Array Value} (hw : Ws Z a0) : Jvm.RoadKit.slotOf Z "com/example/slott/slott/engine/bits/BitFields" "word" "[I" ≠ Jvm.RoadKit.slotOf Z "com/example/slott/slott/engine/bits/BitFields" "mask" "[J" := slot_ne (C := "com/example/slott/slott/engine/bits/BitFields") (Or.inr (wd_11 hw)) (Or.inr (wd_16 hw)) (by decide) (t := (.array .int)) (t' := (.array .long)) (by decide) (by decide)
theorem sn_word_words {Z : State} {a0 : Array Value} (hw : Ws Z a0) : Jvm.RoadKit.slotOf Z "com/example/slott/slott/engine/bits/BitFields" "word" "[I" ≠ Jvm.RoadKit.slotOf Z "com/example/slott/slott/engine/bits/BitFields" "words" "I" := slot_ne (C := "com/example/slott/slott/engine/bits/BitFields") (Or.inr (wd_11 hw)) (Or.inr (wd_18 hw)) (by decide) (t := (.array .int)) (t' := .int) (by decide) (by decide)
theorem sn_shift_word {Z : State} {a0 : Array Value} (hw : Ws Z a0) : Jvm.RoadKit.slotOf Z "com/example/slott/slott/engine/bits/BitFields" "shift" "[I" ≠ Jvm.RoadKit.slotOf Z "com/example/slott/slott/engine/bits/BitFields" "word" "[I" := slot_ne (C := "com/example/slott/slott/engine/bits/BitFields") (Or.inr (wd_13 hw)) (Or.inr (wd_11 hw)) (by decide) (t := (.array .int)) (t' := (.array .int)) (by decide) (by decide)
theorem sn_shift_mask {Z : State} {a0 : Array Value} (hw : Ws Z a0) : Jvm.RoadKit.slotOf Z "com/example/slott/slott/engine/bits/BitFields" "shift" "[I" ≠ Jvm.RoadKit.slotOf Z "com/example/slott/slott/engine/bits/BitFields" "mask" "[J" := slot_ne (C := "com/example/slott/slott/engine/bits/BitFields") (Or.inr (wd_13 hw)) (Or.inr (wd_16 hw)) (by decide) (t := (.array .int)) (t' := (.array .long)) (by decide) (by decide)
theorem sn_shift_words {Z : State} {a0 : Array Value} (hw : Ws Z a0) : Jvm.RoadKit.slotOf Z "com/example/slott/slott/engine/bits/BitFields" "shift" "[I" ≠ Jvm.RoadKit.slotOf Z "com/example/slott/slott/engine/bits/BitFields" "words" "I" := slot_ne (C := "com/example/slott/slott/engine/bits/BitFields") (Or.inr (wd_13 hw)) (Or.inr (wd_18 hw)) (by decide) (t := (.array .int)) (t' := .int) (by decide) (by decide)
theorem sn_mask_word {Z : State} {a0 : Array Value} (hw : Ws Z a0) : Jvm.RoadKit.slotOf Z "com/example/slott/slott/engine/bits/BitFields" "mask" "[J" ≠ Jvm.RoadKit.slotOf Z "com/example/slott/slott/engine/bits/BitFields" "word" "[I" := slot_ne (C := "com/example/slott/slott/engine/bits/BitFields") (Or.inr (wd_16 hw)) (Or.inr (wd_11 hw)) (by decide) (t := (.array .long)) (t' := (.array .int)) (by decide) (by decide)
theorem sn_mask_shift {Z : State} {a0 : Array Value} (hw : Ws Z a0) : Jvm.RoadKit.slotOf Z "com/example/slott/slott/engine/bits/BitFields" "mask" "[J" ≠ Jvm.RoadKit.slotOf Z "com/example/slott/slott/engine/bits/BitFields" "shift" "[I" := slot_ne (C := "com/example/slott/slott/engine/bits/BitFields") (Or.inr (wd_16 hw)) (Or.inr (wd_13 hw)) (by decide) (t := (.array .long)) (t' := (.array .int)) (by decide) (by decide)
theorem sn_mask_words {Z : State} {a0 : Array Value} (hw : Ws Z a0) : Jvm.RoadKit.slotOf Z "com/example/slott/slott/engine/bits/BitFields" "mask" "[J" ≠ Jvm.RoadKit.slotOf Z "com/example/slott/slott/engine/bits/BitFields" "words" "I" := slot_ne (C := "com/example/slott/slott/engine/bits/BitFields") (Or.inr (wd_16 hw)) (Or.inr (wd_18 hw)) (by decide) (t := (.array .long)) (t' := .int) (by decide) (by decide)
theorem sn_words_word {Z : State} {a0 : Array Value} (hw : Ws Z a0) : Jvm.RoadKit.slotOf Z "com/example/slott/slott/engine/bits/BitFields" "words" "I" ≠ Jvm.RoadKit.slotOf Z "com/example/slott/slott/engine/bits/BitFields" "word" "[I" := slot_ne (C := "com/example/slott/slott/engine/bits/BitFields") (Or.inr (wd_18 hw)) (Or.inr (wd_11 hw)) (by decide) (t := .int) (t' := (.array .int)) (by decide) (by decide)
theorem sn_words_shift {Z : State} {a0 : Array Value} (hw : Ws Z a0) : Jvm.RoadKit.slotOf Z "com/example/slott/slott/engine/bits/BitFields" "words" "I" ≠ Jvm.RoadKit.slotOf Z "com/example/slott/slott/engine/bits/BitFields" "shift" "[I" := slot_ne (C := "com/example/slott/slott/engine/bits/BitFields") (Or.inr (wd_18 hw)) (Or.inr (wd_13 hw)) (by decide) (t := .int) (t' := (.array .int)) (by decide) (by decide)
theorem sn_words_mask {Z : State} {a0 : Array Value} (hw : Ws Z a0) : Jvm.RoadKit.slotOf Z "com/example/slott/slott/engine/bits/BitFields" "words" "I" ≠ Jvm.RoadKit.slotOf Z "com/example/slott/slott/engine/bits/BitFields" "mask" "[J" := slot_ne (C := "com/example/slott/slott/engine/bits/BitFields") (Or.inr (wd_18 hw)) (Or.inr (wd_16 hw)) (by decide) (t := .int) (t' := (.array .long)) (by decide) (by decide)

def iv (ns : List Nat) : List Value := ns.map fun n => .int (Int32.ofNat n)
def mk (x : Nat) : Int64 := ((1 : Int64) <<< ((Int32.ofNat x) &&& 0x3f).toInt64) - 1
def cN (cur us x : Nat) : Nat := if 64 < us + x then cur + 1 else cur
def sN (us x : Nat) : Nat := if 64 < us + x then 0 else us
def BF (Z : State) (h : Heap) (a wa sa ma : Addr) (vw vs vm : List Value) : Prop := Exa Z h a "com/example/slott/slott/engine/bits/BitFields" ∧ Fld Z h a "com/example/slott/slott/engine/bits/BitFields" "word" "[I" (.ref wa) ∧ Fld Z h a "com/example/slott/slott/engine/bits/BitFields" "shift" "[I" (.ref sa) ∧ Fld Z h a "com/example/slott/slott/engine/bits/BitFields" "mask" "[J" (.ref ma) ∧ Ary Z h wa .int vw ∧ Ary Z h sa .int vs ∧ Ary Z h ma .long vm
def Apart (n0 : Nat) (a b wa sa ma : Addr) : Prop := a ≠ wa ∧ a ≠ sa ∧ a ≠ ma ∧ b ≠ wa ∧ b ≠ sa ∧ b ≠ ma ∧ wa ≠ sa ∧ wa ≠ ma ∧ sa ≠ ma ∧ n0 ≤ a ∧ n0 ≤ wa ∧ n0 ≤ sa ∧ n0 ≤ ma
def Al (Z : State) (h : Heap) (a b wa sa ma : Addr) (xs : List Nat) (vw vs vm : List Value) : Prop := BF Z h a wa sa ma vw vs vm ∧ Fld Z h a "com/example/slott/slott/engine/bits/BitFields" "words" "I" (.int 0) ∧ Ary Z h b .int (iv xs)
theorem Al.w {n0 : Nat} {Z : State} {h h' : Heap} {a b wa sa ma : Addr} {xs : List Nat} {vw vs vm vw' : List Value} {j : Nat} {v : Value} (D : Apart n0 a b wa sa ma) (L : Al Z h a b wa sa ma xs vw vs vm) (W : Wr h h' wa j v) (A : Ary Z h' wa .int vw') : Al Z h' a b wa sa ma xs vw' vs vm := by
  obtain ⟨⟨E, F1, F2, F3, A1, A2, A3⟩, F4, B⟩ := L
  obtain ⟨d1, d2, d3, d4, d5, d6, d7, d8, d9, -⟩ := D
  exact ⟨⟨E.wr W, F1.other W (Or.inl d1), F2.other W (Or.inl d1), F3.other W (Or.inl d1), A, A2.other W (Ne.symm d7), A3.other W (Ne.symm d8)⟩, F4.other W (Or.inl d1), B.other W d4⟩
theorem Al.s {n0 : Nat} {Z : State} {h h' : Heap} {a b wa sa ma : Addr} {xs : List Nat} {vw vs vm vw' : List Value} {j : Nat} {v : Value} (D : Apart n0 a b wa sa ma) (L : Al Z h a b wa sa ma xs vw vs vm) (W : Wr h h' sa j v) (A : Ary Z h' sa .int vw') : Al Z h' a b wa sa ma xs vw vw' vm := by
  obtain ⟨⟨E, F1, F2, F3, A1, A2, A3⟩, F4, B⟩ := L
  obtain ⟨d1, d2, d3, d4, d5, d6, d7, d8, d9, -⟩ := D
  exact ⟨⟨E.wr W, F1.other W (Or.inl d2), F2.other W (Or.inl d2), F3.other W (Or.inl d2), A1.other W d7, A, A3.other W (Ne.symm d9)⟩, F4.other W (Or.inl d2), B.other W d5⟩
theorem Al.m {n0 : Nat} {Z : State} {h h' : Heap} {a b wa sa ma : Addr} {xs : List Nat} {vw vs vm vw' : List Value} {j : Nat} {v : Value} (D : Apart n0 a b wa sa ma) (L : Al Z h a b wa sa ma xs vw vs vm) (W : Wr h h' ma j v) (A : Ary Z h' ma .long vw') : Al Z h' a b wa sa ma xs vw vs vw' := by
  obtain ⟨⟨E, F1, F2, F3, A1, A2, A3⟩, F4, B⟩ := L
  obtain ⟨d1, d2, d3, d4, d5, d6, d7, d8, d9, -⟩ := D
  exact ⟨⟨E.wr W, F1.other W (Or.inl d3), F2.other W (Or.inl d3), F3.other W (Or.inl d3), A1.other W d8, A2.other W d9, A⟩, F4.other W (Or.inl d3), B.other W d6⟩
theorem iv_get {ns : List Nat} {i x : Nat} (h : ns[i]? = some x) : (iv ns)[i]? = some (.int (Int32.ofNat x)) := by simp [iv, h]
theorem len0 : (0 : Int32).toNatClampNeg = 0 := rfl
/-! bits -/
theorem amt {s : Nat} (hs : s < 64) : ((Int32.ofNat s) &&& 0x3f).toInt64.toBitVec = BitVec.ofNat 64 s := by
  have h : (Int32.ofNat s).toBitVec.toNat % 64 = s := by
    show (BitVec.ofNat 32 s).toNat % 64 = s
    simp [BitVec.toNat_ofNat]; omega
  exact (sm64 _ s h).1
theorem ush {s : Nat} (hs : s < 64) (v : Int64) : ((v.toUInt64 >>> ((Int32.ofNat s) &&& 0x3f).toInt64.toUInt64).toInt64).toBitVec = v.toBitVec >>> s := by
  rw [UInt64.toBitVec_toInt64, UInt64.toBitVec_shiftRight, Int64.toBitVec_toUInt64, Int64.toBitVec_toUInt64, amt hs]
  have : (BitVec.ofNat 64 s % (64 : BitVec 64)) = BitVec.ofNat 64 s := by
    apply BitVec.eq_of_toNat_eq; simp [BitVec.toNat_umod]; omega
  rw [this]; show v.toBitVec >>> (BitVec.ofNat 64 s).toNat = _
  simp [BitVec.toNat_ofNat]; rw [Nat.mod_eq_of_lt (by omega)]
theorem shl {s : Nat} (hs : s < 64) (v : Int64) : (v <<< ((Int32.ofNat s) &&& 0x3f).toInt64).toBitVec = v.toBitVec <<< s := by
  rw [Int64.toBitVec_shiftLeft, amt hs]
  show v.toBitVec <<< ((BitVec.ofNat 64 s).smod 64) = _
  have := smod64 s hs
  show v.toBitVec <<< ((BitVec.ofNat 64 s).smod 64).toNat = _
  rw [this]
theorem mk_bit {x : Nat} (hx : x < 64) (i : Nat) : (mk x).toBitVec.getLsbD i = decide (i < x) := by
  have e : (mk x).toBitVec = BitVec.ofNat 64 (2 ^ x - 1) := by
    simp only [mk, Int64.toBitVec_sub]
    rw [shl hx]
    apply BitVec.eq_of_toNat_eq
    have h1 : (1 : Int64).toBitVec = 1#64 := rfl
    have hp : 2 ^ x < 2 ^ 64 := Nat.pow_lt_pow_right (by decide) hx
    have hp0 : 0 < 2 ^ x := Nat.pow_pos (by decide)
    rw [h1, BitVec.toNat_sub, BitVec.toNat_shiftLeft, BitVec.toNat_ofNat, BitVec.toNat_ofNat, Nat.shiftLeft_eq]
    have : 1 % 2 ^ 64 = 1 := by decide
    rw [this, Nat.one_mul, Nat.mod_eq_of_lt hp]
    omega
  rw [e, BitVec.getLsbD_ofNat, Nat.testBit_two_pow_sub_one]
  by_cases h : i < x
  · simp [h]; omega
  · simp [h]
theorem field_eq (v : Int64) (s x : Nat) (hx : x < 64) (hx0 : 0 < x) (hs : s + x ≤ 64) :
    ((v.toUInt64 >>> ((Int32.ofNat s) &&& 0x3f).toInt64.toUInt64).toInt64) &&& mk x = (((v <<< ((Int32.ofNat (64 - s - x)) &&& 0x3f).toInt64).toUInt64 >>> ((Int32.ofNat (64 - x)) &&& 0x3f).toInt64.toUInt64).toInt64) := by
  apply Int64.toBitVec_inj.mp
  rw [Int64.toBitVec_and, ush (by omega), ush (by omega), shl (by omega)]
  apply BitVec.eq_of_getLsbD_eq
  intro i hi
  rw [BitVec.getLsbD_and, BitVec.getLsbD_ushiftRight, mk_bit hx, BitVec.getLsbD_ushiftRight, BitVec.getLsbD_shiftLeft]
  by_cases h : i < x
  · have h1 : 64 - x + i < 64 := by omega
    have h2 : ¬ (64 - x + i < 64 - s - x) := by omega
    have h3 : 64 - x + i - (64 - s - x) = s + i := by omega
    simp [h, h1, h2, h3]
  · have h1 : ¬ (64 - x + i < 64) := by omega
    simp [h, h1]
theorem field_0 (v : Int64) (s : Nat) : ((v.toUInt64 >>> ((Int32.ofNat s) &&& 0x3f).toInt64.toUInt64).toInt64) &&& mk 0 = 0 := by
  rw [show mk 0 = 0 from by decide, Int64.and_zero]

set_option maxRecDepth 65536 in
set_option maxHeartbeats 40000000 in
theorem bf_turn {l : Launch} {Z : State} {a0 : Array Value} (hw : Ws Z a0) {w : W} {R : Room} {h : Heap} {n0 : Nat} {a b wa sa ma : Addr} {xs : List Nat} {vw vs vm : List Value} {cells slots : Nat} (D : Apart n0 a b wa sa ma) (cur us i x : Nat) (hc3 : cur < 9) (hus : us < 200) (hx64 : x < 64) (hi : i < 3) (l1 : vw.length = 3) (l2 : vs.length = 3) (l3 : vm.length = 3) (hx : xs[i]? = some x) (hxs : xs.length = 3) (L : Al Z h a b wa sa ma xs vw vs vm) (r : Go w l R Z n0 Y1 prog_27_method_1_code 5 none 35 [.val (.ref a), .val (.ref b), .val (.int (Int32.ofNat cur)), .val (.int (Int32.ofNat us)), .val (.int (Int32.ofNat i))] [] h cells slots) :
    ∃ h', Al Z h' a b wa sa ma xs (vw.set i (.int (Int32.ofNat (cN cur us x)))) (vs.set i (.int (Int32.ofNat (sN us x)))) (vm.set i (.long (mk x))) ∧ Go w l R Z n0 Y1 prog_27_method_1_code 5 none 35 [.val (.ref a), .val (.ref b), .val (.int (Int32.ofNat (cN cur us x))), .val (.int (Int32.ofNat (sN us x + x))), .val (.int (Int32.ofNat (i + 1)))] [] h' cells slots := by
  have kk : (Int32.ofNat i).toNatClampNeg = i := len_nat (by omega)
  have nn : ¬ Int32.ofNat i < 0 := len_nn (by omega)
  replace r := r.ild4 37 d1_35 rfl
  replace r := r.ald1 38 d1_37 rfl
  replace r := r.alen 39 d1_38 rfl L.2.2 (Int32.ofNat 3) (by rw [show (iv xs).length = 3 from by simp [iv, hxs]])
  replace r := r.ic_geF 42 d1_39 rfl ((nlt (by omega) (by decide)).mpr hi)
  replace r := r.ild3 43 d1_42 rfl
  replace r := r.ald1 44 d1_43 rfl
  replace r := r.ild4 46 d1_44 rfl
  replace r := r.iald 47 d1_46 rfl L.2.2 nn (by rw [kk]; exact iv_get hx)
  replace r := r.iadd 48 d1_47 rfl
  rw [nadd] at r
  replace r := r.bipushV 50 d1_48 rfl (64 : Int32) bi_64
  replace r : Go w l R Z n0 Y1 prog_27_method_1_code 5 none 58 [.val (.ref a), .val (.ref b), .val (.int (Int32.ofNat (cN cur us x))), .val (.int (Int32.ofNat (sN us x))), .val (.int (Int32.ofNat i))] [] h cells slots := by
    rcases r.ic_le 58 53 d1_50 (by decide) rfl with ⟨hc, r⟩ | ⟨hc, r⟩
    · rw [show (64 : Int32) = Int32.ofNat 64 from rfl, nlt (by decide) (by omega)] at hc
      rw [show cN cur us x = cur from if_neg hc, show sN us x = us from if_neg hc]; exact r
    · rw [show (64 : Int32) = Int32.ofNat 64 from rfl, nlt (by decide) (by omega)] at hc
      replace r := r.inc2 56 d1_53 rfl (d := 1) rfl
      replace r := r.iconstV 57 d1_56 rfl (0 : Int32) ic_0
      replace r := r.ist3 58 d1_57 rfl (One.of rfl)
      rw [nadd1] at r
      rw [show cN cur us x = cur + 1 from if_pos hc, show sN us x = 0 from if_pos hc]; exact r
  have hs2 : sN us x < 200 := by unfold sN; split <;> omega
  replace r := r.ald0 59 d1_58 rfl
  replace r := r.getF 62 d1_59 rfl (wd_10 hw) L.1.2.1
  replace r := r.ild4 64 d1_62 rfl
  replace r := r.ild2 65 d1_64 rfl
  obtain ⟨h1, W1, A1, r⟩ := r.iast 66 d1_65 rfl L.1.2.2.2.2.1 nn (by rw [kk, l1]; exact hi) D.2.2.2.2.2.2.2.2.2.2.1
  rw [kk] at W1 A1
  replace L := Al.w D L W1 A1
  replace r := r.ald0 67 d1_66 rfl
  replace r := r.getF 70 d1_67 rfl (wd_12 hw) L.1.2.2.1
  replace r := r.ild4 72 d1_70 rfl
  replace r := r.ild3 73 d1_72 rfl
  obtain ⟨h2, W2, A2, r⟩ := r.iast 74 d1_73 rfl L.1.2.2.2.2.2.1 nn (by rw [kk, l2]; exact hi) D.2.2.2.2.2.2.2.2.2.2.2.1
  rw [kk] at W2 A2
  replace L := Al.s D L W2 A2
  replace r := r.ald0 75 d1_74 rfl
  replace r := r.getF 78 d1_75 rfl (wd_15 hw) L.1.2.2.2.1
  replace r := r.ild4 80 d1_78 rfl
  replace r := r.lconstV 81 d1_80 rfl (1 : Int64) rfl
  replace r := r.ald1 82 d1_81 rfl
  replace r := r.ild4 84 d1_82 rfl
  replace r := r.iald 85 d1_84 rfl L.2.2 nn (by rw [kk]; exact iv_get hx)
  replace r := r.lshl 86 d1_85 rfl
  replace r := r.lconstV 87 d1_86 rfl (1 : Int64) rfl
  replace r := r.lsub 88 d1_87 rfl
  obtain ⟨h3, W3, A3, r⟩ := r.last 89 d1_88 rfl L.1.2.2.2.2.2.2 nn (by rw [kk, l3]; exact hi) D.2.2.2.2.2.2.2.2.2.2.2.2
  rw [kk] at W3 A3
  replace L := Al.m D L W3 A3
  replace r := r.ild3 90 d1_89 rfl
  replace r := r.ald1 91 d1_90 rfl
  replace r := r.ild4 93 d1_91 rfl
  replace r := r.iald 94 d1_93 rfl L.2.2 nn (by rw [kk]; exact iv_get hx)
  replace r := r.iadd 95 d1_94 rfl
  rw [nadd] at r
  replace r := r.ist3 96 d1_95 rfl (One.of rfl)
  replace r := r.inc4 99 d1_96 rfl (d := 1) rfl
  replace r := r.goto 35 d1_99 (by decide)
  rw [nadd1] at r
  exact ⟨h3, L, r⟩
set_option maxRecDepth 65536 in
set_option maxHeartbeats 40000000 in
theorem init_met {l : Launch} {Z : State} {a0 : Array Value} (hw : Ws Z a0) (a b : Addr) (x0 x1 x2 : Nat) (q0 : x0 < 64) (q1 : x1 < 64) (q2 : x2 < 64) (h0 : Heap) (n0 : Nat) (g : n0 ≤ a) (ne_ba : b ≠ a) (E : Exa Z h0 a "com/example/slott/slott/engine/bits/BitFields") (F1 : Fld Z h0 a "com/example/slott/slott/engine/bits/BitFields" "word" "[I" .null) (F2 : Fld Z h0 a "com/example/slott/slott/engine/bits/BitFields" "shift" "[I" .null) (F3 : Fld Z h0 a "com/example/slott/slott/engine/bits/BitFields" "mask" "[J" .null) (F4 : Fld Z h0 a "com/example/slott/slott/engine/bits/BitFields" "words" "I" (.int 0)) (B : Ary Z h0 b .int (iv [x0, x1, x2])) : Met l Z Y1 prog_27_method_1_code 5 none ({ frames := 1, cells := 3, slots := 9, locals := 20 } : Room) [.ref a, .ref b] h0 n0 (Ret0 fun h => ∃ wa sa ma, BF Z h a wa sa ma (iv [0, cN 0 x0 x1, cN (cN 0 x0 x1) (sN x0 x1 + x1) x2]) (iv [0, sN x0 x1, sN (sN x0 x1 + x1) x2]) [.long (mk x0), .long (mk x1), .long (mk x2)]) := by
  refine Met.intro (Ls := [.val (.ref a), .val (.ref b), .unset, .unset, .unset]) pl_1 (fun m => by simp [entryFrame, mkF, argsToLocals, Value.category, maxLocals]) fun w r => ?_
  replace r := r.ald0 1 d1_0 rfl
  replace r := goInitO r 4 d1_1 rfl (wd_7 hw) (wd_8 hw) (wd_9 hw) rfl (Nat.le_of_ble_eq_true rfl) (Nat.le_of_ble_eq_true rfl)
  have hlen : Int32.ofNat (iv [x0, x1, x2]).length = 3 := rfl
  replace r := r.ald0 5 d1_4 rfl
  replace r := r.ald1 6 d1_5 rfl
  replace r := r.alen 7 d1_6 rfl B 3 hlen
  obtain ⟨h1, wa, z1, X1, Awa, r⟩ := r.newA (vs := [.int 0, .int 0, .int 0]) 9 d1_7 rfl (wd_3 hw) (by decide) rfl 3 (by decide) (by decide) (by decide) (by decide)
  have ne_a_wa : a ≠ wa := by rw [z1]; exact Nat.ne_of_lt E.lt
  have ne_b_wa : b ≠ wa := by rw [z1]; exact Nat.ne_of_lt B.lt
  have g_wa : n0 ≤ wa := by rw [z1]; exact Nat.le_trans g (Nat.le_of_lt E.lt)
  replace E := E.ext X1; replace B := B.ext X1; replace F1 := F1.ext X1; replace F2 := F2.ext X1; replace F3 := F3.ext X1; replace F4 := F4.ext X1
  obtain ⟨h2, W2, r⟩ := r.putF 12 d1_9 rfl (wd_10 hw) (Or.inr ⟨(wd_11 hw), rfl, rfl⟩) (wd_1 hw) E F1 (ty := (.array .int)) (by decide) rfl rfl g
  replace E := E.wr W2; replace B := B.other W2 ne_ba
  replace F1 := F1.same W2
  replace F2 := F2.other W2 (Or.inr (sn_shift_word hw))
  replace F3 := F3.other W2 (Or.inr (sn_mask_word hw))
  replace F4 := F4.other W2 (Or.inr (sn_words_word hw))
  replace Awa := Awa.other W2 (Ne.symm ne_a_wa)
  replace r := r.ald0 13 d1_12 rfl
  replace r := r.ald1 14 d1_13 rfl
  replace r := r.alen 15 d1_14 rfl B 3 hlen
  obtain ⟨h3, sa, z3, X3, Asa, r⟩ := r.newA (vs := [.int 0, .int 0, .int 0]) 17 d1_15 rfl (wd_3 hw) (by decide) rfl 3 (by decide) (by decide) (by decide) (by decide)
  have ne_a_sa : a ≠ sa := by rw [z3]; exact Nat.ne_of_lt E.lt
  have ne_b_sa : b ≠ sa := by rw [z3]; exact Nat.ne_of_lt B.lt
  have g_sa : n0 ≤ sa := by rw [z3]; exact Nat.le_trans g (Nat.le_of_lt E.lt)
  have ne_wa_sa : wa ≠ sa := by rw [z3]; exact Nat.ne_of_lt Awa.lt
  replace E := E.ext X3; replace B := B.ext X3; replace F1 := F1.ext X3; replace F2 := F2.ext X3; replace F3 := F3.ext X3; replace F4 := F4.ext X3
  replace Awa := Awa.ext X3
  obtain ⟨h4, W4, r⟩ := r.putF 20 d1_17 rfl (wd_12 hw) (Or.inr ⟨(wd_13 hw), rfl, rfl⟩) (wd_1 hw) E F2 (ty := (.array .int)) (by decide) rfl rfl g
  replace E := E.wr W4; replace B := B.other W4 ne_ba
  replace F1 := F1.other W4 (Or.inr (sn_word_shift hw))
  replace F2 := F2.same W4
  replace F3 := F3.other W4 (Or.inr (sn_mask_shift hw))
  replace F4 := F4.other W4 (Or.inr (sn_words_shift hw))
  replace Awa := Awa.other W4 (Ne.symm ne_a_wa)
  replace Asa := Asa.other W4 (Ne.symm ne_a_sa)
  replace r := r.ald0 21 d1_20 rfl
  replace r := r.ald1 22 d1_21 rfl
  replace r := r.alen 23 d1_22 rfl B 3 hlen
  obtain ⟨h5, ma, z5, X5, Ama, r⟩ := r.newA (vs := [.long 0, .long 0, .long 0]) 25 d1_23 rfl (wd_14 hw) (by decide) rfl 3 (by decide) (by decide) (by decide) (by decide)
  have ne_a_ma : a ≠ ma := by rw [z5]; exact Nat.ne_of_lt E.lt
  have ne_b_ma : b ≠ ma := by rw [z5]; exact Nat.ne_of_lt B.lt
  have g_ma : n0 ≤ ma := by rw [z5]; exact Nat.le_trans g (Nat.le_of_lt E.lt)
  have ne_wa_ma : wa ≠ ma := by rw [z5]; exact Nat.ne_of_lt Awa.lt
  have ne_sa_ma : sa ≠ ma := by rw [z5]; exact Nat.ne_of_lt Asa.lt
  replace E := E.ext X5; replace B := B.ext X5; replace F1 := F1.ext X5; replace F2 := F2.ext X5; replace F3 := F3.ext X5; replace F4 := F4.ext X5
  replace Awa := Awa.ext X5
  replace Asa := Asa.ext X5
  obtain ⟨h6, W6, r⟩ := r.putF 28 d1_25 rfl (wd_15 hw) (Or.inr ⟨(wd_16 hw), rfl, rfl⟩) (wd_1 hw) E F3 (ty := (.array .long)) (by decide) rfl rfl g
  replace E := E.wr W6; replace B := B.other W6 ne_ba
  replace F1 := F1.other W6 (Or.inr (sn_word_mask hw))
  replace F2 := F2.other W6 (Or.inr (sn_shift_mask hw))
  replace F3 := F3.same W6
  replace F4 := F4.other W6 (Or.inr (sn_words_mask hw))
  replace Awa := Awa.other W6 (Ne.symm ne_a_wa)
  replace Asa := Asa.other W6 (Ne.symm ne_a_sa)
  replace Ama := Ama.other W6 (Ne.symm ne_a_ma)
  replace r := r.iconstV 29 d1_28 rfl (0 : Int32) ic_0
  replace r := r.ist2 30 d1_29 rfl (One.of rfl)
  replace r := r.iconstV 31 d1_30 rfl (0 : Int32) ic_0
  replace r := r.ist3 32 d1_31 rfl (One.of rfl)
  replace r := r.iconstV 33 d1_32 rfl (0 : Int32) ic_0
  replace r := r.ist4 35 d1_33 rfl (One.of rfl)
  have D : Apart n0 a b wa sa ma := ⟨ne_a_wa, ne_a_sa, ne_a_ma, ne_b_wa, ne_b_sa, ne_b_ma, ne_wa_sa, ne_wa_ma, ne_sa_ma, g, g_wa, g_sa, g_ma⟩
  have L : Al Z h6 a b wa sa ma [x0, x1, x2] (iv [0, 0, 0]) (iv [0, 0, 0]) [.long 0, .long 0, .long 0] := ⟨⟨E, F1, F2, F3, Awa, Asa, Ama⟩, F4, B⟩
  have s00 : sN 0 x0 = 0 := if_neg (by omega)
  have c00 : cN 0 0 x0 = 0 := if_neg (by omega)
  have bs1 : sN x0 x1 ≤ 64 := by unfold sN; split <;> omega
  have bc1 : cN 0 x0 x1 ≤ 1 := by unfold cN; split <;> omega
  have hu : sN x0 x1 + x1 ≤ 127 := by omega
  have bs2 : sN (sN x0 x1 + x1) x2 ≤ 128 := by
    generalize sN x0 x1 + x1 = u at hu
    unfold sN; split <;> omega
  have bc2 : cN (cN 0 x0 x1) (sN x0 x1 + x1) x2 ≤ 2 := by
    generalize sN x0 x1 + x1 = u at hu
    generalize cN 0 x0 x1 = v at bc1
    unfold cN; split <;> omega
  obtain ⟨h7, L, r⟩ := bf_turn hw D 0 0 0 x0 (by decide) (by decide) q0 (by decide) rfl rfl rfl rfl rfl L r
  rw [s00, c00, Nat.zero_add] at r
  rw [s00, c00] at L
  obtain ⟨h8, L, r⟩ := bf_turn hw D 0 x0 1 x1 (by decide) (by omega) q1 (by decide) rfl rfl rfl rfl rfl L r
  obtain ⟨h9, L, r⟩ := bf_turn hw D (cN 0 x0 x1) (sN x0 x1 + x1) 2 x2 (by omega) (by omega) q2 (by decide) rfl rfl rfl rfl rfl L r
  replace r := r.ild4 37 d1_35 rfl
  replace r := r.ald1 38 d1_37 rfl
  replace r := r.alen 39 d1_38 rfl L.2.2 3 hlen
  replace r := r.ic_geT 102 d1_39 (by decide) (by decide)
  replace r := r.ald0 103 d1_102 rfl
  replace r := r.ild2 104 d1_103 rfl
  replace r := r.iconstV 105 d1_104 rfl (1 : Int32) ic_1
  replace r := r.iadd 106 d1_105 rfl
  obtain ⟨h10, W10, r⟩ := r.putF 109 d1_106 rfl (wd_17 hw) (Or.inr ⟨(wd_18 hw), rfl, rfl⟩) (wd_1 hw) L.1.1 L.2.1 (ty := .int) (by decide) rfl rfl g
  obtain ⟨⟨E, F1, F2, F3, A1, A2, A3⟩, F4, B⟩ := L
  exact r.retV d1_109 ⟨wa, sa, ma, E.wr W10, F1.other W10 (Or.inr (sn_word_words hw)), F2.other W10 (Or.inr (sn_shift_words hw)), F3.other W10 (Or.inr (sn_mask_words hw)), A1.other W10 (Ne.symm ne_a_wa), A2.other W10 (Ne.symm ne_a_sa), A3.other W10 (Ne.symm ne_a_ma)⟩ (by decide) (by decide)
set_option maxRecDepth 65536 in
set_option maxHeartbeats 40000000 in
theorem get_met {l : Launch} {Z : State} {a0 : Array Value} (hw : Ws Z a0) (a p wa sa ma : Addr) (vw vs vm vp : List Value) (off i cw s : Nat) (m v : Int64) (h0 : Heap) (n0 : Nat) (G : BF Z h0 a wa sa ma vw vs vm) (A : Ary Z h0 p .long vp) (ho : off + cw < 2 ^ 31) (hi : i < 3) (e1 : vw[i]? = some (.int (Int32.ofNat cw))) (e2 : vs[i]? = some (.int (Int32.ofNat s))) (e3 : vm[i]? = some (.long m)) (e4 : vp[off + cw]? = some (.long v)) : Met l Z Y3 prog_27_method_5_code 4 (some .long) ({ frames := 0, cells := 0, slots := 0, locals := 0 } : Room) [.ref a, .ref p, .int (Int32.ofNat off), .int (Int32.ofNat i)] h0 n0 (Ret fun z h => z = .long (((v.toUInt64 >>> ((Int32.ofNat s) &&& 0x3f).toInt64.toUInt64).toInt64) &&& m) ∧ h0 = h) := by
  have kk : (Int32.ofNat i).toNatClampNeg = i := len_nat (by omega)
  have nn : ¬ Int32.ofNat i < 0 := len_nn (by omega)
  refine Met.intro (Ls := [.val (.ref a), .val (.ref p), .val (.int (Int32.ofNat off)), .val (.int (Int32.ofNat i))]) pl_3 (fun m => by simp [entryFrame, mkF, argsToLocals, Value.category, maxLocals]) fun w r => ?_
  replace r := r.ald1 1 d3_0 rfl
  replace r := r.ild2 2 d3_1 rfl
  replace r := r.ald0 3 d3_2 rfl
  replace r := r.getF 6 d3_3 rfl (wd_10 hw) G.2.1
  replace r := r.ild3 7 d3_6 rfl
  replace r := r.iald 8 d3_7 rfl G.2.2.2.2.1 nn (by rw [kk]; exact e1)
  replace r := r.iadd 9 d3_8 rfl
  rw [nadd] at r
  replace r := r.lald 10 d3_9 rfl A (len_nn ho) (by rw [len_nat ho]; exact e4)
  replace r := r.ald0 11 d3_10 rfl
  replace r := r.getF 14 d3_11 rfl (wd_12 hw) G.2.2.1
  replace r := r.ild3 15 d3_14 rfl
  replace r := r.iald 16 d3_15 rfl G.2.2.2.2.2.1 nn (by rw [kk]; exact e2)
  replace r := r.lushr 17 d3_16 rfl
  replace r := r.ald0 18 d3_17 rfl
  replace r := r.getF 21 d3_18 rfl (wd_15 hw) G.2.2.2.1
  replace r := r.ild3 22 d3_21 rfl
  replace r := r.lald 23 d3_22 rfl G.2.2.2.2.2.2 nn (by rw [kk]; exact e3)
  replace r := r.land 24 d3_23 rfl
  exact r.retL d3_24 ⟨rfl, rfl⟩ (by decide) (by decide)
def pick (k : Nat) (p0 p1 p2 : Int64) : Int64 := if k = 0 then p0 else if k = 1 then p1 else p2
def want (v : Int64) (s x : Nat) : Int64 := if x = 0 then 0 else (((v <<< ((Int32.ofNat (64 - s - x)) &&& 0x3f).toInt64).toUInt64 >>> ((Int32.ofNat (64 - x)) &&& 0x3f).toInt64.toUInt64).toInt64)
set_option maxRecDepth 65536 in
set_option maxHeartbeats 40000000 in
theorem exp_met {l : Launch} {Z : State} {a0 : Array Value} (hw : Ws Z a0) (p0 p1 p2 : Int64) (k s x : Nat) (hk : k < 3) (hs : s + x ≤ 64) (h0 : Heap) (n0 : Nat) : Met l Z Y4 method_3_code 11 (some .long) ({ frames := 0, cells := 0, slots := 0, locals := 0 } : Room) [.long p0, .long p1, .long p2, .int (Int32.ofNat k), .int (Int32.ofNat s), .int (Int32.ofNat x)] h0 n0 (Ret fun z h => z = .long (want (pick k p0 p1 p2) s x) ∧ h0 = h) := by
  refine Met.intro (Ls := [.val (.long p0), .second, .val (.long p1), .second, .val (.long p2), .second, .val (.int (Int32.ofNat k)), .val (.int (Int32.ofNat s)), .val (.int (Int32.ofNat x)), .unset, .unset]) pl_4 (fun m => by simp [entryFrame, mkF, argsToLocals, Value.category, maxLocals]) fun w r => ?_
  replace r := r.ild8 2 d4_0 rfl
  rcases r.if_ne 7 5 d4_2 (by decide) rfl with ⟨hx, r⟩ | ⟨hx, r⟩
  rotate_left
  · rw [show (0 : Int32) = Int32.ofNat 0 from rfl, neqn (by omega) (by decide)] at hx
    replace r := r.lconstV 6 d4_5 rfl (0 : Int64) rfl
    exact r.retL d4_6 ⟨by rw [show want (pick k p0 p1 p2) s x = 0 from if_pos hx], rfl⟩ (by decide) (by decide)
  · rw [show (0 : Int32) = Int32.ofNat 0 from rfl, neqn (by omega) (by decide)] at hx
    replace r : Go w l ({ frames := 0, cells := 0, slots := 0, locals := 0 } : Room) Z n0 Y4 method_3_code 11 (some .long) 34 [.val (.long p0), .second, .val (.long p1), .second, .val (.long p2), .second, .val (.int (Int32.ofNat k)), .val (.int (Int32.ofNat s)), .val (.int (Int32.ofNat x)), .val (.long (pick k p0 p1 p2)), .second] [] h0 0 0 := by
      replace r := r.ild6 9 d4_7 rfl
      rcases r.if_ne 18 12 d4_9 (by decide) rfl with ⟨hc, r⟩ | ⟨hc, r⟩
      rotate_left
      · rw [show (0 : Int32) = Int32.ofNat 0 from rfl, neqn (by omega) (by decide)] at hc
        replace r := r.lld0 13 d4_12 rfl
        replace r := r.lst9 15 d4_13 rfl (Two.of rfl)
        replace r := r.goto 34 d4_15 (by decide)
        rw [show pick k p0 p1 p2 = p0 from if_pos hc]; exact r
      · rw [show (0 : Int32) = Int32.ofNat 0 from rfl, neqn (by omega) (by decide)] at hc
        have hc0 := hc
        replace r := r.ild6 20 d4_18 rfl
        replace r := r.iconstV 21 d4_20 rfl (1 : Int32) ic_1
        rcases r.ic_ne 30 24 d4_21 (by decide) rfl with ⟨hc, r⟩ | ⟨hc, r⟩
        rotate_left
        · rw [show (1 : Int32) = Int32.ofNat 1 from rfl, neqn (by omega) (by decide)] at hc
          replace r := r.lld2 25 d4_24 rfl
          replace r := r.lst9 27 d4_25 rfl (Two.of rfl)
          replace r := r.goto 34 d4_27 (by decide)
          rw [show pick k p0 p1 p2 = p1 from (if_neg hc0).trans (if_pos hc)]; exact r
        · rw [show (1 : Int32) = Int32.ofNat 1 from rfl, neqn (by omega) (by decide)] at hc
          replace r := r.lld4 32 d4_30 rfl
          replace r := r.lst9 34 d4_32 rfl (Two.of rfl)
          rw [show pick k p0 p1 p2 = p2 from (if_neg hc0).trans (if_neg hc)]; exact r
    replace r := r.lld9 36 d4_34 rfl
    replace r := r.bipushV 38 d4_36 rfl (64 : Int32) bi_64
    replace r := r.ild7 40 d4_38 rfl
    replace r := r.isub 41 d4_40 rfl
    replace r := r.ild8 43 d4_41 rfl
    replace r := r.isub 44 d4_43 rfl
    rw [show (64 : Int32) - Int32.ofNat s = Int32.ofNat (64 - s) from nsub (a := 64) (by omega), nsub (by omega)] at r
    replace r := r.lshl 45 d4_44 rfl
    replace r := r.bipushV 47 d4_45 rfl (64 : Int32) bi_64
    replace r := r.ild8 49 d4_47 rfl
    replace r := r.isub 50 d4_49 rfl
    rw [show (64 : Int32) - Int32.ofNat x = Int32.ofNat (64 - x) from nsub (a := 64) (by omega)] at r
    replace r := r.lushr 51 d4_50 rfl
    exact r.retL d4_51 ⟨by rw [show want (pick k p0 p1 p2) s x = _ from if_neg hx], rfl⟩ (by decide) (by decide)

theorem same (v : Int64) (s x : Nat) (hx : x < 64) (hs : s + x ≤ 64) : ((v.toUInt64 >>> ((Int32.ofNat s) &&& 0x3f).toInt64.toUInt64).toInt64) &&& mk x = want v s x := by
  by_cases h : x = 0
  · subst h; rw [show want v s 0 = 0 from if_pos rfl]; exact field_0 v s
  · rw [show want v s x = _ from if_neg h]; exact field_eq v s x hx (by omega) hs
theorem mask_n (y m : Int32) (k : Nat) (hk : k ≤ 31) (hm : m.toBitVec.toNat = 2 ^ k - 1) : ∃ x : Nat, x < 2 ^ k ∧ y &&& m = Int32.ofNat x := by
  have h := c_mask y m k hk hm
  have hp : (0 : Int) < ((2 ^ k : Nat) : Int) := by have : 0 < 2 ^ k := Nat.pow_pos (by decide); omega
  have h1 : 0 ≤ y.toInt % (2 ^ k : Nat) := Int.emod_nonneg _ (by omega)
  have h2 : y.toInt % (2 ^ k : Nat) < (2 ^ k : Nat) := Int.emod_lt_of_pos _ hp
  rw [← h] at h1 h2
  have hk2 : 2 ^ k ≤ 2 ^ 31 := Nat.pow_le_pow_right (by decide) hk
  refine ⟨(y &&& m).toInt.toNat, by omega, ?_⟩
  rw [← Int32.toInt_inj, Int32.toInt_ofNat_small (by omega)]; omega
def packed (off : Nat) (p0 p1 p2 q : Int64) : List Value := (((List.replicate 6 (Value.long q)).set off (.long p0)).set (off + 1) (.long p1)).set (off + 2) (.long p2)
theorem packed_at (off : Nat) (ho : off < 4) (p0 p1 p2 q : Int64) (k : Nat) (hk : k < 3) : (packed off p0 p1 p2 q)[off + k]? = some (.long (pick k p0 p1 p2)) := by
  match off, ho, k, hk with
  | 0, _, 0, _ => rfl
  | 0, _, 1, _ => rfl
  | 0, _, 2, _ => rfl
  | 1, _, 0, _ => rfl
  | 1, _, 1, _ => rfl
  | 1, _, 2, _ => rfl
  | 2, _, 0, _ => rfl
  | 2, _, 1, _ => rfl
  | 2, _, 2, _ => rfl
  | 3, _, 0, _ => rfl
  | 3, _, 1, _ => rfl
  | 3, _, 2, _ => rfl

set_option maxRecDepth 65536 in
set_option maxHeartbeats 40000000 in
theorem law_met {l : Launch} {Z : State} {a0 : Array Value} (hw : Ws Z a0) (y : Int32) (p0 p1 p2 q : Int64) (h0 : Heap) (n0 : Nat) (hn : n0 ≤ h0.size) : Met l Z Y0 code maxLocals ret room_1 [.int y, .long p0, .long p1, .long p2, .long q] h0 n0 (Ret fun v h => v = .int 1) := by
  refine Met.intro (Ls := [.val (.int y), .val (.long p0), .second, .val (.long p1), .second, .val (.long p2), .second, .val (.long q), .second, .unset, .unset, .unset, .unset, .unset, .unset, .unset, .unset, .unset, .unset, .unset, .unset, .unset, .unset]) pl_0 (fun m => by simp [entryFrame, mkF, argsToLocals, Value.category, maxLocals]) fun w r => ?_
  replace r := r.ild0 1 at_0 rfl
  replace r := r.bipushV 3 at_1 rfl (63 : Int32) bi_63
  replace r := r.iand 4 at_3 rfl
  obtain ⟨x0, q0, ex0⟩ := mask_n y 63 6 (by decide) (by decide)
  rw [ex0] at r
  replace r := r.ist9 6 at_4 rfl (One.of rfl)
  replace r := r.ild0 7 at_6 rfl
  replace r := r.bipushV 9 at_7 rfl (6 : Int32) bi_6
  replace r := r.iushr 10 at_9 rfl
  replace r := r.bipushV 12 at_10 rfl (63 : Int32) bi_63
  replace r := r.iand 13 at_12 rfl
  obtain ⟨x1, q1, ex1⟩ := mask_n ((y.toUInt32 >>> ((6 : Int32) &&& 31).toUInt32).toInt32) 63 6 (by decide) (by decide)
  rw [ex1] at r
  replace r := r.ist10 15 at_13 rfl (One.of rfl)
  replace r := r.ild0 16 at_15 rfl
  replace r := r.bipushV 18 at_16 rfl (12 : Int32) bi_12
  replace r := r.iushr 19 at_18 rfl
  replace r := r.bipushV 21 at_19 rfl (63 : Int32) bi_63
  replace r := r.iand 22 at_21 rfl
  obtain ⟨x2, q2, ex2⟩ := mask_n ((y.toUInt32 >>> ((12 : Int32) &&& 31).toUInt32).toInt32) 63 6 (by decide) (by decide)
  rw [ex2] at r
  replace r := r.ist11 24 at_22 rfl (One.of rfl)
  replace r := r.ild0 25 at_24 rfl
  replace r := r.bipushV 27 at_25 rfl (18 : Int32) bi_18
  replace r := r.iushr 28 at_27 rfl
  replace r := r.iconstV 29 at_28 rfl (3 : Int32) ic_3
  replace r := r.iand 30 at_29 rfl
  obtain ⟨off, ho, eo⟩ := mask_n ((y.toUInt32 >>> ((18 : Int32) &&& 31).toUInt32).toInt32) 3 2 (by decide) (by decide)
  rw [eo] at r
  have q0 : x0 < 64 := q0
  have q1 : x1 < 64 := q1
  have q2 : x2 < 64 := q2
  have ho : off < 4 := ho
  replace r := r.ist12 32 at_30 rfl (One.of rfl)
  obtain ⟨h1, a, z1, X1, E1, D1, r⟩ := r.newO 35 at_32 rfl (wd_0 hw) (wd_1 hw) (wd_2 hw) (by decide) (by decide)
  have ga : n0 ≤ a := by rw [z1]; exact hn
  replace r := r.dup 36 at_35 rfl rfl
  replace r := r.iconstV 37 at_36 rfl (3 : Int32) ic_3
  obtain ⟨h2, b, z2, X2, B, r⟩ := r.newA (vs := [.int 0, .int 0, .int 0]) 39 at_37 rfl (wd_3 hw) (by decide) rfl 3 (by decide) (by decide) (by decide) (by decide)
  have ab : b ≠ a := by rw [z2]; exact Ne.symm (Nat.ne_of_lt E1.lt)
  have gb : n0 ≤ b := by rw [z2]; exact Nat.le_trans ga (Nat.le_of_lt E1.lt)
  have F1 := (D1 (Or.inr (wd_11 hw)) (ty := (.array .int)) (by decide)).ext X2; have F2 := (D1 (Or.inr (wd_13 hw)) (ty := (.array .int)) (by decide)).ext X2; have F3 := (D1 (Or.inr (wd_16 hw)) (ty := (.array .long)) (by decide)).ext X2; have F4 := (D1 (Or.inr (wd_18 hw)) (ty := .int) (by decide)).ext X2; replace E1 := E1.ext X2
  replace r := r.dup 40 at_39 rfl rfl
  replace r := r.iconstV 41 at_40 rfl (0 : Int32) ic_0
  replace r := r.ild9 43 at_41 rfl
  obtain ⟨h3, W3, B, r⟩ := r.iast 44 at_43 rfl B (by decide) (Nat.le_of_ble_eq_true rfl) gb
  replace E1 := E1.wr W3; replace F1 := F1.other W3 (Or.inl (Ne.symm ab)); replace F2 := F2.other W3 (Or.inl (Ne.symm ab)); replace F3 := F3.other W3 (Or.inl (Ne.symm ab)); replace F4 := F4.other W3 (Or.inl (Ne.symm ab))
  replace r := r.dup 45 at_44 rfl rfl
  replace r := r.iconstV 46 at_45 rfl (1 : Int32) ic_1
  replace r := r.ild10 48 at_46 rfl
  obtain ⟨h4, W4, B, r⟩ := r.iast 49 at_48 rfl B (by decide) (Nat.le_of_ble_eq_true rfl) gb
  replace E1 := E1.wr W4; replace F1 := F1.other W4 (Or.inl (Ne.symm ab)); replace F2 := F2.other W4 (Or.inl (Ne.symm ab)); replace F3 := F3.other W4 (Or.inl (Ne.symm ab)); replace F4 := F4.other W4 (Or.inl (Ne.symm ab))
  replace r := r.dup 50 at_49 rfl rfl
  replace r := r.iconstV 51 at_50 rfl (2 : Int32) ic_2
  replace r := r.ild11 53 at_51 rfl
  obtain ⟨h5, W5, B, r⟩ := r.iast 54 at_53 rfl B (by decide) (Nat.le_of_ble_eq_true rfl) gb
  replace E1 := E1.wr W5; replace F1 := F1.other W5 (Or.inl (Ne.symm ab)); replace F2 := F2.other W5 (Or.inl (Ne.symm ab)); replace F3 := F3.other W5 (Or.inl (Ne.symm ab)); replace F4 := F4.other W5 (Or.inl (Ne.symm ab))
  change Ary Z h5 b .int (iv [x0, x1, x2]) at B
  obtain ⟨_, h6, ⟨rfl, wa, sa, ma, G⟩, r'⟩ := r.callI (as := [.ref b]) (rest := [.ref a]) 57 at_54 rfl (init_met hw a b x0 x1 x2 q0 q1 q2 _ n0 ga ab E1 F1 F2 F3 F4 B) rfl (wd_4 hw) (wd_5 hw) (wd_2 hw) (wd_6 hw) pd_1 rfl rfl rfl (by decide) (Nat.le_of_ble_eq_true rfl) (Nat.le_of_ble_eq_true rfl) (Nat.le_of_ble_eq_true rfl) (Nat.le_of_ble_eq_true rfl)
  clear r; have r := r'; clear r'
  change Go w l _ Z n0 _ _ _ _ _ _ [.ref a] _ _ _ at r
  replace r := r.ast13 59 at_57 rfl (One.of rfl)
  replace r := r.bipushV 61 at_59 rfl (6 : Int32) bi_6
  obtain ⟨h7, p, z7, X7, A, r⟩ := r.newA (vs := List.replicate 6 (.long 0)) 63 at_61 rfl (wd_14 hw) (by decide) rfl 6 (by decide) (by decide) (by decide) (by decide)
  have gp : n0 ≤ p := by rw [z7]; exact Nat.le_trans ga (Nat.le_of_lt G.1.lt)
  have da : a ≠ p := by rw [z7]; exact Nat.ne_of_lt G.1.lt
  have dw : wa ≠ p := by rw [z7]; exact Nat.ne_of_lt G.2.2.2.2.1.lt
  have ds : sa ≠ p := by rw [z7]; exact Nat.ne_of_lt G.2.2.2.2.2.1.lt
  have dm : ma ≠ p := by rw [z7]; exact Nat.ne_of_lt G.2.2.2.2.2.2.lt
  obtain ⟨E, F1, F2, F3, A1, A2, A3⟩ := G
  replace E := E.ext X7; replace F1 := F1.ext X7; replace F2 := F2.ext X7; replace F3 := F3.ext X7; replace A1 := A1.ext X7; replace A2 := A2.ext X7; replace A3 := A3.ext X7
  replace r := r.dup 64 at_63 rfl rfl
  replace r := r.iconstV 65 at_64 rfl (0 : Int32) ic_0
  replace r := r.lld7 67 at_65 rfl
  obtain ⟨h8, W8, A, r⟩ := r.last 68 at_67 rfl A (by decide) (Nat.le_of_ble_eq_true rfl) gp
  replace E := E.wr W8; replace F1 := F1.other W8 (Or.inl da); replace F2 := F2.other W8 (Or.inl da); replace F3 := F3.other W8 (Or.inl da); replace A1 := A1.other W8 dw; replace A2 := A2.other W8 ds; replace A3 := A3.other W8 dm
  replace r := r.dup 69 at_68 rfl rfl
  replace r := r.iconstV 70 at_69 rfl (1 : Int32) ic_1
  replace r := r.lld7 72 at_70 rfl
  obtain ⟨h9, W9, A, r⟩ := r.last 73 at_72 rfl A (by decide) (Nat.le_of_ble_eq_true rfl) gp
  replace E := E.wr W9; replace F1 := F1.other W9 (Or.inl da); replace F2 := F2.other W9 (Or.inl da); replace F3 := F3.other W9 (Or.inl da); replace A1 := A1.other W9 dw; replace A2 := A2.other W9 ds; replace A3 := A3.other W9 dm
  replace r := r.dup 74 at_73 rfl rfl
  replace r := r.iconstV 75 at_74 rfl (2 : Int32) ic_2
  replace r := r.lld7 77 at_75 rfl
  obtain ⟨h10, W10, A, r⟩ := r.last 78 at_77 rfl A (by decide) (Nat.le_of_ble_eq_true rfl) gp
  replace E := E.wr W10; replace F1 := F1.other W10 (Or.inl da); replace F2 := F2.other W10 (Or.inl da); replace F3 := F3.other W10 (Or.inl da); replace A1 := A1.other W10 dw; replace A2 := A2.other W10 ds; replace A3 := A3.other W10 dm
  replace r := r.dup 79 at_78 rfl rfl
  replace r := r.iconstV 80 at_79 rfl (3 : Int32) ic_3
  replace r := r.lld7 82 at_80 rfl
  obtain ⟨h11, W11, A, r⟩ := r.last 83 at_82 rfl A (by decide) (Nat.le_of_ble_eq_true rfl) gp
  replace E := E.wr W11; replace F1 := F1.other W11 (Or.inl da); replace F2 := F2.other W11 (Or.inl da); replace F3 := F3.other W11 (Or.inl da); replace A1 := A1.other W11 dw; replace A2 := A2.other W11 ds; replace A3 := A3.other W11 dm
  replace r := r.dup 84 at_83 rfl rfl
  replace r := r.iconstV 85 at_84 rfl (4 : Int32) ic_4
  replace r := r.lld7 87 at_85 rfl
  obtain ⟨h12, W12, A, r⟩ := r.last 88 at_87 rfl A (by decide) (Nat.le_of_ble_eq_true rfl) gp
  replace E := E.wr W12; replace F1 := F1.other W12 (Or.inl da); replace F2 := F2.other W12 (Or.inl da); replace F3 := F3.other W12 (Or.inl da); replace A1 := A1.other W12 dw; replace A2 := A2.other W12 ds; replace A3 := A3.other W12 dm
  replace r := r.dup 89 at_88 rfl rfl
  replace r := r.iconstV 90 at_89 rfl (5 : Int32) ic_5
  replace r := r.lld7 92 at_90 rfl
  obtain ⟨h13, W13, A, r⟩ := r.last 93 at_92 rfl A (by decide) (Nat.le_of_ble_eq_true rfl) gp
  replace E := E.wr W13; replace F1 := F1.other W13 (Or.inl da); replace F2 := F2.other W13 (Or.inl da); replace F3 := F3.other W13 (Or.inl da); replace A1 := A1.other W13 dw; replace A2 := A2.other W13 ds; replace A3 := A3.other W13 dm
  change Ary Z h13 p .long (List.replicate 6 (.long q)) at A
  have k0 : (Int32.ofNat off).toNatClampNeg = off := len_nat (by omega)
  have k1 : (Int32.ofNat (off + 1)).toNatClampNeg = off + 1 := len_nat (by omega)
  have k2 : (Int32.ofNat (off + 2)).toNatClampNeg = off + 2 := len_nat (by omega)
  replace r := r.ast14 95 at_93 rfl (One.of rfl)
  replace r := r.ald14 97 at_95 rfl
  replace r := r.ild12 99 at_97 rfl
  replace r := r.lld1 100 at_99 rfl
  obtain ⟨h14, W14, A, r⟩ := r.last 101 at_100 rfl A (len_nn (by omega)) (by rw [k0, List.length_replicate]; omega) gp
  replace E := E.wr W14; replace F1 := F1.other W14 (Or.inl da); replace F2 := F2.other W14 (Or.inl da); replace F3 := F3.other W14 (Or.inl da); replace A1 := A1.other W14 dw; replace A2 := A2.other W14 ds; replace A3 := A3.other W14 dm
  rw [k0] at A
  replace r := r.ald14 103 at_101 rfl
  replace r := r.ild12 105 at_103 rfl
  replace r := r.iconstV 106 at_105 rfl (1 : Int32) ic_1
  replace r := r.iadd 107 at_106 rfl
  rw [nadd1] at r
  replace r := r.lld3 108 at_107 rfl
  obtain ⟨h15, W15, A, r⟩ := r.last 109 at_108 rfl A (len_nn (by omega)) (by rw [k1, List.length_set, List.length_replicate]; omega) gp
  replace E := E.wr W15; replace F1 := F1.other W15 (Or.inl da); replace F2 := F2.other W15 (Or.inl da); replace F3 := F3.other W15 (Or.inl da); replace A1 := A1.other W15 dw; replace A2 := A2.other W15 ds; replace A3 := A3.other W15 dm
  rw [k1] at A
  replace r := r.ald14 111 at_109 rfl
  replace r := r.ild12 113 at_111 rfl
  replace r := r.iconstV 114 at_113 rfl (2 : Int32) ic_2
  replace r := r.iadd 115 at_114 rfl
  rw [show Int32.ofNat off + (2 : Int32) = Int32.ofNat (off + 2) from nadd _ _] at r
  replace r := r.lld5 117 at_115 rfl
  obtain ⟨h16, W16, A, r⟩ := r.last 118 at_117 rfl A (len_nn (by omega)) (by rw [k2, List.length_set, List.length_set, List.length_replicate]; omega) gp
  replace E := E.wr W16; replace F1 := F1.other W16 (Or.inl da); replace F2 := F2.other W16 (Or.inl da); replace F3 := F3.other W16 (Or.inl da); replace A1 := A1.other W16 dw; replace A2 := A2.other W16 ds; replace A3 := A3.other W16 dm
  rw [k2] at A
  change Ary Z h16 p .long (packed off p0 p1 p2 q) at A
  have G : BF Z h16 a wa sa ma _ _ _ := ⟨E, F1, F2, F3, A1, A2, A3⟩
  replace r := r.ild9 120 at_118 rfl
  replace r := r.ild10 122 at_120 rfl
  replace r := r.iadd 123 at_122 rfl
  rw [nadd] at r
  replace r := r.bipushV 125 at_123 rfl (64 : Int32) bi_64
  replace r : Go w l room_1 Z n0 Y0 code maxLocals ret 155 [.val (.int y), .val (.long p0), .second, .val (.long p1), .second, .val (.long p2), .second, .val (.long q), .second, .val (.int (Int32.ofNat x0)), .val (.int (Int32.ofNat x1)), .val (.int (Int32.ofNat x2)), .val (.int (Int32.ofNat off)), .val (.ref a), .val (.ref p), .val (.int (Int32.ofNat (cN 0 x0 x1))), .val (.int (Int32.ofNat (sN x0 x1))), .val (.int (Int32.ofNat (sN x0 x1 + x1))), .unset, .unset, .unset, .unset, .unset] [] h16 6 22 := by
    rcases r.ic_le 141 128 at_125 (by decide) rfl with ⟨hc, r⟩ | ⟨hc, r⟩
    · rw [show (64 : Int32) = Int32.ofNat 64 from rfl, nlt (by decide) (by omega)] at hc
      replace r := r.iconstV 142 at_141 rfl (0 : Int32) ic_0
      replace r := r.ist15 144 at_142 rfl (One.of rfl)
      replace r := r.ild9 146 at_144 rfl
      replace r := r.ist16 148 at_146 rfl (One.of rfl)
      replace r := r.ild9 150 at_148 rfl
      replace r := r.ild10 152 at_150 rfl
      replace r := r.iadd 153 at_152 rfl
      rw [nadd] at r
      replace r := r.ist17 155 at_153 rfl (One.of rfl)
      rw [show cN 0 x0 x1 = 0 from if_neg hc, show sN x0 x1 = x0 from if_neg hc]; exact r
    · rw [show (64 : Int32) = Int32.ofNat 64 from rfl, nlt (by decide) (by omega)] at hc
      replace r := r.iconstV 129 at_128 rfl (1 : Int32) ic_1
      replace r := r.ist15 131 at_129 rfl (One.of rfl)
      replace r := r.iconstV 132 at_131 rfl (0 : Int32) ic_0
      replace r := r.ist16 134 at_132 rfl (One.of rfl)
      replace r := r.ild10 136 at_134 rfl
      replace r := r.ist17 138 at_136 rfl (One.of rfl)
      replace r := r.goto 155 at_138 (by decide)
      rw [show cN 0 x0 x1 = 0 + 1 from if_pos hc, show sN x0 x1 = 0 from if_pos hc, Nat.zero_add, Nat.zero_add]; exact r
  have bs1 : sN x0 x1 + x1 ≤ 64 := by unfold sN; split <;> omega
  have bc1 : cN 0 x0 x1 ≤ 1 := by unfold cN; split <;> omega
  have bs2 : sN (sN x0 x1 + x1) x2 + x2 ≤ 64 := by
    generalize sN x0 x1 + x1 = u at bs1
    unfold sN; split <;> omega
  have bc2 : cN (cN 0 x0 x1) (sN x0 x1 + x1) x2 ≤ 2 := by
    generalize sN x0 x1 + x1 = u at bs1
    generalize cN 0 x0 x1 = v at bc1
    unfold cN; split <;> omega
  replace r := r.ild17 157 at_155 rfl
  replace r := r.ild11 159 at_157 rfl
  replace r := r.iadd 160 at_159 rfl
  rw [nadd] at r
  replace r := r.bipushV 162 at_160 rfl (64 : Int32) bi_64
  replace r : Go w l room_1 Z n0 Y0 code maxLocals ret 185 [.val (.int y), .val (.long p0), .second, .val (.long p1), .second, .val (.long p2), .second, .val (.long q), .second, .val (.int (Int32.ofNat x0)), .val (.int (Int32.ofNat x1)), .val (.int (Int32.ofNat x2)), .val (.int (Int32.ofNat off)), .val (.ref a), .val (.ref p), .val (.int (Int32.ofNat (cN 0 x0 x1))), .val (.int (Int32.ofNat (sN x0 x1))), .val (.int (Int32.ofNat (sN x0 x1 + x1))), .val (.int (Int32.ofNat (cN (cN 0 x0 x1) (sN x0 x1 + x1) x2))), .val (.int (Int32.ofNat (sN (sN x0 x1 + x1) x2))), .unset, .unset, .unset] [] h16 6 22 := by
    rcases r.ic_le 177 165 at_162 (by decide) rfl with ⟨hc, r⟩ | ⟨hc, r⟩
    · rw [show (64 : Int32) = Int32.ofNat 64 from rfl, nlt (by decide) (by omega)] at hc
      replace r := r.ild15 179 at_177 rfl
      replace r := r.ist18 181 at_179 rfl (One.of rfl)
      replace r := r.ild17 183 at_181 rfl
      replace r := r.ist19 185 at_183 rfl (One.of rfl)
      rw [show cN (cN 0 x0 x1) (sN x0 x1 + x1) x2 = cN 0 x0 x1 from if_neg hc, show sN (sN x0 x1 + x1) x2 = sN x0 x1 + x1 from if_neg hc]; exact r
    · rw [show (64 : Int32) = Int32.ofNat 64 from rfl, nlt (by decide) (by omega)] at hc
      replace r := r.ild15 167 at_165 rfl
      replace r := r.iconstV 168 at_167 rfl (1 : Int32) ic_1
      replace r := r.iadd 169 at_168 rfl
      rw [nadd1] at r
      replace r := r.ist18 171 at_169 rfl (One.of rfl)
      replace r := r.iconstV 172 at_171 rfl (0 : Int32) ic_0
      replace r := r.ist19 174 at_172 rfl (One.of rfl)
      replace r := r.goto 185 at_174 (by decide)
      rw [show cN (cN 0 x0 x1) (sN x0 x1 + x1) x2 = cN 0 x0 x1 + 1 from if_pos hc, show sN (sN x0 x1 + x1) x2 = 0 from if_pos hc]; exact r
  replace r := r.ald13 187 at_185 rfl
  replace r := r.ald14 189 at_187 rfl
  replace r := r.ild12 191 at_189 rfl
  replace r := r.iconstV 192 at_191 rfl (0 : Int32) ic_0
  obtain ⟨_, _, ⟨_, rfl, rfl, rfl⟩, r'⟩ := r.callV (as := [.ref p, .int (Int32.ofNat off), .int (Int32.ofNat 0)]) (rest := []) 195 at_192 rfl (get_met hw a p wa sa ma _ _ _ _ off 0 0 0 (mk x0) (pick 0 p0 p1 p2) _ n0 G A (by omega) (by decide) rfl rfl rfl (packed_at off ho p0 p1 p2 q 0 (by omega))) G.1 (wd_19 hw) (wd_20 hw) (wd_21 hw) (wd_22 hw) (wd_2 hw) (wd_23 hw) pd_3 rfl rfl rfl (by decide) (Nat.le_of_ble_eq_true rfl) (Nat.le_of_ble_eq_true rfl) (Nat.le_of_ble_eq_true rfl) (Nat.le_of_ble_eq_true rfl)
  clear r; have r := r'; clear r'
  rw [same _ 0 x0 (by omega) (by omega)] at r
  change Go w l _ Z n0 _ _ _ _ _ _ [.long _] _ _ _ at r
  replace r := r.lld1 196 at_195 rfl
  replace r := r.lld3 197 at_196 rfl
  replace r := r.lld5 199 at_197 rfl
  replace r := r.iconstV 200 at_199 rfl (0 : Int32) ic_0
  replace r := r.iconstV 201 at_200 rfl (0 : Int32) ic_0
  replace r := r.ild9 203 at_201 rfl
  obtain ⟨_, _, ⟨_, rfl, rfl, rfl⟩, r'⟩ := r.callS (rest := [.long (want (pick 0 p0 p1 p2) 0 x0)]) 206 at_203 rfl (exp_met hw p0 p1 p2 0 0 x0 (by omega) (by omega) _ n0) (wd_24 hw) (wd_25 hw) (wd_26 hw) (wd_27 hw) pd_4 rfl rfl rfl (by decide) (Nat.le_of_ble_eq_true rfl) (Nat.le_of_ble_eq_true rfl) (Nat.le_of_ble_eq_true rfl) (Nat.le_of_ble_eq_true rfl)
  clear r; have r := r'; clear r'
  change Go w l _ Z n0 _ _ _ _ _ _ [.long _, .long _] _ _ _ at r
  replace r := r.lcmp 207 at_206 rfl
  replace r := r.if_neF 210 at_207 rfl ((lw_eq _ _).mpr rfl)
  replace r := r.iconstV 211 at_210 rfl (1 : Int32) ic_1
  replace r := r.goto 215 at_211 (by decide)
  replace r := r.ist20 217 at_215 rfl (One.of rfl)
  replace r := r.ald13 219 at_217 rfl
  replace r := r.ald14 221 at_219 rfl
  replace r := r.ild12 223 at_221 rfl
  replace r := r.iconstV 224 at_223 rfl (1 : Int32) ic_1
  obtain ⟨_, _, ⟨_, rfl, rfl, rfl⟩, r'⟩ := r.callV (as := [.ref p, .int (Int32.ofNat off), .int (Int32.ofNat 1)]) (rest := []) 227 at_224 rfl (get_met hw a p wa sa ma _ _ _ _ off 1 (cN 0 x0 x1) (sN x0 x1) (mk x1) (pick (cN 0 x0 x1) p0 p1 p2) _ n0 G A (by omega) (by decide) rfl rfl rfl (packed_at off ho p0 p1 p2 q (cN 0 x0 x1) (by omega))) G.1 (wd_19 hw) (wd_20 hw) (wd_21 hw) (wd_22 hw) (wd_2 hw) (wd_23 hw) pd_3 rfl rfl rfl (by decide) (Nat.le_of_ble_eq_true rfl) (Nat.le_of_ble_eq_true rfl) (Nat.le_of_ble_eq_true rfl) (Nat.le_of_ble_eq_true rfl)
  clear r; have r := r'; clear r'
  rw [same _ (sN x0 x1) x1 (by omega) (by omega)] at r
  change Go w l _ Z n0 _ _ _ _ _ _ [.long _] _ _ _ at r
  replace r := r.lld1 228 at_227 rfl
  replace r := r.lld3 229 at_228 rfl
  replace r := r.lld5 231 at_229 rfl
  replace r := r.ild15 233 at_231 rfl
  replace r := r.ild16 235 at_233 rfl
  replace r := r.ild10 237 at_235 rfl
  obtain ⟨_, _, ⟨_, rfl, rfl, rfl⟩, r'⟩ := r.callS (rest := [.long (want (pick (cN 0 x0 x1) p0 p1 p2) (sN x0 x1) x1)]) 240 at_237 rfl (exp_met hw p0 p1 p2 (cN 0 x0 x1) (sN x0 x1) x1 (by omega) (by omega) _ n0) (wd_24 hw) (wd_25 hw) (wd_26 hw) (wd_27 hw) pd_4 rfl rfl rfl (by decide) (Nat.le_of_ble_eq_true rfl) (Nat.le_of_ble_eq_true rfl) (Nat.le_of_ble_eq_true rfl) (Nat.le_of_ble_eq_true rfl)
  clear r; have r := r'; clear r'
  change Go w l _ Z n0 _ _ _ _ _ _ [.long _, .long _] _ _ _ at r
  replace r := r.lcmp 241 at_240 rfl
  replace r := r.if_neF 244 at_241 rfl ((lw_eq _ _).mpr rfl)
  replace r := r.iconstV 245 at_244 rfl (1 : Int32) ic_1
  replace r := r.goto 249 at_245 (by decide)
  replace r := r.ist21 251 at_249 rfl (One.of rfl)
  replace r := r.ald13 253 at_251 rfl
  replace r := r.ald14 255 at_253 rfl
  replace r := r.ild12 257 at_255 rfl
  replace r := r.iconstV 258 at_257 rfl (2 : Int32) ic_2
  obtain ⟨_, _, ⟨_, rfl, rfl, rfl⟩, r'⟩ := r.callV (as := [.ref p, .int (Int32.ofNat off), .int (Int32.ofNat 2)]) (rest := []) 261 at_258 rfl (get_met hw a p wa sa ma _ _ _ _ off 2 (cN (cN 0 x0 x1) (sN x0 x1 + x1) x2) (sN (sN x0 x1 + x1) x2) (mk x2) (pick (cN (cN 0 x0 x1) (sN x0 x1 + x1) x2) p0 p1 p2) _ n0 G A (by omega) (by decide) rfl rfl rfl (packed_at off ho p0 p1 p2 q (cN (cN 0 x0 x1) (sN x0 x1 + x1) x2) (by omega))) G.1 (wd_19 hw) (wd_20 hw) (wd_21 hw) (wd_22 hw) (wd_2 hw) (wd_23 hw) pd_3 rfl rfl rfl (by decide) (Nat.le_of_ble_eq_true rfl) (Nat.le_of_ble_eq_true rfl) (Nat.le_of_ble_eq_true rfl) (Nat.le_of_ble_eq_true rfl)
  clear r; have r := r'; clear r'
  rw [same _ (sN (sN x0 x1 + x1) x2) x2 (by omega) (by omega)] at r
  change Go w l _ Z n0 _ _ _ _ _ _ [.long _] _ _ _ at r
  replace r := r.lld1 262 at_261 rfl
  replace r := r.lld3 263 at_262 rfl
  replace r := r.lld5 265 at_263 rfl
  replace r := r.ild18 267 at_265 rfl
  replace r := r.ild19 269 at_267 rfl
  replace r := r.ild11 271 at_269 rfl
  obtain ⟨_, _, ⟨_, rfl, rfl, rfl⟩, r'⟩ := r.callS (rest := [.long (want (pick (cN (cN 0 x0 x1) (sN x0 x1 + x1) x2) p0 p1 p2) (sN (sN x0 x1 + x1) x2) x2)]) 274 at_271 rfl (exp_met hw p0 p1 p2 (cN (cN 0 x0 x1) (sN x0 x1 + x1) x2) (sN (sN x0 x1 + x1) x2) x2 (by omega) (by omega) _ n0) (wd_24 hw) (wd_25 hw) (wd_26 hw) (wd_27 hw) pd_4 rfl rfl rfl (by decide) (Nat.le_of_ble_eq_true rfl) (Nat.le_of_ble_eq_true rfl) (Nat.le_of_ble_eq_true rfl) (Nat.le_of_ble_eq_true rfl)
  clear r; have r := r'; clear r'
  change Go w l _ Z n0 _ _ _ _ _ _ [.long _, .long _] _ _ _ at r
  replace r := r.lcmp 275 at_274 rfl
  replace r := r.if_neF 278 at_275 rfl ((lw_eq _ _).mpr rfl)
  replace r := r.iconstV 279 at_278 rfl (1 : Int32) ic_1
  replace r := r.goto 283 at_279 (by decide)
  replace r := r.ist22 285 at_283 rfl (One.of rfl)
  replace r := r.ild20 287 at_285 rfl
  replace r := r.if_eqF 290 at_287 rfl (by decide)
  replace r := r.ild21 292 at_290 rfl
  replace r := r.if_eqF 295 at_292 rfl (by decide)
  replace r := r.ild22 297 at_295 rfl
  replace r := r.if_eqF 300 at_297 rfl (by decide)
  replace r := r.iconstV 301 at_300 rfl (1 : Int32) ic_1
  replace r := r.goto 305 at_301 (by decide)
  exact r.retN at_305 (Or.inl rfl) (z' := 1) rfl (by rfl) (by decide) (by decide)
set_option maxRecDepth 65536 in
set_option maxHeartbeats 40000000 in
theorem comes_1 {Post : Tables → Env → Array Value → State → Outcome → State → Prop} (hpost : ∀ tb e args s v u, (limb_1_1.after args s (.returned v) u = true ∧ limb_1_2.after args s (.returned v) u = true ∧ True) → FrameEnd s (.returned v) u (Jvm.fieldLocs frame_1_writes args s ++ Jvm.arrayLocs frame_1_arrays args s ++ Jvm.staticLocs frame_1_statics s) 24 128 → Post tb e args s (.returned v) u) :
    ArmFor flags0 classFile x code maxLocals ret World_1 tables_1 room_1 Calls_1 rest_1 Pre_1 Post := by
  intro l hfl _ _ p e ha hc hk s m args below hf hA hF happ hP
  obtain ⟨hcalls, hrest, hpre⟩ := hP
  obtain ⟨-, -, -, hnamed, -, -, -, hat⟩ := (Spec.applies_iff hf).mp happ
  obtain ⟨hg, hn⟩ := and_e (Cond.before_iff.mp (show (Jvm.Cond.and given_1 narrow_1).before args s = true from hpre))
  obtain ⟨g1, g2⟩ := and_e hg
  obtain ⟨g3, g4⟩ := and_e g2
  obtain ⟨g5, g6⟩ := and_e g4
  obtain ⟨g7, g8⟩ := and_e g6
  obtain ⟨g9, g10⟩ := and_e g8
  obtain ⟨w0, w1, w2, w3, w4, rfl⟩ : ∃ w0 w1 w2 w3 w4 : Value, args = #[w0, w1, w2, w3, w4] := by
    have hs : args.size = 5 := by simpa [Cond.value, given_1] using g1
    obtain ⟨L⟩ := args
    match L, hs with
    | [w0, w1, w2, w3, w4], _ => exact ⟨w0, w1, w2, w3, w4, rfl⟩
  have hw : Ws s _ := fun d (hd : d ∈ tables_1) => atoms_spec (ws := Jvm.Cond.code x code maxLocals ret :: tables_1) hat d (List.mem_cons_of_mem _ hd)
  obtain ⟨i0, ei0⟩ := is_v g3
  obtain rfl : w0 = (.int i0) := Option.some.inj ei0
  obtain ⟨i1, ei1⟩ := isL_v g5
  obtain rfl : w1 = (.long i1) := Option.some.inj ei1
  obtain ⟨i2, ei2⟩ := isL_v g7
  obtain rfl : w2 = (.long i2) := Option.some.inj ei2
  obtain ⟨i3, ei3⟩ := isL_v g9
  obtain rfl : w3 = (.long i3) := Option.some.inj ei3
  obtain ⟨i4, ei4⟩ := isL_v g10
  obtain rfl : w4 = (.long i4) := Option.some.inj ei4
  obtain ⟨n, o, h1, h2, h3, _, L, rfl, ⟨⟨_, rfl, rfl⟩, N⟩, hq⟩ := law_met (l := l) hw i0 i1 i2 i3 i4 s.heap s.heap.size (Nat.le_refl _) tables_1 p e ha hc hk s m _ below hf ((Spec.applies_iff_loose hf).mp happ).1 ⟨rfl, State.Warmed39.refl s, rfl⟩ trivial
  refine ⟨n, _, h1, h2, h3, hpost _ _ _ _ _ _ ⟨Cond.after_iff.mpr rfl, Cond.after_iff.mpr (eq_i res_at (Term.int_eval (1)) rfl), trivial⟩ ⟨hq.1, hq.2.1, (hq.2.2.sift fun y hy => Or.inr (N y hy)).mono (by decide) (by decide)⟩⟩
theorem main_1_1 : Claimed_1_1 := comes_1 fun _ _ _ _ _ _ h hF => ⟨h.1, hF⟩
theorem main_1_2 : Claimed_1_2 := comes_1 fun _ _ _ _ _ _ h hF => ⟨h.2.1, hF⟩
end Jvm.Pilot.@@N@@
namespace Jvm.Pilot.@@N@@
open Jvm Jvm.ClassFile Sem Op Lib Jvm.Free Jvm.Stand Jvm.Pilot.@@N@@.Jvm.D
/-! MADE BY PROGRAM (witnessworld.py) out of the Statement's table words and the real class files: 11 classes; the members and pool entries that the words name. The judged class is class 1, her method 1. -/
namespace start1
open Jvm.ClassFile
def u (s : String) : CpInfo := .utf8 (stringToUtf16 s)
/-- a pool by its gaps: so many unusable entries, then the entry; so many at the end -/
def gap : Nat → List CpInfo → List CpInfo
  | 0, r => r
  | n + 1, r => .unusable :: gap n r
def poolList (es : List (Nat × CpInfo)) (last : Nat) : List CpInfo := es.foldr (fun e r => gap e.1 (e.2 :: r)) (gap last [])
def pool (es : List (Nat × CpInfo)) (last : Nat) : Array CpInfo := ⟨poolList es last⟩
def fileOf (pool : Array CpInfo) (this : Nat) (attrs : Array Attribute := #[]) (ms : Array MethodInfo := #[]) (fl : Nat := 33) (sup : Nat := 0) (ifs : Array Nat := #[]) (fds : Array FieldInfo := #[]) : ClassFile where
  minorVersion := 0
  majorVersion := 65
  constantPool := pool
  accessFlags := fl
  thisClass := this
  superClass := sup
  interfaces := ifs
  fields := fds
  methods := ms
  attributes := attrs
def plain (name : String) (sup : Option ClassId) : Class where
  name := name
  kind := .ordinary
  loader := none
  accessFlags := 33
  super := sup
  interfaces := #[]
  cf := none
  fields := #[]
  methods := #[]
  instanceTypes := #[]
  staticTypes := #[]
  resolved := #[]
  callSites := []
  init := .initialized
  statics := none
  mirror := none

def pool0 : Array CpInfo := pool [(5, u "<init>"), (0, u "()V"), (1, .class_ 10), (1, u "java/lang/Object")] 113

def k0c0 : Code := { maxStack := 0, maxLocals := 1, code := object_method_1_code, exceptionTable := #[], attributes := #[] }
def k0m0 : Method := { name := "<init>", desc := "()V", sig := { parameters := [], returnType := none }, accessFlags := 1, code := some k0c0 }
/-- java/lang/Object -/
def k0 : Class := { plain "java/lang/Object" none with
  accessFlags := 33
  interfaces := #[]
  cf := some (fileOf pool0 8 #[] #[{ accessFlags := 1, nameIndex := 5, descriptorIndex := 6, attributes := #[] }] 33 0 #[] #[])
  fields := #[]
  methods := #[k0m0]
  instanceTypes := #[]
  staticTypes := #[]
  resolved := Array.replicate 124 none
  statics := none }

def pool1 : Array CpInfo := pool [(2, .class_ 4), (1, u "java/lang/Object"), (0, u "<init>"), (0, u "()V"), (0, .class_ 8), (0, u "com/example/slott/slott/engine/bits/BitFields"), (0, .methodref 7 10), (0, .nameAndType 5 11), (0, u "([I)V"), (0, .methodref 7 13), (0, .nameAndType 14 15), (0, u "get"), (0, u "([JII)J"), (0, .methodref 17 18), (0, .class_ 19), (0, .nameAndType 20 21), (0, u "com/example/slott/slott/engine/bits/BitFieldsGetPinLaw"), (0, u "expect"), (0, u "(JJJIII)J"), (2, u "law"), (0, u "(IJJJJ)Z")] 5

def k1m0 : Method := { name := "<init>", desc := "()V", sig := { parameters := [], returnType := none }, accessFlags := 1, code := none }
def k1c1 : Code := { maxStack := 11, maxLocals := 23, code := code, exceptionTable := #[], attributes := #[] }
def k1m1 : Method := { name := "law", desc := "(IJJJJ)Z", sig := { parameters := [.int, .long, .long, .long, .long], returnType := some .boolean }, accessFlags := 9, code := some k1c1 }
def k1c2 : Code := { maxStack := 4, maxLocals := 11, code := method_3_code, exceptionTable := #[], attributes := #[] }
def k1m2 : Method := { name := "expect", desc := "(JJJIII)J", sig := { parameters := [.long, .long, .long, .int, .int, .int], returnType := some .long }, accessFlags := 10, code := some k1c2 }
/-- com/example/slott/slott/engine/bits/BitFieldsGetPinLaw -/
def k1 : Class := { plain "com/example/slott/slott/engine/bits/BitFieldsGetPinLaw" (some 0) with
  accessFlags := 49
  interfaces := #[]
  cf := some (fileOf pool1 17 #[] #[{ accessFlags := 1, nameIndex := 5, descriptorIndex := 6, attributes := #[] }, { accessFlags := 9, nameIndex := 24, descriptorIndex := 25, attributes := #[] }, { accessFlags := 10, nameIndex := 20, descriptorIndex := 21, attributes := #[] }] 49 2 #[] #[])
  fields := #[]
  methods := #[k1m0, k1m1, k1m2]
  instanceTypes := #[]
  staticTypes := #[]
  resolved := Array.replicate 31 none
  statics := none }

def pool2 : Array CpInfo := pool [(1, .methodref 2 3), (0, .class_ 4), (0, .nameAndType 5 6), (0, u "java/lang/Object"), (0, u "<init>"), (0, u "()V"), (0, .fieldref 8 9), (0, .class_ 10), (0, .nameAndType 11 12), (0, u "com/example/slott/slott/engine/bits/BitFields"), (0, u "word"), (0, u "[I"), (0, .fieldref 8 14), (0, .nameAndType 15 12), (0, u "shift"), (0, .fieldref 8 17), (0, .nameAndType 18 19), (0, u "mask"), (0, u "[J"), (2, .fieldref 8 23), (0, .nameAndType 24 25), (0, u "words"), (0, u "I"), (0, u "([I)V"), (6, u "get"), (0, u "([JII)J")] 4

def k2c0 : Code := { maxStack := 6, maxLocals := 5, code := prog_27_method_1_code, exceptionTable := #[], attributes := #[] }
def k2m0 : Method := { name := "<init>", desc := "([I)V", sig := { parameters := [(.array .int)], returnType := none }, accessFlags := 1, code := some k2c0 }
def k2c1 : Code := { maxStack := 4, maxLocals := 4, code := prog_27_method_5_code, exceptionTable := #[], attributes := #[] }
def k2m1 : Method := { name := "get", desc := "([JII)J", sig := { parameters := [(.array .long), .int, .int], returnType := some .long }, accessFlags := 1, code := some k2c1 }
/-- com/example/slott/slott/engine/bits/BitFields -/
def k2 : Class := { plain "com/example/slott/slott/engine/bits/BitFields" (some 0) with
  accessFlags := 49
  interfaces := #[]
  cf := some (fileOf pool2 8 #[] #[{ accessFlags := 1, nameIndex := 5, descriptorIndex := 26, attributes := #[] }, { accessFlags := 1, nameIndex := 33, descriptorIndex := 34, attributes := #[] }] 49 2 #[] #[{ accessFlags := 18, nameIndex := 11, descriptorIndex := 12, attributes := #[] }, { accessFlags := 18, nameIndex := 15, descriptorIndex := 12, attributes := #[] }, { accessFlags := 18, nameIndex := 18, descriptorIndex := 19, attributes := #[] }, { accessFlags := 18, nameIndex := 24, descriptorIndex := 25, attributes := #[] }])
  fields := #[{ name := "word", type := (.array .int), accessFlags := 18, slot := 0, constantValue := 0 }, { name := "shift", type := (.array .int), accessFlags := 18, slot := 1, constantValue := 0 }, { name := "mask", type := (.array .long), accessFlags := 18, slot := 2, constantValue := 0 }, { name := "words", type := .int, accessFlags := 18, slot := 3, constantValue := 0 }]
  methods := #[k2m0, k2m1]
  instanceTypes := #[(.array .int), (.array .int), (.array .long), .int]
  staticTypes := #[]
  resolved := Array.replicate 39 none
  statics := none }

def pool3 : Array CpInfo := pool [(1, u "java/lang/Cloneable"), (0, .class_ 1), (0, u "java/lang/Object"), (0, .class_ 3)] 3

/-- java/lang/Cloneable -/
def k3 : Class := { plain "java/lang/Cloneable" (some 0) with
  accessFlags := 1537
  interfaces := #[]
  cf := some (fileOf pool3 2 #[] #[] 1537 4 #[] #[])
  fields := #[]
  methods := #[]
  instanceTypes := #[]
  staticTypes := #[]
  resolved := Array.replicate 8 none
  statics := none }

def pool4 : Array CpInfo := pool [(1, u "java/io/Serializable"), (0, .class_ 1), (0, u "java/lang/Object"), (0, .class_ 3)] 3

/-- java/io/Serializable -/
def k4 : Class := { plain "java/io/Serializable" (some 0) with
  accessFlags := 1537
  interfaces := #[]
  cf := some (fileOf pool4 2 #[] #[] 1537 4 #[] #[])
  fields := #[]
  methods := #[]
  instanceTypes := #[]
  staticTypes := #[]
  resolved := Array.replicate 8 none
  statics := none }

/-- the primitive byte -/
def k5 : Class := { plain "byte" none with kind := .primitive 'B', accessFlags := 0x411 }
/-- [B -/
def k6 : Class := { plain "[B" (some 0) with kind := .array 5 .byte, interfaces := #[3, 4], accessFlags := 1041 }

/-- the primitive int -/
def k7 : Class := { plain "int" none with kind := .primitive 'I', accessFlags := 0x411 }
/-- [I -/
def k8 : Class := { plain "[I" (some 0) with kind := .array 7 .int, interfaces := #[3, 4], accessFlags := 1041 }

/-- the primitive long -/
def k9 : Class := { plain "long" none with kind := .primitive 'J', accessFlags := 0x411 }
/-- [J -/
def k10 : Class := { plain "[J" (some 0) with kind := .array 9 .long, interfaces := #[3, 4], accessFlags := 1041 }

def heap : Heap := #[]
def classes : Array Class := #[k0, k1, k2, k3, k4, k5, k6, k7, k8, k9, k10]
def interned : List (Array UInt16 × Addr) := []
def slotsUsed : Nat := 0
def theMethod : MethodId := ⟨1, 1⟩
def args0 : Array Value := #[.int 3, .long 5, .long 7, .long 9, .long 11]
def aboutOver (below : List Frame) : State where
  vm := { classes := classes, interned := interned.toArray }
  heap := heap
  slotsUsed := slotsUsed
  threads := #[{ frames := .invoking theMethod args0 :: below }]
def below0 : List Frame := [.native { method := ⟨0, 0⟩, args := #[] }]
def about1 : State := aboutOver below0
def p0 : Program := .bare "" "" ""
def e0 : Env := launch0.env 0 0 0
theorem w_frames : about1.frames = Frame.invoking theMethod args0 :: below0 := rfl
set_option maxRecDepth 65536 in
theorem w_args : argsFit about1.vm theMethod args0 = true := by decide +kernel
set_option maxRecDepth 65536 in
theorem w_heap : heapFits about1 = true := by decide +kernel
set_option maxRecDepth 65536 in
theorem w_runnable : about1.curStatus? = some .runnable := by decide +kernel
set_option maxRecDepth 65536 in
theorem w_alone : about1.alone = true := by decide +kernel
set_option maxRecDepth 65536 in
theorem w_named : about1.methodNamed? x = some theMethod := by decide +kernel
set_option maxRecDepth 65536 in
theorem w_hears : about1.hears theMethod below0 = true := by decide +kernel
set_option maxRecDepth 65536 in
theorem w_ripe : about1.ripe theMethod args0 below0 = true := by decide +kernel
theorem w_running : about1.status = .running := rfl
set_option maxRecDepth 65536 in
theorem w_room : about1.hasRoom e0.platform room_1 = true :=
  launch0.hasRoom_least _ room_1 (by decide +kernel) (by decide +kernel) (by decide +kernel) (by decide +kernel) (by decide +kernel) (by decide +kernel)
theorem allAtoms_all (ts : List Jvm.Cond) (a : Array Jvm.Value) (st : Jvm.State) : (allAtoms ts).before a st = ts.all (fun c => c.before a st) := by
  induction ts with
  | nil => rfl
  | cons c t ih =>
    show (Jvm.Cond.and c (allAtoms t)).before a st = _
    rw [Jvm.Cond.before_and, ih, List.all_cons]
def words1 : List Jvm.Cond := Jvm.Cond.code x code maxLocals ret :: tables_1
/-- a 'code' word, met by the world's own term for the bytes: nothing is compared byte by byte -/
theorem code_word {y : MethodName} {bytes : ByteArray} {mx : Nat} {rt : Option FieldType} {a : Array Value} {s : State} {m : MethodId} {meth : Method} {c : Code} (h1 : s.methodNamed? y = some m) (h2 : s.vm.method? m = some meth) (h3 : meth.code = some c) (h4 : c.code = bytes)
    (h5 : (c.maxLocals == mx && c.exceptionTable.isEmpty && decide (c.maxStack ≤ mostOperands) && decide (meth.sig.returnType = rt) && !meth.locks && decide (parseMethodDescriptor y.desc = some meth.sig)) = true) : (Jvm.Cond.code y bytes mx rt).before a s = true := by
  simp only [Bool.and_eq_true, beq_iff_eq, Bool.not_eq_true', decide_eq_true_eq] at h5
  obtain ⟨⟨⟨⟨⟨g1, g2⟩, g3⟩, g4⟩, g5⟩, g6⟩ := h5
  simp [Cond.before, Cond.holds, Cond.value, h1, h2, h3, h4, g1, g2, g3, g4, g5, g6]
def isCode : Jvm.Cond → Bool
  | .code _ _ _ _ => true
  | _ => false
theorem all_split {L : List Jvm.Cond} {P : Jvm.Cond → Bool} (h1 : L.all (fun c => isCode c || P c) = true) (h2 : ∀ c ∈ L.filter isCode, P c = true) : L.all P = true := by
  refine List.all_eq_true.mpr fun c hc => ?_
  have h := List.all_eq_true.mp h1 c hc
  rcases Bool.eq_false_or_eq_true (isCode c) with hi | hi
  · exact h2 c (List.mem_filter.mpr ⟨hc, hi⟩)
  · simpa [hi] using h
set_option maxRecDepth 65536 in
theorem w_c0 : (Jvm.Cond.code x code maxLocals ret).before args0 about1 = true := code_word (m := ⟨1, 1⟩) (meth := k1m1) (c := k1c1) (by decide +kernel) rfl rfl rfl (by decide +kernel)
set_option maxRecDepth 65536 in
theorem w_c1 : (Jvm.Cond.code ({ cls := "com/example/slott/slott/engine/bits/BitFields", name := "<init>", desc := "([I)V" } : Jvm.MethodName) prog_27_method_1_code (5 : Nat) (Option.none : Option Jvm.ClassFile.FieldType)).before args0 about1 = true := code_word (m := ⟨2, 0⟩) (meth := k2m0) (c := k2c0) (by decide +kernel) rfl rfl rfl (by decide +kernel)
set_option maxRecDepth 65536 in
theorem w_c2 : (Jvm.Cond.code ({ cls := "java/lang/Object", name := "<init>", desc := "()V" } : Jvm.MethodName) object_method_1_code (1 : Nat) (Option.none : Option Jvm.ClassFile.FieldType)).before args0 about1 = true := code_word (m := ⟨0, 0⟩) (meth := k0m0) (c := k0c0) (by decide +kernel) rfl rfl rfl (by decide +kernel)
set_option maxRecDepth 65536 in
theorem w_c3 : (Jvm.Cond.code ({ cls := "com/example/slott/slott/engine/bits/BitFields", name := "get", desc := "([JII)J" } : Jvm.MethodName) prog_27_method_5_code (4 : Nat) (Option.some Jvm.ClassFile.FieldType.long)).before args0 about1 = true := code_word (m := ⟨2, 1⟩) (meth := k2m1) (c := k2c1) (by decide +kernel) rfl rfl rfl (by decide +kernel)
set_option maxRecDepth 65536 in
theorem w_c4 : (Jvm.Cond.code ({ cls := "com/example/slott/slott/engine/bits/BitFieldsGetPinLaw", name := "expect", desc := "(JJJIII)J" } : Jvm.MethodName) method_3_code (11 : Nat) (Option.some Jvm.ClassFile.FieldType.long)).before args0 about1 = true := code_word (m := ⟨1, 2⟩) (meth := k1m2) (c := k1c2) (by decide +kernel) rfl rfl rfl (by decide +kernel)
def codes1 : List Jvm.Cond := [Jvm.Cond.code x code maxLocals ret, Jvm.Cond.code ({ cls := "com/example/slott/slott/engine/bits/BitFields", name := "<init>", desc := "([I)V" } : Jvm.MethodName) prog_27_method_1_code (5 : Nat) (Option.none : Option Jvm.ClassFile.FieldType), Jvm.Cond.code ({ cls := "java/lang/Object", name := "<init>", desc := "()V" } : Jvm.MethodName) object_method_1_code (1 : Nat) (Option.none : Option Jvm.ClassFile.FieldType), Jvm.Cond.code ({ cls := "com/example/slott/slott/engine/bits/BitFields", name := "get", desc := "([JII)J" } : Jvm.MethodName) prog_27_method_5_code (4 : Nat) (Option.some Jvm.ClassFile.FieldType.long), Jvm.Cond.code ({ cls := "com/example/slott/slott/engine/bits/BitFieldsGetPinLaw", name := "expect", desc := "(JJJIII)J" } : Jvm.MethodName) method_3_code (11 : Nat) (Option.some Jvm.ClassFile.FieldType.long)]
set_option maxRecDepth 65536 in
theorem codes_eq : words1.filter isCode = codes1 := rfl
theorem w_codes : ∀ c ∈ words1.filter isCode, c.before args0 about1 = true := by
  rw [codes_eq]
  intro c hc
  simp only [codes1, List.mem_cons, List.not_mem_nil, or_false] at hc
  rcases hc with rfl | rfl | rfl | rfl | rfl
  · exact w_c0
  · exact w_c1
  · exact w_c2
  · exact w_c3
  · exact w_c4
set_option maxRecDepth 65536 in
theorem w_t1 : (words1.take 24).all (fun c => isCode c || c.before args0 about1) = true := by decide +kernel
set_option maxRecDepth 65536 in
theorem w_t2 : (words1.drop 24).all (fun c => isCode c || c.before args0 about1) = true := by decide +kernel
theorem w_tables : (allAtoms (Jvm.Cond.code x code maxLocals ret :: tables_1)).before args0 about1 = true := by
  rw [allAtoms_all]
  show words1.all (fun c => c.before args0 about1) = true
  refine all_split ?_ w_codes
  rw [← List.take_append_drop 24 words1, List.all_append, w_t1, w_t2]
  rfl
set_option maxRecDepth 65536 in
theorem w_case : (Jvm.Cond.and given_1 narrow_1).before args0 about1 = true := by decide +kernel
theorem w_applies : (headSpec (Jvm.Cond.code x code maxLocals ret :: tables_1) room_1).applies x e0.platform about1 = true :=
  (Spec.applies_iff w_frames).mpr ⟨w_running, w_runnable, w_alone, w_named, w_hears, w_ripe, w_room, w_tables⟩
theorem atStart : AtStart classFile x code maxLocals ret World_1 tables_1 room_1 Calls_1 rest_1 Pre_1 launch0 p0 e0 about1 theMethod args0 below0 :=
  ⟨lists_1, trivial, launch0.admits_env _ _ _, launch0.least_env, fairChoices_fair.cas, fairChoices_fair.clock, w_frames, w_args, w_heap, w_applies, trivial, trivial, w_case⟩
end start1
theorem witness_1 : WitnessClaimed_1 := ⟨start1.p0, start1.e0, start1.about1, start1.theMethod, start1.args0, start1.below0, start1.atStart⟩
end Jvm.Pilot.@@N@@
