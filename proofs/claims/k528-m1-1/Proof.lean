import JvmDerived
import JvmDerived.Pilot.@@N@@Statement
import JvmDerived.Pilot.@@N@@Code
set_option linter.unusedVariables false
set_option linter.unusedSimpArgs false
namespace Jvm.OwnKit
open Jvm Jvm.ClassFile Sem Op Lib Jvm.Stand Jvm.Free Jvm.LawKit Jvm.RoadKit
/-! A small calculus of my own over the library's laws: Go says 'from here the body comes to its end, and what it leaves satisfies Q'. -/
abbrev Bod : Type := Program × Launch × Env × Room × State × MethodId × Array Value × List Frame × Method × Code
abbrev Bod.p (B : Bod) : Program := B.1
abbrev Bod.l (B : Bod) : Launch := B.2.1
abbrev Bod.e (B : Bod) : Env := B.2.2.1
abbrev Bod.R (B : Bod) : Room := B.2.2.2.1
abbrev Bod.s (B : Bod) : State := B.2.2.2.2.1
abbrev Bod.m (B : Bod) : MethodId := B.2.2.2.2.2.1
abbrev Bod.args (B : Bod) : Array Value := B.2.2.2.2.2.2.1
abbrev Bod.below (B : Bod) : List Frame := B.2.2.2.2.2.2.2.1
abbrev Bod.meth (B : Bod) : Method := B.2.2.2.2.2.2.2.2.1
abbrev Bod.c (B : Bod) : Code := B.2.2.2.2.2.2.2.2.2
abbrev St (B : Bod) (T : State) (locs : List Loc) (k n : Nat) : Prop := Stand B.p B.l B.e B.R B.s B.m B.args B.below B.meth B.c T locs k n
def Fin0 (B : Bod) (n0 : Nat) (Q : Option Value → Heap → Prop) (g : JFrame) (T : State) : Prop :=
  ∃ t o, Steps B.p.tables B.e B.below (T.setTop g) t ∧ t.status = .running ∧ Ended t B.below o ∧ ∃ v L, o = .returned v ∧ (Fr n0 L ∧ Q v t.heap) ∧ FrameEnd B.s o t L B.R.cells B.R.slots
def Go (B : Bod) (n0 : Nat) (Q : Option Value → Heap → Prop) (h : Heap) (k n pc : Nat) (L : Array Slot) (st : List Value) : Prop :=
  ∀ T locs, St B T locs k n → Fr n0 locs → T.heap = h → Fin0 B n0 Q (mkF B.m pc L st) T
def Ctx (B : Bod) (l : Launch) (rm : Room) (bytes : ByteArray) (own nm : String) (maxL : Nat) (ret : Option FieldType) (Z : State) : Prop :=
  B.l = l ∧ B.R = rm ∧ B.p.tables.exec = Jvm.exec ∧ B.c.code = bytes ∧ Z.Warmed39 B.s.vm ∧ B.s.vm.findClass own = some B.m.cls ∧ B.meth.name = nm ∧ B.c.maxLocals = maxL ∧ B.meth.sig.returnType = ret ∧ B.meth.locks = false
/-- a method's contract: called with these arguments over this heap it returns, and Q holds of what it returns and of the heap it leaves -/
def Met1 (l : Launch) (Z : State) (y : MethodName) (bytes : ByteArray) (maxL : Nat) (ret : Option FieldType) (rm : Room) (n0 : Nat) (as' : Array Value) (h0 : Heap) (Q : Option Value → Heap → Prop) : Prop :=
  ∀ ws : List Jvm.Cond, MetFree l y (head1 (Jvm.Cond.code y bytes maxL ret :: ws) rm) (fun a U => a = as' ∧ Z.Warmed39 U.vm ∧ U.heap = h0) (fun _ _ _ _ _ => True) (fun _ U o U' => ∃ v L, o = .returned v ∧ (Fr n0 L ∧ Q v U'.heap) ∧ FrameEnd U o U' L rm.cells rm.slots)
section Base
variable {B : Bod} {l : Launch} {rm : Room} {bytes : ByteArray} {own nm : String} {maxL : Nat} {ret : Option FieldType} {Z : State} {n0 : Nat} {Q : Option Value → Heap → Prop} {h : Heap} {k n pc pc' : Nat} {L L' : Array Slot} {st st' : List Value} {a0 : Array Value}
theorem met_of {y : MethodName} {as' : Array Value} (hp : plainFor y = true) {L0 : Array Slot} (hL : argsToLocals as' maxL = L0) (go : ∀ B : Bod, Ctx B l rm bytes y.cls y.name maxL ret Z → Go B n0 Q h 0 0 0 L0 []) : Met1 l Z y bytes maxL ret rm n0 as' h Q := by
  intro ws
  refine MetFree.of_bodySF hp hisR ?_
  intro p e s m args below meth c s₁ Bd hml0 hP hK
  obtain ⟨rfl, hZ, hh⟩ := hP
  subst hL
  obtain ⟨t, o, h1, h2, h3, v, L, h4, h5, h6⟩ := go (p, l, e, rm, s, m, args, below, meth, c) ⟨rfl, rfl, Bd.exec, Bd.bytes, hZ, findClass_of_methodNamed Bd.named, (name_of_methodNamed Bd.named Bd.method).1, hml0, Bd.returns, BodyLoose.notSynchronized Bd⟩ s₁ [] (Stand.of_body Bd) (Fr.nil n0) (by rw [← hh, Bd.state]; rfl)
  exact ⟨t, o, h1, h2, h3, v, L, h4, h5, h6⟩
/-- a step that moves the frame alone -/
theorem Go.step (f : ∀ T locs, St B T locs k n → T.heap = h → ∀ t, Steps B.p.tables B.e B.below (T.setTop (mkF B.m pc' L' st')) t → Steps B.p.tables B.e B.below (T.setTop (mkF B.m pc L st)) t) (go : Go B n0 Q h k n pc' L' st') : Go B n0 Q h k n pc L st := fun T locs X N eT => by
  obtain ⟨t, o, a, r⟩ := go T locs X N eT
  exact ⟨t, o, f T locs X eT t a, r⟩
/-- a step that moves the tables too -/
theorem Go.move (f : ∀ T locs, St B T locs k n → T.heap = h → ∃ T', St B T' locs k n ∧ T'.heap = h ∧ ∀ t, Steps B.p.tables B.e B.below (T'.setTop (mkF B.m pc' L' st')) t → Steps B.p.tables B.e B.below (T.setTop (mkF B.m pc L st)) t) (go : Go B n0 Q h k n pc' L' st') : Go B n0 Q h k n pc L st := fun T locs X N eT => by
  obtain ⟨T', X', e', f'⟩ := f T locs X eT
  obtain ⟨t, o, a, r⟩ := go T' locs X' N e'
  exact ⟨t, o, f' t a, r⟩
theorem Go.eqs {st2 : List Value} (go : Go B n0 Q h k n pc L st2) (e : st = st2) : Go B n0 Q h k n pc L st := e ▸ go
theorem Go.eqh {h2 : Heap} (go : Go B n0 Q h2 k n pc L st) (e : h = h2) : Go B n0 Q h k n pc L st := e ▸ go
theorem g_iload_n (C : Ctx B l rm bytes own nm maxL ret Z) {i : Fin 4} {v : Int32} (hd : decode bytes pc = .ok (.iload_n i, 1)) (hl : L[i.val]? = some (.val (.int v))) (hpc : pc + 1 = pc') (go : Go B n0 Q h k n pc' L (.int v :: st)) : Go B n0 Q h k n pc L st := go.step fun T locs X eT t q => Jvm.Free.XS.iloadN X.here C.2.2.1 rfl (hb C.2.2.2.1 hd) hl (by subst hpc; exact q)
theorem g_iload (C : Ctx B l rm bytes own nm maxL ret Z) {i : Nat} {v : Int32} (hd : decode bytes pc = .ok (.iload i, 2)) (hl : L[i]? = some (.val (.int v))) (hpc : pc + 2 = pc') (go : Go B n0 Q h k n pc' L (.int v :: st)) : Go B n0 Q h k n pc L st := go.step fun T locs X eT t q => Jvm.Free.XS.iload X.here C.2.2.1 rfl (hb C.2.2.2.1 hd) hl (by subst hpc; exact q)
theorem g_lload_n (C : Ctx B l rm bytes own nm maxL ret Z) {i : Fin 4} {v : Int64} (hd : decode bytes pc = .ok (.lload_n i, 1)) (hl : L[i.val]? = some (.val (.long v))) (hpc : pc + 1 = pc') (go : Go B n0 Q h k n pc' L (.long v :: st)) : Go B n0 Q h k n pc L st := go.step fun T locs X eT t q => Jvm.Free.XT.lloadN X.here C.2.2.1 rfl (hb C.2.2.2.1 hd) hl (by subst hpc; exact q)
theorem g_lload (C : Ctx B l rm bytes own nm maxL ret Z) {i : Nat} {v : Int64} (hd : decode bytes pc = .ok (.lload i, 2)) (hl : L[i]? = some (.val (.long v))) (hpc : pc + 2 = pc') (go : Go B n0 Q h k n pc' L (.long v :: st)) : Go B n0 Q h k n pc L st := go.step fun T locs X eT t q => Jvm.Free.XT.lload X.here C.2.2.1 rfl (hb C.2.2.2.1 hd) hl (by subst hpc; exact q)
theorem g_aload_n (C : Ctx B l rm bytes own nm maxL ret Z) {i : Fin 4} {v : Value} (hd : decode bytes pc = .ok (.aload_n i, 1)) (hl : L[i.val]? = some (.val v)) (hv : v.isRef = true) (hpc : pc + 1 = pc') (go : Go B n0 Q h k n pc' L (v :: st)) : Go B n0 Q h k n pc L st := go.step fun T locs X eT t q => Jvm.Free.XS.aloadN X.here C.2.2.1 rfl (hb C.2.2.2.1 hd) hl hv (by subst hpc; exact q)
theorem g_aload (C : Ctx B l rm bytes own nm maxL ret Z) {i : Nat} {v : Value} (hd : decode bytes pc = .ok (.aload i, 2)) (hl : L[i]? = some (.val v)) (hv : v.isRef = true) (hpc : pc + 2 = pc') (go : Go B n0 Q h k n pc' L (v :: st)) : Go B n0 Q h k n pc L st := go.step fun T locs X eT t q => Jvm.Free.XS.aload X.here C.2.2.1 rfl (hb C.2.2.2.1 hd) hl hv (by subst hpc; exact q)
theorem g_istore_n (C : Ctx B l rm bytes own nm maxL ret Z) {i : Fin 4} {v : Int32} (hd : decode bytes pc = .ok (.istore_n i, 1)) (hl : storeLocals L i.val (.int v) = some L') (hpc : pc + 1 = pc') (go : Go B n0 Q h k n pc' L' st) : Go B n0 Q h k n pc L (.int v :: st) := go.step fun T locs X eT t q => Jvm.Free.XS.istoreN X.here C.2.2.1 rfl (hb C.2.2.2.1 hd) rfl hl (by subst hpc; exact q)
theorem g_istore (C : Ctx B l rm bytes own nm maxL ret Z) {i : Nat} {v : Int32} (hd : decode bytes pc = .ok (.istore i, 2)) (hl : storeLocals L i (.int v) = some L') (hpc : pc + 2 = pc') (go : Go B n0 Q h k n pc' L' st) : Go B n0 Q h k n pc L (.int v :: st) := go.step fun T locs X eT t q => Jvm.Free.XS.istore X.here C.2.2.1 rfl (hb C.2.2.2.1 hd) rfl hl (by subst hpc; exact q)
theorem g_lstore_n (C : Ctx B l rm bytes own nm maxL ret Z) {i : Fin 4} {v : Int64} (hd : decode bytes pc = .ok (.lstore_n i, 1)) (hl : storeLocals L i.val (.long v) = some L') (hpc : pc + 1 = pc') (go : Go B n0 Q h k n pc' L' st) : Go B n0 Q h k n pc L (.long v :: st) := go.step fun T locs X eT t q => Jvm.Free.XT.lstoreN X.here C.2.2.1 rfl (hb C.2.2.2.1 hd) rfl hl (by subst hpc; exact q)
theorem g_lstore (C : Ctx B l rm bytes own nm maxL ret Z) {i : Nat} {v : Int64} (hd : decode bytes pc = .ok (.lstore i, 2)) (hl : storeLocals L i (.long v) = some L') (hpc : pc + 2 = pc') (go : Go B n0 Q h k n pc' L' st) : Go B n0 Q h k n pc L (.long v :: st) := go.step fun T locs X eT t q => Jvm.Free.XT.lstore X.here C.2.2.1 rfl (hb C.2.2.2.1 hd) rfl hl (by subst hpc; exact q)
theorem g_astore_n (C : Ctx B l rm bytes own nm maxL ret Z) {i : Fin 4} {v : Value} (hd : decode bytes pc = .ok (.astore_n i, 1)) (hl : storeLocals L i.val v = some L') (hv : v.isRef = true) (hpc : pc + 1 = pc') (go : Go B n0 Q h k n pc' L' st) : Go B n0 Q h k n pc L (v :: st) := go.step fun T locs X eT t q => Jvm.Free.XS.astoreN X.here C.2.2.1 rfl (hb C.2.2.2.1 hd) rfl hv hl (by subst hpc; exact q)
theorem g_astore (C : Ctx B l rm bytes own nm maxL ret Z) {i : Nat} {v : Value} (hd : decode bytes pc = .ok (.astore i, 2)) (hl : storeLocals L i v = some L') (hv : v.isRef = true) (hpc : pc + 2 = pc') (go : Go B n0 Q h k n pc' L' st) : Go B n0 Q h k n pc L (v :: st) := go.step fun T locs X eT t q => Jvm.Free.XS.astore X.here C.2.2.1 rfl (hb C.2.2.2.1 hd) rfl hv hl (by subst hpc; exact q)
theorem g_iinc (C : Ctx B l rm bytes own nm maxL ret Z) {i : Nat} {z : Int} {v w : Int32} (hd : decode bytes pc = .ok (.iinc i z, 3)) (hl : L[i]? = some (.val (.int v))) (hw : v + Int32.ofInt z = w) (hl' : storeLocals L i (.int w) = some L') (hpc : pc + 3 = pc') (go : Go B n0 Q h k n pc' L' st) : Go B n0 Q h k n pc L st := go.step fun T locs X eT t q => Jvm.Free.XS.iinc X.here C.2.2.1 rfl (hb C.2.2.2.1 hd) hl (by rw [hw]; exact hl') (by subst hpc; exact q)
theorem g_iconst (C : Ctx B l rm bytes own nm maxL ret Z) {z : Int} {v : Int32} (hd : decode bytes pc = .ok (.iconst z, 1)) (hv : Int32.ofInt z = v) (hpc : pc + 1 = pc') (go : Go B n0 Q h k n pc' L (.int v :: st)) : Go B n0 Q h k n pc L st := go.step fun T locs X eT t q => Jvm.Free.XS.iconst X.here C.2.2.1 rfl (hb C.2.2.2.1 hd) (by subst hpc hv; exact q)
theorem g_bipush (C : Ctx B l rm bytes own nm maxL ret Z) {z : Int} {v : Int32} (hd : decode bytes pc = .ok (.bipush z, 2)) (hv : (Int8.ofInt z).toInt32 = v) (hpc : pc + 2 = pc') (go : Go B n0 Q h k n pc' L (.int v :: st)) : Go B n0 Q h k n pc L st := go.step fun T locs X eT t q => Jvm.Free.XS.bipush X.here C.2.2.1 rfl (hb C.2.2.2.1 hd) (by subst hpc hv; exact q)
theorem g_lconst (C : Ctx B l rm bytes own nm maxL ret Z) {i : Fin 2} {v : Int64} (hd : decode bytes pc = .ok (.lconst i, 1)) (hv : Int64.ofNat i = v) (hpc : pc + 1 = pc') (go : Go B n0 Q h k n pc' L (.long v :: st)) : Go B n0 Q h k n pc L st := go.step fun T locs X eT t q => Jvm.Free.XT.lconst X.here C.2.2.1 rfl (hb C.2.2.2.1 hd) (by subst hpc hv; exact q)
theorem g_aconst_null (C : Ctx B l rm bytes own nm maxL ret Z)  (hd : decode bytes pc = .ok (.aconst_null, 1))  (hpc : pc + 1 = pc') (go : Go B n0 Q h k n pc' L (.null :: st)) : Go B n0 Q h k n pc L st := go.step fun T locs X eT t q => Jvm.Free.XS.aconstNull X.here C.2.2.1 rfl (hb C.2.2.2.1 hd)  (by subst hpc; exact q)
theorem g_iadd (C : Ctx B l rm bytes own nm maxL ret Z) {x y : Int32} (hd : decode bytes pc = .ok (.iadd, 1))  (hpc : pc + 1 = pc') (go : Go B n0 Q h k n pc' L (.int (x + y) :: st)) : Go B n0 Q h k n pc L (.int y :: .int x :: st) := go.step fun T locs X eT t q => Jvm.Free.XS.iadd X.here C.2.2.1 rfl (hb C.2.2.2.1 hd) rfl (by subst hpc; exact q)
theorem g_isub (C : Ctx B l rm bytes own nm maxL ret Z) {x y : Int32} (hd : decode bytes pc = .ok (.isub, 1))  (hpc : pc + 1 = pc') (go : Go B n0 Q h k n pc' L (.int (x - y) :: st)) : Go B n0 Q h k n pc L (.int y :: .int x :: st) := go.step fun T locs X eT t q => Jvm.Free.XS.isub X.here C.2.2.1 rfl (hb C.2.2.2.1 hd) rfl (by subst hpc; exact q)
theorem g_iand (C : Ctx B l rm bytes own nm maxL ret Z) {x y : Int32} (hd : decode bytes pc = .ok (.iand, 1))  (hpc : pc + 1 = pc') (go : Go B n0 Q h k n pc' L (.int (x &&& y) :: st)) : Go B n0 Q h k n pc L (.int y :: .int x :: st) := go.step fun T locs X eT t q => Jvm.Free.XS.iand X.here C.2.2.1 rfl (hb C.2.2.2.1 hd) rfl (by subst hpc; exact q)
theorem g_imul (C : Ctx B l rm bytes own nm maxL ret Z) {x y : Int32} (hd : decode bytes pc = .ok (.imul, 1))  (hpc : pc + 1 = pc') (go : Go B n0 Q h k n pc' L (.int (x * y) :: st)) : Go B n0 Q h k n pc L (.int y :: .int x :: st) := go.step fun T locs X eT t q => Jvm.Free.XS.imul X.here C.2.2.1 rfl (hb C.2.2.2.1 hd) rfl (by subst hpc; exact q)
theorem g_ixor (C : Ctx B l rm bytes own nm maxL ret Z) {x y : Int32} (hd : decode bytes pc = .ok (.ixor, 1))  (hpc : pc + 1 = pc') (go : Go B n0 Q h k n pc' L (.int (x ^^^ y) :: st)) : Go B n0 Q h k n pc L (.int y :: .int x :: st) := go.step fun T locs X eT t q => Jvm.Free.XT.ixor X.here C.2.2.1 rfl (hb C.2.2.2.1 hd) rfl (by subst hpc; exact q)
theorem g_ior (C : Ctx B l rm bytes own nm maxL ret Z) {x y : Int32} (hd : decode bytes pc = .ok (.ior, 1))  (hpc : pc + 1 = pc') (go : Go B n0 Q h k n pc' L (.int (x ||| y) :: st)) : Go B n0 Q h k n pc L (.int y :: .int x :: st) := go.step fun T locs X eT t q => Jvm.Free.XT.ior X.here C.2.2.1 rfl (hb C.2.2.2.1 hd) rfl (by subst hpc; exact q)
theorem g_ishl (C : Ctx B l rm bytes own nm maxL ret Z) {x y : Int32} (hd : decode bytes pc = .ok (.ishl, 1))  (hpc : pc + 1 = pc') (go : Go B n0 Q h k n pc' L (.int (x <<< (y &&& 31)) :: st)) : Go B n0 Q h k n pc L (.int y :: .int x :: st) := go.step fun T locs X eT t q => Jvm.Free.XT.ishl X.here C.2.2.1 rfl (hb C.2.2.2.1 hd) rfl (by subst hpc; exact q)
theorem g_ishr (C : Ctx B l rm bytes own nm maxL ret Z) {x y : Int32} (hd : decode bytes pc = .ok (.ishr, 1))  (hpc : pc + 1 = pc') (go : Go B n0 Q h k n pc' L (.int (x >>> (y &&& 31)) :: st)) : Go B n0 Q h k n pc L (.int y :: .int x :: st) := go.step fun T locs X eT t q => Jvm.Free.XT.ishr X.here C.2.2.1 rfl (hb C.2.2.2.1 hd) rfl (by subst hpc; exact q)
theorem g_iushr (C : Ctx B l rm bytes own nm maxL ret Z) {x y : Int32} (hd : decode bytes pc = .ok (.iushr, 1))  (hpc : pc + 1 = pc') (go : Go B n0 Q h k n pc' L (.int (Jvm.Free.XT.ushr x y) :: st)) : Go B n0 Q h k n pc L (.int y :: .int x :: st) := go.step fun T locs X eT t q => Jvm.Free.XT.iushr X.here C.2.2.1 rfl (hb C.2.2.2.1 hd) rfl (by subst hpc; exact q)
theorem g_idiv (C : Ctx B l rm bytes own nm maxL ret Z) {x y : Int32} (hd : decode bytes pc = .ok (.idiv, 1)) (hy : y ≠ 0) (hpc : pc + 1 = pc') (go : Go B n0 Q h k n pc' L (.int (x / y) :: st)) : Go B n0 Q h k n pc L (.int y :: .int x :: st) := go.step fun T locs X eT t q => Jvm.Free.XS.idiv X.here C.2.2.1 rfl (hb C.2.2.2.1 hd) rfl hy (by subst hpc; exact q)
theorem g_irem (C : Ctx B l rm bytes own nm maxL ret Z) {x y : Int32} (hd : decode bytes pc = .ok (.irem, 1)) (hy : y ≠ 0) (hpc : pc + 1 = pc') (go : Go B n0 Q h k n pc' L (.int (x - (x / y) * y) :: st)) : Go B n0 Q h k n pc L (.int y :: .int x :: st) := go.step fun T locs X eT t q => Jvm.Free.XS.irem X.here C.2.2.1 rfl (hb C.2.2.2.1 hd) rfl hy (by subst hpc; exact q)
theorem g_ineg (C : Ctx B l rm bytes own nm maxL ret Z) {x : Int32} (hd : decode bytes pc = .ok (.ineg, 1))  (hpc : pc + 1 = pc') (go : Go B n0 Q h k n pc' L (.int (-x) :: st)) : Go B n0 Q h k n pc L (.int x :: st) := go.step fun T locs X eT t q => Jvm.Free.XS.ineg X.here C.2.2.1 rfl (hb C.2.2.2.1 hd) rfl (by subst hpc; exact q)
theorem g_ladd (C : Ctx B l rm bytes own nm maxL ret Z) {x y : Int64} (hd : decode bytes pc = .ok (.ladd, 1))  (hpc : pc + 1 = pc') (go : Go B n0 Q h k n pc' L (.long (x + y) :: st)) : Go B n0 Q h k n pc L (.long y :: .long x :: st) := go.step fun T locs X eT t q => Jvm.Free.XT.ladd X.here C.2.2.1 rfl (hb C.2.2.2.1 hd) rfl (by subst hpc; exact q)
theorem g_lsub (C : Ctx B l rm bytes own nm maxL ret Z) {x y : Int64} (hd : decode bytes pc = .ok (.lsub, 1))  (hpc : pc + 1 = pc') (go : Go B n0 Q h k n pc' L (.long (x - y) :: st)) : Go B n0 Q h k n pc L (.long y :: .long x :: st) := go.step fun T locs X eT t q => Jvm.Free.XT.lsub X.here C.2.2.1 rfl (hb C.2.2.2.1 hd) rfl (by subst hpc; exact q)
theorem g_lmul (C : Ctx B l rm bytes own nm maxL ret Z) {x y : Int64} (hd : decode bytes pc = .ok (.lmul, 1))  (hpc : pc + 1 = pc') (go : Go B n0 Q h k n pc' L (.long (x * y) :: st)) : Go B n0 Q h k n pc L (.long y :: .long x :: st) := go.step fun T locs X eT t q => Jvm.Free.XT.lmul X.here C.2.2.1 rfl (hb C.2.2.2.1 hd) rfl (by subst hpc; exact q)
theorem g_land (C : Ctx B l rm bytes own nm maxL ret Z) {x y : Int64} (hd : decode bytes pc = .ok (.land, 1))  (hpc : pc + 1 = pc') (go : Go B n0 Q h k n pc' L (.long (x &&& y) :: st)) : Go B n0 Q h k n pc L (.long y :: .long x :: st) := go.step fun T locs X eT t q => Jvm.Free.XT.land X.here C.2.2.1 rfl (hb C.2.2.2.1 hd) rfl (by subst hpc; exact q)
theorem g_lor (C : Ctx B l rm bytes own nm maxL ret Z) {x y : Int64} (hd : decode bytes pc = .ok (.lor, 1))  (hpc : pc + 1 = pc') (go : Go B n0 Q h k n pc' L (.long (x ||| y) :: st)) : Go B n0 Q h k n pc L (.long y :: .long x :: st) := go.step fun T locs X eT t q => Jvm.Free.XT.lor X.here C.2.2.1 rfl (hb C.2.2.2.1 hd) rfl (by subst hpc; exact q)
theorem g_lxor (C : Ctx B l rm bytes own nm maxL ret Z) {x y : Int64} (hd : decode bytes pc = .ok (.lxor, 1))  (hpc : pc + 1 = pc') (go : Go B n0 Q h k n pc' L (.long (x ^^^ y) :: st)) : Go B n0 Q h k n pc L (.long y :: .long x :: st) := go.step fun T locs X eT t q => Jvm.Free.XT.lxor X.here C.2.2.1 rfl (hb C.2.2.2.1 hd) rfl (by subst hpc; exact q)
theorem g_ldiv (C : Ctx B l rm bytes own nm maxL ret Z) {x y : Int64} (hd : decode bytes pc = .ok (.ldiv, 1)) (hy : y ≠ 0) (hpc : pc + 1 = pc') (go : Go B n0 Q h k n pc' L (.long (x / y) :: st)) : Go B n0 Q h k n pc L (.long y :: .long x :: st) := go.step fun T locs X eT t q => Jvm.Free.XT.ldiv X.here C.2.2.1 rfl (hb C.2.2.2.1 hd) rfl hy (by subst hpc; exact q)
theorem g_lrem (C : Ctx B l rm bytes own nm maxL ret Z) {x y : Int64} (hd : decode bytes pc = .ok (.lrem, 1)) (hy : y ≠ 0) (hpc : pc + 1 = pc') (go : Go B n0 Q h k n pc' L (.long (x - (x / y) * y) :: st)) : Go B n0 Q h k n pc L (.long y :: .long x :: st) := go.step fun T locs X eT t q => Jvm.Free.XT.lrem X.here C.2.2.1 rfl (hb C.2.2.2.1 hd) rfl hy (by subst hpc; exact q)
theorem g_lneg (C : Ctx B l rm bytes own nm maxL ret Z) {x : Int64} (hd : decode bytes pc = .ok (.lneg, 1))  (hpc : pc + 1 = pc') (go : Go B n0 Q h k n pc' L (.long (-x) :: st)) : Go B n0 Q h k n pc L (.long x :: st) := go.step fun T locs X eT t q => Jvm.Free.XT.lneg X.here C.2.2.1 rfl (hb C.2.2.2.1 hd) rfl (by subst hpc; exact q)
theorem g_lshl (C : Ctx B l rm bytes own nm maxL ret Z) {x : Int64} {y : Int32} (hd : decode bytes pc = .ok (.lshl, 1))  (hpc : pc + 1 = pc') (go : Go B n0 Q h k n pc' L (.long (x <<< (y.toInt64 &&& 63)) :: st)) : Go B n0 Q h k n pc L (.int y :: .long x :: st) := go.step fun T locs X eT t q => Jvm.Free.XT.lshl X.here C.2.2.1 rfl (hb C.2.2.2.1 hd) rfl (by subst hpc; exact q)
theorem g_lshr (C : Ctx B l rm bytes own nm maxL ret Z) {x : Int64} {y : Int32} (hd : decode bytes pc = .ok (.lshr, 1))  (hpc : pc + 1 = pc') (go : Go B n0 Q h k n pc' L (.long (x >>> (y.toInt64 &&& 63)) :: st)) : Go B n0 Q h k n pc L (.int y :: .long x :: st) := go.step fun T locs X eT t q => Jvm.Free.XT.lshr X.here C.2.2.1 rfl (hb C.2.2.2.1 hd) rfl (by subst hpc; exact q)
theorem g_lushr (C : Ctx B l rm bytes own nm maxL ret Z) {x : Int64} {y : Int32} (hd : decode bytes pc = .ok (.lushr, 1))  (hpc : pc + 1 = pc') (go : Go B n0 Q h k n pc' L (.long (Jvm.Free.XT.ushrL x y) :: st)) : Go B n0 Q h k n pc L (.int y :: .long x :: st) := go.step fun T locs X eT t q => Jvm.Free.XT.lushr X.here C.2.2.1 rfl (hb C.2.2.2.1 hd) rfl (by subst hpc; exact q)
theorem g_lcmp (C : Ctx B l rm bytes own nm maxL ret Z) {x y : Int64} (hd : decode bytes pc = .ok (.lcmp, 1))  (hpc : pc + 1 = pc') (go : Go B n0 Q h k n pc' L (.int (Jvm.Free.XT.cmpL x y) :: st)) : Go B n0 Q h k n pc L (.long y :: .long x :: st) := go.step fun T locs X eT t q => Jvm.Free.XT.lcmp X.here C.2.2.1 rfl (hb C.2.2.2.1 hd) rfl (by subst hpc; exact q)
theorem g_i2l (C : Ctx B l rm bytes own nm maxL ret Z) {x : Int32} (hd : decode bytes pc = .ok (.i2l, 1))  (hpc : pc + 1 = pc') (go : Go B n0 Q h k n pc' L (.long (x.toInt64) :: st)) : Go B n0 Q h k n pc L (.int x :: st) := go.step fun T locs X eT t q => Jvm.Free.XT.i2l X.here C.2.2.1 rfl (hb C.2.2.2.1 hd) rfl (by subst hpc; exact q)
theorem g_l2i (C : Ctx B l rm bytes own nm maxL ret Z) {x : Int64} (hd : decode bytes pc = .ok (.l2i, 1))  (hpc : pc + 1 = pc') (go : Go B n0 Q h k n pc' L (.int (x.toInt32) :: st)) : Go B n0 Q h k n pc L (.long x :: st) := go.step fun T locs X eT t q => Jvm.Free.XT.l2i X.here C.2.2.1 rfl (hb C.2.2.2.1 hd) rfl (by subst hpc; exact q)
theorem g_i2b (C : Ctx B l rm bytes own nm maxL ret Z) {x : Int32} (hd : decode bytes pc = .ok (.i2b, 1))  (hpc : pc + 1 = pc') (go : Go B n0 Q h k n pc' L (.int (x.toInt8.toInt32) :: st)) : Go B n0 Q h k n pc L (.int x :: st) := go.step fun T locs X eT t q => Jvm.Free.XT.i2b X.here C.2.2.1 rfl (hb C.2.2.2.1 hd) rfl (by subst hpc; exact q)
theorem g_i2c (C : Ctx B l rm bytes own nm maxL ret Z) {x : Int32} (hd : decode bytes pc = .ok (.i2c, 1))  (hpc : pc + 1 = pc') (go : Go B n0 Q h k n pc' L (.int (x.toUInt32.toUInt16.toUInt32.toInt32) :: st)) : Go B n0 Q h k n pc L (.int x :: st) := go.step fun T locs X eT t q => Jvm.Free.XT.i2c X.here C.2.2.1 rfl (hb C.2.2.2.1 hd) rfl (by subst hpc; exact q)
theorem g_i2s (C : Ctx B l rm bytes own nm maxL ret Z) {x : Int32} (hd : decode bytes pc = .ok (.i2s, 1))  (hpc : pc + 1 = pc') (go : Go B n0 Q h k n pc' L (.int (x.toInt16.toInt32) :: st)) : Go B n0 Q h k n pc L (.int x :: st) := go.step fun T locs X eT t q => Jvm.Free.XT.i2s X.here C.2.2.1 rfl (hb C.2.2.2.1 hd) rfl (by subst hpc; exact q)
theorem g_dup (C : Ctx B l rm bytes own nm maxL ret Z) {x : Value} (hd : decode bytes pc = .ok (.dup, 1)) (hc : x.category = 1) (hpc : pc + 1 = pc') (go : Go B n0 Q h k n pc' L (x :: x :: st)) : Go B n0 Q h k n pc L (x :: st) := go.step fun T locs X eT t q => Jvm.Free.XS.dup X.here C.2.2.1 rfl (hb C.2.2.2.1 hd) rfl hc (by subst hpc; exact q)
theorem g_pop (C : Ctx B l rm bytes own nm maxL ret Z) {x : Value} (hd : decode bytes pc = .ok (.pop, 1)) (hc : x.category = 1) (hpc : pc + 1 = pc') (go : Go B n0 Q h k n pc' L st) : Go B n0 Q h k n pc L (x :: st) := go.step fun T locs X eT t q => Jvm.Free.XT.pop X.here C.2.2.1 rfl (hb C.2.2.2.1 hd) rfl hc (by subst hpc; exact q)
theorem g_dup_x1 (C : Ctx B l rm bytes own nm maxL ret Z) {x y : Value} (hd : decode bytes pc = .ok (.dup_x1, 1)) (hc : x.category = 1) (hc' : y.category = 1) (hpc : pc + 1 = pc') (go : Go B n0 Q h k n pc' L (x :: y :: x :: st)) : Go B n0 Q h k n pc L (x :: y :: st) := go.step fun T locs X eT t q => Jvm.Free.XT.dupX1 X.here C.2.2.1 rfl (hb C.2.2.2.1 hd) rfl hc hc' (by subst hpc; exact q)
theorem g_dup2 (C : Ctx B l rm bytes own nm maxL ret Z) {x y : Value} (hd : decode bytes pc = .ok (.dup2, 1)) (hc : x.category = 1) (hc' : y.category = 1) (hpc : pc + 1 = pc') (go : Go B n0 Q h k n pc' L (x :: y :: x :: y :: st)) : Go B n0 Q h k n pc L (x :: y :: st) := go.step fun T locs X eT t q => Jvm.Free.XT.dup2 X.here C.2.2.1 rfl (hb C.2.2.2.1 hd) rfl hc hc' (by subst hpc; exact q)
theorem g_dup2L (C : Ctx B l rm bytes own nm maxL ret Z) {x : Int64} (hd : decode bytes pc = .ok (.dup2, 1))  (hpc : pc + 1 = pc') (go : Go B n0 Q h k n pc' L (.long x :: .long x :: st)) : Go B n0 Q h k n pc L (.long x :: st) := go.step fun T locs X eT t q => Jvm.Free.XT.dup2L X.here C.2.2.1 rfl (hb C.2.2.2.1 hd) rfl (by subst hpc; exact q)
theorem g_goto (C : Ctx B l rm bytes own nm maxL ret Z) {o : Int} (hd : decode bytes pc = .ok (.goto o, 3)) (ho : 0 ≤ (pc : Int) + o) (hp : ((pc : Int) + o).toNat = pc') (go : Go B n0 Q h k n pc' L st) : Go B n0 Q h k n pc L st := go.step fun T locs X eT t q => Jvm.Free.XS.goto X.here C.2.2.1 rfl rfl (hb C.2.2.2.1 hd) ho hp q
theorem g_if_y (C : Ctx B l rm bytes own nm maxL ret Z) {cd : ClassFile.Cond} {x : Int32} {o : Int} (hd : decode bytes pc = .ok (.ifCond cd o, 3)) (hc : ifCond.holds cd x = true) (ho : 0 ≤ (pc : Int) + o) (hp : ((pc : Int) + o).toNat = pc') (go : Go B n0 Q h k n pc' L st) : Go B n0 Q h k n pc L (.int x :: st) := go.step fun T locs X eT t q => Jvm.Free.XS.ifYes X.here C.2.2.1 rfl rfl (hb C.2.2.2.1 hd) rfl hc ho hp q
theorem g_if_n (C : Ctx B l rm bytes own nm maxL ret Z) {cd : ClassFile.Cond} {x : Int32} {o : Int} (hd : decode bytes pc = .ok (.ifCond cd o, 3)) (hc : ifCond.holds cd x = false) (hpc : pc + 3 = pc') (go : Go B n0 Q h k n pc' L st) : Go B n0 Q h k n pc L (.int x :: st) := go.step fun T locs X eT t q => Jvm.Free.XS.ifNo X.here C.2.2.1 rfl (hb C.2.2.2.1 hd) rfl hc (by subst hpc; exact q)
theorem g_icmp_y (C : Ctx B l rm bytes own nm maxL ret Z) {cd : ClassFile.Cond} {x y : Int32} {o : Int} (hd : decode bytes pc = .ok (.if_icmp cd o, 3)) (hc : if_icmp.holds cd x y = true) (ho : 0 ≤ (pc : Int) + o) (hp : ((pc : Int) + o).toNat = pc') (go : Go B n0 Q h k n pc' L st) : Go B n0 Q h k n pc L (.int y :: .int x :: st) := go.step fun T locs X eT t q => Jvm.Free.XS.icmpYes X.here C.2.2.1 rfl rfl (hb C.2.2.2.1 hd) rfl hc ho hp q
theorem g_icmp_n (C : Ctx B l rm bytes own nm maxL ret Z) {cd : ClassFile.Cond} {x y : Int32} {o : Int} (hd : decode bytes pc = .ok (.if_icmp cd o, 3)) (hc : if_icmp.holds cd x y = false) (hpc : pc + 3 = pc') (go : Go B n0 Q h k n pc' L st) : Go B n0 Q h k n pc L (.int y :: .int x :: st) := go.step fun T locs X eT t q => Jvm.Free.XS.icmpNo X.here C.2.2.1 rfl (hb C.2.2.2.1 hd) rfl hc (by subst hpc; exact q)
theorem g_acmp_y (C : Ctx B l rm bytes own nm maxL ret Z) {cd : ClassFile.ACond} {x y : Value} {o : Int} (hd : decode bytes pc = .ok (.if_acmp cd o, 3)) (hc1 : x.isRef = true) (hc2 : y.isRef = true) (hc : Jvm.Free.XT.acmp cd x y = true) (ho : 0 ≤ (pc : Int) + o) (hp : ((pc : Int) + o).toNat = pc') (go : Go B n0 Q h k n pc' L st) : Go B n0 Q h k n pc L (y :: x :: st) := go.step fun T locs X eT t q => Jvm.Free.XT.acmpYes X.here C.2.2.1 rfl rfl (hb C.2.2.2.1 hd) rfl hc1 hc2 hc ho hp q
theorem g_acmp_n (C : Ctx B l rm bytes own nm maxL ret Z) {cd : ClassFile.ACond} {x y : Value} {o : Int} (hd : decode bytes pc = .ok (.if_acmp cd o, 3)) (hc1 : x.isRef = true) (hc2 : y.isRef = true) (hc : Jvm.Free.XT.acmp cd x y = false) (hpc : pc + 3 = pc') (go : Go B n0 Q h k n pc' L st) : Go B n0 Q h k n pc L (y :: x :: st) := go.step fun T locs X eT t q => Jvm.Free.XT.acmpNo X.here C.2.2.1 rfl (hb C.2.2.2.1 hd) rfl hc1 hc2 hc (by subst hpc; exact q)
theorem g_ifnull_y (C : Ctx B l rm bytes own nm maxL ret Z) {o : Int} (hd : decode bytes pc = .ok (.ifnull o, 3)) (ho : 0 ≤ (pc : Int) + o) (hp : ((pc : Int) + o).toNat = pc') (go : Go B n0 Q h k n pc' L st) : Go B n0 Q h k n pc L (.null :: st) := go.step fun T locs X eT t q => Jvm.Free.XS.ifnullYes X.here C.2.2.1 rfl rfl (hb C.2.2.2.1 hd) rfl ho hp q
theorem g_ifnull_n (C : Ctx B l rm bytes own nm maxL ret Z) {o : Int} {b : Addr} (hd : decode bytes pc = .ok (.ifnull o, 3)) (hpc : pc + 3 = pc') (go : Go B n0 Q h k n pc' L st) : Go B n0 Q h k n pc L (.ref b :: st) := go.step fun T locs X eT t q => Jvm.Free.XS.ifnullNo X.here C.2.2.1 rfl (hb C.2.2.2.1 hd) rfl (by subst hpc; exact q)
theorem g_ifnonnull_y (C : Ctx B l rm bytes own nm maxL ret Z) {o : Int} {b : Addr} (hd : decode bytes pc = .ok (.ifnonnull o, 3)) (ho : 0 ≤ (pc : Int) + o) (hp : ((pc : Int) + o).toNat = pc') (go : Go B n0 Q h k n pc' L st) : Go B n0 Q h k n pc L (.ref b :: st) := go.step fun T locs X eT t q => Jvm.Free.XT.ifnonnullYes X.here C.2.2.1 rfl rfl (hb C.2.2.2.1 hd) rfl ho hp q
theorem g_ifnonnull_n (C : Ctx B l rm bytes own nm maxL ret Z) {o : Int} (hd : decode bytes pc = .ok (.ifnonnull o, 3)) (hpc : pc + 3 = pc') (go : Go B n0 Q h k n pc' L st) : Go B n0 Q h k n pc L (.null :: st) := go.step fun T locs X eT t q => Jvm.Free.XT.ifnonnullNo X.here C.2.2.1 rfl (hb C.2.2.2.1 hd) rfl (by subst hpc; exact q)
theorem g_ldc (C : Ctx B l rm bytes own nm maxL ret Z) {i : Nat} {v : Int32} (w : (Jvm.Cond.constant own i v).before a0 Z = true) (hd : decode bytes pc = .ok (.ldc i, 2)) (hpc : pc + 2 = pc') (go : Go B n0 Q h k n pc' L (.int v :: st)) : Go B n0 Q h k n pc L st := go.step fun T locs X eT t q => X.ldcInt C.2.2.1 C.2.2.2.2.2.1 (mvT C.2.2.2.2.1 w) (g := mkF B.m pc L st) rfl (hb C.2.2.2.1 hd) t (by subst hpc; exact q)
theorem g_ldc_w (C : Ctx B l rm bytes own nm maxL ret Z) {i : Nat} {v : Int32} (w : (Jvm.Cond.constant own i v).before a0 Z = true) (hd : decode bytes pc = .ok (.ldc_w i, 3)) (hpc : pc + 3 = pc') (go : Go B n0 Q h k n pc' L (.int v :: st)) : Go B n0 Q h k n pc L st := go.step fun T locs X eT t q => X.ldcwInt C.2.2.1 C.2.2.2.2.2.1 (mvT C.2.2.2.2.1 w) (g := mkF B.m pc L st) rfl (hb C.2.2.2.1 hd) t (by subst hpc; exact q)
theorem g_ldc2_w (C : Ctx B l rm bytes own nm maxL ret Z) {i : Nat} {v : Int64} (w : (Jvm.Cond.constantLong own i v).before a0 Z = true) (hd : decode bytes pc = .ok (.ldc2_w i, 3)) (hpc : pc + 3 = pc') (go : Go B n0 Q h k n pc' L (.long v :: st)) : Go B n0 Q h k n pc L st := go.step fun T locs X eT t q => X.ldc2Long C.2.2.1 C.2.2.2.2.2.1 (mvT C.2.2.2.2.1 w) (g := mkF B.m pc L st) rfl (hb C.2.2.2.1 hd) t (by subst hpc; exact q)
theorem g_getfield (C : Ctx B l rm bytes own nm maxL ret Z) {i : Nat} {R0 O fn d host : String} {a : Addr} {v : Value} (w : (Jvm.Cond.fieldLink own i R0 fn d).before a0 Z = true ∨ (Jvm.Cond.fieldLinkNest own i R0 fn d host).before a0 Z = true) (via : Via Z R0 O fn d) (F : Fld Z h a O fn d v) (hd : decode bytes pc = .ok (.getfield i, 3)) (hpc : pc + 3 = pc') (go : Go B n0 Q h k n pc' L (v :: st)) : Go B n0 Q h k n pc L (.ref a :: st) := go.move fun T locs X eT => by
  obtain ⟨T', X', e', f⟩ := getF X C.2.2.1 C.2.2.2.2.1 C.2.2.2.2.2.1 w via eT F (g := mkF B.m pc L (.ref a :: st)) rfl rfl (hb C.2.2.2.1 hd)
  subst hpc; exact ⟨T', X', e', f⟩
theorem g_getstatic (C : Ctx B l rm bytes own nm maxL ret Z) {i : Nat} {R0 O fn d host : String} {v : Value} (w : (Jvm.Cond.fieldLink own i R0 fn d).before a0 Z = true ∨ (Jvm.Cond.fieldLinkNest own i R0 fn d host).before a0 Z = true) (via : Via Z R0 O fn d) (F : Sta Z h O fn d v) (hd : decode bytes pc = .ok (.getstatic i, 3)) (hpc : pc + 3 = pc') (go : Go B n0 Q h k n pc' L (v :: st)) : Go B n0 Q h k n pc L st := go.move fun T locs X eT => by
  obtain ⟨T', X', e', f⟩ := getS2 X C.2.2.1 C.2.2.2.2.1 C.2.2.2.2.2.1 w via eT F (g := mkF B.m pc L st) rfl (hb C.2.2.2.1 hd)
  subst hpc; exact ⟨T', X', e', f⟩
theorem g_checkcast (C : Ctx B l rm bytes own nm maxL ret Z) {i : Nat} {K : String} {a : Addr} (w : (Jvm.Cond.classLink own i K).before a0 Z = true) (F : Ins Z h a K true) (hd : decode bytes pc = .ok (.checkcast i, 3)) (hpc : pc + 3 = pc') (go : Go B n0 Q h k n pc' L (.ref a :: st)) : Go B n0 Q h k n pc L (.ref a :: st) := go.move fun T locs X eT => by
  obtain ⟨T', X', e', f⟩ := castY X C.2.2.1 C.2.2.2.2.1 C.2.2.2.2.2.1 w eT F (g := mkF B.m pc L (.ref a :: st)) rfl rfl (hb C.2.2.2.1 hd)
  subst hpc; exact ⟨T', X', e', f⟩
theorem g_instanceof_y (C : Ctx B l rm bytes own nm maxL ret Z) {i : Nat} {K : String} {a : Addr} (w : (Jvm.Cond.classLink own i K).before a0 Z = true) (F : Ins Z h a K true) (hd : decode bytes pc = .ok (.instanceof i, 3)) (hpc : pc + 3 = pc') (go : Go B n0 Q h k n pc' L (.int 1 :: st)) : Go B n0 Q h k n pc L (.ref a :: st) := go.move fun T locs X eT => by
  obtain ⟨T', X', e', f⟩ := instY X C.2.2.1 C.2.2.2.2.1 C.2.2.2.2.2.1 w eT F (g := mkF B.m pc L (.ref a :: st)) rfl rfl (hb C.2.2.2.1 hd)
  subst hpc; exact ⟨T', X', e', f⟩
theorem g_instanceof_n (C : Ctx B l rm bytes own nm maxL ret Z) {i : Nat} {K K' : String} {a : Addr} (w : (Jvm.Cond.classLink own i K).before a0 Z = true) (E : Exa Z h a K') (F : ∃ c t, Z.vm.findClass K' = some c ∧ Z.vm.findClass K = some t ∧ Z.vm.assignable c t = false) (hd : decode bytes pc = .ok (.instanceof i, 3)) (hpc : pc + 3 = pc') (go : Go B n0 Q h k n pc' L (.int 0 :: st)) : Go B n0 Q h k n pc L (.ref a :: st) := go.move fun T locs X eT => by
  obtain ⟨T', X', e', f⟩ := instNo X C.2.2.1 C.2.2.2.2.1 C.2.2.2.2.2.1 w eT E F (g := mkF B.m pc L (.ref a :: st)) rfl rfl (hb C.2.2.2.1 hd)
  subst hpc; exact ⟨T', X', e', f⟩
theorem g_putfield (C : Ctx B l rm bytes own nm maxL ret Z) {i kk : Nat} {R0 O fn d host K : String} {ty : FieldType} {a : Addr} {v old : Value} (w : (Jvm.Cond.fieldLink own i R0 fn d).before a0 Z = true ∨ (Jvm.Cond.fieldLinkNest own i R0 fn d host).before a0 Z = true) (via : Via Z R0 O fn d) (F : Fld Z h a O fn d old) (E : Exa Z h a K) (Ly : (Jvm.Cond.lays K O fn d).before a0 Z = true ∨ ((Jvm.Cond.laysFinal K O fn d).before a0 Z = true ∧ own = O ∧ nm = "<init>")) (wi : (Jvm.Cond.instantiable K kk).before a0 Z = true) (hty : parseFieldDescriptor d = some ty) (hn : narrow ty v = v) (hf : fits ty v = true) (ge : n0 ≤ a) (hd : decode bytes pc = .ok (.putfield i, 3)) (hpc : pc + 3 = pc') (go : ∀ h', Wr h h' a (Jvm.RoadKit.slotOf Z O fn d) v → Go B n0 Q h' k n pc' L st) : Go B n0 Q h k n pc L (v :: .ref a :: st) := fun T locs X N eT => by
  obtain ⟨T', h', X', e', W, f⟩ := putF X C.2.2.1 C.2.2.2.2.1 C.2.2.2.2.2.1 w via eT F E (Ly.imp id fun q => ⟨q.1, q.2.1, by rw [C.2.2.2.2.2.2.1]; exact q.2.2⟩) wi hty hn hf (g := mkF B.m pc L (v :: .ref a :: st)) rfl rfl (hb C.2.2.2.1 hd)
  obtain ⟨t, o, q, r⟩ := go h' W T' _ X' (Fr.snoc X' N ge) e'
  subst hpc
  exact ⟨t, o, f t q, r⟩
theorem g_new (C : Ctx B l rm bytes own nm maxL ret Z) {i nn : Nat} {K : String} (w : (Jvm.Cond.classLink own i K).before a0 Z = true) (wi : (Jvm.Cond.instantiable K nn).before a0 Z = true) (wz : (Jvm.Cond.initialized K).before a0 Z = true) (hc : k + 1 ≤ rm.cells) (hl : n + nn ≤ rm.slots) (hd : decode bytes pc = .ok (.new i, 3)) (hpc : pc + 3 = pc') (go : ∀ h' a, a = h.size → Ext h h' → Exa Z h' a K → (∀ {O fn d : String} {ty : FieldType}, Laid Z a0 K O fn d → parseFieldDescriptor d = some ty → Fld Z h' a O fn d (defaultValue ty)) → Go B n0 Q h' (k + 1) (n + nn) pc' L (.ref a :: st)) : Go B n0 Q h k n pc L st := fun T locs X N eT => by
  obtain ⟨T', h', X', e', E, A, D, -, f⟩ := newO X C.2.2.1 C.2.2.2.2.1 C.2.2.2.2.2.1 w wi wz eT (g := mkF B.m pc L st) rfl (hb C.2.2.2.1 hd) (by rw [C.2.1]; exact hc) (by rw [C.2.1]; exact hl)
  obtain ⟨t, o, q, r⟩ := go h' _ rfl E A D T' _ X' N e'
  subst hpc
  exact ⟨t, o, f t q, r⟩
theorem g_initObj (C : Ctx B l rm bytes own nm maxL ret Z) {i : Nat} {a : Addr} (w1 : (Jvm.Cond.methodLink own i Lib.objectInit).before a0 Z = true) (w2 : (Jvm.Cond.instanceMethod Lib.objectInit).before a0 Z = true) (w3 : (Jvm.Cond.code Lib.objectInit ⟨#[0xb1]⟩ 1 none).before a0 Z = true) (hsz : L.size = maxL) (hf : 1 ≤ rm.frames) {W : Nat} (hW : (st.map fun v => v.category).sum ≤ W) (hl : W + 12 ≤ rm.locals) (hd : decode bytes pc = .ok (.invokespecial i, 3)) (hpc : pc + 3 = pc') (go : Go B n0 Q h k n pc' L st) : Go B n0 Q h k n pc L (.ref a :: st) := fun T locs X N eT => by
  obtain ⟨T', X', e', f⟩ := initO X C.2.2.1 C.2.2.2.2.1 C.2.2.2.2.2.1 w1 w2 w3 eT (g := mkF B.m pc L (.ref a :: st)) rfl (by rw [C.2.2.2.2.2.2.2.1]; exact hsz) rfl (hb C.2.2.2.1 hd) (by rw [C.2.1]; exact hf) (W := W) (by show 2 * 0 + _ ≤ _; omega) (by rw [C.2.1]; exact hl)
  obtain ⟨t, o, q, r⟩ := go T' _ X' N e'
  subst hpc
  exact ⟨t, o, f t q, r⟩
theorem g_static (C : Ctx B l rm bytes own nm maxL ret Z) {i : Nat} {y : MethodName} {b' : ByteArray} {mx : Nat} {rt : Option FieldType} {rm' : Room} {as' : Array Value} {Q' : Option Value → Heap → Prop} (w1 : (Jvm.Cond.methodLink own i y).before a0 Z = true) (w2 : (Jvm.Cond.static y).before a0 Z = true) (wz : (Jvm.Cond.initialized y.cls).before a0 Z = true) (wc : (Jvm.Cond.code y b' mx rt).before a0 Z = true) (hy : y.cls ≠ "java/lang/invoke/MethodHandle" ∧ y.cls ≠ "java/lang/invoke/VarHandle") (K : Met1 l Z y b' mx rt rm' n0 as' h Q') (argsL : List Value) {stk : List Value} (hst : stk = argsL.reverse ++ st) (has : as' = argsL.toArray) {ps : List FieldType} {r' : Option FieldType} (pd : parseMethodDescriptor y.desc = some ⟨ps, r'⟩) (hlen : argsL.length = ps.length) (hsz : L.size = maxL) (hf : rm'.frames + 1 ≤ rm.frames) {W : Nat} (hW : (st.map fun v => v.category).sum ≤ W) (hlo : W + (mx + 11) + rm'.locals ≤ rm.locals) (hc : k + rm'.cells ≤ rm.cells) (hs : n + rm'.slots ≤ rm.slots) (hd : decode bytes pc = .ok (.invokestatic i, 3)) (hpc : pc + 3 = pc') (go : ∀ v h', Q' v h' → Go B n0 Q h' (k + rm'.cells) (n + rm'.slots) pc' L (v.toList ++ st)) : Go B n0 Q h k n pc L stk := fun T locs X N eT => by
  subst hst has
  obtain ⟨v, _, ⟨T', L1, k1, n1⟩, -, X', ⟨L2, ⟨N', hq⟩, l1, l2, l3⟩, f⟩ := Jvm.LawKit.callS X C.2.2.1 (y := y) C.2.2.2.2.2.1 (mvT C.2.2.2.2.1 w1) (mvT C.2.2.2.2.1 w2) (mvT C.2.2.2.2.1 wz) (mvT C.2.2.2.2.1 wc) hy (backOf (W := W) (Q := fun v h L => Fr n0 L ∧ Q' v h) (C.1 ▸ K []) C.2.2.2.2.1 wc wz (by rw [C.2.1]; exact hf) (by rw [C.2.1]; exact hlo)) (g := mkF B.m pc L (argsL.reverse ++ st)) rfl (by rw [C.2.2.2.2.2.2.2.1]; exact hsz) (argsL := argsL) (rest := st) (lenOf pd hlen) rfl (by show 2 * 0 + _ ≤ _; omega) (hb C.2.2.2.1 hd) (fun _ _ => ⟨rfl, eT, by rw [C.2.1]; exact hc, by rw [C.2.1]; exact hs⟩)
  dsimp only [Pt.U, Pt.locs, Pt.cells, Pt.slots] at X' l1 l2 l3 f hq
  subst l1 l2 l3
  obtain ⟨t, o, q, r⟩ := go v _ hq T' _ X' (Fr.app N N') rfl
  subst hpc
  exact ⟨t, o, f t q, r⟩
theorem g_special (C : Ctx B l rm bytes own nm maxL ret Z) {i : Nat} {y : MethodName} {b' : ByteArray} {mx : Nat} {rm' : Room} {as' : Array Value} {Q' : Option Value → Heap → Prop} {a : Addr} (hy1 : y.name = "<init>") (w1 : (Jvm.Cond.methodLink own i y).before a0 Z = true) (w2 : (Jvm.Cond.instanceMethod y).before a0 Z = true) (wz : (Jvm.Cond.initialized y.cls).before a0 Z = true) (wc : (Jvm.Cond.code y b' mx none).before a0 Z = true) (hy : y.cls ≠ "java/lang/invoke/MethodHandle" ∧ y.cls ≠ "java/lang/invoke/VarHandle") (K : Met1 l Z y b' mx none rm' n0 as' h Q') (argsL : List Value) {stk : List Value} (hst : stk = argsL.reverse ++ .ref a :: st) (has : as' = (Value.ref a :: argsL).toArray) {ps : List FieldType} {r' : Option FieldType} (pd : parseMethodDescriptor y.desc = some ⟨ps, r'⟩) (hlen : argsL.length = ps.length) (hsz : L.size = maxL) (hf : rm'.frames + 1 ≤ rm.frames) {W : Nat} (hW : (st.map fun v => v.category).sum ≤ W) (hlo : W + (mx + 11) + rm'.locals ≤ rm.locals) (hc : k + rm'.cells ≤ rm.cells) (hs : n + rm'.slots ≤ rm.slots) (hd : decode bytes pc = .ok (.invokespecial i, 3)) (hpc : pc + 3 = pc') (go : ∀ v h', Q' v h' → Go B n0 Q h' (k + rm'.cells) (n + rm'.slots) pc' L (v.toList ++ st)) : Go B n0 Q h k n pc L stk := fun T locs X N eT => by
  subst hst has
  obtain ⟨v, _, ⟨T', L1, k1, n1⟩, -, X', ⟨L2, ⟨N', hq⟩, l1, l2, l3⟩, f⟩ := X.specialBack C.2.2.1 (y := y) hy1 C.2.2.2.2.2.1 (mvT C.2.2.2.2.1 w1) (mvT C.2.2.2.2.1 w2) (mvT C.2.2.2.2.1 wc) hy (backOf (W := W) (Q := fun v h L => Fr n0 L ∧ Q' v h) (C.1 ▸ K []) C.2.2.2.2.1 wc wz (by rw [C.2.1]; exact hf) (by rw [C.2.1]; exact hlo)) (g := mkF B.m pc L (argsL.reverse ++ .ref a :: st)) rfl (by rw [C.2.2.2.2.2.2.2.1]; exact hsz) (Steps.refl _) (a := a) (argsL := argsL) (rest := st) (lenOf pd hlen) rfl (by show 2 * 0 + _ ≤ _; omega) (hb C.2.2.2.1 hd) (fun _ _ => ⟨rfl, eT, by rw [C.2.1]; exact hc, by rw [C.2.1]; exact hs⟩)
  dsimp only [Pt.U, Pt.locs, Pt.cells, Pt.slots] at X' l1 l2 l3 f hq
  subst l1 l2 l3
  obtain ⟨t, o, q, r⟩ := go v _ hq T' _ X' (Fr.app N N') rfl
  subst hpc
  exact ⟨t, o, f.trans q, r⟩
theorem g_virtual (C : Ctx B l rm bytes own nm maxL ret Z) {i : Nat} {y : MethodName} {b' : ByteArray} {mx : Nat} {rt : Option FieldType} {rm' : Room} {as' : Array Value} {Q' : Option Value → Heap → Prop} {a : Addr} {K' : String} {y0 : MethodName} (w1 : (Jvm.Cond.methodLink own i y0).before a0 Z = true) (w2 : (Jvm.Cond.declares y0).before a0 Z = true) (w3 : (Jvm.Cond.selects K' y0 y).before a0 Z = true) (w4 : (Jvm.Cond.instanceMethod y).before a0 Z = true) (wz : (Jvm.Cond.initialized y.cls).before a0 Z = true) (wc : (Jvm.Cond.code y b' mx rt).before a0 Z = true) (nf : NotFace B.s y0) (hy : y0.cls ≠ "java/lang/invoke/MethodHandle" ∧ y0.cls ≠ "java/lang/invoke/VarHandle") (E : Exa Z h a K') (K : Met1 l Z y b' mx rt rm' n0 as' h Q') (argsL : List Value) {stk : List Value} (hst : stk = argsL.reverse ++ .ref a :: st) (has : as' = (Value.ref a :: argsL).toArray) {ps : List FieldType} {r' : Option FieldType} (pd : parseMethodDescriptor y0.desc = some ⟨ps, r'⟩) (hlen : argsL.length = ps.length) (hsz : L.size = maxL) (hf : rm'.frames + 1 ≤ rm.frames) {W : Nat} (hW : (st.map fun v => v.category).sum ≤ W) (hlo : W + (mx + 11) + rm'.locals ≤ rm.locals) (hc : k + rm'.cells ≤ rm.cells) (hs : n + rm'.slots ≤ rm.slots) (hd : decode bytes pc = .ok (.invokevirtual i, 3)) (hpc : pc + 3 = pc') (go : ∀ v h', Q' v h' → Go B n0 Q h' (k + rm'.cells) (n + rm'.slots) pc' L (v.toList ++ st)) : Go B n0 Q h k n pc L stk := fun T locs X N eT => by
  subst hst has
  obtain ⟨cq, kq, qa, qb, qc⟩ := isOf C.2.2.2.2.1 eT E
  obtain ⟨v, _, ⟨T', L1, k1, n1⟩, -, X', ⟨L2, ⟨N', hq⟩, l1, l2, l3⟩, f⟩ := X.virtualBack C.2.2.1 (y := y0) (z := y) C.2.2.2.2.2.1 (mvT C.2.2.2.2.1 w1) (mvT C.2.2.2.2.1 w2) nf (mvT C.2.2.2.2.1 w3) (mvT C.2.2.2.2.1 w4) hy (backOf (W := W) (Q := fun v h L => Fr n0 L ∧ Q' v h) (C.1 ▸ K []) C.2.2.2.2.1 wc wz (by rw [C.2.1]; exact hf) (by rw [C.2.1]; exact hlo)) qa qc (g := mkF B.m pc L (argsL.reverse ++ .ref a :: st)) rfl (by rw [C.2.2.2.2.2.2.2.1]; exact hsz) (Steps.refl _) (argsL := argsL) (rest := st) (lenOf pd hlen) rfl (by show 2 * 0 + _ ≤ _; omega) (hb C.2.2.2.1 hd) (fun _ _ => ⟨rfl, eT, by rw [C.2.1]; exact hc, by rw [C.2.1]; exact hs⟩)
  dsimp only [Pt.U, Pt.locs, Pt.cells, Pt.slots] at X' l1 l2 l3 f hq
  subst l1 l2 l3
  obtain ⟨t, o, q, r⟩ := go v _ hq T' _ X' (Fr.app N N') rfl
  subst hpc
  exact ⟨t, o, f.trans q, r⟩
theorem g_ret (C : Ctx B l rm bytes own nm maxL ret Z) {v : Value} {ty : FieldType} {i : Instr} (hret : ret = some ty) (hn : narrow ty v = v)
    (hi : (i = .ireturn ∧ (ty = .int ∨ ty = .boolean ∨ ty = .byte ∨ ty = .char ∨ ty = .short) ∧ ∃ z, v = .int z) ∨ (i = .lreturn ∧ ty = .long ∧ ∃ z, v = .long z) ∨ (i = .dreturn ∧ ty = .double ∧ ∃ z, v = .double z) ∨ (i = .freturn ∧ ty = .float ∧ ∃ z, v = .float z) ∨ (i = .areturn ∧ ty.isReference = true ∧ v.isRef = true))
    (hd : decode bytes pc = .ok (i, 1)) (hk : k ≤ rm.cells) (hs : n ≤ rm.slots) (go : Q (some v) h) : Go B n0 Q h k n pc L (v :: st) := fun T locs X N eT => by
  have hr0 : B.meth.sig.returnType = some ty := C.2.2.2.2.2.2.2.2.1.trans hret
  obtain ⟨fs, hr, hrun, hended, hW, hsame⟩ := X.leave (v := some v) (fun q => by rw [hr0] at q; cases q) C.2.2.2.2.2.2.2.2.2
  exact ⟨_, _, retOut X C.2.2.1 hr0 hn hi (hb C.2.2.2.1 hd) hr, hrun, hended, _, _, rfl, ⟨N, by show Q _ T.heap; rw [eT]; exact go⟩, ⟨_, rfl⟩, hW, hsame.mono (by rw [C.2.1]; exact hk) (by rw [C.2.1]; exact hs)⟩
theorem g_return (C : Ctx B l rm bytes own nm maxL ret Z) (hret : ret = none) (hd : decode bytes pc = .ok (.return_, 1)) (hk : k ≤ rm.cells) (hs : n ≤ rm.slots) (go : Q none h) : Go B n0 Q h k n pc L [] := fun T locs X N eT => by
  have hr0 : B.meth.sig.returnType = none := C.2.2.2.2.2.2.2.2.1.trans hret
  obtain ⟨fs, hr, hrun, hended, hW, hsame⟩ := X.leave (v := none) (fun _ => rfl) C.2.2.2.2.2.2.2.2.2
  exact ⟨_, _, X.returnOut C.2.2.1 hr0 (hb C.2.2.2.1 hd) hr, hrun, hended, _, _, rfl, ⟨N, by show Q _ T.heap; rw [eT]; exact go⟩, ⟨_, rfl⟩, hW, hsame.mono (by rw [C.2.1]; exact hk) (by rw [C.2.1]; exact hs)⟩
end Base
/-! arrays made on the road -/
section Arrays
variable {Z : State} {h h' : Heap} {a b : Addr} {ty : FieldType} {vs : List Value} {ws : List Addr} {sl : Nat} {v : Value} {K : String}
def Ary (Z : State) (h : Heap) (a : Addr) (ty : FieldType) (vs : List Value) : Prop := ∃ c : Cell, Arr Z h a c ty ∧ c.slots.toList = vs ∧ vs.length < 2 ^ 31
def AryR (Z : State) (h : Heap) (a : Addr) (K : String) (vs : List Value) : Prop := ∃ c : Cell, Arr Z h a c (.object K) ∧ Ovr Z c.cls K ∧ c.slots.toList = vs ∧ vs.length < 2 ^ 31
theorem AryR.ary (F : AryR Z h a K vs) : Ary Z h a (.object K) vs := by obtain ⟨c, A, -, r⟩ := F; exact ⟨c, A, r⟩
theorem Ary.lt (F : Ary Z h a ty vs) : a < h.size := by obtain ⟨c, A, -⟩ := F; exact A.lt
theorem AryR.lt (F : AryR Z h a K vs) : a < h.size := F.ary.lt
theorem Ary.ext (F : Ary Z h a ty vs) (E : Ext h h') : Ary Z h' a ty vs := by obtain ⟨c, A, r⟩ := F; exact ⟨c, A.ext E, r⟩
theorem AryR.ext (F : AryR Z h a K vs) (E : Ext h h') : AryR Z h' a K vs := by obtain ⟨c, A, r⟩ := F; exact ⟨c, A.ext E, r⟩
theorem Ary.keep (F : Ary Z h a ty vs) (K : Keep h h' ws) (q : a ∉ ws) : Ary Z h' a ty vs := by obtain ⟨c, A, r⟩ := F; exact ⟨c, ⟨K.2.1 a c A.1 q, A.2⟩, r⟩
theorem AryR.keep (F : AryR Z h a K vs) (Kp : Keep h h' ws) (q : a ∉ ws) : AryR Z h' a K vs := by obtain ⟨c, A, r⟩ := F; exact ⟨c, ⟨Kp.2.1 a c A.1 q, A.2⟩, r⟩
theorem set_list (c : Cell) (i : Nat) (v : Value) : (c.setSlot i v).slots.toList = c.slots.toList.set i v := by simp [Cell.setSlot]
theorem keep_ext (E : Ext h h') : Keep h h' [] := (Keep.refl h []).ext E
theorem ne_new {c : Nat} (q : a < c) (e : b = c) : a ≠ b := fun z => absurd q (by rw [z, e]; exact Nat.lt_irrefl _)
theorem ne_newL {c : Nat} (q : a < c) (e : b = c) : b ≠ a := fun z => absurd q (by rw [← z, e]; exact Nat.lt_irrefl _)
theorem ne_ge {c : Nat} (q : a < c) (e : c ≤ b) : a ≠ b := fun z => absurd q (Nat.not_lt.mpr (z ▸ e))
theorem nin1 (q : a ≠ b) : a ∉ [b] := ninS q nin0
theorem in_b {j : Int32} {c : Cell} {i : Nat} (h0 : ¬ j < 0) (hj : j.toNatClampNeg = i) (hi : i < c.slots.size) : ¬ (j < 0 ∨ c.slots.size ≤ j.toNatClampNeg) := fun q => q.elim h0 fun q => by omega
end Arrays
section ArraySteps
variable {B : Bod} {l : Launch} {rm : Room} {bytes : ByteArray} {own nm : String} {maxL : Nat} {ret : Option FieldType} {Z : State} {n0 : Nat} {Q : Option Value → Heap → Prop} {h : Heap} {k n pc pc' : Nat} {L L' : Array Slot} {st st' : List Value} {a0 : Array Value}
theorem g_iaload (C : Ctx B l rm bytes own nm maxL ret Z) {a : Addr} {vs : List Value} {j : Int32} {i : Nat} {v : Int32} (F : Ary Z h a .int vs) (h0 : ¬ j < 0) (hj : j.toNatClampNeg = i) (hv : vs[i]? = some (.int v)) (hd : decode bytes pc = .ok (.iaload, 1)) (hpc : pc + 1 = pc') (go : Go B n0 Q h k n pc' L (.int v :: st)) : Go B n0 Q h k n pc L (.int j :: .ref a :: st) := go.step fun T locs X eT t q => by
  obtain ⟨c, A, rfl, hl⟩ := F
  have hi := (List.getElem?_eq_some_iff.mp hv).1
  rw [Array.length_toList] at hi
  rw [Array.getElem?_toList, ← hj] at hv
  exact X.iaload C.2.2.1 (by rw [eT]; exact A.1) (State.isArrayOf_alike C.2.2.2.2.1.alike A.2.1)  A.2.2 (in_b h0 hj hi) hv (g := mkF B.m pc L (.int j :: .ref a :: st)) rfl rfl (hb C.2.2.2.1 hd) t (by subst hpc; exact q)
theorem g_laload (C : Ctx B l rm bytes own nm maxL ret Z) {a : Addr} {vs : List Value} {j : Int32} {i : Nat} {v : Int64} (F : Ary Z h a .long vs) (h0 : ¬ j < 0) (hj : j.toNatClampNeg = i) (hv : vs[i]? = some (.long v)) (hd : decode bytes pc = .ok (.laload, 1)) (hpc : pc + 1 = pc') (go : Go B n0 Q h k n pc' L (.long v :: st)) : Go B n0 Q h k n pc L (.int j :: .ref a :: st) := go.step fun T locs X eT t q => by
  obtain ⟨c, A, rfl, hl⟩ := F
  have hi := (List.getElem?_eq_some_iff.mp hv).1
  rw [Array.length_toList] at hi
  rw [Array.getElem?_toList, ← hj] at hv
  exact X.laload C.2.2.1 (by rw [eT]; exact A.1) (State.isArrayOf_alike C.2.2.2.2.1.alike A.2.1)  A.2.2 (in_b h0 hj hi) hv (g := mkF B.m pc L (.int j :: .ref a :: st)) rfl rfl (hb C.2.2.2.1 hd) t (by subst hpc; exact q)
theorem g_caload (C : Ctx B l rm bytes own nm maxL ret Z) {a : Addr} {vs : List Value} {j : Int32} {i : Nat} {v : Int32} (F : Ary Z h a .char vs) (h0 : ¬ j < 0) (hj : j.toNatClampNeg = i) (hv : vs[i]? = some (.int v)) (hd : decode bytes pc = .ok (.caload, 1)) (hpc : pc + 1 = pc') (go : Go B n0 Q h k n pc' L (.int v :: st)) : Go B n0 Q h k n pc L (.int j :: .ref a :: st) := go.step fun T locs X eT t q => by
  obtain ⟨c, A, rfl, hl⟩ := F
  have hi := (List.getElem?_eq_some_iff.mp hv).1
  rw [Array.length_toList] at hi
  rw [Array.getElem?_toList, ← hj] at hv
  exact X.caload C.2.2.1 (by rw [eT]; exact A.1) (State.isArrayOf_alike C.2.2.2.2.1.alike A.2.1)  A.2.2 (in_b h0 hj hi) hv (g := mkF B.m pc L (.int j :: .ref a :: st)) rfl rfl (hb C.2.2.2.1 hd) t (by subst hpc; exact q)
theorem g_baloadB (C : Ctx B l rm bytes own nm maxL ret Z) {a : Addr} {vs : List Value} {j : Int32} {i : Nat} {v : Int32} (F : Ary Z h a .byte vs) (h0 : ¬ j < 0) (hj : j.toNatClampNeg = i) (hv : vs[i]? = some (.int v)) (hd : decode bytes pc = .ok (.baload, 1)) (hpc : pc + 1 = pc') (go : Go B n0 Q h k n pc' L (.int v :: st)) : Go B n0 Q h k n pc L (.int j :: .ref a :: st) := go.step fun T locs X eT t q => by
  obtain ⟨c, A, rfl, hl⟩ := F
  have hi := (List.getElem?_eq_some_iff.mp hv).1
  rw [Array.length_toList] at hi
  rw [Array.getElem?_toList, ← hj] at hv
  exact X.baloadBytes C.2.2.1 (by rw [eT]; exact A.1) (State.isArrayOf_alike C.2.2.2.2.1.alike A.2.1)  A.2.2 (in_b h0 hj hi) hv (g := mkF B.m pc L (.int j :: .ref a :: st)) rfl rfl (hb C.2.2.2.1 hd) t (by subst hpc; exact q)
theorem g_baloadZ (C : Ctx B l rm bytes own nm maxL ret Z) {a : Addr} {vs : List Value} {j : Int32} {i : Nat} {v : Int32} (F : Ary Z h a .boolean vs) (h0 : ¬ j < 0) (hj : j.toNatClampNeg = i) (hv : vs[i]? = some (.int v)) (hd : decode bytes pc = .ok (.baload, 1)) (hpc : pc + 1 = pc') (go : Go B n0 Q h k n pc' L (.int v :: st)) : Go B n0 Q h k n pc L (.int j :: .ref a :: st) := go.step fun T locs X eT t q => by
  obtain ⟨c, A, rfl, hl⟩ := F
  have hi := (List.getElem?_eq_some_iff.mp hv).1
  rw [Array.length_toList] at hi
  rw [Array.getElem?_toList, ← hj] at hv
  exact X.baloadBooleans C.2.2.1 (by rw [eT]; exact A.1) (State.isArrayOf_alike C.2.2.2.2.1.alike A.2.1)  A.2.2 (in_b h0 hj hi) hv (g := mkF B.m pc L (.int j :: .ref a :: st)) rfl rfl (hb C.2.2.2.1 hd) t (by subst hpc; exact q)
theorem g_aaload (C : Ctx B l rm bytes own nm maxL ret Z) {a : Addr} {vs : List Value} {j : Int32} {i : Nat} {v : Value} {ty : FieldType} (F : Ary Z h a ty vs) (hty : ty.isReference = true) (h0 : ¬ j < 0) (hj : j.toNatClampNeg = i) (hv : vs[i]? = some v) (hd : decode bytes pc = .ok (.aaload, 1)) (hpc : pc + 1 = pc') (go : Go B n0 Q h k n pc' L (v :: st)) : Go B n0 Q h k n pc L (.int j :: .ref a :: st) := go.step fun T locs X eT t q => by
  obtain ⟨c, A, rfl, hl⟩ := F
  have hi := (List.getElem?_eq_some_iff.mp hv).1
  rw [Array.length_toList] at hi
  rw [Array.getElem?_toList, ← hj] at hv
  exact X.aaload C.2.2.1 (by rw [eT]; exact A.1) (State.isArrayOf_alike C.2.2.2.2.1.alike A.2.1) hty A.2.2 (in_b h0 hj hi) hv (g := mkF B.m pc L (.int j :: .ref a :: st)) rfl rfl (hb C.2.2.2.1 hd) t (by subst hpc; exact q)
theorem g_arraylength (C : Ctx B l rm bytes own nm maxL ret Z) {a : Addr} {vs : List Value} {ty : FieldType} {z : Int32} (F : Ary Z h a ty vs) (hz : vs.length.toInt32 = z) (hd : decode bytes pc = .ok (.arraylength, 1)) (hpc : pc + 1 = pc') (go : Go B n0 Q h k n pc' L (.int z :: st)) : Go B n0 Q h k n pc L (.ref a :: st) := go.step fun T locs X eT t q => by
  obtain ⟨c, A, rfl, hl⟩ := F
  rw [Array.length_toList] at hz
  exact X.arraylength C.2.2.1 (by rw [eT]; exact A.1) (State.isArrayOf_alike C.2.2.2.2.1.alike A.2.1) (g := mkF B.m pc L (.ref a :: st)) rfl rfl (hb C.2.2.2.1 hd) t (by subst hpc hz; exact q)
theorem g_iastore (C : Ctx B l rm bytes own nm maxL ret Z) {a : Addr} {vs : List Value} {j : Int32} {i : Nat} {v : Int32} {w : Value} (F : Ary Z h a .int vs) (h0 : ¬ j < 0) (hj : j.toNatClampNeg = i) (hi : i < vs.length) (hw : Value.int v = w) (ge : n0 ≤ a) (hd : decode bytes pc = .ok (.iastore, 1)) (hpc : pc + 1 = pc') (go : ∀ h', Keep h h' [a] → Ary Z h' a .int (vs.set i w) → Go B n0 Q h' k n pc' L st) : Go B n0 Q h k n pc L (.int v :: .int j :: .ref a :: st) := fun T locs X N eT => by
  obtain ⟨c, A, rfl, hl⟩ := F
  have hi' := hi
  rw [Array.length_toList] at hi'
  obtain ⟨T', h', X', e', W, f⟩ := stI X C.2.2.1 C.2.2.2.2.1 eT A (in_b h0 hj hi') (g := mkF B.m pc L (.int v :: .int j :: .ref a :: st)) rfl rfl (hb C.2.2.2.1 hd)
  rw [hj, hw] at W
  obtain ⟨t, o, q, r⟩ := go h' (Keep.of_wr W) ⟨_, A.same W, set_list c i w, by rw [List.length_set]; exact hl⟩ T' _ X' (Fr.snoc X' N ge) e'
  subst hpc
  exact ⟨t, o, f t q, r⟩
theorem g_lastore (C : Ctx B l rm bytes own nm maxL ret Z) {a : Addr} {vs : List Value} {j : Int32} {i : Nat} {v : Int64} {w : Value} (F : Ary Z h a .long vs) (h0 : ¬ j < 0) (hj : j.toNatClampNeg = i) (hi : i < vs.length) (hw : Value.long v = w) (ge : n0 ≤ a) (hd : decode bytes pc = .ok (.lastore, 1)) (hpc : pc + 1 = pc') (go : ∀ h', Keep h h' [a] → Ary Z h' a .long (vs.set i w) → Go B n0 Q h' k n pc' L st) : Go B n0 Q h k n pc L (.long v :: .int j :: .ref a :: st) := fun T locs X N eT => by
  obtain ⟨c, A, rfl, hl⟩ := F
  have hi' := hi
  rw [Array.length_toList] at hi'
  obtain ⟨T', h', X', e', W, f⟩ := stJ X C.2.2.1 C.2.2.2.2.1 eT A (in_b h0 hj hi') (g := mkF B.m pc L (.long v :: .int j :: .ref a :: st)) rfl rfl (hb C.2.2.2.1 hd)
  rw [hj, hw] at W
  obtain ⟨t, o, q, r⟩ := go h' (Keep.of_wr W) ⟨_, A.same W, set_list c i w, by rw [List.length_set]; exact hl⟩ T' _ X' (Fr.snoc X' N ge) e'
  subst hpc
  exact ⟨t, o, f t q, r⟩
theorem g_castore (C : Ctx B l rm bytes own nm maxL ret Z) {a : Addr} {vs : List Value} {j : Int32} {i : Nat} {v : Int32} {w : Value} (F : Ary Z h a .char vs) (h0 : ¬ j < 0) (hj : j.toNatClampNeg = i) (hi : i < vs.length) (hw : Value.int (nar .char v) = w) (ge : n0 ≤ a) (hd : decode bytes pc = .ok (.castore, 1)) (hpc : pc + 1 = pc') (go : ∀ h', Keep h h' [a] → Ary Z h' a .char (vs.set i w) → Go B n0 Q h' k n pc' L st) : Go B n0 Q h k n pc L (.int v :: .int j :: .ref a :: st) := fun T locs X N eT => by
  obtain ⟨c, A, rfl, hl⟩ := F
  have hi' := hi
  rw [Array.length_toList] at hi'
  obtain ⟨T', h', X', e', W, f⟩ := stC X C.2.2.1 C.2.2.2.2.1 eT A (in_b h0 hj hi') (g := mkF B.m pc L (.int v :: .int j :: .ref a :: st)) rfl rfl (hb C.2.2.2.1 hd)
  rw [hj, hw] at W
  obtain ⟨t, o, q, r⟩ := go h' (Keep.of_wr W) ⟨_, A.same W, set_list c i w, by rw [List.length_set]; exact hl⟩ T' _ X' (Fr.snoc X' N ge) e'
  subst hpc
  exact ⟨t, o, f t q, r⟩
theorem g_bastoreB (C : Ctx B l rm bytes own nm maxL ret Z) {a : Addr} {vs : List Value} {j : Int32} {i : Nat} {v : Int32} {w : Value} (F : Ary Z h a .byte vs) (h0 : ¬ j < 0) (hj : j.toNatClampNeg = i) (hi : i < vs.length) (hw : Value.int (nar .byte v) = w) (ge : n0 ≤ a) (hd : decode bytes pc = .ok (.bastore, 1)) (hpc : pc + 1 = pc') (go : ∀ h', Keep h h' [a] → Ary Z h' a .byte (vs.set i w) → Go B n0 Q h' k n pc' L st) : Go B n0 Q h k n pc L (.int v :: .int j :: .ref a :: st) := fun T locs X N eT => by
  obtain ⟨c, A, rfl, hl⟩ := F
  have hi' := hi
  rw [Array.length_toList] at hi'
  obtain ⟨T', h', X', e', W, f⟩ := stB X C.2.2.1 C.2.2.2.2.1 eT A (in_b h0 hj hi') (g := mkF B.m pc L (.int v :: .int j :: .ref a :: st)) rfl rfl (hb C.2.2.2.1 hd)
  rw [hj, hw] at W
  obtain ⟨t, o, q, r⟩ := go h' (Keep.of_wr W) ⟨_, A.same W, set_list c i w, by rw [List.length_set]; exact hl⟩ T' _ X' (Fr.snoc X' N ge) e'
  subst hpc
  exact ⟨t, o, f t q, r⟩
theorem g_bastoreZ (C : Ctx B l rm bytes own nm maxL ret Z) {a : Addr} {vs : List Value} {j : Int32} {i : Nat} {v : Int32} {w : Value} (F : Ary Z h a .boolean vs) (h0 : ¬ j < 0) (hj : j.toNatClampNeg = i) (hi : i < vs.length) (hw : Value.int (nar .boolean v) = w) (ge : n0 ≤ a) (hd : decode bytes pc = .ok (.bastore, 1)) (hpc : pc + 1 = pc') (go : ∀ h', Keep h h' [a] → Ary Z h' a .boolean (vs.set i w) → Go B n0 Q h' k n pc' L st) : Go B n0 Q h k n pc L (.int v :: .int j :: .ref a :: st) := fun T locs X N eT => by
  obtain ⟨c, A, rfl, hl⟩ := F
  have hi' := hi
  rw [Array.length_toList] at hi'
  obtain ⟨T', h', X', e', W, f⟩ := stZ X C.2.2.1 C.2.2.2.2.1 eT A (in_b h0 hj hi') (g := mkF B.m pc L (.int v :: .int j :: .ref a :: st)) rfl rfl (hb C.2.2.2.1 hd)
  rw [hj, hw] at W
  obtain ⟨t, o, q, r⟩ := go h' (Keep.of_wr W) ⟨_, A.same W, set_list c i w, by rw [List.length_set]; exact hl⟩ T' _ X' (Fr.snoc X' N ge) e'
  subst hpc
  exact ⟨t, o, f t q, r⟩
theorem g_aastore (C : Ctx B l rm bytes own nm maxL ret Z) {a y : Addr} {K : String} {vs : List Value} {j : Int32} {i : Nat} (F : AryR Z h a K vs) (I : Ins Z h y K true) (h0 : ¬ j < 0) (hj : j.toNatClampNeg = i) (hi : i < vs.length) (ge : n0 ≤ a) (hd : decode bytes pc = .ok (.aastore, 1)) (hpc : pc + 1 = pc') (go : ∀ h', Keep h h' [a] → AryR Z h' a K (vs.set i (.ref y)) → Go B n0 Q h' k n pc' L st) : Go B n0 Q h k n pc L (.ref y :: .int j :: .ref a :: st) := fun T locs X N eT => by
  obtain ⟨c, A, O, rfl, hl⟩ := F
  have hi' := hi
  rw [Array.length_toList] at hi'
  obtain ⟨T', h', X', e', W, f⟩ := stR X C.2.2.1 C.2.2.2.2.1 eT A (in_b h0 hj hi') rfl (Sto.of A O I) (g := mkF B.m pc L (.ref y :: .int j :: .ref a :: st)) rfl rfl (hb C.2.2.2.1 hd)
  rw [hj] at W
  obtain ⟨t, o, q, r⟩ := go h' (Keep.of_wr W) ⟨_, A.same W, O, set_list c i _, by rw [List.length_set]; exact hl⟩ T' _ X' (Fr.snoc X' N ge) e'
  subst hpc
  exact ⟨t, o, f t q, r⟩
theorem g_newarray (C : Ctx B l rm bytes own nm maxL ret Z) {aty : ArrayType} {z : Int32} {cap : Nat} {ty : FieldType} (w : (Jvm.Cond.arrayClass (newarray.typeOf aty)).before a0 Z = true) (hty : newarray.typeOf aty = ty) (hz : ¬ z < 0) (hcap : z.toNatClampNeg = cap) (hcb : cap * 8 ≤ 536870912) (hc : k + 1 ≤ rm.cells) (hl : n + cap ≤ rm.slots) (hd : decode bytes pc = .ok (.newarray aty, 2)) (hpc : pc + 2 = pc') (go : ∀ h' a, a = h.size → Ext h h' → Ary Z h' a ty (List.replicate cap (defaultValue ty)) → Go B n0 Q h' (k + 1) (n + cap) pc' L (.ref a :: st)) : Go B n0 Q h k n pc L (.int z :: st) := fun T locs X N eT => by
  subst hty
  obtain ⟨T', h', cA, X', e', E, A, f⟩ := newP X C.2.2.1 C.2.2.2.2.1 w eT (g := mkF B.m pc L (.int z :: st)) rfl (hb C.2.2.2.1 hd) rfl hz (cap := cap) (Nat.le_of_eq hcap) hcb (by rw [C.2.1]; exact hc) (by rw [C.2.1]; exact hl)
  obtain ⟨t, o, q, r⟩ := go h' _ rfl E ⟨_, A, by rw [← hcap]; simp [newA], by rw [List.length_replicate]; omega⟩ T' _ X' N e'
  subst hpc
  exact ⟨t, o, f t q, r⟩
theorem g_newarrayUpTo (C : Ctx B l rm bytes own nm maxL ret Z) {aty : ArrayType} {z : Int32} {len cap : Nat} {ty : FieldType} (w : (Jvm.Cond.arrayClass (newarray.typeOf aty)).before a0 Z = true) (hty : newarray.typeOf aty = ty) (hz : ¬ z < 0) (hlen : z.toNatClampNeg = len) (hcap : len ≤ cap) (hcb : cap * 8 ≤ 536870912) (hc : k + 1 ≤ rm.cells) (hl : n + cap ≤ rm.slots) (hd : decode bytes pc = .ok (.newarray aty, 2)) (hpc : pc + 2 = pc') (go : ∀ h' a, a = h.size → Ext h h' → Ary Z h' a ty (List.replicate len (defaultValue ty)) → Go B n0 Q h' (k + 1) (n + cap) pc' L (.ref a :: st)) : Go B n0 Q h k n pc L (.int z :: st) := fun T locs X N eT => by
  subst hty
  obtain ⟨T', h', cA, X', e', E, A, f⟩ := newP X C.2.2.1 C.2.2.2.2.1 w eT (g := mkF B.m pc L (.int z :: st)) rfl (hb C.2.2.2.1 hd) rfl hz (cap := cap) (by rw [hlen]; exact hcap) hcb (by rw [C.2.1]; exact hc) (by rw [C.2.1]; exact hl)
  obtain ⟨t, o, q, r⟩ := go h' _ rfl E ⟨_, A, by rw [← hlen]; simp [newA], by rw [List.length_replicate]; omega⟩ T' _ X' N e'
  subst hpc
  exact ⟨t, o, f t q, r⟩
theorem g_anewarray (C : Ctx B l rm bytes own nm maxL ret Z) {i : Nat} {K : String} {z : Int32} {cap : Nat} (w : (Jvm.Cond.classLink own i K).before a0 Z = true) (w2 : (Jvm.Cond.arrayOver (.object K)).before a0 Z = true) (hz : ¬ z < 0) (hcap : z.toNatClampNeg = cap) (hcb : cap * 8 ≤ 536870912) (hc : k + 1 ≤ rm.cells) (hl : n + cap ≤ rm.slots) (hd : decode bytes pc = .ok (.anewarray i, 3)) (hpc : pc + 3 = pc') (go : ∀ h' a, a = h.size → Ext h h' → AryR Z h' a K (List.replicate cap .null) → Go B n0 Q h' (k + 1) (n + cap) pc' L (.ref a :: st)) : Go B n0 Q h k n pc L (.int z :: st) := fun T locs X N eT => by
  obtain ⟨T', h', cA, X', e', E, A, O, f⟩ := newR X C.2.2.1 C.2.2.2.2.1 C.2.2.2.2.2.1 w w2 eT (g := mkF B.m pc L (.int z :: st)) rfl (hb C.2.2.2.1 hd) rfl hz (cap := cap) (Nat.le_of_eq hcap) hcb (by rw [C.2.1]; exact hc) (by rw [C.2.1]; exact hl)
  obtain ⟨t, o, q, r⟩ := go h' _ rfl E ⟨_, A, O, by rw [← hcap]; simp [newA, defaultValue], by rw [List.length_replicate]; omega⟩ T' _ X' N e'
  subst hpc
  exact ⟨t, o, f t q, r⟩
end ArraySteps
end Jvm.OwnKit
namespace Jvm.Pilot.@@N@@
open Jvm Jvm.ClassFile Sem Op Lib Jvm.Free Jvm.Stand Jvm.LawKit Jvm.RoadKit Jvm.OwnKit Bundle Jvm.Pilot.@@N@@.Jvm.D
theorem own_w {a0 : Array Value} {Z : State} (hw : ∀ d ∈ tables_1, d.before a0 Z = true) (k : Nat) {d : Jvm.Cond} (e : tables_1[k]? = some d) : d.before a0 Z = true := hw _ (List.mem_of_getElem? e)
def Ens (Z : State) (e_NONE e_BEGIN e_SUSPENDING_BEGIN e_COMMIT_AND_BEGIN e_IMPLICIT_COMMIT_AND_BEGIN e_ROLLBACK e_COMMIT e_PREPARE e_IMPLICIT_COMMIT e_ISOLATION_COMMIT : Addr) : Prop := (Sta Z Z.heap "com/example/measured_savepoints/measuredsavepoints/SavepointSql$TransactionEnd" "NONE" "Lcom/example/measured_savepoints/measuredsavepoints/SavepointSql$TransactionEnd;" (.ref e_NONE) ∧ Exa Z Z.heap e_NONE "com/example/measured_savepoints/measuredsavepoints/SavepointSql$TransactionEnd" ∧ Fld Z Z.heap e_NONE "java/lang/Enum" "ordinal" "I" (.int (0 : Int32))) ∧ (Sta Z Z.heap "com/example/measured_savepoints/measuredsavepoints/SavepointSql$TransactionEnd" "BEGIN" "Lcom/example/measured_savepoints/measuredsavepoints/SavepointSql$TransactionEnd;" (.ref e_BEGIN) ∧ Exa Z Z.heap e_BEGIN "com/example/measured_savepoints/measuredsavepoints/SavepointSql$TransactionEnd" ∧ Fld Z Z.heap e_BEGIN "java/lang/Enum" "ordinal" "I" (.int (1 : Int32))) ∧ (Sta Z Z.heap "com/example/measured_savepoints/measuredsavepoints/SavepointSql$TransactionEnd" "SUSPENDING_BEGIN" "Lcom/example/measured_savepoints/measuredsavepoints/SavepointSql$TransactionEnd;" (.ref e_SUSPENDING_BEGIN) ∧ Exa Z Z.heap e_SUSPENDING_BEGIN "com/example/measured_savepoints/measuredsavepoints/SavepointSql$TransactionEnd" ∧ Fld Z Z.heap e_SUSPENDING_BEGIN "java/lang/Enum" "ordinal" "I" (.int (2 : Int32))) ∧ (Sta Z Z.heap "com/example/measured_savepoints/measuredsavepoints/SavepointSql$TransactionEnd" "COMMIT_AND_BEGIN" "Lcom/example/measured_savepoints/measuredsavepoints/SavepointSql$TransactionEnd;" (.ref e_COMMIT_AND_BEGIN) ∧ Exa Z Z.heap e_COMMIT_AND_BEGIN "com/example/measured_savepoints/measuredsavepoints/SavepointSql$TransactionEnd" ∧ Fld Z Z.heap e_COMMIT_AND_BEGIN "java/lang/Enum" "ordinal" "I" (.int (6 : Int32))) ∧ (Sta Z Z.heap "com/example/measured_savepoints/measuredsavepoints/SavepointSql$TransactionEnd" "IMPLICIT_COMMIT_AND_BEGIN" "Lcom/example/measured_savepoints/measuredsavepoints/SavepointSql$TransactionEnd;" (.ref e_IMPLICIT_COMMIT_AND_BEGIN) ∧ Exa Z Z.heap e_IMPLICIT_COMMIT_AND_BEGIN "com/example/measured_savepoints/measuredsavepoints/SavepointSql$TransactionEnd" ∧ Fld Z Z.heap e_IMPLICIT_COMMIT_AND_BEGIN "java/lang/Enum" "ordinal" "I" (.int (8 : Int32))) ∧ (Sta Z Z.heap "com/example/measured_savepoints/measuredsavepoints/SavepointSql$TransactionEnd" "ROLLBACK" "Lcom/example/measured_savepoints/measuredsavepoints/SavepointSql$TransactionEnd;" (.ref e_ROLLBACK) ∧ Exa Z Z.heap e_ROLLBACK "com/example/measured_savepoints/measuredsavepoints/SavepointSql$TransactionEnd" ∧ Fld Z Z.heap e_ROLLBACK "java/lang/Enum" "ordinal" "I" (.int (3 : Int32))) ∧ (Sta Z Z.heap "com/example/measured_savepoints/measuredsavepoints/SavepointSql$TransactionEnd" "COMMIT" "Lcom/example/measured_savepoints/measuredsavepoints/SavepointSql$TransactionEnd;" (.ref e_COMMIT) ∧ Exa Z Z.heap e_COMMIT "com/example/measured_savepoints/measuredsavepoints/SavepointSql$TransactionEnd" ∧ Fld Z Z.heap e_COMMIT "java/lang/Enum" "ordinal" "I" (.int (4 : Int32))) ∧ (Sta Z Z.heap "com/example/measured_savepoints/measuredsavepoints/SavepointSql$TransactionEnd" "PREPARE" "Lcom/example/measured_savepoints/measuredsavepoints/SavepointSql$TransactionEnd;" (.ref e_PREPARE) ∧ Exa Z Z.heap e_PREPARE "com/example/measured_savepoints/measuredsavepoints/SavepointSql$TransactionEnd" ∧ Fld Z Z.heap e_PREPARE "java/lang/Enum" "ordinal" "I" (.int (5 : Int32))) ∧ (Sta Z Z.heap "com/example/measured_savepoints/measuredsavepoints/SavepointSql$TransactionEnd" "IMPLICIT_COMMIT" "Lcom/example/measured_savepoints/measuredsavepoints/SavepointSql$TransactionEnd;" (.ref e_IMPLICIT_COMMIT) ∧ Exa Z Z.heap e_IMPLICIT_COMMIT "com/example/measured_savepoints/measuredsavepoints/SavepointSql$TransactionEnd" ∧ Fld Z Z.heap e_IMPLICIT_COMMIT "java/lang/Enum" "ordinal" "I" (.int (7 : Int32))) ∧ (Sta Z Z.heap "com/example/measured_savepoints/measuredsavepoints/SavepointSql$TransactionEnd" "ISOLATION_COMMIT" "Lcom/example/measured_savepoints/measuredsavepoints/SavepointSql$TransactionEnd;" (.ref e_ISOLATION_COMMIT) ∧ Exa Z Z.heap e_ISOLATION_COMMIT "com/example/measured_savepoints/measuredsavepoints/SavepointSql$TransactionEnd" ∧ Fld Z Z.heap e_ISOLATION_COMMIT "java/lang/Enum" "ordinal" "I" (.int (9 : Int32)))
theorem own_const {args : Array Value} {s : State} {K K' n d : String} (hx : (Jvm.Cond.exactly (.static K n d) K').value args s none s [] = some true) (hi : (Jvm.Cond.initialized K).before args s = true) (hl : (Jvm.Cond.laysStatic K n d).before args s = true) : ∃ a, Sta s s.heap K n d (.ref a) ∧ Exa s s.heap a K' ∧ (Jvm.Term.static K n d).eval args s none [] s = some (.ref a) := by
  have hx' : (Jvm.Cond.exactly (.static K n d) K').before args s = true := Cond.before_iff.mpr hx
  obtain ⟨a, c, cell, k, e1, -⟩ := Cond.exactly_spec hx'
  exact ⟨a, Sta.start e1 (Or.inr ⟨hi, hl⟩), Exa.start e1 hx, e1⟩
theorem own_fint {args : Array Value} {s : State} {C n d : String} {t : Jvm.Term} {a : Addr} {z : Int32} (e1 : t.eval args s none [] s = some (.ref a)) (h : (Jvm.Cond.eq (.field t C n d) (.int z)).value args s none s [] = some true) : Fld s s.heap a C n d (.int z) :=
  Fld.start (by have q := Cond.eq_int (Cond.before_iff.mpr h) rfl; simpa [Jvm.Term.eval, e1] using q)
theorem own_fref {args : Array Value} {s : State} {C n d K : String} {t : Jvm.Term} {a : Addr} (e1 : t.eval args s none [] s = some (.ref a)) (h : (Jvm.Cond.exactly (.field t C n d) K).value args s none s [] = some true) : ∃ r, Fld s s.heap a C n d (.ref r) := by
  obtain ⟨r, c, cell, k, e2, -⟩ := Cond.exactly_spec (Cond.before_iff.mpr h)
  exact ⟨r, Fld.start (by simpa [Jvm.Term.eval, e1] using e2)⟩
theorem own_fnull {args : Array Value} {s : State} {C n d : String} {t : Jvm.Term} {a : Addr} (e1 : t.eval args s none [] s = some (.ref a)) (h : (Jvm.Cond.eq (.field t C n d) .null).value args s none s [] = some true) : Fld s s.heap a C n d .null := by
  refine Fld.start ?_
  cases q : s.fieldOf? a C n d with
  | none => simp [Jvm.Cond.value, Jvm.Term.eval, e1, q] at h
  | some v => cases v <;> simp_all [Jvm.Cond.value, Jvm.Term.eval]
theorem own_nn (x : Int32) : 0 ≤ (x &&& (2147483647 : Int32)).toInt := by
  have h := c_mask x (2147483647 : Int32) 31 (by decide) (by decide)
  rw [h]; exact Int.emod_nonneg _ (by decide)
theorem own_rem10 {x : Int32} (hx : 0 ≤ x.toInt) : 0 ≤ (x - (x / (10 : Int32)) * (10 : Int32)).toInt ∧ (x - (x / (10 : Int32)) * (10 : Int32)).toInt < 10 := by
  have e : (10 : Int32).toInt = 10 := rfl
  have h1 := (c_idiv x (10 : Int32) 10 rfl (by decide)).1 hx
  have h2 := c_imul (x / (10 : Int32)) (10 : Int32)
  have h3 := c_isub x (x / (10 : Int32) * (10 : Int32))
  have r1 := rng32 x
  have r2 := rng32 (x - x / (10 : Int32) * (10 : Int32))
  rw [h1, e] at h2
  omega
theorem d1_0 : decode method_2_code 0 = .ok (.iload_n 0, 1) := by decide +kernel
theorem d1_1 : decode method_2_code 1 = .ok (.ifCond .ne 7, 3) := by decide +kernel
theorem d1_4 : decode method_2_code 4 = .ok (.getstatic 7, 3) := by decide +kernel
theorem d1_7 : decode method_2_code 7 = .ok (.areturn, 1) := by decide +kernel
theorem own_pn_com_example_measured_savepoints_measuredsavepoints_TransactionEndWithoutBeginPinLaw : plainName "com/example/measured_savepoints/measuredsavepoints/TransactionEndWithoutBeginPinLaw" = true := by first | (simp [plainName, overriddenIn]; done) | decide +kernel
set_option maxRecDepth 65536 in
set_option maxHeartbeats 40000000 in
theorem rm_pick0 (l : Launch) (Z : State) (a0 : Array Value) (hw : ∀ d ∈ tables_1, d.before a0 Z = true) (n0 : Nat) (e_NONE e_BEGIN e_SUSPENDING_BEGIN e_COMMIT_AND_BEGIN e_IMPLICIT_COMMIT_AND_BEGIN e_ROLLBACK e_COMMIT e_PREPARE e_IMPLICIT_COMMIT e_ISOLATION_COMMIT : Addr) (h0 : Heap) (Z0 : n0 ≤ h0.size) (en : Ens Z e_NONE e_BEGIN e_SUSPENDING_BEGIN e_COMMIT_AND_BEGIN e_IMPLICIT_COMMIT_AND_BEGIN e_ROLLBACK e_COMMIT e_PREPARE e_IMPLICIT_COMMIT e_ISOLATION_COMMIT) (O : Old Z n0 h0) :
    Met1 l Z (⟨"com/example/measured_savepoints/measuredsavepoints/TransactionEndWithoutBeginPinLaw", "pick", "(I)Lcom/example/measured_savepoints/measuredsavepoints/SavepointSql$TransactionEnd;"⟩ : MethodName) method_2_code 1 (some (.object "com/example/measured_savepoints/measuredsavepoints/SavepointSql$TransactionEnd")) ({ frames := 0, cells := 0, slots := 0, locals := 0 } : Room) n0 #[(.int (0 : Int32))] h0 (fun v h => v = some (.ref e_NONE) ∧ h0 = h) := by
  refine met_of (plainFor_of_name own_pn_com_example_measured_savepoints_measuredsavepoints_TransactionEndWithoutBeginPinLaw) (L0 := #[.val (.int (0 : Int32))]) (by first | rfl | (simp [argsToLocals, Value.category]; done)) ?_
  intro B C
  change Ctx B l _ _ "com/example/measured_savepoints/measuredsavepoints/TransactionEndWithoutBeginPinLaw" "pick" _ _ Z at C
  have en' := en
  obtain ⟨⟨S_NONE, X_NONE, D_NONE⟩, ⟨S_BEGIN, X_BEGIN, D_BEGIN⟩, ⟨S_SUSPENDING_BEGIN, X_SUSPENDING_BEGIN, D_SUSPENDING_BEGIN⟩, ⟨S_COMMIT_AND_BEGIN, X_COMMIT_AND_BEGIN, D_COMMIT_AND_BEGIN⟩, ⟨S_IMPLICIT_COMMIT_AND_BEGIN, X_IMPLICIT_COMMIT_AND_BEGIN, D_IMPLICIT_COMMIT_AND_BEGIN⟩, ⟨S_ROLLBACK, X_ROLLBACK, D_ROLLBACK⟩, ⟨S_COMMIT, X_COMMIT, D_COMMIT⟩, ⟨S_PREPARE, X_PREPARE, D_PREPARE⟩, ⟨S_IMPLICIT_COMMIT, X_IMPLICIT_COMMIT, D_IMPLICIT_COMMIT⟩, ⟨S_ISOLATION_COMMIT, X_ISOLATION_COMMIT, D_ISOLATION_COMMIT⟩⟩ := en'
  refine g_iload_n C d1_0 (v := (0 : Int32)) rfl (pc' := 1) rfl ?_
  refine g_if_n C d1_1 (Jvm.Free.XT.i0_ne_f (by decide)) (pc' := 4) rfl ?_
  refine g_getstatic C (host := "") (v := (.ref e_NONE)) (Or.inl (own_w hw 5 rfl)) Via.refl (S_NONE.ext O.2) d1_4 (pc' := 7) rfl ?_
  refine g_ret C (v := (.ref e_NONE)) (ty := (.object "com/example/measured_savepoints/measuredsavepoints/SavepointSql$TransactionEnd")) rfl rfl (Or.inr (Or.inr (Or.inr (Or.inr ⟨rfl, rfl, rfl⟩)))) d1_7 (by decide) (by decide) ?_
  exact ⟨rfl, rfl⟩
theorem d1_8 : decode method_2_code 8 = .ok (.iload_n 0, 1) := by decide +kernel
theorem d1_9 : decode method_2_code 9 = .ok (.iconst 1, 1) := by decide +kernel
theorem d1_10 : decode method_2_code 10 = .ok (.if_icmp .ne 7, 3) := by decide +kernel
theorem d1_13 : decode method_2_code 13 = .ok (.getstatic 13, 3) := by decide +kernel
theorem d1_16 : decode method_2_code 16 = .ok (.areturn, 1) := by decide +kernel
set_option maxRecDepth 65536 in
set_option maxHeartbeats 40000000 in
theorem rm_pick1 (l : Launch) (Z : State) (a0 : Array Value) (hw : ∀ d ∈ tables_1, d.before a0 Z = true) (n0 : Nat) (e_NONE e_BEGIN e_SUSPENDING_BEGIN e_COMMIT_AND_BEGIN e_IMPLICIT_COMMIT_AND_BEGIN e_ROLLBACK e_COMMIT e_PREPARE e_IMPLICIT_COMMIT e_ISOLATION_COMMIT : Addr) (h0 : Heap) (Z0 : n0 ≤ h0.size) (en : Ens Z e_NONE e_BEGIN e_SUSPENDING_BEGIN e_COMMIT_AND_BEGIN e_IMPLICIT_COMMIT_AND_BEGIN e_ROLLBACK e_COMMIT e_PREPARE e_IMPLICIT_COMMIT e_ISOLATION_COMMIT) (O : Old Z n0 h0) :
    Met1 l Z (⟨"com/example/measured_savepoints/measuredsavepoints/TransactionEndWithoutBeginPinLaw", "pick", "(I)Lcom/example/measured_savepoints/measuredsavepoints/SavepointSql$TransactionEnd;"⟩ : MethodName) method_2_code 1 (some (.object "com/example/measured_savepoints/measuredsavepoints/SavepointSql$TransactionEnd")) ({ frames := 0, cells := 0, slots := 0, locals := 0 } : Room) n0 #[(.int (1 : Int32))] h0 (fun v h => v = some (.ref e_BEGIN) ∧ h0 = h) := by
  refine met_of (plainFor_of_name own_pn_com_example_measured_savepoints_measuredsavepoints_TransactionEndWithoutBeginPinLaw) (L0 := #[.val (.int (1 : Int32))]) (by first | rfl | (simp [argsToLocals, Value.category]; done)) ?_
  intro B C
  change Ctx B l _ _ "com/example/measured_savepoints/measuredsavepoints/TransactionEndWithoutBeginPinLaw" "pick" _ _ Z at C
  have en' := en
  obtain ⟨⟨S_NONE, X_NONE, D_NONE⟩, ⟨S_BEGIN, X_BEGIN, D_BEGIN⟩, ⟨S_SUSPENDING_BEGIN, X_SUSPENDING_BEGIN, D_SUSPENDING_BEGIN⟩, ⟨S_COMMIT_AND_BEGIN, X_COMMIT_AND_BEGIN, D_COMMIT_AND_BEGIN⟩, ⟨S_IMPLICIT_COMMIT_AND_BEGIN, X_IMPLICIT_COMMIT_AND_BEGIN, D_IMPLICIT_COMMIT_AND_BEGIN⟩, ⟨S_ROLLBACK, X_ROLLBACK, D_ROLLBACK⟩, ⟨S_COMMIT, X_COMMIT, D_COMMIT⟩, ⟨S_PREPARE, X_PREPARE, D_PREPARE⟩, ⟨S_IMPLICIT_COMMIT, X_IMPLICIT_COMMIT, D_IMPLICIT_COMMIT⟩, ⟨S_ISOLATION_COMMIT, X_ISOLATION_COMMIT, D_ISOLATION_COMMIT⟩⟩ := en'
  refine g_iload_n C d1_0 (v := (1 : Int32)) rfl (pc' := 1) rfl ?_
  refine g_if_y C d1_1 (Jvm.Free.XT.i0_ne_t (by decide)) (pc' := 8) (by decide) (by decide) ?_
  refine g_iload_n C d1_8 (v := (1 : Int32)) rfl (pc' := 9) rfl ?_
  refine g_iconst C d1_9 (v := (1 : Int32)) rfl (pc' := 10) rfl ?_
  refine g_icmp_n C d1_10 (Jvm.Free.XT.ii_ne_f (by decide)) (pc' := 13) rfl ?_
  refine g_getstatic C (host := "") (v := (.ref e_BEGIN)) (Or.inl (own_w hw 28 rfl)) Via.refl (S_BEGIN.ext O.2) d1_13 (pc' := 16) rfl ?_
  refine g_ret C (v := (.ref e_BEGIN)) (ty := (.object "com/example/measured_savepoints/measuredsavepoints/SavepointSql$TransactionEnd")) rfl rfl (Or.inr (Or.inr (Or.inr (Or.inr ⟨rfl, rfl, rfl⟩)))) d1_16 (by decide) (by decide) ?_
  exact ⟨rfl, rfl⟩
theorem d1_17 : decode method_2_code 17 = .ok (.iload_n 0, 1) := by decide +kernel
theorem d1_18 : decode method_2_code 18 = .ok (.iconst 2, 1) := by decide +kernel
theorem d1_19 : decode method_2_code 19 = .ok (.if_icmp .ne 7, 3) := by decide +kernel
theorem d1_22 : decode method_2_code 22 = .ok (.getstatic 16, 3) := by decide +kernel
theorem d1_25 : decode method_2_code 25 = .ok (.areturn, 1) := by decide +kernel
set_option maxRecDepth 65536 in
set_option maxHeartbeats 40000000 in
theorem rm_pick2 (l : Launch) (Z : State) (a0 : Array Value) (hw : ∀ d ∈ tables_1, d.before a0 Z = true) (n0 : Nat) (e_NONE e_BEGIN e_SUSPENDING_BEGIN e_COMMIT_AND_BEGIN e_IMPLICIT_COMMIT_AND_BEGIN e_ROLLBACK e_COMMIT e_PREPARE e_IMPLICIT_COMMIT e_ISOLATION_COMMIT : Addr) (h0 : Heap) (Z0 : n0 ≤ h0.size) (en : Ens Z e_NONE e_BEGIN e_SUSPENDING_BEGIN e_COMMIT_AND_BEGIN e_IMPLICIT_COMMIT_AND_BEGIN e_ROLLBACK e_COMMIT e_PREPARE e_IMPLICIT_COMMIT e_ISOLATION_COMMIT) (O : Old Z n0 h0) :
    Met1 l Z (⟨"com/example/measured_savepoints/measuredsavepoints/TransactionEndWithoutBeginPinLaw", "pick", "(I)Lcom/example/measured_savepoints/measuredsavepoints/SavepointSql$TransactionEnd;"⟩ : MethodName) method_2_code 1 (some (.object "com/example/measured_savepoints/measuredsavepoints/SavepointSql$TransactionEnd")) ({ frames := 0, cells := 0, slots := 0, locals := 0 } : Room) n0 #[(.int (2 : Int32))] h0 (fun v h => v = some (.ref e_SUSPENDING_BEGIN) ∧ h0 = h) := by
  refine met_of (plainFor_of_name own_pn_com_example_measured_savepoints_measuredsavepoints_TransactionEndWithoutBeginPinLaw) (L0 := #[.val (.int (2 : Int32))]) (by first | rfl | (simp [argsToLocals, Value.category]; done)) ?_
  intro B C
  change Ctx B l _ _ "com/example/measured_savepoints/measuredsavepoints/TransactionEndWithoutBeginPinLaw" "pick" _ _ Z at C
  have en' := en
  obtain ⟨⟨S_NONE, X_NONE, D_NONE⟩, ⟨S_BEGIN, X_BEGIN, D_BEGIN⟩, ⟨S_SUSPENDING_BEGIN, X_SUSPENDING_BEGIN, D_SUSPENDING_BEGIN⟩, ⟨S_COMMIT_AND_BEGIN, X_COMMIT_AND_BEGIN, D_COMMIT_AND_BEGIN⟩, ⟨S_IMPLICIT_COMMIT_AND_BEGIN, X_IMPLICIT_COMMIT_AND_BEGIN, D_IMPLICIT_COMMIT_AND_BEGIN⟩, ⟨S_ROLLBACK, X_ROLLBACK, D_ROLLBACK⟩, ⟨S_COMMIT, X_COMMIT, D_COMMIT⟩, ⟨S_PREPARE, X_PREPARE, D_PREPARE⟩, ⟨S_IMPLICIT_COMMIT, X_IMPLICIT_COMMIT, D_IMPLICIT_COMMIT⟩, ⟨S_ISOLATION_COMMIT, X_ISOLATION_COMMIT, D_ISOLATION_COMMIT⟩⟩ := en'
  refine g_iload_n C d1_0 (v := (2 : Int32)) rfl (pc' := 1) rfl ?_
  refine g_if_y C d1_1 (Jvm.Free.XT.i0_ne_t (by decide)) (pc' := 8) (by decide) (by decide) ?_
  refine g_iload_n C d1_8 (v := (2 : Int32)) rfl (pc' := 9) rfl ?_
  refine g_iconst C d1_9 (v := (1 : Int32)) rfl (pc' := 10) rfl ?_
  refine g_icmp_y C d1_10 (Jvm.Free.XT.ii_ne_t (by decide)) (pc' := 17) (by decide) (by decide) ?_
  refine g_iload_n C d1_17 (v := (2 : Int32)) rfl (pc' := 18) rfl ?_
  refine g_iconst C d1_18 (v := (2 : Int32)) rfl (pc' := 19) rfl ?_
  refine g_icmp_n C d1_19 (Jvm.Free.XT.ii_ne_f (by decide)) (pc' := 22) rfl ?_
  refine g_getstatic C (host := "") (v := (.ref e_SUSPENDING_BEGIN)) (Or.inl (own_w hw 50 rfl)) Via.refl (S_SUSPENDING_BEGIN.ext O.2) d1_22 (pc' := 25) rfl ?_
  refine g_ret C (v := (.ref e_SUSPENDING_BEGIN)) (ty := (.object "com/example/measured_savepoints/measuredsavepoints/SavepointSql$TransactionEnd")) rfl rfl (Or.inr (Or.inr (Or.inr (Or.inr ⟨rfl, rfl, rfl⟩)))) d1_25 (by decide) (by decide) ?_
  exact ⟨rfl, rfl⟩
theorem d1_26 : decode method_2_code 26 = .ok (.iload_n 0, 1) := by decide +kernel
theorem d1_27 : decode method_2_code 27 = .ok (.iconst 3, 1) := by decide +kernel
theorem d1_28 : decode method_2_code 28 = .ok (.if_icmp .ne 7, 3) := by decide +kernel
theorem d1_31 : decode method_2_code 31 = .ok (.getstatic 19, 3) := by decide +kernel
theorem d1_34 : decode method_2_code 34 = .ok (.areturn, 1) := by decide +kernel
set_option maxRecDepth 65536 in
set_option maxHeartbeats 40000000 in
theorem rm_pick3 (l : Launch) (Z : State) (a0 : Array Value) (hw : ∀ d ∈ tables_1, d.before a0 Z = true) (n0 : Nat) (e_NONE e_BEGIN e_SUSPENDING_BEGIN e_COMMIT_AND_BEGIN e_IMPLICIT_COMMIT_AND_BEGIN e_ROLLBACK e_COMMIT e_PREPARE e_IMPLICIT_COMMIT e_ISOLATION_COMMIT : Addr) (h0 : Heap) (Z0 : n0 ≤ h0.size) (en : Ens Z e_NONE e_BEGIN e_SUSPENDING_BEGIN e_COMMIT_AND_BEGIN e_IMPLICIT_COMMIT_AND_BEGIN e_ROLLBACK e_COMMIT e_PREPARE e_IMPLICIT_COMMIT e_ISOLATION_COMMIT) (O : Old Z n0 h0) :
    Met1 l Z (⟨"com/example/measured_savepoints/measuredsavepoints/TransactionEndWithoutBeginPinLaw", "pick", "(I)Lcom/example/measured_savepoints/measuredsavepoints/SavepointSql$TransactionEnd;"⟩ : MethodName) method_2_code 1 (some (.object "com/example/measured_savepoints/measuredsavepoints/SavepointSql$TransactionEnd")) ({ frames := 0, cells := 0, slots := 0, locals := 0 } : Room) n0 #[(.int (3 : Int32))] h0 (fun v h => v = some (.ref e_ROLLBACK) ∧ h0 = h) := by
  refine met_of (plainFor_of_name own_pn_com_example_measured_savepoints_measuredsavepoints_TransactionEndWithoutBeginPinLaw) (L0 := #[.val (.int (3 : Int32))]) (by first | rfl | (simp [argsToLocals, Value.category]; done)) ?_
  intro B C
  change Ctx B l _ _ "com/example/measured_savepoints/measuredsavepoints/TransactionEndWithoutBeginPinLaw" "pick" _ _ Z at C
  have en' := en
  obtain ⟨⟨S_NONE, X_NONE, D_NONE⟩, ⟨S_BEGIN, X_BEGIN, D_BEGIN⟩, ⟨S_SUSPENDING_BEGIN, X_SUSPENDING_BEGIN, D_SUSPENDING_BEGIN⟩, ⟨S_COMMIT_AND_BEGIN, X_COMMIT_AND_BEGIN, D_COMMIT_AND_BEGIN⟩, ⟨S_IMPLICIT_COMMIT_AND_BEGIN, X_IMPLICIT_COMMIT_AND_BEGIN, D_IMPLICIT_COMMIT_AND_BEGIN⟩, ⟨S_ROLLBACK, X_ROLLBACK, D_ROLLBACK⟩, ⟨S_COMMIT, X_COMMIT, D_COMMIT⟩, ⟨S_PREPARE, X_PREPARE, D_PREPARE⟩, ⟨S_IMPLICIT_COMMIT, X_IMPLICIT_COMMIT, D_IMPLICIT_COMMIT⟩, ⟨S_ISOLATION_COMMIT, X_ISOLATION_COMMIT, D_ISOLATION_COMMIT⟩⟩ := en'
  refine g_iload_n C d1_0 (v := (3 : Int32)) rfl (pc' := 1) rfl ?_
  refine g_if_y C d1_1 (Jvm.Free.XT.i0_ne_t (by decide)) (pc' := 8) (by decide) (by decide) ?_
  refine g_iload_n C d1_8 (v := (3 : Int32)) rfl (pc' := 9) rfl ?_
  refine g_iconst C d1_9 (v := (1 : Int32)) rfl (pc' := 10) rfl ?_
  refine g_icmp_y C d1_10 (Jvm.Free.XT.ii_ne_t (by decide)) (pc' := 17) (by decide) (by decide) ?_
  refine g_iload_n C d1_17 (v := (3 : Int32)) rfl (pc' := 18) rfl ?_
  refine g_iconst C d1_18 (v := (2 : Int32)) rfl (pc' := 19) rfl ?_
  refine g_icmp_y C d1_19 (Jvm.Free.XT.ii_ne_t (by decide)) (pc' := 26) (by decide) (by decide) ?_
  refine g_iload_n C d1_26 (v := (3 : Int32)) rfl (pc' := 27) rfl ?_
  refine g_iconst C d1_27 (v := (3 : Int32)) rfl (pc' := 28) rfl ?_
  refine g_icmp_n C d1_28 (Jvm.Free.XT.ii_ne_f (by decide)) (pc' := 31) rfl ?_
  refine g_getstatic C (host := "") (v := (.ref e_ROLLBACK)) (Or.inl (own_w hw 26 rfl)) Via.refl (S_ROLLBACK.ext O.2) d1_31 (pc' := 34) rfl ?_
  refine g_ret C (v := (.ref e_ROLLBACK)) (ty := (.object "com/example/measured_savepoints/measuredsavepoints/SavepointSql$TransactionEnd")) rfl rfl (Or.inr (Or.inr (Or.inr (Or.inr ⟨rfl, rfl, rfl⟩)))) d1_34 (by decide) (by decide) ?_
  exact ⟨rfl, rfl⟩
theorem d1_35 : decode method_2_code 35 = .ok (.iload_n 0, 1) := by decide +kernel
theorem d1_36 : decode method_2_code 36 = .ok (.iconst 4, 1) := by decide +kernel
theorem d1_37 : decode method_2_code 37 = .ok (.if_icmp .ne 7, 3) := by decide +kernel
theorem d1_40 : decode method_2_code 40 = .ok (.getstatic 22, 3) := by decide +kernel
theorem d1_43 : decode method_2_code 43 = .ok (.areturn, 1) := by decide +kernel
set_option maxRecDepth 65536 in
set_option maxHeartbeats 40000000 in
theorem rm_pick4 (l : Launch) (Z : State) (a0 : Array Value) (hw : ∀ d ∈ tables_1, d.before a0 Z = true) (n0 : Nat) (e_NONE e_BEGIN e_SUSPENDING_BEGIN e_COMMIT_AND_BEGIN e_IMPLICIT_COMMIT_AND_BEGIN e_ROLLBACK e_COMMIT e_PREPARE e_IMPLICIT_COMMIT e_ISOLATION_COMMIT : Addr) (h0 : Heap) (Z0 : n0 ≤ h0.size) (en : Ens Z e_NONE e_BEGIN e_SUSPENDING_BEGIN e_COMMIT_AND_BEGIN e_IMPLICIT_COMMIT_AND_BEGIN e_ROLLBACK e_COMMIT e_PREPARE e_IMPLICIT_COMMIT e_ISOLATION_COMMIT) (O : Old Z n0 h0) :
    Met1 l Z (⟨"com/example/measured_savepoints/measuredsavepoints/TransactionEndWithoutBeginPinLaw", "pick", "(I)Lcom/example/measured_savepoints/measuredsavepoints/SavepointSql$TransactionEnd;"⟩ : MethodName) method_2_code 1 (some (.object "com/example/measured_savepoints/measuredsavepoints/SavepointSql$TransactionEnd")) ({ frames := 0, cells := 0, slots := 0, locals := 0 } : Room) n0 #[(.int (4 : Int32))] h0 (fun v h => v = some (.ref e_COMMIT) ∧ h0 = h) := by
  refine met_of (plainFor_of_name own_pn_com_example_measured_savepoints_measuredsavepoints_TransactionEndWithoutBeginPinLaw) (L0 := #[.val (.int (4 : Int32))]) (by first | rfl | (simp [argsToLocals, Value.category]; done)) ?_
  intro B C
  change Ctx B l _ _ "com/example/measured_savepoints/measuredsavepoints/TransactionEndWithoutBeginPinLaw" "pick" _ _ Z at C
  have en' := en
  obtain ⟨⟨S_NONE, X_NONE, D_NONE⟩, ⟨S_BEGIN, X_BEGIN, D_BEGIN⟩, ⟨S_SUSPENDING_BEGIN, X_SUSPENDING_BEGIN, D_SUSPENDING_BEGIN⟩, ⟨S_COMMIT_AND_BEGIN, X_COMMIT_AND_BEGIN, D_COMMIT_AND_BEGIN⟩, ⟨S_IMPLICIT_COMMIT_AND_BEGIN, X_IMPLICIT_COMMIT_AND_BEGIN, D_IMPLICIT_COMMIT_AND_BEGIN⟩, ⟨S_ROLLBACK, X_ROLLBACK, D_ROLLBACK⟩, ⟨S_COMMIT, X_COMMIT, D_COMMIT⟩, ⟨S_PREPARE, X_PREPARE, D_PREPARE⟩, ⟨S_IMPLICIT_COMMIT, X_IMPLICIT_COMMIT, D_IMPLICIT_COMMIT⟩, ⟨S_ISOLATION_COMMIT, X_ISOLATION_COMMIT, D_ISOLATION_COMMIT⟩⟩ := en'
  refine g_iload_n C d1_0 (v := (4 : Int32)) rfl (pc' := 1) rfl ?_
  refine g_if_y C d1_1 (Jvm.Free.XT.i0_ne_t (by decide)) (pc' := 8) (by decide) (by decide) ?_
  refine g_iload_n C d1_8 (v := (4 : Int32)) rfl (pc' := 9) rfl ?_
  refine g_iconst C d1_9 (v := (1 : Int32)) rfl (pc' := 10) rfl ?_
  refine g_icmp_y C d1_10 (Jvm.Free.XT.ii_ne_t (by decide)) (pc' := 17) (by decide) (by decide) ?_
  refine g_iload_n C d1_17 (v := (4 : Int32)) rfl (pc' := 18) rfl ?_
  refine g_iconst C d1_18 (v := (2 : Int32)) rfl (pc' := 19) rfl ?_
  refine g_icmp_y C d1_19 (Jvm.Free.XT.ii_ne_t (by decide)) (pc' := 26) (by decide) (by decide) ?_
  refine g_iload_n C d1_26 (v := (4 : Int32)) rfl (pc' := 27) rfl ?_
  refine g_iconst C d1_27 (v := (3 : Int32)) rfl (pc' := 28) rfl ?_
  refine g_icmp_y C d1_28 (Jvm.Free.XT.ii_ne_t (by decide)) (pc' := 35) (by decide) (by decide) ?_
  refine g_iload_n C d1_35 (v := (4 : Int32)) rfl (pc' := 36) rfl ?_
  refine g_iconst C d1_36 (v := (4 : Int32)) rfl (pc' := 37) rfl ?_
  refine g_icmp_n C d1_37 (Jvm.Free.XT.ii_ne_f (by decide)) (pc' := 40) rfl ?_
  refine g_getstatic C (host := "") (v := (.ref e_COMMIT)) (Or.inl (own_w hw 48 rfl)) Via.refl (S_COMMIT.ext O.2) d1_40 (pc' := 43) rfl ?_
  refine g_ret C (v := (.ref e_COMMIT)) (ty := (.object "com/example/measured_savepoints/measuredsavepoints/SavepointSql$TransactionEnd")) rfl rfl (Or.inr (Or.inr (Or.inr (Or.inr ⟨rfl, rfl, rfl⟩)))) d1_43 (by decide) (by decide) ?_
  exact ⟨rfl, rfl⟩
theorem d1_44 : decode method_2_code 44 = .ok (.iload_n 0, 1) := by decide +kernel
theorem d1_45 : decode method_2_code 45 = .ok (.iconst 5, 1) := by decide +kernel
theorem d1_46 : decode method_2_code 46 = .ok (.if_icmp .ne 7, 3) := by decide +kernel
theorem d1_49 : decode method_2_code 49 = .ok (.getstatic 25, 3) := by decide +kernel
theorem d1_52 : decode method_2_code 52 = .ok (.areturn, 1) := by decide +kernel
set_option maxRecDepth 65536 in
set_option maxHeartbeats 40000000 in
theorem rm_pick5 (l : Launch) (Z : State) (a0 : Array Value) (hw : ∀ d ∈ tables_1, d.before a0 Z = true) (n0 : Nat) (e_NONE e_BEGIN e_SUSPENDING_BEGIN e_COMMIT_AND_BEGIN e_IMPLICIT_COMMIT_AND_BEGIN e_ROLLBACK e_COMMIT e_PREPARE e_IMPLICIT_COMMIT e_ISOLATION_COMMIT : Addr) (h0 : Heap) (Z0 : n0 ≤ h0.size) (en : Ens Z e_NONE e_BEGIN e_SUSPENDING_BEGIN e_COMMIT_AND_BEGIN e_IMPLICIT_COMMIT_AND_BEGIN e_ROLLBACK e_COMMIT e_PREPARE e_IMPLICIT_COMMIT e_ISOLATION_COMMIT) (O : Old Z n0 h0) :
    Met1 l Z (⟨"com/example/measured_savepoints/measuredsavepoints/TransactionEndWithoutBeginPinLaw", "pick", "(I)Lcom/example/measured_savepoints/measuredsavepoints/SavepointSql$TransactionEnd;"⟩ : MethodName) method_2_code 1 (some (.object "com/example/measured_savepoints/measuredsavepoints/SavepointSql$TransactionEnd")) ({ frames := 0, cells := 0, slots := 0, locals := 0 } : Room) n0 #[(.int (5 : Int32))] h0 (fun v h => v = some (.ref e_PREPARE) ∧ h0 = h) := by
  refine met_of (plainFor_of_name own_pn_com_example_measured_savepoints_measuredsavepoints_TransactionEndWithoutBeginPinLaw) (L0 := #[.val (.int (5 : Int32))]) (by first | rfl | (simp [argsToLocals, Value.category]; done)) ?_
  intro B C
  change Ctx B l _ _ "com/example/measured_savepoints/measuredsavepoints/TransactionEndWithoutBeginPinLaw" "pick" _ _ Z at C
  have en' := en
  obtain ⟨⟨S_NONE, X_NONE, D_NONE⟩, ⟨S_BEGIN, X_BEGIN, D_BEGIN⟩, ⟨S_SUSPENDING_BEGIN, X_SUSPENDING_BEGIN, D_SUSPENDING_BEGIN⟩, ⟨S_COMMIT_AND_BEGIN, X_COMMIT_AND_BEGIN, D_COMMIT_AND_BEGIN⟩, ⟨S_IMPLICIT_COMMIT_AND_BEGIN, X_IMPLICIT_COMMIT_AND_BEGIN, D_IMPLICIT_COMMIT_AND_BEGIN⟩, ⟨S_ROLLBACK, X_ROLLBACK, D_ROLLBACK⟩, ⟨S_COMMIT, X_COMMIT, D_COMMIT⟩, ⟨S_PREPARE, X_PREPARE, D_PREPARE⟩, ⟨S_IMPLICIT_COMMIT, X_IMPLICIT_COMMIT, D_IMPLICIT_COMMIT⟩, ⟨S_ISOLATION_COMMIT, X_ISOLATION_COMMIT, D_ISOLATION_COMMIT⟩⟩ := en'
  refine g_iload_n C d1_0 (v := (5 : Int32)) rfl (pc' := 1) rfl ?_
  refine g_if_y C d1_1 (Jvm.Free.XT.i0_ne_t (by decide)) (pc' := 8) (by decide) (by decide) ?_
  refine g_iload_n C d1_8 (v := (5 : Int32)) rfl (pc' := 9) rfl ?_
  refine g_iconst C d1_9 (v := (1 : Int32)) rfl (pc' := 10) rfl ?_
  refine g_icmp_y C d1_10 (Jvm.Free.XT.ii_ne_t (by decide)) (pc' := 17) (by decide) (by decide) ?_
  refine g_iload_n C d1_17 (v := (5 : Int32)) rfl (pc' := 18) rfl ?_
  refine g_iconst C d1_18 (v := (2 : Int32)) rfl (pc' := 19) rfl ?_
  refine g_icmp_y C d1_19 (Jvm.Free.XT.ii_ne_t (by decide)) (pc' := 26) (by decide) (by decide) ?_
  refine g_iload_n C d1_26 (v := (5 : Int32)) rfl (pc' := 27) rfl ?_
  refine g_iconst C d1_27 (v := (3 : Int32)) rfl (pc' := 28) rfl ?_
  refine g_icmp_y C d1_28 (Jvm.Free.XT.ii_ne_t (by decide)) (pc' := 35) (by decide) (by decide) ?_
  refine g_iload_n C d1_35 (v := (5 : Int32)) rfl (pc' := 36) rfl ?_
  refine g_iconst C d1_36 (v := (4 : Int32)) rfl (pc' := 37) rfl ?_
  refine g_icmp_y C d1_37 (Jvm.Free.XT.ii_ne_t (by decide)) (pc' := 44) (by decide) (by decide) ?_
  refine g_iload_n C d1_44 (v := (5 : Int32)) rfl (pc' := 45) rfl ?_
  refine g_iconst C d1_45 (v := (5 : Int32)) rfl (pc' := 46) rfl ?_
  refine g_icmp_n C d1_46 (Jvm.Free.XT.ii_ne_f (by decide)) (pc' := 49) rfl ?_
  refine g_getstatic C (host := "") (v := (.ref e_PREPARE)) (Or.inl (own_w hw 54 rfl)) Via.refl (S_PREPARE.ext O.2) d1_49 (pc' := 52) rfl ?_
  refine g_ret C (v := (.ref e_PREPARE)) (ty := (.object "com/example/measured_savepoints/measuredsavepoints/SavepointSql$TransactionEnd")) rfl rfl (Or.inr (Or.inr (Or.inr (Or.inr ⟨rfl, rfl, rfl⟩)))) d1_52 (by decide) (by decide) ?_
  exact ⟨rfl, rfl⟩
theorem d1_53 : decode method_2_code 53 = .ok (.iload_n 0, 1) := by decide +kernel
theorem d1_54 : decode method_2_code 54 = .ok (.bipush 6, 2) := by decide +kernel
theorem d1_56 : decode method_2_code 56 = .ok (.if_icmp .ne 7, 3) := by decide +kernel
theorem d1_59 : decode method_2_code 59 = .ok (.getstatic 28, 3) := by decide +kernel
theorem d1_62 : decode method_2_code 62 = .ok (.areturn, 1) := by decide +kernel
set_option maxRecDepth 65536 in
set_option maxHeartbeats 40000000 in
theorem rm_pick6 (l : Launch) (Z : State) (a0 : Array Value) (hw : ∀ d ∈ tables_1, d.before a0 Z = true) (n0 : Nat) (e_NONE e_BEGIN e_SUSPENDING_BEGIN e_COMMIT_AND_BEGIN e_IMPLICIT_COMMIT_AND_BEGIN e_ROLLBACK e_COMMIT e_PREPARE e_IMPLICIT_COMMIT e_ISOLATION_COMMIT : Addr) (h0 : Heap) (Z0 : n0 ≤ h0.size) (en : Ens Z e_NONE e_BEGIN e_SUSPENDING_BEGIN e_COMMIT_AND_BEGIN e_IMPLICIT_COMMIT_AND_BEGIN e_ROLLBACK e_COMMIT e_PREPARE e_IMPLICIT_COMMIT e_ISOLATION_COMMIT) (O : Old Z n0 h0) :
    Met1 l Z (⟨"com/example/measured_savepoints/measuredsavepoints/TransactionEndWithoutBeginPinLaw", "pick", "(I)Lcom/example/measured_savepoints/measuredsavepoints/SavepointSql$TransactionEnd;"⟩ : MethodName) method_2_code 1 (some (.object "com/example/measured_savepoints/measuredsavepoints/SavepointSql$TransactionEnd")) ({ frames := 0, cells := 0, slots := 0, locals := 0 } : Room) n0 #[(.int (6 : Int32))] h0 (fun v h => v = some (.ref e_COMMIT_AND_BEGIN) ∧ h0 = h) := by
  refine met_of (plainFor_of_name own_pn_com_example_measured_savepoints_measuredsavepoints_TransactionEndWithoutBeginPinLaw) (L0 := #[.val (.int (6 : Int32))]) (by first | rfl | (simp [argsToLocals, Value.category]; done)) ?_
  intro B C
  change Ctx B l _ _ "com/example/measured_savepoints/measuredsavepoints/TransactionEndWithoutBeginPinLaw" "pick" _ _ Z at C
  have en' := en
  obtain ⟨⟨S_NONE, X_NONE, D_NONE⟩, ⟨S_BEGIN, X_BEGIN, D_BEGIN⟩, ⟨S_SUSPENDING_BEGIN, X_SUSPENDING_BEGIN, D_SUSPENDING_BEGIN⟩, ⟨S_COMMIT_AND_BEGIN, X_COMMIT_AND_BEGIN, D_COMMIT_AND_BEGIN⟩, ⟨S_IMPLICIT_COMMIT_AND_BEGIN, X_IMPLICIT_COMMIT_AND_BEGIN, D_IMPLICIT_COMMIT_AND_BEGIN⟩, ⟨S_ROLLBACK, X_ROLLBACK, D_ROLLBACK⟩, ⟨S_COMMIT, X_COMMIT, D_COMMIT⟩, ⟨S_PREPARE, X_PREPARE, D_PREPARE⟩, ⟨S_IMPLICIT_COMMIT, X_IMPLICIT_COMMIT, D_IMPLICIT_COMMIT⟩, ⟨S_ISOLATION_COMMIT, X_ISOLATION_COMMIT, D_ISOLATION_COMMIT⟩⟩ := en'
  refine g_iload_n C d1_0 (v := (6 : Int32)) rfl (pc' := 1) rfl ?_
  refine g_if_y C d1_1 (Jvm.Free.XT.i0_ne_t (by decide)) (pc' := 8) (by decide) (by decide) ?_
  refine g_iload_n C d1_8 (v := (6 : Int32)) rfl (pc' := 9) rfl ?_
  refine g_iconst C d1_9 (v := (1 : Int32)) rfl (pc' := 10) rfl ?_
  refine g_icmp_y C d1_10 (Jvm.Free.XT.ii_ne_t (by decide)) (pc' := 17) (by decide) (by decide) ?_
  refine g_iload_n C d1_17 (v := (6 : Int32)) rfl (pc' := 18) rfl ?_
  refine g_iconst C d1_18 (v := (2 : Int32)) rfl (pc' := 19) rfl ?_
  refine g_icmp_y C d1_19 (Jvm.Free.XT.ii_ne_t (by decide)) (pc' := 26) (by decide) (by decide) ?_
  refine g_iload_n C d1_26 (v := (6 : Int32)) rfl (pc' := 27) rfl ?_
  refine g_iconst C d1_27 (v := (3 : Int32)) rfl (pc' := 28) rfl ?_
  refine g_icmp_y C d1_28 (Jvm.Free.XT.ii_ne_t (by decide)) (pc' := 35) (by decide) (by decide) ?_
  refine g_iload_n C d1_35 (v := (6 : Int32)) rfl (pc' := 36) rfl ?_
  refine g_iconst C d1_36 (v := (4 : Int32)) rfl (pc' := 37) rfl ?_
  refine g_icmp_y C d1_37 (Jvm.Free.XT.ii_ne_t (by decide)) (pc' := 44) (by decide) (by decide) ?_
  refine g_iload_n C d1_44 (v := (6 : Int32)) rfl (pc' := 45) rfl ?_
  refine g_iconst C d1_45 (v := (5 : Int32)) rfl (pc' := 46) rfl ?_
  refine g_icmp_y C d1_46 (Jvm.Free.XT.ii_ne_t (by decide)) (pc' := 53) (by decide) (by decide) ?_
  refine g_iload_n C d1_53 (v := (6 : Int32)) rfl (pc' := 54) rfl ?_
  refine g_bipush C d1_54 (v := (6 : Int32)) rfl (pc' := 56) rfl ?_
  refine g_icmp_n C d1_56 (Jvm.Free.XT.ii_ne_f (by decide)) (pc' := 59) rfl ?_
  refine g_getstatic C (host := "") (v := (.ref e_COMMIT_AND_BEGIN)) (Or.inl (own_w hw 55 rfl)) Via.refl (S_COMMIT_AND_BEGIN.ext O.2) d1_59 (pc' := 62) rfl ?_
  refine g_ret C (v := (.ref e_COMMIT_AND_BEGIN)) (ty := (.object "com/example/measured_savepoints/measuredsavepoints/SavepointSql$TransactionEnd")) rfl rfl (Or.inr (Or.inr (Or.inr (Or.inr ⟨rfl, rfl, rfl⟩)))) d1_62 (by decide) (by decide) ?_
  exact ⟨rfl, rfl⟩
theorem d1_63 : decode method_2_code 63 = .ok (.iload_n 0, 1) := by decide +kernel
theorem d1_64 : decode method_2_code 64 = .ok (.bipush 7, 2) := by decide +kernel
theorem d1_66 : decode method_2_code 66 = .ok (.if_icmp .ne 7, 3) := by decide +kernel
theorem d1_69 : decode method_2_code 69 = .ok (.getstatic 31, 3) := by decide +kernel
theorem d1_72 : decode method_2_code 72 = .ok (.areturn, 1) := by decide +kernel
set_option maxRecDepth 65536 in
set_option maxHeartbeats 40000000 in
theorem rm_pick7 (l : Launch) (Z : State) (a0 : Array Value) (hw : ∀ d ∈ tables_1, d.before a0 Z = true) (n0 : Nat) (e_NONE e_BEGIN e_SUSPENDING_BEGIN e_COMMIT_AND_BEGIN e_IMPLICIT_COMMIT_AND_BEGIN e_ROLLBACK e_COMMIT e_PREPARE e_IMPLICIT_COMMIT e_ISOLATION_COMMIT : Addr) (h0 : Heap) (Z0 : n0 ≤ h0.size) (en : Ens Z e_NONE e_BEGIN e_SUSPENDING_BEGIN e_COMMIT_AND_BEGIN e_IMPLICIT_COMMIT_AND_BEGIN e_ROLLBACK e_COMMIT e_PREPARE e_IMPLICIT_COMMIT e_ISOLATION_COMMIT) (O : Old Z n0 h0) :
    Met1 l Z (⟨"com/example/measured_savepoints/measuredsavepoints/TransactionEndWithoutBeginPinLaw", "pick", "(I)Lcom/example/measured_savepoints/measuredsavepoints/SavepointSql$TransactionEnd;"⟩ : MethodName) method_2_code 1 (some (.object "com/example/measured_savepoints/measuredsavepoints/SavepointSql$TransactionEnd")) ({ frames := 0, cells := 0, slots := 0, locals := 0 } : Room) n0 #[(.int (7 : Int32))] h0 (fun v h => v = some (.ref e_IMPLICIT_COMMIT) ∧ h0 = h) := by
  refine met_of (plainFor_of_name own_pn_com_example_measured_savepoints_measuredsavepoints_TransactionEndWithoutBeginPinLaw) (L0 := #[.val (.int (7 : Int32))]) (by first | rfl | (simp [argsToLocals, Value.category]; done)) ?_
  intro B C
  change Ctx B l _ _ "com/example/measured_savepoints/measuredsavepoints/TransactionEndWithoutBeginPinLaw" "pick" _ _ Z at C
  have en' := en
  obtain ⟨⟨S_NONE, X_NONE, D_NONE⟩, ⟨S_BEGIN, X_BEGIN, D_BEGIN⟩, ⟨S_SUSPENDING_BEGIN, X_SUSPENDING_BEGIN, D_SUSPENDING_BEGIN⟩, ⟨S_COMMIT_AND_BEGIN, X_COMMIT_AND_BEGIN, D_COMMIT_AND_BEGIN⟩, ⟨S_IMPLICIT_COMMIT_AND_BEGIN, X_IMPLICIT_COMMIT_AND_BEGIN, D_IMPLICIT_COMMIT_AND_BEGIN⟩, ⟨S_ROLLBACK, X_ROLLBACK, D_ROLLBACK⟩, ⟨S_COMMIT, X_COMMIT, D_COMMIT⟩, ⟨S_PREPARE, X_PREPARE, D_PREPARE⟩, ⟨S_IMPLICIT_COMMIT, X_IMPLICIT_COMMIT, D_IMPLICIT_COMMIT⟩, ⟨S_ISOLATION_COMMIT, X_ISOLATION_COMMIT, D_ISOLATION_COMMIT⟩⟩ := en'
  refine g_iload_n C d1_0 (v := (7 : Int32)) rfl (pc' := 1) rfl ?_
  refine g_if_y C d1_1 (Jvm.Free.XT.i0_ne_t (by decide)) (pc' := 8) (by decide) (by decide) ?_
  refine g_iload_n C d1_8 (v := (7 : Int32)) rfl (pc' := 9) rfl ?_
  refine g_iconst C d1_9 (v := (1 : Int32)) rfl (pc' := 10) rfl ?_
  refine g_icmp_y C d1_10 (Jvm.Free.XT.ii_ne_t (by decide)) (pc' := 17) (by decide) (by decide) ?_
  refine g_iload_n C d1_17 (v := (7 : Int32)) rfl (pc' := 18) rfl ?_
  refine g_iconst C d1_18 (v := (2 : Int32)) rfl (pc' := 19) rfl ?_
  refine g_icmp_y C d1_19 (Jvm.Free.XT.ii_ne_t (by decide)) (pc' := 26) (by decide) (by decide) ?_
  refine g_iload_n C d1_26 (v := (7 : Int32)) rfl (pc' := 27) rfl ?_
  refine g_iconst C d1_27 (v := (3 : Int32)) rfl (pc' := 28) rfl ?_
  refine g_icmp_y C d1_28 (Jvm.Free.XT.ii_ne_t (by decide)) (pc' := 35) (by decide) (by decide) ?_
  refine g_iload_n C d1_35 (v := (7 : Int32)) rfl (pc' := 36) rfl ?_
  refine g_iconst C d1_36 (v := (4 : Int32)) rfl (pc' := 37) rfl ?_
  refine g_icmp_y C d1_37 (Jvm.Free.XT.ii_ne_t (by decide)) (pc' := 44) (by decide) (by decide) ?_
  refine g_iload_n C d1_44 (v := (7 : Int32)) rfl (pc' := 45) rfl ?_
  refine g_iconst C d1_45 (v := (5 : Int32)) rfl (pc' := 46) rfl ?_
  refine g_icmp_y C d1_46 (Jvm.Free.XT.ii_ne_t (by decide)) (pc' := 53) (by decide) (by decide) ?_
  refine g_iload_n C d1_53 (v := (7 : Int32)) rfl (pc' := 54) rfl ?_
  refine g_bipush C d1_54 (v := (6 : Int32)) rfl (pc' := 56) rfl ?_
  refine g_icmp_y C d1_56 (Jvm.Free.XT.ii_ne_t (by decide)) (pc' := 63) (by decide) (by decide) ?_
  refine g_iload_n C d1_63 (v := (7 : Int32)) rfl (pc' := 64) rfl ?_
  refine g_bipush C d1_64 (v := (7 : Int32)) rfl (pc' := 66) rfl ?_
  refine g_icmp_n C d1_66 (Jvm.Free.XT.ii_ne_f (by decide)) (pc' := 69) rfl ?_
  refine g_getstatic C (host := "") (v := (.ref e_IMPLICIT_COMMIT)) (Or.inl (own_w hw 49 rfl)) Via.refl (S_IMPLICIT_COMMIT.ext O.2) d1_69 (pc' := 72) rfl ?_
  refine g_ret C (v := (.ref e_IMPLICIT_COMMIT)) (ty := (.object "com/example/measured_savepoints/measuredsavepoints/SavepointSql$TransactionEnd")) rfl rfl (Or.inr (Or.inr (Or.inr (Or.inr ⟨rfl, rfl, rfl⟩)))) d1_72 (by decide) (by decide) ?_
  exact ⟨rfl, rfl⟩
theorem d1_73 : decode method_2_code 73 = .ok (.iload_n 0, 1) := by decide +kernel
theorem d1_74 : decode method_2_code 74 = .ok (.bipush 8, 2) := by decide +kernel
theorem d1_76 : decode method_2_code 76 = .ok (.if_icmp .ne 7, 3) := by decide +kernel
theorem d1_79 : decode method_2_code 79 = .ok (.getstatic 34, 3) := by decide +kernel
theorem d1_82 : decode method_2_code 82 = .ok (.areturn, 1) := by decide +kernel
set_option maxRecDepth 65536 in
set_option maxHeartbeats 40000000 in
theorem rm_pick8 (l : Launch) (Z : State) (a0 : Array Value) (hw : ∀ d ∈ tables_1, d.before a0 Z = true) (n0 : Nat) (e_NONE e_BEGIN e_SUSPENDING_BEGIN e_COMMIT_AND_BEGIN e_IMPLICIT_COMMIT_AND_BEGIN e_ROLLBACK e_COMMIT e_PREPARE e_IMPLICIT_COMMIT e_ISOLATION_COMMIT : Addr) (h0 : Heap) (Z0 : n0 ≤ h0.size) (en : Ens Z e_NONE e_BEGIN e_SUSPENDING_BEGIN e_COMMIT_AND_BEGIN e_IMPLICIT_COMMIT_AND_BEGIN e_ROLLBACK e_COMMIT e_PREPARE e_IMPLICIT_COMMIT e_ISOLATION_COMMIT) (O : Old Z n0 h0) :
    Met1 l Z (⟨"com/example/measured_savepoints/measuredsavepoints/TransactionEndWithoutBeginPinLaw", "pick", "(I)Lcom/example/measured_savepoints/measuredsavepoints/SavepointSql$TransactionEnd;"⟩ : MethodName) method_2_code 1 (some (.object "com/example/measured_savepoints/measuredsavepoints/SavepointSql$TransactionEnd")) ({ frames := 0, cells := 0, slots := 0, locals := 0 } : Room) n0 #[(.int (8 : Int32))] h0 (fun v h => v = some (.ref e_IMPLICIT_COMMIT_AND_BEGIN) ∧ h0 = h) := by
  refine met_of (plainFor_of_name own_pn_com_example_measured_savepoints_measuredsavepoints_TransactionEndWithoutBeginPinLaw) (L0 := #[.val (.int (8 : Int32))]) (by first | rfl | (simp [argsToLocals, Value.category]; done)) ?_
  intro B C
  change Ctx B l _ _ "com/example/measured_savepoints/measuredsavepoints/TransactionEndWithoutBeginPinLaw" "pick" _ _ Z at C
  have en' := en
  obtain ⟨⟨S_NONE, X_NONE, D_NONE⟩, ⟨S_BEGIN, X_BEGIN, D_BEGIN⟩, ⟨S_SUSPENDING_BEGIN, X_SUSPENDING_BEGIN, D_SUSPENDING_BEGIN⟩, ⟨S_COMMIT_AND_BEGIN, X_COMMIT_AND_BEGIN, D_COMMIT_AND_BEGIN⟩, ⟨S_IMPLICIT_COMMIT_AND_BEGIN, X_IMPLICIT_COMMIT_AND_BEGIN, D_IMPLICIT_COMMIT_AND_BEGIN⟩, ⟨S_ROLLBACK, X_ROLLBACK, D_ROLLBACK⟩, ⟨S_COMMIT, X_COMMIT, D_COMMIT⟩, ⟨S_PREPARE, X_PREPARE, D_PREPARE⟩, ⟨S_IMPLICIT_COMMIT, X_IMPLICIT_COMMIT, D_IMPLICIT_COMMIT⟩, ⟨S_ISOLATION_COMMIT, X_ISOLATION_COMMIT, D_ISOLATION_COMMIT⟩⟩ := en'
  refine g_iload_n C d1_0 (v := (8 : Int32)) rfl (pc' := 1) rfl ?_
  refine g_if_y C d1_1 (Jvm.Free.XT.i0_ne_t (by decide)) (pc' := 8) (by decide) (by decide) ?_
  refine g_iload_n C d1_8 (v := (8 : Int32)) rfl (pc' := 9) rfl ?_
  refine g_iconst C d1_9 (v := (1 : Int32)) rfl (pc' := 10) rfl ?_
  refine g_icmp_y C d1_10 (Jvm.Free.XT.ii_ne_t (by decide)) (pc' := 17) (by decide) (by decide) ?_
  refine g_iload_n C d1_17 (v := (8 : Int32)) rfl (pc' := 18) rfl ?_
  refine g_iconst C d1_18 (v := (2 : Int32)) rfl (pc' := 19) rfl ?_
  refine g_icmp_y C d1_19 (Jvm.Free.XT.ii_ne_t (by decide)) (pc' := 26) (by decide) (by decide) ?_
  refine g_iload_n C d1_26 (v := (8 : Int32)) rfl (pc' := 27) rfl ?_
  refine g_iconst C d1_27 (v := (3 : Int32)) rfl (pc' := 28) rfl ?_
  refine g_icmp_y C d1_28 (Jvm.Free.XT.ii_ne_t (by decide)) (pc' := 35) (by decide) (by decide) ?_
  refine g_iload_n C d1_35 (v := (8 : Int32)) rfl (pc' := 36) rfl ?_
  refine g_iconst C d1_36 (v := (4 : Int32)) rfl (pc' := 37) rfl ?_
  refine g_icmp_y C d1_37 (Jvm.Free.XT.ii_ne_t (by decide)) (pc' := 44) (by decide) (by decide) ?_
  refine g_iload_n C d1_44 (v := (8 : Int32)) rfl (pc' := 45) rfl ?_
  refine g_iconst C d1_45 (v := (5 : Int32)) rfl (pc' := 46) rfl ?_
  refine g_icmp_y C d1_46 (Jvm.Free.XT.ii_ne_t (by decide)) (pc' := 53) (by decide) (by decide) ?_
  refine g_iload_n C d1_53 (v := (8 : Int32)) rfl (pc' := 54) rfl ?_
  refine g_bipush C d1_54 (v := (6 : Int32)) rfl (pc' := 56) rfl ?_
  refine g_icmp_y C d1_56 (Jvm.Free.XT.ii_ne_t (by decide)) (pc' := 63) (by decide) (by decide) ?_
  refine g_iload_n C d1_63 (v := (8 : Int32)) rfl (pc' := 64) rfl ?_
  refine g_bipush C d1_64 (v := (7 : Int32)) rfl (pc' := 66) rfl ?_
  refine g_icmp_y C d1_66 (Jvm.Free.XT.ii_ne_t (by decide)) (pc' := 73) (by decide) (by decide) ?_
  refine g_iload_n C d1_73 (v := (8 : Int32)) rfl (pc' := 74) rfl ?_
  refine g_bipush C d1_74 (v := (8 : Int32)) rfl (pc' := 76) rfl ?_
  refine g_icmp_n C d1_76 (Jvm.Free.XT.ii_ne_f (by decide)) (pc' := 79) rfl ?_
  refine g_getstatic C (host := "") (v := (.ref e_IMPLICIT_COMMIT_AND_BEGIN)) (Or.inl (own_w hw 51 rfl)) Via.refl (S_IMPLICIT_COMMIT_AND_BEGIN.ext O.2) d1_79 (pc' := 82) rfl ?_
  refine g_ret C (v := (.ref e_IMPLICIT_COMMIT_AND_BEGIN)) (ty := (.object "com/example/measured_savepoints/measuredsavepoints/SavepointSql$TransactionEnd")) rfl rfl (Or.inr (Or.inr (Or.inr (Or.inr ⟨rfl, rfl, rfl⟩)))) d1_82 (by decide) (by decide) ?_
  exact ⟨rfl, rfl⟩
theorem d1_83 : decode method_2_code 83 = .ok (.getstatic 37, 3) := by decide +kernel
theorem d1_86 : decode method_2_code 86 = .ok (.areturn, 1) := by decide +kernel
set_option maxRecDepth 65536 in
set_option maxHeartbeats 40000000 in
theorem rm_pick9 (l : Launch) (Z : State) (a0 : Array Value) (hw : ∀ d ∈ tables_1, d.before a0 Z = true) (n0 : Nat) (e_NONE e_BEGIN e_SUSPENDING_BEGIN e_COMMIT_AND_BEGIN e_IMPLICIT_COMMIT_AND_BEGIN e_ROLLBACK e_COMMIT e_PREPARE e_IMPLICIT_COMMIT e_ISOLATION_COMMIT : Addr) (h0 : Heap) (Z0 : n0 ≤ h0.size) (en : Ens Z e_NONE e_BEGIN e_SUSPENDING_BEGIN e_COMMIT_AND_BEGIN e_IMPLICIT_COMMIT_AND_BEGIN e_ROLLBACK e_COMMIT e_PREPARE e_IMPLICIT_COMMIT e_ISOLATION_COMMIT) (O : Old Z n0 h0) :
    Met1 l Z (⟨"com/example/measured_savepoints/measuredsavepoints/TransactionEndWithoutBeginPinLaw", "pick", "(I)Lcom/example/measured_savepoints/measuredsavepoints/SavepointSql$TransactionEnd;"⟩ : MethodName) method_2_code 1 (some (.object "com/example/measured_savepoints/measuredsavepoints/SavepointSql$TransactionEnd")) ({ frames := 0, cells := 0, slots := 0, locals := 0 } : Room) n0 #[(.int (9 : Int32))] h0 (fun v h => v = some (.ref e_ISOLATION_COMMIT) ∧ h0 = h) := by
  refine met_of (plainFor_of_name own_pn_com_example_measured_savepoints_measuredsavepoints_TransactionEndWithoutBeginPinLaw) (L0 := #[.val (.int (9 : Int32))]) (by first | rfl | (simp [argsToLocals, Value.category]; done)) ?_
  intro B C
  change Ctx B l _ _ "com/example/measured_savepoints/measuredsavepoints/TransactionEndWithoutBeginPinLaw" "pick" _ _ Z at C
  have en' := en
  obtain ⟨⟨S_NONE, X_NONE, D_NONE⟩, ⟨S_BEGIN, X_BEGIN, D_BEGIN⟩, ⟨S_SUSPENDING_BEGIN, X_SUSPENDING_BEGIN, D_SUSPENDING_BEGIN⟩, ⟨S_COMMIT_AND_BEGIN, X_COMMIT_AND_BEGIN, D_COMMIT_AND_BEGIN⟩, ⟨S_IMPLICIT_COMMIT_AND_BEGIN, X_IMPLICIT_COMMIT_AND_BEGIN, D_IMPLICIT_COMMIT_AND_BEGIN⟩, ⟨S_ROLLBACK, X_ROLLBACK, D_ROLLBACK⟩, ⟨S_COMMIT, X_COMMIT, D_COMMIT⟩, ⟨S_PREPARE, X_PREPARE, D_PREPARE⟩, ⟨S_IMPLICIT_COMMIT, X_IMPLICIT_COMMIT, D_IMPLICIT_COMMIT⟩, ⟨S_ISOLATION_COMMIT, X_ISOLATION_COMMIT, D_ISOLATION_COMMIT⟩⟩ := en'
  refine g_iload_n C d1_0 (v := (9 : Int32)) rfl (pc' := 1) rfl ?_
  refine g_if_y C d1_1 (Jvm.Free.XT.i0_ne_t (by decide)) (pc' := 8) (by decide) (by decide) ?_
  refine g_iload_n C d1_8 (v := (9 : Int32)) rfl (pc' := 9) rfl ?_
  refine g_iconst C d1_9 (v := (1 : Int32)) rfl (pc' := 10) rfl ?_
  refine g_icmp_y C d1_10 (Jvm.Free.XT.ii_ne_t (by decide)) (pc' := 17) (by decide) (by decide) ?_
  refine g_iload_n C d1_17 (v := (9 : Int32)) rfl (pc' := 18) rfl ?_
  refine g_iconst C d1_18 (v := (2 : Int32)) rfl (pc' := 19) rfl ?_
  refine g_icmp_y C d1_19 (Jvm.Free.XT.ii_ne_t (by decide)) (pc' := 26) (by decide) (by decide) ?_
  refine g_iload_n C d1_26 (v := (9 : Int32)) rfl (pc' := 27) rfl ?_
  refine g_iconst C d1_27 (v := (3 : Int32)) rfl (pc' := 28) rfl ?_
  refine g_icmp_y C d1_28 (Jvm.Free.XT.ii_ne_t (by decide)) (pc' := 35) (by decide) (by decide) ?_
  refine g_iload_n C d1_35 (v := (9 : Int32)) rfl (pc' := 36) rfl ?_
  refine g_iconst C d1_36 (v := (4 : Int32)) rfl (pc' := 37) rfl ?_
  refine g_icmp_y C d1_37 (Jvm.Free.XT.ii_ne_t (by decide)) (pc' := 44) (by decide) (by decide) ?_
  refine g_iload_n C d1_44 (v := (9 : Int32)) rfl (pc' := 45) rfl ?_
  refine g_iconst C d1_45 (v := (5 : Int32)) rfl (pc' := 46) rfl ?_
  refine g_icmp_y C d1_46 (Jvm.Free.XT.ii_ne_t (by decide)) (pc' := 53) (by decide) (by decide) ?_
  refine g_iload_n C d1_53 (v := (9 : Int32)) rfl (pc' := 54) rfl ?_
  refine g_bipush C d1_54 (v := (6 : Int32)) rfl (pc' := 56) rfl ?_
  refine g_icmp_y C d1_56 (Jvm.Free.XT.ii_ne_t (by decide)) (pc' := 63) (by decide) (by decide) ?_
  refine g_iload_n C d1_63 (v := (9 : Int32)) rfl (pc' := 64) rfl ?_
  refine g_bipush C d1_64 (v := (7 : Int32)) rfl (pc' := 66) rfl ?_
  refine g_icmp_y C d1_66 (Jvm.Free.XT.ii_ne_t (by decide)) (pc' := 73) (by decide) (by decide) ?_
  refine g_iload_n C d1_73 (v := (9 : Int32)) rfl (pc' := 74) rfl ?_
  refine g_bipush C d1_74 (v := (8 : Int32)) rfl (pc' := 76) rfl ?_
  refine g_icmp_y C d1_76 (Jvm.Free.XT.ii_ne_t (by decide)) (pc' := 83) (by decide) (by decide) ?_
  refine g_getstatic C (host := "") (v := (.ref e_ISOLATION_COMMIT)) (Or.inl (own_w hw 53 rfl)) Via.refl (S_ISOLATION_COMMIT.ext O.2) d1_83 (pc' := 86) rfl ?_
  refine g_ret C (v := (.ref e_ISOLATION_COMMIT)) (ty := (.object "com/example/measured_savepoints/measuredsavepoints/SavepointSql$TransactionEnd")) rfl rfl (Or.inr (Or.inr (Or.inr (Or.inr ⟨rfl, rfl, rfl⟩)))) d1_86 (by decide) (by decide) ?_
  exact ⟨rfl, rfl⟩
theorem d5_0 : decode prog_54_method_6_code 0 = .ok (.aload_n 0, 1) := by decide +kernel
theorem d5_1 : decode prog_54_method_6_code 1 = .ok (.getstatic 25, 3) := by decide +kernel
theorem d5_4 : decode prog_54_method_6_code 4 = .ok (.if_acmp .eq 17, 3) := by decide +kernel
theorem d5_7 : decode prog_54_method_6_code 7 = .ok (.aload_n 0, 1) := by decide +kernel
theorem d5_8 : decode prog_54_method_6_code 8 = .ok (.getstatic 28, 3) := by decide +kernel
theorem d5_11 : decode prog_54_method_6_code 11 = .ok (.if_acmp .eq 10, 3) := by decide +kernel
theorem d5_14 : decode prog_54_method_6_code 14 = .ok (.aload_n 0, 1) := by decide +kernel
theorem d5_15 : decode prog_54_method_6_code 15 = .ok (.getstatic 31, 3) := by decide +kernel
theorem d5_18 : decode prog_54_method_6_code 18 = .ok (.if_acmp .ne 7, 3) := by decide +kernel
theorem d5_25 : decode prog_54_method_6_code 25 = .ok (.iconst 0, 1) := by decide +kernel
theorem d5_26 : decode prog_54_method_6_code 26 = .ok (.ireturn, 1) := by decide +kernel
theorem own_pn_com_example_measured_savepoints_measuredsavepoints_SavepointSql_TransactionEnd : plainName "com/example/measured_savepoints/measuredsavepoints/SavepointSql$TransactionEnd" = true := by first | (simp [plainName, overriddenIn]; done) | decide +kernel
set_option maxRecDepth 65536 in
set_option maxHeartbeats 40000000 in
theorem rm_commitsImplicitly_NONE (l : Launch) (Z : State) (a0 : Array Value) (hw : ∀ d ∈ tables_1, d.before a0 Z = true) (n0 : Nat) (e_NONE e_BEGIN e_SUSPENDING_BEGIN e_COMMIT_AND_BEGIN e_IMPLICIT_COMMIT_AND_BEGIN e_ROLLBACK e_COMMIT e_PREPARE e_IMPLICIT_COMMIT e_ISOLATION_COMMIT : Addr) (h0 : Heap) (Z0 : n0 ≤ h0.size) (en : Ens Z e_NONE e_BEGIN e_SUSPENDING_BEGIN e_COMMIT_AND_BEGIN e_IMPLICIT_COMMIT_AND_BEGIN e_ROLLBACK e_COMMIT e_PREPARE e_IMPLICIT_COMMIT e_ISOLATION_COMMIT) (O : Old Z n0 h0) :
    Met1 l Z (⟨"com/example/measured_savepoints/measuredsavepoints/SavepointSql$TransactionEnd", "commitsImplicitly", "()Z"⟩ : MethodName) prog_54_method_6_code 1 (some .boolean) ({ frames := 0, cells := 0, slots := 0, locals := 0 } : Room) n0 #[(.ref e_NONE)] h0 (fun v h => v = some (.int (0 : Int32)) ∧ h0 = h) := by
  refine met_of (plainFor_of_name own_pn_com_example_measured_savepoints_measuredsavepoints_SavepointSql_TransactionEnd) (L0 := #[.val (.ref e_NONE)]) (by first | rfl | (simp [argsToLocals, Value.category]; done)) ?_
  intro B C
  change Ctx B l _ _ "com/example/measured_savepoints/measuredsavepoints/SavepointSql$TransactionEnd" "commitsImplicitly" _ _ Z at C
  have en' := en
  obtain ⟨⟨S_NONE, X_NONE, D_NONE⟩, ⟨S_BEGIN, X_BEGIN, D_BEGIN⟩, ⟨S_SUSPENDING_BEGIN, X_SUSPENDING_BEGIN, D_SUSPENDING_BEGIN⟩, ⟨S_COMMIT_AND_BEGIN, X_COMMIT_AND_BEGIN, D_COMMIT_AND_BEGIN⟩, ⟨S_IMPLICIT_COMMIT_AND_BEGIN, X_IMPLICIT_COMMIT_AND_BEGIN, D_IMPLICIT_COMMIT_AND_BEGIN⟩, ⟨S_ROLLBACK, X_ROLLBACK, D_ROLLBACK⟩, ⟨S_COMMIT, X_COMMIT, D_COMMIT⟩, ⟨S_PREPARE, X_PREPARE, D_PREPARE⟩, ⟨S_IMPLICIT_COMMIT, X_IMPLICIT_COMMIT, D_IMPLICIT_COMMIT⟩, ⟨S_ISOLATION_COMMIT, X_ISOLATION_COMMIT, D_ISOLATION_COMMIT⟩⟩ := en'
  refine g_aload_n C d5_0 (v := (.ref e_NONE)) rfl rfl (pc' := 1) rfl ?_
  refine g_getstatic C (host := "") (v := (.ref e_IMPLICIT_COMMIT)) (Or.inl (own_w hw 43 rfl)) Via.refl (S_IMPLICIT_COMMIT.ext O.2) d5_1 (pc' := 4) rfl ?_
  refine g_acmp_n C d5_4 rfl rfl (Jvm.Free.XT.aa_eq_f (fun q => (Fld.ne D_NONE D_IMPLICIT_COMMIT (by decide)) (Value.ref.inj q))) (pc' := 7) rfl ?_
  refine g_aload_n C d5_7 (v := (.ref e_NONE)) rfl rfl (pc' := 8) rfl ?_
  refine g_getstatic C (host := "") (v := (.ref e_IMPLICIT_COMMIT_AND_BEGIN)) (Or.inl (own_w hw 19 rfl)) Via.refl (S_IMPLICIT_COMMIT_AND_BEGIN.ext O.2) d5_8 (pc' := 11) rfl ?_
  refine g_acmp_n C d5_11 rfl rfl (Jvm.Free.XT.aa_eq_f (fun q => (Fld.ne D_NONE D_IMPLICIT_COMMIT_AND_BEGIN (by decide)) (Value.ref.inj q))) (pc' := 14) rfl ?_
  refine g_aload_n C d5_14 (v := (.ref e_NONE)) rfl rfl (pc' := 15) rfl ?_
  refine g_getstatic C (host := "") (v := (.ref e_ISOLATION_COMMIT)) (Or.inl (own_w hw 45 rfl)) Via.refl (S_ISOLATION_COMMIT.ext O.2) d5_15 (pc' := 18) rfl ?_
  refine g_acmp_y C d5_18 rfl rfl (Jvm.Free.XT.aa_ne_t (fun q => (Fld.ne D_NONE D_ISOLATION_COMMIT (by decide)) (Value.ref.inj q))) (pc' := 25) (by decide) (by decide) ?_
  refine g_iconst C d5_25 (v := (0 : Int32)) rfl (pc' := 26) rfl ?_
  refine g_ret C (v := (.int (0 : Int32))) (ty := .boolean) rfl rfl (Or.inl ⟨rfl, Or.inr (Or.inl rfl), _, rfl⟩) d5_26 (by decide) (by decide) ?_
  exact ⟨rfl, rfl⟩
set_option maxRecDepth 65536 in
set_option maxHeartbeats 40000000 in
theorem rm_commitsImplicitly_BEGIN (l : Launch) (Z : State) (a0 : Array Value) (hw : ∀ d ∈ tables_1, d.before a0 Z = true) (n0 : Nat) (e_NONE e_BEGIN e_SUSPENDING_BEGIN e_COMMIT_AND_BEGIN e_IMPLICIT_COMMIT_AND_BEGIN e_ROLLBACK e_COMMIT e_PREPARE e_IMPLICIT_COMMIT e_ISOLATION_COMMIT : Addr) (h0 : Heap) (Z0 : n0 ≤ h0.size) (en : Ens Z e_NONE e_BEGIN e_SUSPENDING_BEGIN e_COMMIT_AND_BEGIN e_IMPLICIT_COMMIT_AND_BEGIN e_ROLLBACK e_COMMIT e_PREPARE e_IMPLICIT_COMMIT e_ISOLATION_COMMIT) (O : Old Z n0 h0) :
    Met1 l Z (⟨"com/example/measured_savepoints/measuredsavepoints/SavepointSql$TransactionEnd", "commitsImplicitly", "()Z"⟩ : MethodName) prog_54_method_6_code 1 (some .boolean) ({ frames := 0, cells := 0, slots := 0, locals := 0 } : Room) n0 #[(.ref e_BEGIN)] h0 (fun v h => v = some (.int (0 : Int32)) ∧ h0 = h) := by
  refine met_of (plainFor_of_name own_pn_com_example_measured_savepoints_measuredsavepoints_SavepointSql_TransactionEnd) (L0 := #[.val (.ref e_BEGIN)]) (by first | rfl | (simp [argsToLocals, Value.category]; done)) ?_
  intro B C
  change Ctx B l _ _ "com/example/measured_savepoints/measuredsavepoints/SavepointSql$TransactionEnd" "commitsImplicitly" _ _ Z at C
  have en' := en
  obtain ⟨⟨S_NONE, X_NONE, D_NONE⟩, ⟨S_BEGIN, X_BEGIN, D_BEGIN⟩, ⟨S_SUSPENDING_BEGIN, X_SUSPENDING_BEGIN, D_SUSPENDING_BEGIN⟩, ⟨S_COMMIT_AND_BEGIN, X_COMMIT_AND_BEGIN, D_COMMIT_AND_BEGIN⟩, ⟨S_IMPLICIT_COMMIT_AND_BEGIN, X_IMPLICIT_COMMIT_AND_BEGIN, D_IMPLICIT_COMMIT_AND_BEGIN⟩, ⟨S_ROLLBACK, X_ROLLBACK, D_ROLLBACK⟩, ⟨S_COMMIT, X_COMMIT, D_COMMIT⟩, ⟨S_PREPARE, X_PREPARE, D_PREPARE⟩, ⟨S_IMPLICIT_COMMIT, X_IMPLICIT_COMMIT, D_IMPLICIT_COMMIT⟩, ⟨S_ISOLATION_COMMIT, X_ISOLATION_COMMIT, D_ISOLATION_COMMIT⟩⟩ := en'
  refine g_aload_n C d5_0 (v := (.ref e_BEGIN)) rfl rfl (pc' := 1) rfl ?_
  refine g_getstatic C (host := "") (v := (.ref e_IMPLICIT_COMMIT)) (Or.inl (own_w hw 43 rfl)) Via.refl (S_IMPLICIT_COMMIT.ext O.2) d5_1 (pc' := 4) rfl ?_
  refine g_acmp_n C d5_4 rfl rfl (Jvm.Free.XT.aa_eq_f (fun q => (Fld.ne D_BEGIN D_IMPLICIT_COMMIT (by decide)) (Value.ref.inj q))) (pc' := 7) rfl ?_
  refine g_aload_n C d5_7 (v := (.ref e_BEGIN)) rfl rfl (pc' := 8) rfl ?_
  refine g_getstatic C (host := "") (v := (.ref e_IMPLICIT_COMMIT_AND_BEGIN)) (Or.inl (own_w hw 19 rfl)) Via.refl (S_IMPLICIT_COMMIT_AND_BEGIN.ext O.2) d5_8 (pc' := 11) rfl ?_
  refine g_acmp_n C d5_11 rfl rfl (Jvm.Free.XT.aa_eq_f (fun q => (Fld.ne D_BEGIN D_IMPLICIT_COMMIT_AND_BEGIN (by decide)) (Value.ref.inj q))) (pc' := 14) rfl ?_
  refine g_aload_n C d5_14 (v := (.ref e_BEGIN)) rfl rfl (pc' := 15) rfl ?_
  refine g_getstatic C (host := "") (v := (.ref e_ISOLATION_COMMIT)) (Or.inl (own_w hw 45 rfl)) Via.refl (S_ISOLATION_COMMIT.ext O.2) d5_15 (pc' := 18) rfl ?_
  refine g_acmp_y C d5_18 rfl rfl (Jvm.Free.XT.aa_ne_t (fun q => (Fld.ne D_BEGIN D_ISOLATION_COMMIT (by decide)) (Value.ref.inj q))) (pc' := 25) (by decide) (by decide) ?_
  refine g_iconst C d5_25 (v := (0 : Int32)) rfl (pc' := 26) rfl ?_
  refine g_ret C (v := (.int (0 : Int32))) (ty := .boolean) rfl rfl (Or.inl ⟨rfl, Or.inr (Or.inl rfl), _, rfl⟩) d5_26 (by decide) (by decide) ?_
  exact ⟨rfl, rfl⟩
set_option maxRecDepth 65536 in
set_option maxHeartbeats 40000000 in
theorem rm_commitsImplicitly_SUSPENDING_BEGIN (l : Launch) (Z : State) (a0 : Array Value) (hw : ∀ d ∈ tables_1, d.before a0 Z = true) (n0 : Nat) (e_NONE e_BEGIN e_SUSPENDING_BEGIN e_COMMIT_AND_BEGIN e_IMPLICIT_COMMIT_AND_BEGIN e_ROLLBACK e_COMMIT e_PREPARE e_IMPLICIT_COMMIT e_ISOLATION_COMMIT : Addr) (h0 : Heap) (Z0 : n0 ≤ h0.size) (en : Ens Z e_NONE e_BEGIN e_SUSPENDING_BEGIN e_COMMIT_AND_BEGIN e_IMPLICIT_COMMIT_AND_BEGIN e_ROLLBACK e_COMMIT e_PREPARE e_IMPLICIT_COMMIT e_ISOLATION_COMMIT) (O : Old Z n0 h0) :
    Met1 l Z (⟨"com/example/measured_savepoints/measuredsavepoints/SavepointSql$TransactionEnd", "commitsImplicitly", "()Z"⟩ : MethodName) prog_54_method_6_code 1 (some .boolean) ({ frames := 0, cells := 0, slots := 0, locals := 0 } : Room) n0 #[(.ref e_SUSPENDING_BEGIN)] h0 (fun v h => v = some (.int (0 : Int32)) ∧ h0 = h) := by
  refine met_of (plainFor_of_name own_pn_com_example_measured_savepoints_measuredsavepoints_SavepointSql_TransactionEnd) (L0 := #[.val (.ref e_SUSPENDING_BEGIN)]) (by first | rfl | (simp [argsToLocals, Value.category]; done)) ?_
  intro B C
  change Ctx B l _ _ "com/example/measured_savepoints/measuredsavepoints/SavepointSql$TransactionEnd" "commitsImplicitly" _ _ Z at C
  have en' := en
  obtain ⟨⟨S_NONE, X_NONE, D_NONE⟩, ⟨S_BEGIN, X_BEGIN, D_BEGIN⟩, ⟨S_SUSPENDING_BEGIN, X_SUSPENDING_BEGIN, D_SUSPENDING_BEGIN⟩, ⟨S_COMMIT_AND_BEGIN, X_COMMIT_AND_BEGIN, D_COMMIT_AND_BEGIN⟩, ⟨S_IMPLICIT_COMMIT_AND_BEGIN, X_IMPLICIT_COMMIT_AND_BEGIN, D_IMPLICIT_COMMIT_AND_BEGIN⟩, ⟨S_ROLLBACK, X_ROLLBACK, D_ROLLBACK⟩, ⟨S_COMMIT, X_COMMIT, D_COMMIT⟩, ⟨S_PREPARE, X_PREPARE, D_PREPARE⟩, ⟨S_IMPLICIT_COMMIT, X_IMPLICIT_COMMIT, D_IMPLICIT_COMMIT⟩, ⟨S_ISOLATION_COMMIT, X_ISOLATION_COMMIT, D_ISOLATION_COMMIT⟩⟩ := en'
  refine g_aload_n C d5_0 (v := (.ref e_SUSPENDING_BEGIN)) rfl rfl (pc' := 1) rfl ?_
  refine g_getstatic C (host := "") (v := (.ref e_IMPLICIT_COMMIT)) (Or.inl (own_w hw 43 rfl)) Via.refl (S_IMPLICIT_COMMIT.ext O.2) d5_1 (pc' := 4) rfl ?_
  refine g_acmp_n C d5_4 rfl rfl (Jvm.Free.XT.aa_eq_f (fun q => (Fld.ne D_SUSPENDING_BEGIN D_IMPLICIT_COMMIT (by decide)) (Value.ref.inj q))) (pc' := 7) rfl ?_
  refine g_aload_n C d5_7 (v := (.ref e_SUSPENDING_BEGIN)) rfl rfl (pc' := 8) rfl ?_
  refine g_getstatic C (host := "") (v := (.ref e_IMPLICIT_COMMIT_AND_BEGIN)) (Or.inl (own_w hw 19 rfl)) Via.refl (S_IMPLICIT_COMMIT_AND_BEGIN.ext O.2) d5_8 (pc' := 11) rfl ?_
  refine g_acmp_n C d5_11 rfl rfl (Jvm.Free.XT.aa_eq_f (fun q => (Fld.ne D_SUSPENDING_BEGIN D_IMPLICIT_COMMIT_AND_BEGIN (by decide)) (Value.ref.inj q))) (pc' := 14) rfl ?_
  refine g_aload_n C d5_14 (v := (.ref e_SUSPENDING_BEGIN)) rfl rfl (pc' := 15) rfl ?_
  refine g_getstatic C (host := "") (v := (.ref e_ISOLATION_COMMIT)) (Or.inl (own_w hw 45 rfl)) Via.refl (S_ISOLATION_COMMIT.ext O.2) d5_15 (pc' := 18) rfl ?_
  refine g_acmp_y C d5_18 rfl rfl (Jvm.Free.XT.aa_ne_t (fun q => (Fld.ne D_SUSPENDING_BEGIN D_ISOLATION_COMMIT (by decide)) (Value.ref.inj q))) (pc' := 25) (by decide) (by decide) ?_
  refine g_iconst C d5_25 (v := (0 : Int32)) rfl (pc' := 26) rfl ?_
  refine g_ret C (v := (.int (0 : Int32))) (ty := .boolean) rfl rfl (Or.inl ⟨rfl, Or.inr (Or.inl rfl), _, rfl⟩) d5_26 (by decide) (by decide) ?_
  exact ⟨rfl, rfl⟩
set_option maxRecDepth 65536 in
set_option maxHeartbeats 40000000 in
theorem rm_commitsImplicitly_COMMIT_AND_BEGIN (l : Launch) (Z : State) (a0 : Array Value) (hw : ∀ d ∈ tables_1, d.before a0 Z = true) (n0 : Nat) (e_NONE e_BEGIN e_SUSPENDING_BEGIN e_COMMIT_AND_BEGIN e_IMPLICIT_COMMIT_AND_BEGIN e_ROLLBACK e_COMMIT e_PREPARE e_IMPLICIT_COMMIT e_ISOLATION_COMMIT : Addr) (h0 : Heap) (Z0 : n0 ≤ h0.size) (en : Ens Z e_NONE e_BEGIN e_SUSPENDING_BEGIN e_COMMIT_AND_BEGIN e_IMPLICIT_COMMIT_AND_BEGIN e_ROLLBACK e_COMMIT e_PREPARE e_IMPLICIT_COMMIT e_ISOLATION_COMMIT) (O : Old Z n0 h0) :
    Met1 l Z (⟨"com/example/measured_savepoints/measuredsavepoints/SavepointSql$TransactionEnd", "commitsImplicitly", "()Z"⟩ : MethodName) prog_54_method_6_code 1 (some .boolean) ({ frames := 0, cells := 0, slots := 0, locals := 0 } : Room) n0 #[(.ref e_COMMIT_AND_BEGIN)] h0 (fun v h => v = some (.int (0 : Int32)) ∧ h0 = h) := by
  refine met_of (plainFor_of_name own_pn_com_example_measured_savepoints_measuredsavepoints_SavepointSql_TransactionEnd) (L0 := #[.val (.ref e_COMMIT_AND_BEGIN)]) (by first | rfl | (simp [argsToLocals, Value.category]; done)) ?_
  intro B C
  change Ctx B l _ _ "com/example/measured_savepoints/measuredsavepoints/SavepointSql$TransactionEnd" "commitsImplicitly" _ _ Z at C
  have en' := en
  obtain ⟨⟨S_NONE, X_NONE, D_NONE⟩, ⟨S_BEGIN, X_BEGIN, D_BEGIN⟩, ⟨S_SUSPENDING_BEGIN, X_SUSPENDING_BEGIN, D_SUSPENDING_BEGIN⟩, ⟨S_COMMIT_AND_BEGIN, X_COMMIT_AND_BEGIN, D_COMMIT_AND_BEGIN⟩, ⟨S_IMPLICIT_COMMIT_AND_BEGIN, X_IMPLICIT_COMMIT_AND_BEGIN, D_IMPLICIT_COMMIT_AND_BEGIN⟩, ⟨S_ROLLBACK, X_ROLLBACK, D_ROLLBACK⟩, ⟨S_COMMIT, X_COMMIT, D_COMMIT⟩, ⟨S_PREPARE, X_PREPARE, D_PREPARE⟩, ⟨S_IMPLICIT_COMMIT, X_IMPLICIT_COMMIT, D_IMPLICIT_COMMIT⟩, ⟨S_ISOLATION_COMMIT, X_ISOLATION_COMMIT, D_ISOLATION_COMMIT⟩⟩ := en'
  refine g_aload_n C d5_0 (v := (.ref e_COMMIT_AND_BEGIN)) rfl rfl (pc' := 1) rfl ?_
  refine g_getstatic C (host := "") (v := (.ref e_IMPLICIT_COMMIT)) (Or.inl (own_w hw 43 rfl)) Via.refl (S_IMPLICIT_COMMIT.ext O.2) d5_1 (pc' := 4) rfl ?_
  refine g_acmp_n C d5_4 rfl rfl (Jvm.Free.XT.aa_eq_f (fun q => (Fld.ne D_COMMIT_AND_BEGIN D_IMPLICIT_COMMIT (by decide)) (Value.ref.inj q))) (pc' := 7) rfl ?_
  refine g_aload_n C d5_7 (v := (.ref e_COMMIT_AND_BEGIN)) rfl rfl (pc' := 8) rfl ?_
  refine g_getstatic C (host := "") (v := (.ref e_IMPLICIT_COMMIT_AND_BEGIN)) (Or.inl (own_w hw 19 rfl)) Via.refl (S_IMPLICIT_COMMIT_AND_BEGIN.ext O.2) d5_8 (pc' := 11) rfl ?_
  refine g_acmp_n C d5_11 rfl rfl (Jvm.Free.XT.aa_eq_f (fun q => (Fld.ne D_COMMIT_AND_BEGIN D_IMPLICIT_COMMIT_AND_BEGIN (by decide)) (Value.ref.inj q))) (pc' := 14) rfl ?_
  refine g_aload_n C d5_14 (v := (.ref e_COMMIT_AND_BEGIN)) rfl rfl (pc' := 15) rfl ?_
  refine g_getstatic C (host := "") (v := (.ref e_ISOLATION_COMMIT)) (Or.inl (own_w hw 45 rfl)) Via.refl (S_ISOLATION_COMMIT.ext O.2) d5_15 (pc' := 18) rfl ?_
  refine g_acmp_y C d5_18 rfl rfl (Jvm.Free.XT.aa_ne_t (fun q => (Fld.ne D_COMMIT_AND_BEGIN D_ISOLATION_COMMIT (by decide)) (Value.ref.inj q))) (pc' := 25) (by decide) (by decide) ?_
  refine g_iconst C d5_25 (v := (0 : Int32)) rfl (pc' := 26) rfl ?_
  refine g_ret C (v := (.int (0 : Int32))) (ty := .boolean) rfl rfl (Or.inl ⟨rfl, Or.inr (Or.inl rfl), _, rfl⟩) d5_26 (by decide) (by decide) ?_
  exact ⟨rfl, rfl⟩
theorem d5_21 : decode prog_54_method_6_code 21 = .ok (.iconst 1, 1) := by decide +kernel
theorem d5_22 : decode prog_54_method_6_code 22 = .ok (.goto 4, 3) := by decide +kernel
set_option maxRecDepth 65536 in
set_option maxHeartbeats 40000000 in
theorem rm_commitsImplicitly_IMPLICIT_COMMIT_AND_BEGIN (l : Launch) (Z : State) (a0 : Array Value) (hw : ∀ d ∈ tables_1, d.before a0 Z = true) (n0 : Nat) (e_NONE e_BEGIN e_SUSPENDING_BEGIN e_COMMIT_AND_BEGIN e_IMPLICIT_COMMIT_AND_BEGIN e_ROLLBACK e_COMMIT e_PREPARE e_IMPLICIT_COMMIT e_ISOLATION_COMMIT : Addr) (h0 : Heap) (Z0 : n0 ≤ h0.size) (en : Ens Z e_NONE e_BEGIN e_SUSPENDING_BEGIN e_COMMIT_AND_BEGIN e_IMPLICIT_COMMIT_AND_BEGIN e_ROLLBACK e_COMMIT e_PREPARE e_IMPLICIT_COMMIT e_ISOLATION_COMMIT) (O : Old Z n0 h0) :
    Met1 l Z (⟨"com/example/measured_savepoints/measuredsavepoints/SavepointSql$TransactionEnd", "commitsImplicitly", "()Z"⟩ : MethodName) prog_54_method_6_code 1 (some .boolean) ({ frames := 0, cells := 0, slots := 0, locals := 0 } : Room) n0 #[(.ref e_IMPLICIT_COMMIT_AND_BEGIN)] h0 (fun v h => v = some (.int (1 : Int32)) ∧ h0 = h) := by
  refine met_of (plainFor_of_name own_pn_com_example_measured_savepoints_measuredsavepoints_SavepointSql_TransactionEnd) (L0 := #[.val (.ref e_IMPLICIT_COMMIT_AND_BEGIN)]) (by first | rfl | (simp [argsToLocals, Value.category]; done)) ?_
  intro B C
  change Ctx B l _ _ "com/example/measured_savepoints/measuredsavepoints/SavepointSql$TransactionEnd" "commitsImplicitly" _ _ Z at C
  have en' := en
  obtain ⟨⟨S_NONE, X_NONE, D_NONE⟩, ⟨S_BEGIN, X_BEGIN, D_BEGIN⟩, ⟨S_SUSPENDING_BEGIN, X_SUSPENDING_BEGIN, D_SUSPENDING_BEGIN⟩, ⟨S_COMMIT_AND_BEGIN, X_COMMIT_AND_BEGIN, D_COMMIT_AND_BEGIN⟩, ⟨S_IMPLICIT_COMMIT_AND_BEGIN, X_IMPLICIT_COMMIT_AND_BEGIN, D_IMPLICIT_COMMIT_AND_BEGIN⟩, ⟨S_ROLLBACK, X_ROLLBACK, D_ROLLBACK⟩, ⟨S_COMMIT, X_COMMIT, D_COMMIT⟩, ⟨S_PREPARE, X_PREPARE, D_PREPARE⟩, ⟨S_IMPLICIT_COMMIT, X_IMPLICIT_COMMIT, D_IMPLICIT_COMMIT⟩, ⟨S_ISOLATION_COMMIT, X_ISOLATION_COMMIT, D_ISOLATION_COMMIT⟩⟩ := en'
  refine g_aload_n C d5_0 (v := (.ref e_IMPLICIT_COMMIT_AND_BEGIN)) rfl rfl (pc' := 1) rfl ?_
  refine g_getstatic C (host := "") (v := (.ref e_IMPLICIT_COMMIT)) (Or.inl (own_w hw 43 rfl)) Via.refl (S_IMPLICIT_COMMIT.ext O.2) d5_1 (pc' := 4) rfl ?_
  refine g_acmp_n C d5_4 rfl rfl (Jvm.Free.XT.aa_eq_f (fun q => (Fld.ne D_IMPLICIT_COMMIT_AND_BEGIN D_IMPLICIT_COMMIT (by decide)) (Value.ref.inj q))) (pc' := 7) rfl ?_
  refine g_aload_n C d5_7 (v := (.ref e_IMPLICIT_COMMIT_AND_BEGIN)) rfl rfl (pc' := 8) rfl ?_
  refine g_getstatic C (host := "") (v := (.ref e_IMPLICIT_COMMIT_AND_BEGIN)) (Or.inl (own_w hw 19 rfl)) Via.refl (S_IMPLICIT_COMMIT_AND_BEGIN.ext O.2) d5_8 (pc' := 11) rfl ?_
  refine g_acmp_y C d5_11 rfl rfl (Jvm.Free.XT.aa_eq_t rfl) (pc' := 21) (by decide) (by decide) ?_
  refine g_iconst C d5_21 (v := (1 : Int32)) rfl (pc' := 22) rfl ?_
  refine g_goto C d5_22 (pc' := 26) (by decide) (by decide) ?_
  refine g_ret C (v := (.int (1 : Int32))) (ty := .boolean) rfl rfl (Or.inl ⟨rfl, Or.inr (Or.inl rfl), _, rfl⟩) d5_26 (by decide) (by decide) ?_
  exact ⟨rfl, rfl⟩
set_option maxRecDepth 65536 in
set_option maxHeartbeats 40000000 in
theorem rm_commitsImplicitly_ROLLBACK (l : Launch) (Z : State) (a0 : Array Value) (hw : ∀ d ∈ tables_1, d.before a0 Z = true) (n0 : Nat) (e_NONE e_BEGIN e_SUSPENDING_BEGIN e_COMMIT_AND_BEGIN e_IMPLICIT_COMMIT_AND_BEGIN e_ROLLBACK e_COMMIT e_PREPARE e_IMPLICIT_COMMIT e_ISOLATION_COMMIT : Addr) (h0 : Heap) (Z0 : n0 ≤ h0.size) (en : Ens Z e_NONE e_BEGIN e_SUSPENDING_BEGIN e_COMMIT_AND_BEGIN e_IMPLICIT_COMMIT_AND_BEGIN e_ROLLBACK e_COMMIT e_PREPARE e_IMPLICIT_COMMIT e_ISOLATION_COMMIT) (O : Old Z n0 h0) :
    Met1 l Z (⟨"com/example/measured_savepoints/measuredsavepoints/SavepointSql$TransactionEnd", "commitsImplicitly", "()Z"⟩ : MethodName) prog_54_method_6_code 1 (some .boolean) ({ frames := 0, cells := 0, slots := 0, locals := 0 } : Room) n0 #[(.ref e_ROLLBACK)] h0 (fun v h => v = some (.int (0 : Int32)) ∧ h0 = h) := by
  refine met_of (plainFor_of_name own_pn_com_example_measured_savepoints_measuredsavepoints_SavepointSql_TransactionEnd) (L0 := #[.val (.ref e_ROLLBACK)]) (by first | rfl | (simp [argsToLocals, Value.category]; done)) ?_
  intro B C
  change Ctx B l _ _ "com/example/measured_savepoints/measuredsavepoints/SavepointSql$TransactionEnd" "commitsImplicitly" _ _ Z at C
  have en' := en
  obtain ⟨⟨S_NONE, X_NONE, D_NONE⟩, ⟨S_BEGIN, X_BEGIN, D_BEGIN⟩, ⟨S_SUSPENDING_BEGIN, X_SUSPENDING_BEGIN, D_SUSPENDING_BEGIN⟩, ⟨S_COMMIT_AND_BEGIN, X_COMMIT_AND_BEGIN, D_COMMIT_AND_BEGIN⟩, ⟨S_IMPLICIT_COMMIT_AND_BEGIN, X_IMPLICIT_COMMIT_AND_BEGIN, D_IMPLICIT_COMMIT_AND_BEGIN⟩, ⟨S_ROLLBACK, X_ROLLBACK, D_ROLLBACK⟩, ⟨S_COMMIT, X_COMMIT, D_COMMIT⟩, ⟨S_PREPARE, X_PREPARE, D_PREPARE⟩, ⟨S_IMPLICIT_COMMIT, X_IMPLICIT_COMMIT, D_IMPLICIT_COMMIT⟩, ⟨S_ISOLATION_COMMIT, X_ISOLATION_COMMIT, D_ISOLATION_COMMIT⟩⟩ := en'
  refine g_aload_n C d5_0 (v := (.ref e_ROLLBACK)) rfl rfl (pc' := 1) rfl ?_
  refine g_getstatic C (host := "") (v := (.ref e_IMPLICIT_COMMIT)) (Or.inl (own_w hw 43 rfl)) Via.refl (S_IMPLICIT_COMMIT.ext O.2) d5_1 (pc' := 4) rfl ?_
  refine g_acmp_n C d5_4 rfl rfl (Jvm.Free.XT.aa_eq_f (fun q => (Fld.ne D_ROLLBACK D_IMPLICIT_COMMIT (by decide)) (Value.ref.inj q))) (pc' := 7) rfl ?_
  refine g_aload_n C d5_7 (v := (.ref e_ROLLBACK)) rfl rfl (pc' := 8) rfl ?_
  refine g_getstatic C (host := "") (v := (.ref e_IMPLICIT_COMMIT_AND_BEGIN)) (Or.inl (own_w hw 19 rfl)) Via.refl (S_IMPLICIT_COMMIT_AND_BEGIN.ext O.2) d5_8 (pc' := 11) rfl ?_
  refine g_acmp_n C d5_11 rfl rfl (Jvm.Free.XT.aa_eq_f (fun q => (Fld.ne D_ROLLBACK D_IMPLICIT_COMMIT_AND_BEGIN (by decide)) (Value.ref.inj q))) (pc' := 14) rfl ?_
  refine g_aload_n C d5_14 (v := (.ref e_ROLLBACK)) rfl rfl (pc' := 15) rfl ?_
  refine g_getstatic C (host := "") (v := (.ref e_ISOLATION_COMMIT)) (Or.inl (own_w hw 45 rfl)) Via.refl (S_ISOLATION_COMMIT.ext O.2) d5_15 (pc' := 18) rfl ?_
  refine g_acmp_y C d5_18 rfl rfl (Jvm.Free.XT.aa_ne_t (fun q => (Fld.ne D_ROLLBACK D_ISOLATION_COMMIT (by decide)) (Value.ref.inj q))) (pc' := 25) (by decide) (by decide) ?_
  refine g_iconst C d5_25 (v := (0 : Int32)) rfl (pc' := 26) rfl ?_
  refine g_ret C (v := (.int (0 : Int32))) (ty := .boolean) rfl rfl (Or.inl ⟨rfl, Or.inr (Or.inl rfl), _, rfl⟩) d5_26 (by decide) (by decide) ?_
  exact ⟨rfl, rfl⟩
set_option maxRecDepth 65536 in
set_option maxHeartbeats 40000000 in
theorem rm_commitsImplicitly_COMMIT (l : Launch) (Z : State) (a0 : Array Value) (hw : ∀ d ∈ tables_1, d.before a0 Z = true) (n0 : Nat) (e_NONE e_BEGIN e_SUSPENDING_BEGIN e_COMMIT_AND_BEGIN e_IMPLICIT_COMMIT_AND_BEGIN e_ROLLBACK e_COMMIT e_PREPARE e_IMPLICIT_COMMIT e_ISOLATION_COMMIT : Addr) (h0 : Heap) (Z0 : n0 ≤ h0.size) (en : Ens Z e_NONE e_BEGIN e_SUSPENDING_BEGIN e_COMMIT_AND_BEGIN e_IMPLICIT_COMMIT_AND_BEGIN e_ROLLBACK e_COMMIT e_PREPARE e_IMPLICIT_COMMIT e_ISOLATION_COMMIT) (O : Old Z n0 h0) :
    Met1 l Z (⟨"com/example/measured_savepoints/measuredsavepoints/SavepointSql$TransactionEnd", "commitsImplicitly", "()Z"⟩ : MethodName) prog_54_method_6_code 1 (some .boolean) ({ frames := 0, cells := 0, slots := 0, locals := 0 } : Room) n0 #[(.ref e_COMMIT)] h0 (fun v h => v = some (.int (0 : Int32)) ∧ h0 = h) := by
  refine met_of (plainFor_of_name own_pn_com_example_measured_savepoints_measuredsavepoints_SavepointSql_TransactionEnd) (L0 := #[.val (.ref e_COMMIT)]) (by first | rfl | (simp [argsToLocals, Value.category]; done)) ?_
  intro B C
  change Ctx B l _ _ "com/example/measured_savepoints/measuredsavepoints/SavepointSql$TransactionEnd" "commitsImplicitly" _ _ Z at C
  have en' := en
  obtain ⟨⟨S_NONE, X_NONE, D_NONE⟩, ⟨S_BEGIN, X_BEGIN, D_BEGIN⟩, ⟨S_SUSPENDING_BEGIN, X_SUSPENDING_BEGIN, D_SUSPENDING_BEGIN⟩, ⟨S_COMMIT_AND_BEGIN, X_COMMIT_AND_BEGIN, D_COMMIT_AND_BEGIN⟩, ⟨S_IMPLICIT_COMMIT_AND_BEGIN, X_IMPLICIT_COMMIT_AND_BEGIN, D_IMPLICIT_COMMIT_AND_BEGIN⟩, ⟨S_ROLLBACK, X_ROLLBACK, D_ROLLBACK⟩, ⟨S_COMMIT, X_COMMIT, D_COMMIT⟩, ⟨S_PREPARE, X_PREPARE, D_PREPARE⟩, ⟨S_IMPLICIT_COMMIT, X_IMPLICIT_COMMIT, D_IMPLICIT_COMMIT⟩, ⟨S_ISOLATION_COMMIT, X_ISOLATION_COMMIT, D_ISOLATION_COMMIT⟩⟩ := en'
  refine g_aload_n C d5_0 (v := (.ref e_COMMIT)) rfl rfl (pc' := 1) rfl ?_
  refine g_getstatic C (host := "") (v := (.ref e_IMPLICIT_COMMIT)) (Or.inl (own_w hw 43 rfl)) Via.refl (S_IMPLICIT_COMMIT.ext O.2) d5_1 (pc' := 4) rfl ?_
  refine g_acmp_n C d5_4 rfl rfl (Jvm.Free.XT.aa_eq_f (fun q => (Fld.ne D_COMMIT D_IMPLICIT_COMMIT (by decide)) (Value.ref.inj q))) (pc' := 7) rfl ?_
  refine g_aload_n C d5_7 (v := (.ref e_COMMIT)) rfl rfl (pc' := 8) rfl ?_
  refine g_getstatic C (host := "") (v := (.ref e_IMPLICIT_COMMIT_AND_BEGIN)) (Or.inl (own_w hw 19 rfl)) Via.refl (S_IMPLICIT_COMMIT_AND_BEGIN.ext O.2) d5_8 (pc' := 11) rfl ?_
  refine g_acmp_n C d5_11 rfl rfl (Jvm.Free.XT.aa_eq_f (fun q => (Fld.ne D_COMMIT D_IMPLICIT_COMMIT_AND_BEGIN (by decide)) (Value.ref.inj q))) (pc' := 14) rfl ?_
  refine g_aload_n C d5_14 (v := (.ref e_COMMIT)) rfl rfl (pc' := 15) rfl ?_
  refine g_getstatic C (host := "") (v := (.ref e_ISOLATION_COMMIT)) (Or.inl (own_w hw 45 rfl)) Via.refl (S_ISOLATION_COMMIT.ext O.2) d5_15 (pc' := 18) rfl ?_
  refine g_acmp_y C d5_18 rfl rfl (Jvm.Free.XT.aa_ne_t (fun q => (Fld.ne D_COMMIT D_ISOLATION_COMMIT (by decide)) (Value.ref.inj q))) (pc' := 25) (by decide) (by decide) ?_
  refine g_iconst C d5_25 (v := (0 : Int32)) rfl (pc' := 26) rfl ?_
  refine g_ret C (v := (.int (0 : Int32))) (ty := .boolean) rfl rfl (Or.inl ⟨rfl, Or.inr (Or.inl rfl), _, rfl⟩) d5_26 (by decide) (by decide) ?_
  exact ⟨rfl, rfl⟩
set_option maxRecDepth 65536 in
set_option maxHeartbeats 40000000 in
theorem rm_commitsImplicitly_PREPARE (l : Launch) (Z : State) (a0 : Array Value) (hw : ∀ d ∈ tables_1, d.before a0 Z = true) (n0 : Nat) (e_NONE e_BEGIN e_SUSPENDING_BEGIN e_COMMIT_AND_BEGIN e_IMPLICIT_COMMIT_AND_BEGIN e_ROLLBACK e_COMMIT e_PREPARE e_IMPLICIT_COMMIT e_ISOLATION_COMMIT : Addr) (h0 : Heap) (Z0 : n0 ≤ h0.size) (en : Ens Z e_NONE e_BEGIN e_SUSPENDING_BEGIN e_COMMIT_AND_BEGIN e_IMPLICIT_COMMIT_AND_BEGIN e_ROLLBACK e_COMMIT e_PREPARE e_IMPLICIT_COMMIT e_ISOLATION_COMMIT) (O : Old Z n0 h0) :
    Met1 l Z (⟨"com/example/measured_savepoints/measuredsavepoints/SavepointSql$TransactionEnd", "commitsImplicitly", "()Z"⟩ : MethodName) prog_54_method_6_code 1 (some .boolean) ({ frames := 0, cells := 0, slots := 0, locals := 0 } : Room) n0 #[(.ref e_PREPARE)] h0 (fun v h => v = some (.int (0 : Int32)) ∧ h0 = h) := by
  refine met_of (plainFor_of_name own_pn_com_example_measured_savepoints_measuredsavepoints_SavepointSql_TransactionEnd) (L0 := #[.val (.ref e_PREPARE)]) (by first | rfl | (simp [argsToLocals, Value.category]; done)) ?_
  intro B C
  change Ctx B l _ _ "com/example/measured_savepoints/measuredsavepoints/SavepointSql$TransactionEnd" "commitsImplicitly" _ _ Z at C
  have en' := en
  obtain ⟨⟨S_NONE, X_NONE, D_NONE⟩, ⟨S_BEGIN, X_BEGIN, D_BEGIN⟩, ⟨S_SUSPENDING_BEGIN, X_SUSPENDING_BEGIN, D_SUSPENDING_BEGIN⟩, ⟨S_COMMIT_AND_BEGIN, X_COMMIT_AND_BEGIN, D_COMMIT_AND_BEGIN⟩, ⟨S_IMPLICIT_COMMIT_AND_BEGIN, X_IMPLICIT_COMMIT_AND_BEGIN, D_IMPLICIT_COMMIT_AND_BEGIN⟩, ⟨S_ROLLBACK, X_ROLLBACK, D_ROLLBACK⟩, ⟨S_COMMIT, X_COMMIT, D_COMMIT⟩, ⟨S_PREPARE, X_PREPARE, D_PREPARE⟩, ⟨S_IMPLICIT_COMMIT, X_IMPLICIT_COMMIT, D_IMPLICIT_COMMIT⟩, ⟨S_ISOLATION_COMMIT, X_ISOLATION_COMMIT, D_ISOLATION_COMMIT⟩⟩ := en'
  refine g_aload_n C d5_0 (v := (.ref e_PREPARE)) rfl rfl (pc' := 1) rfl ?_
  refine g_getstatic C (host := "") (v := (.ref e_IMPLICIT_COMMIT)) (Or.inl (own_w hw 43 rfl)) Via.refl (S_IMPLICIT_COMMIT.ext O.2) d5_1 (pc' := 4) rfl ?_
  refine g_acmp_n C d5_4 rfl rfl (Jvm.Free.XT.aa_eq_f (fun q => (Fld.ne D_PREPARE D_IMPLICIT_COMMIT (by decide)) (Value.ref.inj q))) (pc' := 7) rfl ?_
  refine g_aload_n C d5_7 (v := (.ref e_PREPARE)) rfl rfl (pc' := 8) rfl ?_
  refine g_getstatic C (host := "") (v := (.ref e_IMPLICIT_COMMIT_AND_BEGIN)) (Or.inl (own_w hw 19 rfl)) Via.refl (S_IMPLICIT_COMMIT_AND_BEGIN.ext O.2) d5_8 (pc' := 11) rfl ?_
  refine g_acmp_n C d5_11 rfl rfl (Jvm.Free.XT.aa_eq_f (fun q => (Fld.ne D_PREPARE D_IMPLICIT_COMMIT_AND_BEGIN (by decide)) (Value.ref.inj q))) (pc' := 14) rfl ?_
  refine g_aload_n C d5_14 (v := (.ref e_PREPARE)) rfl rfl (pc' := 15) rfl ?_
  refine g_getstatic C (host := "") (v := (.ref e_ISOLATION_COMMIT)) (Or.inl (own_w hw 45 rfl)) Via.refl (S_ISOLATION_COMMIT.ext O.2) d5_15 (pc' := 18) rfl ?_
  refine g_acmp_y C d5_18 rfl rfl (Jvm.Free.XT.aa_ne_t (fun q => (Fld.ne D_PREPARE D_ISOLATION_COMMIT (by decide)) (Value.ref.inj q))) (pc' := 25) (by decide) (by decide) ?_
  refine g_iconst C d5_25 (v := (0 : Int32)) rfl (pc' := 26) rfl ?_
  refine g_ret C (v := (.int (0 : Int32))) (ty := .boolean) rfl rfl (Or.inl ⟨rfl, Or.inr (Or.inl rfl), _, rfl⟩) d5_26 (by decide) (by decide) ?_
  exact ⟨rfl, rfl⟩
set_option maxRecDepth 65536 in
set_option maxHeartbeats 40000000 in
theorem rm_commitsImplicitly_IMPLICIT_COMMIT (l : Launch) (Z : State) (a0 : Array Value) (hw : ∀ d ∈ tables_1, d.before a0 Z = true) (n0 : Nat) (e_NONE e_BEGIN e_SUSPENDING_BEGIN e_COMMIT_AND_BEGIN e_IMPLICIT_COMMIT_AND_BEGIN e_ROLLBACK e_COMMIT e_PREPARE e_IMPLICIT_COMMIT e_ISOLATION_COMMIT : Addr) (h0 : Heap) (Z0 : n0 ≤ h0.size) (en : Ens Z e_NONE e_BEGIN e_SUSPENDING_BEGIN e_COMMIT_AND_BEGIN e_IMPLICIT_COMMIT_AND_BEGIN e_ROLLBACK e_COMMIT e_PREPARE e_IMPLICIT_COMMIT e_ISOLATION_COMMIT) (O : Old Z n0 h0) :
    Met1 l Z (⟨"com/example/measured_savepoints/measuredsavepoints/SavepointSql$TransactionEnd", "commitsImplicitly", "()Z"⟩ : MethodName) prog_54_method_6_code 1 (some .boolean) ({ frames := 0, cells := 0, slots := 0, locals := 0 } : Room) n0 #[(.ref e_IMPLICIT_COMMIT)] h0 (fun v h => v = some (.int (1 : Int32)) ∧ h0 = h) := by
  refine met_of (plainFor_of_name own_pn_com_example_measured_savepoints_measuredsavepoints_SavepointSql_TransactionEnd) (L0 := #[.val (.ref e_IMPLICIT_COMMIT)]) (by first | rfl | (simp [argsToLocals, Value.category]; done)) ?_
  intro B C
  change Ctx B l _ _ "com/example/measured_savepoints/measuredsavepoints/SavepointSql$TransactionEnd" "commitsImplicitly" _ _ Z at C
  have en' := en
  obtain ⟨⟨S_NONE, X_NONE, D_NONE⟩, ⟨S_BEGIN, X_BEGIN, D_BEGIN⟩, ⟨S_SUSPENDING_BEGIN, X_SUSPENDING_BEGIN, D_SUSPENDING_BEGIN⟩, ⟨S_COMMIT_AND_BEGIN, X_COMMIT_AND_BEGIN, D_COMMIT_AND_BEGIN⟩, ⟨S_IMPLICIT_COMMIT_AND_BEGIN, X_IMPLICIT_COMMIT_AND_BEGIN, D_IMPLICIT_COMMIT_AND_BEGIN⟩, ⟨S_ROLLBACK, X_ROLLBACK, D_ROLLBACK⟩, ⟨S_COMMIT, X_COMMIT, D_COMMIT⟩, ⟨S_PREPARE, X_PREPARE, D_PREPARE⟩, ⟨S_IMPLICIT_COMMIT, X_IMPLICIT_COMMIT, D_IMPLICIT_COMMIT⟩, ⟨S_ISOLATION_COMMIT, X_ISOLATION_COMMIT, D_ISOLATION_COMMIT⟩⟩ := en'
  refine g_aload_n C d5_0 (v := (.ref e_IMPLICIT_COMMIT)) rfl rfl (pc' := 1) rfl ?_
  refine g_getstatic C (host := "") (v := (.ref e_IMPLICIT_COMMIT)) (Or.inl (own_w hw 43 rfl)) Via.refl (S_IMPLICIT_COMMIT.ext O.2) d5_1 (pc' := 4) rfl ?_
  refine g_acmp_y C d5_4 rfl rfl (Jvm.Free.XT.aa_eq_t rfl) (pc' := 21) (by decide) (by decide) ?_
  refine g_iconst C d5_21 (v := (1 : Int32)) rfl (pc' := 22) rfl ?_
  refine g_goto C d5_22 (pc' := 26) (by decide) (by decide) ?_
  refine g_ret C (v := (.int (1 : Int32))) (ty := .boolean) rfl rfl (Or.inl ⟨rfl, Or.inr (Or.inl rfl), _, rfl⟩) d5_26 (by decide) (by decide) ?_
  exact ⟨rfl, rfl⟩
set_option maxRecDepth 65536 in
set_option maxHeartbeats 40000000 in
theorem rm_commitsImplicitly_ISOLATION_COMMIT (l : Launch) (Z : State) (a0 : Array Value) (hw : ∀ d ∈ tables_1, d.before a0 Z = true) (n0 : Nat) (e_NONE e_BEGIN e_SUSPENDING_BEGIN e_COMMIT_AND_BEGIN e_IMPLICIT_COMMIT_AND_BEGIN e_ROLLBACK e_COMMIT e_PREPARE e_IMPLICIT_COMMIT e_ISOLATION_COMMIT : Addr) (h0 : Heap) (Z0 : n0 ≤ h0.size) (en : Ens Z e_NONE e_BEGIN e_SUSPENDING_BEGIN e_COMMIT_AND_BEGIN e_IMPLICIT_COMMIT_AND_BEGIN e_ROLLBACK e_COMMIT e_PREPARE e_IMPLICIT_COMMIT e_ISOLATION_COMMIT) (O : Old Z n0 h0) :
    Met1 l Z (⟨"com/example/measured_savepoints/measuredsavepoints/SavepointSql$TransactionEnd", "commitsImplicitly", "()Z"⟩ : MethodName) prog_54_method_6_code 1 (some .boolean) ({ frames := 0, cells := 0, slots := 0, locals := 0 } : Room) n0 #[(.ref e_ISOLATION_COMMIT)] h0 (fun v h => v = some (.int (1 : Int32)) ∧ h0 = h) := by
  refine met_of (plainFor_of_name own_pn_com_example_measured_savepoints_measuredsavepoints_SavepointSql_TransactionEnd) (L0 := #[.val (.ref e_ISOLATION_COMMIT)]) (by first | rfl | (simp [argsToLocals, Value.category]; done)) ?_
  intro B C
  change Ctx B l _ _ "com/example/measured_savepoints/measuredsavepoints/SavepointSql$TransactionEnd" "commitsImplicitly" _ _ Z at C
  have en' := en
  obtain ⟨⟨S_NONE, X_NONE, D_NONE⟩, ⟨S_BEGIN, X_BEGIN, D_BEGIN⟩, ⟨S_SUSPENDING_BEGIN, X_SUSPENDING_BEGIN, D_SUSPENDING_BEGIN⟩, ⟨S_COMMIT_AND_BEGIN, X_COMMIT_AND_BEGIN, D_COMMIT_AND_BEGIN⟩, ⟨S_IMPLICIT_COMMIT_AND_BEGIN, X_IMPLICIT_COMMIT_AND_BEGIN, D_IMPLICIT_COMMIT_AND_BEGIN⟩, ⟨S_ROLLBACK, X_ROLLBACK, D_ROLLBACK⟩, ⟨S_COMMIT, X_COMMIT, D_COMMIT⟩, ⟨S_PREPARE, X_PREPARE, D_PREPARE⟩, ⟨S_IMPLICIT_COMMIT, X_IMPLICIT_COMMIT, D_IMPLICIT_COMMIT⟩, ⟨S_ISOLATION_COMMIT, X_ISOLATION_COMMIT, D_ISOLATION_COMMIT⟩⟩ := en'
  refine g_aload_n C d5_0 (v := (.ref e_ISOLATION_COMMIT)) rfl rfl (pc' := 1) rfl ?_
  refine g_getstatic C (host := "") (v := (.ref e_IMPLICIT_COMMIT)) (Or.inl (own_w hw 43 rfl)) Via.refl (S_IMPLICIT_COMMIT.ext O.2) d5_1 (pc' := 4) rfl ?_
  refine g_acmp_n C d5_4 rfl rfl (Jvm.Free.XT.aa_eq_f (fun q => (Fld.ne D_ISOLATION_COMMIT D_IMPLICIT_COMMIT (by decide)) (Value.ref.inj q))) (pc' := 7) rfl ?_
  refine g_aload_n C d5_7 (v := (.ref e_ISOLATION_COMMIT)) rfl rfl (pc' := 8) rfl ?_
  refine g_getstatic C (host := "") (v := (.ref e_IMPLICIT_COMMIT_AND_BEGIN)) (Or.inl (own_w hw 19 rfl)) Via.refl (S_IMPLICIT_COMMIT_AND_BEGIN.ext O.2) d5_8 (pc' := 11) rfl ?_
  refine g_acmp_n C d5_11 rfl rfl (Jvm.Free.XT.aa_eq_f (fun q => (Fld.ne D_ISOLATION_COMMIT D_IMPLICIT_COMMIT_AND_BEGIN (by decide)) (Value.ref.inj q))) (pc' := 14) rfl ?_
  refine g_aload_n C d5_14 (v := (.ref e_ISOLATION_COMMIT)) rfl rfl (pc' := 15) rfl ?_
  refine g_getstatic C (host := "") (v := (.ref e_ISOLATION_COMMIT)) (Or.inl (own_w hw 45 rfl)) Via.refl (S_ISOLATION_COMMIT.ext O.2) d5_15 (pc' := 18) rfl ?_
  refine g_acmp_n C d5_18 rfl rfl (Jvm.Free.XT.aa_ne_f rfl) (pc' := 21) rfl ?_
  refine g_iconst C d5_21 (v := (1 : Int32)) rfl (pc' := 22) rfl ?_
  refine g_goto C d5_22 (pc' := 26) (by decide) (by decide) ?_
  refine g_ret C (v := (.int (1 : Int32))) (ty := .boolean) rfl rfl (Or.inl ⟨rfl, Or.inr (Or.inl rfl), _, rfl⟩) d5_26 (by decide) (by decide) ?_
  exact ⟨rfl, rfl⟩
theorem own_pd_1_commitsImplicitly : parseMethodDescriptor "()Z" = some ⟨[], (some .boolean)⟩ := by decide +kernel
theorem d4_0 : decode prog_54_method_5_code 0 = .ok (.aload_n 0, 1) := by decide +kernel
theorem d4_1 : decode prog_54_method_5_code 1 = .ok (.getstatic 16, 3) := by decide +kernel
theorem d4_4 : decode prog_54_method_5_code 4 = .ok (.if_acmp .eq 24, 3) := by decide +kernel
theorem d4_7 : decode prog_54_method_5_code 7 = .ok (.aload_n 0, 1) := by decide +kernel
theorem d4_8 : decode prog_54_method_5_code 8 = .ok (.getstatic 19, 3) := by decide +kernel
theorem d4_11 : decode prog_54_method_5_code 11 = .ok (.if_acmp .eq 17, 3) := by decide +kernel
theorem d4_14 : decode prog_54_method_5_code 14 = .ok (.aload_n 0, 1) := by decide +kernel
theorem d4_15 : decode prog_54_method_5_code 15 = .ok (.getstatic 22, 3) := by decide +kernel
theorem d4_18 : decode prog_54_method_5_code 18 = .ok (.if_acmp .eq 10, 3) := by decide +kernel
theorem d4_21 : decode prog_54_method_5_code 21 = .ok (.aload_n 0, 1) := by decide +kernel
theorem d4_22 : decode prog_54_method_5_code 22 = .ok (.invokevirtual 53, 3) := by decide +kernel
theorem d4_25 : decode prog_54_method_5_code 25 = .ok (.ifCond .eq 7, 3) := by decide +kernel
theorem d4_32 : decode prog_54_method_5_code 32 = .ok (.iconst 0, 1) := by decide +kernel
theorem d4_33 : decode prog_54_method_5_code 33 = .ok (.ireturn, 1) := by decide +kernel
set_option maxRecDepth 65536 in
set_option maxHeartbeats 40000000 in
theorem rm_commits_NONE (l : Launch) (Z : State) (a0 : Array Value) (hw : ∀ d ∈ tables_1, d.before a0 Z = true) (n0 : Nat) (e_NONE e_BEGIN e_SUSPENDING_BEGIN e_COMMIT_AND_BEGIN e_IMPLICIT_COMMIT_AND_BEGIN e_ROLLBACK e_COMMIT e_PREPARE e_IMPLICIT_COMMIT e_ISOLATION_COMMIT : Addr) (h0 : Heap) (Z0 : n0 ≤ h0.size) (en : Ens Z e_NONE e_BEGIN e_SUSPENDING_BEGIN e_COMMIT_AND_BEGIN e_IMPLICIT_COMMIT_AND_BEGIN e_ROLLBACK e_COMMIT e_PREPARE e_IMPLICIT_COMMIT e_ISOLATION_COMMIT) (O : Old Z n0 h0) :
    Met1 l Z (⟨"com/example/measured_savepoints/measuredsavepoints/SavepointSql$TransactionEnd", "commits", "()Z"⟩ : MethodName) prog_54_method_5_code 1 (some .boolean) ({ frames := 1, cells := 0, slots := 0, locals := 12 } : Room) n0 #[(.ref e_NONE)] h0 (fun v h => v = some (.int (0 : Int32)) ∧ h0 = h) := by
  refine met_of (plainFor_of_name own_pn_com_example_measured_savepoints_measuredsavepoints_SavepointSql_TransactionEnd) (L0 := #[.val (.ref e_NONE)]) (by first | rfl | (simp [argsToLocals, Value.category]; done)) ?_
  intro B C
  change Ctx B l _ _ "com/example/measured_savepoints/measuredsavepoints/SavepointSql$TransactionEnd" "commits" _ _ Z at C
  have en' := en
  obtain ⟨⟨S_NONE, X_NONE, D_NONE⟩, ⟨S_BEGIN, X_BEGIN, D_BEGIN⟩, ⟨S_SUSPENDING_BEGIN, X_SUSPENDING_BEGIN, D_SUSPENDING_BEGIN⟩, ⟨S_COMMIT_AND_BEGIN, X_COMMIT_AND_BEGIN, D_COMMIT_AND_BEGIN⟩, ⟨S_IMPLICIT_COMMIT_AND_BEGIN, X_IMPLICIT_COMMIT_AND_BEGIN, D_IMPLICIT_COMMIT_AND_BEGIN⟩, ⟨S_ROLLBACK, X_ROLLBACK, D_ROLLBACK⟩, ⟨S_COMMIT, X_COMMIT, D_COMMIT⟩, ⟨S_PREPARE, X_PREPARE, D_PREPARE⟩, ⟨S_IMPLICIT_COMMIT, X_IMPLICIT_COMMIT, D_IMPLICIT_COMMIT⟩, ⟨S_ISOLATION_COMMIT, X_ISOLATION_COMMIT, D_ISOLATION_COMMIT⟩⟩ := en'
  refine g_aload_n C d4_0 (v := (.ref e_NONE)) rfl rfl (pc' := 1) rfl ?_
  refine g_getstatic C (host := "") (v := (.ref e_COMMIT)) (Or.inl (own_w hw 34 rfl)) Via.refl (S_COMMIT.ext O.2) d4_1 (pc' := 4) rfl ?_
  refine g_acmp_n C d4_4 rfl rfl (Jvm.Free.XT.aa_eq_f (fun q => (Fld.ne D_NONE D_COMMIT (by decide)) (Value.ref.inj q))) (pc' := 7) rfl ?_
  refine g_aload_n C d4_7 (v := (.ref e_NONE)) rfl rfl (pc' := 8) rfl ?_
  refine g_getstatic C (host := "") (v := (.ref e_PREPARE)) (Or.inl (own_w hw 36 rfl)) Via.refl (S_PREPARE.ext O.2) d4_8 (pc' := 11) rfl ?_
  refine g_acmp_n C d4_11 rfl rfl (Jvm.Free.XT.aa_eq_f (fun q => (Fld.ne D_NONE D_PREPARE (by decide)) (Value.ref.inj q))) (pc' := 14) rfl ?_
  refine g_aload_n C d4_14 (v := (.ref e_NONE)) rfl rfl (pc' := 15) rfl ?_
  refine g_getstatic C (host := "") (v := (.ref e_COMMIT_AND_BEGIN)) (Or.inl (own_w hw 17 rfl)) Via.refl (S_COMMIT_AND_BEGIN.ext O.2) d4_15 (pc' := 18) rfl ?_
  refine g_acmp_n C d4_18 rfl rfl (Jvm.Free.XT.aa_eq_f (fun q => (Fld.ne D_NONE D_COMMIT_AND_BEGIN (by decide)) (Value.ref.inj q))) (pc' := 21) rfl ?_
  refine g_aload_n C d4_21 (v := (.ref e_NONE)) rfl rfl (pc' := 22) rfl ?_
  refine g_virtual C (own_w hw 38 rfl) (own_w hw 39 rfl) (own_w hw 41 rfl) (own_w hw 40 rfl) (own_w hw 6 rfl) (own_w hw 42 rfl) (notFace_of_selects (args := #[]) (mvT C.2.2.2.2.1 (own_w hw 41 rfl))) (by decide) (X_NONE.ext O.2) (rm_commitsImplicitly_NONE l Z a0 hw n0 e_NONE e_BEGIN e_SUSPENDING_BEGIN e_COMMIT_AND_BEGIN e_IMPLICIT_COMMIT_AND_BEGIN e_ROLLBACK e_COMMIT e_PREPARE e_IMPLICIT_COMMIT e_ISOLATION_COMMIT h0 Z0 en O) (st := []) [] rfl rfl own_pd_1_commitsImplicitly rfl rfl (by decide) (W := 0) (Nat.le_of_eq rfl) (by decide) (by decide) (by decide) d4_22 (pc' := 25) rfl ?_
  intro v_3 h_1 q_2
  obtain ⟨rfl, rfl⟩ := q_2
  show Go B n0 _ h0 0 0 25 #[.val (.ref e_NONE)] [(.int (0 : Int32))]
  refine g_if_y C d4_25 (Jvm.Free.XT.i0_eq_t (by decide)) (pc' := 32) (by decide) (by decide) ?_
  refine g_iconst C d4_32 (v := (0 : Int32)) rfl (pc' := 33) rfl ?_
  refine g_ret C (v := (.int (0 : Int32))) (ty := .boolean) rfl rfl (Or.inl ⟨rfl, Or.inr (Or.inl rfl), _, rfl⟩) d4_33 (by decide) (by decide) ?_
  exact ⟨rfl, rfl⟩
set_option maxRecDepth 65536 in
set_option maxHeartbeats 40000000 in
theorem rm_commits_BEGIN (l : Launch) (Z : State) (a0 : Array Value) (hw : ∀ d ∈ tables_1, d.before a0 Z = true) (n0 : Nat) (e_NONE e_BEGIN e_SUSPENDING_BEGIN e_COMMIT_AND_BEGIN e_IMPLICIT_COMMIT_AND_BEGIN e_ROLLBACK e_COMMIT e_PREPARE e_IMPLICIT_COMMIT e_ISOLATION_COMMIT : Addr) (h0 : Heap) (Z0 : n0 ≤ h0.size) (en : Ens Z e_NONE e_BEGIN e_SUSPENDING_BEGIN e_COMMIT_AND_BEGIN e_IMPLICIT_COMMIT_AND_BEGIN e_ROLLBACK e_COMMIT e_PREPARE e_IMPLICIT_COMMIT e_ISOLATION_COMMIT) (O : Old Z n0 h0) :
    Met1 l Z (⟨"com/example/measured_savepoints/measuredsavepoints/SavepointSql$TransactionEnd", "commits", "()Z"⟩ : MethodName) prog_54_method_5_code 1 (some .boolean) ({ frames := 1, cells := 0, slots := 0, locals := 12 } : Room) n0 #[(.ref e_BEGIN)] h0 (fun v h => v = some (.int (0 : Int32)) ∧ h0 = h) := by
  refine met_of (plainFor_of_name own_pn_com_example_measured_savepoints_measuredsavepoints_SavepointSql_TransactionEnd) (L0 := #[.val (.ref e_BEGIN)]) (by first | rfl | (simp [argsToLocals, Value.category]; done)) ?_
  intro B C
  change Ctx B l _ _ "com/example/measured_savepoints/measuredsavepoints/SavepointSql$TransactionEnd" "commits" _ _ Z at C
  have en' := en
  obtain ⟨⟨S_NONE, X_NONE, D_NONE⟩, ⟨S_BEGIN, X_BEGIN, D_BEGIN⟩, ⟨S_SUSPENDING_BEGIN, X_SUSPENDING_BEGIN, D_SUSPENDING_BEGIN⟩, ⟨S_COMMIT_AND_BEGIN, X_COMMIT_AND_BEGIN, D_COMMIT_AND_BEGIN⟩, ⟨S_IMPLICIT_COMMIT_AND_BEGIN, X_IMPLICIT_COMMIT_AND_BEGIN, D_IMPLICIT_COMMIT_AND_BEGIN⟩, ⟨S_ROLLBACK, X_ROLLBACK, D_ROLLBACK⟩, ⟨S_COMMIT, X_COMMIT, D_COMMIT⟩, ⟨S_PREPARE, X_PREPARE, D_PREPARE⟩, ⟨S_IMPLICIT_COMMIT, X_IMPLICIT_COMMIT, D_IMPLICIT_COMMIT⟩, ⟨S_ISOLATION_COMMIT, X_ISOLATION_COMMIT, D_ISOLATION_COMMIT⟩⟩ := en'
  refine g_aload_n C d4_0 (v := (.ref e_BEGIN)) rfl rfl (pc' := 1) rfl ?_
  refine g_getstatic C (host := "") (v := (.ref e_COMMIT)) (Or.inl (own_w hw 34 rfl)) Via.refl (S_COMMIT.ext O.2) d4_1 (pc' := 4) rfl ?_
  refine g_acmp_n C d4_4 rfl rfl (Jvm.Free.XT.aa_eq_f (fun q => (Fld.ne D_BEGIN D_COMMIT (by decide)) (Value.ref.inj q))) (pc' := 7) rfl ?_
  refine g_aload_n C d4_7 (v := (.ref e_BEGIN)) rfl rfl (pc' := 8) rfl ?_
  refine g_getstatic C (host := "") (v := (.ref e_PREPARE)) (Or.inl (own_w hw 36 rfl)) Via.refl (S_PREPARE.ext O.2) d4_8 (pc' := 11) rfl ?_
  refine g_acmp_n C d4_11 rfl rfl (Jvm.Free.XT.aa_eq_f (fun q => (Fld.ne D_BEGIN D_PREPARE (by decide)) (Value.ref.inj q))) (pc' := 14) rfl ?_
  refine g_aload_n C d4_14 (v := (.ref e_BEGIN)) rfl rfl (pc' := 15) rfl ?_
  refine g_getstatic C (host := "") (v := (.ref e_COMMIT_AND_BEGIN)) (Or.inl (own_w hw 17 rfl)) Via.refl (S_COMMIT_AND_BEGIN.ext O.2) d4_15 (pc' := 18) rfl ?_
  refine g_acmp_n C d4_18 rfl rfl (Jvm.Free.XT.aa_eq_f (fun q => (Fld.ne D_BEGIN D_COMMIT_AND_BEGIN (by decide)) (Value.ref.inj q))) (pc' := 21) rfl ?_
  refine g_aload_n C d4_21 (v := (.ref e_BEGIN)) rfl rfl (pc' := 22) rfl ?_
  refine g_virtual C (own_w hw 38 rfl) (own_w hw 39 rfl) (own_w hw 41 rfl) (own_w hw 40 rfl) (own_w hw 6 rfl) (own_w hw 42 rfl) (notFace_of_selects (args := #[]) (mvT C.2.2.2.2.1 (own_w hw 41 rfl))) (by decide) (X_BEGIN.ext O.2) (rm_commitsImplicitly_BEGIN l Z a0 hw n0 e_NONE e_BEGIN e_SUSPENDING_BEGIN e_COMMIT_AND_BEGIN e_IMPLICIT_COMMIT_AND_BEGIN e_ROLLBACK e_COMMIT e_PREPARE e_IMPLICIT_COMMIT e_ISOLATION_COMMIT h0 Z0 en O) (st := []) [] rfl rfl own_pd_1_commitsImplicitly rfl rfl (by decide) (W := 0) (Nat.le_of_eq rfl) (by decide) (by decide) (by decide) d4_22 (pc' := 25) rfl ?_
  intro v_3 h_1 q_2
  obtain ⟨rfl, rfl⟩ := q_2
  show Go B n0 _ h0 0 0 25 #[.val (.ref e_BEGIN)] [(.int (0 : Int32))]
  refine g_if_y C d4_25 (Jvm.Free.XT.i0_eq_t (by decide)) (pc' := 32) (by decide) (by decide) ?_
  refine g_iconst C d4_32 (v := (0 : Int32)) rfl (pc' := 33) rfl ?_
  refine g_ret C (v := (.int (0 : Int32))) (ty := .boolean) rfl rfl (Or.inl ⟨rfl, Or.inr (Or.inl rfl), _, rfl⟩) d4_33 (by decide) (by decide) ?_
  exact ⟨rfl, rfl⟩
set_option maxRecDepth 65536 in
set_option maxHeartbeats 40000000 in
theorem rm_commits_SUSPENDING_BEGIN (l : Launch) (Z : State) (a0 : Array Value) (hw : ∀ d ∈ tables_1, d.before a0 Z = true) (n0 : Nat) (e_NONE e_BEGIN e_SUSPENDING_BEGIN e_COMMIT_AND_BEGIN e_IMPLICIT_COMMIT_AND_BEGIN e_ROLLBACK e_COMMIT e_PREPARE e_IMPLICIT_COMMIT e_ISOLATION_COMMIT : Addr) (h0 : Heap) (Z0 : n0 ≤ h0.size) (en : Ens Z e_NONE e_BEGIN e_SUSPENDING_BEGIN e_COMMIT_AND_BEGIN e_IMPLICIT_COMMIT_AND_BEGIN e_ROLLBACK e_COMMIT e_PREPARE e_IMPLICIT_COMMIT e_ISOLATION_COMMIT) (O : Old Z n0 h0) :
    Met1 l Z (⟨"com/example/measured_savepoints/measuredsavepoints/SavepointSql$TransactionEnd", "commits", "()Z"⟩ : MethodName) prog_54_method_5_code 1 (some .boolean) ({ frames := 1, cells := 0, slots := 0, locals := 12 } : Room) n0 #[(.ref e_SUSPENDING_BEGIN)] h0 (fun v h => v = some (.int (0 : Int32)) ∧ h0 = h) := by
  refine met_of (plainFor_of_name own_pn_com_example_measured_savepoints_measuredsavepoints_SavepointSql_TransactionEnd) (L0 := #[.val (.ref e_SUSPENDING_BEGIN)]) (by first | rfl | (simp [argsToLocals, Value.category]; done)) ?_
  intro B C
  change Ctx B l _ _ "com/example/measured_savepoints/measuredsavepoints/SavepointSql$TransactionEnd" "commits" _ _ Z at C
  have en' := en
  obtain ⟨⟨S_NONE, X_NONE, D_NONE⟩, ⟨S_BEGIN, X_BEGIN, D_BEGIN⟩, ⟨S_SUSPENDING_BEGIN, X_SUSPENDING_BEGIN, D_SUSPENDING_BEGIN⟩, ⟨S_COMMIT_AND_BEGIN, X_COMMIT_AND_BEGIN, D_COMMIT_AND_BEGIN⟩, ⟨S_IMPLICIT_COMMIT_AND_BEGIN, X_IMPLICIT_COMMIT_AND_BEGIN, D_IMPLICIT_COMMIT_AND_BEGIN⟩, ⟨S_ROLLBACK, X_ROLLBACK, D_ROLLBACK⟩, ⟨S_COMMIT, X_COMMIT, D_COMMIT⟩, ⟨S_PREPARE, X_PREPARE, D_PREPARE⟩, ⟨S_IMPLICIT_COMMIT, X_IMPLICIT_COMMIT, D_IMPLICIT_COMMIT⟩, ⟨S_ISOLATION_COMMIT, X_ISOLATION_COMMIT, D_ISOLATION_COMMIT⟩⟩ := en'
  refine g_aload_n C d4_0 (v := (.ref e_SUSPENDING_BEGIN)) rfl rfl (pc' := 1) rfl ?_
  refine g_getstatic C (host := "") (v := (.ref e_COMMIT)) (Or.inl (own_w hw 34 rfl)) Via.refl (S_COMMIT.ext O.2) d4_1 (pc' := 4) rfl ?_
  refine g_acmp_n C d4_4 rfl rfl (Jvm.Free.XT.aa_eq_f (fun q => (Fld.ne D_SUSPENDING_BEGIN D_COMMIT (by decide)) (Value.ref.inj q))) (pc' := 7) rfl ?_
  refine g_aload_n C d4_7 (v := (.ref e_SUSPENDING_BEGIN)) rfl rfl (pc' := 8) rfl ?_
  refine g_getstatic C (host := "") (v := (.ref e_PREPARE)) (Or.inl (own_w hw 36 rfl)) Via.refl (S_PREPARE.ext O.2) d4_8 (pc' := 11) rfl ?_
  refine g_acmp_n C d4_11 rfl rfl (Jvm.Free.XT.aa_eq_f (fun q => (Fld.ne D_SUSPENDING_BEGIN D_PREPARE (by decide)) (Value.ref.inj q))) (pc' := 14) rfl ?_
  refine g_aload_n C d4_14 (v := (.ref e_SUSPENDING_BEGIN)) rfl rfl (pc' := 15) rfl ?_
  refine g_getstatic C (host := "") (v := (.ref e_COMMIT_AND_BEGIN)) (Or.inl (own_w hw 17 rfl)) Via.refl (S_COMMIT_AND_BEGIN.ext O.2) d4_15 (pc' := 18) rfl ?_
  refine g_acmp_n C d4_18 rfl rfl (Jvm.Free.XT.aa_eq_f (fun q => (Fld.ne D_SUSPENDING_BEGIN D_COMMIT_AND_BEGIN (by decide)) (Value.ref.inj q))) (pc' := 21) rfl ?_
  refine g_aload_n C d4_21 (v := (.ref e_SUSPENDING_BEGIN)) rfl rfl (pc' := 22) rfl ?_
  refine g_virtual C (own_w hw 38 rfl) (own_w hw 39 rfl) (own_w hw 41 rfl) (own_w hw 40 rfl) (own_w hw 6 rfl) (own_w hw 42 rfl) (notFace_of_selects (args := #[]) (mvT C.2.2.2.2.1 (own_w hw 41 rfl))) (by decide) (X_SUSPENDING_BEGIN.ext O.2) (rm_commitsImplicitly_SUSPENDING_BEGIN l Z a0 hw n0 e_NONE e_BEGIN e_SUSPENDING_BEGIN e_COMMIT_AND_BEGIN e_IMPLICIT_COMMIT_AND_BEGIN e_ROLLBACK e_COMMIT e_PREPARE e_IMPLICIT_COMMIT e_ISOLATION_COMMIT h0 Z0 en O) (st := []) [] rfl rfl own_pd_1_commitsImplicitly rfl rfl (by decide) (W := 0) (Nat.le_of_eq rfl) (by decide) (by decide) (by decide) d4_22 (pc' := 25) rfl ?_
  intro v_3 h_1 q_2
  obtain ⟨rfl, rfl⟩ := q_2
  show Go B n0 _ h0 0 0 25 #[.val (.ref e_SUSPENDING_BEGIN)] [(.int (0 : Int32))]
  refine g_if_y C d4_25 (Jvm.Free.XT.i0_eq_t (by decide)) (pc' := 32) (by decide) (by decide) ?_
  refine g_iconst C d4_32 (v := (0 : Int32)) rfl (pc' := 33) rfl ?_
  refine g_ret C (v := (.int (0 : Int32))) (ty := .boolean) rfl rfl (Or.inl ⟨rfl, Or.inr (Or.inl rfl), _, rfl⟩) d4_33 (by decide) (by decide) ?_
  exact ⟨rfl, rfl⟩
theorem d4_28 : decode prog_54_method_5_code 28 = .ok (.iconst 1, 1) := by decide +kernel
theorem d4_29 : decode prog_54_method_5_code 29 = .ok (.goto 4, 3) := by decide +kernel
set_option maxRecDepth 65536 in
set_option maxHeartbeats 40000000 in
theorem rm_commits_COMMIT_AND_BEGIN (l : Launch) (Z : State) (a0 : Array Value) (hw : ∀ d ∈ tables_1, d.before a0 Z = true) (n0 : Nat) (e_NONE e_BEGIN e_SUSPENDING_BEGIN e_COMMIT_AND_BEGIN e_IMPLICIT_COMMIT_AND_BEGIN e_ROLLBACK e_COMMIT e_PREPARE e_IMPLICIT_COMMIT e_ISOLATION_COMMIT : Addr) (h0 : Heap) (Z0 : n0 ≤ h0.size) (en : Ens Z e_NONE e_BEGIN e_SUSPENDING_BEGIN e_COMMIT_AND_BEGIN e_IMPLICIT_COMMIT_AND_BEGIN e_ROLLBACK e_COMMIT e_PREPARE e_IMPLICIT_COMMIT e_ISOLATION_COMMIT) (O : Old Z n0 h0) :
    Met1 l Z (⟨"com/example/measured_savepoints/measuredsavepoints/SavepointSql$TransactionEnd", "commits", "()Z"⟩ : MethodName) prog_54_method_5_code 1 (some .boolean) ({ frames := 0, cells := 0, slots := 0, locals := 0 } : Room) n0 #[(.ref e_COMMIT_AND_BEGIN)] h0 (fun v h => v = some (.int (1 : Int32)) ∧ h0 = h) := by
  refine met_of (plainFor_of_name own_pn_com_example_measured_savepoints_measuredsavepoints_SavepointSql_TransactionEnd) (L0 := #[.val (.ref e_COMMIT_AND_BEGIN)]) (by first | rfl | (simp [argsToLocals, Value.category]; done)) ?_
  intro B C
  change Ctx B l _ _ "com/example/measured_savepoints/measuredsavepoints/SavepointSql$TransactionEnd" "commits" _ _ Z at C
  have en' := en
  obtain ⟨⟨S_NONE, X_NONE, D_NONE⟩, ⟨S_BEGIN, X_BEGIN, D_BEGIN⟩, ⟨S_SUSPENDING_BEGIN, X_SUSPENDING_BEGIN, D_SUSPENDING_BEGIN⟩, ⟨S_COMMIT_AND_BEGIN, X_COMMIT_AND_BEGIN, D_COMMIT_AND_BEGIN⟩, ⟨S_IMPLICIT_COMMIT_AND_BEGIN, X_IMPLICIT_COMMIT_AND_BEGIN, D_IMPLICIT_COMMIT_AND_BEGIN⟩, ⟨S_ROLLBACK, X_ROLLBACK, D_ROLLBACK⟩, ⟨S_COMMIT, X_COMMIT, D_COMMIT⟩, ⟨S_PREPARE, X_PREPARE, D_PREPARE⟩, ⟨S_IMPLICIT_COMMIT, X_IMPLICIT_COMMIT, D_IMPLICIT_COMMIT⟩, ⟨S_ISOLATION_COMMIT, X_ISOLATION_COMMIT, D_ISOLATION_COMMIT⟩⟩ := en'
  refine g_aload_n C d4_0 (v := (.ref e_COMMIT_AND_BEGIN)) rfl rfl (pc' := 1) rfl ?_
  refine g_getstatic C (host := "") (v := (.ref e_COMMIT)) (Or.inl (own_w hw 34 rfl)) Via.refl (S_COMMIT.ext O.2) d4_1 (pc' := 4) rfl ?_
  refine g_acmp_n C d4_4 rfl rfl (Jvm.Free.XT.aa_eq_f (fun q => (Fld.ne D_COMMIT_AND_BEGIN D_COMMIT (by decide)) (Value.ref.inj q))) (pc' := 7) rfl ?_
  refine g_aload_n C d4_7 (v := (.ref e_COMMIT_AND_BEGIN)) rfl rfl (pc' := 8) rfl ?_
  refine g_getstatic C (host := "") (v := (.ref e_PREPARE)) (Or.inl (own_w hw 36 rfl)) Via.refl (S_PREPARE.ext O.2) d4_8 (pc' := 11) rfl ?_
  refine g_acmp_n C d4_11 rfl rfl (Jvm.Free.XT.aa_eq_f (fun q => (Fld.ne D_COMMIT_AND_BEGIN D_PREPARE (by decide)) (Value.ref.inj q))) (pc' := 14) rfl ?_
  refine g_aload_n C d4_14 (v := (.ref e_COMMIT_AND_BEGIN)) rfl rfl (pc' := 15) rfl ?_
  refine g_getstatic C (host := "") (v := (.ref e_COMMIT_AND_BEGIN)) (Or.inl (own_w hw 17 rfl)) Via.refl (S_COMMIT_AND_BEGIN.ext O.2) d4_15 (pc' := 18) rfl ?_
  refine g_acmp_y C d4_18 rfl rfl (Jvm.Free.XT.aa_eq_t rfl) (pc' := 28) (by decide) (by decide) ?_
  refine g_iconst C d4_28 (v := (1 : Int32)) rfl (pc' := 29) rfl ?_
  refine g_goto C d4_29 (pc' := 33) (by decide) (by decide) ?_
  refine g_ret C (v := (.int (1 : Int32))) (ty := .boolean) rfl rfl (Or.inl ⟨rfl, Or.inr (Or.inl rfl), _, rfl⟩) d4_33 (by decide) (by decide) ?_
  exact ⟨rfl, rfl⟩
set_option maxRecDepth 65536 in
set_option maxHeartbeats 40000000 in
theorem rm_commits_IMPLICIT_COMMIT_AND_BEGIN (l : Launch) (Z : State) (a0 : Array Value) (hw : ∀ d ∈ tables_1, d.before a0 Z = true) (n0 : Nat) (e_NONE e_BEGIN e_SUSPENDING_BEGIN e_COMMIT_AND_BEGIN e_IMPLICIT_COMMIT_AND_BEGIN e_ROLLBACK e_COMMIT e_PREPARE e_IMPLICIT_COMMIT e_ISOLATION_COMMIT : Addr) (h0 : Heap) (Z0 : n0 ≤ h0.size) (en : Ens Z e_NONE e_BEGIN e_SUSPENDING_BEGIN e_COMMIT_AND_BEGIN e_IMPLICIT_COMMIT_AND_BEGIN e_ROLLBACK e_COMMIT e_PREPARE e_IMPLICIT_COMMIT e_ISOLATION_COMMIT) (O : Old Z n0 h0) :
    Met1 l Z (⟨"com/example/measured_savepoints/measuredsavepoints/SavepointSql$TransactionEnd", "commits", "()Z"⟩ : MethodName) prog_54_method_5_code 1 (some .boolean) ({ frames := 1, cells := 0, slots := 0, locals := 12 } : Room) n0 #[(.ref e_IMPLICIT_COMMIT_AND_BEGIN)] h0 (fun v h => v = some (.int (1 : Int32)) ∧ h0 = h) := by
  refine met_of (plainFor_of_name own_pn_com_example_measured_savepoints_measuredsavepoints_SavepointSql_TransactionEnd) (L0 := #[.val (.ref e_IMPLICIT_COMMIT_AND_BEGIN)]) (by first | rfl | (simp [argsToLocals, Value.category]; done)) ?_
  intro B C
  change Ctx B l _ _ "com/example/measured_savepoints/measuredsavepoints/SavepointSql$TransactionEnd" "commits" _ _ Z at C
  have en' := en
  obtain ⟨⟨S_NONE, X_NONE, D_NONE⟩, ⟨S_BEGIN, X_BEGIN, D_BEGIN⟩, ⟨S_SUSPENDING_BEGIN, X_SUSPENDING_BEGIN, D_SUSPENDING_BEGIN⟩, ⟨S_COMMIT_AND_BEGIN, X_COMMIT_AND_BEGIN, D_COMMIT_AND_BEGIN⟩, ⟨S_IMPLICIT_COMMIT_AND_BEGIN, X_IMPLICIT_COMMIT_AND_BEGIN, D_IMPLICIT_COMMIT_AND_BEGIN⟩, ⟨S_ROLLBACK, X_ROLLBACK, D_ROLLBACK⟩, ⟨S_COMMIT, X_COMMIT, D_COMMIT⟩, ⟨S_PREPARE, X_PREPARE, D_PREPARE⟩, ⟨S_IMPLICIT_COMMIT, X_IMPLICIT_COMMIT, D_IMPLICIT_COMMIT⟩, ⟨S_ISOLATION_COMMIT, X_ISOLATION_COMMIT, D_ISOLATION_COMMIT⟩⟩ := en'
  refine g_aload_n C d4_0 (v := (.ref e_IMPLICIT_COMMIT_AND_BEGIN)) rfl rfl (pc' := 1) rfl ?_
  refine g_getstatic C (host := "") (v := (.ref e_COMMIT)) (Or.inl (own_w hw 34 rfl)) Via.refl (S_COMMIT.ext O.2) d4_1 (pc' := 4) rfl ?_
  refine g_acmp_n C d4_4 rfl rfl (Jvm.Free.XT.aa_eq_f (fun q => (Fld.ne D_IMPLICIT_COMMIT_AND_BEGIN D_COMMIT (by decide)) (Value.ref.inj q))) (pc' := 7) rfl ?_
  refine g_aload_n C d4_7 (v := (.ref e_IMPLICIT_COMMIT_AND_BEGIN)) rfl rfl (pc' := 8) rfl ?_
  refine g_getstatic C (host := "") (v := (.ref e_PREPARE)) (Or.inl (own_w hw 36 rfl)) Via.refl (S_PREPARE.ext O.2) d4_8 (pc' := 11) rfl ?_
  refine g_acmp_n C d4_11 rfl rfl (Jvm.Free.XT.aa_eq_f (fun q => (Fld.ne D_IMPLICIT_COMMIT_AND_BEGIN D_PREPARE (by decide)) (Value.ref.inj q))) (pc' := 14) rfl ?_
  refine g_aload_n C d4_14 (v := (.ref e_IMPLICIT_COMMIT_AND_BEGIN)) rfl rfl (pc' := 15) rfl ?_
  refine g_getstatic C (host := "") (v := (.ref e_COMMIT_AND_BEGIN)) (Or.inl (own_w hw 17 rfl)) Via.refl (S_COMMIT_AND_BEGIN.ext O.2) d4_15 (pc' := 18) rfl ?_
  refine g_acmp_n C d4_18 rfl rfl (Jvm.Free.XT.aa_eq_f (fun q => (Fld.ne D_IMPLICIT_COMMIT_AND_BEGIN D_COMMIT_AND_BEGIN (by decide)) (Value.ref.inj q))) (pc' := 21) rfl ?_
  refine g_aload_n C d4_21 (v := (.ref e_IMPLICIT_COMMIT_AND_BEGIN)) rfl rfl (pc' := 22) rfl ?_
  refine g_virtual C (own_w hw 38 rfl) (own_w hw 39 rfl) (own_w hw 41 rfl) (own_w hw 40 rfl) (own_w hw 6 rfl) (own_w hw 42 rfl) (notFace_of_selects (args := #[]) (mvT C.2.2.2.2.1 (own_w hw 41 rfl))) (by decide) (X_IMPLICIT_COMMIT_AND_BEGIN.ext O.2) (rm_commitsImplicitly_IMPLICIT_COMMIT_AND_BEGIN l Z a0 hw n0 e_NONE e_BEGIN e_SUSPENDING_BEGIN e_COMMIT_AND_BEGIN e_IMPLICIT_COMMIT_AND_BEGIN e_ROLLBACK e_COMMIT e_PREPARE e_IMPLICIT_COMMIT e_ISOLATION_COMMIT h0 Z0 en O) (st := []) [] rfl rfl own_pd_1_commitsImplicitly rfl rfl (by decide) (W := 0) (Nat.le_of_eq rfl) (by decide) (by decide) (by decide) d4_22 (pc' := 25) rfl ?_
  intro v_3 h_1 q_2
  obtain ⟨rfl, rfl⟩ := q_2
  show Go B n0 _ h0 0 0 25 #[.val (.ref e_IMPLICIT_COMMIT_AND_BEGIN)] [(.int (1 : Int32))]
  refine g_if_n C d4_25 (Jvm.Free.XT.i0_eq_f (by decide)) (pc' := 28) rfl ?_
  refine g_iconst C d4_28 (v := (1 : Int32)) rfl (pc' := 29) rfl ?_
  refine g_goto C d4_29 (pc' := 33) (by decide) (by decide) ?_
  refine g_ret C (v := (.int (1 : Int32))) (ty := .boolean) rfl rfl (Or.inl ⟨rfl, Or.inr (Or.inl rfl), _, rfl⟩) d4_33 (by decide) (by decide) ?_
  exact ⟨rfl, rfl⟩
set_option maxRecDepth 65536 in
set_option maxHeartbeats 40000000 in
theorem rm_commits_ROLLBACK (l : Launch) (Z : State) (a0 : Array Value) (hw : ∀ d ∈ tables_1, d.before a0 Z = true) (n0 : Nat) (e_NONE e_BEGIN e_SUSPENDING_BEGIN e_COMMIT_AND_BEGIN e_IMPLICIT_COMMIT_AND_BEGIN e_ROLLBACK e_COMMIT e_PREPARE e_IMPLICIT_COMMIT e_ISOLATION_COMMIT : Addr) (h0 : Heap) (Z0 : n0 ≤ h0.size) (en : Ens Z e_NONE e_BEGIN e_SUSPENDING_BEGIN e_COMMIT_AND_BEGIN e_IMPLICIT_COMMIT_AND_BEGIN e_ROLLBACK e_COMMIT e_PREPARE e_IMPLICIT_COMMIT e_ISOLATION_COMMIT) (O : Old Z n0 h0) :
    Met1 l Z (⟨"com/example/measured_savepoints/measuredsavepoints/SavepointSql$TransactionEnd", "commits", "()Z"⟩ : MethodName) prog_54_method_5_code 1 (some .boolean) ({ frames := 1, cells := 0, slots := 0, locals := 12 } : Room) n0 #[(.ref e_ROLLBACK)] h0 (fun v h => v = some (.int (0 : Int32)) ∧ h0 = h) := by
  refine met_of (plainFor_of_name own_pn_com_example_measured_savepoints_measuredsavepoints_SavepointSql_TransactionEnd) (L0 := #[.val (.ref e_ROLLBACK)]) (by first | rfl | (simp [argsToLocals, Value.category]; done)) ?_
  intro B C
  change Ctx B l _ _ "com/example/measured_savepoints/measuredsavepoints/SavepointSql$TransactionEnd" "commits" _ _ Z at C
  have en' := en
  obtain ⟨⟨S_NONE, X_NONE, D_NONE⟩, ⟨S_BEGIN, X_BEGIN, D_BEGIN⟩, ⟨S_SUSPENDING_BEGIN, X_SUSPENDING_BEGIN, D_SUSPENDING_BEGIN⟩, ⟨S_COMMIT_AND_BEGIN, X_COMMIT_AND_BEGIN, D_COMMIT_AND_BEGIN⟩, ⟨S_IMPLICIT_COMMIT_AND_BEGIN, X_IMPLICIT_COMMIT_AND_BEGIN, D_IMPLICIT_COMMIT_AND_BEGIN⟩, ⟨S_ROLLBACK, X_ROLLBACK, D_ROLLBACK⟩, ⟨S_COMMIT, X_COMMIT, D_COMMIT⟩, ⟨S_PREPARE, X_PREPARE, D_PREPARE⟩, ⟨S_IMPLICIT_COMMIT, X_IMPLICIT_COMMIT, D_IMPLICIT_COMMIT⟩, ⟨S_ISOLATION_COMMIT, X_ISOLATION_COMMIT, D_ISOLATION_COMMIT⟩⟩ := en'
  refine g_aload_n C d4_0 (v := (.ref e_ROLLBACK)) rfl rfl (pc' := 1) rfl ?_
  refine g_getstatic C (host := "") (v := (.ref e_COMMIT)) (Or.inl (own_w hw 34 rfl)) Via.refl (S_COMMIT.ext O.2) d4_1 (pc' := 4) rfl ?_
  refine g_acmp_n C d4_4 rfl rfl (Jvm.Free.XT.aa_eq_f (fun q => (Fld.ne D_ROLLBACK D_COMMIT (by decide)) (Value.ref.inj q))) (pc' := 7) rfl ?_
  refine g_aload_n C d4_7 (v := (.ref e_ROLLBACK)) rfl rfl (pc' := 8) rfl ?_
  refine g_getstatic C (host := "") (v := (.ref e_PREPARE)) (Or.inl (own_w hw 36 rfl)) Via.refl (S_PREPARE.ext O.2) d4_8 (pc' := 11) rfl ?_
  refine g_acmp_n C d4_11 rfl rfl (Jvm.Free.XT.aa_eq_f (fun q => (Fld.ne D_ROLLBACK D_PREPARE (by decide)) (Value.ref.inj q))) (pc' := 14) rfl ?_
  refine g_aload_n C d4_14 (v := (.ref e_ROLLBACK)) rfl rfl (pc' := 15) rfl ?_
  refine g_getstatic C (host := "") (v := (.ref e_COMMIT_AND_BEGIN)) (Or.inl (own_w hw 17 rfl)) Via.refl (S_COMMIT_AND_BEGIN.ext O.2) d4_15 (pc' := 18) rfl ?_
  refine g_acmp_n C d4_18 rfl rfl (Jvm.Free.XT.aa_eq_f (fun q => (Fld.ne D_ROLLBACK D_COMMIT_AND_BEGIN (by decide)) (Value.ref.inj q))) (pc' := 21) rfl ?_
  refine g_aload_n C d4_21 (v := (.ref e_ROLLBACK)) rfl rfl (pc' := 22) rfl ?_
  refine g_virtual C (own_w hw 38 rfl) (own_w hw 39 rfl) (own_w hw 41 rfl) (own_w hw 40 rfl) (own_w hw 6 rfl) (own_w hw 42 rfl) (notFace_of_selects (args := #[]) (mvT C.2.2.2.2.1 (own_w hw 41 rfl))) (by decide) (X_ROLLBACK.ext O.2) (rm_commitsImplicitly_ROLLBACK l Z a0 hw n0 e_NONE e_BEGIN e_SUSPENDING_BEGIN e_COMMIT_AND_BEGIN e_IMPLICIT_COMMIT_AND_BEGIN e_ROLLBACK e_COMMIT e_PREPARE e_IMPLICIT_COMMIT e_ISOLATION_COMMIT h0 Z0 en O) (st := []) [] rfl rfl own_pd_1_commitsImplicitly rfl rfl (by decide) (W := 0) (Nat.le_of_eq rfl) (by decide) (by decide) (by decide) d4_22 (pc' := 25) rfl ?_
  intro v_3 h_1 q_2
  obtain ⟨rfl, rfl⟩ := q_2
  show Go B n0 _ h0 0 0 25 #[.val (.ref e_ROLLBACK)] [(.int (0 : Int32))]
  refine g_if_y C d4_25 (Jvm.Free.XT.i0_eq_t (by decide)) (pc' := 32) (by decide) (by decide) ?_
  refine g_iconst C d4_32 (v := (0 : Int32)) rfl (pc' := 33) rfl ?_
  refine g_ret C (v := (.int (0 : Int32))) (ty := .boolean) rfl rfl (Or.inl ⟨rfl, Or.inr (Or.inl rfl), _, rfl⟩) d4_33 (by decide) (by decide) ?_
  exact ⟨rfl, rfl⟩
set_option maxRecDepth 65536 in
set_option maxHeartbeats 40000000 in
theorem rm_commits_COMMIT (l : Launch) (Z : State) (a0 : Array Value) (hw : ∀ d ∈ tables_1, d.before a0 Z = true) (n0 : Nat) (e_NONE e_BEGIN e_SUSPENDING_BEGIN e_COMMIT_AND_BEGIN e_IMPLICIT_COMMIT_AND_BEGIN e_ROLLBACK e_COMMIT e_PREPARE e_IMPLICIT_COMMIT e_ISOLATION_COMMIT : Addr) (h0 : Heap) (Z0 : n0 ≤ h0.size) (en : Ens Z e_NONE e_BEGIN e_SUSPENDING_BEGIN e_COMMIT_AND_BEGIN e_IMPLICIT_COMMIT_AND_BEGIN e_ROLLBACK e_COMMIT e_PREPARE e_IMPLICIT_COMMIT e_ISOLATION_COMMIT) (O : Old Z n0 h0) :
    Met1 l Z (⟨"com/example/measured_savepoints/measuredsavepoints/SavepointSql$TransactionEnd", "commits", "()Z"⟩ : MethodName) prog_54_method_5_code 1 (some .boolean) ({ frames := 0, cells := 0, slots := 0, locals := 0 } : Room) n0 #[(.ref e_COMMIT)] h0 (fun v h => v = some (.int (1 : Int32)) ∧ h0 = h) := by
  refine met_of (plainFor_of_name own_pn_com_example_measured_savepoints_measuredsavepoints_SavepointSql_TransactionEnd) (L0 := #[.val (.ref e_COMMIT)]) (by first | rfl | (simp [argsToLocals, Value.category]; done)) ?_
  intro B C
  change Ctx B l _ _ "com/example/measured_savepoints/measuredsavepoints/SavepointSql$TransactionEnd" "commits" _ _ Z at C
  have en' := en
  obtain ⟨⟨S_NONE, X_NONE, D_NONE⟩, ⟨S_BEGIN, X_BEGIN, D_BEGIN⟩, ⟨S_SUSPENDING_BEGIN, X_SUSPENDING_BEGIN, D_SUSPENDING_BEGIN⟩, ⟨S_COMMIT_AND_BEGIN, X_COMMIT_AND_BEGIN, D_COMMIT_AND_BEGIN⟩, ⟨S_IMPLICIT_COMMIT_AND_BEGIN, X_IMPLICIT_COMMIT_AND_BEGIN, D_IMPLICIT_COMMIT_AND_BEGIN⟩, ⟨S_ROLLBACK, X_ROLLBACK, D_ROLLBACK⟩, ⟨S_COMMIT, X_COMMIT, D_COMMIT⟩, ⟨S_PREPARE, X_PREPARE, D_PREPARE⟩, ⟨S_IMPLICIT_COMMIT, X_IMPLICIT_COMMIT, D_IMPLICIT_COMMIT⟩, ⟨S_ISOLATION_COMMIT, X_ISOLATION_COMMIT, D_ISOLATION_COMMIT⟩⟩ := en'
  refine g_aload_n C d4_0 (v := (.ref e_COMMIT)) rfl rfl (pc' := 1) rfl ?_
  refine g_getstatic C (host := "") (v := (.ref e_COMMIT)) (Or.inl (own_w hw 34 rfl)) Via.refl (S_COMMIT.ext O.2) d4_1 (pc' := 4) rfl ?_
  refine g_acmp_y C d4_4 rfl rfl (Jvm.Free.XT.aa_eq_t rfl) (pc' := 28) (by decide) (by decide) ?_
  refine g_iconst C d4_28 (v := (1 : Int32)) rfl (pc' := 29) rfl ?_
  refine g_goto C d4_29 (pc' := 33) (by decide) (by decide) ?_
  refine g_ret C (v := (.int (1 : Int32))) (ty := .boolean) rfl rfl (Or.inl ⟨rfl, Or.inr (Or.inl rfl), _, rfl⟩) d4_33 (by decide) (by decide) ?_
  exact ⟨rfl, rfl⟩
set_option maxRecDepth 65536 in
set_option maxHeartbeats 40000000 in
theorem rm_commits_PREPARE (l : Launch) (Z : State) (a0 : Array Value) (hw : ∀ d ∈ tables_1, d.before a0 Z = true) (n0 : Nat) (e_NONE e_BEGIN e_SUSPENDING_BEGIN e_COMMIT_AND_BEGIN e_IMPLICIT_COMMIT_AND_BEGIN e_ROLLBACK e_COMMIT e_PREPARE e_IMPLICIT_COMMIT e_ISOLATION_COMMIT : Addr) (h0 : Heap) (Z0 : n0 ≤ h0.size) (en : Ens Z e_NONE e_BEGIN e_SUSPENDING_BEGIN e_COMMIT_AND_BEGIN e_IMPLICIT_COMMIT_AND_BEGIN e_ROLLBACK e_COMMIT e_PREPARE e_IMPLICIT_COMMIT e_ISOLATION_COMMIT) (O : Old Z n0 h0) :
    Met1 l Z (⟨"com/example/measured_savepoints/measuredsavepoints/SavepointSql$TransactionEnd", "commits", "()Z"⟩ : MethodName) prog_54_method_5_code 1 (some .boolean) ({ frames := 0, cells := 0, slots := 0, locals := 0 } : Room) n0 #[(.ref e_PREPARE)] h0 (fun v h => v = some (.int (1 : Int32)) ∧ h0 = h) := by
  refine met_of (plainFor_of_name own_pn_com_example_measured_savepoints_measuredsavepoints_SavepointSql_TransactionEnd) (L0 := #[.val (.ref e_PREPARE)]) (by first | rfl | (simp [argsToLocals, Value.category]; done)) ?_
  intro B C
  change Ctx B l _ _ "com/example/measured_savepoints/measuredsavepoints/SavepointSql$TransactionEnd" "commits" _ _ Z at C
  have en' := en
  obtain ⟨⟨S_NONE, X_NONE, D_NONE⟩, ⟨S_BEGIN, X_BEGIN, D_BEGIN⟩, ⟨S_SUSPENDING_BEGIN, X_SUSPENDING_BEGIN, D_SUSPENDING_BEGIN⟩, ⟨S_COMMIT_AND_BEGIN, X_COMMIT_AND_BEGIN, D_COMMIT_AND_BEGIN⟩, ⟨S_IMPLICIT_COMMIT_AND_BEGIN, X_IMPLICIT_COMMIT_AND_BEGIN, D_IMPLICIT_COMMIT_AND_BEGIN⟩, ⟨S_ROLLBACK, X_ROLLBACK, D_ROLLBACK⟩, ⟨S_COMMIT, X_COMMIT, D_COMMIT⟩, ⟨S_PREPARE, X_PREPARE, D_PREPARE⟩, ⟨S_IMPLICIT_COMMIT, X_IMPLICIT_COMMIT, D_IMPLICIT_COMMIT⟩, ⟨S_ISOLATION_COMMIT, X_ISOLATION_COMMIT, D_ISOLATION_COMMIT⟩⟩ := en'
  refine g_aload_n C d4_0 (v := (.ref e_PREPARE)) rfl rfl (pc' := 1) rfl ?_
  refine g_getstatic C (host := "") (v := (.ref e_COMMIT)) (Or.inl (own_w hw 34 rfl)) Via.refl (S_COMMIT.ext O.2) d4_1 (pc' := 4) rfl ?_
  refine g_acmp_n C d4_4 rfl rfl (Jvm.Free.XT.aa_eq_f (fun q => (Fld.ne D_PREPARE D_COMMIT (by decide)) (Value.ref.inj q))) (pc' := 7) rfl ?_
  refine g_aload_n C d4_7 (v := (.ref e_PREPARE)) rfl rfl (pc' := 8) rfl ?_
  refine g_getstatic C (host := "") (v := (.ref e_PREPARE)) (Or.inl (own_w hw 36 rfl)) Via.refl (S_PREPARE.ext O.2) d4_8 (pc' := 11) rfl ?_
  refine g_acmp_y C d4_11 rfl rfl (Jvm.Free.XT.aa_eq_t rfl) (pc' := 28) (by decide) (by decide) ?_
  refine g_iconst C d4_28 (v := (1 : Int32)) rfl (pc' := 29) rfl ?_
  refine g_goto C d4_29 (pc' := 33) (by decide) (by decide) ?_
  refine g_ret C (v := (.int (1 : Int32))) (ty := .boolean) rfl rfl (Or.inl ⟨rfl, Or.inr (Or.inl rfl), _, rfl⟩) d4_33 (by decide) (by decide) ?_
  exact ⟨rfl, rfl⟩
set_option maxRecDepth 65536 in
set_option maxHeartbeats 40000000 in
theorem rm_commits_IMPLICIT_COMMIT (l : Launch) (Z : State) (a0 : Array Value) (hw : ∀ d ∈ tables_1, d.before a0 Z = true) (n0 : Nat) (e_NONE e_BEGIN e_SUSPENDING_BEGIN e_COMMIT_AND_BEGIN e_IMPLICIT_COMMIT_AND_BEGIN e_ROLLBACK e_COMMIT e_PREPARE e_IMPLICIT_COMMIT e_ISOLATION_COMMIT : Addr) (h0 : Heap) (Z0 : n0 ≤ h0.size) (en : Ens Z e_NONE e_BEGIN e_SUSPENDING_BEGIN e_COMMIT_AND_BEGIN e_IMPLICIT_COMMIT_AND_BEGIN e_ROLLBACK e_COMMIT e_PREPARE e_IMPLICIT_COMMIT e_ISOLATION_COMMIT) (O : Old Z n0 h0) :
    Met1 l Z (⟨"com/example/measured_savepoints/measuredsavepoints/SavepointSql$TransactionEnd", "commits", "()Z"⟩ : MethodName) prog_54_method_5_code 1 (some .boolean) ({ frames := 1, cells := 0, slots := 0, locals := 12 } : Room) n0 #[(.ref e_IMPLICIT_COMMIT)] h0 (fun v h => v = some (.int (1 : Int32)) ∧ h0 = h) := by
  refine met_of (plainFor_of_name own_pn_com_example_measured_savepoints_measuredsavepoints_SavepointSql_TransactionEnd) (L0 := #[.val (.ref e_IMPLICIT_COMMIT)]) (by first | rfl | (simp [argsToLocals, Value.category]; done)) ?_
  intro B C
  change Ctx B l _ _ "com/example/measured_savepoints/measuredsavepoints/SavepointSql$TransactionEnd" "commits" _ _ Z at C
  have en' := en
  obtain ⟨⟨S_NONE, X_NONE, D_NONE⟩, ⟨S_BEGIN, X_BEGIN, D_BEGIN⟩, ⟨S_SUSPENDING_BEGIN, X_SUSPENDING_BEGIN, D_SUSPENDING_BEGIN⟩, ⟨S_COMMIT_AND_BEGIN, X_COMMIT_AND_BEGIN, D_COMMIT_AND_BEGIN⟩, ⟨S_IMPLICIT_COMMIT_AND_BEGIN, X_IMPLICIT_COMMIT_AND_BEGIN, D_IMPLICIT_COMMIT_AND_BEGIN⟩, ⟨S_ROLLBACK, X_ROLLBACK, D_ROLLBACK⟩, ⟨S_COMMIT, X_COMMIT, D_COMMIT⟩, ⟨S_PREPARE, X_PREPARE, D_PREPARE⟩, ⟨S_IMPLICIT_COMMIT, X_IMPLICIT_COMMIT, D_IMPLICIT_COMMIT⟩, ⟨S_ISOLATION_COMMIT, X_ISOLATION_COMMIT, D_ISOLATION_COMMIT⟩⟩ := en'
  refine g_aload_n C d4_0 (v := (.ref e_IMPLICIT_COMMIT)) rfl rfl (pc' := 1) rfl ?_
  refine g_getstatic C (host := "") (v := (.ref e_COMMIT)) (Or.inl (own_w hw 34 rfl)) Via.refl (S_COMMIT.ext O.2) d4_1 (pc' := 4) rfl ?_
  refine g_acmp_n C d4_4 rfl rfl (Jvm.Free.XT.aa_eq_f (fun q => (Fld.ne D_IMPLICIT_COMMIT D_COMMIT (by decide)) (Value.ref.inj q))) (pc' := 7) rfl ?_
  refine g_aload_n C d4_7 (v := (.ref e_IMPLICIT_COMMIT)) rfl rfl (pc' := 8) rfl ?_
  refine g_getstatic C (host := "") (v := (.ref e_PREPARE)) (Or.inl (own_w hw 36 rfl)) Via.refl (S_PREPARE.ext O.2) d4_8 (pc' := 11) rfl ?_
  refine g_acmp_n C d4_11 rfl rfl (Jvm.Free.XT.aa_eq_f (fun q => (Fld.ne D_IMPLICIT_COMMIT D_PREPARE (by decide)) (Value.ref.inj q))) (pc' := 14) rfl ?_
  refine g_aload_n C d4_14 (v := (.ref e_IMPLICIT_COMMIT)) rfl rfl (pc' := 15) rfl ?_
  refine g_getstatic C (host := "") (v := (.ref e_COMMIT_AND_BEGIN)) (Or.inl (own_w hw 17 rfl)) Via.refl (S_COMMIT_AND_BEGIN.ext O.2) d4_15 (pc' := 18) rfl ?_
  refine g_acmp_n C d4_18 rfl rfl (Jvm.Free.XT.aa_eq_f (fun q => (Fld.ne D_IMPLICIT_COMMIT D_COMMIT_AND_BEGIN (by decide)) (Value.ref.inj q))) (pc' := 21) rfl ?_
  refine g_aload_n C d4_21 (v := (.ref e_IMPLICIT_COMMIT)) rfl rfl (pc' := 22) rfl ?_
  refine g_virtual C (own_w hw 38 rfl) (own_w hw 39 rfl) (own_w hw 41 rfl) (own_w hw 40 rfl) (own_w hw 6 rfl) (own_w hw 42 rfl) (notFace_of_selects (args := #[]) (mvT C.2.2.2.2.1 (own_w hw 41 rfl))) (by decide) (X_IMPLICIT_COMMIT.ext O.2) (rm_commitsImplicitly_IMPLICIT_COMMIT l Z a0 hw n0 e_NONE e_BEGIN e_SUSPENDING_BEGIN e_COMMIT_AND_BEGIN e_IMPLICIT_COMMIT_AND_BEGIN e_ROLLBACK e_COMMIT e_PREPARE e_IMPLICIT_COMMIT e_ISOLATION_COMMIT h0 Z0 en O) (st := []) [] rfl rfl own_pd_1_commitsImplicitly rfl rfl (by decide) (W := 0) (Nat.le_of_eq rfl) (by decide) (by decide) (by decide) d4_22 (pc' := 25) rfl ?_
  intro v_3 h_1 q_2
  obtain ⟨rfl, rfl⟩ := q_2
  show Go B n0 _ h0 0 0 25 #[.val (.ref e_IMPLICIT_COMMIT)] [(.int (1 : Int32))]
  refine g_if_n C d4_25 (Jvm.Free.XT.i0_eq_f (by decide)) (pc' := 28) rfl ?_
  refine g_iconst C d4_28 (v := (1 : Int32)) rfl (pc' := 29) rfl ?_
  refine g_goto C d4_29 (pc' := 33) (by decide) (by decide) ?_
  refine g_ret C (v := (.int (1 : Int32))) (ty := .boolean) rfl rfl (Or.inl ⟨rfl, Or.inr (Or.inl rfl), _, rfl⟩) d4_33 (by decide) (by decide) ?_
  exact ⟨rfl, rfl⟩
set_option maxRecDepth 65536 in
set_option maxHeartbeats 40000000 in
theorem rm_commits_ISOLATION_COMMIT (l : Launch) (Z : State) (a0 : Array Value) (hw : ∀ d ∈ tables_1, d.before a0 Z = true) (n0 : Nat) (e_NONE e_BEGIN e_SUSPENDING_BEGIN e_COMMIT_AND_BEGIN e_IMPLICIT_COMMIT_AND_BEGIN e_ROLLBACK e_COMMIT e_PREPARE e_IMPLICIT_COMMIT e_ISOLATION_COMMIT : Addr) (h0 : Heap) (Z0 : n0 ≤ h0.size) (en : Ens Z e_NONE e_BEGIN e_SUSPENDING_BEGIN e_COMMIT_AND_BEGIN e_IMPLICIT_COMMIT_AND_BEGIN e_ROLLBACK e_COMMIT e_PREPARE e_IMPLICIT_COMMIT e_ISOLATION_COMMIT) (O : Old Z n0 h0) :
    Met1 l Z (⟨"com/example/measured_savepoints/measuredsavepoints/SavepointSql$TransactionEnd", "commits", "()Z"⟩ : MethodName) prog_54_method_5_code 1 (some .boolean) ({ frames := 1, cells := 0, slots := 0, locals := 12 } : Room) n0 #[(.ref e_ISOLATION_COMMIT)] h0 (fun v h => v = some (.int (1 : Int32)) ∧ h0 = h) := by
  refine met_of (plainFor_of_name own_pn_com_example_measured_savepoints_measuredsavepoints_SavepointSql_TransactionEnd) (L0 := #[.val (.ref e_ISOLATION_COMMIT)]) (by first | rfl | (simp [argsToLocals, Value.category]; done)) ?_
  intro B C
  change Ctx B l _ _ "com/example/measured_savepoints/measuredsavepoints/SavepointSql$TransactionEnd" "commits" _ _ Z at C
  have en' := en
  obtain ⟨⟨S_NONE, X_NONE, D_NONE⟩, ⟨S_BEGIN, X_BEGIN, D_BEGIN⟩, ⟨S_SUSPENDING_BEGIN, X_SUSPENDING_BEGIN, D_SUSPENDING_BEGIN⟩, ⟨S_COMMIT_AND_BEGIN, X_COMMIT_AND_BEGIN, D_COMMIT_AND_BEGIN⟩, ⟨S_IMPLICIT_COMMIT_AND_BEGIN, X_IMPLICIT_COMMIT_AND_BEGIN, D_IMPLICIT_COMMIT_AND_BEGIN⟩, ⟨S_ROLLBACK, X_ROLLBACK, D_ROLLBACK⟩, ⟨S_COMMIT, X_COMMIT, D_COMMIT⟩, ⟨S_PREPARE, X_PREPARE, D_PREPARE⟩, ⟨S_IMPLICIT_COMMIT, X_IMPLICIT_COMMIT, D_IMPLICIT_COMMIT⟩, ⟨S_ISOLATION_COMMIT, X_ISOLATION_COMMIT, D_ISOLATION_COMMIT⟩⟩ := en'
  refine g_aload_n C d4_0 (v := (.ref e_ISOLATION_COMMIT)) rfl rfl (pc' := 1) rfl ?_
  refine g_getstatic C (host := "") (v := (.ref e_COMMIT)) (Or.inl (own_w hw 34 rfl)) Via.refl (S_COMMIT.ext O.2) d4_1 (pc' := 4) rfl ?_
  refine g_acmp_n C d4_4 rfl rfl (Jvm.Free.XT.aa_eq_f (fun q => (Fld.ne D_ISOLATION_COMMIT D_COMMIT (by decide)) (Value.ref.inj q))) (pc' := 7) rfl ?_
  refine g_aload_n C d4_7 (v := (.ref e_ISOLATION_COMMIT)) rfl rfl (pc' := 8) rfl ?_
  refine g_getstatic C (host := "") (v := (.ref e_PREPARE)) (Or.inl (own_w hw 36 rfl)) Via.refl (S_PREPARE.ext O.2) d4_8 (pc' := 11) rfl ?_
  refine g_acmp_n C d4_11 rfl rfl (Jvm.Free.XT.aa_eq_f (fun q => (Fld.ne D_ISOLATION_COMMIT D_PREPARE (by decide)) (Value.ref.inj q))) (pc' := 14) rfl ?_
  refine g_aload_n C d4_14 (v := (.ref e_ISOLATION_COMMIT)) rfl rfl (pc' := 15) rfl ?_
  refine g_getstatic C (host := "") (v := (.ref e_COMMIT_AND_BEGIN)) (Or.inl (own_w hw 17 rfl)) Via.refl (S_COMMIT_AND_BEGIN.ext O.2) d4_15 (pc' := 18) rfl ?_
  refine g_acmp_n C d4_18 rfl rfl (Jvm.Free.XT.aa_eq_f (fun q => (Fld.ne D_ISOLATION_COMMIT D_COMMIT_AND_BEGIN (by decide)) (Value.ref.inj q))) (pc' := 21) rfl ?_
  refine g_aload_n C d4_21 (v := (.ref e_ISOLATION_COMMIT)) rfl rfl (pc' := 22) rfl ?_
  refine g_virtual C (own_w hw 38 rfl) (own_w hw 39 rfl) (own_w hw 41 rfl) (own_w hw 40 rfl) (own_w hw 6 rfl) (own_w hw 42 rfl) (notFace_of_selects (args := #[]) (mvT C.2.2.2.2.1 (own_w hw 41 rfl))) (by decide) (X_ISOLATION_COMMIT.ext O.2) (rm_commitsImplicitly_ISOLATION_COMMIT l Z a0 hw n0 e_NONE e_BEGIN e_SUSPENDING_BEGIN e_COMMIT_AND_BEGIN e_IMPLICIT_COMMIT_AND_BEGIN e_ROLLBACK e_COMMIT e_PREPARE e_IMPLICIT_COMMIT e_ISOLATION_COMMIT h0 Z0 en O) (st := []) [] rfl rfl own_pd_1_commitsImplicitly rfl rfl (by decide) (W := 0) (Nat.le_of_eq rfl) (by decide) (by decide) (by decide) d4_22 (pc' := 25) rfl ?_
  intro v_3 h_1 q_2
  obtain ⟨rfl, rfl⟩ := q_2
  show Go B n0 _ h0 0 0 25 #[.val (.ref e_ISOLATION_COMMIT)] [(.int (1 : Int32))]
  refine g_if_n C d4_25 (Jvm.Free.XT.i0_eq_f (by decide)) (pc' := 28) rfl ?_
  refine g_iconst C d4_28 (v := (1 : Int32)) rfl (pc' := 29) rfl ?_
  refine g_goto C d4_29 (pc' := 33) (by decide) (by decide) ?_
  refine g_ret C (v := (.int (1 : Int32))) (ty := .boolean) rfl rfl (Or.inl ⟨rfl, Or.inr (Or.inl rfl), _, rfl⟩) d4_33 (by decide) (by decide) ?_
  exact ⟨rfl, rfl⟩
theorem d2_0 : decode prog_54_method_7_code 0 = .ok (.aload_n 0, 1) := by decide +kernel
theorem d2_1 : decode prog_54_method_7_code 1 = .ok (.getstatic 7, 3) := by decide +kernel
theorem d2_4 : decode prog_54_method_7_code 4 = .ok (.if_acmp .eq 24, 3) := by decide +kernel
theorem d2_7 : decode prog_54_method_7_code 7 = .ok (.aload_n 0, 1) := by decide +kernel
theorem d2_8 : decode prog_54_method_7_code 8 = .ok (.getstatic 10, 3) := by decide +kernel
theorem d2_11 : decode prog_54_method_7_code 11 = .ok (.if_acmp .eq 17, 3) := by decide +kernel
theorem d2_14 : decode prog_54_method_7_code 14 = .ok (.aload_n 0, 1) := by decide +kernel
theorem d2_15 : decode prog_54_method_7_code 15 = .ok (.getstatic 22, 3) := by decide +kernel
theorem d2_18 : decode prog_54_method_7_code 18 = .ok (.if_acmp .eq 10, 3) := by decide +kernel
theorem d2_21 : decode prog_54_method_7_code 21 = .ok (.aload_n 0, 1) := by decide +kernel
theorem d2_22 : decode prog_54_method_7_code 22 = .ok (.getstatic 28, 3) := by decide +kernel
theorem d2_25 : decode prog_54_method_7_code 25 = .ok (.if_acmp .ne 7, 3) := by decide +kernel
theorem d2_32 : decode prog_54_method_7_code 32 = .ok (.iconst 0, 1) := by decide +kernel
theorem d2_33 : decode prog_54_method_7_code 33 = .ok (.ireturn, 1) := by decide +kernel
set_option maxRecDepth 65536 in
set_option maxHeartbeats 40000000 in
theorem rm_begins_NONE (l : Launch) (Z : State) (a0 : Array Value) (hw : ∀ d ∈ tables_1, d.before a0 Z = true) (n0 : Nat) (e_NONE e_BEGIN e_SUSPENDING_BEGIN e_COMMIT_AND_BEGIN e_IMPLICIT_COMMIT_AND_BEGIN e_ROLLBACK e_COMMIT e_PREPARE e_IMPLICIT_COMMIT e_ISOLATION_COMMIT : Addr) (h0 : Heap) (Z0 : n0 ≤ h0.size) (en : Ens Z e_NONE e_BEGIN e_SUSPENDING_BEGIN e_COMMIT_AND_BEGIN e_IMPLICIT_COMMIT_AND_BEGIN e_ROLLBACK e_COMMIT e_PREPARE e_IMPLICIT_COMMIT e_ISOLATION_COMMIT) (O : Old Z n0 h0) :
    Met1 l Z (⟨"com/example/measured_savepoints/measuredsavepoints/SavepointSql$TransactionEnd", "begins", "()Z"⟩ : MethodName) prog_54_method_7_code 1 (some .boolean) ({ frames := 0, cells := 0, slots := 0, locals := 0 } : Room) n0 #[(.ref e_NONE)] h0 (fun v h => v = some (.int (0 : Int32)) ∧ h0 = h) := by
  refine met_of (plainFor_of_name own_pn_com_example_measured_savepoints_measuredsavepoints_SavepointSql_TransactionEnd) (L0 := #[.val (.ref e_NONE)]) (by first | rfl | (simp [argsToLocals, Value.category]; done)) ?_
  intro B C
  change Ctx B l _ _ "com/example/measured_savepoints/measuredsavepoints/SavepointSql$TransactionEnd" "begins" _ _ Z at C
  have en' := en
  obtain ⟨⟨S_NONE, X_NONE, D_NONE⟩, ⟨S_BEGIN, X_BEGIN, D_BEGIN⟩, ⟨S_SUSPENDING_BEGIN, X_SUSPENDING_BEGIN, D_SUSPENDING_BEGIN⟩, ⟨S_COMMIT_AND_BEGIN, X_COMMIT_AND_BEGIN, D_COMMIT_AND_BEGIN⟩, ⟨S_IMPLICIT_COMMIT_AND_BEGIN, X_IMPLICIT_COMMIT_AND_BEGIN, D_IMPLICIT_COMMIT_AND_BEGIN⟩, ⟨S_ROLLBACK, X_ROLLBACK, D_ROLLBACK⟩, ⟨S_COMMIT, X_COMMIT, D_COMMIT⟩, ⟨S_PREPARE, X_PREPARE, D_PREPARE⟩, ⟨S_IMPLICIT_COMMIT, X_IMPLICIT_COMMIT, D_IMPLICIT_COMMIT⟩, ⟨S_ISOLATION_COMMIT, X_ISOLATION_COMMIT, D_ISOLATION_COMMIT⟩⟩ := en'
  refine g_aload_n C d2_0 (v := (.ref e_NONE)) rfl rfl (pc' := 1) rfl ?_
  refine g_getstatic C (host := "") (v := (.ref e_BEGIN)) (Or.inl (own_w hw 13 rfl)) Via.refl (S_BEGIN.ext O.2) d2_1 (pc' := 4) rfl ?_
  refine g_acmp_n C d2_4 rfl rfl (Jvm.Free.XT.aa_eq_f (fun q => (Fld.ne D_NONE D_BEGIN (by decide)) (Value.ref.inj q))) (pc' := 7) rfl ?_
  refine g_aload_n C d2_7 (v := (.ref e_NONE)) rfl rfl (pc' := 8) rfl ?_
  refine g_getstatic C (host := "") (v := (.ref e_SUSPENDING_BEGIN)) (Or.inl (own_w hw 15 rfl)) Via.refl (S_SUSPENDING_BEGIN.ext O.2) d2_8 (pc' := 11) rfl ?_
  refine g_acmp_n C d2_11 rfl rfl (Jvm.Free.XT.aa_eq_f (fun q => (Fld.ne D_NONE D_SUSPENDING_BEGIN (by decide)) (Value.ref.inj q))) (pc' := 14) rfl ?_
  refine g_aload_n C d2_14 (v := (.ref e_NONE)) rfl rfl (pc' := 15) rfl ?_
  refine g_getstatic C (host := "") (v := (.ref e_COMMIT_AND_BEGIN)) (Or.inl (own_w hw 17 rfl)) Via.refl (S_COMMIT_AND_BEGIN.ext O.2) d2_15 (pc' := 18) rfl ?_
  refine g_acmp_n C d2_18 rfl rfl (Jvm.Free.XT.aa_eq_f (fun q => (Fld.ne D_NONE D_COMMIT_AND_BEGIN (by decide)) (Value.ref.inj q))) (pc' := 21) rfl ?_
  refine g_aload_n C d2_21 (v := (.ref e_NONE)) rfl rfl (pc' := 22) rfl ?_
  refine g_getstatic C (host := "") (v := (.ref e_IMPLICIT_COMMIT_AND_BEGIN)) (Or.inl (own_w hw 19 rfl)) Via.refl (S_IMPLICIT_COMMIT_AND_BEGIN.ext O.2) d2_22 (pc' := 25) rfl ?_
  refine g_acmp_y C d2_25 rfl rfl (Jvm.Free.XT.aa_ne_t (fun q => (Fld.ne D_NONE D_IMPLICIT_COMMIT_AND_BEGIN (by decide)) (Value.ref.inj q))) (pc' := 32) (by decide) (by decide) ?_
  refine g_iconst C d2_32 (v := (0 : Int32)) rfl (pc' := 33) rfl ?_
  refine g_ret C (v := (.int (0 : Int32))) (ty := .boolean) rfl rfl (Or.inl ⟨rfl, Or.inr (Or.inl rfl), _, rfl⟩) d2_33 (by decide) (by decide) ?_
  exact ⟨rfl, rfl⟩
theorem d2_28 : decode prog_54_method_7_code 28 = .ok (.iconst 1, 1) := by decide +kernel
theorem d2_29 : decode prog_54_method_7_code 29 = .ok (.goto 4, 3) := by decide +kernel
set_option maxRecDepth 65536 in
set_option maxHeartbeats 40000000 in
theorem rm_begins_BEGIN (l : Launch) (Z : State) (a0 : Array Value) (hw : ∀ d ∈ tables_1, d.before a0 Z = true) (n0 : Nat) (e_NONE e_BEGIN e_SUSPENDING_BEGIN e_COMMIT_AND_BEGIN e_IMPLICIT_COMMIT_AND_BEGIN e_ROLLBACK e_COMMIT e_PREPARE e_IMPLICIT_COMMIT e_ISOLATION_COMMIT : Addr) (h0 : Heap) (Z0 : n0 ≤ h0.size) (en : Ens Z e_NONE e_BEGIN e_SUSPENDING_BEGIN e_COMMIT_AND_BEGIN e_IMPLICIT_COMMIT_AND_BEGIN e_ROLLBACK e_COMMIT e_PREPARE e_IMPLICIT_COMMIT e_ISOLATION_COMMIT) (O : Old Z n0 h0) :
    Met1 l Z (⟨"com/example/measured_savepoints/measuredsavepoints/SavepointSql$TransactionEnd", "begins", "()Z"⟩ : MethodName) prog_54_method_7_code 1 (some .boolean) ({ frames := 0, cells := 0, slots := 0, locals := 0 } : Room) n0 #[(.ref e_BEGIN)] h0 (fun v h => v = some (.int (1 : Int32)) ∧ h0 = h) := by
  refine met_of (plainFor_of_name own_pn_com_example_measured_savepoints_measuredsavepoints_SavepointSql_TransactionEnd) (L0 := #[.val (.ref e_BEGIN)]) (by first | rfl | (simp [argsToLocals, Value.category]; done)) ?_
  intro B C
  change Ctx B l _ _ "com/example/measured_savepoints/measuredsavepoints/SavepointSql$TransactionEnd" "begins" _ _ Z at C
  have en' := en
  obtain ⟨⟨S_NONE, X_NONE, D_NONE⟩, ⟨S_BEGIN, X_BEGIN, D_BEGIN⟩, ⟨S_SUSPENDING_BEGIN, X_SUSPENDING_BEGIN, D_SUSPENDING_BEGIN⟩, ⟨S_COMMIT_AND_BEGIN, X_COMMIT_AND_BEGIN, D_COMMIT_AND_BEGIN⟩, ⟨S_IMPLICIT_COMMIT_AND_BEGIN, X_IMPLICIT_COMMIT_AND_BEGIN, D_IMPLICIT_COMMIT_AND_BEGIN⟩, ⟨S_ROLLBACK, X_ROLLBACK, D_ROLLBACK⟩, ⟨S_COMMIT, X_COMMIT, D_COMMIT⟩, ⟨S_PREPARE, X_PREPARE, D_PREPARE⟩, ⟨S_IMPLICIT_COMMIT, X_IMPLICIT_COMMIT, D_IMPLICIT_COMMIT⟩, ⟨S_ISOLATION_COMMIT, X_ISOLATION_COMMIT, D_ISOLATION_COMMIT⟩⟩ := en'
  refine g_aload_n C d2_0 (v := (.ref e_BEGIN)) rfl rfl (pc' := 1) rfl ?_
  refine g_getstatic C (host := "") (v := (.ref e_BEGIN)) (Or.inl (own_w hw 13 rfl)) Via.refl (S_BEGIN.ext O.2) d2_1 (pc' := 4) rfl ?_
  refine g_acmp_y C d2_4 rfl rfl (Jvm.Free.XT.aa_eq_t rfl) (pc' := 28) (by decide) (by decide) ?_
  refine g_iconst C d2_28 (v := (1 : Int32)) rfl (pc' := 29) rfl ?_
  refine g_goto C d2_29 (pc' := 33) (by decide) (by decide) ?_
  refine g_ret C (v := (.int (1 : Int32))) (ty := .boolean) rfl rfl (Or.inl ⟨rfl, Or.inr (Or.inl rfl), _, rfl⟩) d2_33 (by decide) (by decide) ?_
  exact ⟨rfl, rfl⟩
set_option maxRecDepth 65536 in
set_option maxHeartbeats 40000000 in
theorem rm_begins_SUSPENDING_BEGIN (l : Launch) (Z : State) (a0 : Array Value) (hw : ∀ d ∈ tables_1, d.before a0 Z = true) (n0 : Nat) (e_NONE e_BEGIN e_SUSPENDING_BEGIN e_COMMIT_AND_BEGIN e_IMPLICIT_COMMIT_AND_BEGIN e_ROLLBACK e_COMMIT e_PREPARE e_IMPLICIT_COMMIT e_ISOLATION_COMMIT : Addr) (h0 : Heap) (Z0 : n0 ≤ h0.size) (en : Ens Z e_NONE e_BEGIN e_SUSPENDING_BEGIN e_COMMIT_AND_BEGIN e_IMPLICIT_COMMIT_AND_BEGIN e_ROLLBACK e_COMMIT e_PREPARE e_IMPLICIT_COMMIT e_ISOLATION_COMMIT) (O : Old Z n0 h0) :
    Met1 l Z (⟨"com/example/measured_savepoints/measuredsavepoints/SavepointSql$TransactionEnd", "begins", "()Z"⟩ : MethodName) prog_54_method_7_code 1 (some .boolean) ({ frames := 0, cells := 0, slots := 0, locals := 0 } : Room) n0 #[(.ref e_SUSPENDING_BEGIN)] h0 (fun v h => v = some (.int (1 : Int32)) ∧ h0 = h) := by
  refine met_of (plainFor_of_name own_pn_com_example_measured_savepoints_measuredsavepoints_SavepointSql_TransactionEnd) (L0 := #[.val (.ref e_SUSPENDING_BEGIN)]) (by first | rfl | (simp [argsToLocals, Value.category]; done)) ?_
  intro B C
  change Ctx B l _ _ "com/example/measured_savepoints/measuredsavepoints/SavepointSql$TransactionEnd" "begins" _ _ Z at C
  have en' := en
  obtain ⟨⟨S_NONE, X_NONE, D_NONE⟩, ⟨S_BEGIN, X_BEGIN, D_BEGIN⟩, ⟨S_SUSPENDING_BEGIN, X_SUSPENDING_BEGIN, D_SUSPENDING_BEGIN⟩, ⟨S_COMMIT_AND_BEGIN, X_COMMIT_AND_BEGIN, D_COMMIT_AND_BEGIN⟩, ⟨S_IMPLICIT_COMMIT_AND_BEGIN, X_IMPLICIT_COMMIT_AND_BEGIN, D_IMPLICIT_COMMIT_AND_BEGIN⟩, ⟨S_ROLLBACK, X_ROLLBACK, D_ROLLBACK⟩, ⟨S_COMMIT, X_COMMIT, D_COMMIT⟩, ⟨S_PREPARE, X_PREPARE, D_PREPARE⟩, ⟨S_IMPLICIT_COMMIT, X_IMPLICIT_COMMIT, D_IMPLICIT_COMMIT⟩, ⟨S_ISOLATION_COMMIT, X_ISOLATION_COMMIT, D_ISOLATION_COMMIT⟩⟩ := en'
  refine g_aload_n C d2_0 (v := (.ref e_SUSPENDING_BEGIN)) rfl rfl (pc' := 1) rfl ?_
  refine g_getstatic C (host := "") (v := (.ref e_BEGIN)) (Or.inl (own_w hw 13 rfl)) Via.refl (S_BEGIN.ext O.2) d2_1 (pc' := 4) rfl ?_
  refine g_acmp_n C d2_4 rfl rfl (Jvm.Free.XT.aa_eq_f (fun q => (Fld.ne D_SUSPENDING_BEGIN D_BEGIN (by decide)) (Value.ref.inj q))) (pc' := 7) rfl ?_
  refine g_aload_n C d2_7 (v := (.ref e_SUSPENDING_BEGIN)) rfl rfl (pc' := 8) rfl ?_
  refine g_getstatic C (host := "") (v := (.ref e_SUSPENDING_BEGIN)) (Or.inl (own_w hw 15 rfl)) Via.refl (S_SUSPENDING_BEGIN.ext O.2) d2_8 (pc' := 11) rfl ?_
  refine g_acmp_y C d2_11 rfl rfl (Jvm.Free.XT.aa_eq_t rfl) (pc' := 28) (by decide) (by decide) ?_
  refine g_iconst C d2_28 (v := (1 : Int32)) rfl (pc' := 29) rfl ?_
  refine g_goto C d2_29 (pc' := 33) (by decide) (by decide) ?_
  refine g_ret C (v := (.int (1 : Int32))) (ty := .boolean) rfl rfl (Or.inl ⟨rfl, Or.inr (Or.inl rfl), _, rfl⟩) d2_33 (by decide) (by decide) ?_
  exact ⟨rfl, rfl⟩
set_option maxRecDepth 65536 in
set_option maxHeartbeats 40000000 in
theorem rm_begins_COMMIT_AND_BEGIN (l : Launch) (Z : State) (a0 : Array Value) (hw : ∀ d ∈ tables_1, d.before a0 Z = true) (n0 : Nat) (e_NONE e_BEGIN e_SUSPENDING_BEGIN e_COMMIT_AND_BEGIN e_IMPLICIT_COMMIT_AND_BEGIN e_ROLLBACK e_COMMIT e_PREPARE e_IMPLICIT_COMMIT e_ISOLATION_COMMIT : Addr) (h0 : Heap) (Z0 : n0 ≤ h0.size) (en : Ens Z e_NONE e_BEGIN e_SUSPENDING_BEGIN e_COMMIT_AND_BEGIN e_IMPLICIT_COMMIT_AND_BEGIN e_ROLLBACK e_COMMIT e_PREPARE e_IMPLICIT_COMMIT e_ISOLATION_COMMIT) (O : Old Z n0 h0) :
    Met1 l Z (⟨"com/example/measured_savepoints/measuredsavepoints/SavepointSql$TransactionEnd", "begins", "()Z"⟩ : MethodName) prog_54_method_7_code 1 (some .boolean) ({ frames := 0, cells := 0, slots := 0, locals := 0 } : Room) n0 #[(.ref e_COMMIT_AND_BEGIN)] h0 (fun v h => v = some (.int (1 : Int32)) ∧ h0 = h) := by
  refine met_of (plainFor_of_name own_pn_com_example_measured_savepoints_measuredsavepoints_SavepointSql_TransactionEnd) (L0 := #[.val (.ref e_COMMIT_AND_BEGIN)]) (by first | rfl | (simp [argsToLocals, Value.category]; done)) ?_
  intro B C
  change Ctx B l _ _ "com/example/measured_savepoints/measuredsavepoints/SavepointSql$TransactionEnd" "begins" _ _ Z at C
  have en' := en
  obtain ⟨⟨S_NONE, X_NONE, D_NONE⟩, ⟨S_BEGIN, X_BEGIN, D_BEGIN⟩, ⟨S_SUSPENDING_BEGIN, X_SUSPENDING_BEGIN, D_SUSPENDING_BEGIN⟩, ⟨S_COMMIT_AND_BEGIN, X_COMMIT_AND_BEGIN, D_COMMIT_AND_BEGIN⟩, ⟨S_IMPLICIT_COMMIT_AND_BEGIN, X_IMPLICIT_COMMIT_AND_BEGIN, D_IMPLICIT_COMMIT_AND_BEGIN⟩, ⟨S_ROLLBACK, X_ROLLBACK, D_ROLLBACK⟩, ⟨S_COMMIT, X_COMMIT, D_COMMIT⟩, ⟨S_PREPARE, X_PREPARE, D_PREPARE⟩, ⟨S_IMPLICIT_COMMIT, X_IMPLICIT_COMMIT, D_IMPLICIT_COMMIT⟩, ⟨S_ISOLATION_COMMIT, X_ISOLATION_COMMIT, D_ISOLATION_COMMIT⟩⟩ := en'
  refine g_aload_n C d2_0 (v := (.ref e_COMMIT_AND_BEGIN)) rfl rfl (pc' := 1) rfl ?_
  refine g_getstatic C (host := "") (v := (.ref e_BEGIN)) (Or.inl (own_w hw 13 rfl)) Via.refl (S_BEGIN.ext O.2) d2_1 (pc' := 4) rfl ?_
  refine g_acmp_n C d2_4 rfl rfl (Jvm.Free.XT.aa_eq_f (fun q => (Fld.ne D_COMMIT_AND_BEGIN D_BEGIN (by decide)) (Value.ref.inj q))) (pc' := 7) rfl ?_
  refine g_aload_n C d2_7 (v := (.ref e_COMMIT_AND_BEGIN)) rfl rfl (pc' := 8) rfl ?_
  refine g_getstatic C (host := "") (v := (.ref e_SUSPENDING_BEGIN)) (Or.inl (own_w hw 15 rfl)) Via.refl (S_SUSPENDING_BEGIN.ext O.2) d2_8 (pc' := 11) rfl ?_
  refine g_acmp_n C d2_11 rfl rfl (Jvm.Free.XT.aa_eq_f (fun q => (Fld.ne D_COMMIT_AND_BEGIN D_SUSPENDING_BEGIN (by decide)) (Value.ref.inj q))) (pc' := 14) rfl ?_
  refine g_aload_n C d2_14 (v := (.ref e_COMMIT_AND_BEGIN)) rfl rfl (pc' := 15) rfl ?_
  refine g_getstatic C (host := "") (v := (.ref e_COMMIT_AND_BEGIN)) (Or.inl (own_w hw 17 rfl)) Via.refl (S_COMMIT_AND_BEGIN.ext O.2) d2_15 (pc' := 18) rfl ?_
  refine g_acmp_y C d2_18 rfl rfl (Jvm.Free.XT.aa_eq_t rfl) (pc' := 28) (by decide) (by decide) ?_
  refine g_iconst C d2_28 (v := (1 : Int32)) rfl (pc' := 29) rfl ?_
  refine g_goto C d2_29 (pc' := 33) (by decide) (by decide) ?_
  refine g_ret C (v := (.int (1 : Int32))) (ty := .boolean) rfl rfl (Or.inl ⟨rfl, Or.inr (Or.inl rfl), _, rfl⟩) d2_33 (by decide) (by decide) ?_
  exact ⟨rfl, rfl⟩
set_option maxRecDepth 65536 in
set_option maxHeartbeats 40000000 in
theorem rm_begins_IMPLICIT_COMMIT_AND_BEGIN (l : Launch) (Z : State) (a0 : Array Value) (hw : ∀ d ∈ tables_1, d.before a0 Z = true) (n0 : Nat) (e_NONE e_BEGIN e_SUSPENDING_BEGIN e_COMMIT_AND_BEGIN e_IMPLICIT_COMMIT_AND_BEGIN e_ROLLBACK e_COMMIT e_PREPARE e_IMPLICIT_COMMIT e_ISOLATION_COMMIT : Addr) (h0 : Heap) (Z0 : n0 ≤ h0.size) (en : Ens Z e_NONE e_BEGIN e_SUSPENDING_BEGIN e_COMMIT_AND_BEGIN e_IMPLICIT_COMMIT_AND_BEGIN e_ROLLBACK e_COMMIT e_PREPARE e_IMPLICIT_COMMIT e_ISOLATION_COMMIT) (O : Old Z n0 h0) :
    Met1 l Z (⟨"com/example/measured_savepoints/measuredsavepoints/SavepointSql$TransactionEnd", "begins", "()Z"⟩ : MethodName) prog_54_method_7_code 1 (some .boolean) ({ frames := 0, cells := 0, slots := 0, locals := 0 } : Room) n0 #[(.ref e_IMPLICIT_COMMIT_AND_BEGIN)] h0 (fun v h => v = some (.int (1 : Int32)) ∧ h0 = h) := by
  refine met_of (plainFor_of_name own_pn_com_example_measured_savepoints_measuredsavepoints_SavepointSql_TransactionEnd) (L0 := #[.val (.ref e_IMPLICIT_COMMIT_AND_BEGIN)]) (by first | rfl | (simp [argsToLocals, Value.category]; done)) ?_
  intro B C
  change Ctx B l _ _ "com/example/measured_savepoints/measuredsavepoints/SavepointSql$TransactionEnd" "begins" _ _ Z at C
  have en' := en
  obtain ⟨⟨S_NONE, X_NONE, D_NONE⟩, ⟨S_BEGIN, X_BEGIN, D_BEGIN⟩, ⟨S_SUSPENDING_BEGIN, X_SUSPENDING_BEGIN, D_SUSPENDING_BEGIN⟩, ⟨S_COMMIT_AND_BEGIN, X_COMMIT_AND_BEGIN, D_COMMIT_AND_BEGIN⟩, ⟨S_IMPLICIT_COMMIT_AND_BEGIN, X_IMPLICIT_COMMIT_AND_BEGIN, D_IMPLICIT_COMMIT_AND_BEGIN⟩, ⟨S_ROLLBACK, X_ROLLBACK, D_ROLLBACK⟩, ⟨S_COMMIT, X_COMMIT, D_COMMIT⟩, ⟨S_PREPARE, X_PREPARE, D_PREPARE⟩, ⟨S_IMPLICIT_COMMIT, X_IMPLICIT_COMMIT, D_IMPLICIT_COMMIT⟩, ⟨S_ISOLATION_COMMIT, X_ISOLATION_COMMIT, D_ISOLATION_COMMIT⟩⟩ := en'
  refine g_aload_n C d2_0 (v := (.ref e_IMPLICIT_COMMIT_AND_BEGIN)) rfl rfl (pc' := 1) rfl ?_
  refine g_getstatic C (host := "") (v := (.ref e_BEGIN)) (Or.inl (own_w hw 13 rfl)) Via.refl (S_BEGIN.ext O.2) d2_1 (pc' := 4) rfl ?_
  refine g_acmp_n C d2_4 rfl rfl (Jvm.Free.XT.aa_eq_f (fun q => (Fld.ne D_IMPLICIT_COMMIT_AND_BEGIN D_BEGIN (by decide)) (Value.ref.inj q))) (pc' := 7) rfl ?_
  refine g_aload_n C d2_7 (v := (.ref e_IMPLICIT_COMMIT_AND_BEGIN)) rfl rfl (pc' := 8) rfl ?_
  refine g_getstatic C (host := "") (v := (.ref e_SUSPENDING_BEGIN)) (Or.inl (own_w hw 15 rfl)) Via.refl (S_SUSPENDING_BEGIN.ext O.2) d2_8 (pc' := 11) rfl ?_
  refine g_acmp_n C d2_11 rfl rfl (Jvm.Free.XT.aa_eq_f (fun q => (Fld.ne D_IMPLICIT_COMMIT_AND_BEGIN D_SUSPENDING_BEGIN (by decide)) (Value.ref.inj q))) (pc' := 14) rfl ?_
  refine g_aload_n C d2_14 (v := (.ref e_IMPLICIT_COMMIT_AND_BEGIN)) rfl rfl (pc' := 15) rfl ?_
  refine g_getstatic C (host := "") (v := (.ref e_COMMIT_AND_BEGIN)) (Or.inl (own_w hw 17 rfl)) Via.refl (S_COMMIT_AND_BEGIN.ext O.2) d2_15 (pc' := 18) rfl ?_
  refine g_acmp_n C d2_18 rfl rfl (Jvm.Free.XT.aa_eq_f (fun q => (Fld.ne D_IMPLICIT_COMMIT_AND_BEGIN D_COMMIT_AND_BEGIN (by decide)) (Value.ref.inj q))) (pc' := 21) rfl ?_
  refine g_aload_n C d2_21 (v := (.ref e_IMPLICIT_COMMIT_AND_BEGIN)) rfl rfl (pc' := 22) rfl ?_
  refine g_getstatic C (host := "") (v := (.ref e_IMPLICIT_COMMIT_AND_BEGIN)) (Or.inl (own_w hw 19 rfl)) Via.refl (S_IMPLICIT_COMMIT_AND_BEGIN.ext O.2) d2_22 (pc' := 25) rfl ?_
  refine g_acmp_n C d2_25 rfl rfl (Jvm.Free.XT.aa_ne_f rfl) (pc' := 28) rfl ?_
  refine g_iconst C d2_28 (v := (1 : Int32)) rfl (pc' := 29) rfl ?_
  refine g_goto C d2_29 (pc' := 33) (by decide) (by decide) ?_
  refine g_ret C (v := (.int (1 : Int32))) (ty := .boolean) rfl rfl (Or.inl ⟨rfl, Or.inr (Or.inl rfl), _, rfl⟩) d2_33 (by decide) (by decide) ?_
  exact ⟨rfl, rfl⟩
set_option maxRecDepth 65536 in
set_option maxHeartbeats 40000000 in
theorem rm_begins_ROLLBACK (l : Launch) (Z : State) (a0 : Array Value) (hw : ∀ d ∈ tables_1, d.before a0 Z = true) (n0 : Nat) (e_NONE e_BEGIN e_SUSPENDING_BEGIN e_COMMIT_AND_BEGIN e_IMPLICIT_COMMIT_AND_BEGIN e_ROLLBACK e_COMMIT e_PREPARE e_IMPLICIT_COMMIT e_ISOLATION_COMMIT : Addr) (h0 : Heap) (Z0 : n0 ≤ h0.size) (en : Ens Z e_NONE e_BEGIN e_SUSPENDING_BEGIN e_COMMIT_AND_BEGIN e_IMPLICIT_COMMIT_AND_BEGIN e_ROLLBACK e_COMMIT e_PREPARE e_IMPLICIT_COMMIT e_ISOLATION_COMMIT) (O : Old Z n0 h0) :
    Met1 l Z (⟨"com/example/measured_savepoints/measuredsavepoints/SavepointSql$TransactionEnd", "begins", "()Z"⟩ : MethodName) prog_54_method_7_code 1 (some .boolean) ({ frames := 0, cells := 0, slots := 0, locals := 0 } : Room) n0 #[(.ref e_ROLLBACK)] h0 (fun v h => v = some (.int (0 : Int32)) ∧ h0 = h) := by
  refine met_of (plainFor_of_name own_pn_com_example_measured_savepoints_measuredsavepoints_SavepointSql_TransactionEnd) (L0 := #[.val (.ref e_ROLLBACK)]) (by first | rfl | (simp [argsToLocals, Value.category]; done)) ?_
  intro B C
  change Ctx B l _ _ "com/example/measured_savepoints/measuredsavepoints/SavepointSql$TransactionEnd" "begins" _ _ Z at C
  have en' := en
  obtain ⟨⟨S_NONE, X_NONE, D_NONE⟩, ⟨S_BEGIN, X_BEGIN, D_BEGIN⟩, ⟨S_SUSPENDING_BEGIN, X_SUSPENDING_BEGIN, D_SUSPENDING_BEGIN⟩, ⟨S_COMMIT_AND_BEGIN, X_COMMIT_AND_BEGIN, D_COMMIT_AND_BEGIN⟩, ⟨S_IMPLICIT_COMMIT_AND_BEGIN, X_IMPLICIT_COMMIT_AND_BEGIN, D_IMPLICIT_COMMIT_AND_BEGIN⟩, ⟨S_ROLLBACK, X_ROLLBACK, D_ROLLBACK⟩, ⟨S_COMMIT, X_COMMIT, D_COMMIT⟩, ⟨S_PREPARE, X_PREPARE, D_PREPARE⟩, ⟨S_IMPLICIT_COMMIT, X_IMPLICIT_COMMIT, D_IMPLICIT_COMMIT⟩, ⟨S_ISOLATION_COMMIT, X_ISOLATION_COMMIT, D_ISOLATION_COMMIT⟩⟩ := en'
  refine g_aload_n C d2_0 (v := (.ref e_ROLLBACK)) rfl rfl (pc' := 1) rfl ?_
  refine g_getstatic C (host := "") (v := (.ref e_BEGIN)) (Or.inl (own_w hw 13 rfl)) Via.refl (S_BEGIN.ext O.2) d2_1 (pc' := 4) rfl ?_
  refine g_acmp_n C d2_4 rfl rfl (Jvm.Free.XT.aa_eq_f (fun q => (Fld.ne D_ROLLBACK D_BEGIN (by decide)) (Value.ref.inj q))) (pc' := 7) rfl ?_
  refine g_aload_n C d2_7 (v := (.ref e_ROLLBACK)) rfl rfl (pc' := 8) rfl ?_
  refine g_getstatic C (host := "") (v := (.ref e_SUSPENDING_BEGIN)) (Or.inl (own_w hw 15 rfl)) Via.refl (S_SUSPENDING_BEGIN.ext O.2) d2_8 (pc' := 11) rfl ?_
  refine g_acmp_n C d2_11 rfl rfl (Jvm.Free.XT.aa_eq_f (fun q => (Fld.ne D_ROLLBACK D_SUSPENDING_BEGIN (by decide)) (Value.ref.inj q))) (pc' := 14) rfl ?_
  refine g_aload_n C d2_14 (v := (.ref e_ROLLBACK)) rfl rfl (pc' := 15) rfl ?_
  refine g_getstatic C (host := "") (v := (.ref e_COMMIT_AND_BEGIN)) (Or.inl (own_w hw 17 rfl)) Via.refl (S_COMMIT_AND_BEGIN.ext O.2) d2_15 (pc' := 18) rfl ?_
  refine g_acmp_n C d2_18 rfl rfl (Jvm.Free.XT.aa_eq_f (fun q => (Fld.ne D_ROLLBACK D_COMMIT_AND_BEGIN (by decide)) (Value.ref.inj q))) (pc' := 21) rfl ?_
  refine g_aload_n C d2_21 (v := (.ref e_ROLLBACK)) rfl rfl (pc' := 22) rfl ?_
  refine g_getstatic C (host := "") (v := (.ref e_IMPLICIT_COMMIT_AND_BEGIN)) (Or.inl (own_w hw 19 rfl)) Via.refl (S_IMPLICIT_COMMIT_AND_BEGIN.ext O.2) d2_22 (pc' := 25) rfl ?_
  refine g_acmp_y C d2_25 rfl rfl (Jvm.Free.XT.aa_ne_t (fun q => (Fld.ne D_ROLLBACK D_IMPLICIT_COMMIT_AND_BEGIN (by decide)) (Value.ref.inj q))) (pc' := 32) (by decide) (by decide) ?_
  refine g_iconst C d2_32 (v := (0 : Int32)) rfl (pc' := 33) rfl ?_
  refine g_ret C (v := (.int (0 : Int32))) (ty := .boolean) rfl rfl (Or.inl ⟨rfl, Or.inr (Or.inl rfl), _, rfl⟩) d2_33 (by decide) (by decide) ?_
  exact ⟨rfl, rfl⟩
set_option maxRecDepth 65536 in
set_option maxHeartbeats 40000000 in
theorem rm_begins_COMMIT (l : Launch) (Z : State) (a0 : Array Value) (hw : ∀ d ∈ tables_1, d.before a0 Z = true) (n0 : Nat) (e_NONE e_BEGIN e_SUSPENDING_BEGIN e_COMMIT_AND_BEGIN e_IMPLICIT_COMMIT_AND_BEGIN e_ROLLBACK e_COMMIT e_PREPARE e_IMPLICIT_COMMIT e_ISOLATION_COMMIT : Addr) (h0 : Heap) (Z0 : n0 ≤ h0.size) (en : Ens Z e_NONE e_BEGIN e_SUSPENDING_BEGIN e_COMMIT_AND_BEGIN e_IMPLICIT_COMMIT_AND_BEGIN e_ROLLBACK e_COMMIT e_PREPARE e_IMPLICIT_COMMIT e_ISOLATION_COMMIT) (O : Old Z n0 h0) :
    Met1 l Z (⟨"com/example/measured_savepoints/measuredsavepoints/SavepointSql$TransactionEnd", "begins", "()Z"⟩ : MethodName) prog_54_method_7_code 1 (some .boolean) ({ frames := 0, cells := 0, slots := 0, locals := 0 } : Room) n0 #[(.ref e_COMMIT)] h0 (fun v h => v = some (.int (0 : Int32)) ∧ h0 = h) := by
  refine met_of (plainFor_of_name own_pn_com_example_measured_savepoints_measuredsavepoints_SavepointSql_TransactionEnd) (L0 := #[.val (.ref e_COMMIT)]) (by first | rfl | (simp [argsToLocals, Value.category]; done)) ?_
  intro B C
  change Ctx B l _ _ "com/example/measured_savepoints/measuredsavepoints/SavepointSql$TransactionEnd" "begins" _ _ Z at C
  have en' := en
  obtain ⟨⟨S_NONE, X_NONE, D_NONE⟩, ⟨S_BEGIN, X_BEGIN, D_BEGIN⟩, ⟨S_SUSPENDING_BEGIN, X_SUSPENDING_BEGIN, D_SUSPENDING_BEGIN⟩, ⟨S_COMMIT_AND_BEGIN, X_COMMIT_AND_BEGIN, D_COMMIT_AND_BEGIN⟩, ⟨S_IMPLICIT_COMMIT_AND_BEGIN, X_IMPLICIT_COMMIT_AND_BEGIN, D_IMPLICIT_COMMIT_AND_BEGIN⟩, ⟨S_ROLLBACK, X_ROLLBACK, D_ROLLBACK⟩, ⟨S_COMMIT, X_COMMIT, D_COMMIT⟩, ⟨S_PREPARE, X_PREPARE, D_PREPARE⟩, ⟨S_IMPLICIT_COMMIT, X_IMPLICIT_COMMIT, D_IMPLICIT_COMMIT⟩, ⟨S_ISOLATION_COMMIT, X_ISOLATION_COMMIT, D_ISOLATION_COMMIT⟩⟩ := en'
  refine g_aload_n C d2_0 (v := (.ref e_COMMIT)) rfl rfl (pc' := 1) rfl ?_
  refine g_getstatic C (host := "") (v := (.ref e_BEGIN)) (Or.inl (own_w hw 13 rfl)) Via.refl (S_BEGIN.ext O.2) d2_1 (pc' := 4) rfl ?_
  refine g_acmp_n C d2_4 rfl rfl (Jvm.Free.XT.aa_eq_f (fun q => (Fld.ne D_COMMIT D_BEGIN (by decide)) (Value.ref.inj q))) (pc' := 7) rfl ?_
  refine g_aload_n C d2_7 (v := (.ref e_COMMIT)) rfl rfl (pc' := 8) rfl ?_
  refine g_getstatic C (host := "") (v := (.ref e_SUSPENDING_BEGIN)) (Or.inl (own_w hw 15 rfl)) Via.refl (S_SUSPENDING_BEGIN.ext O.2) d2_8 (pc' := 11) rfl ?_
  refine g_acmp_n C d2_11 rfl rfl (Jvm.Free.XT.aa_eq_f (fun q => (Fld.ne D_COMMIT D_SUSPENDING_BEGIN (by decide)) (Value.ref.inj q))) (pc' := 14) rfl ?_
  refine g_aload_n C d2_14 (v := (.ref e_COMMIT)) rfl rfl (pc' := 15) rfl ?_
  refine g_getstatic C (host := "") (v := (.ref e_COMMIT_AND_BEGIN)) (Or.inl (own_w hw 17 rfl)) Via.refl (S_COMMIT_AND_BEGIN.ext O.2) d2_15 (pc' := 18) rfl ?_
  refine g_acmp_n C d2_18 rfl rfl (Jvm.Free.XT.aa_eq_f (fun q => (Fld.ne D_COMMIT D_COMMIT_AND_BEGIN (by decide)) (Value.ref.inj q))) (pc' := 21) rfl ?_
  refine g_aload_n C d2_21 (v := (.ref e_COMMIT)) rfl rfl (pc' := 22) rfl ?_
  refine g_getstatic C (host := "") (v := (.ref e_IMPLICIT_COMMIT_AND_BEGIN)) (Or.inl (own_w hw 19 rfl)) Via.refl (S_IMPLICIT_COMMIT_AND_BEGIN.ext O.2) d2_22 (pc' := 25) rfl ?_
  refine g_acmp_y C d2_25 rfl rfl (Jvm.Free.XT.aa_ne_t (fun q => (Fld.ne D_COMMIT D_IMPLICIT_COMMIT_AND_BEGIN (by decide)) (Value.ref.inj q))) (pc' := 32) (by decide) (by decide) ?_
  refine g_iconst C d2_32 (v := (0 : Int32)) rfl (pc' := 33) rfl ?_
  refine g_ret C (v := (.int (0 : Int32))) (ty := .boolean) rfl rfl (Or.inl ⟨rfl, Or.inr (Or.inl rfl), _, rfl⟩) d2_33 (by decide) (by decide) ?_
  exact ⟨rfl, rfl⟩
set_option maxRecDepth 65536 in
set_option maxHeartbeats 40000000 in
theorem rm_begins_PREPARE (l : Launch) (Z : State) (a0 : Array Value) (hw : ∀ d ∈ tables_1, d.before a0 Z = true) (n0 : Nat) (e_NONE e_BEGIN e_SUSPENDING_BEGIN e_COMMIT_AND_BEGIN e_IMPLICIT_COMMIT_AND_BEGIN e_ROLLBACK e_COMMIT e_PREPARE e_IMPLICIT_COMMIT e_ISOLATION_COMMIT : Addr) (h0 : Heap) (Z0 : n0 ≤ h0.size) (en : Ens Z e_NONE e_BEGIN e_SUSPENDING_BEGIN e_COMMIT_AND_BEGIN e_IMPLICIT_COMMIT_AND_BEGIN e_ROLLBACK e_COMMIT e_PREPARE e_IMPLICIT_COMMIT e_ISOLATION_COMMIT) (O : Old Z n0 h0) :
    Met1 l Z (⟨"com/example/measured_savepoints/measuredsavepoints/SavepointSql$TransactionEnd", "begins", "()Z"⟩ : MethodName) prog_54_method_7_code 1 (some .boolean) ({ frames := 0, cells := 0, slots := 0, locals := 0 } : Room) n0 #[(.ref e_PREPARE)] h0 (fun v h => v = some (.int (0 : Int32)) ∧ h0 = h) := by
  refine met_of (plainFor_of_name own_pn_com_example_measured_savepoints_measuredsavepoints_SavepointSql_TransactionEnd) (L0 := #[.val (.ref e_PREPARE)]) (by first | rfl | (simp [argsToLocals, Value.category]; done)) ?_
  intro B C
  change Ctx B l _ _ "com/example/measured_savepoints/measuredsavepoints/SavepointSql$TransactionEnd" "begins" _ _ Z at C
  have en' := en
  obtain ⟨⟨S_NONE, X_NONE, D_NONE⟩, ⟨S_BEGIN, X_BEGIN, D_BEGIN⟩, ⟨S_SUSPENDING_BEGIN, X_SUSPENDING_BEGIN, D_SUSPENDING_BEGIN⟩, ⟨S_COMMIT_AND_BEGIN, X_COMMIT_AND_BEGIN, D_COMMIT_AND_BEGIN⟩, ⟨S_IMPLICIT_COMMIT_AND_BEGIN, X_IMPLICIT_COMMIT_AND_BEGIN, D_IMPLICIT_COMMIT_AND_BEGIN⟩, ⟨S_ROLLBACK, X_ROLLBACK, D_ROLLBACK⟩, ⟨S_COMMIT, X_COMMIT, D_COMMIT⟩, ⟨S_PREPARE, X_PREPARE, D_PREPARE⟩, ⟨S_IMPLICIT_COMMIT, X_IMPLICIT_COMMIT, D_IMPLICIT_COMMIT⟩, ⟨S_ISOLATION_COMMIT, X_ISOLATION_COMMIT, D_ISOLATION_COMMIT⟩⟩ := en'
  refine g_aload_n C d2_0 (v := (.ref e_PREPARE)) rfl rfl (pc' := 1) rfl ?_
  refine g_getstatic C (host := "") (v := (.ref e_BEGIN)) (Or.inl (own_w hw 13 rfl)) Via.refl (S_BEGIN.ext O.2) d2_1 (pc' := 4) rfl ?_
  refine g_acmp_n C d2_4 rfl rfl (Jvm.Free.XT.aa_eq_f (fun q => (Fld.ne D_PREPARE D_BEGIN (by decide)) (Value.ref.inj q))) (pc' := 7) rfl ?_
  refine g_aload_n C d2_7 (v := (.ref e_PREPARE)) rfl rfl (pc' := 8) rfl ?_
  refine g_getstatic C (host := "") (v := (.ref e_SUSPENDING_BEGIN)) (Or.inl (own_w hw 15 rfl)) Via.refl (S_SUSPENDING_BEGIN.ext O.2) d2_8 (pc' := 11) rfl ?_
  refine g_acmp_n C d2_11 rfl rfl (Jvm.Free.XT.aa_eq_f (fun q => (Fld.ne D_PREPARE D_SUSPENDING_BEGIN (by decide)) (Value.ref.inj q))) (pc' := 14) rfl ?_
  refine g_aload_n C d2_14 (v := (.ref e_PREPARE)) rfl rfl (pc' := 15) rfl ?_
  refine g_getstatic C (host := "") (v := (.ref e_COMMIT_AND_BEGIN)) (Or.inl (own_w hw 17 rfl)) Via.refl (S_COMMIT_AND_BEGIN.ext O.2) d2_15 (pc' := 18) rfl ?_
  refine g_acmp_n C d2_18 rfl rfl (Jvm.Free.XT.aa_eq_f (fun q => (Fld.ne D_PREPARE D_COMMIT_AND_BEGIN (by decide)) (Value.ref.inj q))) (pc' := 21) rfl ?_
  refine g_aload_n C d2_21 (v := (.ref e_PREPARE)) rfl rfl (pc' := 22) rfl ?_
  refine g_getstatic C (host := "") (v := (.ref e_IMPLICIT_COMMIT_AND_BEGIN)) (Or.inl (own_w hw 19 rfl)) Via.refl (S_IMPLICIT_COMMIT_AND_BEGIN.ext O.2) d2_22 (pc' := 25) rfl ?_
  refine g_acmp_y C d2_25 rfl rfl (Jvm.Free.XT.aa_ne_t (fun q => (Fld.ne D_PREPARE D_IMPLICIT_COMMIT_AND_BEGIN (by decide)) (Value.ref.inj q))) (pc' := 32) (by decide) (by decide) ?_
  refine g_iconst C d2_32 (v := (0 : Int32)) rfl (pc' := 33) rfl ?_
  refine g_ret C (v := (.int (0 : Int32))) (ty := .boolean) rfl rfl (Or.inl ⟨rfl, Or.inr (Or.inl rfl), _, rfl⟩) d2_33 (by decide) (by decide) ?_
  exact ⟨rfl, rfl⟩
set_option maxRecDepth 65536 in
set_option maxHeartbeats 40000000 in
theorem rm_begins_IMPLICIT_COMMIT (l : Launch) (Z : State) (a0 : Array Value) (hw : ∀ d ∈ tables_1, d.before a0 Z = true) (n0 : Nat) (e_NONE e_BEGIN e_SUSPENDING_BEGIN e_COMMIT_AND_BEGIN e_IMPLICIT_COMMIT_AND_BEGIN e_ROLLBACK e_COMMIT e_PREPARE e_IMPLICIT_COMMIT e_ISOLATION_COMMIT : Addr) (h0 : Heap) (Z0 : n0 ≤ h0.size) (en : Ens Z e_NONE e_BEGIN e_SUSPENDING_BEGIN e_COMMIT_AND_BEGIN e_IMPLICIT_COMMIT_AND_BEGIN e_ROLLBACK e_COMMIT e_PREPARE e_IMPLICIT_COMMIT e_ISOLATION_COMMIT) (O : Old Z n0 h0) :
    Met1 l Z (⟨"com/example/measured_savepoints/measuredsavepoints/SavepointSql$TransactionEnd", "begins", "()Z"⟩ : MethodName) prog_54_method_7_code 1 (some .boolean) ({ frames := 0, cells := 0, slots := 0, locals := 0 } : Room) n0 #[(.ref e_IMPLICIT_COMMIT)] h0 (fun v h => v = some (.int (0 : Int32)) ∧ h0 = h) := by
  refine met_of (plainFor_of_name own_pn_com_example_measured_savepoints_measuredsavepoints_SavepointSql_TransactionEnd) (L0 := #[.val (.ref e_IMPLICIT_COMMIT)]) (by first | rfl | (simp [argsToLocals, Value.category]; done)) ?_
  intro B C
  change Ctx B l _ _ "com/example/measured_savepoints/measuredsavepoints/SavepointSql$TransactionEnd" "begins" _ _ Z at C
  have en' := en
  obtain ⟨⟨S_NONE, X_NONE, D_NONE⟩, ⟨S_BEGIN, X_BEGIN, D_BEGIN⟩, ⟨S_SUSPENDING_BEGIN, X_SUSPENDING_BEGIN, D_SUSPENDING_BEGIN⟩, ⟨S_COMMIT_AND_BEGIN, X_COMMIT_AND_BEGIN, D_COMMIT_AND_BEGIN⟩, ⟨S_IMPLICIT_COMMIT_AND_BEGIN, X_IMPLICIT_COMMIT_AND_BEGIN, D_IMPLICIT_COMMIT_AND_BEGIN⟩, ⟨S_ROLLBACK, X_ROLLBACK, D_ROLLBACK⟩, ⟨S_COMMIT, X_COMMIT, D_COMMIT⟩, ⟨S_PREPARE, X_PREPARE, D_PREPARE⟩, ⟨S_IMPLICIT_COMMIT, X_IMPLICIT_COMMIT, D_IMPLICIT_COMMIT⟩, ⟨S_ISOLATION_COMMIT, X_ISOLATION_COMMIT, D_ISOLATION_COMMIT⟩⟩ := en'
  refine g_aload_n C d2_0 (v := (.ref e_IMPLICIT_COMMIT)) rfl rfl (pc' := 1) rfl ?_
  refine g_getstatic C (host := "") (v := (.ref e_BEGIN)) (Or.inl (own_w hw 13 rfl)) Via.refl (S_BEGIN.ext O.2) d2_1 (pc' := 4) rfl ?_
  refine g_acmp_n C d2_4 rfl rfl (Jvm.Free.XT.aa_eq_f (fun q => (Fld.ne D_IMPLICIT_COMMIT D_BEGIN (by decide)) (Value.ref.inj q))) (pc' := 7) rfl ?_
  refine g_aload_n C d2_7 (v := (.ref e_IMPLICIT_COMMIT)) rfl rfl (pc' := 8) rfl ?_
  refine g_getstatic C (host := "") (v := (.ref e_SUSPENDING_BEGIN)) (Or.inl (own_w hw 15 rfl)) Via.refl (S_SUSPENDING_BEGIN.ext O.2) d2_8 (pc' := 11) rfl ?_
  refine g_acmp_n C d2_11 rfl rfl (Jvm.Free.XT.aa_eq_f (fun q => (Fld.ne D_IMPLICIT_COMMIT D_SUSPENDING_BEGIN (by decide)) (Value.ref.inj q))) (pc' := 14) rfl ?_
  refine g_aload_n C d2_14 (v := (.ref e_IMPLICIT_COMMIT)) rfl rfl (pc' := 15) rfl ?_
  refine g_getstatic C (host := "") (v := (.ref e_COMMIT_AND_BEGIN)) (Or.inl (own_w hw 17 rfl)) Via.refl (S_COMMIT_AND_BEGIN.ext O.2) d2_15 (pc' := 18) rfl ?_
  refine g_acmp_n C d2_18 rfl rfl (Jvm.Free.XT.aa_eq_f (fun q => (Fld.ne D_IMPLICIT_COMMIT D_COMMIT_AND_BEGIN (by decide)) (Value.ref.inj q))) (pc' := 21) rfl ?_
  refine g_aload_n C d2_21 (v := (.ref e_IMPLICIT_COMMIT)) rfl rfl (pc' := 22) rfl ?_
  refine g_getstatic C (host := "") (v := (.ref e_IMPLICIT_COMMIT_AND_BEGIN)) (Or.inl (own_w hw 19 rfl)) Via.refl (S_IMPLICIT_COMMIT_AND_BEGIN.ext O.2) d2_22 (pc' := 25) rfl ?_
  refine g_acmp_y C d2_25 rfl rfl (Jvm.Free.XT.aa_ne_t (fun q => (Fld.ne D_IMPLICIT_COMMIT D_IMPLICIT_COMMIT_AND_BEGIN (by decide)) (Value.ref.inj q))) (pc' := 32) (by decide) (by decide) ?_
  refine g_iconst C d2_32 (v := (0 : Int32)) rfl (pc' := 33) rfl ?_
  refine g_ret C (v := (.int (0 : Int32))) (ty := .boolean) rfl rfl (Or.inl ⟨rfl, Or.inr (Or.inl rfl), _, rfl⟩) d2_33 (by decide) (by decide) ?_
  exact ⟨rfl, rfl⟩
set_option maxRecDepth 65536 in
set_option maxHeartbeats 40000000 in
theorem rm_begins_ISOLATION_COMMIT (l : Launch) (Z : State) (a0 : Array Value) (hw : ∀ d ∈ tables_1, d.before a0 Z = true) (n0 : Nat) (e_NONE e_BEGIN e_SUSPENDING_BEGIN e_COMMIT_AND_BEGIN e_IMPLICIT_COMMIT_AND_BEGIN e_ROLLBACK e_COMMIT e_PREPARE e_IMPLICIT_COMMIT e_ISOLATION_COMMIT : Addr) (h0 : Heap) (Z0 : n0 ≤ h0.size) (en : Ens Z e_NONE e_BEGIN e_SUSPENDING_BEGIN e_COMMIT_AND_BEGIN e_IMPLICIT_COMMIT_AND_BEGIN e_ROLLBACK e_COMMIT e_PREPARE e_IMPLICIT_COMMIT e_ISOLATION_COMMIT) (O : Old Z n0 h0) :
    Met1 l Z (⟨"com/example/measured_savepoints/measuredsavepoints/SavepointSql$TransactionEnd", "begins", "()Z"⟩ : MethodName) prog_54_method_7_code 1 (some .boolean) ({ frames := 0, cells := 0, slots := 0, locals := 0 } : Room) n0 #[(.ref e_ISOLATION_COMMIT)] h0 (fun v h => v = some (.int (0 : Int32)) ∧ h0 = h) := by
  refine met_of (plainFor_of_name own_pn_com_example_measured_savepoints_measuredsavepoints_SavepointSql_TransactionEnd) (L0 := #[.val (.ref e_ISOLATION_COMMIT)]) (by first | rfl | (simp [argsToLocals, Value.category]; done)) ?_
  intro B C
  change Ctx B l _ _ "com/example/measured_savepoints/measuredsavepoints/SavepointSql$TransactionEnd" "begins" _ _ Z at C
  have en' := en
  obtain ⟨⟨S_NONE, X_NONE, D_NONE⟩, ⟨S_BEGIN, X_BEGIN, D_BEGIN⟩, ⟨S_SUSPENDING_BEGIN, X_SUSPENDING_BEGIN, D_SUSPENDING_BEGIN⟩, ⟨S_COMMIT_AND_BEGIN, X_COMMIT_AND_BEGIN, D_COMMIT_AND_BEGIN⟩, ⟨S_IMPLICIT_COMMIT_AND_BEGIN, X_IMPLICIT_COMMIT_AND_BEGIN, D_IMPLICIT_COMMIT_AND_BEGIN⟩, ⟨S_ROLLBACK, X_ROLLBACK, D_ROLLBACK⟩, ⟨S_COMMIT, X_COMMIT, D_COMMIT⟩, ⟨S_PREPARE, X_PREPARE, D_PREPARE⟩, ⟨S_IMPLICIT_COMMIT, X_IMPLICIT_COMMIT, D_IMPLICIT_COMMIT⟩, ⟨S_ISOLATION_COMMIT, X_ISOLATION_COMMIT, D_ISOLATION_COMMIT⟩⟩ := en'
  refine g_aload_n C d2_0 (v := (.ref e_ISOLATION_COMMIT)) rfl rfl (pc' := 1) rfl ?_
  refine g_getstatic C (host := "") (v := (.ref e_BEGIN)) (Or.inl (own_w hw 13 rfl)) Via.refl (S_BEGIN.ext O.2) d2_1 (pc' := 4) rfl ?_
  refine g_acmp_n C d2_4 rfl rfl (Jvm.Free.XT.aa_eq_f (fun q => (Fld.ne D_ISOLATION_COMMIT D_BEGIN (by decide)) (Value.ref.inj q))) (pc' := 7) rfl ?_
  refine g_aload_n C d2_7 (v := (.ref e_ISOLATION_COMMIT)) rfl rfl (pc' := 8) rfl ?_
  refine g_getstatic C (host := "") (v := (.ref e_SUSPENDING_BEGIN)) (Or.inl (own_w hw 15 rfl)) Via.refl (S_SUSPENDING_BEGIN.ext O.2) d2_8 (pc' := 11) rfl ?_
  refine g_acmp_n C d2_11 rfl rfl (Jvm.Free.XT.aa_eq_f (fun q => (Fld.ne D_ISOLATION_COMMIT D_SUSPENDING_BEGIN (by decide)) (Value.ref.inj q))) (pc' := 14) rfl ?_
  refine g_aload_n C d2_14 (v := (.ref e_ISOLATION_COMMIT)) rfl rfl (pc' := 15) rfl ?_
  refine g_getstatic C (host := "") (v := (.ref e_COMMIT_AND_BEGIN)) (Or.inl (own_w hw 17 rfl)) Via.refl (S_COMMIT_AND_BEGIN.ext O.2) d2_15 (pc' := 18) rfl ?_
  refine g_acmp_n C d2_18 rfl rfl (Jvm.Free.XT.aa_eq_f (fun q => (Fld.ne D_ISOLATION_COMMIT D_COMMIT_AND_BEGIN (by decide)) (Value.ref.inj q))) (pc' := 21) rfl ?_
  refine g_aload_n C d2_21 (v := (.ref e_ISOLATION_COMMIT)) rfl rfl (pc' := 22) rfl ?_
  refine g_getstatic C (host := "") (v := (.ref e_IMPLICIT_COMMIT_AND_BEGIN)) (Or.inl (own_w hw 19 rfl)) Via.refl (S_IMPLICIT_COMMIT_AND_BEGIN.ext O.2) d2_22 (pc' := 25) rfl ?_
  refine g_acmp_y C d2_25 rfl rfl (Jvm.Free.XT.aa_ne_t (fun q => (Fld.ne D_ISOLATION_COMMIT D_IMPLICIT_COMMIT_AND_BEGIN (by decide)) (Value.ref.inj q))) (pc' := 32) (by decide) (by decide) ?_
  refine g_iconst C d2_32 (v := (0 : Int32)) rfl (pc' := 33) rfl ?_
  refine g_ret C (v := (.int (0 : Int32))) (ty := .boolean) rfl rfl (Or.inl ⟨rfl, Or.inr (Or.inl rfl), _, rfl⟩) d2_33 (by decide) (by decide) ?_
  exact ⟨rfl, rfl⟩
theorem d3_0 : decode prog_54_method_9_code 0 = .ok (.aload_n 0, 1) := by decide +kernel
theorem d3_1 : decode prog_54_method_9_code 1 = .ok (.getstatic 7, 3) := by decide +kernel
theorem d3_4 : decode prog_54_method_9_code 4 = .ok (.if_acmp .eq 10, 3) := by decide +kernel
theorem d3_7 : decode prog_54_method_9_code 7 = .ok (.aload_n 0, 1) := by decide +kernel
theorem d3_8 : decode prog_54_method_9_code 8 = .ok (.getstatic 10, 3) := by decide +kernel
theorem d3_11 : decode prog_54_method_9_code 11 = .ok (.if_acmp .ne 10, 3) := by decide +kernel
theorem d3_21 : decode prog_54_method_9_code 21 = .ok (.aload_n 0, 1) := by decide +kernel
theorem d3_22 : decode prog_54_method_9_code 22 = .ok (.getstatic 22, 3) := by decide +kernel
theorem d3_25 : decode prog_54_method_9_code 25 = .ok (.if_acmp .ne 10, 3) := by decide +kernel
theorem d3_35 : decode prog_54_method_9_code 35 = .ok (.aload_n 0, 1) := by decide +kernel
theorem d3_36 : decode prog_54_method_9_code 36 = .ok (.getstatic 28, 3) := by decide +kernel
theorem d3_39 : decode prog_54_method_9_code 39 = .ok (.if_acmp .ne 10, 3) := by decide +kernel
theorem d3_49 : decode prog_54_method_9_code 49 = .ok (.aload_n 0, 1) := by decide +kernel
theorem d3_50 : decode prog_54_method_9_code 50 = .ok (.astore_n 1, 1) := by decide +kernel
theorem d3_51 : decode prog_54_method_9_code 51 = .ok (.aload_n 1, 1) := by decide +kernel
theorem d3_52 : decode prog_54_method_9_code 52 = .ok (.areturn, 1) := by decide +kernel
set_option maxRecDepth 65536 in
set_option maxHeartbeats 40000000 in
theorem rm_withoutBegin_NONE (l : Launch) (Z : State) (a0 : Array Value) (hw : ∀ d ∈ tables_1, d.before a0 Z = true) (n0 : Nat) (e_NONE e_BEGIN e_SUSPENDING_BEGIN e_COMMIT_AND_BEGIN e_IMPLICIT_COMMIT_AND_BEGIN e_ROLLBACK e_COMMIT e_PREPARE e_IMPLICIT_COMMIT e_ISOLATION_COMMIT : Addr) (h0 : Heap) (Z0 : n0 ≤ h0.size) (en : Ens Z e_NONE e_BEGIN e_SUSPENDING_BEGIN e_COMMIT_AND_BEGIN e_IMPLICIT_COMMIT_AND_BEGIN e_ROLLBACK e_COMMIT e_PREPARE e_IMPLICIT_COMMIT e_ISOLATION_COMMIT) (O : Old Z n0 h0) :
    Met1 l Z (⟨"com/example/measured_savepoints/measuredsavepoints/SavepointSql$TransactionEnd", "withoutBegin", "()Lcom/example/measured_savepoints/measuredsavepoints/SavepointSql$TransactionEnd;"⟩ : MethodName) prog_54_method_9_code 2 (some (.object "com/example/measured_savepoints/measuredsavepoints/SavepointSql$TransactionEnd")) ({ frames := 0, cells := 0, slots := 0, locals := 0 } : Room) n0 #[(.ref e_NONE)] h0 (fun v h => v = some (.ref e_NONE) ∧ h0 = h) := by
  refine met_of (plainFor_of_name own_pn_com_example_measured_savepoints_measuredsavepoints_SavepointSql_TransactionEnd) (L0 := #[.val (.ref e_NONE), .unset]) (by first | rfl | (simp [argsToLocals, Value.category]; done)) ?_
  intro B C
  change Ctx B l _ _ "com/example/measured_savepoints/measuredsavepoints/SavepointSql$TransactionEnd" "withoutBegin" _ _ Z at C
  have en' := en
  obtain ⟨⟨S_NONE, X_NONE, D_NONE⟩, ⟨S_BEGIN, X_BEGIN, D_BEGIN⟩, ⟨S_SUSPENDING_BEGIN, X_SUSPENDING_BEGIN, D_SUSPENDING_BEGIN⟩, ⟨S_COMMIT_AND_BEGIN, X_COMMIT_AND_BEGIN, D_COMMIT_AND_BEGIN⟩, ⟨S_IMPLICIT_COMMIT_AND_BEGIN, X_IMPLICIT_COMMIT_AND_BEGIN, D_IMPLICIT_COMMIT_AND_BEGIN⟩, ⟨S_ROLLBACK, X_ROLLBACK, D_ROLLBACK⟩, ⟨S_COMMIT, X_COMMIT, D_COMMIT⟩, ⟨S_PREPARE, X_PREPARE, D_PREPARE⟩, ⟨S_IMPLICIT_COMMIT, X_IMPLICIT_COMMIT, D_IMPLICIT_COMMIT⟩, ⟨S_ISOLATION_COMMIT, X_ISOLATION_COMMIT, D_ISOLATION_COMMIT⟩⟩ := en'
  refine g_aload_n C d3_0 (v := (.ref e_NONE)) rfl rfl (pc' := 1) rfl ?_
  refine g_getstatic C (host := "") (v := (.ref e_BEGIN)) (Or.inl (own_w hw 13 rfl)) Via.refl (S_BEGIN.ext O.2) d3_1 (pc' := 4) rfl ?_
  refine g_acmp_n C d3_4 rfl rfl (Jvm.Free.XT.aa_eq_f (fun q => (Fld.ne D_NONE D_BEGIN (by decide)) (Value.ref.inj q))) (pc' := 7) rfl ?_
  refine g_aload_n C d3_7 (v := (.ref e_NONE)) rfl rfl (pc' := 8) rfl ?_
  refine g_getstatic C (host := "") (v := (.ref e_SUSPENDING_BEGIN)) (Or.inl (own_w hw 15 rfl)) Via.refl (S_SUSPENDING_BEGIN.ext O.2) d3_8 (pc' := 11) rfl ?_
  refine g_acmp_y C d3_11 rfl rfl (Jvm.Free.XT.aa_ne_t (fun q => (Fld.ne D_NONE D_SUSPENDING_BEGIN (by decide)) (Value.ref.inj q))) (pc' := 21) (by decide) (by decide) ?_
  refine g_aload_n C d3_21 (v := (.ref e_NONE)) rfl rfl (pc' := 22) rfl ?_
  refine g_getstatic C (host := "") (v := (.ref e_COMMIT_AND_BEGIN)) (Or.inl (own_w hw 17 rfl)) Via.refl (S_COMMIT_AND_BEGIN.ext O.2) d3_22 (pc' := 25) rfl ?_
  refine g_acmp_y C d3_25 rfl rfl (Jvm.Free.XT.aa_ne_t (fun q => (Fld.ne D_NONE D_COMMIT_AND_BEGIN (by decide)) (Value.ref.inj q))) (pc' := 35) (by decide) (by decide) ?_
  refine g_aload_n C d3_35 (v := (.ref e_NONE)) rfl rfl (pc' := 36) rfl ?_
  refine g_getstatic C (host := "") (v := (.ref e_IMPLICIT_COMMIT_AND_BEGIN)) (Or.inl (own_w hw 19 rfl)) Via.refl (S_IMPLICIT_COMMIT_AND_BEGIN.ext O.2) d3_36 (pc' := 39) rfl ?_
  refine g_acmp_y C d3_39 rfl rfl (Jvm.Free.XT.aa_ne_t (fun q => (Fld.ne D_NONE D_IMPLICIT_COMMIT_AND_BEGIN (by decide)) (Value.ref.inj q))) (pc' := 49) (by decide) (by decide) ?_
  refine g_aload_n C d3_49 (v := (.ref e_NONE)) rfl rfl (pc' := 50) rfl ?_
  refine g_astore_n C d3_50 (v := (.ref e_NONE)) (L' := #[.val (.ref e_NONE), .val (.ref e_NONE)]) rfl rfl (pc' := 51) rfl ?_
  refine g_aload_n C d3_51 (v := (.ref e_NONE)) rfl rfl (pc' := 52) rfl ?_
  refine g_ret C (v := (.ref e_NONE)) (ty := (.object "com/example/measured_savepoints/measuredsavepoints/SavepointSql$TransactionEnd")) rfl rfl (Or.inr (Or.inr (Or.inr (Or.inr ⟨rfl, rfl, rfl⟩)))) d3_52 (by decide) (by decide) ?_
  exact ⟨rfl, rfl⟩
theorem d3_14 : decode prog_54_method_9_code 14 = .ok (.getstatic 3, 3) := by decide +kernel
theorem d3_17 : decode prog_54_method_9_code 17 = .ok (.astore_n 1, 1) := by decide +kernel
theorem d3_18 : decode prog_54_method_9_code 18 = .ok (.goto 33, 3) := by decide +kernel
set_option maxRecDepth 65536 in
set_option maxHeartbeats 40000000 in
theorem rm_withoutBegin_BEGIN (l : Launch) (Z : State) (a0 : Array Value) (hw : ∀ d ∈ tables_1, d.before a0 Z = true) (n0 : Nat) (e_NONE e_BEGIN e_SUSPENDING_BEGIN e_COMMIT_AND_BEGIN e_IMPLICIT_COMMIT_AND_BEGIN e_ROLLBACK e_COMMIT e_PREPARE e_IMPLICIT_COMMIT e_ISOLATION_COMMIT : Addr) (h0 : Heap) (Z0 : n0 ≤ h0.size) (en : Ens Z e_NONE e_BEGIN e_SUSPENDING_BEGIN e_COMMIT_AND_BEGIN e_IMPLICIT_COMMIT_AND_BEGIN e_ROLLBACK e_COMMIT e_PREPARE e_IMPLICIT_COMMIT e_ISOLATION_COMMIT) (O : Old Z n0 h0) :
    Met1 l Z (⟨"com/example/measured_savepoints/measuredsavepoints/SavepointSql$TransactionEnd", "withoutBegin", "()Lcom/example/measured_savepoints/measuredsavepoints/SavepointSql$TransactionEnd;"⟩ : MethodName) prog_54_method_9_code 2 (some (.object "com/example/measured_savepoints/measuredsavepoints/SavepointSql$TransactionEnd")) ({ frames := 0, cells := 0, slots := 0, locals := 0 } : Room) n0 #[(.ref e_BEGIN)] h0 (fun v h => v = some (.ref e_NONE) ∧ h0 = h) := by
  refine met_of (plainFor_of_name own_pn_com_example_measured_savepoints_measuredsavepoints_SavepointSql_TransactionEnd) (L0 := #[.val (.ref e_BEGIN), .unset]) (by first | rfl | (simp [argsToLocals, Value.category]; done)) ?_
  intro B C
  change Ctx B l _ _ "com/example/measured_savepoints/measuredsavepoints/SavepointSql$TransactionEnd" "withoutBegin" _ _ Z at C
  have en' := en
  obtain ⟨⟨S_NONE, X_NONE, D_NONE⟩, ⟨S_BEGIN, X_BEGIN, D_BEGIN⟩, ⟨S_SUSPENDING_BEGIN, X_SUSPENDING_BEGIN, D_SUSPENDING_BEGIN⟩, ⟨S_COMMIT_AND_BEGIN, X_COMMIT_AND_BEGIN, D_COMMIT_AND_BEGIN⟩, ⟨S_IMPLICIT_COMMIT_AND_BEGIN, X_IMPLICIT_COMMIT_AND_BEGIN, D_IMPLICIT_COMMIT_AND_BEGIN⟩, ⟨S_ROLLBACK, X_ROLLBACK, D_ROLLBACK⟩, ⟨S_COMMIT, X_COMMIT, D_COMMIT⟩, ⟨S_PREPARE, X_PREPARE, D_PREPARE⟩, ⟨S_IMPLICIT_COMMIT, X_IMPLICIT_COMMIT, D_IMPLICIT_COMMIT⟩, ⟨S_ISOLATION_COMMIT, X_ISOLATION_COMMIT, D_ISOLATION_COMMIT⟩⟩ := en'
  refine g_aload_n C d3_0 (v := (.ref e_BEGIN)) rfl rfl (pc' := 1) rfl ?_
  refine g_getstatic C (host := "") (v := (.ref e_BEGIN)) (Or.inl (own_w hw 13 rfl)) Via.refl (S_BEGIN.ext O.2) d3_1 (pc' := 4) rfl ?_
  refine g_acmp_y C d3_4 rfl rfl (Jvm.Free.XT.aa_eq_t rfl) (pc' := 14) (by decide) (by decide) ?_
  refine g_getstatic C (host := "") (v := (.ref e_NONE)) (Or.inl (own_w hw 47 rfl)) Via.refl (S_NONE.ext O.2) d3_14 (pc' := 17) rfl ?_
  refine g_astore_n C d3_17 (v := (.ref e_NONE)) (L' := #[.val (.ref e_BEGIN), .val (.ref e_NONE)]) rfl rfl (pc' := 18) rfl ?_
  refine g_goto C d3_18 (pc' := 51) (by decide) (by decide) ?_
  refine g_aload_n C d3_51 (v := (.ref e_NONE)) rfl rfl (pc' := 52) rfl ?_
  refine g_ret C (v := (.ref e_NONE)) (ty := (.object "com/example/measured_savepoints/measuredsavepoints/SavepointSql$TransactionEnd")) rfl rfl (Or.inr (Or.inr (Or.inr (Or.inr ⟨rfl, rfl, rfl⟩)))) d3_52 (by decide) (by decide) ?_
  exact ⟨rfl, rfl⟩
set_option maxRecDepth 65536 in
set_option maxHeartbeats 40000000 in
theorem rm_withoutBegin_SUSPENDING_BEGIN (l : Launch) (Z : State) (a0 : Array Value) (hw : ∀ d ∈ tables_1, d.before a0 Z = true) (n0 : Nat) (e_NONE e_BEGIN e_SUSPENDING_BEGIN e_COMMIT_AND_BEGIN e_IMPLICIT_COMMIT_AND_BEGIN e_ROLLBACK e_COMMIT e_PREPARE e_IMPLICIT_COMMIT e_ISOLATION_COMMIT : Addr) (h0 : Heap) (Z0 : n0 ≤ h0.size) (en : Ens Z e_NONE e_BEGIN e_SUSPENDING_BEGIN e_COMMIT_AND_BEGIN e_IMPLICIT_COMMIT_AND_BEGIN e_ROLLBACK e_COMMIT e_PREPARE e_IMPLICIT_COMMIT e_ISOLATION_COMMIT) (O : Old Z n0 h0) :
    Met1 l Z (⟨"com/example/measured_savepoints/measuredsavepoints/SavepointSql$TransactionEnd", "withoutBegin", "()Lcom/example/measured_savepoints/measuredsavepoints/SavepointSql$TransactionEnd;"⟩ : MethodName) prog_54_method_9_code 2 (some (.object "com/example/measured_savepoints/measuredsavepoints/SavepointSql$TransactionEnd")) ({ frames := 0, cells := 0, slots := 0, locals := 0 } : Room) n0 #[(.ref e_SUSPENDING_BEGIN)] h0 (fun v h => v = some (.ref e_NONE) ∧ h0 = h) := by
  refine met_of (plainFor_of_name own_pn_com_example_measured_savepoints_measuredsavepoints_SavepointSql_TransactionEnd) (L0 := #[.val (.ref e_SUSPENDING_BEGIN), .unset]) (by first | rfl | (simp [argsToLocals, Value.category]; done)) ?_
  intro B C
  change Ctx B l _ _ "com/example/measured_savepoints/measuredsavepoints/SavepointSql$TransactionEnd" "withoutBegin" _ _ Z at C
  have en' := en
  obtain ⟨⟨S_NONE, X_NONE, D_NONE⟩, ⟨S_BEGIN, X_BEGIN, D_BEGIN⟩, ⟨S_SUSPENDING_BEGIN, X_SUSPENDING_BEGIN, D_SUSPENDING_BEGIN⟩, ⟨S_COMMIT_AND_BEGIN, X_COMMIT_AND_BEGIN, D_COMMIT_AND_BEGIN⟩, ⟨S_IMPLICIT_COMMIT_AND_BEGIN, X_IMPLICIT_COMMIT_AND_BEGIN, D_IMPLICIT_COMMIT_AND_BEGIN⟩, ⟨S_ROLLBACK, X_ROLLBACK, D_ROLLBACK⟩, ⟨S_COMMIT, X_COMMIT, D_COMMIT⟩, ⟨S_PREPARE, X_PREPARE, D_PREPARE⟩, ⟨S_IMPLICIT_COMMIT, X_IMPLICIT_COMMIT, D_IMPLICIT_COMMIT⟩, ⟨S_ISOLATION_COMMIT, X_ISOLATION_COMMIT, D_ISOLATION_COMMIT⟩⟩ := en'
  refine g_aload_n C d3_0 (v := (.ref e_SUSPENDING_BEGIN)) rfl rfl (pc' := 1) rfl ?_
  refine g_getstatic C (host := "") (v := (.ref e_BEGIN)) (Or.inl (own_w hw 13 rfl)) Via.refl (S_BEGIN.ext O.2) d3_1 (pc' := 4) rfl ?_
  refine g_acmp_n C d3_4 rfl rfl (Jvm.Free.XT.aa_eq_f (fun q => (Fld.ne D_SUSPENDING_BEGIN D_BEGIN (by decide)) (Value.ref.inj q))) (pc' := 7) rfl ?_
  refine g_aload_n C d3_7 (v := (.ref e_SUSPENDING_BEGIN)) rfl rfl (pc' := 8) rfl ?_
  refine g_getstatic C (host := "") (v := (.ref e_SUSPENDING_BEGIN)) (Or.inl (own_w hw 15 rfl)) Via.refl (S_SUSPENDING_BEGIN.ext O.2) d3_8 (pc' := 11) rfl ?_
  refine g_acmp_n C d3_11 rfl rfl (Jvm.Free.XT.aa_ne_f rfl) (pc' := 14) rfl ?_
  refine g_getstatic C (host := "") (v := (.ref e_NONE)) (Or.inl (own_w hw 47 rfl)) Via.refl (S_NONE.ext O.2) d3_14 (pc' := 17) rfl ?_
  refine g_astore_n C d3_17 (v := (.ref e_NONE)) (L' := #[.val (.ref e_SUSPENDING_BEGIN), .val (.ref e_NONE)]) rfl rfl (pc' := 18) rfl ?_
  refine g_goto C d3_18 (pc' := 51) (by decide) (by decide) ?_
  refine g_aload_n C d3_51 (v := (.ref e_NONE)) rfl rfl (pc' := 52) rfl ?_
  refine g_ret C (v := (.ref e_NONE)) (ty := (.object "com/example/measured_savepoints/measuredsavepoints/SavepointSql$TransactionEnd")) rfl rfl (Or.inr (Or.inr (Or.inr (Or.inr ⟨rfl, rfl, rfl⟩)))) d3_52 (by decide) (by decide) ?_
  exact ⟨rfl, rfl⟩
theorem d3_28 : decode prog_54_method_9_code 28 = .ok (.getstatic 16, 3) := by decide +kernel
theorem d3_31 : decode prog_54_method_9_code 31 = .ok (.astore_n 1, 1) := by decide +kernel
theorem d3_32 : decode prog_54_method_9_code 32 = .ok (.goto 19, 3) := by decide +kernel
set_option maxRecDepth 65536 in
set_option maxHeartbeats 40000000 in
theorem rm_withoutBegin_COMMIT_AND_BEGIN (l : Launch) (Z : State) (a0 : Array Value) (hw : ∀ d ∈ tables_1, d.before a0 Z = true) (n0 : Nat) (e_NONE e_BEGIN e_SUSPENDING_BEGIN e_COMMIT_AND_BEGIN e_IMPLICIT_COMMIT_AND_BEGIN e_ROLLBACK e_COMMIT e_PREPARE e_IMPLICIT_COMMIT e_ISOLATION_COMMIT : Addr) (h0 : Heap) (Z0 : n0 ≤ h0.size) (en : Ens Z e_NONE e_BEGIN e_SUSPENDING_BEGIN e_COMMIT_AND_BEGIN e_IMPLICIT_COMMIT_AND_BEGIN e_ROLLBACK e_COMMIT e_PREPARE e_IMPLICIT_COMMIT e_ISOLATION_COMMIT) (O : Old Z n0 h0) :
    Met1 l Z (⟨"com/example/measured_savepoints/measuredsavepoints/SavepointSql$TransactionEnd", "withoutBegin", "()Lcom/example/measured_savepoints/measuredsavepoints/SavepointSql$TransactionEnd;"⟩ : MethodName) prog_54_method_9_code 2 (some (.object "com/example/measured_savepoints/measuredsavepoints/SavepointSql$TransactionEnd")) ({ frames := 0, cells := 0, slots := 0, locals := 0 } : Room) n0 #[(.ref e_COMMIT_AND_BEGIN)] h0 (fun v h => v = some (.ref e_COMMIT) ∧ h0 = h) := by
  refine met_of (plainFor_of_name own_pn_com_example_measured_savepoints_measuredsavepoints_SavepointSql_TransactionEnd) (L0 := #[.val (.ref e_COMMIT_AND_BEGIN), .unset]) (by first | rfl | (simp [argsToLocals, Value.category]; done)) ?_
  intro B C
  change Ctx B l _ _ "com/example/measured_savepoints/measuredsavepoints/SavepointSql$TransactionEnd" "withoutBegin" _ _ Z at C
  have en' := en
  obtain ⟨⟨S_NONE, X_NONE, D_NONE⟩, ⟨S_BEGIN, X_BEGIN, D_BEGIN⟩, ⟨S_SUSPENDING_BEGIN, X_SUSPENDING_BEGIN, D_SUSPENDING_BEGIN⟩, ⟨S_COMMIT_AND_BEGIN, X_COMMIT_AND_BEGIN, D_COMMIT_AND_BEGIN⟩, ⟨S_IMPLICIT_COMMIT_AND_BEGIN, X_IMPLICIT_COMMIT_AND_BEGIN, D_IMPLICIT_COMMIT_AND_BEGIN⟩, ⟨S_ROLLBACK, X_ROLLBACK, D_ROLLBACK⟩, ⟨S_COMMIT, X_COMMIT, D_COMMIT⟩, ⟨S_PREPARE, X_PREPARE, D_PREPARE⟩, ⟨S_IMPLICIT_COMMIT, X_IMPLICIT_COMMIT, D_IMPLICIT_COMMIT⟩, ⟨S_ISOLATION_COMMIT, X_ISOLATION_COMMIT, D_ISOLATION_COMMIT⟩⟩ := en'
  refine g_aload_n C d3_0 (v := (.ref e_COMMIT_AND_BEGIN)) rfl rfl (pc' := 1) rfl ?_
  refine g_getstatic C (host := "") (v := (.ref e_BEGIN)) (Or.inl (own_w hw 13 rfl)) Via.refl (S_BEGIN.ext O.2) d3_1 (pc' := 4) rfl ?_
  refine g_acmp_n C d3_4 rfl rfl (Jvm.Free.XT.aa_eq_f (fun q => (Fld.ne D_COMMIT_AND_BEGIN D_BEGIN (by decide)) (Value.ref.inj q))) (pc' := 7) rfl ?_
  refine g_aload_n C d3_7 (v := (.ref e_COMMIT_AND_BEGIN)) rfl rfl (pc' := 8) rfl ?_
  refine g_getstatic C (host := "") (v := (.ref e_SUSPENDING_BEGIN)) (Or.inl (own_w hw 15 rfl)) Via.refl (S_SUSPENDING_BEGIN.ext O.2) d3_8 (pc' := 11) rfl ?_
  refine g_acmp_y C d3_11 rfl rfl (Jvm.Free.XT.aa_ne_t (fun q => (Fld.ne D_COMMIT_AND_BEGIN D_SUSPENDING_BEGIN (by decide)) (Value.ref.inj q))) (pc' := 21) (by decide) (by decide) ?_
  refine g_aload_n C d3_21 (v := (.ref e_COMMIT_AND_BEGIN)) rfl rfl (pc' := 22) rfl ?_
  refine g_getstatic C (host := "") (v := (.ref e_COMMIT_AND_BEGIN)) (Or.inl (own_w hw 17 rfl)) Via.refl (S_COMMIT_AND_BEGIN.ext O.2) d3_22 (pc' := 25) rfl ?_
  refine g_acmp_n C d3_25 rfl rfl (Jvm.Free.XT.aa_ne_f rfl) (pc' := 28) rfl ?_
  refine g_getstatic C (host := "") (v := (.ref e_COMMIT)) (Or.inl (own_w hw 34 rfl)) Via.refl (S_COMMIT.ext O.2) d3_28 (pc' := 31) rfl ?_
  refine g_astore_n C d3_31 (v := (.ref e_COMMIT)) (L' := #[.val (.ref e_COMMIT_AND_BEGIN), .val (.ref e_COMMIT)]) rfl rfl (pc' := 32) rfl ?_
  refine g_goto C d3_32 (pc' := 51) (by decide) (by decide) ?_
  refine g_aload_n C d3_51 (v := (.ref e_COMMIT)) rfl rfl (pc' := 52) rfl ?_
  refine g_ret C (v := (.ref e_COMMIT)) (ty := (.object "com/example/measured_savepoints/measuredsavepoints/SavepointSql$TransactionEnd")) rfl rfl (Or.inr (Or.inr (Or.inr (Or.inr ⟨rfl, rfl, rfl⟩)))) d3_52 (by decide) (by decide) ?_
  exact ⟨rfl, rfl⟩
theorem d3_42 : decode prog_54_method_9_code 42 = .ok (.getstatic 25, 3) := by decide +kernel
theorem d3_45 : decode prog_54_method_9_code 45 = .ok (.astore_n 1, 1) := by decide +kernel
theorem d3_46 : decode prog_54_method_9_code 46 = .ok (.goto 5, 3) := by decide +kernel
set_option maxRecDepth 65536 in
set_option maxHeartbeats 40000000 in
theorem rm_withoutBegin_IMPLICIT_COMMIT_AND_BEGIN (l : Launch) (Z : State) (a0 : Array Value) (hw : ∀ d ∈ tables_1, d.before a0 Z = true) (n0 : Nat) (e_NONE e_BEGIN e_SUSPENDING_BEGIN e_COMMIT_AND_BEGIN e_IMPLICIT_COMMIT_AND_BEGIN e_ROLLBACK e_COMMIT e_PREPARE e_IMPLICIT_COMMIT e_ISOLATION_COMMIT : Addr) (h0 : Heap) (Z0 : n0 ≤ h0.size) (en : Ens Z e_NONE e_BEGIN e_SUSPENDING_BEGIN e_COMMIT_AND_BEGIN e_IMPLICIT_COMMIT_AND_BEGIN e_ROLLBACK e_COMMIT e_PREPARE e_IMPLICIT_COMMIT e_ISOLATION_COMMIT) (O : Old Z n0 h0) :
    Met1 l Z (⟨"com/example/measured_savepoints/measuredsavepoints/SavepointSql$TransactionEnd", "withoutBegin", "()Lcom/example/measured_savepoints/measuredsavepoints/SavepointSql$TransactionEnd;"⟩ : MethodName) prog_54_method_9_code 2 (some (.object "com/example/measured_savepoints/measuredsavepoints/SavepointSql$TransactionEnd")) ({ frames := 0, cells := 0, slots := 0, locals := 0 } : Room) n0 #[(.ref e_IMPLICIT_COMMIT_AND_BEGIN)] h0 (fun v h => v = some (.ref e_IMPLICIT_COMMIT) ∧ h0 = h) := by
  refine met_of (plainFor_of_name own_pn_com_example_measured_savepoints_measuredsavepoints_SavepointSql_TransactionEnd) (L0 := #[.val (.ref e_IMPLICIT_COMMIT_AND_BEGIN), .unset]) (by first | rfl | (simp [argsToLocals, Value.category]; done)) ?_
  intro B C
  change Ctx B l _ _ "com/example/measured_savepoints/measuredsavepoints/SavepointSql$TransactionEnd" "withoutBegin" _ _ Z at C
  have en' := en
  obtain ⟨⟨S_NONE, X_NONE, D_NONE⟩, ⟨S_BEGIN, X_BEGIN, D_BEGIN⟩, ⟨S_SUSPENDING_BEGIN, X_SUSPENDING_BEGIN, D_SUSPENDING_BEGIN⟩, ⟨S_COMMIT_AND_BEGIN, X_COMMIT_AND_BEGIN, D_COMMIT_AND_BEGIN⟩, ⟨S_IMPLICIT_COMMIT_AND_BEGIN, X_IMPLICIT_COMMIT_AND_BEGIN, D_IMPLICIT_COMMIT_AND_BEGIN⟩, ⟨S_ROLLBACK, X_ROLLBACK, D_ROLLBACK⟩, ⟨S_COMMIT, X_COMMIT, D_COMMIT⟩, ⟨S_PREPARE, X_PREPARE, D_PREPARE⟩, ⟨S_IMPLICIT_COMMIT, X_IMPLICIT_COMMIT, D_IMPLICIT_COMMIT⟩, ⟨S_ISOLATION_COMMIT, X_ISOLATION_COMMIT, D_ISOLATION_COMMIT⟩⟩ := en'
  refine g_aload_n C d3_0 (v := (.ref e_IMPLICIT_COMMIT_AND_BEGIN)) rfl rfl (pc' := 1) rfl ?_
  refine g_getstatic C (host := "") (v := (.ref e_BEGIN)) (Or.inl (own_w hw 13 rfl)) Via.refl (S_BEGIN.ext O.2) d3_1 (pc' := 4) rfl ?_
  refine g_acmp_n C d3_4 rfl rfl (Jvm.Free.XT.aa_eq_f (fun q => (Fld.ne D_IMPLICIT_COMMIT_AND_BEGIN D_BEGIN (by decide)) (Value.ref.inj q))) (pc' := 7) rfl ?_
  refine g_aload_n C d3_7 (v := (.ref e_IMPLICIT_COMMIT_AND_BEGIN)) rfl rfl (pc' := 8) rfl ?_
  refine g_getstatic C (host := "") (v := (.ref e_SUSPENDING_BEGIN)) (Or.inl (own_w hw 15 rfl)) Via.refl (S_SUSPENDING_BEGIN.ext O.2) d3_8 (pc' := 11) rfl ?_
  refine g_acmp_y C d3_11 rfl rfl (Jvm.Free.XT.aa_ne_t (fun q => (Fld.ne D_IMPLICIT_COMMIT_AND_BEGIN D_SUSPENDING_BEGIN (by decide)) (Value.ref.inj q))) (pc' := 21) (by decide) (by decide) ?_
  refine g_aload_n C d3_21 (v := (.ref e_IMPLICIT_COMMIT_AND_BEGIN)) rfl rfl (pc' := 22) rfl ?_
  refine g_getstatic C (host := "") (v := (.ref e_COMMIT_AND_BEGIN)) (Or.inl (own_w hw 17 rfl)) Via.refl (S_COMMIT_AND_BEGIN.ext O.2) d3_22 (pc' := 25) rfl ?_
  refine g_acmp_y C d3_25 rfl rfl (Jvm.Free.XT.aa_ne_t (fun q => (Fld.ne D_IMPLICIT_COMMIT_AND_BEGIN D_COMMIT_AND_BEGIN (by decide)) (Value.ref.inj q))) (pc' := 35) (by decide) (by decide) ?_
  refine g_aload_n C d3_35 (v := (.ref e_IMPLICIT_COMMIT_AND_BEGIN)) rfl rfl (pc' := 36) rfl ?_
  refine g_getstatic C (host := "") (v := (.ref e_IMPLICIT_COMMIT_AND_BEGIN)) (Or.inl (own_w hw 19 rfl)) Via.refl (S_IMPLICIT_COMMIT_AND_BEGIN.ext O.2) d3_36 (pc' := 39) rfl ?_
  refine g_acmp_n C d3_39 rfl rfl (Jvm.Free.XT.aa_ne_f rfl) (pc' := 42) rfl ?_
  refine g_getstatic C (host := "") (v := (.ref e_IMPLICIT_COMMIT)) (Or.inl (own_w hw 43 rfl)) Via.refl (S_IMPLICIT_COMMIT.ext O.2) d3_42 (pc' := 45) rfl ?_
  refine g_astore_n C d3_45 (v := (.ref e_IMPLICIT_COMMIT)) (L' := #[.val (.ref e_IMPLICIT_COMMIT_AND_BEGIN), .val (.ref e_IMPLICIT_COMMIT)]) rfl rfl (pc' := 46) rfl ?_
  refine g_goto C d3_46 (pc' := 51) (by decide) (by decide) ?_
  refine g_aload_n C d3_51 (v := (.ref e_IMPLICIT_COMMIT)) rfl rfl (pc' := 52) rfl ?_
  refine g_ret C (v := (.ref e_IMPLICIT_COMMIT)) (ty := (.object "com/example/measured_savepoints/measuredsavepoints/SavepointSql$TransactionEnd")) rfl rfl (Or.inr (Or.inr (Or.inr (Or.inr ⟨rfl, rfl, rfl⟩)))) d3_52 (by decide) (by decide) ?_
  exact ⟨rfl, rfl⟩
set_option maxRecDepth 65536 in
set_option maxHeartbeats 40000000 in
theorem rm_withoutBegin_ROLLBACK (l : Launch) (Z : State) (a0 : Array Value) (hw : ∀ d ∈ tables_1, d.before a0 Z = true) (n0 : Nat) (e_NONE e_BEGIN e_SUSPENDING_BEGIN e_COMMIT_AND_BEGIN e_IMPLICIT_COMMIT_AND_BEGIN e_ROLLBACK e_COMMIT e_PREPARE e_IMPLICIT_COMMIT e_ISOLATION_COMMIT : Addr) (h0 : Heap) (Z0 : n0 ≤ h0.size) (en : Ens Z e_NONE e_BEGIN e_SUSPENDING_BEGIN e_COMMIT_AND_BEGIN e_IMPLICIT_COMMIT_AND_BEGIN e_ROLLBACK e_COMMIT e_PREPARE e_IMPLICIT_COMMIT e_ISOLATION_COMMIT) (O : Old Z n0 h0) :
    Met1 l Z (⟨"com/example/measured_savepoints/measuredsavepoints/SavepointSql$TransactionEnd", "withoutBegin", "()Lcom/example/measured_savepoints/measuredsavepoints/SavepointSql$TransactionEnd;"⟩ : MethodName) prog_54_method_9_code 2 (some (.object "com/example/measured_savepoints/measuredsavepoints/SavepointSql$TransactionEnd")) ({ frames := 0, cells := 0, slots := 0, locals := 0 } : Room) n0 #[(.ref e_ROLLBACK)] h0 (fun v h => v = some (.ref e_ROLLBACK) ∧ h0 = h) := by
  refine met_of (plainFor_of_name own_pn_com_example_measured_savepoints_measuredsavepoints_SavepointSql_TransactionEnd) (L0 := #[.val (.ref e_ROLLBACK), .unset]) (by first | rfl | (simp [argsToLocals, Value.category]; done)) ?_
  intro B C
  change Ctx B l _ _ "com/example/measured_savepoints/measuredsavepoints/SavepointSql$TransactionEnd" "withoutBegin" _ _ Z at C
  have en' := en
  obtain ⟨⟨S_NONE, X_NONE, D_NONE⟩, ⟨S_BEGIN, X_BEGIN, D_BEGIN⟩, ⟨S_SUSPENDING_BEGIN, X_SUSPENDING_BEGIN, D_SUSPENDING_BEGIN⟩, ⟨S_COMMIT_AND_BEGIN, X_COMMIT_AND_BEGIN, D_COMMIT_AND_BEGIN⟩, ⟨S_IMPLICIT_COMMIT_AND_BEGIN, X_IMPLICIT_COMMIT_AND_BEGIN, D_IMPLICIT_COMMIT_AND_BEGIN⟩, ⟨S_ROLLBACK, X_ROLLBACK, D_ROLLBACK⟩, ⟨S_COMMIT, X_COMMIT, D_COMMIT⟩, ⟨S_PREPARE, X_PREPARE, D_PREPARE⟩, ⟨S_IMPLICIT_COMMIT, X_IMPLICIT_COMMIT, D_IMPLICIT_COMMIT⟩, ⟨S_ISOLATION_COMMIT, X_ISOLATION_COMMIT, D_ISOLATION_COMMIT⟩⟩ := en'
  refine g_aload_n C d3_0 (v := (.ref e_ROLLBACK)) rfl rfl (pc' := 1) rfl ?_
  refine g_getstatic C (host := "") (v := (.ref e_BEGIN)) (Or.inl (own_w hw 13 rfl)) Via.refl (S_BEGIN.ext O.2) d3_1 (pc' := 4) rfl ?_
  refine g_acmp_n C d3_4 rfl rfl (Jvm.Free.XT.aa_eq_f (fun q => (Fld.ne D_ROLLBACK D_BEGIN (by decide)) (Value.ref.inj q))) (pc' := 7) rfl ?_
  refine g_aload_n C d3_7 (v := (.ref e_ROLLBACK)) rfl rfl (pc' := 8) rfl ?_
  refine g_getstatic C (host := "") (v := (.ref e_SUSPENDING_BEGIN)) (Or.inl (own_w hw 15 rfl)) Via.refl (S_SUSPENDING_BEGIN.ext O.2) d3_8 (pc' := 11) rfl ?_
  refine g_acmp_y C d3_11 rfl rfl (Jvm.Free.XT.aa_ne_t (fun q => (Fld.ne D_ROLLBACK D_SUSPENDING_BEGIN (by decide)) (Value.ref.inj q))) (pc' := 21) (by decide) (by decide) ?_
  refine g_aload_n C d3_21 (v := (.ref e_ROLLBACK)) rfl rfl (pc' := 22) rfl ?_
  refine g_getstatic C (host := "") (v := (.ref e_COMMIT_AND_BEGIN)) (Or.inl (own_w hw 17 rfl)) Via.refl (S_COMMIT_AND_BEGIN.ext O.2) d3_22 (pc' := 25) rfl ?_
  refine g_acmp_y C d3_25 rfl rfl (Jvm.Free.XT.aa_ne_t (fun q => (Fld.ne D_ROLLBACK D_COMMIT_AND_BEGIN (by decide)) (Value.ref.inj q))) (pc' := 35) (by decide) (by decide) ?_
  refine g_aload_n C d3_35 (v := (.ref e_ROLLBACK)) rfl rfl (pc' := 36) rfl ?_
  refine g_getstatic C (host := "") (v := (.ref e_IMPLICIT_COMMIT_AND_BEGIN)) (Or.inl (own_w hw 19 rfl)) Via.refl (S_IMPLICIT_COMMIT_AND_BEGIN.ext O.2) d3_36 (pc' := 39) rfl ?_
  refine g_acmp_y C d3_39 rfl rfl (Jvm.Free.XT.aa_ne_t (fun q => (Fld.ne D_ROLLBACK D_IMPLICIT_COMMIT_AND_BEGIN (by decide)) (Value.ref.inj q))) (pc' := 49) (by decide) (by decide) ?_
  refine g_aload_n C d3_49 (v := (.ref e_ROLLBACK)) rfl rfl (pc' := 50) rfl ?_
  refine g_astore_n C d3_50 (v := (.ref e_ROLLBACK)) (L' := #[.val (.ref e_ROLLBACK), .val (.ref e_ROLLBACK)]) rfl rfl (pc' := 51) rfl ?_
  refine g_aload_n C d3_51 (v := (.ref e_ROLLBACK)) rfl rfl (pc' := 52) rfl ?_
  refine g_ret C (v := (.ref e_ROLLBACK)) (ty := (.object "com/example/measured_savepoints/measuredsavepoints/SavepointSql$TransactionEnd")) rfl rfl (Or.inr (Or.inr (Or.inr (Or.inr ⟨rfl, rfl, rfl⟩)))) d3_52 (by decide) (by decide) ?_
  exact ⟨rfl, rfl⟩
set_option maxRecDepth 65536 in
set_option maxHeartbeats 40000000 in
theorem rm_withoutBegin_COMMIT (l : Launch) (Z : State) (a0 : Array Value) (hw : ∀ d ∈ tables_1, d.before a0 Z = true) (n0 : Nat) (e_NONE e_BEGIN e_SUSPENDING_BEGIN e_COMMIT_AND_BEGIN e_IMPLICIT_COMMIT_AND_BEGIN e_ROLLBACK e_COMMIT e_PREPARE e_IMPLICIT_COMMIT e_ISOLATION_COMMIT : Addr) (h0 : Heap) (Z0 : n0 ≤ h0.size) (en : Ens Z e_NONE e_BEGIN e_SUSPENDING_BEGIN e_COMMIT_AND_BEGIN e_IMPLICIT_COMMIT_AND_BEGIN e_ROLLBACK e_COMMIT e_PREPARE e_IMPLICIT_COMMIT e_ISOLATION_COMMIT) (O : Old Z n0 h0) :
    Met1 l Z (⟨"com/example/measured_savepoints/measuredsavepoints/SavepointSql$TransactionEnd", "withoutBegin", "()Lcom/example/measured_savepoints/measuredsavepoints/SavepointSql$TransactionEnd;"⟩ : MethodName) prog_54_method_9_code 2 (some (.object "com/example/measured_savepoints/measuredsavepoints/SavepointSql$TransactionEnd")) ({ frames := 0, cells := 0, slots := 0, locals := 0 } : Room) n0 #[(.ref e_COMMIT)] h0 (fun v h => v = some (.ref e_COMMIT) ∧ h0 = h) := by
  refine met_of (plainFor_of_name own_pn_com_example_measured_savepoints_measuredsavepoints_SavepointSql_TransactionEnd) (L0 := #[.val (.ref e_COMMIT), .unset]) (by first | rfl | (simp [argsToLocals, Value.category]; done)) ?_
  intro B C
  change Ctx B l _ _ "com/example/measured_savepoints/measuredsavepoints/SavepointSql$TransactionEnd" "withoutBegin" _ _ Z at C
  have en' := en
  obtain ⟨⟨S_NONE, X_NONE, D_NONE⟩, ⟨S_BEGIN, X_BEGIN, D_BEGIN⟩, ⟨S_SUSPENDING_BEGIN, X_SUSPENDING_BEGIN, D_SUSPENDING_BEGIN⟩, ⟨S_COMMIT_AND_BEGIN, X_COMMIT_AND_BEGIN, D_COMMIT_AND_BEGIN⟩, ⟨S_IMPLICIT_COMMIT_AND_BEGIN, X_IMPLICIT_COMMIT_AND_BEGIN, D_IMPLICIT_COMMIT_AND_BEGIN⟩, ⟨S_ROLLBACK, X_ROLLBACK, D_ROLLBACK⟩, ⟨S_COMMIT, X_COMMIT, D_COMMIT⟩, ⟨S_PREPARE, X_PREPARE, D_PREPARE⟩, ⟨S_IMPLICIT_COMMIT, X_IMPLICIT_COMMIT, D_IMPLICIT_COMMIT⟩, ⟨S_ISOLATION_COMMIT, X_ISOLATION_COMMIT, D_ISOLATION_COMMIT⟩⟩ := en'
  refine g_aload_n C d3_0 (v := (.ref e_COMMIT)) rfl rfl (pc' := 1) rfl ?_
  refine g_getstatic C (host := "") (v := (.ref e_BEGIN)) (Or.inl (own_w hw 13 rfl)) Via.refl (S_BEGIN.ext O.2) d3_1 (pc' := 4) rfl ?_
  refine g_acmp_n C d3_4 rfl rfl (Jvm.Free.XT.aa_eq_f (fun q => (Fld.ne D_COMMIT D_BEGIN (by decide)) (Value.ref.inj q))) (pc' := 7) rfl ?_
  refine g_aload_n C d3_7 (v := (.ref e_COMMIT)) rfl rfl (pc' := 8) rfl ?_
  refine g_getstatic C (host := "") (v := (.ref e_SUSPENDING_BEGIN)) (Or.inl (own_w hw 15 rfl)) Via.refl (S_SUSPENDING_BEGIN.ext O.2) d3_8 (pc' := 11) rfl ?_
  refine g_acmp_y C d3_11 rfl rfl (Jvm.Free.XT.aa_ne_t (fun q => (Fld.ne D_COMMIT D_SUSPENDING_BEGIN (by decide)) (Value.ref.inj q))) (pc' := 21) (by decide) (by decide) ?_
  refine g_aload_n C d3_21 (v := (.ref e_COMMIT)) rfl rfl (pc' := 22) rfl ?_
  refine g_getstatic C (host := "") (v := (.ref e_COMMIT_AND_BEGIN)) (Or.inl (own_w hw 17 rfl)) Via.refl (S_COMMIT_AND_BEGIN.ext O.2) d3_22 (pc' := 25) rfl ?_
  refine g_acmp_y C d3_25 rfl rfl (Jvm.Free.XT.aa_ne_t (fun q => (Fld.ne D_COMMIT D_COMMIT_AND_BEGIN (by decide)) (Value.ref.inj q))) (pc' := 35) (by decide) (by decide) ?_
  refine g_aload_n C d3_35 (v := (.ref e_COMMIT)) rfl rfl (pc' := 36) rfl ?_
  refine g_getstatic C (host := "") (v := (.ref e_IMPLICIT_COMMIT_AND_BEGIN)) (Or.inl (own_w hw 19 rfl)) Via.refl (S_IMPLICIT_COMMIT_AND_BEGIN.ext O.2) d3_36 (pc' := 39) rfl ?_
  refine g_acmp_y C d3_39 rfl rfl (Jvm.Free.XT.aa_ne_t (fun q => (Fld.ne D_COMMIT D_IMPLICIT_COMMIT_AND_BEGIN (by decide)) (Value.ref.inj q))) (pc' := 49) (by decide) (by decide) ?_
  refine g_aload_n C d3_49 (v := (.ref e_COMMIT)) rfl rfl (pc' := 50) rfl ?_
  refine g_astore_n C d3_50 (v := (.ref e_COMMIT)) (L' := #[.val (.ref e_COMMIT), .val (.ref e_COMMIT)]) rfl rfl (pc' := 51) rfl ?_
  refine g_aload_n C d3_51 (v := (.ref e_COMMIT)) rfl rfl (pc' := 52) rfl ?_
  refine g_ret C (v := (.ref e_COMMIT)) (ty := (.object "com/example/measured_savepoints/measuredsavepoints/SavepointSql$TransactionEnd")) rfl rfl (Or.inr (Or.inr (Or.inr (Or.inr ⟨rfl, rfl, rfl⟩)))) d3_52 (by decide) (by decide) ?_
  exact ⟨rfl, rfl⟩
set_option maxRecDepth 65536 in
set_option maxHeartbeats 40000000 in
theorem rm_withoutBegin_PREPARE (l : Launch) (Z : State) (a0 : Array Value) (hw : ∀ d ∈ tables_1, d.before a0 Z = true) (n0 : Nat) (e_NONE e_BEGIN e_SUSPENDING_BEGIN e_COMMIT_AND_BEGIN e_IMPLICIT_COMMIT_AND_BEGIN e_ROLLBACK e_COMMIT e_PREPARE e_IMPLICIT_COMMIT e_ISOLATION_COMMIT : Addr) (h0 : Heap) (Z0 : n0 ≤ h0.size) (en : Ens Z e_NONE e_BEGIN e_SUSPENDING_BEGIN e_COMMIT_AND_BEGIN e_IMPLICIT_COMMIT_AND_BEGIN e_ROLLBACK e_COMMIT e_PREPARE e_IMPLICIT_COMMIT e_ISOLATION_COMMIT) (O : Old Z n0 h0) :
    Met1 l Z (⟨"com/example/measured_savepoints/measuredsavepoints/SavepointSql$TransactionEnd", "withoutBegin", "()Lcom/example/measured_savepoints/measuredsavepoints/SavepointSql$TransactionEnd;"⟩ : MethodName) prog_54_method_9_code 2 (some (.object "com/example/measured_savepoints/measuredsavepoints/SavepointSql$TransactionEnd")) ({ frames := 0, cells := 0, slots := 0, locals := 0 } : Room) n0 #[(.ref e_PREPARE)] h0 (fun v h => v = some (.ref e_PREPARE) ∧ h0 = h) := by
  refine met_of (plainFor_of_name own_pn_com_example_measured_savepoints_measuredsavepoints_SavepointSql_TransactionEnd) (L0 := #[.val (.ref e_PREPARE), .unset]) (by first | rfl | (simp [argsToLocals, Value.category]; done)) ?_
  intro B C
  change Ctx B l _ _ "com/example/measured_savepoints/measuredsavepoints/SavepointSql$TransactionEnd" "withoutBegin" _ _ Z at C
  have en' := en
  obtain ⟨⟨S_NONE, X_NONE, D_NONE⟩, ⟨S_BEGIN, X_BEGIN, D_BEGIN⟩, ⟨S_SUSPENDING_BEGIN, X_SUSPENDING_BEGIN, D_SUSPENDING_BEGIN⟩, ⟨S_COMMIT_AND_BEGIN, X_COMMIT_AND_BEGIN, D_COMMIT_AND_BEGIN⟩, ⟨S_IMPLICIT_COMMIT_AND_BEGIN, X_IMPLICIT_COMMIT_AND_BEGIN, D_IMPLICIT_COMMIT_AND_BEGIN⟩, ⟨S_ROLLBACK, X_ROLLBACK, D_ROLLBACK⟩, ⟨S_COMMIT, X_COMMIT, D_COMMIT⟩, ⟨S_PREPARE, X_PREPARE, D_PREPARE⟩, ⟨S_IMPLICIT_COMMIT, X_IMPLICIT_COMMIT, D_IMPLICIT_COMMIT⟩, ⟨S_ISOLATION_COMMIT, X_ISOLATION_COMMIT, D_ISOLATION_COMMIT⟩⟩ := en'
  refine g_aload_n C d3_0 (v := (.ref e_PREPARE)) rfl rfl (pc' := 1) rfl ?_
  refine g_getstatic C (host := "") (v := (.ref e_BEGIN)) (Or.inl (own_w hw 13 rfl)) Via.refl (S_BEGIN.ext O.2) d3_1 (pc' := 4) rfl ?_
  refine g_acmp_n C d3_4 rfl rfl (Jvm.Free.XT.aa_eq_f (fun q => (Fld.ne D_PREPARE D_BEGIN (by decide)) (Value.ref.inj q))) (pc' := 7) rfl ?_
  refine g_aload_n C d3_7 (v := (.ref e_PREPARE)) rfl rfl (pc' := 8) rfl ?_
  refine g_getstatic C (host := "") (v := (.ref e_SUSPENDING_BEGIN)) (Or.inl (own_w hw 15 rfl)) Via.refl (S_SUSPENDING_BEGIN.ext O.2) d3_8 (pc' := 11) rfl ?_
  refine g_acmp_y C d3_11 rfl rfl (Jvm.Free.XT.aa_ne_t (fun q => (Fld.ne D_PREPARE D_SUSPENDING_BEGIN (by decide)) (Value.ref.inj q))) (pc' := 21) (by decide) (by decide) ?_
  refine g_aload_n C d3_21 (v := (.ref e_PREPARE)) rfl rfl (pc' := 22) rfl ?_
  refine g_getstatic C (host := "") (v := (.ref e_COMMIT_AND_BEGIN)) (Or.inl (own_w hw 17 rfl)) Via.refl (S_COMMIT_AND_BEGIN.ext O.2) d3_22 (pc' := 25) rfl ?_
  refine g_acmp_y C d3_25 rfl rfl (Jvm.Free.XT.aa_ne_t (fun q => (Fld.ne D_PREPARE D_COMMIT_AND_BEGIN (by decide)) (Value.ref.inj q))) (pc' := 35) (by decide) (by decide) ?_
  refine g_aload_n C d3_35 (v := (.ref e_PREPARE)) rfl rfl (pc' := 36) rfl ?_
  refine g_getstatic C (host := "") (v := (.ref e_IMPLICIT_COMMIT_AND_BEGIN)) (Or.inl (own_w hw 19 rfl)) Via.refl (S_IMPLICIT_COMMIT_AND_BEGIN.ext O.2) d3_36 (pc' := 39) rfl ?_
  refine g_acmp_y C d3_39 rfl rfl (Jvm.Free.XT.aa_ne_t (fun q => (Fld.ne D_PREPARE D_IMPLICIT_COMMIT_AND_BEGIN (by decide)) (Value.ref.inj q))) (pc' := 49) (by decide) (by decide) ?_
  refine g_aload_n C d3_49 (v := (.ref e_PREPARE)) rfl rfl (pc' := 50) rfl ?_
  refine g_astore_n C d3_50 (v := (.ref e_PREPARE)) (L' := #[.val (.ref e_PREPARE), .val (.ref e_PREPARE)]) rfl rfl (pc' := 51) rfl ?_
  refine g_aload_n C d3_51 (v := (.ref e_PREPARE)) rfl rfl (pc' := 52) rfl ?_
  refine g_ret C (v := (.ref e_PREPARE)) (ty := (.object "com/example/measured_savepoints/measuredsavepoints/SavepointSql$TransactionEnd")) rfl rfl (Or.inr (Or.inr (Or.inr (Or.inr ⟨rfl, rfl, rfl⟩)))) d3_52 (by decide) (by decide) ?_
  exact ⟨rfl, rfl⟩
set_option maxRecDepth 65536 in
set_option maxHeartbeats 40000000 in
theorem rm_withoutBegin_IMPLICIT_COMMIT (l : Launch) (Z : State) (a0 : Array Value) (hw : ∀ d ∈ tables_1, d.before a0 Z = true) (n0 : Nat) (e_NONE e_BEGIN e_SUSPENDING_BEGIN e_COMMIT_AND_BEGIN e_IMPLICIT_COMMIT_AND_BEGIN e_ROLLBACK e_COMMIT e_PREPARE e_IMPLICIT_COMMIT e_ISOLATION_COMMIT : Addr) (h0 : Heap) (Z0 : n0 ≤ h0.size) (en : Ens Z e_NONE e_BEGIN e_SUSPENDING_BEGIN e_COMMIT_AND_BEGIN e_IMPLICIT_COMMIT_AND_BEGIN e_ROLLBACK e_COMMIT e_PREPARE e_IMPLICIT_COMMIT e_ISOLATION_COMMIT) (O : Old Z n0 h0) :
    Met1 l Z (⟨"com/example/measured_savepoints/measuredsavepoints/SavepointSql$TransactionEnd", "withoutBegin", "()Lcom/example/measured_savepoints/measuredsavepoints/SavepointSql$TransactionEnd;"⟩ : MethodName) prog_54_method_9_code 2 (some (.object "com/example/measured_savepoints/measuredsavepoints/SavepointSql$TransactionEnd")) ({ frames := 0, cells := 0, slots := 0, locals := 0 } : Room) n0 #[(.ref e_IMPLICIT_COMMIT)] h0 (fun v h => v = some (.ref e_IMPLICIT_COMMIT) ∧ h0 = h) := by
  refine met_of (plainFor_of_name own_pn_com_example_measured_savepoints_measuredsavepoints_SavepointSql_TransactionEnd) (L0 := #[.val (.ref e_IMPLICIT_COMMIT), .unset]) (by first | rfl | (simp [argsToLocals, Value.category]; done)) ?_
  intro B C
  change Ctx B l _ _ "com/example/measured_savepoints/measuredsavepoints/SavepointSql$TransactionEnd" "withoutBegin" _ _ Z at C
  have en' := en
  obtain ⟨⟨S_NONE, X_NONE, D_NONE⟩, ⟨S_BEGIN, X_BEGIN, D_BEGIN⟩, ⟨S_SUSPENDING_BEGIN, X_SUSPENDING_BEGIN, D_SUSPENDING_BEGIN⟩, ⟨S_COMMIT_AND_BEGIN, X_COMMIT_AND_BEGIN, D_COMMIT_AND_BEGIN⟩, ⟨S_IMPLICIT_COMMIT_AND_BEGIN, X_IMPLICIT_COMMIT_AND_BEGIN, D_IMPLICIT_COMMIT_AND_BEGIN⟩, ⟨S_ROLLBACK, X_ROLLBACK, D_ROLLBACK⟩, ⟨S_COMMIT, X_COMMIT, D_COMMIT⟩, ⟨S_PREPARE, X_PREPARE, D_PREPARE⟩, ⟨S_IMPLICIT_COMMIT, X_IMPLICIT_COMMIT, D_IMPLICIT_COMMIT⟩, ⟨S_ISOLATION_COMMIT, X_ISOLATION_COMMIT, D_ISOLATION_COMMIT⟩⟩ := en'
  refine g_aload_n C d3_0 (v := (.ref e_IMPLICIT_COMMIT)) rfl rfl (pc' := 1) rfl ?_
  refine g_getstatic C (host := "") (v := (.ref e_BEGIN)) (Or.inl (own_w hw 13 rfl)) Via.refl (S_BEGIN.ext O.2) d3_1 (pc' := 4) rfl ?_
  refine g_acmp_n C d3_4 rfl rfl (Jvm.Free.XT.aa_eq_f (fun q => (Fld.ne D_IMPLICIT_COMMIT D_BEGIN (by decide)) (Value.ref.inj q))) (pc' := 7) rfl ?_
  refine g_aload_n C d3_7 (v := (.ref e_IMPLICIT_COMMIT)) rfl rfl (pc' := 8) rfl ?_
  refine g_getstatic C (host := "") (v := (.ref e_SUSPENDING_BEGIN)) (Or.inl (own_w hw 15 rfl)) Via.refl (S_SUSPENDING_BEGIN.ext O.2) d3_8 (pc' := 11) rfl ?_
  refine g_acmp_y C d3_11 rfl rfl (Jvm.Free.XT.aa_ne_t (fun q => (Fld.ne D_IMPLICIT_COMMIT D_SUSPENDING_BEGIN (by decide)) (Value.ref.inj q))) (pc' := 21) (by decide) (by decide) ?_
  refine g_aload_n C d3_21 (v := (.ref e_IMPLICIT_COMMIT)) rfl rfl (pc' := 22) rfl ?_
  refine g_getstatic C (host := "") (v := (.ref e_COMMIT_AND_BEGIN)) (Or.inl (own_w hw 17 rfl)) Via.refl (S_COMMIT_AND_BEGIN.ext O.2) d3_22 (pc' := 25) rfl ?_
  refine g_acmp_y C d3_25 rfl rfl (Jvm.Free.XT.aa_ne_t (fun q => (Fld.ne D_IMPLICIT_COMMIT D_COMMIT_AND_BEGIN (by decide)) (Value.ref.inj q))) (pc' := 35) (by decide) (by decide) ?_
  refine g_aload_n C d3_35 (v := (.ref e_IMPLICIT_COMMIT)) rfl rfl (pc' := 36) rfl ?_
  refine g_getstatic C (host := "") (v := (.ref e_IMPLICIT_COMMIT_AND_BEGIN)) (Or.inl (own_w hw 19 rfl)) Via.refl (S_IMPLICIT_COMMIT_AND_BEGIN.ext O.2) d3_36 (pc' := 39) rfl ?_
  refine g_acmp_y C d3_39 rfl rfl (Jvm.Free.XT.aa_ne_t (fun q => (Fld.ne D_IMPLICIT_COMMIT D_IMPLICIT_COMMIT_AND_BEGIN (by decide)) (Value.ref.inj q))) (pc' := 49) (by decide) (by decide) ?_
  refine g_aload_n C d3_49 (v := (.ref e_IMPLICIT_COMMIT)) rfl rfl (pc' := 50) rfl ?_
  refine g_astore_n C d3_50 (v := (.ref e_IMPLICIT_COMMIT)) (L' := #[.val (.ref e_IMPLICIT_COMMIT), .val (.ref e_IMPLICIT_COMMIT)]) rfl rfl (pc' := 51) rfl ?_
  refine g_aload_n C d3_51 (v := (.ref e_IMPLICIT_COMMIT)) rfl rfl (pc' := 52) rfl ?_
  refine g_ret C (v := (.ref e_IMPLICIT_COMMIT)) (ty := (.object "com/example/measured_savepoints/measuredsavepoints/SavepointSql$TransactionEnd")) rfl rfl (Or.inr (Or.inr (Or.inr (Or.inr ⟨rfl, rfl, rfl⟩)))) d3_52 (by decide) (by decide) ?_
  exact ⟨rfl, rfl⟩
set_option maxRecDepth 65536 in
set_option maxHeartbeats 40000000 in
theorem rm_withoutBegin_ISOLATION_COMMIT (l : Launch) (Z : State) (a0 : Array Value) (hw : ∀ d ∈ tables_1, d.before a0 Z = true) (n0 : Nat) (e_NONE e_BEGIN e_SUSPENDING_BEGIN e_COMMIT_AND_BEGIN e_IMPLICIT_COMMIT_AND_BEGIN e_ROLLBACK e_COMMIT e_PREPARE e_IMPLICIT_COMMIT e_ISOLATION_COMMIT : Addr) (h0 : Heap) (Z0 : n0 ≤ h0.size) (en : Ens Z e_NONE e_BEGIN e_SUSPENDING_BEGIN e_COMMIT_AND_BEGIN e_IMPLICIT_COMMIT_AND_BEGIN e_ROLLBACK e_COMMIT e_PREPARE e_IMPLICIT_COMMIT e_ISOLATION_COMMIT) (O : Old Z n0 h0) :
    Met1 l Z (⟨"com/example/measured_savepoints/measuredsavepoints/SavepointSql$TransactionEnd", "withoutBegin", "()Lcom/example/measured_savepoints/measuredsavepoints/SavepointSql$TransactionEnd;"⟩ : MethodName) prog_54_method_9_code 2 (some (.object "com/example/measured_savepoints/measuredsavepoints/SavepointSql$TransactionEnd")) ({ frames := 0, cells := 0, slots := 0, locals := 0 } : Room) n0 #[(.ref e_ISOLATION_COMMIT)] h0 (fun v h => v = some (.ref e_ISOLATION_COMMIT) ∧ h0 = h) := by
  refine met_of (plainFor_of_name own_pn_com_example_measured_savepoints_measuredsavepoints_SavepointSql_TransactionEnd) (L0 := #[.val (.ref e_ISOLATION_COMMIT), .unset]) (by first | rfl | (simp [argsToLocals, Value.category]; done)) ?_
  intro B C
  change Ctx B l _ _ "com/example/measured_savepoints/measuredsavepoints/SavepointSql$TransactionEnd" "withoutBegin" _ _ Z at C
  have en' := en
  obtain ⟨⟨S_NONE, X_NONE, D_NONE⟩, ⟨S_BEGIN, X_BEGIN, D_BEGIN⟩, ⟨S_SUSPENDING_BEGIN, X_SUSPENDING_BEGIN, D_SUSPENDING_BEGIN⟩, ⟨S_COMMIT_AND_BEGIN, X_COMMIT_AND_BEGIN, D_COMMIT_AND_BEGIN⟩, ⟨S_IMPLICIT_COMMIT_AND_BEGIN, X_IMPLICIT_COMMIT_AND_BEGIN, D_IMPLICIT_COMMIT_AND_BEGIN⟩, ⟨S_ROLLBACK, X_ROLLBACK, D_ROLLBACK⟩, ⟨S_COMMIT, X_COMMIT, D_COMMIT⟩, ⟨S_PREPARE, X_PREPARE, D_PREPARE⟩, ⟨S_IMPLICIT_COMMIT, X_IMPLICIT_COMMIT, D_IMPLICIT_COMMIT⟩, ⟨S_ISOLATION_COMMIT, X_ISOLATION_COMMIT, D_ISOLATION_COMMIT⟩⟩ := en'
  refine g_aload_n C d3_0 (v := (.ref e_ISOLATION_COMMIT)) rfl rfl (pc' := 1) rfl ?_
  refine g_getstatic C (host := "") (v := (.ref e_BEGIN)) (Or.inl (own_w hw 13 rfl)) Via.refl (S_BEGIN.ext O.2) d3_1 (pc' := 4) rfl ?_
  refine g_acmp_n C d3_4 rfl rfl (Jvm.Free.XT.aa_eq_f (fun q => (Fld.ne D_ISOLATION_COMMIT D_BEGIN (by decide)) (Value.ref.inj q))) (pc' := 7) rfl ?_
  refine g_aload_n C d3_7 (v := (.ref e_ISOLATION_COMMIT)) rfl rfl (pc' := 8) rfl ?_
  refine g_getstatic C (host := "") (v := (.ref e_SUSPENDING_BEGIN)) (Or.inl (own_w hw 15 rfl)) Via.refl (S_SUSPENDING_BEGIN.ext O.2) d3_8 (pc' := 11) rfl ?_
  refine g_acmp_y C d3_11 rfl rfl (Jvm.Free.XT.aa_ne_t (fun q => (Fld.ne D_ISOLATION_COMMIT D_SUSPENDING_BEGIN (by decide)) (Value.ref.inj q))) (pc' := 21) (by decide) (by decide) ?_
  refine g_aload_n C d3_21 (v := (.ref e_ISOLATION_COMMIT)) rfl rfl (pc' := 22) rfl ?_
  refine g_getstatic C (host := "") (v := (.ref e_COMMIT_AND_BEGIN)) (Or.inl (own_w hw 17 rfl)) Via.refl (S_COMMIT_AND_BEGIN.ext O.2) d3_22 (pc' := 25) rfl ?_
  refine g_acmp_y C d3_25 rfl rfl (Jvm.Free.XT.aa_ne_t (fun q => (Fld.ne D_ISOLATION_COMMIT D_COMMIT_AND_BEGIN (by decide)) (Value.ref.inj q))) (pc' := 35) (by decide) (by decide) ?_
  refine g_aload_n C d3_35 (v := (.ref e_ISOLATION_COMMIT)) rfl rfl (pc' := 36) rfl ?_
  refine g_getstatic C (host := "") (v := (.ref e_IMPLICIT_COMMIT_AND_BEGIN)) (Or.inl (own_w hw 19 rfl)) Via.refl (S_IMPLICIT_COMMIT_AND_BEGIN.ext O.2) d3_36 (pc' := 39) rfl ?_
  refine g_acmp_y C d3_39 rfl rfl (Jvm.Free.XT.aa_ne_t (fun q => (Fld.ne D_ISOLATION_COMMIT D_IMPLICIT_COMMIT_AND_BEGIN (by decide)) (Value.ref.inj q))) (pc' := 49) (by decide) (by decide) ?_
  refine g_aload_n C d3_49 (v := (.ref e_ISOLATION_COMMIT)) rfl rfl (pc' := 50) rfl ?_
  refine g_astore_n C d3_50 (v := (.ref e_ISOLATION_COMMIT)) (L' := #[.val (.ref e_ISOLATION_COMMIT), .val (.ref e_ISOLATION_COMMIT)]) rfl rfl (pc' := 51) rfl ?_
  refine g_aload_n C d3_51 (v := (.ref e_ISOLATION_COMMIT)) rfl rfl (pc' := 52) rfl ?_
  refine g_ret C (v := (.ref e_ISOLATION_COMMIT)) (ty := (.object "com/example/measured_savepoints/measuredsavepoints/SavepointSql$TransactionEnd")) rfl rfl (Or.inr (Or.inr (Or.inr (Or.inr ⟨rfl, rfl, rfl⟩)))) d3_52 (by decide) (by decide) ?_
  exact ⟨rfl, rfl⟩
theorem own_split10 (i : Int32) (h0 : 0 ≤ i.toInt) (h1 : i.toInt < 10) : i = (0 : Int32) ∨ i = (1 : Int32) ∨ i = (2 : Int32) ∨ i = (3 : Int32) ∨ i = (4 : Int32) ∨ i = (5 : Int32) ∨ i = (6 : Int32) ∨ i = (7 : Int32) ∨ i = (8 : Int32) ∨ i = (9 : Int32) := by
  simp only [← Int32.toInt_inj, Int32.reduceToInt]; omega
theorem own_pd_2_pick : parseMethodDescriptor "(I)Lcom/example/measured_savepoints/measuredsavepoints/SavepointSql$TransactionEnd;" = some ⟨[.int], (some (.object "com/example/measured_savepoints/measuredsavepoints/SavepointSql$TransactionEnd"))⟩ := by decide +kernel
theorem own_pd_1_begins : parseMethodDescriptor "()Z" = some ⟨[], (some .boolean)⟩ := by decide +kernel
theorem own_pd_0_withoutBegin : parseMethodDescriptor "()Lcom/example/measured_savepoints/measuredsavepoints/SavepointSql$TransactionEnd;" = some ⟨[], (some (.object "com/example/measured_savepoints/measuredsavepoints/SavepointSql$TransactionEnd"))⟩ := by decide +kernel
theorem own_pd_1_commits : parseMethodDescriptor "()Z" = some ⟨[], (some .boolean)⟩ := by decide +kernel
set_option maxRecDepth 65536 in
set_option maxHeartbeats 40000000 in
theorem rm_law (l : Launch) (Z : State) (a0 : Array Value) (hw : ∀ d ∈ tables_1, d.before a0 Z = true) (n0 : Nat) (p0 : Int32) (e_NONE e_BEGIN e_SUSPENDING_BEGIN e_COMMIT_AND_BEGIN e_IMPLICIT_COMMIT_AND_BEGIN e_ROLLBACK e_COMMIT e_PREPARE e_IMPLICIT_COMMIT e_ISOLATION_COMMIT : Addr) (h0 : Heap) (Z0 : n0 ≤ h0.size) (en : Ens Z e_NONE e_BEGIN e_SUSPENDING_BEGIN e_COMMIT_AND_BEGIN e_IMPLICIT_COMMIT_AND_BEGIN e_ROLLBACK e_COMMIT e_PREPARE e_IMPLICIT_COMMIT e_ISOLATION_COMMIT) (O : Old Z n0 h0) :
    Met1 l Z x code maxLocals ret room_1 n0 #[(.int p0)] h0 (fun v h => v = some (.int 1)) := by
  refine met_of (plainFor_of_name own_pn_com_example_measured_savepoints_measuredsavepoints_TransactionEndWithoutBeginPinLaw) (L0 := #[.val (.int p0), .unset, .unset, .unset, .unset]) (by first | rfl | (simp [argsToLocals, Value.category]; done)) ?_
  intro B C
  change Ctx B l room_1 code "com/example/measured_savepoints/measuredsavepoints/TransactionEndWithoutBeginPinLaw" "law" 5 (some .boolean) Z at C
  have en' := en
  obtain ⟨⟨S_NONE, X_NONE, D_NONE⟩, ⟨S_BEGIN, X_BEGIN, D_BEGIN⟩, ⟨S_SUSPENDING_BEGIN, X_SUSPENDING_BEGIN, D_SUSPENDING_BEGIN⟩, ⟨S_COMMIT_AND_BEGIN, X_COMMIT_AND_BEGIN, D_COMMIT_AND_BEGIN⟩, ⟨S_IMPLICIT_COMMIT_AND_BEGIN, X_IMPLICIT_COMMIT_AND_BEGIN, D_IMPLICIT_COMMIT_AND_BEGIN⟩, ⟨S_ROLLBACK, X_ROLLBACK, D_ROLLBACK⟩, ⟨S_COMMIT, X_COMMIT, D_COMMIT⟩, ⟨S_PREPARE, X_PREPARE, D_PREPARE⟩, ⟨S_IMPLICIT_COMMIT, X_IMPLICIT_COMMIT, D_IMPLICIT_COMMIT⟩, ⟨S_ISOLATION_COMMIT, X_ISOLATION_COMMIT, D_ISOLATION_COMMIT⟩⟩ := en'
  refine g_iload_n C at_0 (v := p0) rfl (pc' := 1) rfl ?_
  refine g_ldc C (v := (2147483647 : Int32)) (own_w hw 0 rfl) at_1 (pc' := 3) rfl ?_
  refine g_iand C (x := p0) (y := (2147483647 : Int32)) at_3  (pc' := 4) rfl ?_
  refine g_bipush C at_4 (v := (10 : Int32)) rfl (pc' := 6) rfl ?_
  refine g_irem C (x := (p0 &&& (2147483647 : Int32))) (y := (10 : Int32)) at_6 (by decide) (pc' := 7) rfl ?_
  obtain ⟨i_1, hi_2⟩ : ∃ z : Int32, z = ((p0 &&& (2147483647 : Int32)) - ((p0 &&& (2147483647 : Int32)) / (10 : Int32)) * (10 : Int32)) := ⟨_, rfl⟩
  rw [← hi_2]
  rcases own_split10 i_1 (by rw [hi_2]; exact (own_rem10 (own_nn p0)).1) (by rw [hi_2]; exact (own_rem10 (own_nn p0)).2) with i_1e | i_1e | i_1e | i_1e | i_1e | i_1e | i_1e | i_1e | i_1e | i_1e
  · subst i_1e
    show Go B n0 _ h0 0 0 7 #[.val (.int p0), .unset, .unset, .unset, .unset] [(.int (0 : Int32))]
    refine g_istore_n C at_7 (v := (0 : Int32)) (L' := #[.val (.int p0), .val (.int (0 : Int32)), .unset, .unset, .unset]) rfl (pc' := 8) rfl ?_
    refine g_iload_n C at_8 (v := (0 : Int32)) rfl (pc' := 9) rfl ?_
    refine g_static C (own_w hw 1 rfl) (own_w hw 2 rfl) (own_w hw 3 rfl) (own_w hw 4 rfl) (by decide) (rm_pick0 l Z a0 hw n0 e_NONE e_BEGIN e_SUSPENDING_BEGIN e_COMMIT_AND_BEGIN e_IMPLICIT_COMMIT_AND_BEGIN e_ROLLBACK e_COMMIT e_PREPARE e_IMPLICIT_COMMIT e_ISOLATION_COMMIT h0 Z0 en O) (st := []) [(.int (0 : Int32))] rfl rfl own_pd_2_pick rfl rfl (by decide) (W := 0) (Nat.le_of_eq rfl) (by decide) (by decide) (by decide) at_9 (pc' := 12) rfl ?_
    intro v_5 h_3 q_4
    obtain ⟨rfl, rfl⟩ := q_4
    show Go B n0 _ h0 0 0 12 #[.val (.int p0), .val (.int (0 : Int32)), .unset, .unset, .unset] [(.ref e_NONE)]
    refine g_astore_n C at_12 (v := (.ref e_NONE)) (L' := #[.val (.int p0), .val (.int (0 : Int32)), .val (.ref e_NONE), .unset, .unset]) rfl rfl (pc' := 13) rfl ?_
    refine g_aload_n C at_13 (v := (.ref e_NONE)) rfl rfl (pc' := 14) rfl ?_
    refine g_virtual C (own_w hw 8 rfl) (own_w hw 9 rfl) (own_w hw 11 rfl) (own_w hw 10 rfl) (own_w hw 6 rfl) (own_w hw 12 rfl) (notFace_of_selects (args := #[]) (mvT C.2.2.2.2.1 (own_w hw 11 rfl))) (by decide) (X_NONE.ext O.2) (rm_begins_NONE l Z a0 hw n0 e_NONE e_BEGIN e_SUSPENDING_BEGIN e_COMMIT_AND_BEGIN e_IMPLICIT_COMMIT_AND_BEGIN e_ROLLBACK e_COMMIT e_PREPARE e_IMPLICIT_COMMIT e_ISOLATION_COMMIT h0 Z0 en O) (st := []) [] rfl rfl own_pd_1_begins rfl rfl (by decide) (W := 0) (Nat.le_of_eq rfl) (by decide) (by decide) (by decide) at_14 (pc' := 17) rfl ?_
    intro v_8 h_6 q_7
    obtain ⟨rfl, rfl⟩ := q_7
    show Go B n0 _ h0 0 0 17 #[.val (.int p0), .val (.int (0 : Int32)), .val (.ref e_NONE), .unset, .unset] [(.int (0 : Int32))]
    refine g_if_n C at_17 (Jvm.Free.XT.i0_ne_f (by decide)) (pc' := 20) rfl ?_
    refine g_aload_n C at_20 (v := (.ref e_NONE)) rfl rfl (pc' := 21) rfl ?_
    refine g_astore_n C at_21 (v := (.ref e_NONE)) (L' := #[.val (.int p0), .val (.int (0 : Int32)), .val (.ref e_NONE), .val (.ref e_NONE), .unset]) rfl rfl (pc' := 22) rfl ?_
    refine g_goto C at_22 (pc' := 57) (by decide) (by decide) ?_
    refine g_aload_n C at_57 (v := (.ref e_NONE)) rfl rfl (pc' := 58) rfl ?_
    refine g_virtual C (own_w hw 21 rfl) (own_w hw 22 rfl) (own_w hw 24 rfl) (own_w hw 23 rfl) (own_w hw 6 rfl) (own_w hw 25 rfl) (notFace_of_selects (args := #[]) (mvT C.2.2.2.2.1 (own_w hw 24 rfl))) (by decide) (X_NONE.ext O.2) (rm_withoutBegin_NONE l Z a0 hw n0 e_NONE e_BEGIN e_SUSPENDING_BEGIN e_COMMIT_AND_BEGIN e_IMPLICIT_COMMIT_AND_BEGIN e_ROLLBACK e_COMMIT e_PREPARE e_IMPLICIT_COMMIT e_ISOLATION_COMMIT h0 Z0 en O) (st := []) [] rfl rfl own_pd_0_withoutBegin rfl rfl (by decide) (W := 0) (Nat.le_of_eq rfl) (by decide) (by decide) (by decide) at_58 (pc' := 61) rfl ?_
    intro v_11 h_9 q_10
    obtain ⟨rfl, rfl⟩ := q_10
    show Go B n0 _ h0 0 0 61 #[.val (.int p0), .val (.int (0 : Int32)), .val (.ref e_NONE), .val (.ref e_NONE), .unset] [(.ref e_NONE)]
    refine g_astore C at_61 (v := (.ref e_NONE)) (L' := #[.val (.int p0), .val (.int (0 : Int32)), .val (.ref e_NONE), .val (.ref e_NONE), .val (.ref e_NONE)]) rfl rfl (pc' := 63) rfl ?_
    refine g_aload C at_63 (v := (.ref e_NONE)) rfl rfl (pc' := 65) rfl ?_
    refine g_aload_n C at_65 (v := (.ref e_NONE)) rfl rfl (pc' := 66) rfl ?_
    refine g_acmp_y C at_66 rfl rfl (Jvm.Free.XT.aa_eq_t rfl) (pc' := 71) (by decide) (by decide) ?_
    refine g_aload C at_71 (v := (.ref e_NONE)) rfl rfl (pc' := 73) rfl ?_
    refine g_virtual C (own_w hw 8 rfl) (own_w hw 9 rfl) (own_w hw 11 rfl) (own_w hw 10 rfl) (own_w hw 6 rfl) (own_w hw 12 rfl) (notFace_of_selects (args := #[]) (mvT C.2.2.2.2.1 (own_w hw 11 rfl))) (by decide) (X_NONE.ext O.2) (rm_begins_NONE l Z a0 hw n0 e_NONE e_BEGIN e_SUSPENDING_BEGIN e_COMMIT_AND_BEGIN e_IMPLICIT_COMMIT_AND_BEGIN e_ROLLBACK e_COMMIT e_PREPARE e_IMPLICIT_COMMIT e_ISOLATION_COMMIT h0 Z0 en O) (st := []) [] rfl rfl own_pd_1_begins rfl rfl (by decide) (W := 0) (Nat.le_of_eq rfl) (by decide) (by decide) (by decide) at_73 (pc' := 76) rfl ?_
    intro v_14 h_12 q_13
    obtain ⟨rfl, rfl⟩ := q_13
    show Go B n0 _ h0 0 0 76 #[.val (.int p0), .val (.int (0 : Int32)), .val (.ref e_NONE), .val (.ref e_NONE), .val (.ref e_NONE)] [(.int (0 : Int32))]
    refine g_if_y C at_76 (Jvm.Free.XT.i0_eq_t (by decide)) (pc' := 81) (by decide) (by decide) ?_
    refine g_aload C at_81 (v := (.ref e_NONE)) rfl rfl (pc' := 83) rfl ?_
    refine g_virtual C (own_w hw 21 rfl) (own_w hw 22 rfl) (own_w hw 24 rfl) (own_w hw 23 rfl) (own_w hw 6 rfl) (own_w hw 25 rfl) (notFace_of_selects (args := #[]) (mvT C.2.2.2.2.1 (own_w hw 24 rfl))) (by decide) (X_NONE.ext O.2) (rm_withoutBegin_NONE l Z a0 hw n0 e_NONE e_BEGIN e_SUSPENDING_BEGIN e_COMMIT_AND_BEGIN e_IMPLICIT_COMMIT_AND_BEGIN e_ROLLBACK e_COMMIT e_PREPARE e_IMPLICIT_COMMIT e_ISOLATION_COMMIT h0 Z0 en O) (st := []) [] rfl rfl own_pd_0_withoutBegin rfl rfl (by decide) (W := 0) (Nat.le_of_eq rfl) (by decide) (by decide) (by decide) at_83 (pc' := 86) rfl ?_
    intro v_17 h_15 q_16
    obtain ⟨rfl, rfl⟩ := q_16
    show Go B n0 _ h0 0 0 86 #[.val (.int p0), .val (.int (0 : Int32)), .val (.ref e_NONE), .val (.ref e_NONE), .val (.ref e_NONE)] [(.ref e_NONE)]
    refine g_aload C at_86 (v := (.ref e_NONE)) rfl rfl (pc' := 88) rfl ?_
    refine g_acmp_n C at_88 rfl rfl (Jvm.Free.XT.aa_ne_f rfl) (pc' := 91) rfl ?_
    refine g_iconst C at_91 (v := (1 : Int32)) rfl (pc' := 92) rfl ?_
    refine g_goto C at_92 (pc' := 96) (by decide) (by decide) ?_
    refine g_ret C (v := (.int (1 : Int32))) (ty := .boolean) rfl rfl (Or.inl ⟨rfl, Or.inr (Or.inl rfl), _, rfl⟩) at_96 (by decide) (by decide) ?_
    rfl
  · subst i_1e
    show Go B n0 _ h0 0 0 7 #[.val (.int p0), .unset, .unset, .unset, .unset] [(.int (1 : Int32))]
    refine g_istore_n C at_7 (v := (1 : Int32)) (L' := #[.val (.int p0), .val (.int (1 : Int32)), .unset, .unset, .unset]) rfl (pc' := 8) rfl ?_
    refine g_iload_n C at_8 (v := (1 : Int32)) rfl (pc' := 9) rfl ?_
    refine g_static C (own_w hw 1 rfl) (own_w hw 2 rfl) (own_w hw 3 rfl) (own_w hw 4 rfl) (by decide) (rm_pick1 l Z a0 hw n0 e_NONE e_BEGIN e_SUSPENDING_BEGIN e_COMMIT_AND_BEGIN e_IMPLICIT_COMMIT_AND_BEGIN e_ROLLBACK e_COMMIT e_PREPARE e_IMPLICIT_COMMIT e_ISOLATION_COMMIT h0 Z0 en O) (st := []) [(.int (1 : Int32))] rfl rfl own_pd_2_pick rfl rfl (by decide) (W := 0) (Nat.le_of_eq rfl) (by decide) (by decide) (by decide) at_9 (pc' := 12) rfl ?_
    intro v_20 h_18 q_19
    obtain ⟨rfl, rfl⟩ := q_19
    show Go B n0 _ h0 0 0 12 #[.val (.int p0), .val (.int (1 : Int32)), .unset, .unset, .unset] [(.ref e_BEGIN)]
    refine g_astore_n C at_12 (v := (.ref e_BEGIN)) (L' := #[.val (.int p0), .val (.int (1 : Int32)), .val (.ref e_BEGIN), .unset, .unset]) rfl rfl (pc' := 13) rfl ?_
    refine g_aload_n C at_13 (v := (.ref e_BEGIN)) rfl rfl (pc' := 14) rfl ?_
    refine g_virtual C (own_w hw 8 rfl) (own_w hw 9 rfl) (own_w hw 11 rfl) (own_w hw 10 rfl) (own_w hw 6 rfl) (own_w hw 12 rfl) (notFace_of_selects (args := #[]) (mvT C.2.2.2.2.1 (own_w hw 11 rfl))) (by decide) (X_BEGIN.ext O.2) (rm_begins_BEGIN l Z a0 hw n0 e_NONE e_BEGIN e_SUSPENDING_BEGIN e_COMMIT_AND_BEGIN e_IMPLICIT_COMMIT_AND_BEGIN e_ROLLBACK e_COMMIT e_PREPARE e_IMPLICIT_COMMIT e_ISOLATION_COMMIT h0 Z0 en O) (st := []) [] rfl rfl own_pd_1_begins rfl rfl (by decide) (W := 0) (Nat.le_of_eq rfl) (by decide) (by decide) (by decide) at_14 (pc' := 17) rfl ?_
    intro v_23 h_21 q_22
    obtain ⟨rfl, rfl⟩ := q_22
    show Go B n0 _ h0 0 0 17 #[.val (.int p0), .val (.int (1 : Int32)), .val (.ref e_BEGIN), .unset, .unset] [(.int (1 : Int32))]
    refine g_if_y C at_17 (Jvm.Free.XT.i0_ne_t (by decide)) (pc' := 25) (by decide) (by decide) ?_
    refine g_aload_n C at_25 (v := (.ref e_BEGIN)) rfl rfl (pc' := 26) rfl ?_
    refine g_virtual C (own_w hw 29 rfl) (own_w hw 30 rfl) (own_w hw 32 rfl) (own_w hw 31 rfl) (own_w hw 6 rfl) (own_w hw 33 rfl) (notFace_of_selects (args := #[]) (mvT C.2.2.2.2.1 (own_w hw 32 rfl))) (by decide) (X_BEGIN.ext O.2) (rm_commits_BEGIN l Z a0 hw n0 e_NONE e_BEGIN e_SUSPENDING_BEGIN e_COMMIT_AND_BEGIN e_IMPLICIT_COMMIT_AND_BEGIN e_ROLLBACK e_COMMIT e_PREPARE e_IMPLICIT_COMMIT e_ISOLATION_COMMIT h0 Z0 en O) (st := []) [] rfl rfl own_pd_1_commits rfl rfl (by decide) (W := 0) (Nat.le_of_eq rfl) (by decide) (by decide) (by decide) at_26 (pc' := 29) rfl ?_
    intro v_26 h_24 q_25
    obtain ⟨rfl, rfl⟩ := q_25
    show Go B n0 _ h0 0 0 29 #[.val (.int p0), .val (.int (1 : Int32)), .val (.ref e_BEGIN), .unset, .unset] [(.int (0 : Int32))]
    refine g_if_n C at_29 (Jvm.Free.XT.i0_ne_f (by decide)) (pc' := 32) rfl ?_
    refine g_getstatic C (host := "") (v := (.ref e_NONE)) (Or.inl (own_w hw 5 rfl)) Via.refl (S_NONE.ext O.2) at_32 (pc' := 35) rfl ?_
    refine g_astore_n C at_35 (v := (.ref e_NONE)) (L' := #[.val (.int p0), .val (.int (1 : Int32)), .val (.ref e_BEGIN), .val (.ref e_NONE), .unset]) rfl rfl (pc' := 36) rfl ?_
    refine g_goto C at_36 (pc' := 57) (by decide) (by decide) ?_
    refine g_aload_n C at_57 (v := (.ref e_BEGIN)) rfl rfl (pc' := 58) rfl ?_
    refine g_virtual C (own_w hw 21 rfl) (own_w hw 22 rfl) (own_w hw 24 rfl) (own_w hw 23 rfl) (own_w hw 6 rfl) (own_w hw 25 rfl) (notFace_of_selects (args := #[]) (mvT C.2.2.2.2.1 (own_w hw 24 rfl))) (by decide) (X_BEGIN.ext O.2) (rm_withoutBegin_BEGIN l Z a0 hw n0 e_NONE e_BEGIN e_SUSPENDING_BEGIN e_COMMIT_AND_BEGIN e_IMPLICIT_COMMIT_AND_BEGIN e_ROLLBACK e_COMMIT e_PREPARE e_IMPLICIT_COMMIT e_ISOLATION_COMMIT h0 Z0 en O) (st := []) [] rfl rfl own_pd_0_withoutBegin rfl rfl (by decide) (W := 0) (Nat.le_of_eq rfl) (by decide) (by decide) (by decide) at_58 (pc' := 61) rfl ?_
    intro v_29 h_27 q_28
    obtain ⟨rfl, rfl⟩ := q_28
    show Go B n0 _ h0 0 0 61 #[.val (.int p0), .val (.int (1 : Int32)), .val (.ref e_BEGIN), .val (.ref e_NONE), .unset] [(.ref e_NONE)]
    refine g_astore C at_61 (v := (.ref e_NONE)) (L' := #[.val (.int p0), .val (.int (1 : Int32)), .val (.ref e_BEGIN), .val (.ref e_NONE), .val (.ref e_NONE)]) rfl rfl (pc' := 63) rfl ?_
    refine g_aload C at_63 (v := (.ref e_NONE)) rfl rfl (pc' := 65) rfl ?_
    refine g_aload_n C at_65 (v := (.ref e_NONE)) rfl rfl (pc' := 66) rfl ?_
    refine g_acmp_y C at_66 rfl rfl (Jvm.Free.XT.aa_eq_t rfl) (pc' := 71) (by decide) (by decide) ?_
    refine g_aload C at_71 (v := (.ref e_NONE)) rfl rfl (pc' := 73) rfl ?_
    refine g_virtual C (own_w hw 8 rfl) (own_w hw 9 rfl) (own_w hw 11 rfl) (own_w hw 10 rfl) (own_w hw 6 rfl) (own_w hw 12 rfl) (notFace_of_selects (args := #[]) (mvT C.2.2.2.2.1 (own_w hw 11 rfl))) (by decide) (X_NONE.ext O.2) (rm_begins_NONE l Z a0 hw n0 e_NONE e_BEGIN e_SUSPENDING_BEGIN e_COMMIT_AND_BEGIN e_IMPLICIT_COMMIT_AND_BEGIN e_ROLLBACK e_COMMIT e_PREPARE e_IMPLICIT_COMMIT e_ISOLATION_COMMIT h0 Z0 en O) (st := []) [] rfl rfl own_pd_1_begins rfl rfl (by decide) (W := 0) (Nat.le_of_eq rfl) (by decide) (by decide) (by decide) at_73 (pc' := 76) rfl ?_
    intro v_32 h_30 q_31
    obtain ⟨rfl, rfl⟩ := q_31
    show Go B n0 _ h0 0 0 76 #[.val (.int p0), .val (.int (1 : Int32)), .val (.ref e_BEGIN), .val (.ref e_NONE), .val (.ref e_NONE)] [(.int (0 : Int32))]
    refine g_if_y C at_76 (Jvm.Free.XT.i0_eq_t (by decide)) (pc' := 81) (by decide) (by decide) ?_
    refine g_aload C at_81 (v := (.ref e_NONE)) rfl rfl (pc' := 83) rfl ?_
    refine g_virtual C (own_w hw 21 rfl) (own_w hw 22 rfl) (own_w hw 24 rfl) (own_w hw 23 rfl) (own_w hw 6 rfl) (own_w hw 25 rfl) (notFace_of_selects (args := #[]) (mvT C.2.2.2.2.1 (own_w hw 24 rfl))) (by decide) (X_NONE.ext O.2) (rm_withoutBegin_NONE l Z a0 hw n0 e_NONE e_BEGIN e_SUSPENDING_BEGIN e_COMMIT_AND_BEGIN e_IMPLICIT_COMMIT_AND_BEGIN e_ROLLBACK e_COMMIT e_PREPARE e_IMPLICIT_COMMIT e_ISOLATION_COMMIT h0 Z0 en O) (st := []) [] rfl rfl own_pd_0_withoutBegin rfl rfl (by decide) (W := 0) (Nat.le_of_eq rfl) (by decide) (by decide) (by decide) at_83 (pc' := 86) rfl ?_
    intro v_35 h_33 q_34
    obtain ⟨rfl, rfl⟩ := q_34
    show Go B n0 _ h0 0 0 86 #[.val (.int p0), .val (.int (1 : Int32)), .val (.ref e_BEGIN), .val (.ref e_NONE), .val (.ref e_NONE)] [(.ref e_NONE)]
    refine g_aload C at_86 (v := (.ref e_NONE)) rfl rfl (pc' := 88) rfl ?_
    refine g_acmp_n C at_88 rfl rfl (Jvm.Free.XT.aa_ne_f rfl) (pc' := 91) rfl ?_
    refine g_iconst C at_91 (v := (1 : Int32)) rfl (pc' := 92) rfl ?_
    refine g_goto C at_92 (pc' := 96) (by decide) (by decide) ?_
    refine g_ret C (v := (.int (1 : Int32))) (ty := .boolean) rfl rfl (Or.inl ⟨rfl, Or.inr (Or.inl rfl), _, rfl⟩) at_96 (by decide) (by decide) ?_
    rfl
  · subst i_1e
    show Go B n0 _ h0 0 0 7 #[.val (.int p0), .unset, .unset, .unset, .unset] [(.int (2 : Int32))]
    refine g_istore_n C at_7 (v := (2 : Int32)) (L' := #[.val (.int p0), .val (.int (2 : Int32)), .unset, .unset, .unset]) rfl (pc' := 8) rfl ?_
    refine g_iload_n C at_8 (v := (2 : Int32)) rfl (pc' := 9) rfl ?_
    refine g_static C (own_w hw 1 rfl) (own_w hw 2 rfl) (own_w hw 3 rfl) (own_w hw 4 rfl) (by decide) (rm_pick2 l Z a0 hw n0 e_NONE e_BEGIN e_SUSPENDING_BEGIN e_COMMIT_AND_BEGIN e_IMPLICIT_COMMIT_AND_BEGIN e_ROLLBACK e_COMMIT e_PREPARE e_IMPLICIT_COMMIT e_ISOLATION_COMMIT h0 Z0 en O) (st := []) [(.int (2 : Int32))] rfl rfl own_pd_2_pick rfl rfl (by decide) (W := 0) (Nat.le_of_eq rfl) (by decide) (by decide) (by decide) at_9 (pc' := 12) rfl ?_
    intro v_38 h_36 q_37
    obtain ⟨rfl, rfl⟩ := q_37
    show Go B n0 _ h0 0 0 12 #[.val (.int p0), .val (.int (2 : Int32)), .unset, .unset, .unset] [(.ref e_SUSPENDING_BEGIN)]
    refine g_astore_n C at_12 (v := (.ref e_SUSPENDING_BEGIN)) (L' := #[.val (.int p0), .val (.int (2 : Int32)), .val (.ref e_SUSPENDING_BEGIN), .unset, .unset]) rfl rfl (pc' := 13) rfl ?_
    refine g_aload_n C at_13 (v := (.ref e_SUSPENDING_BEGIN)) rfl rfl (pc' := 14) rfl ?_
    refine g_virtual C (own_w hw 8 rfl) (own_w hw 9 rfl) (own_w hw 11 rfl) (own_w hw 10 rfl) (own_w hw 6 rfl) (own_w hw 12 rfl) (notFace_of_selects (args := #[]) (mvT C.2.2.2.2.1 (own_w hw 11 rfl))) (by decide) (X_SUSPENDING_BEGIN.ext O.2) (rm_begins_SUSPENDING_BEGIN l Z a0 hw n0 e_NONE e_BEGIN e_SUSPENDING_BEGIN e_COMMIT_AND_BEGIN e_IMPLICIT_COMMIT_AND_BEGIN e_ROLLBACK e_COMMIT e_PREPARE e_IMPLICIT_COMMIT e_ISOLATION_COMMIT h0 Z0 en O) (st := []) [] rfl rfl own_pd_1_begins rfl rfl (by decide) (W := 0) (Nat.le_of_eq rfl) (by decide) (by decide) (by decide) at_14 (pc' := 17) rfl ?_
    intro v_41 h_39 q_40
    obtain ⟨rfl, rfl⟩ := q_40
    show Go B n0 _ h0 0 0 17 #[.val (.int p0), .val (.int (2 : Int32)), .val (.ref e_SUSPENDING_BEGIN), .unset, .unset] [(.int (1 : Int32))]
    refine g_if_y C at_17 (Jvm.Free.XT.i0_ne_t (by decide)) (pc' := 25) (by decide) (by decide) ?_
    refine g_aload_n C at_25 (v := (.ref e_SUSPENDING_BEGIN)) rfl rfl (pc' := 26) rfl ?_
    refine g_virtual C (own_w hw 29 rfl) (own_w hw 30 rfl) (own_w hw 32 rfl) (own_w hw 31 rfl) (own_w hw 6 rfl) (own_w hw 33 rfl) (notFace_of_selects (args := #[]) (mvT C.2.2.2.2.1 (own_w hw 32 rfl))) (by decide) (X_SUSPENDING_BEGIN.ext O.2) (rm_commits_SUSPENDING_BEGIN l Z a0 hw n0 e_NONE e_BEGIN e_SUSPENDING_BEGIN e_COMMIT_AND_BEGIN e_IMPLICIT_COMMIT_AND_BEGIN e_ROLLBACK e_COMMIT e_PREPARE e_IMPLICIT_COMMIT e_ISOLATION_COMMIT h0 Z0 en O) (st := []) [] rfl rfl own_pd_1_commits rfl rfl (by decide) (W := 0) (Nat.le_of_eq rfl) (by decide) (by decide) (by decide) at_26 (pc' := 29) rfl ?_
    intro v_44 h_42 q_43
    obtain ⟨rfl, rfl⟩ := q_43
    show Go B n0 _ h0 0 0 29 #[.val (.int p0), .val (.int (2 : Int32)), .val (.ref e_SUSPENDING_BEGIN), .unset, .unset] [(.int (0 : Int32))]
    refine g_if_n C at_29 (Jvm.Free.XT.i0_ne_f (by decide)) (pc' := 32) rfl ?_
    refine g_getstatic C (host := "") (v := (.ref e_NONE)) (Or.inl (own_w hw 5 rfl)) Via.refl (S_NONE.ext O.2) at_32 (pc' := 35) rfl ?_
    refine g_astore_n C at_35 (v := (.ref e_NONE)) (L' := #[.val (.int p0), .val (.int (2 : Int32)), .val (.ref e_SUSPENDING_BEGIN), .val (.ref e_NONE), .unset]) rfl rfl (pc' := 36) rfl ?_
    refine g_goto C at_36 (pc' := 57) (by decide) (by decide) ?_
    refine g_aload_n C at_57 (v := (.ref e_SUSPENDING_BEGIN)) rfl rfl (pc' := 58) rfl ?_
    refine g_virtual C (own_w hw 21 rfl) (own_w hw 22 rfl) (own_w hw 24 rfl) (own_w hw 23 rfl) (own_w hw 6 rfl) (own_w hw 25 rfl) (notFace_of_selects (args := #[]) (mvT C.2.2.2.2.1 (own_w hw 24 rfl))) (by decide) (X_SUSPENDING_BEGIN.ext O.2) (rm_withoutBegin_SUSPENDING_BEGIN l Z a0 hw n0 e_NONE e_BEGIN e_SUSPENDING_BEGIN e_COMMIT_AND_BEGIN e_IMPLICIT_COMMIT_AND_BEGIN e_ROLLBACK e_COMMIT e_PREPARE e_IMPLICIT_COMMIT e_ISOLATION_COMMIT h0 Z0 en O) (st := []) [] rfl rfl own_pd_0_withoutBegin rfl rfl (by decide) (W := 0) (Nat.le_of_eq rfl) (by decide) (by decide) (by decide) at_58 (pc' := 61) rfl ?_
    intro v_47 h_45 q_46
    obtain ⟨rfl, rfl⟩ := q_46
    show Go B n0 _ h0 0 0 61 #[.val (.int p0), .val (.int (2 : Int32)), .val (.ref e_SUSPENDING_BEGIN), .val (.ref e_NONE), .unset] [(.ref e_NONE)]
    refine g_astore C at_61 (v := (.ref e_NONE)) (L' := #[.val (.int p0), .val (.int (2 : Int32)), .val (.ref e_SUSPENDING_BEGIN), .val (.ref e_NONE), .val (.ref e_NONE)]) rfl rfl (pc' := 63) rfl ?_
    refine g_aload C at_63 (v := (.ref e_NONE)) rfl rfl (pc' := 65) rfl ?_
    refine g_aload_n C at_65 (v := (.ref e_NONE)) rfl rfl (pc' := 66) rfl ?_
    refine g_acmp_y C at_66 rfl rfl (Jvm.Free.XT.aa_eq_t rfl) (pc' := 71) (by decide) (by decide) ?_
    refine g_aload C at_71 (v := (.ref e_NONE)) rfl rfl (pc' := 73) rfl ?_
    refine g_virtual C (own_w hw 8 rfl) (own_w hw 9 rfl) (own_w hw 11 rfl) (own_w hw 10 rfl) (own_w hw 6 rfl) (own_w hw 12 rfl) (notFace_of_selects (args := #[]) (mvT C.2.2.2.2.1 (own_w hw 11 rfl))) (by decide) (X_NONE.ext O.2) (rm_begins_NONE l Z a0 hw n0 e_NONE e_BEGIN e_SUSPENDING_BEGIN e_COMMIT_AND_BEGIN e_IMPLICIT_COMMIT_AND_BEGIN e_ROLLBACK e_COMMIT e_PREPARE e_IMPLICIT_COMMIT e_ISOLATION_COMMIT h0 Z0 en O) (st := []) [] rfl rfl own_pd_1_begins rfl rfl (by decide) (W := 0) (Nat.le_of_eq rfl) (by decide) (by decide) (by decide) at_73 (pc' := 76) rfl ?_
    intro v_50 h_48 q_49
    obtain ⟨rfl, rfl⟩ := q_49
    show Go B n0 _ h0 0 0 76 #[.val (.int p0), .val (.int (2 : Int32)), .val (.ref e_SUSPENDING_BEGIN), .val (.ref e_NONE), .val (.ref e_NONE)] [(.int (0 : Int32))]
    refine g_if_y C at_76 (Jvm.Free.XT.i0_eq_t (by decide)) (pc' := 81) (by decide) (by decide) ?_
    refine g_aload C at_81 (v := (.ref e_NONE)) rfl rfl (pc' := 83) rfl ?_
    refine g_virtual C (own_w hw 21 rfl) (own_w hw 22 rfl) (own_w hw 24 rfl) (own_w hw 23 rfl) (own_w hw 6 rfl) (own_w hw 25 rfl) (notFace_of_selects (args := #[]) (mvT C.2.2.2.2.1 (own_w hw 24 rfl))) (by decide) (X_NONE.ext O.2) (rm_withoutBegin_NONE l Z a0 hw n0 e_NONE e_BEGIN e_SUSPENDING_BEGIN e_COMMIT_AND_BEGIN e_IMPLICIT_COMMIT_AND_BEGIN e_ROLLBACK e_COMMIT e_PREPARE e_IMPLICIT_COMMIT e_ISOLATION_COMMIT h0 Z0 en O) (st := []) [] rfl rfl own_pd_0_withoutBegin rfl rfl (by decide) (W := 0) (Nat.le_of_eq rfl) (by decide) (by decide) (by decide) at_83 (pc' := 86) rfl ?_
    intro v_53 h_51 q_52
    obtain ⟨rfl, rfl⟩ := q_52
    show Go B n0 _ h0 0 0 86 #[.val (.int p0), .val (.int (2 : Int32)), .val (.ref e_SUSPENDING_BEGIN), .val (.ref e_NONE), .val (.ref e_NONE)] [(.ref e_NONE)]
    refine g_aload C at_86 (v := (.ref e_NONE)) rfl rfl (pc' := 88) rfl ?_
    refine g_acmp_n C at_88 rfl rfl (Jvm.Free.XT.aa_ne_f rfl) (pc' := 91) rfl ?_
    refine g_iconst C at_91 (v := (1 : Int32)) rfl (pc' := 92) rfl ?_
    refine g_goto C at_92 (pc' := 96) (by decide) (by decide) ?_
    refine g_ret C (v := (.int (1 : Int32))) (ty := .boolean) rfl rfl (Or.inl ⟨rfl, Or.inr (Or.inl rfl), _, rfl⟩) at_96 (by decide) (by decide) ?_
    rfl
  · subst i_1e
    show Go B n0 _ h0 0 0 7 #[.val (.int p0), .unset, .unset, .unset, .unset] [(.int (3 : Int32))]
    refine g_istore_n C at_7 (v := (3 : Int32)) (L' := #[.val (.int p0), .val (.int (3 : Int32)), .unset, .unset, .unset]) rfl (pc' := 8) rfl ?_
    refine g_iload_n C at_8 (v := (3 : Int32)) rfl (pc' := 9) rfl ?_
    refine g_static C (own_w hw 1 rfl) (own_w hw 2 rfl) (own_w hw 3 rfl) (own_w hw 4 rfl) (by decide) (rm_pick3 l Z a0 hw n0 e_NONE e_BEGIN e_SUSPENDING_BEGIN e_COMMIT_AND_BEGIN e_IMPLICIT_COMMIT_AND_BEGIN e_ROLLBACK e_COMMIT e_PREPARE e_IMPLICIT_COMMIT e_ISOLATION_COMMIT h0 Z0 en O) (st := []) [(.int (3 : Int32))] rfl rfl own_pd_2_pick rfl rfl (by decide) (W := 0) (Nat.le_of_eq rfl) (by decide) (by decide) (by decide) at_9 (pc' := 12) rfl ?_
    intro v_56 h_54 q_55
    obtain ⟨rfl, rfl⟩ := q_55
    show Go B n0 _ h0 0 0 12 #[.val (.int p0), .val (.int (3 : Int32)), .unset, .unset, .unset] [(.ref e_ROLLBACK)]
    refine g_astore_n C at_12 (v := (.ref e_ROLLBACK)) (L' := #[.val (.int p0), .val (.int (3 : Int32)), .val (.ref e_ROLLBACK), .unset, .unset]) rfl rfl (pc' := 13) rfl ?_
    refine g_aload_n C at_13 (v := (.ref e_ROLLBACK)) rfl rfl (pc' := 14) rfl ?_
    refine g_virtual C (own_w hw 8 rfl) (own_w hw 9 rfl) (own_w hw 11 rfl) (own_w hw 10 rfl) (own_w hw 6 rfl) (own_w hw 12 rfl) (notFace_of_selects (args := #[]) (mvT C.2.2.2.2.1 (own_w hw 11 rfl))) (by decide) (X_ROLLBACK.ext O.2) (rm_begins_ROLLBACK l Z a0 hw n0 e_NONE e_BEGIN e_SUSPENDING_BEGIN e_COMMIT_AND_BEGIN e_IMPLICIT_COMMIT_AND_BEGIN e_ROLLBACK e_COMMIT e_PREPARE e_IMPLICIT_COMMIT e_ISOLATION_COMMIT h0 Z0 en O) (st := []) [] rfl rfl own_pd_1_begins rfl rfl (by decide) (W := 0) (Nat.le_of_eq rfl) (by decide) (by decide) (by decide) at_14 (pc' := 17) rfl ?_
    intro v_59 h_57 q_58
    obtain ⟨rfl, rfl⟩ := q_58
    show Go B n0 _ h0 0 0 17 #[.val (.int p0), .val (.int (3 : Int32)), .val (.ref e_ROLLBACK), .unset, .unset] [(.int (0 : Int32))]
    refine g_if_n C at_17 (Jvm.Free.XT.i0_ne_f (by decide)) (pc' := 20) rfl ?_
    refine g_aload_n C at_20 (v := (.ref e_ROLLBACK)) rfl rfl (pc' := 21) rfl ?_
    refine g_astore_n C at_21 (v := (.ref e_ROLLBACK)) (L' := #[.val (.int p0), .val (.int (3 : Int32)), .val (.ref e_ROLLBACK), .val (.ref e_ROLLBACK), .unset]) rfl rfl (pc' := 22) rfl ?_
    refine g_goto C at_22 (pc' := 57) (by decide) (by decide) ?_
    refine g_aload_n C at_57 (v := (.ref e_ROLLBACK)) rfl rfl (pc' := 58) rfl ?_
    refine g_virtual C (own_w hw 21 rfl) (own_w hw 22 rfl) (own_w hw 24 rfl) (own_w hw 23 rfl) (own_w hw 6 rfl) (own_w hw 25 rfl) (notFace_of_selects (args := #[]) (mvT C.2.2.2.2.1 (own_w hw 24 rfl))) (by decide) (X_ROLLBACK.ext O.2) (rm_withoutBegin_ROLLBACK l Z a0 hw n0 e_NONE e_BEGIN e_SUSPENDING_BEGIN e_COMMIT_AND_BEGIN e_IMPLICIT_COMMIT_AND_BEGIN e_ROLLBACK e_COMMIT e_PREPARE e_IMPLICIT_COMMIT e_ISOLATION_COMMIT h0 Z0 en O) (st := []) [] rfl rfl own_pd_0_withoutBegin rfl rfl (by decide) (W := 0) (Nat.le_of_eq rfl) (by decide) (by decide) (by decide) at_58 (pc' := 61) rfl ?_
    intro v_62 h_60 q_61
    obtain ⟨rfl, rfl⟩ := q_61
    show Go B n0 _ h0 0 0 61 #[.val (.int p0), .val (.int (3 : Int32)), .val (.ref e_ROLLBACK), .val (.ref e_ROLLBACK), .unset] [(.ref e_ROLLBACK)]
    refine g_astore C at_61 (v := (.ref e_ROLLBACK)) (L' := #[.val (.int p0), .val (.int (3 : Int32)), .val (.ref e_ROLLBACK), .val (.ref e_ROLLBACK), .val (.ref e_ROLLBACK)]) rfl rfl (pc' := 63) rfl ?_
    refine g_aload C at_63 (v := (.ref e_ROLLBACK)) rfl rfl (pc' := 65) rfl ?_
    refine g_aload_n C at_65 (v := (.ref e_ROLLBACK)) rfl rfl (pc' := 66) rfl ?_
    refine g_acmp_y C at_66 rfl rfl (Jvm.Free.XT.aa_eq_t rfl) (pc' := 71) (by decide) (by decide) ?_
    refine g_aload C at_71 (v := (.ref e_ROLLBACK)) rfl rfl (pc' := 73) rfl ?_
    refine g_virtual C (own_w hw 8 rfl) (own_w hw 9 rfl) (own_w hw 11 rfl) (own_w hw 10 rfl) (own_w hw 6 rfl) (own_w hw 12 rfl) (notFace_of_selects (args := #[]) (mvT C.2.2.2.2.1 (own_w hw 11 rfl))) (by decide) (X_ROLLBACK.ext O.2) (rm_begins_ROLLBACK l Z a0 hw n0 e_NONE e_BEGIN e_SUSPENDING_BEGIN e_COMMIT_AND_BEGIN e_IMPLICIT_COMMIT_AND_BEGIN e_ROLLBACK e_COMMIT e_PREPARE e_IMPLICIT_COMMIT e_ISOLATION_COMMIT h0 Z0 en O) (st := []) [] rfl rfl own_pd_1_begins rfl rfl (by decide) (W := 0) (Nat.le_of_eq rfl) (by decide) (by decide) (by decide) at_73 (pc' := 76) rfl ?_
    intro v_65 h_63 q_64
    obtain ⟨rfl, rfl⟩ := q_64
    show Go B n0 _ h0 0 0 76 #[.val (.int p0), .val (.int (3 : Int32)), .val (.ref e_ROLLBACK), .val (.ref e_ROLLBACK), .val (.ref e_ROLLBACK)] [(.int (0 : Int32))]
    refine g_if_y C at_76 (Jvm.Free.XT.i0_eq_t (by decide)) (pc' := 81) (by decide) (by decide) ?_
    refine g_aload C at_81 (v := (.ref e_ROLLBACK)) rfl rfl (pc' := 83) rfl ?_
    refine g_virtual C (own_w hw 21 rfl) (own_w hw 22 rfl) (own_w hw 24 rfl) (own_w hw 23 rfl) (own_w hw 6 rfl) (own_w hw 25 rfl) (notFace_of_selects (args := #[]) (mvT C.2.2.2.2.1 (own_w hw 24 rfl))) (by decide) (X_ROLLBACK.ext O.2) (rm_withoutBegin_ROLLBACK l Z a0 hw n0 e_NONE e_BEGIN e_SUSPENDING_BEGIN e_COMMIT_AND_BEGIN e_IMPLICIT_COMMIT_AND_BEGIN e_ROLLBACK e_COMMIT e_PREPARE e_IMPLICIT_COMMIT e_ISOLATION_COMMIT h0 Z0 en O) (st := []) [] rfl rfl own_pd_0_withoutBegin rfl rfl (by decide) (W := 0) (Nat.le_of_eq rfl) (by decide) (by decide) (by decide) at_83 (pc' := 86) rfl ?_
    intro v_68 h_66 q_67
    obtain ⟨rfl, rfl⟩ := q_67
    show Go B n0 _ h0 0 0 86 #[.val (.int p0), .val (.int (3 : Int32)), .val (.ref e_ROLLBACK), .val (.ref e_ROLLBACK), .val (.ref e_ROLLBACK)] [(.ref e_ROLLBACK)]
    refine g_aload C at_86 (v := (.ref e_ROLLBACK)) rfl rfl (pc' := 88) rfl ?_
    refine g_acmp_n C at_88 rfl rfl (Jvm.Free.XT.aa_ne_f rfl) (pc' := 91) rfl ?_
    refine g_iconst C at_91 (v := (1 : Int32)) rfl (pc' := 92) rfl ?_
    refine g_goto C at_92 (pc' := 96) (by decide) (by decide) ?_
    refine g_ret C (v := (.int (1 : Int32))) (ty := .boolean) rfl rfl (Or.inl ⟨rfl, Or.inr (Or.inl rfl), _, rfl⟩) at_96 (by decide) (by decide) ?_
    rfl
  · subst i_1e
    show Go B n0 _ h0 0 0 7 #[.val (.int p0), .unset, .unset, .unset, .unset] [(.int (4 : Int32))]
    refine g_istore_n C at_7 (v := (4 : Int32)) (L' := #[.val (.int p0), .val (.int (4 : Int32)), .unset, .unset, .unset]) rfl (pc' := 8) rfl ?_
    refine g_iload_n C at_8 (v := (4 : Int32)) rfl (pc' := 9) rfl ?_
    refine g_static C (own_w hw 1 rfl) (own_w hw 2 rfl) (own_w hw 3 rfl) (own_w hw 4 rfl) (by decide) (rm_pick4 l Z a0 hw n0 e_NONE e_BEGIN e_SUSPENDING_BEGIN e_COMMIT_AND_BEGIN e_IMPLICIT_COMMIT_AND_BEGIN e_ROLLBACK e_COMMIT e_PREPARE e_IMPLICIT_COMMIT e_ISOLATION_COMMIT h0 Z0 en O) (st := []) [(.int (4 : Int32))] rfl rfl own_pd_2_pick rfl rfl (by decide) (W := 0) (Nat.le_of_eq rfl) (by decide) (by decide) (by decide) at_9 (pc' := 12) rfl ?_
    intro v_71 h_69 q_70
    obtain ⟨rfl, rfl⟩ := q_70
    show Go B n0 _ h0 0 0 12 #[.val (.int p0), .val (.int (4 : Int32)), .unset, .unset, .unset] [(.ref e_COMMIT)]
    refine g_astore_n C at_12 (v := (.ref e_COMMIT)) (L' := #[.val (.int p0), .val (.int (4 : Int32)), .val (.ref e_COMMIT), .unset, .unset]) rfl rfl (pc' := 13) rfl ?_
    refine g_aload_n C at_13 (v := (.ref e_COMMIT)) rfl rfl (pc' := 14) rfl ?_
    refine g_virtual C (own_w hw 8 rfl) (own_w hw 9 rfl) (own_w hw 11 rfl) (own_w hw 10 rfl) (own_w hw 6 rfl) (own_w hw 12 rfl) (notFace_of_selects (args := #[]) (mvT C.2.2.2.2.1 (own_w hw 11 rfl))) (by decide) (X_COMMIT.ext O.2) (rm_begins_COMMIT l Z a0 hw n0 e_NONE e_BEGIN e_SUSPENDING_BEGIN e_COMMIT_AND_BEGIN e_IMPLICIT_COMMIT_AND_BEGIN e_ROLLBACK e_COMMIT e_PREPARE e_IMPLICIT_COMMIT e_ISOLATION_COMMIT h0 Z0 en O) (st := []) [] rfl rfl own_pd_1_begins rfl rfl (by decide) (W := 0) (Nat.le_of_eq rfl) (by decide) (by decide) (by decide) at_14 (pc' := 17) rfl ?_
    intro v_74 h_72 q_73
    obtain ⟨rfl, rfl⟩ := q_73
    show Go B n0 _ h0 0 0 17 #[.val (.int p0), .val (.int (4 : Int32)), .val (.ref e_COMMIT), .unset, .unset] [(.int (0 : Int32))]
    refine g_if_n C at_17 (Jvm.Free.XT.i0_ne_f (by decide)) (pc' := 20) rfl ?_
    refine g_aload_n C at_20 (v := (.ref e_COMMIT)) rfl rfl (pc' := 21) rfl ?_
    refine g_astore_n C at_21 (v := (.ref e_COMMIT)) (L' := #[.val (.int p0), .val (.int (4 : Int32)), .val (.ref e_COMMIT), .val (.ref e_COMMIT), .unset]) rfl rfl (pc' := 22) rfl ?_
    refine g_goto C at_22 (pc' := 57) (by decide) (by decide) ?_
    refine g_aload_n C at_57 (v := (.ref e_COMMIT)) rfl rfl (pc' := 58) rfl ?_
    refine g_virtual C (own_w hw 21 rfl) (own_w hw 22 rfl) (own_w hw 24 rfl) (own_w hw 23 rfl) (own_w hw 6 rfl) (own_w hw 25 rfl) (notFace_of_selects (args := #[]) (mvT C.2.2.2.2.1 (own_w hw 24 rfl))) (by decide) (X_COMMIT.ext O.2) (rm_withoutBegin_COMMIT l Z a0 hw n0 e_NONE e_BEGIN e_SUSPENDING_BEGIN e_COMMIT_AND_BEGIN e_IMPLICIT_COMMIT_AND_BEGIN e_ROLLBACK e_COMMIT e_PREPARE e_IMPLICIT_COMMIT e_ISOLATION_COMMIT h0 Z0 en O) (st := []) [] rfl rfl own_pd_0_withoutBegin rfl rfl (by decide) (W := 0) (Nat.le_of_eq rfl) (by decide) (by decide) (by decide) at_58 (pc' := 61) rfl ?_
    intro v_77 h_75 q_76
    obtain ⟨rfl, rfl⟩ := q_76
    show Go B n0 _ h0 0 0 61 #[.val (.int p0), .val (.int (4 : Int32)), .val (.ref e_COMMIT), .val (.ref e_COMMIT), .unset] [(.ref e_COMMIT)]
    refine g_astore C at_61 (v := (.ref e_COMMIT)) (L' := #[.val (.int p0), .val (.int (4 : Int32)), .val (.ref e_COMMIT), .val (.ref e_COMMIT), .val (.ref e_COMMIT)]) rfl rfl (pc' := 63) rfl ?_
    refine g_aload C at_63 (v := (.ref e_COMMIT)) rfl rfl (pc' := 65) rfl ?_
    refine g_aload_n C at_65 (v := (.ref e_COMMIT)) rfl rfl (pc' := 66) rfl ?_
    refine g_acmp_y C at_66 rfl rfl (Jvm.Free.XT.aa_eq_t rfl) (pc' := 71) (by decide) (by decide) ?_
    refine g_aload C at_71 (v := (.ref e_COMMIT)) rfl rfl (pc' := 73) rfl ?_
    refine g_virtual C (own_w hw 8 rfl) (own_w hw 9 rfl) (own_w hw 11 rfl) (own_w hw 10 rfl) (own_w hw 6 rfl) (own_w hw 12 rfl) (notFace_of_selects (args := #[]) (mvT C.2.2.2.2.1 (own_w hw 11 rfl))) (by decide) (X_COMMIT.ext O.2) (rm_begins_COMMIT l Z a0 hw n0 e_NONE e_BEGIN e_SUSPENDING_BEGIN e_COMMIT_AND_BEGIN e_IMPLICIT_COMMIT_AND_BEGIN e_ROLLBACK e_COMMIT e_PREPARE e_IMPLICIT_COMMIT e_ISOLATION_COMMIT h0 Z0 en O) (st := []) [] rfl rfl own_pd_1_begins rfl rfl (by decide) (W := 0) (Nat.le_of_eq rfl) (by decide) (by decide) (by decide) at_73 (pc' := 76) rfl ?_
    intro v_80 h_78 q_79
    obtain ⟨rfl, rfl⟩ := q_79
    show Go B n0 _ h0 0 0 76 #[.val (.int p0), .val (.int (4 : Int32)), .val (.ref e_COMMIT), .val (.ref e_COMMIT), .val (.ref e_COMMIT)] [(.int (0 : Int32))]
    refine g_if_y C at_76 (Jvm.Free.XT.i0_eq_t (by decide)) (pc' := 81) (by decide) (by decide) ?_
    refine g_aload C at_81 (v := (.ref e_COMMIT)) rfl rfl (pc' := 83) rfl ?_
    refine g_virtual C (own_w hw 21 rfl) (own_w hw 22 rfl) (own_w hw 24 rfl) (own_w hw 23 rfl) (own_w hw 6 rfl) (own_w hw 25 rfl) (notFace_of_selects (args := #[]) (mvT C.2.2.2.2.1 (own_w hw 24 rfl))) (by decide) (X_COMMIT.ext O.2) (rm_withoutBegin_COMMIT l Z a0 hw n0 e_NONE e_BEGIN e_SUSPENDING_BEGIN e_COMMIT_AND_BEGIN e_IMPLICIT_COMMIT_AND_BEGIN e_ROLLBACK e_COMMIT e_PREPARE e_IMPLICIT_COMMIT e_ISOLATION_COMMIT h0 Z0 en O) (st := []) [] rfl rfl own_pd_0_withoutBegin rfl rfl (by decide) (W := 0) (Nat.le_of_eq rfl) (by decide) (by decide) (by decide) at_83 (pc' := 86) rfl ?_
    intro v_83 h_81 q_82
    obtain ⟨rfl, rfl⟩ := q_82
    show Go B n0 _ h0 0 0 86 #[.val (.int p0), .val (.int (4 : Int32)), .val (.ref e_COMMIT), .val (.ref e_COMMIT), .val (.ref e_COMMIT)] [(.ref e_COMMIT)]
    refine g_aload C at_86 (v := (.ref e_COMMIT)) rfl rfl (pc' := 88) rfl ?_
    refine g_acmp_n C at_88 rfl rfl (Jvm.Free.XT.aa_ne_f rfl) (pc' := 91) rfl ?_
    refine g_iconst C at_91 (v := (1 : Int32)) rfl (pc' := 92) rfl ?_
    refine g_goto C at_92 (pc' := 96) (by decide) (by decide) ?_
    refine g_ret C (v := (.int (1 : Int32))) (ty := .boolean) rfl rfl (Or.inl ⟨rfl, Or.inr (Or.inl rfl), _, rfl⟩) at_96 (by decide) (by decide) ?_
    rfl
  · subst i_1e
    show Go B n0 _ h0 0 0 7 #[.val (.int p0), .unset, .unset, .unset, .unset] [(.int (5 : Int32))]
    refine g_istore_n C at_7 (v := (5 : Int32)) (L' := #[.val (.int p0), .val (.int (5 : Int32)), .unset, .unset, .unset]) rfl (pc' := 8) rfl ?_
    refine g_iload_n C at_8 (v := (5 : Int32)) rfl (pc' := 9) rfl ?_
    refine g_static C (own_w hw 1 rfl) (own_w hw 2 rfl) (own_w hw 3 rfl) (own_w hw 4 rfl) (by decide) (rm_pick5 l Z a0 hw n0 e_NONE e_BEGIN e_SUSPENDING_BEGIN e_COMMIT_AND_BEGIN e_IMPLICIT_COMMIT_AND_BEGIN e_ROLLBACK e_COMMIT e_PREPARE e_IMPLICIT_COMMIT e_ISOLATION_COMMIT h0 Z0 en O) (st := []) [(.int (5 : Int32))] rfl rfl own_pd_2_pick rfl rfl (by decide) (W := 0) (Nat.le_of_eq rfl) (by decide) (by decide) (by decide) at_9 (pc' := 12) rfl ?_
    intro v_86 h_84 q_85
    obtain ⟨rfl, rfl⟩ := q_85
    show Go B n0 _ h0 0 0 12 #[.val (.int p0), .val (.int (5 : Int32)), .unset, .unset, .unset] [(.ref e_PREPARE)]
    refine g_astore_n C at_12 (v := (.ref e_PREPARE)) (L' := #[.val (.int p0), .val (.int (5 : Int32)), .val (.ref e_PREPARE), .unset, .unset]) rfl rfl (pc' := 13) rfl ?_
    refine g_aload_n C at_13 (v := (.ref e_PREPARE)) rfl rfl (pc' := 14) rfl ?_
    refine g_virtual C (own_w hw 8 rfl) (own_w hw 9 rfl) (own_w hw 11 rfl) (own_w hw 10 rfl) (own_w hw 6 rfl) (own_w hw 12 rfl) (notFace_of_selects (args := #[]) (mvT C.2.2.2.2.1 (own_w hw 11 rfl))) (by decide) (X_PREPARE.ext O.2) (rm_begins_PREPARE l Z a0 hw n0 e_NONE e_BEGIN e_SUSPENDING_BEGIN e_COMMIT_AND_BEGIN e_IMPLICIT_COMMIT_AND_BEGIN e_ROLLBACK e_COMMIT e_PREPARE e_IMPLICIT_COMMIT e_ISOLATION_COMMIT h0 Z0 en O) (st := []) [] rfl rfl own_pd_1_begins rfl rfl (by decide) (W := 0) (Nat.le_of_eq rfl) (by decide) (by decide) (by decide) at_14 (pc' := 17) rfl ?_
    intro v_89 h_87 q_88
    obtain ⟨rfl, rfl⟩ := q_88
    show Go B n0 _ h0 0 0 17 #[.val (.int p0), .val (.int (5 : Int32)), .val (.ref e_PREPARE), .unset, .unset] [(.int (0 : Int32))]
    refine g_if_n C at_17 (Jvm.Free.XT.i0_ne_f (by decide)) (pc' := 20) rfl ?_
    refine g_aload_n C at_20 (v := (.ref e_PREPARE)) rfl rfl (pc' := 21) rfl ?_
    refine g_astore_n C at_21 (v := (.ref e_PREPARE)) (L' := #[.val (.int p0), .val (.int (5 : Int32)), .val (.ref e_PREPARE), .val (.ref e_PREPARE), .unset]) rfl rfl (pc' := 22) rfl ?_
    refine g_goto C at_22 (pc' := 57) (by decide) (by decide) ?_
    refine g_aload_n C at_57 (v := (.ref e_PREPARE)) rfl rfl (pc' := 58) rfl ?_
    refine g_virtual C (own_w hw 21 rfl) (own_w hw 22 rfl) (own_w hw 24 rfl) (own_w hw 23 rfl) (own_w hw 6 rfl) (own_w hw 25 rfl) (notFace_of_selects (args := #[]) (mvT C.2.2.2.2.1 (own_w hw 24 rfl))) (by decide) (X_PREPARE.ext O.2) (rm_withoutBegin_PREPARE l Z a0 hw n0 e_NONE e_BEGIN e_SUSPENDING_BEGIN e_COMMIT_AND_BEGIN e_IMPLICIT_COMMIT_AND_BEGIN e_ROLLBACK e_COMMIT e_PREPARE e_IMPLICIT_COMMIT e_ISOLATION_COMMIT h0 Z0 en O) (st := []) [] rfl rfl own_pd_0_withoutBegin rfl rfl (by decide) (W := 0) (Nat.le_of_eq rfl) (by decide) (by decide) (by decide) at_58 (pc' := 61) rfl ?_
    intro v_92 h_90 q_91
    obtain ⟨rfl, rfl⟩ := q_91
    show Go B n0 _ h0 0 0 61 #[.val (.int p0), .val (.int (5 : Int32)), .val (.ref e_PREPARE), .val (.ref e_PREPARE), .unset] [(.ref e_PREPARE)]
    refine g_astore C at_61 (v := (.ref e_PREPARE)) (L' := #[.val (.int p0), .val (.int (5 : Int32)), .val (.ref e_PREPARE), .val (.ref e_PREPARE), .val (.ref e_PREPARE)]) rfl rfl (pc' := 63) rfl ?_
    refine g_aload C at_63 (v := (.ref e_PREPARE)) rfl rfl (pc' := 65) rfl ?_
    refine g_aload_n C at_65 (v := (.ref e_PREPARE)) rfl rfl (pc' := 66) rfl ?_
    refine g_acmp_y C at_66 rfl rfl (Jvm.Free.XT.aa_eq_t rfl) (pc' := 71) (by decide) (by decide) ?_
    refine g_aload C at_71 (v := (.ref e_PREPARE)) rfl rfl (pc' := 73) rfl ?_
    refine g_virtual C (own_w hw 8 rfl) (own_w hw 9 rfl) (own_w hw 11 rfl) (own_w hw 10 rfl) (own_w hw 6 rfl) (own_w hw 12 rfl) (notFace_of_selects (args := #[]) (mvT C.2.2.2.2.1 (own_w hw 11 rfl))) (by decide) (X_PREPARE.ext O.2) (rm_begins_PREPARE l Z a0 hw n0 e_NONE e_BEGIN e_SUSPENDING_BEGIN e_COMMIT_AND_BEGIN e_IMPLICIT_COMMIT_AND_BEGIN e_ROLLBACK e_COMMIT e_PREPARE e_IMPLICIT_COMMIT e_ISOLATION_COMMIT h0 Z0 en O) (st := []) [] rfl rfl own_pd_1_begins rfl rfl (by decide) (W := 0) (Nat.le_of_eq rfl) (by decide) (by decide) (by decide) at_73 (pc' := 76) rfl ?_
    intro v_95 h_93 q_94
    obtain ⟨rfl, rfl⟩ := q_94
    show Go B n0 _ h0 0 0 76 #[.val (.int p0), .val (.int (5 : Int32)), .val (.ref e_PREPARE), .val (.ref e_PREPARE), .val (.ref e_PREPARE)] [(.int (0 : Int32))]
    refine g_if_y C at_76 (Jvm.Free.XT.i0_eq_t (by decide)) (pc' := 81) (by decide) (by decide) ?_
    refine g_aload C at_81 (v := (.ref e_PREPARE)) rfl rfl (pc' := 83) rfl ?_
    refine g_virtual C (own_w hw 21 rfl) (own_w hw 22 rfl) (own_w hw 24 rfl) (own_w hw 23 rfl) (own_w hw 6 rfl) (own_w hw 25 rfl) (notFace_of_selects (args := #[]) (mvT C.2.2.2.2.1 (own_w hw 24 rfl))) (by decide) (X_PREPARE.ext O.2) (rm_withoutBegin_PREPARE l Z a0 hw n0 e_NONE e_BEGIN e_SUSPENDING_BEGIN e_COMMIT_AND_BEGIN e_IMPLICIT_COMMIT_AND_BEGIN e_ROLLBACK e_COMMIT e_PREPARE e_IMPLICIT_COMMIT e_ISOLATION_COMMIT h0 Z0 en O) (st := []) [] rfl rfl own_pd_0_withoutBegin rfl rfl (by decide) (W := 0) (Nat.le_of_eq rfl) (by decide) (by decide) (by decide) at_83 (pc' := 86) rfl ?_
    intro v_98 h_96 q_97
    obtain ⟨rfl, rfl⟩ := q_97
    show Go B n0 _ h0 0 0 86 #[.val (.int p0), .val (.int (5 : Int32)), .val (.ref e_PREPARE), .val (.ref e_PREPARE), .val (.ref e_PREPARE)] [(.ref e_PREPARE)]
    refine g_aload C at_86 (v := (.ref e_PREPARE)) rfl rfl (pc' := 88) rfl ?_
    refine g_acmp_n C at_88 rfl rfl (Jvm.Free.XT.aa_ne_f rfl) (pc' := 91) rfl ?_
    refine g_iconst C at_91 (v := (1 : Int32)) rfl (pc' := 92) rfl ?_
    refine g_goto C at_92 (pc' := 96) (by decide) (by decide) ?_
    refine g_ret C (v := (.int (1 : Int32))) (ty := .boolean) rfl rfl (Or.inl ⟨rfl, Or.inr (Or.inl rfl), _, rfl⟩) at_96 (by decide) (by decide) ?_
    rfl
  · subst i_1e
    show Go B n0 _ h0 0 0 7 #[.val (.int p0), .unset, .unset, .unset, .unset] [(.int (6 : Int32))]
    refine g_istore_n C at_7 (v := (6 : Int32)) (L' := #[.val (.int p0), .val (.int (6 : Int32)), .unset, .unset, .unset]) rfl (pc' := 8) rfl ?_
    refine g_iload_n C at_8 (v := (6 : Int32)) rfl (pc' := 9) rfl ?_
    refine g_static C (own_w hw 1 rfl) (own_w hw 2 rfl) (own_w hw 3 rfl) (own_w hw 4 rfl) (by decide) (rm_pick6 l Z a0 hw n0 e_NONE e_BEGIN e_SUSPENDING_BEGIN e_COMMIT_AND_BEGIN e_IMPLICIT_COMMIT_AND_BEGIN e_ROLLBACK e_COMMIT e_PREPARE e_IMPLICIT_COMMIT e_ISOLATION_COMMIT h0 Z0 en O) (st := []) [(.int (6 : Int32))] rfl rfl own_pd_2_pick rfl rfl (by decide) (W := 0) (Nat.le_of_eq rfl) (by decide) (by decide) (by decide) at_9 (pc' := 12) rfl ?_
    intro v_101 h_99 q_100
    obtain ⟨rfl, rfl⟩ := q_100
    show Go B n0 _ h0 0 0 12 #[.val (.int p0), .val (.int (6 : Int32)), .unset, .unset, .unset] [(.ref e_COMMIT_AND_BEGIN)]
    refine g_astore_n C at_12 (v := (.ref e_COMMIT_AND_BEGIN)) (L' := #[.val (.int p0), .val (.int (6 : Int32)), .val (.ref e_COMMIT_AND_BEGIN), .unset, .unset]) rfl rfl (pc' := 13) rfl ?_
    refine g_aload_n C at_13 (v := (.ref e_COMMIT_AND_BEGIN)) rfl rfl (pc' := 14) rfl ?_
    refine g_virtual C (own_w hw 8 rfl) (own_w hw 9 rfl) (own_w hw 11 rfl) (own_w hw 10 rfl) (own_w hw 6 rfl) (own_w hw 12 rfl) (notFace_of_selects (args := #[]) (mvT C.2.2.2.2.1 (own_w hw 11 rfl))) (by decide) (X_COMMIT_AND_BEGIN.ext O.2) (rm_begins_COMMIT_AND_BEGIN l Z a0 hw n0 e_NONE e_BEGIN e_SUSPENDING_BEGIN e_COMMIT_AND_BEGIN e_IMPLICIT_COMMIT_AND_BEGIN e_ROLLBACK e_COMMIT e_PREPARE e_IMPLICIT_COMMIT e_ISOLATION_COMMIT h0 Z0 en O) (st := []) [] rfl rfl own_pd_1_begins rfl rfl (by decide) (W := 0) (Nat.le_of_eq rfl) (by decide) (by decide) (by decide) at_14 (pc' := 17) rfl ?_
    intro v_104 h_102 q_103
    obtain ⟨rfl, rfl⟩ := q_103
    show Go B n0 _ h0 0 0 17 #[.val (.int p0), .val (.int (6 : Int32)), .val (.ref e_COMMIT_AND_BEGIN), .unset, .unset] [(.int (1 : Int32))]
    refine g_if_y C at_17 (Jvm.Free.XT.i0_ne_t (by decide)) (pc' := 25) (by decide) (by decide) ?_
    refine g_aload_n C at_25 (v := (.ref e_COMMIT_AND_BEGIN)) rfl rfl (pc' := 26) rfl ?_
    refine g_virtual C (own_w hw 29 rfl) (own_w hw 30 rfl) (own_w hw 32 rfl) (own_w hw 31 rfl) (own_w hw 6 rfl) (own_w hw 33 rfl) (notFace_of_selects (args := #[]) (mvT C.2.2.2.2.1 (own_w hw 32 rfl))) (by decide) (X_COMMIT_AND_BEGIN.ext O.2) (rm_commits_COMMIT_AND_BEGIN l Z a0 hw n0 e_NONE e_BEGIN e_SUSPENDING_BEGIN e_COMMIT_AND_BEGIN e_IMPLICIT_COMMIT_AND_BEGIN e_ROLLBACK e_COMMIT e_PREPARE e_IMPLICIT_COMMIT e_ISOLATION_COMMIT h0 Z0 en O) (st := []) [] rfl rfl own_pd_1_commits rfl rfl (by decide) (W := 0) (Nat.le_of_eq rfl) (by decide) (by decide) (by decide) at_26 (pc' := 29) rfl ?_
    intro v_107 h_105 q_106
    obtain ⟨rfl, rfl⟩ := q_106
    show Go B n0 _ h0 0 0 29 #[.val (.int p0), .val (.int (6 : Int32)), .val (.ref e_COMMIT_AND_BEGIN), .unset, .unset] [(.int (1 : Int32))]
    refine g_if_y C at_29 (Jvm.Free.XT.i0_ne_t (by decide)) (pc' := 39) (by decide) (by decide) ?_
    refine g_aload_n C at_39 (v := (.ref e_COMMIT_AND_BEGIN)) rfl rfl (pc' := 40) rfl ?_
    refine g_virtual C (own_w hw 52 rfl) (own_w hw 39 rfl) (own_w hw 41 rfl) (own_w hw 40 rfl) (own_w hw 6 rfl) (own_w hw 42 rfl) (notFace_of_selects (args := #[]) (mvT C.2.2.2.2.1 (own_w hw 41 rfl))) (by decide) (X_COMMIT_AND_BEGIN.ext O.2) (rm_commitsImplicitly_COMMIT_AND_BEGIN l Z a0 hw n0 e_NONE e_BEGIN e_SUSPENDING_BEGIN e_COMMIT_AND_BEGIN e_IMPLICIT_COMMIT_AND_BEGIN e_ROLLBACK e_COMMIT e_PREPARE e_IMPLICIT_COMMIT e_ISOLATION_COMMIT h0 Z0 en O) (st := []) [] rfl rfl own_pd_1_commitsImplicitly rfl rfl (by decide) (W := 0) (Nat.le_of_eq rfl) (by decide) (by decide) (by decide) at_40 (pc' := 43) rfl ?_
    intro v_110 h_108 q_109
    obtain ⟨rfl, rfl⟩ := q_109
    show Go B n0 _ h0 0 0 43 #[.val (.int p0), .val (.int (6 : Int32)), .val (.ref e_COMMIT_AND_BEGIN), .unset, .unset] [(.int (0 : Int32))]
    refine g_if_y C at_43 (Jvm.Free.XT.i0_eq_t (by decide)) (pc' := 53) (by decide) (by decide) ?_
    refine g_getstatic C (host := "") (v := (.ref e_COMMIT)) (Or.inl (own_w hw 48 rfl)) Via.refl (S_COMMIT.ext O.2) at_53 (pc' := 56) rfl ?_
    refine g_astore_n C at_56 (v := (.ref e_COMMIT)) (L' := #[.val (.int p0), .val (.int (6 : Int32)), .val (.ref e_COMMIT_AND_BEGIN), .val (.ref e_COMMIT), .unset]) rfl rfl (pc' := 57) rfl ?_
    refine g_aload_n C at_57 (v := (.ref e_COMMIT_AND_BEGIN)) rfl rfl (pc' := 58) rfl ?_
    refine g_virtual C (own_w hw 21 rfl) (own_w hw 22 rfl) (own_w hw 24 rfl) (own_w hw 23 rfl) (own_w hw 6 rfl) (own_w hw 25 rfl) (notFace_of_selects (args := #[]) (mvT C.2.2.2.2.1 (own_w hw 24 rfl))) (by decide) (X_COMMIT_AND_BEGIN.ext O.2) (rm_withoutBegin_COMMIT_AND_BEGIN l Z a0 hw n0 e_NONE e_BEGIN e_SUSPENDING_BEGIN e_COMMIT_AND_BEGIN e_IMPLICIT_COMMIT_AND_BEGIN e_ROLLBACK e_COMMIT e_PREPARE e_IMPLICIT_COMMIT e_ISOLATION_COMMIT h0 Z0 en O) (st := []) [] rfl rfl own_pd_0_withoutBegin rfl rfl (by decide) (W := 0) (Nat.le_of_eq rfl) (by decide) (by decide) (by decide) at_58 (pc' := 61) rfl ?_
    intro v_113 h_111 q_112
    obtain ⟨rfl, rfl⟩ := q_112
    show Go B n0 _ h0 0 0 61 #[.val (.int p0), .val (.int (6 : Int32)), .val (.ref e_COMMIT_AND_BEGIN), .val (.ref e_COMMIT), .unset] [(.ref e_COMMIT)]
    refine g_astore C at_61 (v := (.ref e_COMMIT)) (L' := #[.val (.int p0), .val (.int (6 : Int32)), .val (.ref e_COMMIT_AND_BEGIN), .val (.ref e_COMMIT), .val (.ref e_COMMIT)]) rfl rfl (pc' := 63) rfl ?_
    refine g_aload C at_63 (v := (.ref e_COMMIT)) rfl rfl (pc' := 65) rfl ?_
    refine g_aload_n C at_65 (v := (.ref e_COMMIT)) rfl rfl (pc' := 66) rfl ?_
    refine g_acmp_y C at_66 rfl rfl (Jvm.Free.XT.aa_eq_t rfl) (pc' := 71) (by decide) (by decide) ?_
    refine g_aload C at_71 (v := (.ref e_COMMIT)) rfl rfl (pc' := 73) rfl ?_
    refine g_virtual C (own_w hw 8 rfl) (own_w hw 9 rfl) (own_w hw 11 rfl) (own_w hw 10 rfl) (own_w hw 6 rfl) (own_w hw 12 rfl) (notFace_of_selects (args := #[]) (mvT C.2.2.2.2.1 (own_w hw 11 rfl))) (by decide) (X_COMMIT.ext O.2) (rm_begins_COMMIT l Z a0 hw n0 e_NONE e_BEGIN e_SUSPENDING_BEGIN e_COMMIT_AND_BEGIN e_IMPLICIT_COMMIT_AND_BEGIN e_ROLLBACK e_COMMIT e_PREPARE e_IMPLICIT_COMMIT e_ISOLATION_COMMIT h0 Z0 en O) (st := []) [] rfl rfl own_pd_1_begins rfl rfl (by decide) (W := 0) (Nat.le_of_eq rfl) (by decide) (by decide) (by decide) at_73 (pc' := 76) rfl ?_
    intro v_116 h_114 q_115
    obtain ⟨rfl, rfl⟩ := q_115
    show Go B n0 _ h0 0 0 76 #[.val (.int p0), .val (.int (6 : Int32)), .val (.ref e_COMMIT_AND_BEGIN), .val (.ref e_COMMIT), .val (.ref e_COMMIT)] [(.int (0 : Int32))]
    refine g_if_y C at_76 (Jvm.Free.XT.i0_eq_t (by decide)) (pc' := 81) (by decide) (by decide) ?_
    refine g_aload C at_81 (v := (.ref e_COMMIT)) rfl rfl (pc' := 83) rfl ?_
    refine g_virtual C (own_w hw 21 rfl) (own_w hw 22 rfl) (own_w hw 24 rfl) (own_w hw 23 rfl) (own_w hw 6 rfl) (own_w hw 25 rfl) (notFace_of_selects (args := #[]) (mvT C.2.2.2.2.1 (own_w hw 24 rfl))) (by decide) (X_COMMIT.ext O.2) (rm_withoutBegin_COMMIT l Z a0 hw n0 e_NONE e_BEGIN e_SUSPENDING_BEGIN e_COMMIT_AND_BEGIN e_IMPLICIT_COMMIT_AND_BEGIN e_ROLLBACK e_COMMIT e_PREPARE e_IMPLICIT_COMMIT e_ISOLATION_COMMIT h0 Z0 en O) (st := []) [] rfl rfl own_pd_0_withoutBegin rfl rfl (by decide) (W := 0) (Nat.le_of_eq rfl) (by decide) (by decide) (by decide) at_83 (pc' := 86) rfl ?_
    intro v_119 h_117 q_118
    obtain ⟨rfl, rfl⟩ := q_118
    show Go B n0 _ h0 0 0 86 #[.val (.int p0), .val (.int (6 : Int32)), .val (.ref e_COMMIT_AND_BEGIN), .val (.ref e_COMMIT), .val (.ref e_COMMIT)] [(.ref e_COMMIT)]
    refine g_aload C at_86 (v := (.ref e_COMMIT)) rfl rfl (pc' := 88) rfl ?_
    refine g_acmp_n C at_88 rfl rfl (Jvm.Free.XT.aa_ne_f rfl) (pc' := 91) rfl ?_
    refine g_iconst C at_91 (v := (1 : Int32)) rfl (pc' := 92) rfl ?_
    refine g_goto C at_92 (pc' := 96) (by decide) (by decide) ?_
    refine g_ret C (v := (.int (1 : Int32))) (ty := .boolean) rfl rfl (Or.inl ⟨rfl, Or.inr (Or.inl rfl), _, rfl⟩) at_96 (by decide) (by decide) ?_
    rfl
  · subst i_1e
    show Go B n0 _ h0 0 0 7 #[.val (.int p0), .unset, .unset, .unset, .unset] [(.int (7 : Int32))]
    refine g_istore_n C at_7 (v := (7 : Int32)) (L' := #[.val (.int p0), .val (.int (7 : Int32)), .unset, .unset, .unset]) rfl (pc' := 8) rfl ?_
    refine g_iload_n C at_8 (v := (7 : Int32)) rfl (pc' := 9) rfl ?_
    refine g_static C (own_w hw 1 rfl) (own_w hw 2 rfl) (own_w hw 3 rfl) (own_w hw 4 rfl) (by decide) (rm_pick7 l Z a0 hw n0 e_NONE e_BEGIN e_SUSPENDING_BEGIN e_COMMIT_AND_BEGIN e_IMPLICIT_COMMIT_AND_BEGIN e_ROLLBACK e_COMMIT e_PREPARE e_IMPLICIT_COMMIT e_ISOLATION_COMMIT h0 Z0 en O) (st := []) [(.int (7 : Int32))] rfl rfl own_pd_2_pick rfl rfl (by decide) (W := 0) (Nat.le_of_eq rfl) (by decide) (by decide) (by decide) at_9 (pc' := 12) rfl ?_
    intro v_122 h_120 q_121
    obtain ⟨rfl, rfl⟩ := q_121
    show Go B n0 _ h0 0 0 12 #[.val (.int p0), .val (.int (7 : Int32)), .unset, .unset, .unset] [(.ref e_IMPLICIT_COMMIT)]
    refine g_astore_n C at_12 (v := (.ref e_IMPLICIT_COMMIT)) (L' := #[.val (.int p0), .val (.int (7 : Int32)), .val (.ref e_IMPLICIT_COMMIT), .unset, .unset]) rfl rfl (pc' := 13) rfl ?_
    refine g_aload_n C at_13 (v := (.ref e_IMPLICIT_COMMIT)) rfl rfl (pc' := 14) rfl ?_
    refine g_virtual C (own_w hw 8 rfl) (own_w hw 9 rfl) (own_w hw 11 rfl) (own_w hw 10 rfl) (own_w hw 6 rfl) (own_w hw 12 rfl) (notFace_of_selects (args := #[]) (mvT C.2.2.2.2.1 (own_w hw 11 rfl))) (by decide) (X_IMPLICIT_COMMIT.ext O.2) (rm_begins_IMPLICIT_COMMIT l Z a0 hw n0 e_NONE e_BEGIN e_SUSPENDING_BEGIN e_COMMIT_AND_BEGIN e_IMPLICIT_COMMIT_AND_BEGIN e_ROLLBACK e_COMMIT e_PREPARE e_IMPLICIT_COMMIT e_ISOLATION_COMMIT h0 Z0 en O) (st := []) [] rfl rfl own_pd_1_begins rfl rfl (by decide) (W := 0) (Nat.le_of_eq rfl) (by decide) (by decide) (by decide) at_14 (pc' := 17) rfl ?_
    intro v_125 h_123 q_124
    obtain ⟨rfl, rfl⟩ := q_124
    show Go B n0 _ h0 0 0 17 #[.val (.int p0), .val (.int (7 : Int32)), .val (.ref e_IMPLICIT_COMMIT), .unset, .unset] [(.int (0 : Int32))]
    refine g_if_n C at_17 (Jvm.Free.XT.i0_ne_f (by decide)) (pc' := 20) rfl ?_
    refine g_aload_n C at_20 (v := (.ref e_IMPLICIT_COMMIT)) rfl rfl (pc' := 21) rfl ?_
    refine g_astore_n C at_21 (v := (.ref e_IMPLICIT_COMMIT)) (L' := #[.val (.int p0), .val (.int (7 : Int32)), .val (.ref e_IMPLICIT_COMMIT), .val (.ref e_IMPLICIT_COMMIT), .unset]) rfl rfl (pc' := 22) rfl ?_
    refine g_goto C at_22 (pc' := 57) (by decide) (by decide) ?_
    refine g_aload_n C at_57 (v := (.ref e_IMPLICIT_COMMIT)) rfl rfl (pc' := 58) rfl ?_
    refine g_virtual C (own_w hw 21 rfl) (own_w hw 22 rfl) (own_w hw 24 rfl) (own_w hw 23 rfl) (own_w hw 6 rfl) (own_w hw 25 rfl) (notFace_of_selects (args := #[]) (mvT C.2.2.2.2.1 (own_w hw 24 rfl))) (by decide) (X_IMPLICIT_COMMIT.ext O.2) (rm_withoutBegin_IMPLICIT_COMMIT l Z a0 hw n0 e_NONE e_BEGIN e_SUSPENDING_BEGIN e_COMMIT_AND_BEGIN e_IMPLICIT_COMMIT_AND_BEGIN e_ROLLBACK e_COMMIT e_PREPARE e_IMPLICIT_COMMIT e_ISOLATION_COMMIT h0 Z0 en O) (st := []) [] rfl rfl own_pd_0_withoutBegin rfl rfl (by decide) (W := 0) (Nat.le_of_eq rfl) (by decide) (by decide) (by decide) at_58 (pc' := 61) rfl ?_
    intro v_128 h_126 q_127
    obtain ⟨rfl, rfl⟩ := q_127
    show Go B n0 _ h0 0 0 61 #[.val (.int p0), .val (.int (7 : Int32)), .val (.ref e_IMPLICIT_COMMIT), .val (.ref e_IMPLICIT_COMMIT), .unset] [(.ref e_IMPLICIT_COMMIT)]
    refine g_astore C at_61 (v := (.ref e_IMPLICIT_COMMIT)) (L' := #[.val (.int p0), .val (.int (7 : Int32)), .val (.ref e_IMPLICIT_COMMIT), .val (.ref e_IMPLICIT_COMMIT), .val (.ref e_IMPLICIT_COMMIT)]) rfl rfl (pc' := 63) rfl ?_
    refine g_aload C at_63 (v := (.ref e_IMPLICIT_COMMIT)) rfl rfl (pc' := 65) rfl ?_
    refine g_aload_n C at_65 (v := (.ref e_IMPLICIT_COMMIT)) rfl rfl (pc' := 66) rfl ?_
    refine g_acmp_y C at_66 rfl rfl (Jvm.Free.XT.aa_eq_t rfl) (pc' := 71) (by decide) (by decide) ?_
    refine g_aload C at_71 (v := (.ref e_IMPLICIT_COMMIT)) rfl rfl (pc' := 73) rfl ?_
    refine g_virtual C (own_w hw 8 rfl) (own_w hw 9 rfl) (own_w hw 11 rfl) (own_w hw 10 rfl) (own_w hw 6 rfl) (own_w hw 12 rfl) (notFace_of_selects (args := #[]) (mvT C.2.2.2.2.1 (own_w hw 11 rfl))) (by decide) (X_IMPLICIT_COMMIT.ext O.2) (rm_begins_IMPLICIT_COMMIT l Z a0 hw n0 e_NONE e_BEGIN e_SUSPENDING_BEGIN e_COMMIT_AND_BEGIN e_IMPLICIT_COMMIT_AND_BEGIN e_ROLLBACK e_COMMIT e_PREPARE e_IMPLICIT_COMMIT e_ISOLATION_COMMIT h0 Z0 en O) (st := []) [] rfl rfl own_pd_1_begins rfl rfl (by decide) (W := 0) (Nat.le_of_eq rfl) (by decide) (by decide) (by decide) at_73 (pc' := 76) rfl ?_
    intro v_131 h_129 q_130
    obtain ⟨rfl, rfl⟩ := q_130
    show Go B n0 _ h0 0 0 76 #[.val (.int p0), .val (.int (7 : Int32)), .val (.ref e_IMPLICIT_COMMIT), .val (.ref e_IMPLICIT_COMMIT), .val (.ref e_IMPLICIT_COMMIT)] [(.int (0 : Int32))]
    refine g_if_y C at_76 (Jvm.Free.XT.i0_eq_t (by decide)) (pc' := 81) (by decide) (by decide) ?_
    refine g_aload C at_81 (v := (.ref e_IMPLICIT_COMMIT)) rfl rfl (pc' := 83) rfl ?_
    refine g_virtual C (own_w hw 21 rfl) (own_w hw 22 rfl) (own_w hw 24 rfl) (own_w hw 23 rfl) (own_w hw 6 rfl) (own_w hw 25 rfl) (notFace_of_selects (args := #[]) (mvT C.2.2.2.2.1 (own_w hw 24 rfl))) (by decide) (X_IMPLICIT_COMMIT.ext O.2) (rm_withoutBegin_IMPLICIT_COMMIT l Z a0 hw n0 e_NONE e_BEGIN e_SUSPENDING_BEGIN e_COMMIT_AND_BEGIN e_IMPLICIT_COMMIT_AND_BEGIN e_ROLLBACK e_COMMIT e_PREPARE e_IMPLICIT_COMMIT e_ISOLATION_COMMIT h0 Z0 en O) (st := []) [] rfl rfl own_pd_0_withoutBegin rfl rfl (by decide) (W := 0) (Nat.le_of_eq rfl) (by decide) (by decide) (by decide) at_83 (pc' := 86) rfl ?_
    intro v_134 h_132 q_133
    obtain ⟨rfl, rfl⟩ := q_133
    show Go B n0 _ h0 0 0 86 #[.val (.int p0), .val (.int (7 : Int32)), .val (.ref e_IMPLICIT_COMMIT), .val (.ref e_IMPLICIT_COMMIT), .val (.ref e_IMPLICIT_COMMIT)] [(.ref e_IMPLICIT_COMMIT)]
    refine g_aload C at_86 (v := (.ref e_IMPLICIT_COMMIT)) rfl rfl (pc' := 88) rfl ?_
    refine g_acmp_n C at_88 rfl rfl (Jvm.Free.XT.aa_ne_f rfl) (pc' := 91) rfl ?_
    refine g_iconst C at_91 (v := (1 : Int32)) rfl (pc' := 92) rfl ?_
    refine g_goto C at_92 (pc' := 96) (by decide) (by decide) ?_
    refine g_ret C (v := (.int (1 : Int32))) (ty := .boolean) rfl rfl (Or.inl ⟨rfl, Or.inr (Or.inl rfl), _, rfl⟩) at_96 (by decide) (by decide) ?_
    rfl
  · subst i_1e
    show Go B n0 _ h0 0 0 7 #[.val (.int p0), .unset, .unset, .unset, .unset] [(.int (8 : Int32))]
    refine g_istore_n C at_7 (v := (8 : Int32)) (L' := #[.val (.int p0), .val (.int (8 : Int32)), .unset, .unset, .unset]) rfl (pc' := 8) rfl ?_
    refine g_iload_n C at_8 (v := (8 : Int32)) rfl (pc' := 9) rfl ?_
    refine g_static C (own_w hw 1 rfl) (own_w hw 2 rfl) (own_w hw 3 rfl) (own_w hw 4 rfl) (by decide) (rm_pick8 l Z a0 hw n0 e_NONE e_BEGIN e_SUSPENDING_BEGIN e_COMMIT_AND_BEGIN e_IMPLICIT_COMMIT_AND_BEGIN e_ROLLBACK e_COMMIT e_PREPARE e_IMPLICIT_COMMIT e_ISOLATION_COMMIT h0 Z0 en O) (st := []) [(.int (8 : Int32))] rfl rfl own_pd_2_pick rfl rfl (by decide) (W := 0) (Nat.le_of_eq rfl) (by decide) (by decide) (by decide) at_9 (pc' := 12) rfl ?_
    intro v_137 h_135 q_136
    obtain ⟨rfl, rfl⟩ := q_136
    show Go B n0 _ h0 0 0 12 #[.val (.int p0), .val (.int (8 : Int32)), .unset, .unset, .unset] [(.ref e_IMPLICIT_COMMIT_AND_BEGIN)]
    refine g_astore_n C at_12 (v := (.ref e_IMPLICIT_COMMIT_AND_BEGIN)) (L' := #[.val (.int p0), .val (.int (8 : Int32)), .val (.ref e_IMPLICIT_COMMIT_AND_BEGIN), .unset, .unset]) rfl rfl (pc' := 13) rfl ?_
    refine g_aload_n C at_13 (v := (.ref e_IMPLICIT_COMMIT_AND_BEGIN)) rfl rfl (pc' := 14) rfl ?_
    refine g_virtual C (own_w hw 8 rfl) (own_w hw 9 rfl) (own_w hw 11 rfl) (own_w hw 10 rfl) (own_w hw 6 rfl) (own_w hw 12 rfl) (notFace_of_selects (args := #[]) (mvT C.2.2.2.2.1 (own_w hw 11 rfl))) (by decide) (X_IMPLICIT_COMMIT_AND_BEGIN.ext O.2) (rm_begins_IMPLICIT_COMMIT_AND_BEGIN l Z a0 hw n0 e_NONE e_BEGIN e_SUSPENDING_BEGIN e_COMMIT_AND_BEGIN e_IMPLICIT_COMMIT_AND_BEGIN e_ROLLBACK e_COMMIT e_PREPARE e_IMPLICIT_COMMIT e_ISOLATION_COMMIT h0 Z0 en O) (st := []) [] rfl rfl own_pd_1_begins rfl rfl (by decide) (W := 0) (Nat.le_of_eq rfl) (by decide) (by decide) (by decide) at_14 (pc' := 17) rfl ?_
    intro v_140 h_138 q_139
    obtain ⟨rfl, rfl⟩ := q_139
    show Go B n0 _ h0 0 0 17 #[.val (.int p0), .val (.int (8 : Int32)), .val (.ref e_IMPLICIT_COMMIT_AND_BEGIN), .unset, .unset] [(.int (1 : Int32))]
    refine g_if_y C at_17 (Jvm.Free.XT.i0_ne_t (by decide)) (pc' := 25) (by decide) (by decide) ?_
    refine g_aload_n C at_25 (v := (.ref e_IMPLICIT_COMMIT_AND_BEGIN)) rfl rfl (pc' := 26) rfl ?_
    refine g_virtual C (own_w hw 29 rfl) (own_w hw 30 rfl) (own_w hw 32 rfl) (own_w hw 31 rfl) (own_w hw 6 rfl) (own_w hw 33 rfl) (notFace_of_selects (args := #[]) (mvT C.2.2.2.2.1 (own_w hw 32 rfl))) (by decide) (X_IMPLICIT_COMMIT_AND_BEGIN.ext O.2) (rm_commits_IMPLICIT_COMMIT_AND_BEGIN l Z a0 hw n0 e_NONE e_BEGIN e_SUSPENDING_BEGIN e_COMMIT_AND_BEGIN e_IMPLICIT_COMMIT_AND_BEGIN e_ROLLBACK e_COMMIT e_PREPARE e_IMPLICIT_COMMIT e_ISOLATION_COMMIT h0 Z0 en O) (st := []) [] rfl rfl own_pd_1_commits rfl rfl (by decide) (W := 0) (Nat.le_of_eq rfl) (by decide) (by decide) (by decide) at_26 (pc' := 29) rfl ?_
    intro v_143 h_141 q_142
    obtain ⟨rfl, rfl⟩ := q_142
    show Go B n0 _ h0 0 0 29 #[.val (.int p0), .val (.int (8 : Int32)), .val (.ref e_IMPLICIT_COMMIT_AND_BEGIN), .unset, .unset] [(.int (1 : Int32))]
    refine g_if_y C at_29 (Jvm.Free.XT.i0_ne_t (by decide)) (pc' := 39) (by decide) (by decide) ?_
    refine g_aload_n C at_39 (v := (.ref e_IMPLICIT_COMMIT_AND_BEGIN)) rfl rfl (pc' := 40) rfl ?_
    refine g_virtual C (own_w hw 52 rfl) (own_w hw 39 rfl) (own_w hw 41 rfl) (own_w hw 40 rfl) (own_w hw 6 rfl) (own_w hw 42 rfl) (notFace_of_selects (args := #[]) (mvT C.2.2.2.2.1 (own_w hw 41 rfl))) (by decide) (X_IMPLICIT_COMMIT_AND_BEGIN.ext O.2) (rm_commitsImplicitly_IMPLICIT_COMMIT_AND_BEGIN l Z a0 hw n0 e_NONE e_BEGIN e_SUSPENDING_BEGIN e_COMMIT_AND_BEGIN e_IMPLICIT_COMMIT_AND_BEGIN e_ROLLBACK e_COMMIT e_PREPARE e_IMPLICIT_COMMIT e_ISOLATION_COMMIT h0 Z0 en O) (st := []) [] rfl rfl own_pd_1_commitsImplicitly rfl rfl (by decide) (W := 0) (Nat.le_of_eq rfl) (by decide) (by decide) (by decide) at_40 (pc' := 43) rfl ?_
    intro v_146 h_144 q_145
    obtain ⟨rfl, rfl⟩ := q_145
    show Go B n0 _ h0 0 0 43 #[.val (.int p0), .val (.int (8 : Int32)), .val (.ref e_IMPLICIT_COMMIT_AND_BEGIN), .unset, .unset] [(.int (1 : Int32))]
    refine g_if_n C at_43 (Jvm.Free.XT.i0_eq_f (by decide)) (pc' := 46) rfl ?_
    refine g_getstatic C (host := "") (v := (.ref e_IMPLICIT_COMMIT)) (Or.inl (own_w hw 49 rfl)) Via.refl (S_IMPLICIT_COMMIT.ext O.2) at_46 (pc' := 49) rfl ?_
    refine g_astore_n C at_49 (v := (.ref e_IMPLICIT_COMMIT)) (L' := #[.val (.int p0), .val (.int (8 : Int32)), .val (.ref e_IMPLICIT_COMMIT_AND_BEGIN), .val (.ref e_IMPLICIT_COMMIT), .unset]) rfl rfl (pc' := 50) rfl ?_
    refine g_goto C at_50 (pc' := 57) (by decide) (by decide) ?_
    refine g_aload_n C at_57 (v := (.ref e_IMPLICIT_COMMIT_AND_BEGIN)) rfl rfl (pc' := 58) rfl ?_
    refine g_virtual C (own_w hw 21 rfl) (own_w hw 22 rfl) (own_w hw 24 rfl) (own_w hw 23 rfl) (own_w hw 6 rfl) (own_w hw 25 rfl) (notFace_of_selects (args := #[]) (mvT C.2.2.2.2.1 (own_w hw 24 rfl))) (by decide) (X_IMPLICIT_COMMIT_AND_BEGIN.ext O.2) (rm_withoutBegin_IMPLICIT_COMMIT_AND_BEGIN l Z a0 hw n0 e_NONE e_BEGIN e_SUSPENDING_BEGIN e_COMMIT_AND_BEGIN e_IMPLICIT_COMMIT_AND_BEGIN e_ROLLBACK e_COMMIT e_PREPARE e_IMPLICIT_COMMIT e_ISOLATION_COMMIT h0 Z0 en O) (st := []) [] rfl rfl own_pd_0_withoutBegin rfl rfl (by decide) (W := 0) (Nat.le_of_eq rfl) (by decide) (by decide) (by decide) at_58 (pc' := 61) rfl ?_
    intro v_149 h_147 q_148
    obtain ⟨rfl, rfl⟩ := q_148
    show Go B n0 _ h0 0 0 61 #[.val (.int p0), .val (.int (8 : Int32)), .val (.ref e_IMPLICIT_COMMIT_AND_BEGIN), .val (.ref e_IMPLICIT_COMMIT), .unset] [(.ref e_IMPLICIT_COMMIT)]
    refine g_astore C at_61 (v := (.ref e_IMPLICIT_COMMIT)) (L' := #[.val (.int p0), .val (.int (8 : Int32)), .val (.ref e_IMPLICIT_COMMIT_AND_BEGIN), .val (.ref e_IMPLICIT_COMMIT), .val (.ref e_IMPLICIT_COMMIT)]) rfl rfl (pc' := 63) rfl ?_
    refine g_aload C at_63 (v := (.ref e_IMPLICIT_COMMIT)) rfl rfl (pc' := 65) rfl ?_
    refine g_aload_n C at_65 (v := (.ref e_IMPLICIT_COMMIT)) rfl rfl (pc' := 66) rfl ?_
    refine g_acmp_y C at_66 rfl rfl (Jvm.Free.XT.aa_eq_t rfl) (pc' := 71) (by decide) (by decide) ?_
    refine g_aload C at_71 (v := (.ref e_IMPLICIT_COMMIT)) rfl rfl (pc' := 73) rfl ?_
    refine g_virtual C (own_w hw 8 rfl) (own_w hw 9 rfl) (own_w hw 11 rfl) (own_w hw 10 rfl) (own_w hw 6 rfl) (own_w hw 12 rfl) (notFace_of_selects (args := #[]) (mvT C.2.2.2.2.1 (own_w hw 11 rfl))) (by decide) (X_IMPLICIT_COMMIT.ext O.2) (rm_begins_IMPLICIT_COMMIT l Z a0 hw n0 e_NONE e_BEGIN e_SUSPENDING_BEGIN e_COMMIT_AND_BEGIN e_IMPLICIT_COMMIT_AND_BEGIN e_ROLLBACK e_COMMIT e_PREPARE e_IMPLICIT_COMMIT e_ISOLATION_COMMIT h0 Z0 en O) (st := []) [] rfl rfl own_pd_1_begins rfl rfl (by decide) (W := 0) (Nat.le_of_eq rfl) (by decide) (by decide) (by decide) at_73 (pc' := 76) rfl ?_
    intro v_152 h_150 q_151
    obtain ⟨rfl, rfl⟩ := q_151
    show Go B n0 _ h0 0 0 76 #[.val (.int p0), .val (.int (8 : Int32)), .val (.ref e_IMPLICIT_COMMIT_AND_BEGIN), .val (.ref e_IMPLICIT_COMMIT), .val (.ref e_IMPLICIT_COMMIT)] [(.int (0 : Int32))]
    refine g_if_y C at_76 (Jvm.Free.XT.i0_eq_t (by decide)) (pc' := 81) (by decide) (by decide) ?_
    refine g_aload C at_81 (v := (.ref e_IMPLICIT_COMMIT)) rfl rfl (pc' := 83) rfl ?_
    refine g_virtual C (own_w hw 21 rfl) (own_w hw 22 rfl) (own_w hw 24 rfl) (own_w hw 23 rfl) (own_w hw 6 rfl) (own_w hw 25 rfl) (notFace_of_selects (args := #[]) (mvT C.2.2.2.2.1 (own_w hw 24 rfl))) (by decide) (X_IMPLICIT_COMMIT.ext O.2) (rm_withoutBegin_IMPLICIT_COMMIT l Z a0 hw n0 e_NONE e_BEGIN e_SUSPENDING_BEGIN e_COMMIT_AND_BEGIN e_IMPLICIT_COMMIT_AND_BEGIN e_ROLLBACK e_COMMIT e_PREPARE e_IMPLICIT_COMMIT e_ISOLATION_COMMIT h0 Z0 en O) (st := []) [] rfl rfl own_pd_0_withoutBegin rfl rfl (by decide) (W := 0) (Nat.le_of_eq rfl) (by decide) (by decide) (by decide) at_83 (pc' := 86) rfl ?_
    intro v_155 h_153 q_154
    obtain ⟨rfl, rfl⟩ := q_154
    show Go B n0 _ h0 0 0 86 #[.val (.int p0), .val (.int (8 : Int32)), .val (.ref e_IMPLICIT_COMMIT_AND_BEGIN), .val (.ref e_IMPLICIT_COMMIT), .val (.ref e_IMPLICIT_COMMIT)] [(.ref e_IMPLICIT_COMMIT)]
    refine g_aload C at_86 (v := (.ref e_IMPLICIT_COMMIT)) rfl rfl (pc' := 88) rfl ?_
    refine g_acmp_n C at_88 rfl rfl (Jvm.Free.XT.aa_ne_f rfl) (pc' := 91) rfl ?_
    refine g_iconst C at_91 (v := (1 : Int32)) rfl (pc' := 92) rfl ?_
    refine g_goto C at_92 (pc' := 96) (by decide) (by decide) ?_
    refine g_ret C (v := (.int (1 : Int32))) (ty := .boolean) rfl rfl (Or.inl ⟨rfl, Or.inr (Or.inl rfl), _, rfl⟩) at_96 (by decide) (by decide) ?_
    rfl
  · subst i_1e
    show Go B n0 _ h0 0 0 7 #[.val (.int p0), .unset, .unset, .unset, .unset] [(.int (9 : Int32))]
    refine g_istore_n C at_7 (v := (9 : Int32)) (L' := #[.val (.int p0), .val (.int (9 : Int32)), .unset, .unset, .unset]) rfl (pc' := 8) rfl ?_
    refine g_iload_n C at_8 (v := (9 : Int32)) rfl (pc' := 9) rfl ?_
    refine g_static C (own_w hw 1 rfl) (own_w hw 2 rfl) (own_w hw 3 rfl) (own_w hw 4 rfl) (by decide) (rm_pick9 l Z a0 hw n0 e_NONE e_BEGIN e_SUSPENDING_BEGIN e_COMMIT_AND_BEGIN e_IMPLICIT_COMMIT_AND_BEGIN e_ROLLBACK e_COMMIT e_PREPARE e_IMPLICIT_COMMIT e_ISOLATION_COMMIT h0 Z0 en O) (st := []) [(.int (9 : Int32))] rfl rfl own_pd_2_pick rfl rfl (by decide) (W := 0) (Nat.le_of_eq rfl) (by decide) (by decide) (by decide) at_9 (pc' := 12) rfl ?_
    intro v_158 h_156 q_157
    obtain ⟨rfl, rfl⟩ := q_157
    show Go B n0 _ h0 0 0 12 #[.val (.int p0), .val (.int (9 : Int32)), .unset, .unset, .unset] [(.ref e_ISOLATION_COMMIT)]
    refine g_astore_n C at_12 (v := (.ref e_ISOLATION_COMMIT)) (L' := #[.val (.int p0), .val (.int (9 : Int32)), .val (.ref e_ISOLATION_COMMIT), .unset, .unset]) rfl rfl (pc' := 13) rfl ?_
    refine g_aload_n C at_13 (v := (.ref e_ISOLATION_COMMIT)) rfl rfl (pc' := 14) rfl ?_
    refine g_virtual C (own_w hw 8 rfl) (own_w hw 9 rfl) (own_w hw 11 rfl) (own_w hw 10 rfl) (own_w hw 6 rfl) (own_w hw 12 rfl) (notFace_of_selects (args := #[]) (mvT C.2.2.2.2.1 (own_w hw 11 rfl))) (by decide) (X_ISOLATION_COMMIT.ext O.2) (rm_begins_ISOLATION_COMMIT l Z a0 hw n0 e_NONE e_BEGIN e_SUSPENDING_BEGIN e_COMMIT_AND_BEGIN e_IMPLICIT_COMMIT_AND_BEGIN e_ROLLBACK e_COMMIT e_PREPARE e_IMPLICIT_COMMIT e_ISOLATION_COMMIT h0 Z0 en O) (st := []) [] rfl rfl own_pd_1_begins rfl rfl (by decide) (W := 0) (Nat.le_of_eq rfl) (by decide) (by decide) (by decide) at_14 (pc' := 17) rfl ?_
    intro v_161 h_159 q_160
    obtain ⟨rfl, rfl⟩ := q_160
    show Go B n0 _ h0 0 0 17 #[.val (.int p0), .val (.int (9 : Int32)), .val (.ref e_ISOLATION_COMMIT), .unset, .unset] [(.int (0 : Int32))]
    refine g_if_n C at_17 (Jvm.Free.XT.i0_ne_f (by decide)) (pc' := 20) rfl ?_
    refine g_aload_n C at_20 (v := (.ref e_ISOLATION_COMMIT)) rfl rfl (pc' := 21) rfl ?_
    refine g_astore_n C at_21 (v := (.ref e_ISOLATION_COMMIT)) (L' := #[.val (.int p0), .val (.int (9 : Int32)), .val (.ref e_ISOLATION_COMMIT), .val (.ref e_ISOLATION_COMMIT), .unset]) rfl rfl (pc' := 22) rfl ?_
    refine g_goto C at_22 (pc' := 57) (by decide) (by decide) ?_
    refine g_aload_n C at_57 (v := (.ref e_ISOLATION_COMMIT)) rfl rfl (pc' := 58) rfl ?_
    refine g_virtual C (own_w hw 21 rfl) (own_w hw 22 rfl) (own_w hw 24 rfl) (own_w hw 23 rfl) (own_w hw 6 rfl) (own_w hw 25 rfl) (notFace_of_selects (args := #[]) (mvT C.2.2.2.2.1 (own_w hw 24 rfl))) (by decide) (X_ISOLATION_COMMIT.ext O.2) (rm_withoutBegin_ISOLATION_COMMIT l Z a0 hw n0 e_NONE e_BEGIN e_SUSPENDING_BEGIN e_COMMIT_AND_BEGIN e_IMPLICIT_COMMIT_AND_BEGIN e_ROLLBACK e_COMMIT e_PREPARE e_IMPLICIT_COMMIT e_ISOLATION_COMMIT h0 Z0 en O) (st := []) [] rfl rfl own_pd_0_withoutBegin rfl rfl (by decide) (W := 0) (Nat.le_of_eq rfl) (by decide) (by decide) (by decide) at_58 (pc' := 61) rfl ?_
    intro v_164 h_162 q_163
    obtain ⟨rfl, rfl⟩ := q_163
    show Go B n0 _ h0 0 0 61 #[.val (.int p0), .val (.int (9 : Int32)), .val (.ref e_ISOLATION_COMMIT), .val (.ref e_ISOLATION_COMMIT), .unset] [(.ref e_ISOLATION_COMMIT)]
    refine g_astore C at_61 (v := (.ref e_ISOLATION_COMMIT)) (L' := #[.val (.int p0), .val (.int (9 : Int32)), .val (.ref e_ISOLATION_COMMIT), .val (.ref e_ISOLATION_COMMIT), .val (.ref e_ISOLATION_COMMIT)]) rfl rfl (pc' := 63) rfl ?_
    refine g_aload C at_63 (v := (.ref e_ISOLATION_COMMIT)) rfl rfl (pc' := 65) rfl ?_
    refine g_aload_n C at_65 (v := (.ref e_ISOLATION_COMMIT)) rfl rfl (pc' := 66) rfl ?_
    refine g_acmp_y C at_66 rfl rfl (Jvm.Free.XT.aa_eq_t rfl) (pc' := 71) (by decide) (by decide) ?_
    refine g_aload C at_71 (v := (.ref e_ISOLATION_COMMIT)) rfl rfl (pc' := 73) rfl ?_
    refine g_virtual C (own_w hw 8 rfl) (own_w hw 9 rfl) (own_w hw 11 rfl) (own_w hw 10 rfl) (own_w hw 6 rfl) (own_w hw 12 rfl) (notFace_of_selects (args := #[]) (mvT C.2.2.2.2.1 (own_w hw 11 rfl))) (by decide) (X_ISOLATION_COMMIT.ext O.2) (rm_begins_ISOLATION_COMMIT l Z a0 hw n0 e_NONE e_BEGIN e_SUSPENDING_BEGIN e_COMMIT_AND_BEGIN e_IMPLICIT_COMMIT_AND_BEGIN e_ROLLBACK e_COMMIT e_PREPARE e_IMPLICIT_COMMIT e_ISOLATION_COMMIT h0 Z0 en O) (st := []) [] rfl rfl own_pd_1_begins rfl rfl (by decide) (W := 0) (Nat.le_of_eq rfl) (by decide) (by decide) (by decide) at_73 (pc' := 76) rfl ?_
    intro v_167 h_165 q_166
    obtain ⟨rfl, rfl⟩ := q_166
    show Go B n0 _ h0 0 0 76 #[.val (.int p0), .val (.int (9 : Int32)), .val (.ref e_ISOLATION_COMMIT), .val (.ref e_ISOLATION_COMMIT), .val (.ref e_ISOLATION_COMMIT)] [(.int (0 : Int32))]
    refine g_if_y C at_76 (Jvm.Free.XT.i0_eq_t (by decide)) (pc' := 81) (by decide) (by decide) ?_
    refine g_aload C at_81 (v := (.ref e_ISOLATION_COMMIT)) rfl rfl (pc' := 83) rfl ?_
    refine g_virtual C (own_w hw 21 rfl) (own_w hw 22 rfl) (own_w hw 24 rfl) (own_w hw 23 rfl) (own_w hw 6 rfl) (own_w hw 25 rfl) (notFace_of_selects (args := #[]) (mvT C.2.2.2.2.1 (own_w hw 24 rfl))) (by decide) (X_ISOLATION_COMMIT.ext O.2) (rm_withoutBegin_ISOLATION_COMMIT l Z a0 hw n0 e_NONE e_BEGIN e_SUSPENDING_BEGIN e_COMMIT_AND_BEGIN e_IMPLICIT_COMMIT_AND_BEGIN e_ROLLBACK e_COMMIT e_PREPARE e_IMPLICIT_COMMIT e_ISOLATION_COMMIT h0 Z0 en O) (st := []) [] rfl rfl own_pd_0_withoutBegin rfl rfl (by decide) (W := 0) (Nat.le_of_eq rfl) (by decide) (by decide) (by decide) at_83 (pc' := 86) rfl ?_
    intro v_170 h_168 q_169
    obtain ⟨rfl, rfl⟩ := q_169
    show Go B n0 _ h0 0 0 86 #[.val (.int p0), .val (.int (9 : Int32)), .val (.ref e_ISOLATION_COMMIT), .val (.ref e_ISOLATION_COMMIT), .val (.ref e_ISOLATION_COMMIT)] [(.ref e_ISOLATION_COMMIT)]
    refine g_aload C at_86 (v := (.ref e_ISOLATION_COMMIT)) rfl rfl (pc' := 88) rfl ?_
    refine g_acmp_n C at_88 rfl rfl (Jvm.Free.XT.aa_ne_f rfl) (pc' := 91) rfl ?_
    refine g_iconst C at_91 (v := (1 : Int32)) rfl (pc' := 92) rfl ?_
    refine g_goto C at_92 (pc' := 96) (by decide) (by decide) ?_
    refine g_ret C (v := (.int (1 : Int32))) (ty := .boolean) rfl rfl (Or.inl ⟨rfl, Or.inr (Or.inl rfl), _, rfl⟩) at_96 (by decide) (by decide) ?_
    rfl
set_option maxRecDepth 65536 in
set_option maxHeartbeats 40000000 in
theorem comes_1 {Post : Tables → Env → Array Value → State → Outcome → State → Prop} (hpost : ∀ tb e args s v u, (limb_1_1.after args s (.returned v) u = true ∧ limb_1_2.after args s (.returned v) u = true ∧ True) → FrameEnd s (.returned v) u (Jvm.fieldLocs frame_1_writes args s ++ Jvm.arrayLocs frame_1_arrays args s ++ Jvm.staticLocs frame_1_statics s) 0 0 → Post tb e args s (.returned v) u) :
    ArmFor flags0 classFile x code maxLocals ret World_1 tables_1 room_1 Calls_1 rest_1 Pre_1 Post := by
  intro l hfl _ _ p e ha hc hk s m args below hf hA hF happ hP
  obtain ⟨hcalls, hrest, hpre⟩ := hP
  obtain ⟨-, -, -, hnamed, -, -, -, hat⟩ := (Spec.applies_iff hf).mp happ
  obtain ⟨hg, hn⟩ := and_e (Cond.before_iff.mp (show (Jvm.Cond.and given_1 narrow_1).before args s = true from hpre))
  obtain ⟨gc, gr0⟩ := and_e hg
  obtain ⟨w0, rfl⟩ : ∃ w0 : Value, args = #[w0] := by
    have hs : args.size = 1 := by simpa [Cond.value, given_1] using gc
    obtain ⟨L⟩ := args
    match L, hs with
    | [w0], _ => exact ⟨w0, rfl⟩
  have hw := fun d (hd : d ∈ tables_1) => atoms_spec (ws := Jvm.Cond.code x code maxLocals ret :: tables_1) hat d (List.mem_cons_of_mem _ hd)
  have hfit : Fit s := fun {y c} hc i hi => by
    obtain ⟨ha, rfl⟩ := Array.getElem?_eq_some_iff.mp hc
    have q := List.all_eq_true.mp ((Array.all_eq_true_iff_forall_mem.mp hF) _ (Array.getElem_mem ha)) i (List.mem_range.mpr hi)
    simpa [Array.getElem?_eq_getElem hi] using q
  obtain ⟨i0, ei0⟩ := is_v gr0
  obtain rfl : w0 = (.int i0) := Option.some.inj ei0
  obtain ⟨nq0, nr0⟩ := and_e hn
  obtain ⟨nq1, nr1⟩ := and_e nr0
  obtain ⟨nq2, nr2⟩ := and_e nr1
  obtain ⟨nq3, nr3⟩ := and_e nr2
  obtain ⟨nq4, nr4⟩ := and_e nr3
  obtain ⟨nq5, nr5⟩ := and_e nr4
  obtain ⟨nq6, nr6⟩ := and_e nr5
  obtain ⟨nq7, nr7⟩ := and_e nr6
  obtain ⟨nq8, nr8⟩ := and_e nr7
  obtain ⟨nq9, nr9⟩ := and_e nr8
  obtain ⟨nq10, nr10⟩ := and_e nr9
  obtain ⟨nq11, nr11⟩ := and_e nr10
  obtain ⟨nq12, nr12⟩ := and_e nr11
  obtain ⟨nq13, nr13⟩ := and_e nr12
  obtain ⟨nq14, nr14⟩ := and_e nr13
  obtain ⟨nq15, nr15⟩ := and_e nr14
  obtain ⟨nq16, nr16⟩ := and_e nr15
  obtain ⟨nq17, nr17⟩ := and_e nr16
  obtain ⟨nq18, nr18⟩ := and_e nr17
  obtain ⟨e_NONE, S_NONE, X_NONE, v_NONE⟩ := own_const nq0 (own_w hw 6 rfl) (own_w hw 7 rfl)
  obtain ⟨e_BEGIN, S_BEGIN, X_BEGIN, v_BEGIN⟩ := own_const nq1 (own_w hw 6 rfl) (own_w hw 14 rfl)
  obtain ⟨e_SUSPENDING_BEGIN, S_SUSPENDING_BEGIN, X_SUSPENDING_BEGIN, v_SUSPENDING_BEGIN⟩ := own_const nq4 (own_w hw 6 rfl) (own_w hw 16 rfl)
  obtain ⟨e_COMMIT_AND_BEGIN, S_COMMIT_AND_BEGIN, X_COMMIT_AND_BEGIN, v_COMMIT_AND_BEGIN⟩ := own_const nq6 (own_w hw 6 rfl) (own_w hw 18 rfl)
  obtain ⟨e_IMPLICIT_COMMIT_AND_BEGIN, S_IMPLICIT_COMMIT_AND_BEGIN, X_IMPLICIT_COMMIT_AND_BEGIN, v_IMPLICIT_COMMIT_AND_BEGIN⟩ := own_const nq8 (own_w hw 6 rfl) (own_w hw 20 rfl)
  obtain ⟨e_ROLLBACK, S_ROLLBACK, X_ROLLBACK, v_ROLLBACK⟩ := own_const nq10 (own_w hw 6 rfl) (own_w hw 27 rfl)
  obtain ⟨e_COMMIT, S_COMMIT, X_COMMIT, v_COMMIT⟩ := own_const nq12 (own_w hw 6 rfl) (own_w hw 35 rfl)
  obtain ⟨e_PREPARE, S_PREPARE, X_PREPARE, v_PREPARE⟩ := own_const nq14 (own_w hw 6 rfl) (own_w hw 37 rfl)
  obtain ⟨e_IMPLICIT_COMMIT, S_IMPLICIT_COMMIT, X_IMPLICIT_COMMIT, v_IMPLICIT_COMMIT⟩ := own_const nq16 (own_w hw 6 rfl) (own_w hw 44 rfl)
  obtain ⟨e_ISOLATION_COMMIT, S_ISOLATION_COMMIT, X_ISOLATION_COMMIT, v_ISOLATION_COMMIT⟩ := own_const nq18 (own_w hw 6 rfl) (own_w hw 46 rfl)
  have en : Ens s e_NONE e_BEGIN e_SUSPENDING_BEGIN e_COMMIT_AND_BEGIN e_IMPLICIT_COMMIT_AND_BEGIN e_ROLLBACK e_COMMIT e_PREPARE e_IMPLICIT_COMMIT e_ISOLATION_COMMIT := ⟨⟨S_NONE, X_NONE, own_fint v_NONE nq2⟩, ⟨S_BEGIN, X_BEGIN, own_fint v_BEGIN nq3⟩, ⟨S_SUSPENDING_BEGIN, X_SUSPENDING_BEGIN, own_fint v_SUSPENDING_BEGIN nq5⟩, ⟨S_COMMIT_AND_BEGIN, X_COMMIT_AND_BEGIN, own_fint v_COMMIT_AND_BEGIN nq7⟩, ⟨S_IMPLICIT_COMMIT_AND_BEGIN, X_IMPLICIT_COMMIT_AND_BEGIN, own_fint v_IMPLICIT_COMMIT_AND_BEGIN nq9⟩, ⟨S_ROLLBACK, X_ROLLBACK, own_fint v_ROLLBACK nq11⟩, ⟨S_COMMIT, X_COMMIT, own_fint v_COMMIT nq13⟩, ⟨S_PREPARE, X_PREPARE, own_fint v_PREPARE nq15⟩, ⟨S_IMPLICIT_COMMIT, X_IMPLICIT_COMMIT, own_fint v_IMPLICIT_COMMIT nq17⟩, ⟨S_ISOLATION_COMMIT, X_ISOLATION_COMMIT, own_fint v_ISOLATION_COMMIT nr18⟩⟩
  obtain ⟨n, o, h1, h2, h3, _, L, rfl, ⟨N, rfl⟩, hq⟩ := rm_law l s _ hw s.heap.size i0 e_NONE e_BEGIN e_SUSPENDING_BEGIN e_COMMIT_AND_BEGIN e_IMPLICIT_COMMIT_AND_BEGIN e_ROLLBACK e_COMMIT e_PREPARE e_IMPLICIT_COMMIT e_ISOLATION_COMMIT s.heap (Nat.le_refl _) en (Old.start s) tables_1 p e ha hc hk s m _ below hf ((Spec.applies_iff_loose hf).mp happ).1 ⟨rfl, State.Warmed39.refl s, rfl⟩ trivial
  refine ⟨n, _, h1, h2, h3, hpost _ _ _ _ _ _ ⟨Cond.after_iff.mpr rfl, Cond.after_iff.mpr (eq_i res_at (Term.int_eval (1)) rfl), trivial⟩ ⟨hq.1, hq.2.1, (hq.2.2.sift fun y hy => Or.inr (N y hy)).mono (by decide) (by decide)⟩⟩
theorem main_1_1 : Claimed_1_1 := comes_1 fun _ _ _ _ _ _ h hF => ⟨h.1, hF⟩
theorem main_1_2 : Claimed_1_2 := comes_1 fun _ _ _ _ _ _ h hF => ⟨h.2.1, hF⟩
end Jvm.Pilot.@@N@@
namespace Jvm.Pilot.@@N@@
open Jvm Jvm.ClassFile Sem Op Lib Jvm.Free Jvm.Stand Jvm.Pilot.@@N@@.Jvm.D
/-! MADE BY PROGRAM (witnessworld.py) out of the Statement's table words and the real class files: 12 classes; the members and pool entries that the words name. The judged class is class 1, her method 2. -/
namespace start1
open Jvm.ClassFile
def u (s : String) : CpInfo := .utf8 (stringToUtf16 s)
/-- a pool by its gaps: so many unusable entries, then the entry; so many at the end -/
def gap : Nat → List CpInfo → List CpInfo
  | 0, r => r
  | n + 1, r => .unusable :: gap n r
def poolList (es : List (Nat × CpInfo)) (last : Nat) : List CpInfo := es.foldr (fun e r => gap e.1 (e.2 :: r)) (gap last [])
def pool (es : List (Nat × CpInfo)) (last : Nat) : Array CpInfo := ⟨poolList es last⟩
def fileOf (pool : Array CpInfo) (this : Nat) (attrs : Array Attribute := #[]) (ms : Array MethodInfo := #[]) (fl : Nat := 33) (sup : Nat := 0) (ifs : Array Nat := #[]) (fds : Array FieldInfo := #[]) : ClassFile where
  minorVersion := 0
  majorVersion := 65
  constantPool := pool
  accessFlags := fl
  thisClass := this
  superClass := sup
  interfaces := ifs
  fields := fds
  methods := ms
  attributes := attrs
def plain (name : String) (sup : Option ClassId) : Class where
  name := name
  kind := .ordinary
  loader := none
  accessFlags := 33
  super := sup
  interfaces := #[]
  cf := none
  fields := #[]
  methods := #[]
  instanceTypes := #[]
  staticTypes := #[]
  resolved := #[]
  callSites := []
  init := .initialized
  statics := none
  mirror := none

def pool0 : Array CpInfo := pool [(5, u "<init>"), (0, u "()V"), (1, .class_ 10), (1, u "java/lang/Object")] 113

def k0m0 : Method := { name := "<init>", desc := "()V", sig := { parameters := [], returnType := none }, accessFlags := 1, code := none }
/-- java/lang/Object -/
def k0 : Class := { plain "java/lang/Object" none with
  accessFlags := 33
  interfaces := #[]
  cf := some (fileOf pool0 8 #[] #[{ accessFlags := 1, nameIndex := 5, descriptorIndex := 6, attributes := #[] }] 33 0 #[] #[])
  fields := #[]
  methods := #[k0m0]
  instanceTypes := #[]
  staticTypes := #[]
  resolved := Array.replicate 124 none
  statics := none }

def pool1 : Array CpInfo := pool [(2, .class_ 4), (1, u "java/lang/Object"), (0, u "<init>"), (0, u "()V"), (0, .fieldref 8 9), (0, .class_ 10), (0, .nameAndType 11 12), (0, u "com/example/measured_savepoints/measuredsavepoints/SavepointSql$TransactionEnd"), (0, u "NONE"), (0, u "Lcom/example/measured_savepoints/measuredsavepoints/SavepointSql$TransactionEnd;"), (0, .fieldref 8 14), (0, .nameAndType 15 12), (0, u "BEGIN"), (0, .fieldref 8 17), (0, .nameAndType 18 12), (0, u "SUSPENDING_BEGIN"), (0, .fieldref 8 20), (0, .nameAndType 21 12), (0, u "ROLLBACK"), (0, .fieldref 8 23), (0, .nameAndType 24 12), (0, u "COMMIT"), (0, .fieldref 8 26), (0, .nameAndType 27 12), (0, u "PREPARE"), (0, .fieldref 8 29), (0, .nameAndType 30 12), (0, u "COMMIT_AND_BEGIN"), (0, .fieldref 8 32), (0, .nameAndType 33 12), (0, u "IMPLICIT_COMMIT"), (0, .fieldref 8 35), (0, .nameAndType 36 12), (0, u "IMPLICIT_COMMIT_AND_BEGIN"), (0, .fieldref 8 38), (0, .nameAndType 39 12), (0, u "ISOLATION_COMMIT"), (0, .integer 2147483647), (0, .methodref 42 43), (0, .class_ 44), (0, .nameAndType 45 46), (0, u "com/example/measured_savepoints/measuredsavepoints/TransactionEndWithoutBeginPinLaw"), (0, u "pick"), (0, u "(I)Lcom/example/measured_savepoints/measuredsavepoints/SavepointSql$TransactionEnd;"), (0, .methodref 8 48), (0, .nameAndType 49 50), (0, u "begins"), (0, u "()Z"), (0, .methodref 8 52), (0, .nameAndType 53 50), (0, u "commits"), (0, .methodref 8 55), (0, .nameAndType 56 50), (0, u "commitsImplicitly"), (0, .methodref 8 58), (0, .nameAndType 59 60), (0, u "withoutBegin"), (0, u "()Lcom/example/measured_savepoints/measuredsavepoints/SavepointSql$TransactionEnd;"), (3, u "law"), (0, u "(I)Z")] 6

def k1m0 : Method := { name := "<init>", desc := "()V", sig := { parameters := [], returnType := none }, accessFlags := 2, code := none }
def k1c1 : Code := { maxStack := 2, maxLocals := 1, code := method_2_code, exceptionTable := #[], attributes := #[] }
def k1m1 : Method := { name := "pick", desc := "(I)Lcom/example/measured_savepoints/measuredsavepoints/SavepointSql$TransactionEnd;", sig := { parameters := [.int], returnType := some (.object "com/example/measured_savepoints/measuredsavepoints/SavepointSql$TransactionEnd") }, accessFlags := 10, code := some k1c1 }
def k1c2 : Code := { maxStack := 2, maxLocals := 5, code := code, exceptionTable := #[], attributes := #[] }
def k1m2 : Method := { name := "law", desc := "(I)Z", sig := { parameters := [.int], returnType := some .boolean }, accessFlags := 9, code := some k1c2 }
/-- com/example/measured_savepoints/measuredsavepoints/TransactionEndWithoutBeginPinLaw -/
def k1 : Class := { plain "com/example/measured_savepoints/measuredsavepoints/TransactionEndWithoutBeginPinLaw" (some 0) with
  accessFlags := 49
  interfaces := #[]
  cf := some (fileOf pool1 42 #[] #[{ accessFlags := 2, nameIndex := 5, descriptorIndex := 6, attributes := #[] }, { accessFlags := 10, nameIndex := 45, descriptorIndex := 46, attributes := #[] }, { accessFlags := 9, nameIndex := 64, descriptorIndex := 65, attributes := #[] }] 49 2 #[] #[])
  fields := #[]
  methods := #[k1m0, k1m1, k1m2]
  instanceTypes := #[]
  staticTypes := #[]
  resolved := Array.replicate 72 none
  statics := none }

def pool2 : Array CpInfo := pool [(1, .class_ 2), (0, u "java/lang/constant/Constable"), (0, .class_ 4), (0, u "java/lang/Object")] 6

/-- java/lang/constant/Constable -/
def k2 : Class := { plain "java/lang/constant/Constable" (some 0) with
  accessFlags := 1537
  interfaces := #[]
  cf := some (fileOf pool2 1 #[] #[] 1537 3 #[] #[])
  fields := #[]
  methods := #[]
  instanceTypes := #[]
  staticTypes := #[]
  resolved := Array.replicate 11 none
  statics := none }

def pool3 : Array CpInfo := pool [(1, .class_ 2), (0, u "java/lang/Comparable"), (0, .class_ 4), (0, u "java/lang/Object")] 7

/-- java/lang/Comparable -/
def k3 : Class := { plain "java/lang/Comparable" (some 0) with
  accessFlags := 1537
  interfaces := #[]
  cf := some (fileOf pool3 1 #[] #[] 1537 3 #[] #[])
  fields := #[]
  methods := #[]
  instanceTypes := #[]
  staticTypes := #[]
  resolved := Array.replicate 12 none
  statics := none }

def pool4 : Array CpInfo := pool [(1, .class_ 2), (0, u "java/io/Serializable"), (0, .class_ 4), (0, u "java/lang/Object")] 2

/-- java/io/Serializable -/
def k4 : Class := { plain "java/io/Serializable" (some 0) with
  accessFlags := 1537
  interfaces := #[]
  cf := some (fileOf pool4 1 #[] #[] 1537 3 #[] #[])
  fields := #[]
  methods := #[]
  instanceTypes := #[]
  staticTypes := #[]
  resolved := Array.replicate 7 none
  statics := none }

def pool5 : Array CpInfo := pool [(2, .class_ 4), (1, u "java/lang/Enum"), (0, u "name"), (0, u "Ljava/lang/String;"), (2, u "ordinal"), (0, u "I"), (1, .class_ 14), (1, u "java/lang/Object"), (4, u "hash"), (86, .class_ 108), (1, u "java/lang/Enum$EnumDesc"), (2, .class_ 112), (0, u "java/lang/constant/Constable"), (0, .class_ 114), (0, u "java/lang/Comparable"), (0, .class_ 116), (0, u "java/io/Serializable")] 87

/-- java/lang/Enum -/
def k5 : Class := { plain "java/lang/Enum" (some 0) with
  accessFlags := 1057
  interfaces := #[2, 3, 4]
  cf := some (fileOf pool5 2 #[.nestMembers #[106]] #[] 1057 12 #[111, 113, 115] #[{ accessFlags := 18, nameIndex := 5, descriptorIndex := 6, attributes := #[] }, { accessFlags := 18, nameIndex := 9, descriptorIndex := 10, attributes := #[] }, { accessFlags := 2, nameIndex := 19, descriptorIndex := 10, attributes := #[] }])
  fields := #[{ name := "name", type := (.object "java/lang/String"), accessFlags := 18, slot := 0, constantValue := 0 }, { name := "ordinal", type := .int, accessFlags := 18, slot := 1, constantValue := 0 }, { name := "hash", type := .int, accessFlags := 2, slot := 2, constantValue := 0 }]
  methods := #[]
  instanceTypes := #[(.object "java/lang/String"), .int, .int]
  staticTypes := #[]
  resolved := Array.replicate 204 none
  statics := none }

def pool6 : Array CpInfo := pool [(1, .class_ 2), (0, u "com/example/measured_savepoints/measuredsavepoints/SavepointSql$TransactionEnd"), (0, .fieldref 1 4), (0, .nameAndType 5 6), (0, u "NONE"), (0, u "Lcom/example/measured_savepoints/measuredsavepoints/SavepointSql$TransactionEnd;"), (0, .fieldref 1 8), (0, .nameAndType 9 6), (0, u "BEGIN"), (0, .fieldref 1 11), (0, .nameAndType 12 6), (0, u "SUSPENDING_BEGIN"), (2, u "ROLLBACK"), (0, .fieldref 1 17), (0, .nameAndType 18 6), (0, u "COMMIT"), (0, .fieldref 1 20), (0, .nameAndType 21 6), (0, u "PREPARE"), (0, .fieldref 1 23), (0, .nameAndType 24 6), (0, u "COMMIT_AND_BEGIN"), (0, .fieldref 1 26), (0, .nameAndType 27 6), (0, u "IMPLICIT_COMMIT"), (0, .fieldref 1 29), (0, .nameAndType 30 6), (0, u "IMPLICIT_COMMIT_AND_BEGIN"), (0, .fieldref 1 32), (0, .nameAndType 33 6), (0, u "ISOLATION_COMMIT"), (2, u "$VALUES"), (0, u "[Lcom/example/measured_savepoints/measuredsavepoints/SavepointSql$TransactionEnd;"), (6, .class_ 46), (1, u "java/lang/Enum"), (6, .methodref 1 54), (0, .nameAndType 55 56), (0, u "commitsImplicitly"), (0, u "()Z"), (24, u "commits"), (0, u "begins"), (1, u "withoutBegin"), (0, u "()Lcom/example/measured_savepoints/measuredsavepoints/SavepointSql$TransactionEnd;"), (5, .class_ 92), (0, u "com/example/measured_savepoints/measuredsavepoints/SavepointSql")] 2

def k6c0 : Code := { maxStack := 2, maxLocals := 1, code := prog_54_method_5_code, exceptionTable := #[], attributes := #[] }
def k6m0 : Method := { name := "commits", desc := "()Z", sig := { parameters := [], returnType := some .boolean }, accessFlags := 0, code := some k6c0 }
def k6c1 : Code := { maxStack := 2, maxLocals := 1, code := prog_54_method_6_code, exceptionTable := #[], attributes := #[] }
def k6m1 : Method := { name := "commitsImplicitly", desc := "()Z", sig := { parameters := [], returnType := some .boolean }, accessFlags := 0, code := some k6c1 }
def k6c2 : Code := { maxStack := 2, maxLocals := 1, code := prog_54_method_7_code, exceptionTable := #[], attributes := #[] }
def k6m2 : Method := { name := "begins", desc := "()Z", sig := { parameters := [], returnType := some .boolean }, accessFlags := 0, code := some k6c2 }
def k6c3 : Code := { maxStack := 2, maxLocals := 2, code := prog_54_method_9_code, exceptionTable := #[], attributes := #[] }
def k6m3 : Method := { name := "withoutBegin", desc := "()Lcom/example/measured_savepoints/measuredsavepoints/SavepointSql$TransactionEnd;", sig := { parameters := [], returnType := some (.object "com/example/measured_savepoints/measuredsavepoints/SavepointSql$TransactionEnd") }, accessFlags := 0, code := some k6c3 }
/-- com/example/measured_savepoints/measuredsavepoints/SavepointSql$TransactionEnd -/
def k6 : Class := { plain "com/example/measured_savepoints/measuredsavepoints/SavepointSql$TransactionEnd" (some 5) with
  accessFlags := 16432
  interfaces := #[]
  cf := some (fileOf pool6 1 #[.nestHost 91] #[{ accessFlags := 0, nameIndex := 81, descriptorIndex := 56, attributes := #[] }, { accessFlags := 0, nameIndex := 55, descriptorIndex := 56, attributes := #[] }, { accessFlags := 0, nameIndex := 82, descriptorIndex := 56, attributes := #[] }, { accessFlags := 0, nameIndex := 84, descriptorIndex := 85, attributes := #[] }] 16432 44 #[] #[{ accessFlags := 16409, nameIndex := 5, descriptorIndex := 6, attributes := #[] }, { accessFlags := 16409, nameIndex := 9, descriptorIndex := 6, attributes := #[] }, { accessFlags := 16409, nameIndex := 12, descriptorIndex := 6, attributes := #[] }, { accessFlags := 16409, nameIndex := 15, descriptorIndex := 6, attributes := #[] }, { accessFlags := 16409, nameIndex := 18, descriptorIndex := 6, attributes := #[] }, { accessFlags := 16409, nameIndex := 21, descriptorIndex := 6, attributes := #[] }, { accessFlags := 16409, nameIndex := 24, descriptorIndex := 6, attributes := #[] }, { accessFlags := 16409, nameIndex := 27, descriptorIndex := 6, attributes := #[] }, { accessFlags := 16409, nameIndex := 30, descriptorIndex := 6, attributes := #[] }, { accessFlags := 16409, nameIndex := 33, descriptorIndex := 6, attributes := #[] }, { accessFlags := 4122, nameIndex := 36, descriptorIndex := 37, attributes := #[] }])
  fields := #[{ name := "NONE", type := (.object "com/example/measured_savepoints/measuredsavepoints/SavepointSql$TransactionEnd"), accessFlags := 16409, slot := 0, constantValue := 0 }, { name := "BEGIN", type := (.object "com/example/measured_savepoints/measuredsavepoints/SavepointSql$TransactionEnd"), accessFlags := 16409, slot := 1, constantValue := 0 }, { name := "SUSPENDING_BEGIN", type := (.object "com/example/measured_savepoints/measuredsavepoints/SavepointSql$TransactionEnd"), accessFlags := 16409, slot := 2, constantValue := 0 }, { name := "ROLLBACK", type := (.object "com/example/measured_savepoints/measuredsavepoints/SavepointSql$TransactionEnd"), accessFlags := 16409, slot := 3, constantValue := 0 }, { name := "COMMIT", type := (.object "com/example/measured_savepoints/measuredsavepoints/SavepointSql$TransactionEnd"), accessFlags := 16409, slot := 4, constantValue := 0 }, { name := "PREPARE", type := (.object "com/example/measured_savepoints/measuredsavepoints/SavepointSql$TransactionEnd"), accessFlags := 16409, slot := 5, constantValue := 0 }, { name := "COMMIT_AND_BEGIN", type := (.object "com/example/measured_savepoints/measuredsavepoints/SavepointSql$TransactionEnd"), accessFlags := 16409, slot := 6, constantValue := 0 }, { name := "IMPLICIT_COMMIT", type := (.object "com/example/measured_savepoints/measuredsavepoints/SavepointSql$TransactionEnd"), accessFlags := 16409, slot := 7, constantValue := 0 }, { name := "IMPLICIT_COMMIT_AND_BEGIN", type := (.object "com/example/measured_savepoints/measuredsavepoints/SavepointSql$TransactionEnd"), accessFlags := 16409, slot := 8, constantValue := 0 }, { name := "ISOLATION_COMMIT", type := (.object "com/example/measured_savepoints/measuredsavepoints/SavepointSql$TransactionEnd"), accessFlags := 16409, slot := 9, constantValue := 0 }, { name := "$VALUES", type := (.array (.object "com/example/measured_savepoints/measuredsavepoints/SavepointSql$TransactionEnd")), accessFlags := 4122, slot := 10, constantValue := 0 }]
  methods := #[k6m0, k6m1, k6m2, k6m3]
  instanceTypes := #[(.object "java/lang/String"), .int, .int]
  staticTypes := #[(.object "com/example/measured_savepoints/measuredsavepoints/SavepointSql$TransactionEnd"), (.object "com/example/measured_savepoints/measuredsavepoints/SavepointSql$TransactionEnd"), (.object "com/example/measured_savepoints/measuredsavepoints/SavepointSql$TransactionEnd"), (.object "com/example/measured_savepoints/measuredsavepoints/SavepointSql$TransactionEnd"), (.object "com/example/measured_savepoints/measuredsavepoints/SavepointSql$TransactionEnd"), (.object "com/example/measured_savepoints/measuredsavepoints/SavepointSql$TransactionEnd"), (.object "com/example/measured_savepoints/measuredsavepoints/SavepointSql$TransactionEnd"), (.object "com/example/measured_savepoints/measuredsavepoints/SavepointSql$TransactionEnd"), (.object "com/example/measured_savepoints/measuredsavepoints/SavepointSql$TransactionEnd"), (.object "com/example/measured_savepoints/measuredsavepoints/SavepointSql$TransactionEnd"), (.array (.object "com/example/measured_savepoints/measuredsavepoints/SavepointSql$TransactionEnd"))]
  resolved := Array.replicate 95 none
  statics := some 0 }

def pool7 : Array CpInfo := pool [(1, u "java/lang/Cloneable"), (0, .class_ 1), (0, u "java/lang/Object"), (0, .class_ 3)] 3

/-- java/lang/Cloneable -/
def k7 : Class := { plain "java/lang/Cloneable" (some 0) with
  accessFlags := 1537
  interfaces := #[]
  cf := some (fileOf pool7 2 #[] #[] 1537 4 #[] #[])
  fields := #[]
  methods := #[]
  instanceTypes := #[]
  staticTypes := #[]
  resolved := Array.replicate 8 none
  statics := none }

/-- the primitive byte -/
def k8 : Class := { plain "byte" none with kind := .primitive 'B', accessFlags := 0x411 }
/-- [B -/
def k9 : Class := { plain "[B" (some 0) with kind := .array 8 .byte, interfaces := #[7, 4], accessFlags := 1041 }

/-- the primitive int -/
def k10 : Class := { plain "int" none with kind := .primitive 'I', accessFlags := 0x411 }
/-- [I -/
def k11 : Class := { plain "[I" (some 0) with kind := .array 10 .int, interfaces := #[7, 4], accessFlags := 1041 }

def heap : Heap := #[{ cls := 6, slots := #[.ref 1, .ref 2, .ref 3, .ref 6, .ref 7, .ref 8, .ref 4, .ref 9, .ref 5, .ref 10, .null], vm := .statics 6 },
  { cls := 6, slots := #[.null, .int 0, .int 0], vm := .none },
  { cls := 6, slots := #[.null, .int 1, .int 0], vm := .none },
  { cls := 6, slots := #[.null, .int 2, .int 0], vm := .none },
  { cls := 6, slots := #[.null, .int 6, .int 0], vm := .none },
  { cls := 6, slots := #[.null, .int 8, .int 0], vm := .none },
  { cls := 6, slots := #[.null, .int 3, .int 0], vm := .none },
  { cls := 6, slots := #[.null, .int 4, .int 0], vm := .none },
  { cls := 6, slots := #[.null, .int 5, .int 0], vm := .none },
  { cls := 6, slots := #[.null, .int 7, .int 0], vm := .none },
  { cls := 6, slots := #[.null, .int 9, .int 0], vm := .none }]
def classes : Array Class := #[k0, k1, k2, k3, k4, k5, k6, k7, k8, k9, k10, k11]
def interned : List (Array UInt16 × Addr) := []
def slotsUsed : Nat := 41
def theMethod : MethodId := ⟨1, 2⟩
def args0 : Array Value := #[.int 5]
def aboutOver (below : List Frame) : State where
  vm := { classes := classes, interned := interned.toArray }
  heap := heap
  slotsUsed := slotsUsed
  threads := #[{ frames := .invoking theMethod args0 :: below }]
def below0 : List Frame := [.native { method := ⟨0, 0⟩, args := #[] }]
def about1 : State := aboutOver below0
def p0 : Program := .bare "" "" ""
def e0 : Env := launch0.env 0 0 0
theorem w_frames : about1.frames = Frame.invoking theMethod args0 :: below0 := rfl
set_option maxRecDepth 65536 in
theorem w_args : argsFit about1.vm theMethod args0 = true := by decide +kernel
set_option maxRecDepth 65536 in
theorem w_heap : heapFits about1 = true := by decide +kernel
set_option maxRecDepth 65536 in
theorem w_runnable : about1.curStatus? = some .runnable := by decide +kernel
set_option maxRecDepth 65536 in
theorem w_alone : about1.alone = true := by decide +kernel
set_option maxRecDepth 65536 in
theorem w_named : about1.methodNamed? x = some theMethod := by decide +kernel
set_option maxRecDepth 65536 in
theorem w_hears : about1.hears theMethod below0 = true := by decide +kernel
set_option maxRecDepth 65536 in
theorem w_ripe : about1.ripe theMethod args0 below0 = true := by decide +kernel
theorem w_running : about1.status = .running := rfl
set_option maxRecDepth 65536 in
theorem w_room : about1.hasRoom e0.platform room_1 = true :=
  launch0.hasRoom_least _ room_1 (by decide +kernel) (by decide +kernel) (by decide +kernel) (by decide +kernel) (by decide +kernel) (by decide +kernel)
theorem allAtoms_all (ts : List Jvm.Cond) (a : Array Jvm.Value) (st : Jvm.State) : (allAtoms ts).before a st = ts.all (fun c => c.before a st) := by
  induction ts with
  | nil => rfl
  | cons c t ih =>
    show (Jvm.Cond.and c (allAtoms t)).before a st = _
    rw [Jvm.Cond.before_and, ih, List.all_cons]
def words1 : List Jvm.Cond := Jvm.Cond.code x code maxLocals ret :: tables_1
/-- a 'code' word, met by the world's own term for the bytes: nothing is compared byte by byte -/
theorem code_word {y : MethodName} {bytes : ByteArray} {mx : Nat} {rt : Option FieldType} {a : Array Value} {s : State} {m : MethodId} {meth : Method} {c : Code} (h1 : s.methodNamed? y = some m) (h2 : s.vm.method? m = some meth) (h3 : meth.code = some c) (h4 : c.code = bytes)
    (h5 : (c.maxLocals == mx && c.exceptionTable.isEmpty && decide (c.maxStack ≤ mostOperands) && decide (meth.sig.returnType = rt) && !meth.locks && decide (parseMethodDescriptor y.desc = some meth.sig)) = true) : (Jvm.Cond.code y bytes mx rt).before a s = true := by
  simp only [Bool.and_eq_true, beq_iff_eq, Bool.not_eq_true', decide_eq_true_eq] at h5
  obtain ⟨⟨⟨⟨⟨g1, g2⟩, g3⟩, g4⟩, g5⟩, g6⟩ := h5
  simp [Cond.before, Cond.holds, Cond.value, h1, h2, h3, h4, g1, g2, g3, g4, g5, g6]
def isCode : Jvm.Cond → Bool
  | .code _ _ _ _ => true
  | _ => false
theorem all_split {L : List Jvm.Cond} {P : Jvm.Cond → Bool} (h1 : L.all (fun c => isCode c || P c) = true) (h2 : ∀ c ∈ L.filter isCode, P c = true) : L.all P = true := by
  refine List.all_eq_true.mpr fun c hc => ?_
  have h := List.all_eq_true.mp h1 c hc
  rcases Bool.eq_false_or_eq_true (isCode c) with hi | hi
  · exact h2 c (List.mem_filter.mpr ⟨hc, hi⟩)
  · simpa [hi] using h
set_option maxRecDepth 65536 in
theorem w_c0 : (Jvm.Cond.code x code maxLocals ret).before args0 about1 = true := code_word (m := ⟨1, 2⟩) (meth := k1m2) (c := k1c2) (by decide +kernel) rfl rfl rfl (by decide +kernel)
set_option maxRecDepth 65536 in
theorem w_c1 : (Jvm.Cond.code ({ cls := "com/example/measured_savepoints/measuredsavepoints/TransactionEndWithoutBeginPinLaw", name := "pick", desc := "(I)Lcom/example/measured_savepoints/measuredsavepoints/SavepointSql$TransactionEnd;" } : Jvm.MethodName) method_2_code (1 : Nat) (Option.some (Jvm.ClassFile.FieldType.object "com/example/measured_savepoints/measuredsavepoints/SavepointSql$TransactionEnd"))).before args0 about1 = true := code_word (m := ⟨1, 1⟩) (meth := k1m1) (c := k1c1) (by decide +kernel) rfl rfl rfl (by decide +kernel)
set_option maxRecDepth 65536 in
theorem w_c2 : (Jvm.Cond.code ({ cls := "com/example/measured_savepoints/measuredsavepoints/SavepointSql$TransactionEnd", name := "begins", desc := "()Z" } : Jvm.MethodName) prog_54_method_7_code (1 : Nat) (Option.some Jvm.ClassFile.FieldType.boolean)).before args0 about1 = true := code_word (m := ⟨6, 2⟩) (meth := k6m2) (c := k6c2) (by decide +kernel) rfl rfl rfl (by decide +kernel)
set_option maxRecDepth 65536 in
theorem w_c3 : (Jvm.Cond.code ({ cls := "com/example/measured_savepoints/measuredsavepoints/SavepointSql$TransactionEnd", name := "withoutBegin", desc := "()Lcom/example/measured_savepoints/measuredsavepoints/SavepointSql$TransactionEnd;" } : Jvm.MethodName) prog_54_method_9_code (2 : Nat) (Option.some (Jvm.ClassFile.FieldType.object "com/example/measured_savepoints/measuredsavepoints/SavepointSql$TransactionEnd"))).before args0 about1 = true := code_word (m := ⟨6, 3⟩) (meth := k6m3) (c := k6c3) (by decide +kernel) rfl rfl rfl (by decide +kernel)
set_option maxRecDepth 65536 in
theorem w_c4 : (Jvm.Cond.code ({ cls := "com/example/measured_savepoints/measuredsavepoints/SavepointSql$TransactionEnd", name := "commits", desc := "()Z" } : Jvm.MethodName) prog_54_method_5_code (1 : Nat) (Option.some Jvm.ClassFile.FieldType.boolean)).before args0 about1 = true := code_word (m := ⟨6, 0⟩) (meth := k6m0) (c := k6c0) (by decide +kernel) rfl rfl rfl (by decide +kernel)
set_option maxRecDepth 65536 in
theorem w_c5 : (Jvm.Cond.code ({ cls := "com/example/measured_savepoints/measuredsavepoints/SavepointSql$TransactionEnd", name := "commitsImplicitly", desc := "()Z" } : Jvm.MethodName) prog_54_method_6_code (1 : Nat) (Option.some Jvm.ClassFile.FieldType.boolean)).before args0 about1 = true := code_word (m := ⟨6, 1⟩) (meth := k6m1) (c := k6c1) (by decide +kernel) rfl rfl rfl (by decide +kernel)
def codes1 : List Jvm.Cond := [Jvm.Cond.code x code maxLocals ret, Jvm.Cond.code ({ cls := "com/example/measured_savepoints/measuredsavepoints/TransactionEndWithoutBeginPinLaw", name := "pick", desc := "(I)Lcom/example/measured_savepoints/measuredsavepoints/SavepointSql$TransactionEnd;" } : Jvm.MethodName) method_2_code (1 : Nat) (Option.some (Jvm.ClassFile.FieldType.object "com/example/measured_savepoints/measuredsavepoints/SavepointSql$TransactionEnd")), Jvm.Cond.code ({ cls := "com/example/measured_savepoints/measuredsavepoints/SavepointSql$TransactionEnd", name := "begins", desc := "()Z" } : Jvm.MethodName) prog_54_method_7_code (1 : Nat) (Option.some Jvm.ClassFile.FieldType.boolean), Jvm.Cond.code ({ cls := "com/example/measured_savepoints/measuredsavepoints/SavepointSql$TransactionEnd", name := "withoutBegin", desc := "()Lcom/example/measured_savepoints/measuredsavepoints/SavepointSql$TransactionEnd;" } : Jvm.MethodName) prog_54_method_9_code (2 : Nat) (Option.some (Jvm.ClassFile.FieldType.object "com/example/measured_savepoints/measuredsavepoints/SavepointSql$TransactionEnd")), Jvm.Cond.code ({ cls := "com/example/measured_savepoints/measuredsavepoints/SavepointSql$TransactionEnd", name := "commits", desc := "()Z" } : Jvm.MethodName) prog_54_method_5_code (1 : Nat) (Option.some Jvm.ClassFile.FieldType.boolean), Jvm.Cond.code ({ cls := "com/example/measured_savepoints/measuredsavepoints/SavepointSql$TransactionEnd", name := "commitsImplicitly", desc := "()Z" } : Jvm.MethodName) prog_54_method_6_code (1 : Nat) (Option.some Jvm.ClassFile.FieldType.boolean)]
set_option maxRecDepth 65536 in
theorem codes_eq : words1.filter isCode = codes1 := rfl
theorem w_codes : ∀ c ∈ words1.filter isCode, c.before args0 about1 = true := by
  rw [codes_eq]
  intro c hc
  simp only [codes1, List.mem_cons, List.not_mem_nil, or_false] at hc
  rcases hc with rfl | rfl | rfl | rfl | rfl | rfl
  · exact w_c0
  · exact w_c1
  · exact w_c2
  · exact w_c3
  · exact w_c4
  · exact w_c5
set_option maxRecDepth 65536 in
theorem w_t1 : (words1.take 24).all (fun c => isCode c || c.before args0 about1) = true := by decide +kernel
set_option maxRecDepth 65536 in
theorem w_t2 : ((words1.drop 24).take 24).all (fun c => isCode c || c.before args0 about1) = true := by decide +kernel
set_option maxRecDepth 65536 in
theorem w_t3 : ((words1.drop 24).drop 24).all (fun c => isCode c || c.before args0 about1) = true := by decide +kernel
theorem w_tables : (allAtoms (Jvm.Cond.code x code maxLocals ret :: tables_1)).before args0 about1 = true := by
  rw [allAtoms_all]
  show words1.all (fun c => c.before args0 about1) = true
  refine all_split ?_ w_codes
  rw [← List.take_append_drop 24 words1, List.all_append, w_t1, ← List.take_append_drop 24 (words1.drop 24), List.all_append, w_t2, w_t3]
  rfl
set_option maxRecDepth 65536 in
theorem w_case : (Jvm.Cond.and given_1 narrow_1).before args0 about1 = true := by decide +kernel
theorem w_applies : (headSpec (Jvm.Cond.code x code maxLocals ret :: tables_1) room_1).applies x e0.platform about1 = true :=
  (Spec.applies_iff w_frames).mpr ⟨w_running, w_runnable, w_alone, w_named, w_hears, w_ripe, w_room, w_tables⟩
theorem atStart : AtStart classFile x code maxLocals ret World_1 tables_1 room_1 Calls_1 rest_1 Pre_1 launch0 p0 e0 about1 theMethod args0 below0 :=
  ⟨lists_1, trivial, launch0.admits_env _ _ _, launch0.least_env, fairChoices_fair.cas, fairChoices_fair.clock, w_frames, w_args, w_heap, w_applies, trivial, trivial, w_case⟩
end start1
theorem witness_1 : WitnessClaimed_1 := ⟨start1.p0, start1.e0, start1.about1, start1.theMethod, start1.args0, start1.below0, start1.atStart⟩
end Jvm.Pilot.@@N@@
