import JvmDerived
import JvmDerived.Pilot.@@N@@Statement
import JvmDerived.Pilot.@@N@@Code
set_option linter.unusedVariables false
set_option linter.unusedSimpArgs false
namespace Jvm.OwnKit
open Jvm Jvm.ClassFile Sem Op Lib Jvm.Stand Jvm.Free Jvm.LawKit Jvm.RoadKit
/-! A small calculus of my own over the library's laws: Go says 'from here the body comes to its end, and what it leaves satisfies Q'. -/
abbrev Bod : Type := Program × Launch × Env × Room × State × MethodId × Array Value × List Frame × Method × Code
abbrev Bod.p (B : Bod) : Program := B.1
abbrev Bod.l (B : Bod) : Launch := B.2.1
abbrev Bod.e (B : Bod) : Env := B.2.2.1
abbrev Bod.R (B : Bod) : Room := B.2.2.2.1
abbrev Bod.s (B : Bod) : State := B.2.2.2.2.1
abbrev Bod.m (B : Bod) : MethodId := B.2.2.2.2.2.1
abbrev Bod.args (B : Bod) : Array Value := B.2.2.2.2.2.2.1
abbrev Bod.below (B : Bod) : List Frame := B.2.2.2.2.2.2.2.1
abbrev Bod.meth (B : Bod) : Method := B.2.2.2.2.2.2.2.2.1
abbrev Bod.c (B : Bod) : Code := B.2.2.2.2.2.2.2.2.2
abbrev St (B : Bod) (T : State) (locs : List Loc) (k n : Nat) : Prop := Stand B.p B.l B.e B.R B.s B.m B.args B.below B.meth B.c T locs k n
def Fin0 (B : Bod) (n0 : Nat) (Q : Option Value → Heap → Prop) (g : JFrame) (T : State) : Prop :=
  ∃ t o, Steps B.p.tables B.e B.below (T.setTop g) t ∧ t.status = .running ∧ Ended t B.below o ∧ ∃ v L, o = .returned v ∧ (Fr n0 L ∧ Q v t.heap) ∧ FrameEnd B.s o t L B.R.cells B.R.slots
def Go (B : Bod) (n0 : Nat) (Q : Option Value → Heap → Prop) (h : Heap) (k n pc : Nat) (L : Array Slot) (st : List Value) : Prop :=
  ∀ T locs, St B T locs k n → Fr n0 locs → T.heap = h → Fin0 B n0 Q (mkF B.m pc L st) T
def Ctx (B : Bod) (l : Launch) (rm : Room) (bytes : ByteArray) (own nm : String) (maxL : Nat) (ret : Option FieldType) (Z : State) : Prop :=
  B.l = l ∧ B.R = rm ∧ B.p.tables.exec = Jvm.exec ∧ B.c.code = bytes ∧ Z.Warmed39 B.s.vm ∧ B.s.vm.findClass own = some B.m.cls ∧ B.meth.name = nm ∧ B.c.maxLocals = maxL ∧ B.meth.sig.returnType = ret ∧ B.meth.locks = false
/-- a method's contract: called with these arguments over this heap it returns, and Q holds of what it returns and of the heap it leaves -/
def Met1 (l : Launch) (Z : State) (y : MethodName) (bytes : ByteArray) (maxL : Nat) (ret : Option FieldType) (rm : Room) (n0 : Nat) (as' : Array Value) (h0 : Heap) (Q : Option Value → Heap → Prop) : Prop :=
  ∀ ws : List Jvm.Cond, MetFree l y (head1 (Jvm.Cond.code y bytes maxL ret :: ws) rm) (fun a U => a = as' ∧ Z.Warmed39 U.vm ∧ U.heap = h0) (fun _ _ _ _ _ => True) (fun _ U o U' => ∃ v L, o = .returned v ∧ (Fr n0 L ∧ Q v U'.heap) ∧ FrameEnd U o U' L rm.cells rm.slots)
section Base
variable {B : Bod} {l : Launch} {rm : Room} {bytes : ByteArray} {own nm : String} {maxL : Nat} {ret : Option FieldType} {Z : State} {n0 : Nat} {Q : Option Value → Heap → Prop} {h : Heap} {k n pc pc' : Nat} {L L' : Array Slot} {st st' : List Value} {a0 : Array Value}
theorem met_of {y : MethodName} {as' : Array Value} (hp : plainFor y = true) {L0 : Array Slot} (hL : argsToLocals as' maxL = L0) (go : ∀ B : Bod, Ctx B l rm bytes y.cls y.name maxL ret Z → Go B n0 Q h 0 0 0 L0 []) : Met1 l Z y bytes maxL ret rm n0 as' h Q := by
  intro ws
  refine MetFree.of_bodySF hp hisR ?_
  intro p e s m args below meth c s₁ Bd hml0 hP hK
  obtain ⟨rfl, hZ, hh⟩ := hP
  subst hL
  obtain ⟨t, o, h1, h2, h3, v, L, h4, h5, h6⟩ := go (p, l, e, rm, s, m, args, below, meth, c) ⟨rfl, rfl, Bd.exec, Bd.bytes, hZ, findClass_of_methodNamed Bd.named, (name_of_methodNamed Bd.named Bd.method).1, hml0, Bd.returns, BodyLoose.notSynchronized Bd⟩ s₁ [] (Stand.of_body Bd) (Fr.nil n0) (by rw [← hh, Bd.state]; rfl)
  exact ⟨t, o, h1, h2, h3, v, L, h4, h5, h6⟩
/-- a step that moves the frame alone -/
theorem Go.step (f : ∀ T locs, St B T locs k n → T.heap = h → ∀ t, Steps B.p.tables B.e B.below (T.setTop (mkF B.m pc' L' st')) t → Steps B.p.tables B.e B.below (T.setTop (mkF B.m pc L st)) t) (go : Go B n0 Q h k n pc' L' st') : Go B n0 Q h k n pc L st := fun T locs X N eT => by
  obtain ⟨t, o, a, r⟩ := go T locs X N eT
  exact ⟨t, o, f T locs X eT t a, r⟩
/-- a step that moves the tables too -/
theorem Go.move (f : ∀ T locs, St B T locs k n → T.heap = h → ∃ T', St B T' locs k n ∧ T'.heap = h ∧ ∀ t, Steps B.p.tables B.e B.below (T'.setTop (mkF B.m pc' L' st')) t → Steps B.p.tables B.e B.below (T.setTop (mkF B.m pc L st)) t) (go : Go B n0 Q h k n pc' L' st') : Go B n0 Q h k n pc L st := fun T locs X N eT => by
  obtain ⟨T', X', e', f'⟩ := f T locs X eT
  obtain ⟨t, o, a, r⟩ := go T' locs X' N e'
  exact ⟨t, o, f' t a, r⟩
theorem Go.eqs {st2 : List Value} (go : Go B n0 Q h k n pc L st2) (e : st = st2) : Go B n0 Q h k n pc L st := e ▸ go
theorem Go.eqh {h2 : Heap} (go : Go B n0 Q h2 k n pc L st) (e : h = h2) : Go B n0 Q h k n pc L st := e ▸ go
theorem g_iload_n (C : Ctx B l rm bytes own nm maxL ret Z) {i : Fin 4} {v : Int32} (hd : decode bytes pc = .ok (.iload_n i, 1)) (hl : L[i.val]? = some (.val (.int v))) (hpc : pc + 1 = pc') (go : Go B n0 Q h k n pc' L (.int v :: st)) : Go B n0 Q h k n pc L st := go.step fun T locs X eT t q => Jvm.Free.XS.iloadN X.here C.2.2.1 rfl (hb C.2.2.2.1 hd) hl (by subst hpc; exact q)
theorem g_iload (C : Ctx B l rm bytes own nm maxL ret Z) {i : Nat} {v : Int32} (hd : decode bytes pc = .ok (.iload i, 2)) (hl : L[i]? = some (.val (.int v))) (hpc : pc + 2 = pc') (go : Go B n0 Q h k n pc' L (.int v :: st)) : Go B n0 Q h k n pc L st := go.step fun T locs X eT t q => Jvm.Free.XS.iload X.here C.2.2.1 rfl (hb C.2.2.2.1 hd) hl (by subst hpc; exact q)
theorem g_lload_n (C : Ctx B l rm bytes own nm maxL ret Z) {i : Fin 4} {v : Int64} (hd : decode bytes pc = .ok (.lload_n i, 1)) (hl : L[i.val]? = some (.val (.long v))) (hpc : pc + 1 = pc') (go : Go B n0 Q h k n pc' L (.long v :: st)) : Go B n0 Q h k n pc L st := go.step fun T locs X eT t q => Jvm.Free.XT.lloadN X.here C.2.2.1 rfl (hb C.2.2.2.1 hd) hl (by subst hpc; exact q)
theorem g_lload (C : Ctx B l rm bytes own nm maxL ret Z) {i : Nat} {v : Int64} (hd : decode bytes pc = .ok (.lload i, 2)) (hl : L[i]? = some (.val (.long v))) (hpc : pc + 2 = pc') (go : Go B n0 Q h k n pc' L (.long v :: st)) : Go B n0 Q h k n pc L st := go.step fun T locs X eT t q => Jvm.Free.XT.lload X.here C.2.2.1 rfl (hb C.2.2.2.1 hd) hl (by subst hpc; exact q)
theorem g_aload_n (C : Ctx B l rm bytes own nm maxL ret Z) {i : Fin 4} {v : Value} (hd : decode bytes pc = .ok (.aload_n i, 1)) (hl : L[i.val]? = some (.val v)) (hv : v.isRef = true) (hpc : pc + 1 = pc') (go : Go B n0 Q h k n pc' L (v :: st)) : Go B n0 Q h k n pc L st := go.step fun T locs X eT t q => Jvm.Free.XS.aloadN X.here C.2.2.1 rfl (hb C.2.2.2.1 hd) hl hv (by subst hpc; exact q)
theorem g_aload (C : Ctx B l rm bytes own nm maxL ret Z) {i : Nat} {v : Value} (hd : decode bytes pc = .ok (.aload i, 2)) (hl : L[i]? = some (.val v)) (hv : v.isRef = true) (hpc : pc + 2 = pc') (go : Go B n0 Q h k n pc' L (v :: st)) : Go B n0 Q h k n pc L st := go.step fun T locs X eT t q => Jvm.Free.XS.aload X.here C.2.2.1 rfl (hb C.2.2.2.1 hd) hl hv (by subst hpc; exact q)
theorem g_istore_n (C : Ctx B l rm bytes own nm maxL ret Z) {i : Fin 4} {v : Int32} (hd : decode bytes pc = .ok (.istore_n i, 1)) (hl : storeLocals L i.val (.int v) = some L') (hpc : pc + 1 = pc') (go : Go B n0 Q h k n pc' L' st) : Go B n0 Q h k n pc L (.int v :: st) := go.step fun T locs X eT t q => Jvm.Free.XS.istoreN X.here C.2.2.1 rfl (hb C.2.2.2.1 hd) rfl hl (by subst hpc; exact q)
theorem g_istore (C : Ctx B l rm bytes own nm maxL ret Z) {i : Nat} {v : Int32} (hd : decode bytes pc = .ok (.istore i, 2)) (hl : storeLocals L i (.int v) = some L') (hpc : pc + 2 = pc') (go : Go B n0 Q h k n pc' L' st) : Go B n0 Q h k n pc L (.int v :: st) := go.step fun T locs X eT t q => Jvm.Free.XS.istore X.here C.2.2.1 rfl (hb C.2.2.2.1 hd) rfl hl (by subst hpc; exact q)
theorem g_lstore_n (C : Ctx B l rm bytes own nm maxL ret Z) {i : Fin 4} {v : Int64} (hd : decode bytes pc = .ok (.lstore_n i, 1)) (hl : storeLocals L i.val (.long v) = some L') (hpc : pc + 1 = pc') (go : Go B n0 Q h k n pc' L' st) : Go B n0 Q h k n pc L (.long v :: st) := go.step fun T locs X eT t q => Jvm.Free.XT.lstoreN X.here C.2.2.1 rfl (hb C.2.2.2.1 hd) rfl hl (by subst hpc; exact q)
theorem g_lstore (C : Ctx B l rm bytes own nm maxL ret Z) {i : Nat} {v : Int64} (hd : decode bytes pc = .ok (.lstore i, 2)) (hl : storeLocals L i (.long v) = some L') (hpc : pc + 2 = pc') (go : Go B n0 Q h k n pc' L' st) : Go B n0 Q h k n pc L (.long v :: st) := go.step fun T locs X eT t q => Jvm.Free.XT.lstore X.here C.2.2.1 rfl (hb C.2.2.2.1 hd) rfl hl (by subst hpc; exact q)
theorem g_astore_n (C : Ctx B l rm bytes own nm maxL ret Z) {i : Fin 4} {v : Value} (hd : decode bytes pc = .ok (.astore_n i, 1)) (hl : storeLocals L i.val v = some L') (hv : v.isRef = true) (hpc : pc + 1 = pc') (go : Go B n0 Q h k n pc' L' st) : Go B n0 Q h k n pc L (v :: st) := go.step fun T locs X eT t q => Jvm.Free.XS.astoreN X.here C.2.2.1 rfl (hb C.2.2.2.1 hd) rfl hv hl (by subst hpc; exact q)
theorem g_astore (C : Ctx B l rm bytes own nm maxL ret Z) {i : Nat} {v : Value} (hd : decode bytes pc = .ok (.astore i, 2)) (hl : storeLocals L i v = some L') (hv : v.isRef = true) (hpc : pc + 2 = pc') (go : Go B n0 Q h k n pc' L' st) : Go B n0 Q h k n pc L (v :: st) := go.step fun T locs X eT t q => Jvm.Free.XS.astore X.here C.2.2.1 rfl (hb C.2.2.2.1 hd) rfl hv hl (by subst hpc; exact q)
theorem g_iinc (C : Ctx B l rm bytes own nm maxL ret Z) {i : Nat} {z : Int} {v w : Int32} (hd : decode bytes pc = .ok (.iinc i z, 3)) (hl : L[i]? = some (.val (.int v))) (hw : v + Int32.ofInt z = w) (hl' : storeLocals L i (.int w) = some L') (hpc : pc + 3 = pc') (go : Go B n0 Q h k n pc' L' st) : Go B n0 Q h k n pc L st := go.step fun T locs X eT t q => Jvm.Free.XS.iinc X.here C.2.2.1 rfl (hb C.2.2.2.1 hd) hl (by rw [hw]; exact hl') (by subst hpc; exact q)
theorem g_iconst (C : Ctx B l rm bytes own nm maxL ret Z) {z : Int} {v : Int32} (hd : decode bytes pc = .ok (.iconst z, 1)) (hv : Int32.ofInt z = v) (hpc : pc + 1 = pc') (go : Go B n0 Q h k n pc' L (.int v :: st)) : Go B n0 Q h k n pc L st := go.step fun T locs X eT t q => Jvm.Free.XS.iconst X.here C.2.2.1 rfl (hb C.2.2.2.1 hd) (by subst hpc hv; exact q)
theorem g_bipush (C : Ctx B l rm bytes own nm maxL ret Z) {z : Int} {v : Int32} (hd : decode bytes pc = .ok (.bipush z, 2)) (hv : (Int8.ofInt z).toInt32 = v) (hpc : pc + 2 = pc') (go : Go B n0 Q h k n pc' L (.int v :: st)) : Go B n0 Q h k n pc L st := go.step fun T locs X eT t q => Jvm.Free.XS.bipush X.here C.2.2.1 rfl (hb C.2.2.2.1 hd) (by subst hpc hv; exact q)
theorem g_lconst (C : Ctx B l rm bytes own nm maxL ret Z) {i : Fin 2} {v : Int64} (hd : decode bytes pc = .ok (.lconst i, 1)) (hv : Int64.ofNat i = v) (hpc : pc + 1 = pc') (go : Go B n0 Q h k n pc' L (.long v :: st)) : Go B n0 Q h k n pc L st := go.step fun T locs X eT t q => Jvm.Free.XT.lconst X.here C.2.2.1 rfl (hb C.2.2.2.1 hd) (by subst hpc hv; exact q)
theorem g_aconst_null (C : Ctx B l rm bytes own nm maxL ret Z)  (hd : decode bytes pc = .ok (.aconst_null, 1))  (hpc : pc + 1 = pc') (go : Go B n0 Q h k n pc' L (.null :: st)) : Go B n0 Q h k n pc L st := go.step fun T locs X eT t q => Jvm.Free.XS.aconstNull X.here C.2.2.1 rfl (hb C.2.2.2.1 hd)  (by subst hpc; exact q)
theorem g_iadd (C : Ctx B l rm bytes own nm maxL ret Z) {x y : Int32} (hd : decode bytes pc = .ok (.iadd, 1))  (hpc : pc + 1 = pc') (go : Go B n0 Q h k n pc' L (.int (x + y) :: st)) : Go B n0 Q h k n pc L (.int y :: .int x :: st) := go.step fun T locs X eT t q => Jvm.Free.XS.iadd X.here C.2.2.1 rfl (hb C.2.2.2.1 hd) rfl (by subst hpc; exact q)
theorem g_isub (C : Ctx B l rm bytes own nm maxL ret Z) {x y : Int32} (hd : decode bytes pc = .ok (.isub, 1))  (hpc : pc + 1 = pc') (go : Go B n0 Q h k n pc' L (.int (x - y) :: st)) : Go B n0 Q h k n pc L (.int y :: .int x :: st) := go.step fun T locs X eT t q => Jvm.Free.XS.isub X.here C.2.2.1 rfl (hb C.2.2.2.1 hd) rfl (by subst hpc; exact q)
theorem g_iand (C : Ctx B l rm bytes own nm maxL ret Z) {x y : Int32} (hd : decode bytes pc = .ok (.iand, 1))  (hpc : pc + 1 = pc') (go : Go B n0 Q h k n pc' L (.int (x &&& y) :: st)) : Go B n0 Q h k n pc L (.int y :: .int x :: st) := go.step fun T locs X eT t q => Jvm.Free.XS.iand X.here C.2.2.1 rfl (hb C.2.2.2.1 hd) rfl (by subst hpc; exact q)
theorem g_imul (C : Ctx B l rm bytes own nm maxL ret Z) {x y : Int32} (hd : decode bytes pc = .ok (.imul, 1))  (hpc : pc + 1 = pc') (go : Go B n0 Q h k n pc' L (.int (x * y) :: st)) : Go B n0 Q h k n pc L (.int y :: .int x :: st) := go.step fun T locs X eT t q => Jvm.Free.XS.imul X.here C.2.2.1 rfl (hb C.2.2.2.1 hd) rfl (by subst hpc; exact q)
theorem g_ixor (C : Ctx B l rm bytes own nm maxL ret Z) {x y : Int32} (hd : decode bytes pc = .ok (.ixor, 1))  (hpc : pc + 1 = pc') (go : Go B n0 Q h k n pc' L (.int (x ^^^ y) :: st)) : Go B n0 Q h k n pc L (.int y :: .int x :: st) := go.step fun T locs X eT t q => Jvm.Free.XT.ixor X.here C.2.2.1 rfl (hb C.2.2.2.1 hd) rfl (by subst hpc; exact q)
theorem g_ior (C : Ctx B l rm bytes own nm maxL ret Z) {x y : Int32} (hd : decode bytes pc = .ok (.ior, 1))  (hpc : pc + 1 = pc') (go : Go B n0 Q h k n pc' L (.int (x ||| y) :: st)) : Go B n0 Q h k n pc L (.int y :: .int x :: st) := go.step fun T locs X eT t q => Jvm.Free.XT.ior X.here C.2.2.1 rfl (hb C.2.2.2.1 hd) rfl (by subst hpc; exact q)
theorem g_ishl (C : Ctx B l rm bytes own nm maxL ret Z) {x y : Int32} (hd : decode bytes pc = .ok (.ishl, 1))  (hpc : pc + 1 = pc') (go : Go B n0 Q h k n pc' L (.int (x <<< (y &&& 31)) :: st)) : Go B n0 Q h k n pc L (.int y :: .int x :: st) := go.step fun T locs X eT t q => Jvm.Free.XT.ishl X.here C.2.2.1 rfl (hb C.2.2.2.1 hd) rfl (by subst hpc; exact q)
theorem g_ishr (C : Ctx B l rm bytes own nm maxL ret Z) {x y : Int32} (hd : decode bytes pc = .ok (.ishr, 1))  (hpc : pc + 1 = pc') (go : Go B n0 Q h k n pc' L (.int (x >>> (y &&& 31)) :: st)) : Go B n0 Q h k n pc L (.int y :: .int x :: st) := go.step fun T locs X eT t q => Jvm.Free.XT.ishr X.here C.2.2.1 rfl (hb C.2.2.2.1 hd) rfl (by subst hpc; exact q)
theorem g_iushr (C : Ctx B l rm bytes own nm maxL ret Z) {x y : Int32} (hd : decode bytes pc = .ok (.iushr, 1))  (hpc : pc + 1 = pc') (go : Go B n0 Q h k n pc' L (.int (Jvm.Free.XT.ushr x y) :: st)) : Go B n0 Q h k n pc L (.int y :: .int x :: st) := go.step fun T locs X eT t q => Jvm.Free.XT.iushr X.here C.2.2.1 rfl (hb C.2.2.2.1 hd) rfl (by subst hpc; exact q)
theorem g_idiv (C : Ctx B l rm bytes own nm maxL ret Z) {x y : Int32} (hd : decode bytes pc = .ok (.idiv, 1)) (hy : y ≠ 0) (hpc : pc + 1 = pc') (go : Go B n0 Q h k n pc' L (.int (x / y) :: st)) : Go B n0 Q h k n pc L (.int y :: .int x :: st) := go.step fun T locs X eT t q => Jvm.Free.XS.idiv X.here C.2.2.1 rfl (hb C.2.2.2.1 hd) rfl hy (by subst hpc; exact q)
theorem g_irem (C : Ctx B l rm bytes own nm maxL ret Z) {x y : Int32} (hd : decode bytes pc = .ok (.irem, 1)) (hy : y ≠ 0) (hpc : pc + 1 = pc') (go : Go B n0 Q h k n pc' L (.int (x - (x / y) * y) :: st)) : Go B n0 Q h k n pc L (.int y :: .int x :: st) := go.step fun T locs X eT t q => Jvm.Free.XS.irem X.here C.2.2.1 rfl (hb C.2.2.2.1 hd) rfl hy (by subst hpc; exact q)
theorem g_ineg (C : Ctx B l rm bytes own nm maxL ret Z) {x : Int32} (hd : decode bytes pc = .ok (.ineg, 1))  (hpc : pc + 1 = pc') (go : Go B n0 Q h k n pc' L (.int (-x) :: st)) : Go B n0 Q h k n pc L (.int x :: st) := go.step fun T locs X eT t q => Jvm.Free.XS.ineg X.here C.2.2.1 rfl (hb C.2.2.2.1 hd) rfl (by subst hpc; exact q)
theorem g_ladd (C : Ctx B l rm bytes own nm maxL ret Z) {x y : Int64} (hd : decode bytes pc = .ok (.ladd, 1))  (hpc : pc + 1 = pc') (go : Go B n0 Q h k n pc' L (.long (x + y) :: st)) : Go B n0 Q h k n pc L (.long y :: .long x :: st) := go.step fun T locs X eT t q => Jvm.Free.XT.ladd X.here C.2.2.1 rfl (hb C.2.2.2.1 hd) rfl (by subst hpc; exact q)
theorem g_lsub (C : Ctx B l rm bytes own nm maxL ret Z) {x y : Int64} (hd : decode bytes pc = .ok (.lsub, 1))  (hpc : pc + 1 = pc') (go : Go B n0 Q h k n pc' L (.long (x - y) :: st)) : Go B n0 Q h k n pc L (.long y :: .long x :: st) := go.step fun T locs X eT t q => Jvm.Free.XT.lsub X.here C.2.2.1 rfl (hb C.2.2.2.1 hd) rfl (by subst hpc; exact q)
theorem g_lmul (C : Ctx B l rm bytes own nm maxL ret Z) {x y : Int64} (hd : decode bytes pc = .ok (.lmul, 1))  (hpc : pc + 1 = pc') (go : Go B n0 Q h k n pc' L (.long (x * y) :: st)) : Go B n0 Q h k n pc L (.long y :: .long x :: st) := go.step fun T locs X eT t q => Jvm.Free.XT.lmul X.here C.2.2.1 rfl (hb C.2.2.2.1 hd) rfl (by subst hpc; exact q)
theorem g_land (C : Ctx B l rm bytes own nm maxL ret Z) {x y : Int64} (hd : decode bytes pc = .ok (.land, 1))  (hpc : pc + 1 = pc') (go : Go B n0 Q h k n pc' L (.long (x &&& y) :: st)) : Go B n0 Q h k n pc L (.long y :: .long x :: st) := go.step fun T locs X eT t q => Jvm.Free.XT.land X.here C.2.2.1 rfl (hb C.2.2.2.1 hd) rfl (by subst hpc; exact q)
theorem g_lor (C : Ctx B l rm bytes own nm maxL ret Z) {x y : Int64} (hd : decode bytes pc = .ok (.lor, 1))  (hpc : pc + 1 = pc') (go : Go B n0 Q h k n pc' L (.long (x ||| y) :: st)) : Go B n0 Q h k n pc L (.long y :: .long x :: st) := go.step fun T locs X eT t q => Jvm.Free.XT.lor X.here C.2.2.1 rfl (hb C.2.2.2.1 hd) rfl (by subst hpc; exact q)
theorem g_lxor (C : Ctx B l rm bytes own nm maxL ret Z) {x y : Int64} (hd : decode bytes pc = .ok (.lxor, 1))  (hpc : pc + 1 = pc') (go : Go B n0 Q h k n pc' L (.long (x ^^^ y) :: st)) : Go B n0 Q h k n pc L (.long y :: .long x :: st) := go.step fun T locs X eT t q => Jvm.Free.XT.lxor X.here C.2.2.1 rfl (hb C.2.2.2.1 hd) rfl (by subst hpc; exact q)
theorem g_ldiv (C : Ctx B l rm bytes own nm maxL ret Z) {x y : Int64} (hd : decode bytes pc = .ok (.ldiv, 1)) (hy : y ≠ 0) (hpc : pc + 1 = pc') (go : Go B n0 Q h k n pc' L (.long (x / y) :: st)) : Go B n0 Q h k n pc L (.long y :: .long x :: st) := go.step fun T locs X eT t q => Jvm.Free.XT.ldiv X.here C.2.2.1 rfl (hb C.2.2.2.1 hd) rfl hy (by subst hpc; exact q)
theorem g_lrem (C : Ctx B l rm bytes own nm maxL ret Z) {x y : Int64} (hd : decode bytes pc = .ok (.lrem, 1)) (hy : y ≠ 0) (hpc : pc + 1 = pc') (go : Go B n0 Q h k n pc' L (.long (x - (x / y) * y) :: st)) : Go B n0 Q h k n pc L (.long y :: .long x :: st) := go.step fun T locs X eT t q => Jvm.Free.XT.lrem X.here C.2.2.1 rfl (hb C.2.2.2.1 hd) rfl hy (by subst hpc; exact q)
theorem g_lneg (C : Ctx B l rm bytes own nm maxL ret Z) {x : Int64} (hd : decode bytes pc = .ok (.lneg, 1))  (hpc : pc + 1 = pc') (go : Go B n0 Q h k n pc' L (.long (-x) :: st)) : Go B n0 Q h k n pc L (.long x :: st) := go.step fun T locs X eT t q => Jvm.Free.XT.lneg X.here C.2.2.1 rfl (hb C.2.2.2.1 hd) rfl (by subst hpc; exact q)
theorem g_lshl (C : Ctx B l rm bytes own nm maxL ret Z) {x : Int64} {y : Int32} (hd : decode bytes pc = .ok (.lshl, 1))  (hpc : pc + 1 = pc') (go : Go B n0 Q h k n pc' L (.long (x <<< (y.toInt64 &&& 63)) :: st)) : Go B n0 Q h k n pc L (.int y :: .long x :: st) := go.step fun T locs X eT t q => Jvm.Free.XT.lshl X.here C.2.2.1 rfl (hb C.2.2.2.1 hd) rfl (by subst hpc; exact q)
theorem g_lshr (C : Ctx B l rm bytes own nm maxL ret Z) {x : Int64} {y : Int32} (hd : decode bytes pc = .ok (.lshr, 1))  (hpc : pc + 1 = pc') (go : Go B n0 Q h k n pc' L (.long (x >>> (y.toInt64 &&& 63)) :: st)) : Go B n0 Q h k n pc L (.int y :: .long x :: st) := go.step fun T locs X eT t q => Jvm.Free.XT.lshr X.here C.2.2.1 rfl (hb C.2.2.2.1 hd) rfl (by subst hpc; exact q)
theorem g_lushr (C : Ctx B l rm bytes own nm maxL ret Z) {x : Int64} {y : Int32} (hd : decode bytes pc = .ok (.lushr, 1))  (hpc : pc + 1 = pc') (go : Go B n0 Q h k n pc' L (.long (Jvm.Free.XT.ushrL x y) :: st)) : Go B n0 Q h k n pc L (.int y :: .long x :: st) := go.step fun T locs X eT t q => Jvm.Free.XT.lushr X.here C.2.2.1 rfl (hb C.2.2.2.1 hd) rfl (by subst hpc; exact q)
theorem g_lcmp (C : Ctx B l rm bytes own nm maxL ret Z) {x y : Int64} (hd : decode bytes pc = .ok (.lcmp, 1))  (hpc : pc + 1 = pc') (go : Go B n0 Q h k n pc' L (.int (Jvm.Free.XT.cmpL x y) :: st)) : Go B n0 Q h k n pc L (.long y :: .long x :: st) := go.step fun T locs X eT t q => Jvm.Free.XT.lcmp X.here C.2.2.1 rfl (hb C.2.2.2.1 hd) rfl (by subst hpc; exact q)
theorem g_i2l (C : Ctx B l rm bytes own nm maxL ret Z) {x : Int32} (hd : decode bytes pc = .ok (.i2l, 1))  (hpc : pc + 1 = pc') (go : Go B n0 Q h k n pc' L (.long (x.toInt64) :: st)) : Go B n0 Q h k n pc L (.int x :: st) := go.step fun T locs X eT t q => Jvm.Free.XT.i2l X.here C.2.2.1 rfl (hb C.2.2.2.1 hd) rfl (by subst hpc; exact q)
theorem g_l2i (C : Ctx B l rm bytes own nm maxL ret Z) {x : Int64} (hd : decode bytes pc = .ok (.l2i, 1))  (hpc : pc + 1 = pc') (go : Go B n0 Q h k n pc' L (.int (x.toInt32) :: st)) : Go B n0 Q h k n pc L (.long x :: st) := go.step fun T locs X eT t q => Jvm.Free.XT.l2i X.here C.2.2.1 rfl (hb C.2.2.2.1 hd) rfl (by subst hpc; exact q)
theorem g_i2b (C : Ctx B l rm bytes own nm maxL ret Z) {x : Int32} (hd : decode bytes pc = .ok (.i2b, 1))  (hpc : pc + 1 = pc') (go : Go B n0 Q h k n pc' L (.int (x.toInt8.toInt32) :: st)) : Go B n0 Q h k n pc L (.int x :: st) := go.step fun T locs X eT t q => Jvm.Free.XT.i2b X.here C.2.2.1 rfl (hb C.2.2.2.1 hd) rfl (by subst hpc; exact q)
theorem g_i2c (C : Ctx B l rm bytes own nm maxL ret Z) {x : Int32} (hd : decode bytes pc = .ok (.i2c, 1))  (hpc : pc + 1 = pc') (go : Go B n0 Q h k n pc' L (.int (x.toUInt32.toUInt16.toUInt32.toInt32) :: st)) : Go B n0 Q h k n pc L (.int x :: st) := go.step fun T locs X eT t q => Jvm.Free.XT.i2c X.here C.2.2.1 rfl (hb C.2.2.2.1 hd) rfl (by subst hpc; exact q)
theorem g_i2s (C : Ctx B l rm bytes own nm maxL ret Z) {x : Int32} (hd : decode bytes pc = .ok (.i2s, 1))  (hpc : pc + 1 = pc') (go : Go B n0 Q h k n pc' L (.int (x.toInt16.toInt32) :: st)) : Go B n0 Q h k n pc L (.int x :: st) := go.step fun T locs X eT t q => Jvm.Free.XT.i2s X.here C.2.2.1 rfl (hb C.2.2.2.1 hd) rfl (by subst hpc; exact q)
theorem g_dup (C : Ctx B l rm bytes own nm maxL ret Z) {x : Value} (hd : decode bytes pc = .ok (.dup, 1)) (hc : x.category = 1) (hpc : pc + 1 = pc') (go : Go B n0 Q h k n pc' L (x :: x :: st)) : Go B n0 Q h k n pc L (x :: st) := go.step fun T locs X eT t q => Jvm.Free.XS.dup X.here C.2.2.1 rfl (hb C.2.2.2.1 hd) rfl hc (by subst hpc; exact q)
theorem g_pop (C : Ctx B l rm bytes own nm maxL ret Z) {x : Value} (hd : decode bytes pc = .ok (.pop, 1)) (hc : x.category = 1) (hpc : pc + 1 = pc') (go : Go B n0 Q h k n pc' L st) : Go B n0 Q h k n pc L (x :: st) := go.step fun T locs X eT t q => Jvm.Free.XT.pop X.here C.2.2.1 rfl (hb C.2.2.2.1 hd) rfl hc (by subst hpc; exact q)
theorem g_dup_x1 (C : Ctx B l rm bytes own nm maxL ret Z) {x y : Value} (hd : decode bytes pc = .ok (.dup_x1, 1)) (hc : x.category = 1) (hc' : y.category = 1) (hpc : pc + 1 = pc') (go : Go B n0 Q h k n pc' L (x :: y :: x :: st)) : Go B n0 Q h k n pc L (x :: y :: st) := go.step fun T locs X eT t q => Jvm.Free.XT.dupX1 X.here C.2.2.1 rfl (hb C.2.2.2.1 hd) rfl hc hc' (by subst hpc; exact q)
theorem g_dup2 (C : Ctx B l rm bytes own nm maxL ret Z) {x y : Value} (hd : decode bytes pc = .ok (.dup2, 1)) (hc : x.category = 1) (hc' : y.category = 1) (hpc : pc + 1 = pc') (go : Go B n0 Q h k n pc' L (x :: y :: x :: y :: st)) : Go B n0 Q h k n pc L (x :: y :: st) := go.step fun T locs X eT t q => Jvm.Free.XT.dup2 X.here C.2.2.1 rfl (hb C.2.2.2.1 hd) rfl hc hc' (by subst hpc; exact q)
theorem g_dup2L (C : Ctx B l rm bytes own nm maxL ret Z) {x : Int64} (hd : decode bytes pc = .ok (.dup2, 1))  (hpc : pc + 1 = pc') (go : Go B n0 Q h k n pc' L (.long x :: .long x :: st)) : Go B n0 Q h k n pc L (.long x :: st) := go.step fun T locs X eT t q => Jvm.Free.XT.dup2L X.here C.2.2.1 rfl (hb C.2.2.2.1 hd) rfl (by subst hpc; exact q)
theorem g_goto (C : Ctx B l rm bytes own nm maxL ret Z) {o : Int} (hd : decode bytes pc = .ok (.goto o, 3)) (ho : 0 ≤ (pc : Int) + o) (hp : ((pc : Int) + o).toNat = pc') (go : Go B n0 Q h k n pc' L st) : Go B n0 Q h k n pc L st := go.step fun T locs X eT t q => Jvm.Free.XS.goto X.here C.2.2.1 rfl rfl (hb C.2.2.2.1 hd) ho hp q
theorem g_if_y (C : Ctx B l rm bytes own nm maxL ret Z) {cd : ClassFile.Cond} {x : Int32} {o : Int} (hd : decode bytes pc = .ok (.ifCond cd o, 3)) (hc : ifCond.holds cd x = true) (ho : 0 ≤ (pc : Int) + o) (hp : ((pc : Int) + o).toNat = pc') (go : Go B n0 Q h k n pc' L st) : Go B n0 Q h k n pc L (.int x :: st) := go.step fun T locs X eT t q => Jvm.Free.XS.ifYes X.here C.2.2.1 rfl rfl (hb C.2.2.2.1 hd) rfl hc ho hp q
theorem g_if_n (C : Ctx B l rm bytes own nm maxL ret Z) {cd : ClassFile.Cond} {x : Int32} {o : Int} (hd : decode bytes pc = .ok (.ifCond cd o, 3)) (hc : ifCond.holds cd x = false) (hpc : pc + 3 = pc') (go : Go B n0 Q h k n pc' L st) : Go B n0 Q h k n pc L (.int x :: st) := go.step fun T locs X eT t q => Jvm.Free.XS.ifNo X.here C.2.2.1 rfl (hb C.2.2.2.1 hd) rfl hc (by subst hpc; exact q)
theorem g_icmp_y (C : Ctx B l rm bytes own nm maxL ret Z) {cd : ClassFile.Cond} {x y : Int32} {o : Int} (hd : decode bytes pc = .ok (.if_icmp cd o, 3)) (hc : if_icmp.holds cd x y = true) (ho : 0 ≤ (pc : Int) + o) (hp : ((pc : Int) + o).toNat = pc') (go : Go B n0 Q h k n pc' L st) : Go B n0 Q h k n pc L (.int y :: .int x :: st) := go.step fun T locs X eT t q => Jvm.Free.XS.icmpYes X.here C.2.2.1 rfl rfl (hb C.2.2.2.1 hd) rfl hc ho hp q
theorem g_icmp_n (C : Ctx B l rm bytes own nm maxL ret Z) {cd : ClassFile.Cond} {x y : Int32} {o : Int} (hd : decode bytes pc = .ok (.if_icmp cd o, 3)) (hc : if_icmp.holds cd x y = false) (hpc : pc + 3 = pc') (go : Go B n0 Q h k n pc' L st) : Go B n0 Q h k n pc L (.int y :: .int x :: st) := go.step fun T locs X eT t q => Jvm.Free.XS.icmpNo X.here C.2.2.1 rfl (hb C.2.2.2.1 hd) rfl hc (by subst hpc; exact q)
theorem g_acmp_y (C : Ctx B l rm bytes own nm maxL ret Z) {cd : ClassFile.ACond} {x y : Value} {o : Int} (hd : decode bytes pc = .ok (.if_acmp cd o, 3)) (hc1 : x.isRef = true) (hc2 : y.isRef = true) (hc : Jvm.Free.XT.acmp cd x y = true) (ho : 0 ≤ (pc : Int) + o) (hp : ((pc : Int) + o).toNat = pc') (go : Go B n0 Q h k n pc' L st) : Go B n0 Q h k n pc L (y :: x :: st) := go.step fun T locs X eT t q => Jvm.Free.XT.acmpYes X.here C.2.2.1 rfl rfl (hb C.2.2.2.1 hd) rfl hc1 hc2 hc ho hp q
theorem g_acmp_n (C : Ctx B l rm bytes own nm maxL ret Z) {cd : ClassFile.ACond} {x y : Value} {o : Int} (hd : decode bytes pc = .ok (.if_acmp cd o, 3)) (hc1 : x.isRef = true) (hc2 : y.isRef = true) (hc : Jvm.Free.XT.acmp cd x y = false) (hpc : pc + 3 = pc') (go : Go B n0 Q h k n pc' L st) : Go B n0 Q h k n pc L (y :: x :: st) := go.step fun T locs X eT t q => Jvm.Free.XT.acmpNo X.here C.2.2.1 rfl (hb C.2.2.2.1 hd) rfl hc1 hc2 hc (by subst hpc; exact q)
theorem g_ifnull_y (C : Ctx B l rm bytes own nm maxL ret Z) {o : Int} (hd : decode bytes pc = .ok (.ifnull o, 3)) (ho : 0 ≤ (pc : Int) + o) (hp : ((pc : Int) + o).toNat = pc') (go : Go B n0 Q h k n pc' L st) : Go B n0 Q h k n pc L (.null :: st) := go.step fun T locs X eT t q => Jvm.Free.XS.ifnullYes X.here C.2.2.1 rfl rfl (hb C.2.2.2.1 hd) rfl ho hp q
theorem g_ifnull_n (C : Ctx B l rm bytes own nm maxL ret Z) {o : Int} {b : Addr} (hd : decode bytes pc = .ok (.ifnull o, 3)) (hpc : pc + 3 = pc') (go : Go B n0 Q h k n pc' L st) : Go B n0 Q h k n pc L (.ref b :: st) := go.step fun T locs X eT t q => Jvm.Free.XS.ifnullNo X.here C.2.2.1 rfl (hb C.2.2.2.1 hd) rfl (by subst hpc; exact q)
theorem g_ifnonnull_y (C : Ctx B l rm bytes own nm maxL ret Z) {o : Int} {b : Addr} (hd : decode bytes pc = .ok (.ifnonnull o, 3)) (ho : 0 ≤ (pc : Int) + o) (hp : ((pc : Int) + o).toNat = pc') (go : Go B n0 Q h k n pc' L st) : Go B n0 Q h k n pc L (.ref b :: st) := go.step fun T locs X eT t q => Jvm.Free.XT.ifnonnullYes X.here C.2.2.1 rfl rfl (hb C.2.2.2.1 hd) rfl ho hp q
theorem g_ifnonnull_n (C : Ctx B l rm bytes own nm maxL ret Z) {o : Int} (hd : decode bytes pc = .ok (.ifnonnull o, 3)) (hpc : pc + 3 = pc') (go : Go B n0 Q h k n pc' L st) : Go B n0 Q h k n pc L (.null :: st) := go.step fun T locs X eT t q => Jvm.Free.XT.ifnonnullNo X.here C.2.2.1 rfl (hb C.2.2.2.1 hd) rfl (by subst hpc; exact q)
theorem g_ldc (C : Ctx B l rm bytes own nm maxL ret Z) {i : Nat} {v : Int32} (w : (Jvm.Cond.constant own i v).before a0 Z = true) (hd : decode bytes pc = .ok (.ldc i, 2)) (hpc : pc + 2 = pc') (go : Go B n0 Q h k n pc' L (.int v :: st)) : Go B n0 Q h k n pc L st := go.step fun T locs X eT t q => X.ldcInt C.2.2.1 C.2.2.2.2.2.1 (mvT C.2.2.2.2.1 w) (g := mkF B.m pc L st) rfl (hb C.2.2.2.1 hd) t (by subst hpc; exact q)
theorem g_ldc_w (C : Ctx B l rm bytes own nm maxL ret Z) {i : Nat} {v : Int32} (w : (Jvm.Cond.constant own i v).before a0 Z = true) (hd : decode bytes pc = .ok (.ldc_w i, 3)) (hpc : pc + 3 = pc') (go : Go B n0 Q h k n pc' L (.int v :: st)) : Go B n0 Q h k n pc L st := go.step fun T locs X eT t q => X.ldcwInt C.2.2.1 C.2.2.2.2.2.1 (mvT C.2.2.2.2.1 w) (g := mkF B.m pc L st) rfl (hb C.2.2.2.1 hd) t (by subst hpc; exact q)
theorem g_ldc2_w (C : Ctx B l rm bytes own nm maxL ret Z) {i : Nat} {v : Int64} (w : (Jvm.Cond.constantLong own i v).before a0 Z = true) (hd : decode bytes pc = .ok (.ldc2_w i, 3)) (hpc : pc + 3 = pc') (go : Go B n0 Q h k n pc' L (.long v :: st)) : Go B n0 Q h k n pc L st := go.step fun T locs X eT t q => X.ldc2Long C.2.2.1 C.2.2.2.2.2.1 (mvT C.2.2.2.2.1 w) (g := mkF B.m pc L st) rfl (hb C.2.2.2.1 hd) t (by subst hpc; exact q)
theorem g_getfield (C : Ctx B l rm bytes own nm maxL ret Z) {i : Nat} {R0 O fn d host : String} {a : Addr} {v : Value} (w : (Jvm.Cond.fieldLink own i R0 fn d).before a0 Z = true ∨ (Jvm.Cond.fieldLinkNest own i R0 fn d host).before a0 Z = true) (via : Via Z R0 O fn d) (F : Fld Z h a O fn d v) (hd : decode bytes pc = .ok (.getfield i, 3)) (hpc : pc + 3 = pc') (go : Go B n0 Q h k n pc' L (v :: st)) : Go B n0 Q h k n pc L (.ref a :: st) := go.move fun T locs X eT => by
  obtain ⟨T', X', e', f⟩ := getF X C.2.2.1 C.2.2.2.2.1 C.2.2.2.2.2.1 w via eT F (g := mkF B.m pc L (.ref a :: st)) rfl rfl (hb C.2.2.2.1 hd)
  subst hpc; exact ⟨T', X', e', f⟩
theorem g_getstatic (C : Ctx B l rm bytes own nm maxL ret Z) {i : Nat} {R0 O fn d host : String} {v : Value} (w : (Jvm.Cond.fieldLink own i R0 fn d).before a0 Z = true ∨ (Jvm.Cond.fieldLinkNest own i R0 fn d host).before a0 Z = true) (via : Via Z R0 O fn d) (F : Sta Z h O fn d v) (hd : decode bytes pc = .ok (.getstatic i, 3)) (hpc : pc + 3 = pc') (go : Go B n0 Q h k n pc' L (v :: st)) : Go B n0 Q h k n pc L st := go.move fun T locs X eT => by
  obtain ⟨T', X', e', f⟩ := getS2 X C.2.2.1 C.2.2.2.2.1 C.2.2.2.2.2.1 w via eT F (g := mkF B.m pc L st) rfl (hb C.2.2.2.1 hd)
  subst hpc; exact ⟨T', X', e', f⟩
theorem g_checkcast (C : Ctx B l rm bytes own nm maxL ret Z) {i : Nat} {K : String} {a : Addr} (w : (Jvm.Cond.classLink own i K).before a0 Z = true) (F : Ins Z h a K true) (hd : decode bytes pc = .ok (.checkcast i, 3)) (hpc : pc + 3 = pc') (go : Go B n0 Q h k n pc' L (.ref a :: st)) : Go B n0 Q h k n pc L (.ref a :: st) := go.move fun T locs X eT => by
  obtain ⟨T', X', e', f⟩ := castY X C.2.2.1 C.2.2.2.2.1 C.2.2.2.2.2.1 w eT F (g := mkF B.m pc L (.ref a :: st)) rfl rfl (hb C.2.2.2.1 hd)
  subst hpc; exact ⟨T', X', e', f⟩
theorem g_instanceof_y (C : Ctx B l rm bytes own nm maxL ret Z) {i : Nat} {K : String} {a : Addr} (w : (Jvm.Cond.classLink own i K).before a0 Z = true) (F : Ins Z h a K true) (hd : decode bytes pc = .ok (.instanceof i, 3)) (hpc : pc + 3 = pc') (go : Go B n0 Q h k n pc' L (.int 1 :: st)) : Go B n0 Q h k n pc L (.ref a :: st) := go.move fun T locs X eT => by
  obtain ⟨T', X', e', f⟩ := instY X C.2.2.1 C.2.2.2.2.1 C.2.2.2.2.2.1 w eT F (g := mkF B.m pc L (.ref a :: st)) rfl rfl (hb C.2.2.2.1 hd)
  subst hpc; exact ⟨T', X', e', f⟩
theorem g_instanceof_n (C : Ctx B l rm bytes own nm maxL ret Z) {i : Nat} {K K' : String} {a : Addr} (w : (Jvm.Cond.classLink own i K).before a0 Z = true) (E : Exa Z h a K') (F : ∃ c t, Z.vm.findClass K' = some c ∧ Z.vm.findClass K = some t ∧ Z.vm.assignable c t = false) (hd : decode bytes pc = .ok (.instanceof i, 3)) (hpc : pc + 3 = pc') (go : Go B n0 Q h k n pc' L (.int 0 :: st)) : Go B n0 Q h k n pc L (.ref a :: st) := go.move fun T locs X eT => by
  obtain ⟨T', X', e', f⟩ := instNo X C.2.2.1 C.2.2.2.2.1 C.2.2.2.2.2.1 w eT E F (g := mkF B.m pc L (.ref a :: st)) rfl rfl (hb C.2.2.2.1 hd)
  subst hpc; exact ⟨T', X', e', f⟩
theorem g_putfield (C : Ctx B l rm bytes own nm maxL ret Z) {i kk : Nat} {R0 O fn d host K : String} {ty : FieldType} {a : Addr} {v old : Value} (w : (Jvm.Cond.fieldLink own i R0 fn d).before a0 Z = true ∨ (Jvm.Cond.fieldLinkNest own i R0 fn d host).before a0 Z = true) (via : Via Z R0 O fn d) (F : Fld Z h a O fn d old) (E : Exa Z h a K) (Ly : (Jvm.Cond.lays K O fn d).before a0 Z = true ∨ ((Jvm.Cond.laysFinal K O fn d).before a0 Z = true ∧ own = O ∧ nm = "<init>")) (wi : (Jvm.Cond.instantiable K kk).before a0 Z = true) (hty : parseFieldDescriptor d = some ty) (hn : narrow ty v = v) (hf : fits ty v = true) (ge : n0 ≤ a) (hd : decode bytes pc = .ok (.putfield i, 3)) (hpc : pc + 3 = pc') (go : ∀ h', Wr h h' a (Jvm.RoadKit.slotOf Z O fn d) v → Go B n0 Q h' k n pc' L st) : Go B n0 Q h k n pc L (v :: .ref a :: st) := fun T locs X N eT => by
  obtain ⟨T', h', X', e', W, f⟩ := putF X C.2.2.1 C.2.2.2.2.1 C.2.2.2.2.2.1 w via eT F E (Ly.imp id fun q => ⟨q.1, q.2.1, by rw [C.2.2.2.2.2.2.1]; exact q.2.2⟩) wi hty hn hf (g := mkF B.m pc L (v :: .ref a :: st)) rfl rfl (hb C.2.2.2.1 hd)
  obtain ⟨t, o, q, r⟩ := go h' W T' _ X' (Fr.snoc X' N ge) e'
  subst hpc
  exact ⟨t, o, f t q, r⟩
theorem g_new (C : Ctx B l rm bytes own nm maxL ret Z) {i nn : Nat} {K : String} (w : (Jvm.Cond.classLink own i K).before a0 Z = true) (wi : (Jvm.Cond.instantiable K nn).before a0 Z = true) (wz : (Jvm.Cond.initialized K).before a0 Z = true) (hc : k + 1 ≤ rm.cells) (hl : n + nn ≤ rm.slots) (hd : decode bytes pc = .ok (.new i, 3)) (hpc : pc + 3 = pc') (go : ∀ h' a, a = h.size → Ext h h' → Exa Z h' a K → (∀ {O fn d : String} {ty : FieldType}, Laid Z a0 K O fn d → parseFieldDescriptor d = some ty → Fld Z h' a O fn d (defaultValue ty)) → Go B n0 Q h' (k + 1) (n + nn) pc' L (.ref a :: st)) : Go B n0 Q h k n pc L st := fun T locs X N eT => by
  obtain ⟨T', h', X', e', E, A, D, -, f⟩ := newO X C.2.2.1 C.2.2.2.2.1 C.2.2.2.2.2.1 w wi wz eT (g := mkF B.m pc L st) rfl (hb C.2.2.2.1 hd) (by rw [C.2.1]; exact hc) (by rw [C.2.1]; exact hl)
  obtain ⟨t, o, q, r⟩ := go h' _ rfl E A D T' _ X' N e'
  subst hpc
  exact ⟨t, o, f t q, r⟩
theorem g_initObj (C : Ctx B l rm bytes own nm maxL ret Z) {i : Nat} {a : Addr} (w1 : (Jvm.Cond.methodLink own i Lib.objectInit).before a0 Z = true) (w2 : (Jvm.Cond.instanceMethod Lib.objectInit).before a0 Z = true) (w3 : (Jvm.Cond.code Lib.objectInit ⟨#[0xb1]⟩ 1 none).before a0 Z = true) (hsz : L.size = maxL) (hf : 1 ≤ rm.frames) {W : Nat} (hW : (st.map fun v => v.category).sum ≤ W) (hl : W + 12 ≤ rm.locals) (hd : decode bytes pc = .ok (.invokespecial i, 3)) (hpc : pc + 3 = pc') (go : Go B n0 Q h k n pc' L st) : Go B n0 Q h k n pc L (.ref a :: st) := fun T locs X N eT => by
  obtain ⟨T', X', e', f⟩ := initO X C.2.2.1 C.2.2.2.2.1 C.2.2.2.2.2.1 w1 w2 w3 eT (g := mkF B.m pc L (.ref a :: st)) rfl (by rw [C.2.2.2.2.2.2.2.1]; exact hsz) rfl (hb C.2.2.2.1 hd) (by rw [C.2.1]; exact hf) (W := W) (by show 2 * 0 + _ ≤ _; omega) (by rw [C.2.1]; exact hl)
  obtain ⟨t, o, q, r⟩ := go T' _ X' N e'
  subst hpc
  exact ⟨t, o, f t q, r⟩
theorem g_static (C : Ctx B l rm bytes own nm maxL ret Z) {i : Nat} {y : MethodName} {b' : ByteArray} {mx : Nat} {rt : Option FieldType} {rm' : Room} {as' : Array Value} {Q' : Option Value → Heap → Prop} (w1 : (Jvm.Cond.methodLink own i y).before a0 Z = true) (w2 : (Jvm.Cond.static y).before a0 Z = true) (wz : (Jvm.Cond.initialized y.cls).before a0 Z = true) (wc : (Jvm.Cond.code y b' mx rt).before a0 Z = true) (hy : y.cls ≠ "java/lang/invoke/MethodHandle" ∧ y.cls ≠ "java/lang/invoke/VarHandle") (K : Met1 l Z y b' mx rt rm' n0 as' h Q') (argsL : List Value) {stk : List Value} (hst : stk = argsL.reverse ++ st) (has : as' = argsL.toArray) {ps : List FieldType} {r' : Option FieldType} (pd : parseMethodDescriptor y.desc = some ⟨ps, r'⟩) (hlen : argsL.length = ps.length) (hsz : L.size = maxL) (hf : rm'.frames + 1 ≤ rm.frames) {W : Nat} (hW : (st.map fun v => v.category).sum ≤ W) (hlo : W + (mx + 11) + rm'.locals ≤ rm.locals) (hc : k + rm'.cells ≤ rm.cells) (hs : n + rm'.slots ≤ rm.slots) (hd : decode bytes pc = .ok (.invokestatic i, 3)) (hpc : pc + 3 = pc') (go : ∀ v h', Q' v h' → Go B n0 Q h' (k + rm'.cells) (n + rm'.slots) pc' L (v.toList ++ st)) : Go B n0 Q h k n pc L stk := fun T locs X N eT => by
  subst hst has
  obtain ⟨v, _, ⟨T', L1, k1, n1⟩, -, X', ⟨L2, ⟨N', hq⟩, l1, l2, l3⟩, f⟩ := Jvm.LawKit.callS X C.2.2.1 (y := y) C.2.2.2.2.2.1 (mvT C.2.2.2.2.1 w1) (mvT C.2.2.2.2.1 w2) (mvT C.2.2.2.2.1 wz) (mvT C.2.2.2.2.1 wc) hy (backOf (W := W) (Q := fun v h L => Fr n0 L ∧ Q' v h) (C.1 ▸ K []) C.2.2.2.2.1 wc wz (by rw [C.2.1]; exact hf) (by rw [C.2.1]; exact hlo)) (g := mkF B.m pc L (argsL.reverse ++ st)) rfl (by rw [C.2.2.2.2.2.2.2.1]; exact hsz) (argsL := argsL) (rest := st) (lenOf pd hlen) rfl (by show 2 * 0 + _ ≤ _; omega) (hb C.2.2.2.1 hd) (fun _ _ => ⟨rfl, eT, by rw [C.2.1]; exact hc, by rw [C.2.1]; exact hs⟩)
  dsimp only [Pt.U, Pt.locs, Pt.cells, Pt.slots] at X' l1 l2 l3 f hq
  subst l1 l2 l3
  obtain ⟨t, o, q, r⟩ := go v _ hq T' _ X' (Fr.app N N') rfl
  subst hpc
  exact ⟨t, o, f t q, r⟩
theorem g_special (C : Ctx B l rm bytes own nm maxL ret Z) {i : Nat} {y : MethodName} {b' : ByteArray} {mx : Nat} {rm' : Room} {as' : Array Value} {Q' : Option Value → Heap → Prop} {a : Addr} (hy1 : y.name = "<init>") (w1 : (Jvm.Cond.methodLink own i y).before a0 Z = true) (w2 : (Jvm.Cond.instanceMethod y).before a0 Z = true) (wz : (Jvm.Cond.initialized y.cls).before a0 Z = true) (wc : (Jvm.Cond.code y b' mx none).before a0 Z = true) (hy : y.cls ≠ "java/lang/invoke/MethodHandle" ∧ y.cls ≠ "java/lang/invoke/VarHandle") (K : Met1 l Z y b' mx none rm' n0 as' h Q') (argsL : List Value) {stk : List Value} (hst : stk = argsL.reverse ++ .ref a :: st) (has : as' = (Value.ref a :: argsL).toArray) {ps : List FieldType} {r' : Option FieldType} (pd : parseMethodDescriptor y.desc = some ⟨ps, r'⟩) (hlen : argsL.length = ps.length) (hsz : L.size = maxL) (hf : rm'.frames + 1 ≤ rm.frames) {W : Nat} (hW : (st.map fun v => v.category).sum ≤ W) (hlo : W + (mx + 11) + rm'.locals ≤ rm.locals) (hc : k + rm'.cells ≤ rm.cells) (hs : n + rm'.slots ≤ rm.slots) (hd : decode bytes pc = .ok (.invokespecial i, 3)) (hpc : pc + 3 = pc') (go : ∀ v h', Q' v h' → Go B n0 Q h' (k + rm'.cells) (n + rm'.slots) pc' L (v.toList ++ st)) : Go B n0 Q h k n pc L stk := fun T locs X N eT => by
  subst hst has
  obtain ⟨v, _, ⟨T', L1, k1, n1⟩, -, X', ⟨L2, ⟨N', hq⟩, l1, l2, l3⟩, f⟩ := X.specialBack C.2.2.1 (y := y) hy1 C.2.2.2.2.2.1 (mvT C.2.2.2.2.1 w1) (mvT C.2.2.2.2.1 w2) (mvT C.2.2.2.2.1 wc) hy (backOf (W := W) (Q := fun v h L => Fr n0 L ∧ Q' v h) (C.1 ▸ K []) C.2.2.2.2.1 wc wz (by rw [C.2.1]; exact hf) (by rw [C.2.1]; exact hlo)) (g := mkF B.m pc L (argsL.reverse ++ .ref a :: st)) rfl (by rw [C.2.2.2.2.2.2.2.1]; exact hsz) (Steps.refl _) (a := a) (argsL := argsL) (rest := st) (lenOf pd hlen) rfl (by show 2 * 0 + _ ≤ _; omega) (hb C.2.2.2.1 hd) (fun _ _ => ⟨rfl, eT, by rw [C.2.1]; exact hc, by rw [C.2.1]; exact hs⟩)
  dsimp only [Pt.U, Pt.locs, Pt.cells, Pt.slots] at X' l1 l2 l3 f hq
  subst l1 l2 l3
  obtain ⟨t, o, q, r⟩ := go v _ hq T' _ X' (Fr.app N N') rfl
  subst hpc
  exact ⟨t, o, f.trans q, r⟩
theorem g_virtual (C : Ctx B l rm bytes own nm maxL ret Z) {i : Nat} {y : MethodName} {b' : ByteArray} {mx : Nat} {rt : Option FieldType} {rm' : Room} {as' : Array Value} {Q' : Option Value → Heap → Prop} {a : Addr} {K' : String} {y0 : MethodName} (w1 : (Jvm.Cond.methodLink own i y0).before a0 Z = true) (w2 : (Jvm.Cond.declares y0).before a0 Z = true) (w3 : (Jvm.Cond.selects K' y0 y).before a0 Z = true) (w4 : (Jvm.Cond.instanceMethod y).before a0 Z = true) (wz : (Jvm.Cond.initialized y.cls).before a0 Z = true) (wc : (Jvm.Cond.code y b' mx rt).before a0 Z = true) (nf : NotFace B.s y0) (hy : y0.cls ≠ "java/lang/invoke/MethodHandle" ∧ y0.cls ≠ "java/lang/invoke/VarHandle") (E : Exa Z h a K') (K : Met1 l Z y b' mx rt rm' n0 as' h Q') (argsL : List Value) {stk : List Value} (hst : stk = argsL.reverse ++ .ref a :: st) (has : as' = (Value.ref a :: argsL).toArray) {ps : List FieldType} {r' : Option FieldType} (pd : parseMethodDescriptor y0.desc = some ⟨ps, r'⟩) (hlen : argsL.length = ps.length) (hsz : L.size = maxL) (hf : rm'.frames + 1 ≤ rm.frames) {W : Nat} (hW : (st.map fun v => v.category).sum ≤ W) (hlo : W + (mx + 11) + rm'.locals ≤ rm.locals) (hc : k + rm'.cells ≤ rm.cells) (hs : n + rm'.slots ≤ rm.slots) (hd : decode bytes pc = .ok (.invokevirtual i, 3)) (hpc : pc + 3 = pc') (go : ∀ v h', Q' v h' → Go B n0 Q h' (k + rm'.cells) (n + rm'.slots) pc' L (v.toList ++ st)) : Go B n0 Q h k n pc L stk := fun T locs X N eT => by
  subst hst has
  obtain ⟨cq, kq, qa, qb, qc⟩ := isOf C.2.2.2.2.1 eT E
  obtain ⟨v, _, ⟨T', L1, k1, n1⟩, -, X', ⟨L2, ⟨N', hq⟩, l1, l2, l3⟩, f⟩ := X.virtualBack C.2.2.1 (y := y0) (z := y) C.2.2.2.2.2.1 (mvT C.2.2.2.2.1 w1) (mvT C.2.2.2.2.1 w2) nf (mvT C.2.2.2.2.1 w3) (mvT C.2.2.2.2.1 w4) hy (backOf (W := W) (Q := fun v h L => Fr n0 L ∧ Q' v h) (C.1 ▸ K []) C.2.2.2.2.1 wc wz (by rw [C.2.1]; exact hf) (by rw [C.2.1]; exact hlo)) qa qc (g := mkF B.m pc L (argsL.reverse ++ .ref a :: st)) rfl (by rw [C.2.2.2.2.2.2.2.1]; exact hsz) (Steps.refl _) (argsL := argsL) (rest := st) (lenOf pd hlen) rfl (by show 2 * 0 + _ ≤ _; omega) (hb C.2.2.2.1 hd) (fun _ _ => ⟨rfl, eT, by rw [C.2.1]; exact hc, by rw [C.2.1]; exact hs⟩)
  dsimp only [Pt.U, Pt.locs, Pt.cells, Pt.slots] at X' l1 l2 l3 f hq
  subst l1 l2 l3
  obtain ⟨t, o, q, r⟩ := go v _ hq T' _ X' (Fr.app N N') rfl
  subst hpc
  exact ⟨t, o, f.trans q, r⟩
theorem g_ret (C : Ctx B l rm bytes own nm maxL ret Z) {v : Value} {ty : FieldType} {i : Instr} (hret : ret = some ty) (hn : narrow ty v = v)
    (hi : (i = .ireturn ∧ (ty = .int ∨ ty = .boolean ∨ ty = .byte ∨ ty = .char ∨ ty = .short) ∧ ∃ z, v = .int z) ∨ (i = .lreturn ∧ ty = .long ∧ ∃ z, v = .long z) ∨ (i = .dreturn ∧ ty = .double ∧ ∃ z, v = .double z) ∨ (i = .freturn ∧ ty = .float ∧ ∃ z, v = .float z) ∨ (i = .areturn ∧ ty.isReference = true ∧ v.isRef = true))
    (hd : decode bytes pc = .ok (i, 1)) (hk : k ≤ rm.cells) (hs : n ≤ rm.slots) (go : Q (some v) h) : Go B n0 Q h k n pc L (v :: st) := fun T locs X N eT => by
  have hr0 : B.meth.sig.returnType = some ty := C.2.2.2.2.2.2.2.2.1.trans hret
  obtain ⟨fs, hr, hrun, hended, hW, hsame⟩ := X.leave (v := some v) (fun q => by rw [hr0] at q; cases q) C.2.2.2.2.2.2.2.2.2
  exact ⟨_, _, retOut X C.2.2.1 hr0 hn hi (hb C.2.2.2.1 hd) hr, hrun, hended, _, _, rfl, ⟨N, by show Q _ T.heap; rw [eT]; exact go⟩, ⟨_, rfl⟩, hW, hsame.mono (by rw [C.2.1]; exact hk) (by rw [C.2.1]; exact hs)⟩
theorem g_return (C : Ctx B l rm bytes own nm maxL ret Z) (hret : ret = none) (hd : decode bytes pc = .ok (.return_, 1)) (hk : k ≤ rm.cells) (hs : n ≤ rm.slots) (go : Q none h) : Go B n0 Q h k n pc L [] := fun T locs X N eT => by
  have hr0 : B.meth.sig.returnType = none := C.2.2.2.2.2.2.2.2.1.trans hret
  obtain ⟨fs, hr, hrun, hended, hW, hsame⟩ := X.leave (v := none) (fun _ => rfl) C.2.2.2.2.2.2.2.2.2
  exact ⟨_, _, X.returnOut C.2.2.1 hr0 (hb C.2.2.2.1 hd) hr, hrun, hended, _, _, rfl, ⟨N, by show Q _ T.heap; rw [eT]; exact go⟩, ⟨_, rfl⟩, hW, hsame.mono (by rw [C.2.1]; exact hk) (by rw [C.2.1]; exact hs)⟩
end Base
/-! arrays made on the road -/
section Arrays
variable {Z : State} {h h' : Heap} {a b : Addr} {ty : FieldType} {vs : List Value} {ws : List Addr} {sl : Nat} {v : Value} {K : String}
def Ary (Z : State) (h : Heap) (a : Addr) (ty : FieldType) (vs : List Value) : Prop := ∃ c : Cell, Arr Z h a c ty ∧ c.slots.toList = vs ∧ vs.length < 2 ^ 31
def AryR (Z : State) (h : Heap) (a : Addr) (K : String) (vs : List Value) : Prop := ∃ c : Cell, Arr Z h a c (.object K) ∧ Ovr Z c.cls K ∧ c.slots.toList = vs ∧ vs.length < 2 ^ 31
theorem AryR.ary (F : AryR Z h a K vs) : Ary Z h a (.object K) vs := by obtain ⟨c, A, -, r⟩ := F; exact ⟨c, A, r⟩
theorem Ary.lt (F : Ary Z h a ty vs) : a < h.size := by obtain ⟨c, A, -⟩ := F; exact A.lt
theorem AryR.lt (F : AryR Z h a K vs) : a < h.size := F.ary.lt
theorem Ary.ext (F : Ary Z h a ty vs) (E : Ext h h') : Ary Z h' a ty vs := by obtain ⟨c, A, r⟩ := F; exact ⟨c, A.ext E, r⟩
theorem AryR.ext (F : AryR Z h a K vs) (E : Ext h h') : AryR Z h' a K vs := by obtain ⟨c, A, r⟩ := F; exact ⟨c, A.ext E, r⟩
theorem Ary.keep (F : Ary Z h a ty vs) (K : Keep h h' ws) (q : a ∉ ws) : Ary Z h' a ty vs := by obtain ⟨c, A, r⟩ := F; exact ⟨c, ⟨K.2.1 a c A.1 q, A.2⟩, r⟩
theorem AryR.keep (F : AryR Z h a K vs) (Kp : Keep h h' ws) (q : a ∉ ws) : AryR Z h' a K vs := by obtain ⟨c, A, r⟩ := F; exact ⟨c, ⟨Kp.2.1 a c A.1 q, A.2⟩, r⟩
theorem set_list (c : Cell) (i : Nat) (v : Value) : (c.setSlot i v).slots.toList = c.slots.toList.set i v := by simp [Cell.setSlot]
theorem keep_ext (E : Ext h h') : Keep h h' [] := (Keep.refl h []).ext E
theorem ne_new {c : Nat} (q : a < c) (e : b = c) : a ≠ b := fun z => absurd q (by rw [z, e]; exact Nat.lt_irrefl _)
theorem ne_newL {c : Nat} (q : a < c) (e : b = c) : b ≠ a := fun z => absurd q (by rw [← z, e]; exact Nat.lt_irrefl _)
theorem ne_ge {c : Nat} (q : a < c) (e : c ≤ b) : a ≠ b := fun z => absurd q (Nat.not_lt.mpr (z ▸ e))
theorem nin1 (q : a ≠ b) : a ∉ [b] := ninS q nin0
theorem in_b {j : Int32} {c : Cell} {i : Nat} (h0 : ¬ j < 0) (hj : j.toNatClampNeg = i) (hi : i < c.slots.size) : ¬ (j < 0 ∨ c.slots.size ≤ j.toNatClampNeg) := fun q => q.elim h0 fun q => by omega
end Arrays
section ArraySteps
variable {B : Bod} {l : Launch} {rm : Room} {bytes : ByteArray} {own nm : String} {maxL : Nat} {ret : Option FieldType} {Z : State} {n0 : Nat} {Q : Option Value → Heap → Prop} {h : Heap} {k n pc pc' : Nat} {L L' : Array Slot} {st st' : List Value} {a0 : Array Value}
theorem g_iaload (C : Ctx B l rm bytes own nm maxL ret Z) {a : Addr} {vs : List Value} {j : Int32} {i : Nat} {v : Int32} (F : Ary Z h a .int vs) (h0 : ¬ j < 0) (hj : j.toNatClampNeg = i) (hv : vs[i]? = some (.int v)) (hd : decode bytes pc = .ok (.iaload, 1)) (hpc : pc + 1 = pc') (go : Go B n0 Q h k n pc' L (.int v :: st)) : Go B n0 Q h k n pc L (.int j :: .ref a :: st) := go.step fun T locs X eT t q => by
  obtain ⟨c, A, rfl, hl⟩ := F
  have hi := (List.getElem?_eq_some_iff.mp hv).1
  rw [Array.length_toList] at hi
  rw [Array.getElem?_toList, ← hj] at hv
  exact X.iaload C.2.2.1 (by rw [eT]; exact A.1) (State.isArrayOf_alike C.2.2.2.2.1.alike A.2.1)  A.2.2 (in_b h0 hj hi) hv (g := mkF B.m pc L (.int j :: .ref a :: st)) rfl rfl (hb C.2.2.2.1 hd) t (by subst hpc; exact q)
theorem g_laload (C : Ctx B l rm bytes own nm maxL ret Z) {a : Addr} {vs : List Value} {j : Int32} {i : Nat} {v : Int64} (F : Ary Z h a .long vs) (h0 : ¬ j < 0) (hj : j.toNatClampNeg = i) (hv : vs[i]? = some (.long v)) (hd : decode bytes pc = .ok (.laload, 1)) (hpc : pc + 1 = pc') (go : Go B n0 Q h k n pc' L (.long v :: st)) : Go B n0 Q h k n pc L (.int j :: .ref a :: st) := go.step fun T locs X eT t q => by
  obtain ⟨c, A, rfl, hl⟩ := F
  have hi := (List.getElem?_eq_some_iff.mp hv).1
  rw [Array.length_toList] at hi
  rw [Array.getElem?_toList, ← hj] at hv
  exact X.laload C.2.2.1 (by rw [eT]; exact A.1) (State.isArrayOf_alike C.2.2.2.2.1.alike A.2.1)  A.2.2 (in_b h0 hj hi) hv (g := mkF B.m pc L (.int j :: .ref a :: st)) rfl rfl (hb C.2.2.2.1 hd) t (by subst hpc; exact q)
theorem g_caload (C : Ctx B l rm bytes own nm maxL ret Z) {a : Addr} {vs : List Value} {j : Int32} {i : Nat} {v : Int32} (F : Ary Z h a .char vs) (h0 : ¬ j < 0) (hj : j.toNatClampNeg = i) (hv : vs[i]? = some (.int v)) (hd : decode bytes pc = .ok (.caload, 1)) (hpc : pc + 1 = pc') (go : Go B n0 Q h k n pc' L (.int v :: st)) : Go B n0 Q h k n pc L (.int j :: .ref a :: st) := go.step fun T locs X eT t q => by
  obtain ⟨c, A, rfl, hl⟩ := F
  have hi := (List.getElem?_eq_some_iff.mp hv).1
  rw [Array.length_toList] at hi
  rw [Array.getElem?_toList, ← hj] at hv
  exact X.caload C.2.2.1 (by rw [eT]; exact A.1) (State.isArrayOf_alike C.2.2.2.2.1.alike A.2.1)  A.2.2 (in_b h0 hj hi) hv (g := mkF B.m pc L (.int j :: .ref a :: st)) rfl rfl (hb C.2.2.2.1 hd) t (by subst hpc; exact q)
theorem g_baloadB (C : Ctx B l rm bytes own nm maxL ret Z) {a : Addr} {vs : List Value} {j : Int32} {i : Nat} {v : Int32} (F : Ary Z h a .byte vs) (h0 : ¬ j < 0) (hj : j.toNatClampNeg = i) (hv : vs[i]? = some (.int v)) (hd : decode bytes pc = .ok (.baload, 1)) (hpc : pc + 1 = pc') (go : Go B n0 Q h k n pc' L (.int v :: st)) : Go B n0 Q h k n pc L (.int j :: .ref a :: st) := go.step fun T locs X eT t q => by
  obtain ⟨c, A, rfl, hl⟩ := F
  have hi := (List.getElem?_eq_some_iff.mp hv).1
  rw [Array.length_toList] at hi
  rw [Array.getElem?_toList, ← hj] at hv
  exact X.baloadBytes C.2.2.1 (by rw [eT]; exact A.1) (State.isArrayOf_alike C.2.2.2.2.1.alike A.2.1)  A.2.2 (in_b h0 hj hi) hv (g := mkF B.m pc L (.int j :: .ref a :: st)) rfl rfl (hb C.2.2.2.1 hd) t (by subst hpc; exact q)
theorem g_baloadZ (C : Ctx B l rm bytes own nm maxL ret Z) {a : Addr} {vs : List Value} {j : Int32} {i : Nat} {v : Int32} (F : Ary Z h a .boolean vs) (h0 : ¬ j < 0) (hj : j.toNatClampNeg = i) (hv : vs[i]? = some (.int v)) (hd : decode bytes pc = .ok (.baload, 1)) (hpc : pc + 1 = pc') (go : Go B n0 Q h k n pc' L (.int v :: st)) : Go B n0 Q h k n pc L (.int j :: .ref a :: st) := go.step fun T locs X eT t q => by
  obtain ⟨c, A, rfl, hl⟩ := F
  have hi := (List.getElem?_eq_some_iff.mp hv).1
  rw [Array.length_toList] at hi
  rw [Array.getElem?_toList, ← hj] at hv
  exact X.baloadBooleans C.2.2.1 (by rw [eT]; exact A.1) (State.isArrayOf_alike C.2.2.2.2.1.alike A.2.1)  A.2.2 (in_b h0 hj hi) hv (g := mkF B.m pc L (.int j :: .ref a :: st)) rfl rfl (hb C.2.2.2.1 hd) t (by subst hpc; exact q)
theorem g_aaload (C : Ctx B l rm bytes own nm maxL ret Z) {a : Addr} {vs : List Value} {j : Int32} {i : Nat} {v : Value} {ty : FieldType} (F : Ary Z h a ty vs) (hty : ty.isReference = true) (h0 : ¬ j < 0) (hj : j.toNatClampNeg = i) (hv : vs[i]? = some v) (hd : decode bytes pc = .ok (.aaload, 1)) (hpc : pc + 1 = pc') (go : Go B n0 Q h k n pc' L (v :: st)) : Go B n0 Q h k n pc L (.int j :: .ref a :: st) := go.step fun T locs X eT t q => by
  obtain ⟨c, A, rfl, hl⟩ := F
  have hi := (List.getElem?_eq_some_iff.mp hv).1
  rw [Array.length_toList] at hi
  rw [Array.getElem?_toList, ← hj] at hv
  exact X.aaload C.2.2.1 (by rw [eT]; exact A.1) (State.isArrayOf_alike C.2.2.2.2.1.alike A.2.1) hty A.2.2 (in_b h0 hj hi) hv (g := mkF B.m pc L (.int j :: .ref a :: st)) rfl rfl (hb C.2.2.2.1 hd) t (by subst hpc; exact q)
theorem g_arraylength (C : Ctx B l rm bytes own nm maxL ret Z) {a : Addr} {vs : List Value} {ty : FieldType} {z : Int32} (F : Ary Z h a ty vs) (hz : vs.length.toInt32 = z) (hd : decode bytes pc = .ok (.arraylength, 1)) (hpc : pc + 1 = pc') (go : Go B n0 Q h k n pc' L (.int z :: st)) : Go B n0 Q h k n pc L (.ref a :: st) := go.step fun T locs X eT t q => by
  obtain ⟨c, A, rfl, hl⟩ := F
  rw [Array.length_toList] at hz
  exact X.arraylength C.2.2.1 (by rw [eT]; exact A.1) (State.isArrayOf_alike C.2.2.2.2.1.alike A.2.1) (g := mkF B.m pc L (.ref a :: st)) rfl rfl (hb C.2.2.2.1 hd) t (by subst hpc hz; exact q)
theorem g_iastore (C : Ctx B l rm bytes own nm maxL ret Z) {a : Addr} {vs : List Value} {j : Int32} {i : Nat} {v : Int32} {w : Value} (F : Ary Z h a .int vs) (h0 : ¬ j < 0) (hj : j.toNatClampNeg = i) (hi : i < vs.length) (hw : Value.int v = w) (ge : n0 ≤ a) (hd : decode bytes pc = .ok (.iastore, 1)) (hpc : pc + 1 = pc') (go : ∀ h', Keep h h' [a] → Ary Z h' a .int (vs.set i w) → Go B n0 Q h' k n pc' L st) : Go B n0 Q h k n pc L (.int v :: .int j :: .ref a :: st) := fun T locs X N eT => by
  obtain ⟨c, A, rfl, hl⟩ := F
  have hi' := hi
  rw [Array.length_toList] at hi'
  obtain ⟨T', h', X', e', W, f⟩ := stI X C.2.2.1 C.2.2.2.2.1 eT A (in_b h0 hj hi') (g := mkF B.m pc L (.int v :: .int j :: .ref a :: st)) rfl rfl (hb C.2.2.2.1 hd)
  rw [hj, hw] at W
  obtain ⟨t, o, q, r⟩ := go h' (Keep.of_wr W) ⟨_, A.same W, set_list c i w, by rw [List.length_set]; exact hl⟩ T' _ X' (Fr.snoc X' N ge) e'
  subst hpc
  exact ⟨t, o, f t q, r⟩
theorem g_lastore (C : Ctx B l rm bytes own nm maxL ret Z) {a : Addr} {vs : List Value} {j : Int32} {i : Nat} {v : Int64} {w : Value} (F : Ary Z h a .long vs) (h0 : ¬ j < 0) (hj : j.toNatClampNeg = i) (hi : i < vs.length) (hw : Value.long v = w) (ge : n0 ≤ a) (hd : decode bytes pc = .ok (.lastore, 1)) (hpc : pc + 1 = pc') (go : ∀ h', Keep h h' [a] → Ary Z h' a .long (vs.set i w) → Go B n0 Q h' k n pc' L st) : Go B n0 Q h k n pc L (.long v :: .int j :: .ref a :: st) := fun T locs X N eT => by
  obtain ⟨c, A, rfl, hl⟩ := F
  have hi' := hi
  rw [Array.length_toList] at hi'
  obtain ⟨T', h', X', e', W, f⟩ := stJ X C.2.2.1 C.2.2.2.2.1 eT A (in_b h0 hj hi') (g := mkF B.m pc L (.long v :: .int j :: .ref a :: st)) rfl rfl (hb C.2.2.2.1 hd)
  rw [hj, hw] at W
  obtain ⟨t, o, q, r⟩ := go h' (Keep.of_wr W) ⟨_, A.same W, set_list c i w, by rw [List.length_set]; exact hl⟩ T' _ X' (Fr.snoc X' N ge) e'
  subst hpc
  exact ⟨t, o, f t q, r⟩
theorem g_castore (C : Ctx B l rm bytes own nm maxL ret Z) {a : Addr} {vs : List Value} {j : Int32} {i : Nat} {v : Int32} {w : Value} (F : Ary Z h a .char vs) (h0 : ¬ j < 0) (hj : j.toNatClampNeg = i) (hi : i < vs.length) (hw : Value.int (nar .char v) = w) (ge : n0 ≤ a) (hd : decode bytes pc = .ok (.castore, 1)) (hpc : pc + 1 = pc') (go : ∀ h', Keep h h' [a] → Ary Z h' a .char (vs.set i w) → Go B n0 Q h' k n pc' L st) : Go B n0 Q h k n pc L (.int v :: .int j :: .ref a :: st) := fun T locs X N eT => by
  obtain ⟨c, A, rfl, hl⟩ := F
  have hi' := hi
  rw [Array.length_toList] at hi'
  obtain ⟨T', h', X', e', W, f⟩ := stC X C.2.2.1 C.2.2.2.2.1 eT A (in_b h0 hj hi') (g := mkF B.m pc L (.int v :: .int j :: .ref a :: st)) rfl rfl (hb C.2.2.2.1 hd)
  rw [hj, hw] at W
  obtain ⟨t, o, q, r⟩ := go h' (Keep.of_wr W) ⟨_, A.same W, set_list c i w, by rw [List.length_set]; exact hl⟩ T' _ X' (Fr.snoc X' N ge) e'
  subst hpc
  exact ⟨t, o, f t q, r⟩
theorem g_bastoreB (C : Ctx B l rm bytes own nm maxL ret Z) {a : Addr} {vs : List Value} {j : Int32} {i : Nat} {v : Int32} {w : Value} (F : Ary Z h a .byte vs) (h0 : ¬ j < 0) (hj : j.toNatClampNeg = i) (hi : i < vs.length) (hw : Value.int (nar .byte v) = w) (ge : n0 ≤ a) (hd : decode bytes pc = .ok (.bastore, 1)) (hpc : pc + 1 = pc') (go : ∀ h', Keep h h' [a] → Ary Z h' a .byte (vs.set i w) → Go B n0 Q h' k n pc' L st) : Go B n0 Q h k n pc L (.int v :: .int j :: .ref a :: st) := fun T locs X N eT => by
  obtain ⟨c, A, rfl, hl⟩ := F
  have hi' := hi
  rw [Array.length_toList] at hi'
  obtain ⟨T', h', X', e', W, f⟩ := stB X C.2.2.1 C.2.2.2.2.1 eT A (in_b h0 hj hi') (g := mkF B.m pc L (.int v :: .int j :: .ref a :: st)) rfl rfl (hb C.2.2.2.1 hd)
  rw [hj, hw] at W
  obtain ⟨t, o, q, r⟩ := go h' (Keep.of_wr W) ⟨_, A.same W, set_list c i w, by rw [List.length_set]; exact hl⟩ T' _ X' (Fr.snoc X' N ge) e'
  subst hpc
  exact ⟨t, o, f t q, r⟩
theorem g_bastoreZ (C : Ctx B l rm bytes own nm maxL ret Z) {a : Addr} {vs : List Value} {j : Int32} {i : Nat} {v : Int32} {w : Value} (F : Ary Z h a .boolean vs) (h0 : ¬ j < 0) (hj : j.toNatClampNeg = i) (hi : i < vs.length) (hw : Value.int (nar .boolean v) = w) (ge : n0 ≤ a) (hd : decode bytes pc = .ok (.bastore, 1)) (hpc : pc + 1 = pc') (go : ∀ h', Keep h h' [a] → Ary Z h' a .boolean (vs.set i w) → Go B n0 Q h' k n pc' L st) : Go B n0 Q h k n pc L (.int v :: .int j :: .ref a :: st) := fun T locs X N eT => by
  obtain ⟨c, A, rfl, hl⟩ := F
  have hi' := hi
  rw [Array.length_toList] at hi'
  obtain ⟨T', h', X', e', W, f⟩ := stZ X C.2.2.1 C.2.2.2.2.1 eT A (in_b h0 hj hi') (g := mkF B.m pc L (.int v :: .int j :: .ref a :: st)) rfl rfl (hb C.2.2.2.1 hd)
  rw [hj, hw] at W
  obtain ⟨t, o, q, r⟩ := go h' (Keep.of_wr W) ⟨_, A.same W, set_list c i w, by rw [List.length_set]; exact hl⟩ T' _ X' (Fr.snoc X' N ge) e'
  subst hpc
  exact ⟨t, o, f t q, r⟩
theorem g_aastore (C : Ctx B l rm bytes own nm maxL ret Z) {a y : Addr} {K : String} {vs : List Value} {j : Int32} {i : Nat} (F : AryR Z h a K vs) (I : Ins Z h y K true) (h0 : ¬ j < 0) (hj : j.toNatClampNeg = i) (hi : i < vs.length) (ge : n0 ≤ a) (hd : decode bytes pc = .ok (.aastore, 1)) (hpc : pc + 1 = pc') (go : ∀ h', Keep h h' [a] → AryR Z h' a K (vs.set i (.ref y)) → Go B n0 Q h' k n pc' L st) : Go B n0 Q h k n pc L (.ref y :: .int j :: .ref a :: st) := fun T locs X N eT => by
  obtain ⟨c, A, O, rfl, hl⟩ := F
  have hi' := hi
  rw [Array.length_toList] at hi'
  obtain ⟨T', h', X', e', W, f⟩ := stR X C.2.2.1 C.2.2.2.2.1 eT A (in_b h0 hj hi') rfl (Sto.of A O I) (g := mkF B.m pc L (.ref y :: .int j :: .ref a :: st)) rfl rfl (hb C.2.2.2.1 hd)
  rw [hj] at W
  obtain ⟨t, o, q, r⟩ := go h' (Keep.of_wr W) ⟨_, A.same W, O, set_list c i _, by rw [List.length_set]; exact hl⟩ T' _ X' (Fr.snoc X' N ge) e'
  subst hpc
  exact ⟨t, o, f t q, r⟩
theorem g_newarray (C : Ctx B l rm bytes own nm maxL ret Z) {aty : ArrayType} {z : Int32} {cap : Nat} {ty : FieldType} (w : (Jvm.Cond.arrayClass (newarray.typeOf aty)).before a0 Z = true) (hty : newarray.typeOf aty = ty) (hz : ¬ z < 0) (hcap : z.toNatClampNeg = cap) (hcb : cap * 8 ≤ 536870912) (hc : k + 1 ≤ rm.cells) (hl : n + cap ≤ rm.slots) (hd : decode bytes pc = .ok (.newarray aty, 2)) (hpc : pc + 2 = pc') (go : ∀ h' a, a = h.size → Ext h h' → Ary Z h' a ty (List.replicate cap (defaultValue ty)) → Go B n0 Q h' (k + 1) (n + cap) pc' L (.ref a :: st)) : Go B n0 Q h k n pc L (.int z :: st) := fun T locs X N eT => by
  subst hty
  obtain ⟨T', h', cA, X', e', E, A, f⟩ := newP X C.2.2.1 C.2.2.2.2.1 w eT (g := mkF B.m pc L (.int z :: st)) rfl (hb C.2.2.2.1 hd) rfl hz (cap := cap) (Nat.le_of_eq hcap) hcb (by rw [C.2.1]; exact hc) (by rw [C.2.1]; exact hl)
  obtain ⟨t, o, q, r⟩ := go h' _ rfl E ⟨_, A, by rw [← hcap]; simp [newA], by rw [List.length_replicate]; omega⟩ T' _ X' N e'
  subst hpc
  exact ⟨t, o, f t q, r⟩
theorem g_newarrayUpTo (C : Ctx B l rm bytes own nm maxL ret Z) {aty : ArrayType} {z : Int32} {len cap : Nat} {ty : FieldType} (w : (Jvm.Cond.arrayClass (newarray.typeOf aty)).before a0 Z = true) (hty : newarray.typeOf aty = ty) (hz : ¬ z < 0) (hlen : z.toNatClampNeg = len) (hcap : len ≤ cap) (hcb : cap * 8 ≤ 536870912) (hc : k + 1 ≤ rm.cells) (hl : n + cap ≤ rm.slots) (hd : decode bytes pc = .ok (.newarray aty, 2)) (hpc : pc + 2 = pc') (go : ∀ h' a, a = h.size → Ext h h' → Ary Z h' a ty (List.replicate len (defaultValue ty)) → Go B n0 Q h' (k + 1) (n + cap) pc' L (.ref a :: st)) : Go B n0 Q h k n pc L (.int z :: st) := fun T locs X N eT => by
  subst hty
  obtain ⟨T', h', cA, X', e', E, A, f⟩ := newP X C.2.2.1 C.2.2.2.2.1 w eT (g := mkF B.m pc L (.int z :: st)) rfl (hb C.2.2.2.1 hd) rfl hz (cap := cap) (by rw [hlen]; exact hcap) hcb (by rw [C.2.1]; exact hc) (by rw [C.2.1]; exact hl)
  obtain ⟨t, o, q, r⟩ := go h' _ rfl E ⟨_, A, by rw [← hlen]; simp [newA], by rw [List.length_replicate]; omega⟩ T' _ X' N e'
  subst hpc
  exact ⟨t, o, f t q, r⟩
theorem g_anewarray (C : Ctx B l rm bytes own nm maxL ret Z) {i : Nat} {K : String} {z : Int32} {cap : Nat} (w : (Jvm.Cond.classLink own i K).before a0 Z = true) (w2 : (Jvm.Cond.arrayOver (.object K)).before a0 Z = true) (hz : ¬ z < 0) (hcap : z.toNatClampNeg = cap) (hcb : cap * 8 ≤ 536870912) (hc : k + 1 ≤ rm.cells) (hl : n + cap ≤ rm.slots) (hd : decode bytes pc = .ok (.anewarray i, 3)) (hpc : pc + 3 = pc') (go : ∀ h' a, a = h.size → Ext h h' → AryR Z h' a K (List.replicate cap .null) → Go B n0 Q h' (k + 1) (n + cap) pc' L (.ref a :: st)) : Go B n0 Q h k n pc L (.int z :: st) := fun T locs X N eT => by
  obtain ⟨T', h', cA, X', e', E, A, O, f⟩ := newR X C.2.2.1 C.2.2.2.2.1 C.2.2.2.2.2.1 w w2 eT (g := mkF B.m pc L (.int z :: st)) rfl (hb C.2.2.2.1 hd) rfl hz (cap := cap) (Nat.le_of_eq hcap) hcb (by rw [C.2.1]; exact hc) (by rw [C.2.1]; exact hl)
  obtain ⟨t, o, q, r⟩ := go h' _ rfl E ⟨_, A, O, by rw [← hcap]; simp [newA, defaultValue], by rw [List.length_replicate]; omega⟩ T' _ X' N e'
  subst hpc
  exact ⟨t, o, f t q, r⟩
end ArraySteps
end Jvm.OwnKit
namespace Jvm.OwnKit
open Jvm Jvm.ClassFile Sem Op Lib Jvm.Stand Jvm.Free Jvm.LawKit Jvm.RoadKit
section More
variable {B : Bod} {l : Launch} {rm : Room} {bytes : ByteArray} {own nm : String} {maxL : Nat} {ret : Option FieldType} {Z : State} {n0 : Nat} {Q : Option Value → Heap → Prop} {h h' : Heap} {k n pc pc' : Nat} {L L' : Array Slot} {st st' : List Value} {a0 : Array Value} {a b : Addr} {ty : FieldType} {vs vd : List Value}
theorem g_sipush (C : Ctx B l rm bytes own nm maxL ret Z) {z : Int} {v : Int32} (hd : decode bytes pc = .ok (.sipush z, 3)) (hv : (Int16.ofInt z).toInt32 = v) (hpc : pc + 3 = pc') (go : Go B n0 Q h k n pc' L (.int v :: st)) : Go B n0 Q h k n pc L st := go.step fun T locs X eT t q => Jvm.Free.XS.sipush X.here C.2.2.1 rfl (hb C.2.2.2.1 hd) (by subst hpc hv; exact q)
theorem g_instanceof_null (C : Ctx B l rm bytes own nm maxL ret Z) {i : Nat} (hd : decode bytes pc = .ok (.instanceof i, 3)) (hpc : pc + 3 = pc') (go : Go B n0 Q h k n pc' L (.int 0 :: st)) : Go B n0 Q h k n pc L (.null :: st) := go.step fun T locs X eT t q => X.instanceofNull C.2.2.1 (g := mkF B.m pc L (.null :: st)) rfl rfl (hb C.2.2.2.1 hd) t (by subst hpc; exact q)
theorem g_checkcast_null (C : Ctx B l rm bytes own nm maxL ret Z) {i : Nat} (hd : decode bytes pc = .ok (.checkcast i, 3)) (hpc : pc + 3 = pc') (go : Go B n0 Q h k n pc' L (.null :: st)) : Go B n0 Q h k n pc L (.null :: st) := go.step fun T locs X eT t q => X.checkcastNull C.2.2.1 (g := mkF B.m pc L (.null :: st)) rfl rfl (hb C.2.2.2.1 hd) t (by subst hpc; exact q)
theorem g_private (C : Ctx B l rm bytes own nm maxL ret Z) {i nn : Nat} {y : MethodName} {b' : ByteArray} {mx : Nat} {rt : Option FieldType} {rm' : Room} {as' : Array Value} {Q' : Option Value → Heap → Prop} {K' : String} (w1 : (Jvm.Cond.methodLink own i y).before a0 Z = true) (w4 : (Jvm.Cond.instanceMethod y).before a0 Z = true) (wp : (Jvm.Cond.privateMethod y).before a0 Z = true) (wi : (Jvm.Cond.instantiable y.cls nn).before a0 Z = true) (wz : (Jvm.Cond.initialized y.cls).before a0 Z = true) (wc : (Jvm.Cond.code y b' mx rt).before a0 Z = true) (hy : y.cls ≠ "java/lang/invoke/MethodHandle" ∧ y.cls ≠ "java/lang/invoke/VarHandle") (E : Exa Z h a K') (K : Met1 l Z y b' mx rt rm' n0 as' h Q') (argsL : List Value) {stk : List Value} (hst : stk = argsL.reverse ++ .ref a :: st) (has : as' = (Value.ref a :: argsL).toArray) {ps : List FieldType} {r' : Option FieldType} (pd : parseMethodDescriptor y.desc = some ⟨ps, r'⟩) (hlen : argsL.length = ps.length) (hsz : L.size = maxL) (hf : rm'.frames + 1 ≤ rm.frames) {W : Nat} (hW : (st.map fun v => v.category).sum ≤ W) (hlo : W + (mx + 11) + rm'.locals ≤ rm.locals) (hc : k + rm'.cells ≤ rm.cells) (hs : n + rm'.slots ≤ rm.slots) (hd : decode bytes pc = .ok (.invokevirtual i, 3)) (hpc : pc + 3 = pc') (go : ∀ v h', Q' v h' → Go B n0 Q h' (k + rm'.cells) (n + rm'.slots) pc' L (v.toList ++ st)) : Go B n0 Q h k n pc L stk := fun T locs X N eT => by
  subst hst has
  obtain ⟨cq, kq, qa, qb, cellq, qc, qd, qe⟩ := isOf C.2.2.2.2.1 eT E
  obtain ⟨c9, k9, u1, u2, u3, u4, -⟩ := Cond.instantiable_spec (mvT (args := B.args) C.2.2.2.2.1 wi)
  have hni : k9.isInterface = false := by simp only [Bool.or_eq_false_iff] at u4; exact u4.1
  have hpr := Cond.privateMethod_at (mvP C.2.2.2.2.1 wp (args := B.args))
  have hsel := selects_self_of_private (args := B.args) u1 u2 hni hpr (mvT C.2.2.2.2.1 w4) hy
  obtain ⟨v, _, ⟨T', L1, k1, n1⟩, -, X', ⟨L2, ⟨N', hq⟩, l1, l2, l3⟩, f⟩ := X.privateBack C.2.2.1 (y := y) C.2.2.2.2.2.1 (mvT C.2.2.2.2.1 w1) (mvT C.2.2.2.2.1 w4) hsel hpr (mvT C.2.2.2.2.1 wc) hy (backOf (W := W) (Q := fun v h L => Fr n0 L ∧ Q' v h) (C.1 ▸ K []) C.2.2.2.2.1 wc wz (by rw [C.2.1]; exact hf) (by rw [C.2.1]; exact hlo)) (g := mkF B.m pc L (argsL.reverse ++ .ref a :: st)) rfl (by rw [C.2.2.2.2.2.2.2.1]; exact hsz) (Steps.refl _) (a := a) qc (fun z e => by rw [e] at qe; cases qe) (argsL := argsL) (rest := st) (lenOf pd hlen) rfl (by show 2 * 0 + _ ≤ _; omega) (hb C.2.2.2.1 hd) (fun _ _ => ⟨rfl, eT, by rw [C.2.1]; exact hc, by rw [C.2.1]; exact hs⟩)
  dsimp only [Pt.U, Pt.locs, Pt.cells, Pt.slots] at X' l1 l2 l3 f hq
  subst l1 l2 l3
  obtain ⟨t, o, q, r⟩ := go v _ hq T' _ X' (Fr.app N N') rfl
  subst hpc
  exact ⟨t, o, f.trans q, r⟩
theorem nat32 {m : Nat} (q : m < 2 ^ 31) : m.toInt32.toNatClampNeg = m := Int32.toNatClampNeg_ofNat_of_lt q
theorem nneg32 {m : Nat} (q : m < 2 ^ 31) : ¬ m.toInt32 < 0 := by
  have e := len_toInt q
  rw [Int32.lt_iff_toInt_lt, e]
  show ¬ (m : Int) < 0
  omega
theorem Ary.arv (F : Ary Z h a ty vs) (hf : ∀ v ∈ vs, fits ty v = true) (dv : Value) : ∃ kk, Arv Z h a kk ty vs.length.toInt32 vs dv := by
  obtain ⟨c, A, rfl, hl⟩ := F
  have hs : c.slots.toList.length = c.slots.size := Array.length_toList
  refine ⟨c.cls, c, A, rfl, ?_, nneg32 hl, fun i hi => ?_, fun i hi => ?_⟩
  · rw [nat32 hl, hs]
  · rw [List.getD_eq_getElem?_getD, Array.getElem?_toList, Array.getElem?_eq_getElem hi]; rfl
  · apply hf
    rw [List.getD_eq_getElem?_getD, Array.getElem?_toList, Array.getElem?_eq_getElem hi]
    exact Array.mem_toList_iff.mpr (Array.getElem_mem hi)
theorem Arv.ary {kk : ClassId} {z : Int32} {dv : Value} (F : Arv Z h a kk ty z vs dv) (hz : z.toNatClampNeg = vs.length) (hl : vs.length < 2 ^ 31) : Ary Z h a ty vs := by
  obtain ⟨c, A, -, S, -, H, -⟩ := F
  refine ⟨c, A, ?_, hl⟩
  apply List.ext_getElem?
  intro i
  by_cases hi : i < c.slots.size
  · rw [Array.getElem?_toList, H i hi, List.getD_eq_getElem?_getD, List.getElem?_eq_getElem (by omega)]; rfl
  · rw [List.getElem?_eq_none (by rw [Array.length_toList]; omega), List.getElem?_eq_none (by omega)]
theorem g_arraycopy (C : Ctx B l rm bytes own nm maxL ret Z) {i : Nat} {sp dp nn : Int32} {spN dpN nnN : Nat} (w1 : (Jvm.Cond.methodLink own i Jvm.Stand.acN).before a0 Z = true) (w2 : (Jvm.Cond.native Jvm.Stand.acN).before a0 Z = true) (w3 : (Jvm.Cond.static Jvm.Stand.acN).before a0 Z = true) (w4 : (Jvm.Cond.initialized "java/lang/System").before a0 Z = true) (F : Ary Z h a ty vs) (G : Ary Z h b ty vd) (hp : refKind ty = false) (hfa : ∀ v ∈ vs, fits ty v = true) (hfb : ∀ v ∈ vd, fits ty v = true) (h1 : ¬ sp < 0) (h2 : ¬ dp < 0) (h3 : ¬ nn < 0) (e1 : sp.toNatClampNeg = spN) (e2 : dp.toNatClampNeg = dpN) (e3 : nn.toNatClampNeg = nnN) (h4 : spN + nnN ≤ vs.length) (h5 : dpN + nnN ≤ vd.length) {out : List Value} (ho : vd.take dpN ++ (List.range nnN).map (fun j => vs.getD (spN + j) .null) ++ vd.drop (dpN + nnN) = out) (ge : n0 ≤ b) (hsz : L.size = maxL) (hf : 1 ≤ rm.frames) {W : Nat} (hW : (st.map fun v => v.category).sum ≤ W) (hlo : W + (nativeFrameWords "java/lang/System" "arraycopy" 5 + 11) ≤ rm.locals) (hd : decode bytes pc = .ok (.invokestatic i, 3)) (hpc : pc + 3 = pc') (go : ∀ h', Keep h h' [b] → Ary Z h' b ty out → Go B n0 Q h' k n pc' L st) : Go B n0 Q h k n pc L (.int nn :: .int dp :: .ref b :: .int sp :: .ref a :: st) := fun T locs X N eT => by
  obtain ⟨ka, A⟩ := F.arv hfa .null
  obtain ⟨kb, A'⟩ := G.arv hfb .null
  obtain ⟨-, -, -, hla⟩ := F
  have hlb : vd.length < 2 ^ 31 := by obtain ⟨-, -, -, q⟩ := G; exact q
  subst e1 e2 e3
  obtain ⟨T', h', L', X', e', N', Kp, R', f⟩ := cpA X C.2.2.1 C.2.2.2.2.1 C.2.2.2.2.2.1 w1 w2 w3 w4 eT A A' (us := (List.range nn.toNatClampNeg).map fun j => vs.getD (sp.toNatClampNeg + j) .null) (Or.inl ⟨rfl, hp⟩) h1 h2 h3 (by rw [nat32 hla]; exact h4) (by rw [nat32 hlb]; exact h5) rfl h5 N ge (g := mkF B.m pc L (.int nn :: .int dp :: .ref b :: .int sp :: .ref a :: st)) rfl (by rw [C.2.2.2.2.2.2.2.1]; exact hsz) rfl (hb C.2.2.2.1 hd) (by rw [C.2.1]; exact hf) (W := W) (by show 2 * 0 + _ ≤ _; omega) (by rw [C.2.1]; exact hlo)
  have ol : (vd.take dp.toNatClampNeg ++ (List.range nn.toNatClampNeg).map (fun j => vs.getD (sp.toNatClampNeg + j) .null) ++ vd.drop (dp.toNatClampNeg + nn.toNatClampNeg)).length = vd.length := by simp; omega
  obtain ⟨t, o, q, r⟩ := go h' Kp (ho ▸ Arv.ary R' (by rw [nat32 hlb, ol]) (by rw [ol]; exact hlb)) T' _ X' N' e'
  subst hpc
  exact ⟨t, o, f t q, r⟩
theorem g_newarrayE (C : Ctx B l rm bytes own nm maxL ret Z) {aty : ArrayType} {z : Int32} {cap : Nat} {ty : FieldType} {ad : String} (w : (Jvm.Cond.arrayClass (newarray.typeOf aty)).before a0 Z = true) (hty : newarray.typeOf aty = ty) (had : "[" ++ (newarray.typeOf aty).toString = ad) (hz : ¬ z < 0) (hcap : z.toNatClampNeg = cap) (hcb : cap * 8 ≤ 536870912) (hc : k + 1 ≤ rm.cells) (hl : n + cap ≤ rm.slots) (hd : decode bytes pc = .ok (.newarray aty, 2)) (hpc : pc + 2 = pc') (go : ∀ h' a, a = h.size → Ext h h' → Ary Z h' a ty (List.replicate cap (defaultValue ty)) → Exa Z h' a ad → Go B n0 Q h' (k + 1) (n + cap) pc' L (.ref a :: st)) : Go B n0 Q h k n pc L (.int z :: st) := fun T locs X N eT => by
  subst hty
  obtain ⟨T', h', cA, X', e', E, A, Ex, f⟩ := newPE X C.2.2.1 C.2.2.2.2.1 w eT (g := mkF B.m pc L (.int z :: st)) rfl (hb C.2.2.2.1 hd) rfl hz (cap := cap) (Nat.le_of_eq hcap) hcb (by rw [C.2.1]; exact hc) (by rw [C.2.1]; exact hl) had
  obtain ⟨t, o, q, r⟩ := go h' _ rfl E ⟨_, A, by rw [← hcap]; simp [newA], by rw [List.length_replicate]; omega⟩ Ex T' _ X' N e'
  subst hpc
  exact ⟨t, o, f t q, r⟩
theorem g_clone (C : Ctx B l rm bytes own nm maxL ret Z) {i cap : Nat} {ad : String} (w1 : (Jvm.Cond.methodLink own i ⟨ad, "clone", "()Ljava/lang/Object;"⟩).before a0 Z = true) (w2 : (Jvm.Cond.sameMethod ad "java/lang/Object" "clone" "()Ljava/lang/Object;").before a0 Z = true) (w3 : (Jvm.Cond.native ⟨"java/lang/Object", "clone", "()Ljava/lang/Object;"⟩).before a0 Z = true)
    (w4 : (Jvm.Cond.instanceMethod ⟨"java/lang/Object", "clone", "()Ljava/lang/Object;"⟩).before a0 Z = true) (w5 : (Jvm.Cond.selects ad ⟨ad, "clone", "()Ljava/lang/Object;"⟩ ⟨"java/lang/Object", "clone", "()Ljava/lang/Object;"⟩).before a0 Z = true) (w6 : (Jvm.Cond.castable ad "java/lang/Cloneable").before a0 Z = true)
    (F : Ary Z h a ty vs) (E : Exa Z h a ad) (hfa : ∀ v ∈ vs, fits ty v = true) (hsz : L.size = maxL) (hf : 1 ≤ rm.frames) {W : Nat} (hW : (st.map fun v => v.category).sum ≤ W) (hlo : W + 14 ≤ rm.locals) (hcap : vs.length ≤ cap) (hc : k + 1 ≤ rm.cells) (hl : n + cap ≤ rm.slots) (hd : decode bytes pc = .ok (.invokevirtual i, 3)) (hpc : pc + 3 = pc') (go : ∀ h' b, b = h.size → Ext h h' → Ary Z h' b ty vs → Exa Z h' b ad → Go B n0 Q h' (k + 1) (n + cap) pc' L (.ref b :: st)) : Go B n0 Q h k n pc L (.ref a :: st) := fun T locs X N eT => by
  obtain ⟨c, A, rfl, hlv⟩ := F
  have FC : FitC Z c := fitC_of A fun j hj v hv => hfa v (by rw [Array.mem_toList_iff]; exact Array.mem_of_getElem? hv)
  obtain ⟨T', h', X', e', Ex, A', E', f⟩ := cloneA X C.2.2.1 C.2.2.2.2.1 C.2.2.2.2.2.1 w1 w2 w3 w4 w5 w6 eT A E FC (g := mkF B.m pc L (.ref a :: st)) rfl (by rw [C.2.2.2.2.2.2.2.1]; exact hsz) rfl (hb C.2.2.2.1 hd) (by rw [C.2.1]; exact hf) (W := W) (cap := cap) (by show 2 * 0 + _ ≤ _; omega) (by rw [C.2.1]; exact hlo) (by rw [← Array.length_toList]; exact hcap) (by rw [C.2.1]; exact hc) (by rw [C.2.1]; exact hl)
  obtain ⟨t, o, q, r⟩ := go h' _ rfl Ex ⟨_, A', rfl, hlv⟩ E' T' _ X' N e'
  subst hpc
  exact ⟨t, o, f t q, r⟩
end More
end Jvm.OwnKit
namespace Jvm.Pilot.@@N@@
open Jvm Jvm.ClassFile Sem Op Lib Jvm.Free Jvm.Stand Jvm.LawKit Jvm.RoadKit Jvm.OwnKit Bundle Jvm.Pilot.@@N@@.Jvm.D
theorem own_w {a0 : Array Value} {Z : State} (hw : ∀ d ∈ tables_1, d.before a0 Z = true) (k : Nat) {d : Jvm.Cond} (e : tables_1[k]? = some d) : d.before a0 Z = true := hw _ (List.mem_of_getElem? e)
/-! what the code computes, with no program in sight -/
def nlen (x : Int64) : Int32 := if (Jvm.Free.XT.ushrL x (7 : Int32)) = (0 : Int64) then 1 else if (Jvm.Free.XT.ushrL x (14 : Int32)) = (0 : Int64) then 2 else if (Jvm.Free.XT.ushrL x (21 : Int32)) = (0 : Int64) then 3 else if (Jvm.Free.XT.ushrL x (28 : Int32)) = (0 : Int64) then 4 else if (Jvm.Free.XT.ushrL x (35 : Int32)) = (0 : Int64) then 5 else if (Jvm.Free.XT.ushrL x (42 : Int32)) = (0 : Int64) then 6 else if (Jvm.Free.XT.ushrL x (49 : Int32)) = (0 : Int64) then 7 else if (Jvm.Free.XT.ushrL x (56 : Int32)) = (0 : Int64) then 8 else if (Jvm.Free.XT.ushrL x (63 : Int32)) = (0 : Int64) then 9 else 10
def expF (j p m : Int32) (x : Int64) (f : Int32) : Int32 :=
  if (j - p) < (0 : Int32) then f else if (j - p) < m then (if (j - p) < (m - (1 : Int32)) then (Int8.toInt32 (Int32.toInt8 ((Int64.toInt32 ((Jvm.Free.XT.ushrL x ((7 : Int32) * (j - p))) &&& (127 : Int64))) ||| (128 : Int32)))) else (Int8.toInt32 (Int32.toInt8 (Int64.toInt32 ((Jvm.Free.XT.ushrL x ((7 : Int32) * (j - p))) &&& (127 : Int64)))))) else f
theorem own_bv (x : Int64) (y : Int32) : (Jvm.Free.XT.ushrL x y).toBitVec = x.toBitVec >>> ((y.toInt64.toUInt64 &&& Int64.toUInt64 63).toBitVec % 64) := by
  show (x.toUInt64 >>> (y.toInt64.toUInt64 &&& Int64.toUInt64 63)).toBitVec = _
  rw [UInt64.toBitVec_shiftRight]; rfl
theorem own_bvN (x : Int64) {y : Int32} {ky : Nat} (hy : ((y.toInt64.toUInt64 &&& Int64.toUInt64 63).toBitVec % 64).toNat = ky) : (Jvm.Free.XT.ushrL x y).toBitVec = x.toBitVec >>> ky := by
  rw [own_bv, BitVec.ushiftRight_eq', hy]
theorem own_sh (x : Int64) {a b c : Int32} {ka kb : Nat} (ha : ((a.toInt64.toUInt64 &&& Int64.toUInt64 63).toBitVec % 64).toNat = ka) (hb : ((b.toInt64.toUInt64 &&& Int64.toUInt64 63).toBitVec % 64).toNat = kb) (hc : ((c.toInt64.toUInt64 &&& Int64.toUInt64 63).toBitVec % 64).toNat = ka + kb) : Jvm.Free.XT.ushrL (Jvm.Free.XT.ushrL x a) b = Jvm.Free.XT.ushrL x c := by
  apply Int64.toBitVec_inj.mp
  rw [own_bvN _ hb, own_bvN _ ha, own_bvN _ hc, BitVec.shiftRight_add]
theorem own_zero (x : Int64) : Jvm.Free.XT.ushrL (Jvm.Free.XT.ushrL x (63 : Int32)) (7 : Int32) = 0 := by
  apply Int64.toBitVec_inj.mp
  rw [own_bvN _ (ky := 7) (by decide), own_bvN _ (ky := 63) (by decide)]
  apply BitVec.eq_of_toNat_eq
  rw [BitVec.toNat_ushiftRight, BitVec.toNat_ushiftRight, Nat.shiftRight_eq_div_pow, Nat.shiftRight_eq_div_pow]
  have := x.toBitVec.isLt
  show _ = 0
  omega
theorem own_bits : ∀ i : Fin 64, (-128 : Int64).toBitVec.getLsbD i.val = decide (7 ≤ i.val) := by decide
theorem own_bits' : ∀ i : Fin 64, (127 : Int64).toBitVec.getLsbD i.val = decide (i.val < 7) := by decide
theorem own_hi {x : Int64} (h : Jvm.Free.XT.ushrL x (7 : Int32) = 0) (i : Nat) (hi : i < 64) (h7 : 7 ≤ i) : x.toBitVec.getLsbD i = false := by
  have e := congrArg Int64.toBitVec h
  rw [own_bvN _ (ky := 7) (by decide)] at e
  have e2 := congrArg (fun b => b.getLsbD (i - 7)) e
  simp only [BitVec.getLsbD_ushiftRight] at e2
  rw [show 7 + (i - 7) = i by omega] at e2
  rw [e2]
  show (0#64).getLsbD (i - 7) = false
  simp
theorem own_m128 (x : Int64) : (x &&& (-128 : Int64)) = (0 : Int64) ↔ Jvm.Free.XT.ushrL x (7 : Int32) = 0 := by
  constructor
  · intro h
    apply Int64.toBitVec_inj.mp
    rw [own_bvN _ (ky := 7) (by decide)]
    have e := congrArg Int64.toBitVec h
    rw [Int64.toBitVec_and] at e
    apply BitVec.eq_of_getLsbD_eq
    intro i hi
    rw [BitVec.getLsbD_ushiftRight]
    by_cases q : 7 + i < 64
    · have e2 := congrArg (fun b => b.getLsbD (7 + i)) e
      simp only [BitVec.getLsbD_and] at e2
      rw [own_bits ⟨7 + i, q⟩] at e2
      simp only [show 7 ≤ 7 + i by omega, decide_true, Bool.and_true] at e2
      rw [e2]
      show (0#64).getLsbD (7 + i) = (0#64).getLsbD i
      simp
    · rw [BitVec.getLsbD_of_ge _ _ (by omega)]
      show false = (0#64).getLsbD i
      simp
  · intro h
    apply Int64.toBitVec_inj.mp
    rw [Int64.toBitVec_and]
    apply BitVec.eq_of_getLsbD_eq
    intro i hi
    rw [BitVec.getLsbD_and, own_bits ⟨i, hi⟩]
    by_cases q : 7 ≤ i
    · rw [own_hi h i hi q]; show (false && _) = (0#64).getLsbD i; simp
    · show (_ && decide (7 ≤ i)) = (0#64).getLsbD i; simp [q]
theorem own_low {x : Int64} (h : Jvm.Free.XT.ushrL x (7 : Int32) = 0) : x &&& (127 : Int64) = x := by
  apply Int64.toBitVec_inj.mp
  rw [Int64.toBitVec_and]
  apply BitVec.eq_of_getLsbD_eq
  intro i hi
  rw [BitVec.getLsbD_and, own_bits' ⟨i, hi⟩]
  by_cases q : i < 7
  · simp [q]
  · rw [own_hi h i hi (by omega)]; simp
theorem own_e0 {j p m : Int32} {x : Int64} {f : Int32} (h : j - p < 0) : expF j p m x f = f := by rw [expF, if_pos h]
theorem own_e1 {j p m : Int32} {x : Int64} {f : Int32} (h : ¬ j - p < 0) (h2 : ¬ j - p < m) : expF j p m x f = f := by rw [expF, if_neg h, if_neg h2]
theorem own_e2 {j p m c : Int32} {x y : Int64} {f : Int32} (h : ¬ j - p < 0) (h2 : j - p < m) (h3 : j - p < m - 1) (hc : (7 : Int32) * (j - p) = c) (hy : y = Jvm.Free.XT.ushrL x c) : expF j p m x f = (Int8.toInt32 (Int32.toInt8 (Int64.toInt32 ((y &&& (127 : Int64)) ||| (128 : Int64))))) := by
  rw [expF, if_neg h, if_pos h2, if_pos h3, hc, ← hy, Int64.toInt32_or]; rfl
theorem own_e3 {j p m c : Int32} {x y : Int64} {f : Int32} (h : ¬ j - p < 0) (h2 : j - p < m) (h3 : ¬ j - p < m - 1) (hc : (7 : Int32) * (j - p) = c) (hy : y = Jvm.Free.XT.ushrL x c) (hz : Jvm.Free.XT.ushrL y (7 : Int32) = 0) : expF j p m x f = (Int8.toInt32 (Int32.toInt8 (Int64.toInt32 y))) := by
  rw [expF, if_neg h, if_pos h2, if_neg h3, hc, ← hy, own_low hz]
theorem own_u0 (x : Int64) : x = Jvm.Free.XT.ushrL x (0 : Int32) := by
  apply Int64.toBitVec_inj.mp
  rw [own_bvN _ (ky := 0) (by decide)]; simp
theorem own_narb (x : Int32) : nar .byte (Int8.toInt32 (Int32.toInt8 x)) = (Int8.toInt32 (Int32.toInt8 x)) := by
  show (Int8.toInt32 (Int32.toInt8 (Int8.toInt32 (Int32.toInt8 x)))) = _
  rw [Int8.toInt8_toInt32]
theorem own_and3 (x : Int32) : (x &&& (3 : Int32)) = 0 ∨ (x &&& (3 : Int32)) = 1 ∨ (x &&& (3 : Int32)) = 2 ∨ (x &&& (3 : Int32)) = 3 := by
  have h := c_mask x (3 : Int32) 2 (by decide) (by decide)
  simp only [← Int32.toInt_inj, Int32.reduceToInt]; omega
theorem d1_0 : decode method_2_code 0 = .ok (.lload_n 0, 1) := by decide +kernel
theorem d1_1 : decode method_2_code 1 = .ok (.bipush 7, 2) := by decide +kernel
theorem d1_3 : decode method_2_code 3 = .ok (.lushr, 1) := by decide +kernel
theorem d1_4 : decode method_2_code 4 = .ok (.lconst 0, 1) := by decide +kernel
theorem d1_5 : decode method_2_code 5 = .ok (.lcmp, 1) := by decide +kernel
theorem d1_6 : decode method_2_code 6 = .ok (.ifCond .ne 5, 3) := by decide +kernel
theorem d1_9 : decode method_2_code 9 = .ok (.iconst 1, 1) := by decide +kernel
theorem d1_10 : decode method_2_code 10 = .ok (.ireturn, 1) := by decide +kernel
theorem d1_11 : decode method_2_code 11 = .ok (.lload_n 0, 1) := by decide +kernel
theorem d1_12 : decode method_2_code 12 = .ok (.bipush 14, 2) := by decide +kernel
theorem d1_14 : decode method_2_code 14 = .ok (.lushr, 1) := by decide +kernel
theorem d1_15 : decode method_2_code 15 = .ok (.lconst 0, 1) := by decide +kernel
theorem d1_16 : decode method_2_code 16 = .ok (.lcmp, 1) := by decide +kernel
theorem d1_17 : decode method_2_code 17 = .ok (.ifCond .ne 5, 3) := by decide +kernel
theorem d1_20 : decode method_2_code 20 = .ok (.iconst 2, 1) := by decide +kernel
theorem d1_21 : decode method_2_code 21 = .ok (.ireturn, 1) := by decide +kernel
theorem d1_22 : decode method_2_code 22 = .ok (.lload_n 0, 1) := by decide +kernel
theorem d1_23 : decode method_2_code 23 = .ok (.bipush 21, 2) := by decide +kernel
theorem d1_25 : decode method_2_code 25 = .ok (.lushr, 1) := by decide +kernel
theorem d1_26 : decode method_2_code 26 = .ok (.lconst 0, 1) := by decide +kernel
theorem d1_27 : decode method_2_code 27 = .ok (.lcmp, 1) := by decide +kernel
theorem d1_28 : decode method_2_code 28 = .ok (.ifCond .ne 5, 3) := by decide +kernel
theorem d1_31 : decode method_2_code 31 = .ok (.iconst 3, 1) := by decide +kernel
theorem d1_32 : decode method_2_code 32 = .ok (.ireturn, 1) := by decide +kernel
theorem d1_33 : decode method_2_code 33 = .ok (.lload_n 0, 1) := by decide +kernel
theorem d1_34 : decode method_2_code 34 = .ok (.bipush 28, 2) := by decide +kernel
theorem d1_36 : decode method_2_code 36 = .ok (.lushr, 1) := by decide +kernel
theorem d1_37 : decode method_2_code 37 = .ok (.lconst 0, 1) := by decide +kernel
theorem d1_38 : decode method_2_code 38 = .ok (.lcmp, 1) := by decide +kernel
theorem d1_39 : decode method_2_code 39 = .ok (.ifCond .ne 5, 3) := by decide +kernel
theorem d1_42 : decode method_2_code 42 = .ok (.iconst 4, 1) := by decide +kernel
theorem d1_43 : decode method_2_code 43 = .ok (.ireturn, 1) := by decide +kernel
theorem d1_44 : decode method_2_code 44 = .ok (.lload_n 0, 1) := by decide +kernel
theorem d1_45 : decode method_2_code 45 = .ok (.bipush 35, 2) := by decide +kernel
theorem d1_47 : decode method_2_code 47 = .ok (.lushr, 1) := by decide +kernel
theorem d1_48 : decode method_2_code 48 = .ok (.lconst 0, 1) := by decide +kernel
theorem d1_49 : decode method_2_code 49 = .ok (.lcmp, 1) := by decide +kernel
theorem d1_50 : decode method_2_code 50 = .ok (.ifCond .ne 5, 3) := by decide +kernel
theorem d1_53 : decode method_2_code 53 = .ok (.iconst 5, 1) := by decide +kernel
theorem d1_54 : decode method_2_code 54 = .ok (.ireturn, 1) := by decide +kernel
theorem d1_55 : decode method_2_code 55 = .ok (.lload_n 0, 1) := by decide +kernel
theorem d1_56 : decode method_2_code 56 = .ok (.bipush 42, 2) := by decide +kernel
theorem d1_58 : decode method_2_code 58 = .ok (.lushr, 1) := by decide +kernel
theorem d1_59 : decode method_2_code 59 = .ok (.lconst 0, 1) := by decide +kernel
theorem d1_60 : decode method_2_code 60 = .ok (.lcmp, 1) := by decide +kernel
theorem d1_61 : decode method_2_code 61 = .ok (.ifCond .ne 6, 3) := by decide +kernel
theorem d1_64 : decode method_2_code 64 = .ok (.bipush 6, 2) := by decide +kernel
theorem d1_66 : decode method_2_code 66 = .ok (.ireturn, 1) := by decide +kernel
theorem d1_67 : decode method_2_code 67 = .ok (.lload_n 0, 1) := by decide +kernel
theorem d1_68 : decode method_2_code 68 = .ok (.bipush 49, 2) := by decide +kernel
theorem d1_70 : decode method_2_code 70 = .ok (.lushr, 1) := by decide +kernel
theorem d1_71 : decode method_2_code 71 = .ok (.lconst 0, 1) := by decide +kernel
theorem d1_72 : decode method_2_code 72 = .ok (.lcmp, 1) := by decide +kernel
theorem d1_73 : decode method_2_code 73 = .ok (.ifCond .ne 6, 3) := by decide +kernel
theorem d1_76 : decode method_2_code 76 = .ok (.bipush 7, 2) := by decide +kernel
theorem d1_78 : decode method_2_code 78 = .ok (.ireturn, 1) := by decide +kernel
theorem d1_79 : decode method_2_code 79 = .ok (.lload_n 0, 1) := by decide +kernel
theorem d1_80 : decode method_2_code 80 = .ok (.bipush 56, 2) := by decide +kernel
theorem d1_82 : decode method_2_code 82 = .ok (.lushr, 1) := by decide +kernel
theorem d1_83 : decode method_2_code 83 = .ok (.lconst 0, 1) := by decide +kernel
theorem d1_84 : decode method_2_code 84 = .ok (.lcmp, 1) := by decide +kernel
theorem d1_85 : decode method_2_code 85 = .ok (.ifCond .ne 6, 3) := by decide +kernel
theorem d1_88 : decode method_2_code 88 = .ok (.bipush 8, 2) := by decide +kernel
theorem d1_90 : decode method_2_code 90 = .ok (.ireturn, 1) := by decide +kernel
theorem d1_91 : decode method_2_code 91 = .ok (.lload_n 0, 1) := by decide +kernel
theorem d1_92 : decode method_2_code 92 = .ok (.bipush 63, 2) := by decide +kernel
theorem d1_94 : decode method_2_code 94 = .ok (.lushr, 1) := by decide +kernel
theorem d1_95 : decode method_2_code 95 = .ok (.lconst 0, 1) := by decide +kernel
theorem d1_96 : decode method_2_code 96 = .ok (.lcmp, 1) := by decide +kernel
theorem d1_97 : decode method_2_code 97 = .ok (.ifCond .ne 6, 3) := by decide +kernel
theorem d1_100 : decode method_2_code 100 = .ok (.bipush 9, 2) := by decide +kernel
theorem d1_102 : decode method_2_code 102 = .ok (.ireturn, 1) := by decide +kernel
theorem d1_103 : decode method_2_code 103 = .ok (.bipush 10, 2) := by decide +kernel
theorem d1_105 : decode method_2_code 105 = .ok (.ireturn, 1) := by decide +kernel
theorem own_pn_com_example_wirefield_wirefield_WireFormatPutVarintPinLaw : plainName "com/example/wirefield/wirefield/WireFormatPutVarintPinLaw" = true := by first | (simp [plainName, overriddenIn]; done) | decide +kernel
set_option maxRecDepth 65536 in
set_option maxHeartbeats 40000000 in
theorem rm_len (l : Launch) (Z : State) (a0 : Array Value) (hw : ∀ d ∈ tables_1, d.before a0 Z = true) (n0 : Nat) (x : Int64) (h0 : Heap) (Z0 : n0 ≤ h0.size)  :
    Met1 l Z (⟨"com/example/wirefield/wirefield/WireFormatPutVarintPinLaw", "len", "(J)I"⟩ : MethodName) method_2_code 2 (some .int) ({ frames := 0, cells := 0, slots := 0, locals := 0 } : Room) n0 #[(.long x)] h0 (fun v h => v = some (.int (nlen x)) ∧ h0 = h) := by
  refine met_of (plainFor_of_name own_pn_com_example_wirefield_wirefield_WireFormatPutVarintPinLaw) (L0 := #[.val (.long x), .second]) (by first | rfl | (simp [argsToLocals, Value.category]; done)) ?_
  intro B C
  change Ctx B l _ _ "com/example/wirefield/wirefield/WireFormatPutVarintPinLaw" "len" _ _ Z at C
  refine g_lload_n C d1_0 (v := x) rfl (pc' := 1) rfl ?_
  refine g_bipush C d1_1 (v := (7 : Int32)) rfl (pc' := 3) rfl ?_
  refine g_lushr C (x := x) (y := (7 : Int32)) d1_3  (pc' := 4) rfl ?_
  refine g_lconst C d1_4 (v := (0 : Int64)) rfl (pc' := 5) rfl ?_
  refine g_lcmp C (x := (Jvm.Free.XT.ushrL x (7 : Int32))) (y := (0 : Int64)) d1_5 (pc' := 6) rfl ?_
  by_cases hb_1 : (Jvm.Free.XT.ushrL x (7 : Int32)) = (0 : Int64)
  · refine g_if_n C d1_6 (Jvm.Free.XT.ll_ne_f hb_1) (pc' := 9) rfl ?_
    refine g_iconst C d1_9 (v := (1 : Int32)) rfl (pc' := 10) rfl ?_
    refine g_ret C (v := (.int (1 : Int32))) (ty := .int) rfl rfl (Or.inl ⟨rfl, Or.inl rfl, _, rfl⟩) d1_10 (by decide) (by decide) ?_
    exact ⟨by rw [nlen, if_pos hb_1], rfl⟩
  · refine g_if_y C d1_6 (Jvm.Free.XT.ll_ne_t hb_1) (pc' := 11) (by decide) (by decide) ?_
    refine g_lload_n C d1_11 (v := x) rfl (pc' := 12) rfl ?_
    refine g_bipush C d1_12 (v := (14 : Int32)) rfl (pc' := 14) rfl ?_
    refine g_lushr C (x := x) (y := (14 : Int32)) d1_14  (pc' := 15) rfl ?_
    refine g_lconst C d1_15 (v := (0 : Int64)) rfl (pc' := 16) rfl ?_
    refine g_lcmp C (x := (Jvm.Free.XT.ushrL x (14 : Int32))) (y := (0 : Int64)) d1_16 (pc' := 17) rfl ?_
    by_cases hb_2 : (Jvm.Free.XT.ushrL x (14 : Int32)) = (0 : Int64)
    · refine g_if_n C d1_17 (Jvm.Free.XT.ll_ne_f hb_2) (pc' := 20) rfl ?_
      refine g_iconst C d1_20 (v := (2 : Int32)) rfl (pc' := 21) rfl ?_
      refine g_ret C (v := (.int (2 : Int32))) (ty := .int) rfl rfl (Or.inl ⟨rfl, Or.inl rfl, _, rfl⟩) d1_21 (by decide) (by decide) ?_
      exact ⟨by rw [nlen, if_neg hb_1, if_pos hb_2], rfl⟩
    · refine g_if_y C d1_17 (Jvm.Free.XT.ll_ne_t hb_2) (pc' := 22) (by decide) (by decide) ?_
      refine g_lload_n C d1_22 (v := x) rfl (pc' := 23) rfl ?_
      refine g_bipush C d1_23 (v := (21 : Int32)) rfl (pc' := 25) rfl ?_
      refine g_lushr C (x := x) (y := (21 : Int32)) d1_25  (pc' := 26) rfl ?_
      refine g_lconst C d1_26 (v := (0 : Int64)) rfl (pc' := 27) rfl ?_
      refine g_lcmp C (x := (Jvm.Free.XT.ushrL x (21 : Int32))) (y := (0 : Int64)) d1_27 (pc' := 28) rfl ?_
      by_cases hb_3 : (Jvm.Free.XT.ushrL x (21 : Int32)) = (0 : Int64)
      · refine g_if_n C d1_28 (Jvm.Free.XT.ll_ne_f hb_3) (pc' := 31) rfl ?_
        refine g_iconst C d1_31 (v := (3 : Int32)) rfl (pc' := 32) rfl ?_
        refine g_ret C (v := (.int (3 : Int32))) (ty := .int) rfl rfl (Or.inl ⟨rfl, Or.inl rfl, _, rfl⟩) d1_32 (by decide) (by decide) ?_
        exact ⟨by rw [nlen, if_neg hb_1, if_neg hb_2, if_pos hb_3], rfl⟩
      · refine g_if_y C d1_28 (Jvm.Free.XT.ll_ne_t hb_3) (pc' := 33) (by decide) (by decide) ?_
        refine g_lload_n C d1_33 (v := x) rfl (pc' := 34) rfl ?_
        refine g_bipush C d1_34 (v := (28 : Int32)) rfl (pc' := 36) rfl ?_
        refine g_lushr C (x := x) (y := (28 : Int32)) d1_36  (pc' := 37) rfl ?_
        refine g_lconst C d1_37 (v := (0 : Int64)) rfl (pc' := 38) rfl ?_
        refine g_lcmp C (x := (Jvm.Free.XT.ushrL x (28 : Int32))) (y := (0 : Int64)) d1_38 (pc' := 39) rfl ?_
        by_cases hb_4 : (Jvm.Free.XT.ushrL x (28 : Int32)) = (0 : Int64)
        · refine g_if_n C d1_39 (Jvm.Free.XT.ll_ne_f hb_4) (pc' := 42) rfl ?_
          refine g_iconst C d1_42 (v := (4 : Int32)) rfl (pc' := 43) rfl ?_
          refine g_ret C (v := (.int (4 : Int32))) (ty := .int) rfl rfl (Or.inl ⟨rfl, Or.inl rfl, _, rfl⟩) d1_43 (by decide) (by decide) ?_
          exact ⟨by rw [nlen, if_neg hb_1, if_neg hb_2, if_neg hb_3, if_pos hb_4], rfl⟩
        · refine g_if_y C d1_39 (Jvm.Free.XT.ll_ne_t hb_4) (pc' := 44) (by decide) (by decide) ?_
          refine g_lload_n C d1_44 (v := x) rfl (pc' := 45) rfl ?_
          refine g_bipush C d1_45 (v := (35 : Int32)) rfl (pc' := 47) rfl ?_
          refine g_lushr C (x := x) (y := (35 : Int32)) d1_47  (pc' := 48) rfl ?_
          refine g_lconst C d1_48 (v := (0 : Int64)) rfl (pc' := 49) rfl ?_
          refine g_lcmp C (x := (Jvm.Free.XT.ushrL x (35 : Int32))) (y := (0 : Int64)) d1_49 (pc' := 50) rfl ?_
          by_cases hb_5 : (Jvm.Free.XT.ushrL x (35 : Int32)) = (0 : Int64)
          · refine g_if_n C d1_50 (Jvm.Free.XT.ll_ne_f hb_5) (pc' := 53) rfl ?_
            refine g_iconst C d1_53 (v := (5 : Int32)) rfl (pc' := 54) rfl ?_
            refine g_ret C (v := (.int (5 : Int32))) (ty := .int) rfl rfl (Or.inl ⟨rfl, Or.inl rfl, _, rfl⟩) d1_54 (by decide) (by decide) ?_
            exact ⟨by rw [nlen, if_neg hb_1, if_neg hb_2, if_neg hb_3, if_neg hb_4, if_pos hb_5], rfl⟩
          · refine g_if_y C d1_50 (Jvm.Free.XT.ll_ne_t hb_5) (pc' := 55) (by decide) (by decide) ?_
            refine g_lload_n C d1_55 (v := x) rfl (pc' := 56) rfl ?_
            refine g_bipush C d1_56 (v := (42 : Int32)) rfl (pc' := 58) rfl ?_
            refine g_lushr C (x := x) (y := (42 : Int32)) d1_58  (pc' := 59) rfl ?_
            refine g_lconst C d1_59 (v := (0 : Int64)) rfl (pc' := 60) rfl ?_
            refine g_lcmp C (x := (Jvm.Free.XT.ushrL x (42 : Int32))) (y := (0 : Int64)) d1_60 (pc' := 61) rfl ?_
            by_cases hb_6 : (Jvm.Free.XT.ushrL x (42 : Int32)) = (0 : Int64)
            · refine g_if_n C d1_61 (Jvm.Free.XT.ll_ne_f hb_6) (pc' := 64) rfl ?_
              refine g_bipush C d1_64 (v := (6 : Int32)) rfl (pc' := 66) rfl ?_
              refine g_ret C (v := (.int (6 : Int32))) (ty := .int) rfl rfl (Or.inl ⟨rfl, Or.inl rfl, _, rfl⟩) d1_66 (by decide) (by decide) ?_
              exact ⟨by rw [nlen, if_neg hb_1, if_neg hb_2, if_neg hb_3, if_neg hb_4, if_neg hb_5, if_pos hb_6], rfl⟩
            · refine g_if_y C d1_61 (Jvm.Free.XT.ll_ne_t hb_6) (pc' := 67) (by decide) (by decide) ?_
              refine g_lload_n C d1_67 (v := x) rfl (pc' := 68) rfl ?_
              refine g_bipush C d1_68 (v := (49 : Int32)) rfl (pc' := 70) rfl ?_
              refine g_lushr C (x := x) (y := (49 : Int32)) d1_70  (pc' := 71) rfl ?_
              refine g_lconst C d1_71 (v := (0 : Int64)) rfl (pc' := 72) rfl ?_
              refine g_lcmp C (x := (Jvm.Free.XT.ushrL x (49 : Int32))) (y := (0 : Int64)) d1_72 (pc' := 73) rfl ?_
              by_cases hb_7 : (Jvm.Free.XT.ushrL x (49 : Int32)) = (0 : Int64)
              · refine g_if_n C d1_73 (Jvm.Free.XT.ll_ne_f hb_7) (pc' := 76) rfl ?_
                refine g_bipush C d1_76 (v := (7 : Int32)) rfl (pc' := 78) rfl ?_
                refine g_ret C (v := (.int (7 : Int32))) (ty := .int) rfl rfl (Or.inl ⟨rfl, Or.inl rfl, _, rfl⟩) d1_78 (by decide) (by decide) ?_
                exact ⟨by rw [nlen, if_neg hb_1, if_neg hb_2, if_neg hb_3, if_neg hb_4, if_neg hb_5, if_neg hb_6, if_pos hb_7], rfl⟩
              · refine g_if_y C d1_73 (Jvm.Free.XT.ll_ne_t hb_7) (pc' := 79) (by decide) (by decide) ?_
                refine g_lload_n C d1_79 (v := x) rfl (pc' := 80) rfl ?_
                refine g_bipush C d1_80 (v := (56 : Int32)) rfl (pc' := 82) rfl ?_
                refine g_lushr C (x := x) (y := (56 : Int32)) d1_82  (pc' := 83) rfl ?_
                refine g_lconst C d1_83 (v := (0 : Int64)) rfl (pc' := 84) rfl ?_
                refine g_lcmp C (x := (Jvm.Free.XT.ushrL x (56 : Int32))) (y := (0 : Int64)) d1_84 (pc' := 85) rfl ?_
                by_cases hb_8 : (Jvm.Free.XT.ushrL x (56 : Int32)) = (0 : Int64)
                · refine g_if_n C d1_85 (Jvm.Free.XT.ll_ne_f hb_8) (pc' := 88) rfl ?_
                  refine g_bipush C d1_88 (v := (8 : Int32)) rfl (pc' := 90) rfl ?_
                  refine g_ret C (v := (.int (8 : Int32))) (ty := .int) rfl rfl (Or.inl ⟨rfl, Or.inl rfl, _, rfl⟩) d1_90 (by decide) (by decide) ?_
                  exact ⟨by rw [nlen, if_neg hb_1, if_neg hb_2, if_neg hb_3, if_neg hb_4, if_neg hb_5, if_neg hb_6, if_neg hb_7, if_pos hb_8], rfl⟩
                · refine g_if_y C d1_85 (Jvm.Free.XT.ll_ne_t hb_8) (pc' := 91) (by decide) (by decide) ?_
                  refine g_lload_n C d1_91 (v := x) rfl (pc' := 92) rfl ?_
                  refine g_bipush C d1_92 (v := (63 : Int32)) rfl (pc' := 94) rfl ?_
                  refine g_lushr C (x := x) (y := (63 : Int32)) d1_94  (pc' := 95) rfl ?_
                  refine g_lconst C d1_95 (v := (0 : Int64)) rfl (pc' := 96) rfl ?_
                  refine g_lcmp C (x := (Jvm.Free.XT.ushrL x (63 : Int32))) (y := (0 : Int64)) d1_96 (pc' := 97) rfl ?_
                  by_cases hb_9 : (Jvm.Free.XT.ushrL x (63 : Int32)) = (0 : Int64)
                  · refine g_if_n C d1_97 (Jvm.Free.XT.ll_ne_f hb_9) (pc' := 100) rfl ?_
                    refine g_bipush C d1_100 (v := (9 : Int32)) rfl (pc' := 102) rfl ?_
                    refine g_ret C (v := (.int (9 : Int32))) (ty := .int) rfl rfl (Or.inl ⟨rfl, Or.inl rfl, _, rfl⟩) d1_102 (by decide) (by decide) ?_
                    exact ⟨by rw [nlen, if_neg hb_1, if_neg hb_2, if_neg hb_3, if_neg hb_4, if_neg hb_5, if_neg hb_6, if_neg hb_7, if_neg hb_8, if_pos hb_9], rfl⟩
                  · refine g_if_y C d1_97 (Jvm.Free.XT.ll_ne_t hb_9) (pc' := 103) (by decide) (by decide) ?_
                    refine g_bipush C d1_103 (v := (10 : Int32)) rfl (pc' := 105) rfl ?_
                    refine g_ret C (v := (.int (10 : Int32))) (ty := .int) rfl rfl (Or.inl ⟨rfl, Or.inl rfl, _, rfl⟩) d1_105 (by decide) (by decide) ?_
                    exact ⟨by rw [nlen, if_neg hb_1, if_neg hb_2, if_neg hb_3, if_neg hb_4, if_neg hb_5, if_neg hb_6, if_neg hb_7, if_neg hb_8, if_neg hb_9], rfl⟩
theorem d3_0 : decode method_3_code 0 = .ok (.iload_n 0, 1) := by decide +kernel
theorem d3_1 : decode method_3_code 1 = .ok (.iload_n 1, 1) := by decide +kernel
theorem d3_2 : decode method_3_code 2 = .ok (.isub, 1) := by decide +kernel
theorem d3_3 : decode method_3_code 3 = .ok (.istore 6, 2) := by decide +kernel
theorem d3_5 : decode method_3_code 5 = .ok (.iload 6, 2) := by decide +kernel
theorem d3_7 : decode method_3_code 7 = .ok (.ifCond .lt 9, 3) := by decide +kernel
theorem d3_10 : decode method_3_code 10 = .ok (.iload 6, 2) := by decide +kernel
theorem d3_12 : decode method_3_code 12 = .ok (.iload_n 2, 1) := by decide +kernel
theorem d3_13 : decode method_3_code 13 = .ok (.if_icmp .lt 6, 3) := by decide +kernel
theorem d3_16 : decode method_3_code 16 = .ok (.iload 5, 2) := by decide +kernel
theorem d3_18 : decode method_3_code 18 = .ok (.ireturn, 1) := by decide +kernel
theorem d3_19 : decode method_3_code 19 = .ok (.lload_n 3, 1) := by decide +kernel
theorem d3_20 : decode method_3_code 20 = .ok (.bipush 7, 2) := by decide +kernel
theorem d3_22 : decode method_3_code 22 = .ok (.iload 6, 2) := by decide +kernel
theorem d3_24 : decode method_3_code 24 = .ok (.imul, 1) := by decide +kernel
theorem d3_25 : decode method_3_code 25 = .ok (.lushr, 1) := by decide +kernel
theorem d3_26 : decode method_3_code 26 = .ok (.ldc2_w 7, 3) := by decide +kernel
theorem d3_29 : decode method_3_code 29 = .ok (.land, 1) := by decide +kernel
theorem d3_30 : decode method_3_code 30 = .ok (.l2i, 1) := by decide +kernel
theorem d3_31 : decode method_3_code 31 = .ok (.istore 7, 2) := by decide +kernel
theorem d3_33 : decode method_3_code 33 = .ok (.iload 6, 2) := by decide +kernel
theorem d3_35 : decode method_3_code 35 = .ok (.iload_n 2, 1) := by decide +kernel
theorem d3_36 : decode method_3_code 36 = .ok (.iconst 1, 1) := by decide +kernel
theorem d3_37 : decode method_3_code 37 = .ok (.isub, 1) := by decide +kernel
theorem d3_38 : decode method_3_code 38 = .ok (.if_icmp .ge 11, 3) := by decide +kernel
theorem d3_41 : decode method_3_code 41 = .ok (.iload 7, 2) := by decide +kernel
theorem d3_43 : decode method_3_code 43 = .ok (.sipush 128, 3) := by decide +kernel
theorem d3_46 : decode method_3_code 46 = .ok (.ior, 1) := by decide +kernel
theorem d3_47 : decode method_3_code 47 = .ok (.istore 7, 2) := by decide +kernel
theorem d3_49 : decode method_3_code 49 = .ok (.iload 7, 2) := by decide +kernel
theorem d3_51 : decode method_3_code 51 = .ok (.i2b, 1) := by decide +kernel
theorem d3_52 : decode method_3_code 52 = .ok (.ireturn, 1) := by decide +kernel
set_option maxRecDepth 65536 in
set_option maxHeartbeats 40000000 in
theorem rm_exp (l : Launch) (Z : State) (a0 : Array Value) (hw : ∀ d ∈ tables_1, d.before a0 Z = true) (n0 : Nat) (j p m : Int32) (x : Int64) (f : Int32) (h0 : Heap) (Z0 : n0 ≤ h0.size) (hf' : narrow .byte (.int f) = .int f) :
    Met1 l Z (⟨"com/example/wirefield/wirefield/WireFormatPutVarintPinLaw", "exp", "(IIIJB)B"⟩ : MethodName) method_3_code 8 (some .byte) ({ frames := 0, cells := 0, slots := 0, locals := 0 } : Room) n0 #[(.int j), (.int p), (.int m), (.long x), (.int f)] h0 (fun v h => v = some (.int (expF j p m x f)) ∧ h0 = h) := by
  refine met_of (plainFor_of_name own_pn_com_example_wirefield_wirefield_WireFormatPutVarintPinLaw) (L0 := #[.val (.int j), .val (.int p), .val (.int m), .val (.long x), .second, .val (.int f), .unset, .unset]) (by first | rfl | (simp [argsToLocals, Value.category]; done)) ?_
  intro B C
  change Ctx B l _ _ "com/example/wirefield/wirefield/WireFormatPutVarintPinLaw" "exp" _ _ Z at C
  refine g_iload_n C d3_0 (v := j) rfl (pc' := 1) rfl ?_
  refine g_iload_n C d3_1 (v := p) rfl (pc' := 2) rfl ?_
  refine g_isub C (x := j) (y := p) d3_2  (pc' := 3) rfl ?_
  refine g_istore C d3_3 (v := (j - p)) (L' := #[.val (.int j), .val (.int p), .val (.int m), .val (.long x), .second, .val (.int f), .val (.int (j - p)), .unset]) rfl (pc' := 5) rfl ?_
  refine g_iload C d3_5 (v := (j - p)) rfl (pc' := 7) rfl ?_
  by_cases hb_1 : (j - p) < (0 : Int32)
  · refine g_if_y C d3_7 (Jvm.Free.XT.i0_lt_t hb_1) (pc' := 16) (by decide) (by decide) ?_
    refine g_iload C d3_16 (v := f) rfl (pc' := 18) rfl ?_
    refine g_ret C (v := (.int f)) (ty := .byte) rfl hf' (Or.inl ⟨rfl, Or.inr (Or.inr (Or.inl rfl)), _, rfl⟩) d3_18 (by decide) (by decide) ?_
    exact ⟨by rw [expF, if_pos hb_1], rfl⟩
  · refine g_if_n C d3_7 (Jvm.Free.XT.i0_lt_f hb_1) (pc' := 10) rfl ?_
    refine g_iload C d3_10 (v := (j - p)) rfl (pc' := 12) rfl ?_
    refine g_iload_n C d3_12 (v := m) rfl (pc' := 13) rfl ?_
    by_cases hb_2 : (j - p) < m
    · refine g_icmp_y C d3_13 (Jvm.Free.XT.ii_lt_t hb_2) (pc' := 19) (by decide) (by decide) ?_
      refine g_lload_n C d3_19 (v := x) rfl (pc' := 20) rfl ?_
      refine g_bipush C d3_20 (v := (7 : Int32)) rfl (pc' := 22) rfl ?_
      refine g_iload C d3_22 (v := (j - p)) rfl (pc' := 24) rfl ?_
      refine g_imul C (x := (7 : Int32)) (y := (j - p)) d3_24  (pc' := 25) rfl ?_
      refine g_lushr C (x := x) (y := ((7 : Int32) * (j - p))) d3_25  (pc' := 26) rfl ?_
      refine g_ldc2_w C (v := (127 : Int64)) (own_w hw 13 rfl) d3_26 (pc' := 29) rfl ?_
      refine g_land C (x := (Jvm.Free.XT.ushrL x ((7 : Int32) * (j - p)))) (y := (127 : Int64)) d3_29  (pc' := 30) rfl ?_
      refine g_l2i C (x := ((Jvm.Free.XT.ushrL x ((7 : Int32) * (j - p))) &&& (127 : Int64))) d3_30 (pc' := 31) rfl ?_
      refine g_istore C d3_31 (v := (Int64.toInt32 ((Jvm.Free.XT.ushrL x ((7 : Int32) * (j - p))) &&& (127 : Int64)))) (L' := #[.val (.int j), .val (.int p), .val (.int m), .val (.long x), .second, .val (.int f), .val (.int (j - p)), .val (.int (Int64.toInt32 ((Jvm.Free.XT.ushrL x ((7 : Int32) * (j - p))) &&& (127 : Int64))))]) rfl (pc' := 33) rfl ?_
      refine g_iload C d3_33 (v := (j - p)) rfl (pc' := 35) rfl ?_
      refine g_iload_n C d3_35 (v := m) rfl (pc' := 36) rfl ?_
      refine g_iconst C d3_36 (v := (1 : Int32)) rfl (pc' := 37) rfl ?_
      refine g_isub C (x := m) (y := (1 : Int32)) d3_37  (pc' := 38) rfl ?_
      by_cases hb_3 : (j - p) < (m - (1 : Int32))
      · refine g_icmp_n C d3_38 (Jvm.Free.XT.ii_ge_f hb_3) (pc' := 41) rfl ?_
        refine g_iload C d3_41 (v := (Int64.toInt32 ((Jvm.Free.XT.ushrL x ((7 : Int32) * (j - p))) &&& (127 : Int64)))) rfl (pc' := 43) rfl ?_
        refine g_sipush C d3_43 (v := (128 : Int32)) rfl (pc' := 46) rfl ?_
        refine g_ior C (x := (Int64.toInt32 ((Jvm.Free.XT.ushrL x ((7 : Int32) * (j - p))) &&& (127 : Int64)))) (y := (128 : Int32)) d3_46  (pc' := 47) rfl ?_
        refine g_istore C d3_47 (v := ((Int64.toInt32 ((Jvm.Free.XT.ushrL x ((7 : Int32) * (j - p))) &&& (127 : Int64))) ||| (128 : Int32))) (L' := #[.val (.int j), .val (.int p), .val (.int m), .val (.long x), .second, .val (.int f), .val (.int (j - p)), .val (.int ((Int64.toInt32 ((Jvm.Free.XT.ushrL x ((7 : Int32) * (j - p))) &&& (127 : Int64))) ||| (128 : Int32)))]) rfl (pc' := 49) rfl ?_
        refine g_iload C d3_49 (v := ((Int64.toInt32 ((Jvm.Free.XT.ushrL x ((7 : Int32) * (j - p))) &&& (127 : Int64))) ||| (128 : Int32))) rfl (pc' := 51) rfl ?_
        refine g_i2b C (x := ((Int64.toInt32 ((Jvm.Free.XT.ushrL x ((7 : Int32) * (j - p))) &&& (127 : Int64))) ||| (128 : Int32))) d3_51 (pc' := 52) rfl ?_
        refine g_ret C (v := (.int (Int8.toInt32 (Int32.toInt8 ((Int64.toInt32 ((Jvm.Free.XT.ushrL x ((7 : Int32) * (j - p))) &&& (127 : Int64))) ||| (128 : Int32)))))) (ty := .byte) rfl (Jvm.Free.XT.narrow_b _) (Or.inl ⟨rfl, Or.inr (Or.inr (Or.inl rfl)), _, rfl⟩) d3_52 (by decide) (by decide) ?_
        exact ⟨by rw [expF, if_neg hb_1, if_pos hb_2, if_pos hb_3], rfl⟩
      · refine g_icmp_y C d3_38 (Jvm.Free.XT.ii_ge_t hb_3) (pc' := 49) (by decide) (by decide) ?_
        refine g_iload C d3_49 (v := (Int64.toInt32 ((Jvm.Free.XT.ushrL x ((7 : Int32) * (j - p))) &&& (127 : Int64)))) rfl (pc' := 51) rfl ?_
        refine g_i2b C (x := (Int64.toInt32 ((Jvm.Free.XT.ushrL x ((7 : Int32) * (j - p))) &&& (127 : Int64)))) d3_51 (pc' := 52) rfl ?_
        refine g_ret C (v := (.int (Int8.toInt32 (Int32.toInt8 (Int64.toInt32 ((Jvm.Free.XT.ushrL x ((7 : Int32) * (j - p))) &&& (127 : Int64))))))) (ty := .byte) rfl (Jvm.Free.XT.narrow_b _) (Or.inl ⟨rfl, Or.inr (Or.inr (Or.inl rfl)), _, rfl⟩) d3_52 (by decide) (by decide) ?_
        exact ⟨by rw [expF, if_neg hb_1, if_pos hb_2, if_neg hb_3], rfl⟩
    · refine g_icmp_n C d3_13 (Jvm.Free.XT.ii_lt_f hb_2) (pc' := 16) rfl ?_
      refine g_iload C d3_16 (v := f) rfl (pc' := 18) rfl ?_
      refine g_ret C (v := (.int f)) (ty := .byte) rfl hf' (Or.inl ⟨rfl, Or.inr (Or.inr (Or.inl rfl)), _, rfl⟩) d3_18 (by decide) (by decide) ?_
      exact ⟨by rw [expF, if_neg hb_1, if_neg hb_2], rfl⟩
theorem d2_0 : decode prog_75_method_10_code 0 = .ok (.iload_n 1, 1) := by decide +kernel
theorem d2_1 : decode prog_75_method_10_code 1 = .ok (.istore 4, 2) := by decide +kernel
theorem d2_3 : decode prog_75_method_10_code 3 = .ok (.lload_n 2, 1) := by decide +kernel
theorem d2_4 : decode prog_75_method_10_code 4 = .ok (.lstore 5, 2) := by decide +kernel
theorem d2_6 : decode prog_75_method_10_code 6 = .ok (.lload 5, 2) := by decide +kernel
theorem d2_8 : decode prog_75_method_10_code 8 = .ok (.ldc2_w 27, 3) := by decide +kernel
theorem d2_11 : decode prog_75_method_10_code 11 = .ok (.land, 1) := by decide +kernel
theorem d2_12 : decode prog_75_method_10_code 12 = .ok (.lconst 0, 1) := by decide +kernel
theorem d2_13 : decode prog_75_method_10_code 13 = .ok (.lcmp, 1) := by decide +kernel
theorem d2_14 : decode prog_75_method_10_code 14 = .ok (.ifCond .eq 32, 3) := by decide +kernel
theorem d2_17 : decode prog_75_method_10_code 17 = .ok (.aload_n 0, 1) := by decide +kernel
theorem d2_18 : decode prog_75_method_10_code 18 = .ok (.iload 4, 2) := by decide +kernel
theorem d2_20 : decode prog_75_method_10_code 20 = .ok (.iinc 4 1, 3) := by decide +kernel
theorem d2_23 : decode prog_75_method_10_code 23 = .ok (.lload 5, 2) := by decide +kernel
theorem d2_25 : decode prog_75_method_10_code 25 = .ok (.ldc2_w 29, 3) := by decide +kernel
theorem d2_28 : decode prog_75_method_10_code 28 = .ok (.land, 1) := by decide +kernel
theorem d2_29 : decode prog_75_method_10_code 29 = .ok (.ldc2_w 31, 3) := by decide +kernel
theorem d2_32 : decode prog_75_method_10_code 32 = .ok (.lor, 1) := by decide +kernel
theorem d2_33 : decode prog_75_method_10_code 33 = .ok (.l2i, 1) := by decide +kernel
theorem d2_34 : decode prog_75_method_10_code 34 = .ok (.i2b, 1) := by decide +kernel
theorem d2_35 : decode prog_75_method_10_code 35 = .ok (.bastore, 1) := by decide +kernel
theorem d2_36 : decode prog_75_method_10_code 36 = .ok (.lload 5, 2) := by decide +kernel
theorem d2_38 : decode prog_75_method_10_code 38 = .ok (.bipush 7, 2) := by decide +kernel
theorem d2_40 : decode prog_75_method_10_code 40 = .ok (.lushr, 1) := by decide +kernel
theorem d2_41 : decode prog_75_method_10_code 41 = .ok (.lstore 5, 2) := by decide +kernel
theorem d2_43 : decode prog_75_method_10_code 43 = .ok (.goto (-37), 3) := by decide +kernel
theorem d2_46 : decode prog_75_method_10_code 46 = .ok (.aload_n 0, 1) := by decide +kernel
theorem d2_47 : decode prog_75_method_10_code 47 = .ok (.iload 4, 2) := by decide +kernel
theorem d2_49 : decode prog_75_method_10_code 49 = .ok (.iinc 4 1, 3) := by decide +kernel
theorem d2_52 : decode prog_75_method_10_code 52 = .ok (.lload 5, 2) := by decide +kernel
theorem d2_54 : decode prog_75_method_10_code 54 = .ok (.l2i, 1) := by decide +kernel
theorem d2_55 : decode prog_75_method_10_code 55 = .ok (.i2b, 1) := by decide +kernel
theorem d2_56 : decode prog_75_method_10_code 56 = .ok (.bastore, 1) := by decide +kernel
theorem d2_57 : decode prog_75_method_10_code 57 = .ok (.iload 4, 2) := by decide +kernel
theorem d2_59 : decode prog_75_method_10_code 59 = .ok (.ireturn, 1) := by decide +kernel
theorem own_pn_com_example_wirefield_wirefield_WireFormat : plainName "com/example/wirefield/wirefield/WireFormat" = true := by first | (simp [plainName, overriddenIn]; done) | decide +kernel
set_option maxRecDepth 65536 in
set_option maxHeartbeats 40000000 in
theorem rm_put0 (l : Launch) (Z : State) (a0 : Array Value) (hw : ∀ d ∈ tables_1, d.before a0 Z = true) (n0 : Nat) (a1 : Addr) (x : Int64) (f : Int32) (h0 : Heap) (Z0 : n0 ≤ h0.size) (F1 : Ary Z h0 a1 .byte [.int f, .int f, .int f, .int f, .int f, .int f, .int f, .int f, .int f, .int f, .int f, .int f, .int f, .int f]) (g0 : n0 ≤ a1) :
    Met1 l Z (⟨"com/example/wirefield/wirefield/WireFormat", "putVarint", "([BIJ)I"⟩ : MethodName) prog_75_method_10_code 7 (some .int) ({ frames := 0, cells := 0, slots := 0, locals := 0 } : Room) n0 #[(.ref a1), (.int (0 : Int32)), (.long x)] h0 (fun v h => v = some (.int ((0 : Int32) + (nlen x))) ∧ Keep h0 h [a1] ∧ Ary Z h a1 .byte [.int (expF (0 : Int32) (0 : Int32) (nlen x) x f), .int (expF (1 : Int32) (0 : Int32) (nlen x) x f), .int (expF (2 : Int32) (0 : Int32) (nlen x) x f), .int (expF (3 : Int32) (0 : Int32) (nlen x) x f), .int (expF (4 : Int32) (0 : Int32) (nlen x) x f), .int (expF (5 : Int32) (0 : Int32) (nlen x) x f), .int (expF (6 : Int32) (0 : Int32) (nlen x) x f), .int (expF (7 : Int32) (0 : Int32) (nlen x) x f), .int (expF (8 : Int32) (0 : Int32) (nlen x) x f), .int (expF (9 : Int32) (0 : Int32) (nlen x) x f), .int (expF (10 : Int32) (0 : Int32) (nlen x) x f), .int (expF (11 : Int32) (0 : Int32) (nlen x) x f), .int (expF (12 : Int32) (0 : Int32) (nlen x) x f), .int (expF (13 : Int32) (0 : Int32) (nlen x) x f)]) := by
  refine met_of (plainFor_of_name own_pn_com_example_wirefield_wirefield_WireFormat) (L0 := #[.val (.ref a1), .val (.int (0 : Int32)), .val (.long x), .second, .unset, .unset, .unset]) (by first | rfl | (simp [argsToLocals, Value.category]; done)) ?_
  intro B C
  change Ctx B l _ _ "com/example/wirefield/wirefield/WireFormat" "putVarint" _ _ Z at C
  refine g_iload_n C d2_0 (v := (0 : Int32)) rfl (pc' := 1) rfl ?_
  refine g_istore C d2_1 (v := (0 : Int32)) (L' := #[.val (.ref a1), .val (.int (0 : Int32)), .val (.long x), .second, .val (.int (0 : Int32)), .unset, .unset]) rfl (pc' := 3) rfl ?_
  refine g_lload_n C d2_3 (v := x) rfl (pc' := 4) rfl ?_
  refine g_lstore C d2_4 (v := x) (L' := #[.val (.ref a1), .val (.int (0 : Int32)), .val (.long x), .second, .val (.int (0 : Int32)), .val (.long x), .second]) rfl (pc' := 6) rfl ?_
  refine g_lload C d2_6 (v := x) rfl (pc' := 8) rfl ?_
  refine g_ldc2_w C (v := (-128 : Int64)) (own_w hw 9 rfl) d2_8 (pc' := 11) rfl ?_
  refine g_land C (x := x) (y := (-128 : Int64)) d2_11  (pc' := 12) rfl ?_
  refine g_lconst C d2_12 (v := (0 : Int64)) rfl (pc' := 13) rfl ?_
  refine g_lcmp C (x := (x &&& (-128 : Int64))) (y := (0 : Int64)) d2_13 (pc' := 14) rfl ?_
  by_cases hb_1 : (x &&& (-128 : Int64)) = (0 : Int64)
  · refine g_if_y C d2_14 (Jvm.Free.XT.ll_eq_t hb_1) (pc' := 46) (by decide) (by decide) ?_
    refine g_aload_n C d2_46 (v := (.ref a1)) rfl rfl (pc' := 47) rfl ?_
    refine g_iload C d2_47 (v := (0 : Int32)) rfl (pc' := 49) rfl ?_
    refine g_iinc C d2_49 (v := (0 : Int32)) (w := (1 : Int32)) rfl rfl (L' := #[.val (.ref a1), .val (.int (0 : Int32)), .val (.long x), .second, .val (.int (1 : Int32)), .val (.long x), .second]) rfl (pc' := 52) rfl ?_
    refine g_lload C d2_52 (v := x) rfl (pc' := 54) rfl ?_
    refine g_l2i C (x := x) d2_54 (pc' := 55) rfl ?_
    refine g_i2b C (x := (Int64.toInt32 x)) d2_55 (pc' := 56) rfl ?_
    refine g_bastoreB C F1 (by decide) (i := 0) (by decide) (show 0 < 14 by decide) (w := (.int (Int8.toInt32 (Int32.toInt8 (Int64.toInt32 x))))) (congrArg Value.int (own_narb _)) g0 d2_56 (pc' := 57) rfl ?_
    intro h_2 K_3 A_4
    have f_5 : Ary Z h_2 a1 .byte [(.int (Int8.toInt32 (Int32.toInt8 (Int64.toInt32 x)))), (.int f), (.int f), (.int f), (.int f), (.int f), (.int f), (.int f), (.int f), (.int f), (.int f), (.int f), (.int f), (.int f)] := A_4
    refine g_iload C d2_57 (v := (1 : Int32)) rfl (pc' := 59) rfl ?_
    refine g_ret C (v := (.int (1 : Int32))) (ty := .int) rfl rfl (Or.inl ⟨rfl, Or.inl rfl, _, rfl⟩) d2_59 (by decide) (by decide) ?_
    have zk : Jvm.Free.XT.ushrL x (7 : Int32) = 0 := (own_m128 _).mp hb_1
    have zz : Jvm.Free.XT.ushrL x (7 : Int32) = 0 := zk
    have hn : nlen x = (1 : Int32) := by rw [nlen, if_pos zz]
    have e0 : expF (0 : Int32) (0 : Int32) (1 : Int32) x f = (Int8.toInt32 (Int32.toInt8 (Int64.toInt32 x))) := own_e3 (c := (0 : Int32)) (by decide) (by decide) (by decide) (by decide) (own_u0 x) zk
    have e1 : expF (1 : Int32) (0 : Int32) (1 : Int32) x f = f := own_e1 (by decide) (by decide)
    have e2 : expF (2 : Int32) (0 : Int32) (1 : Int32) x f = f := own_e1 (by decide) (by decide)
    have e3 : expF (3 : Int32) (0 : Int32) (1 : Int32) x f = f := own_e1 (by decide) (by decide)
    have e4 : expF (4 : Int32) (0 : Int32) (1 : Int32) x f = f := own_e1 (by decide) (by decide)
    have e5 : expF (5 : Int32) (0 : Int32) (1 : Int32) x f = f := own_e1 (by decide) (by decide)
    have e6 : expF (6 : Int32) (0 : Int32) (1 : Int32) x f = f := own_e1 (by decide) (by decide)
    have e7 : expF (7 : Int32) (0 : Int32) (1 : Int32) x f = f := own_e1 (by decide) (by decide)
    have e8 : expF (8 : Int32) (0 : Int32) (1 : Int32) x f = f := own_e1 (by decide) (by decide)
    have e9 : expF (9 : Int32) (0 : Int32) (1 : Int32) x f = f := own_e1 (by decide) (by decide)
    have e10 : expF (10 : Int32) (0 : Int32) (1 : Int32) x f = f := own_e1 (by decide) (by decide)
    have e11 : expF (11 : Int32) (0 : Int32) (1 : Int32) x f = f := own_e1 (by decide) (by decide)
    have e12 : expF (12 : Int32) (0 : Int32) (1 : Int32) x f = f := own_e1 (by decide) (by decide)
    have e13 : expF (13 : Int32) (0 : Int32) (1 : Int32) x f = f := own_e1 (by decide) (by decide)
    rw [hn]
    exact ⟨rfl, ((Keep.refl h0 [a1]).trans K_3 (allS (Or.inl (List.mem_of_getElem? (i := 0) rfl)) all0)), by rw [e0, e1, e2, e3, e4, e5, e6, e7, e8, e9, e10, e11, e12, e13]; exact f_5⟩
  · refine g_if_n C d2_14 (Jvm.Free.XT.ll_eq_f hb_1) (pc' := 17) rfl ?_
    refine g_aload_n C d2_17 (v := (.ref a1)) rfl rfl (pc' := 18) rfl ?_
    refine g_iload C d2_18 (v := (0 : Int32)) rfl (pc' := 20) rfl ?_
    refine g_iinc C d2_20 (v := (0 : Int32)) (w := (1 : Int32)) rfl rfl (L' := #[.val (.ref a1), .val (.int (0 : Int32)), .val (.long x), .second, .val (.int (1 : Int32)), .val (.long x), .second]) rfl (pc' := 23) rfl ?_
    refine g_lload C d2_23 (v := x) rfl (pc' := 25) rfl ?_
    refine g_ldc2_w C (v := (127 : Int64)) (own_w hw 14 rfl) d2_25 (pc' := 28) rfl ?_
    refine g_land C (x := x) (y := (127 : Int64)) d2_28  (pc' := 29) rfl ?_
    refine g_ldc2_w C (v := (128 : Int64)) (own_w hw 15 rfl) d2_29 (pc' := 32) rfl ?_
    refine g_lor C (x := (x &&& (127 : Int64))) (y := (128 : Int64)) d2_32  (pc' := 33) rfl ?_
    refine g_l2i C (x := ((x &&& (127 : Int64)) ||| (128 : Int64))) d2_33 (pc' := 34) rfl ?_
    refine g_i2b C (x := (Int64.toInt32 ((x &&& (127 : Int64)) ||| (128 : Int64)))) d2_34 (pc' := 35) rfl ?_
    refine g_bastoreB C F1 (by decide) (i := 0) (by decide) (show 0 < 14 by decide) (w := (.int (Int8.toInt32 (Int32.toInt8 (Int64.toInt32 ((x &&& (127 : Int64)) ||| (128 : Int64))))))) (congrArg Value.int (own_narb _)) g0 d2_35 (pc' := 36) rfl ?_
    intro h_6 K_7 A_8
    have f_9 : Ary Z h_6 a1 .byte [(.int (Int8.toInt32 (Int32.toInt8 (Int64.toInt32 ((x &&& (127 : Int64)) ||| (128 : Int64)))))), (.int f), (.int f), (.int f), (.int f), (.int f), (.int f), (.int f), (.int f), (.int f), (.int f), (.int f), (.int f), (.int f)] := A_8
    refine g_lload C d2_36 (v := x) rfl (pc' := 38) rfl ?_
    refine g_bipush C d2_38 (v := (7 : Int32)) rfl (pc' := 40) rfl ?_
    refine g_lushr C (x := x) (y := (7 : Int32)) d2_40  (pc' := 41) rfl ?_
    obtain ⟨x1, hx1⟩ : ∃ z : Int64, z = (Jvm.Free.XT.ushrL x (7 : Int32)) := ⟨_, rfl⟩
    rw [← hx1]
    have y1 : x1 = Jvm.Free.XT.ushrL x (7 : Int32) := hx1
    have nz1 : ¬ Jvm.Free.XT.ushrL x (7 : Int32) = 0 := by rw [← y1, hx1]; exact fun q => hb_1 ((own_m128 _).mpr q)
    refine g_lstore C d2_41 (v := x1) (L' := #[.val (.ref a1), .val (.int (0 : Int32)), .val (.long x), .second, .val (.int (1 : Int32)), .val (.long x1), .second]) rfl (pc' := 43) rfl ?_
    refine g_goto C d2_43 (pc' := 6) (by decide) (by decide) ?_
    refine g_lload C d2_6 (v := x1) rfl (pc' := 8) rfl ?_
    refine g_ldc2_w C (v := (-128 : Int64)) (own_w hw 9 rfl) d2_8 (pc' := 11) rfl ?_
    refine g_land C (x := x1) (y := (-128 : Int64)) d2_11  (pc' := 12) rfl ?_
    refine g_lconst C d2_12 (v := (0 : Int64)) rfl (pc' := 13) rfl ?_
    refine g_lcmp C (x := (x1 &&& (-128 : Int64))) (y := (0 : Int64)) d2_13 (pc' := 14) rfl ?_
    by_cases hb_10 : (x1 &&& (-128 : Int64)) = (0 : Int64)
    · refine g_if_y C d2_14 (Jvm.Free.XT.ll_eq_t hb_10) (pc' := 46) (by decide) (by decide) ?_
      refine g_aload_n C d2_46 (v := (.ref a1)) rfl rfl (pc' := 47) rfl ?_
      refine g_iload C d2_47 (v := (1 : Int32)) rfl (pc' := 49) rfl ?_
      refine g_iinc C d2_49 (v := (1 : Int32)) (w := (2 : Int32)) rfl rfl (L' := #[.val (.ref a1), .val (.int (0 : Int32)), .val (.long x), .second, .val (.int (2 : Int32)), .val (.long x1), .second]) rfl (pc' := 52) rfl ?_
      refine g_lload C d2_52 (v := x1) rfl (pc' := 54) rfl ?_
      refine g_l2i C (x := x1) d2_54 (pc' := 55) rfl ?_
      refine g_i2b C (x := (Int64.toInt32 x1)) d2_55 (pc' := 56) rfl ?_
      refine g_bastoreB C f_9 (by decide) (i := 1) (by decide) (show 1 < 14 by decide) (w := (.int (Int8.toInt32 (Int32.toInt8 (Int64.toInt32 x1))))) (congrArg Value.int (own_narb _)) g0 d2_56 (pc' := 57) rfl ?_
      intro h_11 K_12 A_13
      have f_14 : Ary Z h_11 a1 .byte [(.int (Int8.toInt32 (Int32.toInt8 (Int64.toInt32 ((x &&& (127 : Int64)) ||| (128 : Int64)))))), (.int (Int8.toInt32 (Int32.toInt8 (Int64.toInt32 x1)))), (.int f), (.int f), (.int f), (.int f), (.int f), (.int f), (.int f), (.int f), (.int f), (.int f), (.int f), (.int f)] := A_13
      refine g_iload C d2_57 (v := (2 : Int32)) rfl (pc' := 59) rfl ?_
      refine g_ret C (v := (.int (2 : Int32))) (ty := .int) rfl rfl (Or.inl ⟨rfl, Or.inl rfl, _, rfl⟩) d2_59 (by decide) (by decide) ?_
      have zk : Jvm.Free.XT.ushrL x1 (7 : Int32) = 0 := (own_m128 _).mp hb_10
      have zz : Jvm.Free.XT.ushrL x (14 : Int32) = 0 := by rw [← own_sh x (ka := 7) (kb := 7) (a := (7 : Int32)) (b := (7 : Int32)) (by decide) (by decide) (by decide), ← y1]; exact zk
      have hn : nlen x = (2 : Int32) := by rw [nlen, if_neg nz1, if_pos zz]
      have e0 : expF (0 : Int32) (0 : Int32) (2 : Int32) x f = (Int8.toInt32 (Int32.toInt8 (Int64.toInt32 ((x &&& (127 : Int64)) ||| (128 : Int64))))) := own_e2 (c := (0 : Int32)) (by decide) (by decide) (by decide) (by decide) (own_u0 x)
      have e1 : expF (1 : Int32) (0 : Int32) (2 : Int32) x f = (Int8.toInt32 (Int32.toInt8 (Int64.toInt32 x1))) := own_e3 (c := (7 : Int32)) (by decide) (by decide) (by decide) (by decide) y1 zk
      have e2 : expF (2 : Int32) (0 : Int32) (2 : Int32) x f = f := own_e1 (by decide) (by decide)
      have e3 : expF (3 : Int32) (0 : Int32) (2 : Int32) x f = f := own_e1 (by decide) (by decide)
      have e4 : expF (4 : Int32) (0 : Int32) (2 : Int32) x f = f := own_e1 (by decide) (by decide)
      have e5 : expF (5 : Int32) (0 : Int32) (2 : Int32) x f = f := own_e1 (by decide) (by decide)
      have e6 : expF (6 : Int32) (0 : Int32) (2 : Int32) x f = f := own_e1 (by decide) (by decide)
      have e7 : expF (7 : Int32) (0 : Int32) (2 : Int32) x f = f := own_e1 (by decide) (by decide)
      have e8 : expF (8 : Int32) (0 : Int32) (2 : Int32) x f = f := own_e1 (by decide) (by decide)
      have e9 : expF (9 : Int32) (0 : Int32) (2 : Int32) x f = f := own_e1 (by decide) (by decide)
      have e10 : expF (10 : Int32) (0 : Int32) (2 : Int32) x f = f := own_e1 (by decide) (by decide)
      have e11 : expF (11 : Int32) (0 : Int32) (2 : Int32) x f = f := own_e1 (by decide) (by decide)
      have e12 : expF (12 : Int32) (0 : Int32) (2 : Int32) x f = f := own_e1 (by decide) (by decide)
      have e13 : expF (13 : Int32) (0 : Int32) (2 : Int32) x f = f := own_e1 (by decide) (by decide)
      rw [hn]
      exact ⟨rfl, (((Keep.refl h0 [a1]).trans K_7 (allS (Or.inl (List.mem_of_getElem? (i := 0) rfl)) all0)).trans K_12 (allS (Or.inl (List.mem_of_getElem? (i := 0) rfl)) all0)), by rw [e0, e1, e2, e3, e4, e5, e6, e7, e8, e9, e10, e11, e12, e13]; exact f_14⟩
    · refine g_if_n C d2_14 (Jvm.Free.XT.ll_eq_f hb_10) (pc' := 17) rfl ?_
      refine g_aload_n C d2_17 (v := (.ref a1)) rfl rfl (pc' := 18) rfl ?_
      refine g_iload C d2_18 (v := (1 : Int32)) rfl (pc' := 20) rfl ?_
      refine g_iinc C d2_20 (v := (1 : Int32)) (w := (2 : Int32)) rfl rfl (L' := #[.val (.ref a1), .val (.int (0 : Int32)), .val (.long x), .second, .val (.int (2 : Int32)), .val (.long x1), .second]) rfl (pc' := 23) rfl ?_
      refine g_lload C d2_23 (v := x1) rfl (pc' := 25) rfl ?_
      refine g_ldc2_w C (v := (127 : Int64)) (own_w hw 14 rfl) d2_25 (pc' := 28) rfl ?_
      refine g_land C (x := x1) (y := (127 : Int64)) d2_28  (pc' := 29) rfl ?_
      refine g_ldc2_w C (v := (128 : Int64)) (own_w hw 15 rfl) d2_29 (pc' := 32) rfl ?_
      refine g_lor C (x := (x1 &&& (127 : Int64))) (y := (128 : Int64)) d2_32  (pc' := 33) rfl ?_
      refine g_l2i C (x := ((x1 &&& (127 : Int64)) ||| (128 : Int64))) d2_33 (pc' := 34) rfl ?_
      refine g_i2b C (x := (Int64.toInt32 ((x1 &&& (127 : Int64)) ||| (128 : Int64)))) d2_34 (pc' := 35) rfl ?_
      refine g_bastoreB C f_9 (by decide) (i := 1) (by decide) (show 1 < 14 by decide) (w := (.int (Int8.toInt32 (Int32.toInt8 (Int64.toInt32 ((x1 &&& (127 : Int64)) ||| (128 : Int64))))))) (congrArg Value.int (own_narb _)) g0 d2_35 (pc' := 36) rfl ?_
      intro h_15 K_16 A_17
      have f_18 : Ary Z h_15 a1 .byte [(.int (Int8.toInt32 (Int32.toInt8 (Int64.toInt32 ((x &&& (127 : Int64)) ||| (128 : Int64)))))), (.int (Int8.toInt32 (Int32.toInt8 (Int64.toInt32 ((x1 &&& (127 : Int64)) ||| (128 : Int64)))))), (.int f), (.int f), (.int f), (.int f), (.int f), (.int f), (.int f), (.int f), (.int f), (.int f), (.int f), (.int f)] := A_17
      refine g_lload C d2_36 (v := x1) rfl (pc' := 38) rfl ?_
      refine g_bipush C d2_38 (v := (7 : Int32)) rfl (pc' := 40) rfl ?_
      refine g_lushr C (x := x1) (y := (7 : Int32)) d2_40  (pc' := 41) rfl ?_
      obtain ⟨x2, hx2⟩ : ∃ z : Int64, z = (Jvm.Free.XT.ushrL x1 (7 : Int32)) := ⟨_, rfl⟩
      rw [← hx2]
      have y2 : x2 = Jvm.Free.XT.ushrL x (14 : Int32) := by rw [hx2, y1]; exact own_sh x (ka := 7) (kb := 7) (by decide) (by decide) (by decide)
      have nz2 : ¬ Jvm.Free.XT.ushrL x (14 : Int32) = 0 := by rw [← y2, hx2]; exact fun q => hb_10 ((own_m128 _).mpr q)
      refine g_lstore C d2_41 (v := x2) (L' := #[.val (.ref a1), .val (.int (0 : Int32)), .val (.long x), .second, .val (.int (2 : Int32)), .val (.long x2), .second]) rfl (pc' := 43) rfl ?_
      refine g_goto C d2_43 (pc' := 6) (by decide) (by decide) ?_
      refine g_lload C d2_6 (v := x2) rfl (pc' := 8) rfl ?_
      refine g_ldc2_w C (v := (-128 : Int64)) (own_w hw 9 rfl) d2_8 (pc' := 11) rfl ?_
      refine g_land C (x := x2) (y := (-128 : Int64)) d2_11  (pc' := 12) rfl ?_
      refine g_lconst C d2_12 (v := (0 : Int64)) rfl (pc' := 13) rfl ?_
      refine g_lcmp C (x := (x2 &&& (-128 : Int64))) (y := (0 : Int64)) d2_13 (pc' := 14) rfl ?_
      by_cases hb_19 : (x2 &&& (-128 : Int64)) = (0 : Int64)
      · refine g_if_y C d2_14 (Jvm.Free.XT.ll_eq_t hb_19) (pc' := 46) (by decide) (by decide) ?_
        refine g_aload_n C d2_46 (v := (.ref a1)) rfl rfl (pc' := 47) rfl ?_
        refine g_iload C d2_47 (v := (2 : Int32)) rfl (pc' := 49) rfl ?_
        refine g_iinc C d2_49 (v := (2 : Int32)) (w := (3 : Int32)) rfl rfl (L' := #[.val (.ref a1), .val (.int (0 : Int32)), .val (.long x), .second, .val (.int (3 : Int32)), .val (.long x2), .second]) rfl (pc' := 52) rfl ?_
        refine g_lload C d2_52 (v := x2) rfl (pc' := 54) rfl ?_
        refine g_l2i C (x := x2) d2_54 (pc' := 55) rfl ?_
        refine g_i2b C (x := (Int64.toInt32 x2)) d2_55 (pc' := 56) rfl ?_
        refine g_bastoreB C f_18 (by decide) (i := 2) (by decide) (show 2 < 14 by decide) (w := (.int (Int8.toInt32 (Int32.toInt8 (Int64.toInt32 x2))))) (congrArg Value.int (own_narb _)) g0 d2_56 (pc' := 57) rfl ?_
        intro h_20 K_21 A_22
        have f_23 : Ary Z h_20 a1 .byte [(.int (Int8.toInt32 (Int32.toInt8 (Int64.toInt32 ((x &&& (127 : Int64)) ||| (128 : Int64)))))), (.int (Int8.toInt32 (Int32.toInt8 (Int64.toInt32 ((x1 &&& (127 : Int64)) ||| (128 : Int64)))))), (.int (Int8.toInt32 (Int32.toInt8 (Int64.toInt32 x2)))), (.int f), (.int f), (.int f), (.int f), (.int f), (.int f), (.int f), (.int f), (.int f), (.int f), (.int f)] := A_22
        refine g_iload C d2_57 (v := (3 : Int32)) rfl (pc' := 59) rfl ?_
        refine g_ret C (v := (.int (3 : Int32))) (ty := .int) rfl rfl (Or.inl ⟨rfl, Or.inl rfl, _, rfl⟩) d2_59 (by decide) (by decide) ?_
        have zk : Jvm.Free.XT.ushrL x2 (7 : Int32) = 0 := (own_m128 _).mp hb_19
        have zz : Jvm.Free.XT.ushrL x (21 : Int32) = 0 := by rw [← own_sh x (ka := 14) (kb := 7) (a := (14 : Int32)) (b := (7 : Int32)) (by decide) (by decide) (by decide), ← y2]; exact zk
        have hn : nlen x = (3 : Int32) := by rw [nlen, if_neg nz1, if_neg nz2, if_pos zz]
        have e0 : expF (0 : Int32) (0 : Int32) (3 : Int32) x f = (Int8.toInt32 (Int32.toInt8 (Int64.toInt32 ((x &&& (127 : Int64)) ||| (128 : Int64))))) := own_e2 (c := (0 : Int32)) (by decide) (by decide) (by decide) (by decide) (own_u0 x)
        have e1 : expF (1 : Int32) (0 : Int32) (3 : Int32) x f = (Int8.toInt32 (Int32.toInt8 (Int64.toInt32 ((x1 &&& (127 : Int64)) ||| (128 : Int64))))) := own_e2 (c := (7 : Int32)) (by decide) (by decide) (by decide) (by decide) y1
        have e2 : expF (2 : Int32) (0 : Int32) (3 : Int32) x f = (Int8.toInt32 (Int32.toInt8 (Int64.toInt32 x2))) := own_e3 (c := (14 : Int32)) (by decide) (by decide) (by decide) (by decide) y2 zk
        have e3 : expF (3 : Int32) (0 : Int32) (3 : Int32) x f = f := own_e1 (by decide) (by decide)
        have e4 : expF (4 : Int32) (0 : Int32) (3 : Int32) x f = f := own_e1 (by decide) (by decide)
        have e5 : expF (5 : Int32) (0 : Int32) (3 : Int32) x f = f := own_e1 (by decide) (by decide)
        have e6 : expF (6 : Int32) (0 : Int32) (3 : Int32) x f = f := own_e1 (by decide) (by decide)
        have e7 : expF (7 : Int32) (0 : Int32) (3 : Int32) x f = f := own_e1 (by decide) (by decide)
        have e8 : expF (8 : Int32) (0 : Int32) (3 : Int32) x f = f := own_e1 (by decide) (by decide)
        have e9 : expF (9 : Int32) (0 : Int32) (3 : Int32) x f = f := own_e1 (by decide) (by decide)
        have e10 : expF (10 : Int32) (0 : Int32) (3 : Int32) x f = f := own_e1 (by decide) (by decide)
        have e11 : expF (11 : Int32) (0 : Int32) (3 : Int32) x f = f := own_e1 (by decide) (by decide)
        have e12 : expF (12 : Int32) (0 : Int32) (3 : Int32) x f = f := own_e1 (by decide) (by decide)
        have e13 : expF (13 : Int32) (0 : Int32) (3 : Int32) x f = f := own_e1 (by decide) (by decide)
        rw [hn]
        exact ⟨rfl, ((((Keep.refl h0 [a1]).trans K_7 (allS (Or.inl (List.mem_of_getElem? (i := 0) rfl)) all0)).trans K_16 (allS (Or.inl (List.mem_of_getElem? (i := 0) rfl)) all0)).trans K_21 (allS (Or.inl (List.mem_of_getElem? (i := 0) rfl)) all0)), by rw [e0, e1, e2, e3, e4, e5, e6, e7, e8, e9, e10, e11, e12, e13]; exact f_23⟩
      · refine g_if_n C d2_14 (Jvm.Free.XT.ll_eq_f hb_19) (pc' := 17) rfl ?_
        refine g_aload_n C d2_17 (v := (.ref a1)) rfl rfl (pc' := 18) rfl ?_
        refine g_iload C d2_18 (v := (2 : Int32)) rfl (pc' := 20) rfl ?_
        refine g_iinc C d2_20 (v := (2 : Int32)) (w := (3 : Int32)) rfl rfl (L' := #[.val (.ref a1), .val (.int (0 : Int32)), .val (.long x), .second, .val (.int (3 : Int32)), .val (.long x2), .second]) rfl (pc' := 23) rfl ?_
        refine g_lload C d2_23 (v := x2) rfl (pc' := 25) rfl ?_
        refine g_ldc2_w C (v := (127 : Int64)) (own_w hw 14 rfl) d2_25 (pc' := 28) rfl ?_
        refine g_land C (x := x2) (y := (127 : Int64)) d2_28  (pc' := 29) rfl ?_
        refine g_ldc2_w C (v := (128 : Int64)) (own_w hw 15 rfl) d2_29 (pc' := 32) rfl ?_
        refine g_lor C (x := (x2 &&& (127 : Int64))) (y := (128 : Int64)) d2_32  (pc' := 33) rfl ?_
        refine g_l2i C (x := ((x2 &&& (127 : Int64)) ||| (128 : Int64))) d2_33 (pc' := 34) rfl ?_
        refine g_i2b C (x := (Int64.toInt32 ((x2 &&& (127 : Int64)) ||| (128 : Int64)))) d2_34 (pc' := 35) rfl ?_
        refine g_bastoreB C f_18 (by decide) (i := 2) (by decide) (show 2 < 14 by decide) (w := (.int (Int8.toInt32 (Int32.toInt8 (Int64.toInt32 ((x2 &&& (127 : Int64)) ||| (128 : Int64))))))) (congrArg Value.int (own_narb _)) g0 d2_35 (pc' := 36) rfl ?_
        intro h_24 K_25 A_26
        have f_27 : Ary Z h_24 a1 .byte [(.int (Int8.toInt32 (Int32.toInt8 (Int64.toInt32 ((x &&& (127 : Int64)) ||| (128 : Int64)))))), (.int (Int8.toInt32 (Int32.toInt8 (Int64.toInt32 ((x1 &&& (127 : Int64)) ||| (128 : Int64)))))), (.int (Int8.toInt32 (Int32.toInt8 (Int64.toInt32 ((x2 &&& (127 : Int64)) ||| (128 : Int64)))))), (.int f), (.int f), (.int f), (.int f), (.int f), (.int f), (.int f), (.int f), (.int f), (.int f), (.int f)] := A_26
        refine g_lload C d2_36 (v := x2) rfl (pc' := 38) rfl ?_
        refine g_bipush C d2_38 (v := (7 : Int32)) rfl (pc' := 40) rfl ?_
        refine g_lushr C (x := x2) (y := (7 : Int32)) d2_40  (pc' := 41) rfl ?_
        obtain ⟨x3, hx3⟩ : ∃ z : Int64, z = (Jvm.Free.XT.ushrL x2 (7 : Int32)) := ⟨_, rfl⟩
        rw [← hx3]
        have y3 : x3 = Jvm.Free.XT.ushrL x (21 : Int32) := by rw [hx3, y2]; exact own_sh x (ka := 14) (kb := 7) (by decide) (by decide) (by decide)
        have nz3 : ¬ Jvm.Free.XT.ushrL x (21 : Int32) = 0 := by rw [← y3, hx3]; exact fun q => hb_19 ((own_m128 _).mpr q)
        refine g_lstore C d2_41 (v := x3) (L' := #[.val (.ref a1), .val (.int (0 : Int32)), .val (.long x), .second, .val (.int (3 : Int32)), .val (.long x3), .second]) rfl (pc' := 43) rfl ?_
        refine g_goto C d2_43 (pc' := 6) (by decide) (by decide) ?_
        refine g_lload C d2_6 (v := x3) rfl (pc' := 8) rfl ?_
        refine g_ldc2_w C (v := (-128 : Int64)) (own_w hw 9 rfl) d2_8 (pc' := 11) rfl ?_
        refine g_land C (x := x3) (y := (-128 : Int64)) d2_11  (pc' := 12) rfl ?_
        refine g_lconst C d2_12 (v := (0 : Int64)) rfl (pc' := 13) rfl ?_
        refine g_lcmp C (x := (x3 &&& (-128 : Int64))) (y := (0 : Int64)) d2_13 (pc' := 14) rfl ?_
        by_cases hb_28 : (x3 &&& (-128 : Int64)) = (0 : Int64)
        · refine g_if_y C d2_14 (Jvm.Free.XT.ll_eq_t hb_28) (pc' := 46) (by decide) (by decide) ?_
          refine g_aload_n C d2_46 (v := (.ref a1)) rfl rfl (pc' := 47) rfl ?_
          refine g_iload C d2_47 (v := (3 : Int32)) rfl (pc' := 49) rfl ?_
          refine g_iinc C d2_49 (v := (3 : Int32)) (w := (4 : Int32)) rfl rfl (L' := #[.val (.ref a1), .val (.int (0 : Int32)), .val (.long x), .second, .val (.int (4 : Int32)), .val (.long x3), .second]) rfl (pc' := 52) rfl ?_
          refine g_lload C d2_52 (v := x3) rfl (pc' := 54) rfl ?_
          refine g_l2i C (x := x3) d2_54 (pc' := 55) rfl ?_
          refine g_i2b C (x := (Int64.toInt32 x3)) d2_55 (pc' := 56) rfl ?_
          refine g_bastoreB C f_27 (by decide) (i := 3) (by decide) (show 3 < 14 by decide) (w := (.int (Int8.toInt32 (Int32.toInt8 (Int64.toInt32 x3))))) (congrArg Value.int (own_narb _)) g0 d2_56 (pc' := 57) rfl ?_
          intro h_29 K_30 A_31
          have f_32 : Ary Z h_29 a1 .byte [(.int (Int8.toInt32 (Int32.toInt8 (Int64.toInt32 ((x &&& (127 : Int64)) ||| (128 : Int64)))))), (.int (Int8.toInt32 (Int32.toInt8 (Int64.toInt32 ((x1 &&& (127 : Int64)) ||| (128 : Int64)))))), (.int (Int8.toInt32 (Int32.toInt8 (Int64.toInt32 ((x2 &&& (127 : Int64)) ||| (128 : Int64)))))), (.int (Int8.toInt32 (Int32.toInt8 (Int64.toInt32 x3)))), (.int f), (.int f), (.int f), (.int f), (.int f), (.int f), (.int f), (.int f), (.int f), (.int f)] := A_31
          refine g_iload C d2_57 (v := (4 : Int32)) rfl (pc' := 59) rfl ?_
          refine g_ret C (v := (.int (4 : Int32))) (ty := .int) rfl rfl (Or.inl ⟨rfl, Or.inl rfl, _, rfl⟩) d2_59 (by decide) (by decide) ?_
          have zk : Jvm.Free.XT.ushrL x3 (7 : Int32) = 0 := (own_m128 _).mp hb_28
          have zz : Jvm.Free.XT.ushrL x (28 : Int32) = 0 := by rw [← own_sh x (ka := 21) (kb := 7) (a := (21 : Int32)) (b := (7 : Int32)) (by decide) (by decide) (by decide), ← y3]; exact zk
          have hn : nlen x = (4 : Int32) := by rw [nlen, if_neg nz1, if_neg nz2, if_neg nz3, if_pos zz]
          have e0 : expF (0 : Int32) (0 : Int32) (4 : Int32) x f = (Int8.toInt32 (Int32.toInt8 (Int64.toInt32 ((x &&& (127 : Int64)) ||| (128 : Int64))))) := own_e2 (c := (0 : Int32)) (by decide) (by decide) (by decide) (by decide) (own_u0 x)
          have e1 : expF (1 : Int32) (0 : Int32) (4 : Int32) x f = (Int8.toInt32 (Int32.toInt8 (Int64.toInt32 ((x1 &&& (127 : Int64)) ||| (128 : Int64))))) := own_e2 (c := (7 : Int32)) (by decide) (by decide) (by decide) (by decide) y1
          have e2 : expF (2 : Int32) (0 : Int32) (4 : Int32) x f = (Int8.toInt32 (Int32.toInt8 (Int64.toInt32 ((x2 &&& (127 : Int64)) ||| (128 : Int64))))) := own_e2 (c := (14 : Int32)) (by decide) (by decide) (by decide) (by decide) y2
          have e3 : expF (3 : Int32) (0 : Int32) (4 : Int32) x f = (Int8.toInt32 (Int32.toInt8 (Int64.toInt32 x3))) := own_e3 (c := (21 : Int32)) (by decide) (by decide) (by decide) (by decide) y3 zk
          have e4 : expF (4 : Int32) (0 : Int32) (4 : Int32) x f = f := own_e1 (by decide) (by decide)
          have e5 : expF (5 : Int32) (0 : Int32) (4 : Int32) x f = f := own_e1 (by decide) (by decide)
          have e6 : expF (6 : Int32) (0 : Int32) (4 : Int32) x f = f := own_e1 (by decide) (by decide)
          have e7 : expF (7 : Int32) (0 : Int32) (4 : Int32) x f = f := own_e1 (by decide) (by decide)
          have e8 : expF (8 : Int32) (0 : Int32) (4 : Int32) x f = f := own_e1 (by decide) (by decide)
          have e9 : expF (9 : Int32) (0 : Int32) (4 : Int32) x f = f := own_e1 (by decide) (by decide)
          have e10 : expF (10 : Int32) (0 : Int32) (4 : Int32) x f = f := own_e1 (by decide) (by decide)
          have e11 : expF (11 : Int32) (0 : Int32) (4 : Int32) x f = f := own_e1 (by decide) (by decide)
          have e12 : expF (12 : Int32) (0 : Int32) (4 : Int32) x f = f := own_e1 (by decide) (by decide)
          have e13 : expF (13 : Int32) (0 : Int32) (4 : Int32) x f = f := own_e1 (by decide) (by decide)
          rw [hn]
          exact ⟨rfl, (((((Keep.refl h0 [a1]).trans K_7 (allS (Or.inl (List.mem_of_getElem? (i := 0) rfl)) all0)).trans K_16 (allS (Or.inl (List.mem_of_getElem? (i := 0) rfl)) all0)).trans K_25 (allS (Or.inl (List.mem_of_getElem? (i := 0) rfl)) all0)).trans K_30 (allS (Or.inl (List.mem_of_getElem? (i := 0) rfl)) all0)), by rw [e0, e1, e2, e3, e4, e5, e6, e7, e8, e9, e10, e11, e12, e13]; exact f_32⟩
        · refine g_if_n C d2_14 (Jvm.Free.XT.ll_eq_f hb_28) (pc' := 17) rfl ?_
          refine g_aload_n C d2_17 (v := (.ref a1)) rfl rfl (pc' := 18) rfl ?_
          refine g_iload C d2_18 (v := (3 : Int32)) rfl (pc' := 20) rfl ?_
          refine g_iinc C d2_20 (v := (3 : Int32)) (w := (4 : Int32)) rfl rfl (L' := #[.val (.ref a1), .val (.int (0 : Int32)), .val (.long x), .second, .val (.int (4 : Int32)), .val (.long x3), .second]) rfl (pc' := 23) rfl ?_
          refine g_lload C d2_23 (v := x3) rfl (pc' := 25) rfl ?_
          refine g_ldc2_w C (v := (127 : Int64)) (own_w hw 14 rfl) d2_25 (pc' := 28) rfl ?_
          refine g_land C (x := x3) (y := (127 : Int64)) d2_28  (pc' := 29) rfl ?_
          refine g_ldc2_w C (v := (128 : Int64)) (own_w hw 15 rfl) d2_29 (pc' := 32) rfl ?_
          refine g_lor C (x := (x3 &&& (127 : Int64))) (y := (128 : Int64)) d2_32  (pc' := 33) rfl ?_
          refine g_l2i C (x := ((x3 &&& (127 : Int64)) ||| (128 : Int64))) d2_33 (pc' := 34) rfl ?_
          refine g_i2b C (x := (Int64.toInt32 ((x3 &&& (127 : Int64)) ||| (128 : Int64)))) d2_34 (pc' := 35) rfl ?_
          refine g_bastoreB C f_27 (by decide) (i := 3) (by decide) (show 3 < 14 by decide) (w := (.int (Int8.toInt32 (Int32.toInt8 (Int64.toInt32 ((x3 &&& (127 : Int64)) ||| (128 : Int64))))))) (congrArg Value.int (own_narb _)) g0 d2_35 (pc' := 36) rfl ?_
          intro h_33 K_34 A_35
          have f_36 : Ary Z h_33 a1 .byte [(.int (Int8.toInt32 (Int32.toInt8 (Int64.toInt32 ((x &&& (127 : Int64)) ||| (128 : Int64)))))), (.int (Int8.toInt32 (Int32.toInt8 (Int64.toInt32 ((x1 &&& (127 : Int64)) ||| (128 : Int64)))))), (.int (Int8.toInt32 (Int32.toInt8 (Int64.toInt32 ((x2 &&& (127 : Int64)) ||| (128 : Int64)))))), (.int (Int8.toInt32 (Int32.toInt8 (Int64.toInt32 ((x3 &&& (127 : Int64)) ||| (128 : Int64)))))), (.int f), (.int f), (.int f), (.int f), (.int f), (.int f), (.int f), (.int f), (.int f), (.int f)] := A_35
          refine g_lload C d2_36 (v := x3) rfl (pc' := 38) rfl ?_
          refine g_bipush C d2_38 (v := (7 : Int32)) rfl (pc' := 40) rfl ?_
          refine g_lushr C (x := x3) (y := (7 : Int32)) d2_40  (pc' := 41) rfl ?_
          obtain ⟨x4, hx4⟩ : ∃ z : Int64, z = (Jvm.Free.XT.ushrL x3 (7 : Int32)) := ⟨_, rfl⟩
          rw [← hx4]
          have y4 : x4 = Jvm.Free.XT.ushrL x (28 : Int32) := by rw [hx4, y3]; exact own_sh x (ka := 21) (kb := 7) (by decide) (by decide) (by decide)
          have nz4 : ¬ Jvm.Free.XT.ushrL x (28 : Int32) = 0 := by rw [← y4, hx4]; exact fun q => hb_28 ((own_m128 _).mpr q)
          refine g_lstore C d2_41 (v := x4) (L' := #[.val (.ref a1), .val (.int (0 : Int32)), .val (.long x), .second, .val (.int (4 : Int32)), .val (.long x4), .second]) rfl (pc' := 43) rfl ?_
          refine g_goto C d2_43 (pc' := 6) (by decide) (by decide) ?_
          refine g_lload C d2_6 (v := x4) rfl (pc' := 8) rfl ?_
          refine g_ldc2_w C (v := (-128 : Int64)) (own_w hw 9 rfl) d2_8 (pc' := 11) rfl ?_
          refine g_land C (x := x4) (y := (-128 : Int64)) d2_11  (pc' := 12) rfl ?_
          refine g_lconst C d2_12 (v := (0 : Int64)) rfl (pc' := 13) rfl ?_
          refine g_lcmp C (x := (x4 &&& (-128 : Int64))) (y := (0 : Int64)) d2_13 (pc' := 14) rfl ?_
          by_cases hb_37 : (x4 &&& (-128 : Int64)) = (0 : Int64)
          · refine g_if_y C d2_14 (Jvm.Free.XT.ll_eq_t hb_37) (pc' := 46) (by decide) (by decide) ?_
            refine g_aload_n C d2_46 (v := (.ref a1)) rfl rfl (pc' := 47) rfl ?_
            refine g_iload C d2_47 (v := (4 : Int32)) rfl (pc' := 49) rfl ?_
            refine g_iinc C d2_49 (v := (4 : Int32)) (w := (5 : Int32)) rfl rfl (L' := #[.val (.ref a1), .val (.int (0 : Int32)), .val (.long x), .second, .val (.int (5 : Int32)), .val (.long x4), .second]) rfl (pc' := 52) rfl ?_
            refine g_lload C d2_52 (v := x4) rfl (pc' := 54) rfl ?_
            refine g_l2i C (x := x4) d2_54 (pc' := 55) rfl ?_
            refine g_i2b C (x := (Int64.toInt32 x4)) d2_55 (pc' := 56) rfl ?_
            refine g_bastoreB C f_36 (by decide) (i := 4) (by decide) (show 4 < 14 by decide) (w := (.int (Int8.toInt32 (Int32.toInt8 (Int64.toInt32 x4))))) (congrArg Value.int (own_narb _)) g0 d2_56 (pc' := 57) rfl ?_
            intro h_38 K_39 A_40
            have f_41 : Ary Z h_38 a1 .byte [(.int (Int8.toInt32 (Int32.toInt8 (Int64.toInt32 ((x &&& (127 : Int64)) ||| (128 : Int64)))))), (.int (Int8.toInt32 (Int32.toInt8 (Int64.toInt32 ((x1 &&& (127 : Int64)) ||| (128 : Int64)))))), (.int (Int8.toInt32 (Int32.toInt8 (Int64.toInt32 ((x2 &&& (127 : Int64)) ||| (128 : Int64)))))), (.int (Int8.toInt32 (Int32.toInt8 (Int64.toInt32 ((x3 &&& (127 : Int64)) ||| (128 : Int64)))))), (.int (Int8.toInt32 (Int32.toInt8 (Int64.toInt32 x4)))), (.int f), (.int f), (.int f), (.int f), (.int f), (.int f), (.int f), (.int f), (.int f)] := A_40
            refine g_iload C d2_57 (v := (5 : Int32)) rfl (pc' := 59) rfl ?_
            refine g_ret C (v := (.int (5 : Int32))) (ty := .int) rfl rfl (Or.inl ⟨rfl, Or.inl rfl, _, rfl⟩) d2_59 (by decide) (by decide) ?_
            have zk : Jvm.Free.XT.ushrL x4 (7 : Int32) = 0 := (own_m128 _).mp hb_37
            have zz : Jvm.Free.XT.ushrL x (35 : Int32) = 0 := by rw [← own_sh x (ka := 28) (kb := 7) (a := (28 : Int32)) (b := (7 : Int32)) (by decide) (by decide) (by decide), ← y4]; exact zk
            have hn : nlen x = (5 : Int32) := by rw [nlen, if_neg nz1, if_neg nz2, if_neg nz3, if_neg nz4, if_pos zz]
            have e0 : expF (0 : Int32) (0 : Int32) (5 : Int32) x f = (Int8.toInt32 (Int32.toInt8 (Int64.toInt32 ((x &&& (127 : Int64)) ||| (128 : Int64))))) := own_e2 (c := (0 : Int32)) (by decide) (by decide) (by decide) (by decide) (own_u0 x)
            have e1 : expF (1 : Int32) (0 : Int32) (5 : Int32) x f = (Int8.toInt32 (Int32.toInt8 (Int64.toInt32 ((x1 &&& (127 : Int64)) ||| (128 : Int64))))) := own_e2 (c := (7 : Int32)) (by decide) (by decide) (by decide) (by decide) y1
            have e2 : expF (2 : Int32) (0 : Int32) (5 : Int32) x f = (Int8.toInt32 (Int32.toInt8 (Int64.toInt32 ((x2 &&& (127 : Int64)) ||| (128 : Int64))))) := own_e2 (c := (14 : Int32)) (by decide) (by decide) (by decide) (by decide) y2
            have e3 : expF (3 : Int32) (0 : Int32) (5 : Int32) x f = (Int8.toInt32 (Int32.toInt8 (Int64.toInt32 ((x3 &&& (127 : Int64)) ||| (128 : Int64))))) := own_e2 (c := (21 : Int32)) (by decide) (by decide) (by decide) (by decide) y3
            have e4 : expF (4 : Int32) (0 : Int32) (5 : Int32) x f = (Int8.toInt32 (Int32.toInt8 (Int64.toInt32 x4))) := own_e3 (c := (28 : Int32)) (by decide) (by decide) (by decide) (by decide) y4 zk
            have e5 : expF (5 : Int32) (0 : Int32) (5 : Int32) x f = f := own_e1 (by decide) (by decide)
            have e6 : expF (6 : Int32) (0 : Int32) (5 : Int32) x f = f := own_e1 (by decide) (by decide)
            have e7 : expF (7 : Int32) (0 : Int32) (5 : Int32) x f = f := own_e1 (by decide) (by decide)
            have e8 : expF (8 : Int32) (0 : Int32) (5 : Int32) x f = f := own_e1 (by decide) (by decide)
            have e9 : expF (9 : Int32) (0 : Int32) (5 : Int32) x f = f := own_e1 (by decide) (by decide)
            have e10 : expF (10 : Int32) (0 : Int32) (5 : Int32) x f = f := own_e1 (by decide) (by decide)
            have e11 : expF (11 : Int32) (0 : Int32) (5 : Int32) x f = f := own_e1 (by decide) (by decide)
            have e12 : expF (12 : Int32) (0 : Int32) (5 : Int32) x f = f := own_e1 (by decide) (by decide)
            have e13 : expF (13 : Int32) (0 : Int32) (5 : Int32) x f = f := own_e1 (by decide) (by decide)
            rw [hn]
            exact ⟨rfl, ((((((Keep.refl h0 [a1]).trans K_7 (allS (Or.inl (List.mem_of_getElem? (i := 0) rfl)) all0)).trans K_16 (allS (Or.inl (List.mem_of_getElem? (i := 0) rfl)) all0)).trans K_25 (allS (Or.inl (List.mem_of_getElem? (i := 0) rfl)) all0)).trans K_34 (allS (Or.inl (List.mem_of_getElem? (i := 0) rfl)) all0)).trans K_39 (allS (Or.inl (List.mem_of_getElem? (i := 0) rfl)) all0)), by rw [e0, e1, e2, e3, e4, e5, e6, e7, e8, e9, e10, e11, e12, e13]; exact f_41⟩
          · refine g_if_n C d2_14 (Jvm.Free.XT.ll_eq_f hb_37) (pc' := 17) rfl ?_
            refine g_aload_n C d2_17 (v := (.ref a1)) rfl rfl (pc' := 18) rfl ?_
            refine g_iload C d2_18 (v := (4 : Int32)) rfl (pc' := 20) rfl ?_
            refine g_iinc C d2_20 (v := (4 : Int32)) (w := (5 : Int32)) rfl rfl (L' := #[.val (.ref a1), .val (.int (0 : Int32)), .val (.long x), .second, .val (.int (5 : Int32)), .val (.long x4), .second]) rfl (pc' := 23) rfl ?_
            refine g_lload C d2_23 (v := x4) rfl (pc' := 25) rfl ?_
            refine g_ldc2_w C (v := (127 : Int64)) (own_w hw 14 rfl) d2_25 (pc' := 28) rfl ?_
            refine g_land C (x := x4) (y := (127 : Int64)) d2_28  (pc' := 29) rfl ?_
            refine g_ldc2_w C (v := (128 : Int64)) (own_w hw 15 rfl) d2_29 (pc' := 32) rfl ?_
            refine g_lor C (x := (x4 &&& (127 : Int64))) (y := (128 : Int64)) d2_32  (pc' := 33) rfl ?_
            refine g_l2i C (x := ((x4 &&& (127 : Int64)) ||| (128 : Int64))) d2_33 (pc' := 34) rfl ?_
            refine g_i2b C (x := (Int64.toInt32 ((x4 &&& (127 : Int64)) ||| (128 : Int64)))) d2_34 (pc' := 35) rfl ?_
            refine g_bastoreB C f_36 (by decide) (i := 4) (by decide) (show 4 < 14 by decide) (w := (.int (Int8.toInt32 (Int32.toInt8 (Int64.toInt32 ((x4 &&& (127 : Int64)) ||| (128 : Int64))))))) (congrArg Value.int (own_narb _)) g0 d2_35 (pc' := 36) rfl ?_
            intro h_42 K_43 A_44
            have f_45 : Ary Z h_42 a1 .byte [(.int (Int8.toInt32 (Int32.toInt8 (Int64.toInt32 ((x &&& (127 : Int64)) ||| (128 : Int64)))))), (.int (Int8.toInt32 (Int32.toInt8 (Int64.toInt32 ((x1 &&& (127 : Int64)) ||| (128 : Int64)))))), (.int (Int8.toInt32 (Int32.toInt8 (Int64.toInt32 ((x2 &&& (127 : Int64)) ||| (128 : Int64)))))), (.int (Int8.toInt32 (Int32.toInt8 (Int64.toInt32 ((x3 &&& (127 : Int64)) ||| (128 : Int64)))))), (.int (Int8.toInt32 (Int32.toInt8 (Int64.toInt32 ((x4 &&& (127 : Int64)) ||| (128 : Int64)))))), (.int f), (.int f), (.int f), (.int f), (.int f), (.int f), (.int f), (.int f), (.int f)] := A_44
            refine g_lload C d2_36 (v := x4) rfl (pc' := 38) rfl ?_
            refine g_bipush C d2_38 (v := (7 : Int32)) rfl (pc' := 40) rfl ?_
            refine g_lushr C (x := x4) (y := (7 : Int32)) d2_40  (pc' := 41) rfl ?_
            obtain ⟨x5, hx5⟩ : ∃ z : Int64, z = (Jvm.Free.XT.ushrL x4 (7 : Int32)) := ⟨_, rfl⟩
            rw [← hx5]
            have y5 : x5 = Jvm.Free.XT.ushrL x (35 : Int32) := by rw [hx5, y4]; exact own_sh x (ka := 28) (kb := 7) (by decide) (by decide) (by decide)
            have nz5 : ¬ Jvm.Free.XT.ushrL x (35 : Int32) = 0 := by rw [← y5, hx5]; exact fun q => hb_37 ((own_m128 _).mpr q)
            refine g_lstore C d2_41 (v := x5) (L' := #[.val (.ref a1), .val (.int (0 : Int32)), .val (.long x), .second, .val (.int (5 : Int32)), .val (.long x5), .second]) rfl (pc' := 43) rfl ?_
            refine g_goto C d2_43 (pc' := 6) (by decide) (by decide) ?_
            refine g_lload C d2_6 (v := x5) rfl (pc' := 8) rfl ?_
            refine g_ldc2_w C (v := (-128 : Int64)) (own_w hw 9 rfl) d2_8 (pc' := 11) rfl ?_
            refine g_land C (x := x5) (y := (-128 : Int64)) d2_11  (pc' := 12) rfl ?_
            refine g_lconst C d2_12 (v := (0 : Int64)) rfl (pc' := 13) rfl ?_
            refine g_lcmp C (x := (x5 &&& (-128 : Int64))) (y := (0 : Int64)) d2_13 (pc' := 14) rfl ?_
            by_cases hb_46 : (x5 &&& (-128 : Int64)) = (0 : Int64)
            · refine g_if_y C d2_14 (Jvm.Free.XT.ll_eq_t hb_46) (pc' := 46) (by decide) (by decide) ?_
              refine g_aload_n C d2_46 (v := (.ref a1)) rfl rfl (pc' := 47) rfl ?_
              refine g_iload C d2_47 (v := (5 : Int32)) rfl (pc' := 49) rfl ?_
              refine g_iinc C d2_49 (v := (5 : Int32)) (w := (6 : Int32)) rfl rfl (L' := #[.val (.ref a1), .val (.int (0 : Int32)), .val (.long x), .second, .val (.int (6 : Int32)), .val (.long x5), .second]) rfl (pc' := 52) rfl ?_
              refine g_lload C d2_52 (v := x5) rfl (pc' := 54) rfl ?_
              refine g_l2i C (x := x5) d2_54 (pc' := 55) rfl ?_
              refine g_i2b C (x := (Int64.toInt32 x5)) d2_55 (pc' := 56) rfl ?_
              refine g_bastoreB C f_45 (by decide) (i := 5) (by decide) (show 5 < 14 by decide) (w := (.int (Int8.toInt32 (Int32.toInt8 (Int64.toInt32 x5))))) (congrArg Value.int (own_narb _)) g0 d2_56 (pc' := 57) rfl ?_
              intro h_47 K_48 A_49
              have f_50 : Ary Z h_47 a1 .byte [(.int (Int8.toInt32 (Int32.toInt8 (Int64.toInt32 ((x &&& (127 : Int64)) ||| (128 : Int64)))))), (.int (Int8.toInt32 (Int32.toInt8 (Int64.toInt32 ((x1 &&& (127 : Int64)) ||| (128 : Int64)))))), (.int (Int8.toInt32 (Int32.toInt8 (Int64.toInt32 ((x2 &&& (127 : Int64)) ||| (128 : Int64)))))), (.int (Int8.toInt32 (Int32.toInt8 (Int64.toInt32 ((x3 &&& (127 : Int64)) ||| (128 : Int64)))))), (.int (Int8.toInt32 (Int32.toInt8 (Int64.toInt32 ((x4 &&& (127 : Int64)) ||| (128 : Int64)))))), (.int (Int8.toInt32 (Int32.toInt8 (Int64.toInt32 x5)))), (.int f), (.int f), (.int f), (.int f), (.int f), (.int f), (.int f), (.int f)] := A_49
              refine g_iload C d2_57 (v := (6 : Int32)) rfl (pc' := 59) rfl ?_
              refine g_ret C (v := (.int (6 : Int32))) (ty := .int) rfl rfl (Or.inl ⟨rfl, Or.inl rfl, _, rfl⟩) d2_59 (by decide) (by decide) ?_
              have zk : Jvm.Free.XT.ushrL x5 (7 : Int32) = 0 := (own_m128 _).mp hb_46
              have zz : Jvm.Free.XT.ushrL x (42 : Int32) = 0 := by rw [← own_sh x (ka := 35) (kb := 7) (a := (35 : Int32)) (b := (7 : Int32)) (by decide) (by decide) (by decide), ← y5]; exact zk
              have hn : nlen x = (6 : Int32) := by rw [nlen, if_neg nz1, if_neg nz2, if_neg nz3, if_neg nz4, if_neg nz5, if_pos zz]
              have e0 : expF (0 : Int32) (0 : Int32) (6 : Int32) x f = (Int8.toInt32 (Int32.toInt8 (Int64.toInt32 ((x &&& (127 : Int64)) ||| (128 : Int64))))) := own_e2 (c := (0 : Int32)) (by decide) (by decide) (by decide) (by decide) (own_u0 x)
              have e1 : expF (1 : Int32) (0 : Int32) (6 : Int32) x f = (Int8.toInt32 (Int32.toInt8 (Int64.toInt32 ((x1 &&& (127 : Int64)) ||| (128 : Int64))))) := own_e2 (c := (7 : Int32)) (by decide) (by decide) (by decide) (by decide) y1
              have e2 : expF (2 : Int32) (0 : Int32) (6 : Int32) x f = (Int8.toInt32 (Int32.toInt8 (Int64.toInt32 ((x2 &&& (127 : Int64)) ||| (128 : Int64))))) := own_e2 (c := (14 : Int32)) (by decide) (by decide) (by decide) (by decide) y2
              have e3 : expF (3 : Int32) (0 : Int32) (6 : Int32) x f = (Int8.toInt32 (Int32.toInt8 (Int64.toInt32 ((x3 &&& (127 : Int64)) ||| (128 : Int64))))) := own_e2 (c := (21 : Int32)) (by decide) (by decide) (by decide) (by decide) y3
              have e4 : expF (4 : Int32) (0 : Int32) (6 : Int32) x f = (Int8.toInt32 (Int32.toInt8 (Int64.toInt32 ((x4 &&& (127 : Int64)) ||| (128 : Int64))))) := own_e2 (c := (28 : Int32)) (by decide) (by decide) (by decide) (by decide) y4
              have e5 : expF (5 : Int32) (0 : Int32) (6 : Int32) x f = (Int8.toInt32 (Int32.toInt8 (Int64.toInt32 x5))) := own_e3 (c := (35 : Int32)) (by decide) (by decide) (by decide) (by decide) y5 zk
              have e6 : expF (6 : Int32) (0 : Int32) (6 : Int32) x f = f := own_e1 (by decide) (by decide)
              have e7 : expF (7 : Int32) (0 : Int32) (6 : Int32) x f = f := own_e1 (by decide) (by decide)
              have e8 : expF (8 : Int32) (0 : Int32) (6 : Int32) x f = f := own_e1 (by decide) (by decide)
              have e9 : expF (9 : Int32) (0 : Int32) (6 : Int32) x f = f := own_e1 (by decide) (by decide)
              have e10 : expF (10 : Int32) (0 : Int32) (6 : Int32) x f = f := own_e1 (by decide) (by decide)
              have e11 : expF (11 : Int32) (0 : Int32) (6 : Int32) x f = f := own_e1 (by decide) (by decide)
              have e12 : expF (12 : Int32) (0 : Int32) (6 : Int32) x f = f := own_e1 (by decide) (by decide)
              have e13 : expF (13 : Int32) (0 : Int32) (6 : Int32) x f = f := own_e1 (by decide) (by decide)
              rw [hn]
              exact ⟨rfl, (((((((Keep.refl h0 [a1]).trans K_7 (allS (Or.inl (List.mem_of_getElem? (i := 0) rfl)) all0)).trans K_16 (allS (Or.inl (List.mem_of_getElem? (i := 0) rfl)) all0)).trans K_25 (allS (Or.inl (List.mem_of_getElem? (i := 0) rfl)) all0)).trans K_34 (allS (Or.inl (List.mem_of_getElem? (i := 0) rfl)) all0)).trans K_43 (allS (Or.inl (List.mem_of_getElem? (i := 0) rfl)) all0)).trans K_48 (allS (Or.inl (List.mem_of_getElem? (i := 0) rfl)) all0)), by rw [e0, e1, e2, e3, e4, e5, e6, e7, e8, e9, e10, e11, e12, e13]; exact f_50⟩
            · refine g_if_n C d2_14 (Jvm.Free.XT.ll_eq_f hb_46) (pc' := 17) rfl ?_
              refine g_aload_n C d2_17 (v := (.ref a1)) rfl rfl (pc' := 18) rfl ?_
              refine g_iload C d2_18 (v := (5 : Int32)) rfl (pc' := 20) rfl ?_
              refine g_iinc C d2_20 (v := (5 : Int32)) (w := (6 : Int32)) rfl rfl (L' := #[.val (.ref a1), .val (.int (0 : Int32)), .val (.long x), .second, .val (.int (6 : Int32)), .val (.long x5), .second]) rfl (pc' := 23) rfl ?_
              refine g_lload C d2_23 (v := x5) rfl (pc' := 25) rfl ?_
              refine g_ldc2_w C (v := (127 : Int64)) (own_w hw 14 rfl) d2_25 (pc' := 28) rfl ?_
              refine g_land C (x := x5) (y := (127 : Int64)) d2_28  (pc' := 29) rfl ?_
              refine g_ldc2_w C (v := (128 : Int64)) (own_w hw 15 rfl) d2_29 (pc' := 32) rfl ?_
              refine g_lor C (x := (x5 &&& (127 : Int64))) (y := (128 : Int64)) d2_32  (pc' := 33) rfl ?_
              refine g_l2i C (x := ((x5 &&& (127 : Int64)) ||| (128 : Int64))) d2_33 (pc' := 34) rfl ?_
              refine g_i2b C (x := (Int64.toInt32 ((x5 &&& (127 : Int64)) ||| (128 : Int64)))) d2_34 (pc' := 35) rfl ?_
              refine g_bastoreB C f_45 (by decide) (i := 5) (by decide) (show 5 < 14 by decide) (w := (.int (Int8.toInt32 (Int32.toInt8 (Int64.toInt32 ((x5 &&& (127 : Int64)) ||| (128 : Int64))))))) (congrArg Value.int (own_narb _)) g0 d2_35 (pc' := 36) rfl ?_
              intro h_51 K_52 A_53
              have f_54 : Ary Z h_51 a1 .byte [(.int (Int8.toInt32 (Int32.toInt8 (Int64.toInt32 ((x &&& (127 : Int64)) ||| (128 : Int64)))))), (.int (Int8.toInt32 (Int32.toInt8 (Int64.toInt32 ((x1 &&& (127 : Int64)) ||| (128 : Int64)))))), (.int (Int8.toInt32 (Int32.toInt8 (Int64.toInt32 ((x2 &&& (127 : Int64)) ||| (128 : Int64)))))), (.int (Int8.toInt32 (Int32.toInt8 (Int64.toInt32 ((x3 &&& (127 : Int64)) ||| (128 : Int64)))))), (.int (Int8.toInt32 (Int32.toInt8 (Int64.toInt32 ((x4 &&& (127 : Int64)) ||| (128 : Int64)))))), (.int (Int8.toInt32 (Int32.toInt8 (Int64.toInt32 ((x5 &&& (127 : Int64)) ||| (128 : Int64)))))), (.int f), (.int f), (.int f), (.int f), (.int f), (.int f), (.int f), (.int f)] := A_53
              refine g_lload C d2_36 (v := x5) rfl (pc' := 38) rfl ?_
              refine g_bipush C d2_38 (v := (7 : Int32)) rfl (pc' := 40) rfl ?_
              refine g_lushr C (x := x5) (y := (7 : Int32)) d2_40  (pc' := 41) rfl ?_
              obtain ⟨x6, hx6⟩ : ∃ z : Int64, z = (Jvm.Free.XT.ushrL x5 (7 : Int32)) := ⟨_, rfl⟩
              rw [← hx6]
              have y6 : x6 = Jvm.Free.XT.ushrL x (42 : Int32) := by rw [hx6, y5]; exact own_sh x (ka := 35) (kb := 7) (by decide) (by decide) (by decide)
              have nz6 : ¬ Jvm.Free.XT.ushrL x (42 : Int32) = 0 := by rw [← y6, hx6]; exact fun q => hb_46 ((own_m128 _).mpr q)
              refine g_lstore C d2_41 (v := x6) (L' := #[.val (.ref a1), .val (.int (0 : Int32)), .val (.long x), .second, .val (.int (6 : Int32)), .val (.long x6), .second]) rfl (pc' := 43) rfl ?_
              refine g_goto C d2_43 (pc' := 6) (by decide) (by decide) ?_
              refine g_lload C d2_6 (v := x6) rfl (pc' := 8) rfl ?_
              refine g_ldc2_w C (v := (-128 : Int64)) (own_w hw 9 rfl) d2_8 (pc' := 11) rfl ?_
              refine g_land C (x := x6) (y := (-128 : Int64)) d2_11  (pc' := 12) rfl ?_
              refine g_lconst C d2_12 (v := (0 : Int64)) rfl (pc' := 13) rfl ?_
              refine g_lcmp C (x := (x6 &&& (-128 : Int64))) (y := (0 : Int64)) d2_13 (pc' := 14) rfl ?_
              by_cases hb_55 : (x6 &&& (-128 : Int64)) = (0 : Int64)
              · refine g_if_y C d2_14 (Jvm.Free.XT.ll_eq_t hb_55) (pc' := 46) (by decide) (by decide) ?_
                refine g_aload_n C d2_46 (v := (.ref a1)) rfl rfl (pc' := 47) rfl ?_
                refine g_iload C d2_47 (v := (6 : Int32)) rfl (pc' := 49) rfl ?_
                refine g_iinc C d2_49 (v := (6 : Int32)) (w := (7 : Int32)) rfl rfl (L' := #[.val (.ref a1), .val (.int (0 : Int32)), .val (.long x), .second, .val (.int (7 : Int32)), .val (.long x6), .second]) rfl (pc' := 52) rfl ?_
                refine g_lload C d2_52 (v := x6) rfl (pc' := 54) rfl ?_
                refine g_l2i C (x := x6) d2_54 (pc' := 55) rfl ?_
                refine g_i2b C (x := (Int64.toInt32 x6)) d2_55 (pc' := 56) rfl ?_
                refine g_bastoreB C f_54 (by decide) (i := 6) (by decide) (show 6 < 14 by decide) (w := (.int (Int8.toInt32 (Int32.toInt8 (Int64.toInt32 x6))))) (congrArg Value.int (own_narb _)) g0 d2_56 (pc' := 57) rfl ?_
                intro h_56 K_57 A_58
                have f_59 : Ary Z h_56 a1 .byte [(.int (Int8.toInt32 (Int32.toInt8 (Int64.toInt32 ((x &&& (127 : Int64)) ||| (128 : Int64)))))), (.int (Int8.toInt32 (Int32.toInt8 (Int64.toInt32 ((x1 &&& (127 : Int64)) ||| (128 : Int64)))))), (.int (Int8.toInt32 (Int32.toInt8 (Int64.toInt32 ((x2 &&& (127 : Int64)) ||| (128 : Int64)))))), (.int (Int8.toInt32 (Int32.toInt8 (Int64.toInt32 ((x3 &&& (127 : Int64)) ||| (128 : Int64)))))), (.int (Int8.toInt32 (Int32.toInt8 (Int64.toInt32 ((x4 &&& (127 : Int64)) ||| (128 : Int64)))))), (.int (Int8.toInt32 (Int32.toInt8 (Int64.toInt32 ((x5 &&& (127 : Int64)) ||| (128 : Int64)))))), (.int (Int8.toInt32 (Int32.toInt8 (Int64.toInt32 x6)))), (.int f), (.int f), (.int f), (.int f), (.int f), (.int f), (.int f)] := A_58
                refine g_iload C d2_57 (v := (7 : Int32)) rfl (pc' := 59) rfl ?_
                refine g_ret C (v := (.int (7 : Int32))) (ty := .int) rfl rfl (Or.inl ⟨rfl, Or.inl rfl, _, rfl⟩) d2_59 (by decide) (by decide) ?_
                have zk : Jvm.Free.XT.ushrL x6 (7 : Int32) = 0 := (own_m128 _).mp hb_55
                have zz : Jvm.Free.XT.ushrL x (49 : Int32) = 0 := by rw [← own_sh x (ka := 42) (kb := 7) (a := (42 : Int32)) (b := (7 : Int32)) (by decide) (by decide) (by decide), ← y6]; exact zk
                have hn : nlen x = (7 : Int32) := by rw [nlen, if_neg nz1, if_neg nz2, if_neg nz3, if_neg nz4, if_neg nz5, if_neg nz6, if_pos zz]
                have e0 : expF (0 : Int32) (0 : Int32) (7 : Int32) x f = (Int8.toInt32 (Int32.toInt8 (Int64.toInt32 ((x &&& (127 : Int64)) ||| (128 : Int64))))) := own_e2 (c := (0 : Int32)) (by decide) (by decide) (by decide) (by decide) (own_u0 x)
                have e1 : expF (1 : Int32) (0 : Int32) (7 : Int32) x f = (Int8.toInt32 (Int32.toInt8 (Int64.toInt32 ((x1 &&& (127 : Int64)) ||| (128 : Int64))))) := own_e2 (c := (7 : Int32)) (by decide) (by decide) (by decide) (by decide) y1
                have e2 : expF (2 : Int32) (0 : Int32) (7 : Int32) x f = (Int8.toInt32 (Int32.toInt8 (Int64.toInt32 ((x2 &&& (127 : Int64)) ||| (128 : Int64))))) := own_e2 (c := (14 : Int32)) (by decide) (by decide) (by decide) (by decide) y2
                have e3 : expF (3 : Int32) (0 : Int32) (7 : Int32) x f = (Int8.toInt32 (Int32.toInt8 (Int64.toInt32 ((x3 &&& (127 : Int64)) ||| (128 : Int64))))) := own_e2 (c := (21 : Int32)) (by decide) (by decide) (by decide) (by decide) y3
                have e4 : expF (4 : Int32) (0 : Int32) (7 : Int32) x f = (Int8.toInt32 (Int32.toInt8 (Int64.toInt32 ((x4 &&& (127 : Int64)) ||| (128 : Int64))))) := own_e2 (c := (28 : Int32)) (by decide) (by decide) (by decide) (by decide) y4
                have e5 : expF (5 : Int32) (0 : Int32) (7 : Int32) x f = (Int8.toInt32 (Int32.toInt8 (Int64.toInt32 ((x5 &&& (127 : Int64)) ||| (128 : Int64))))) := own_e2 (c := (35 : Int32)) (by decide) (by decide) (by decide) (by decide) y5
                have e6 : expF (6 : Int32) (0 : Int32) (7 : Int32) x f = (Int8.toInt32 (Int32.toInt8 (Int64.toInt32 x6))) := own_e3 (c := (42 : Int32)) (by decide) (by decide) (by decide) (by decide) y6 zk
                have e7 : expF (7 : Int32) (0 : Int32) (7 : Int32) x f = f := own_e1 (by decide) (by decide)
                have e8 : expF (8 : Int32) (0 : Int32) (7 : Int32) x f = f := own_e1 (by decide) (by decide)
                have e9 : expF (9 : Int32) (0 : Int32) (7 : Int32) x f = f := own_e1 (by decide) (by decide)
                have e10 : expF (10 : Int32) (0 : Int32) (7 : Int32) x f = f := own_e1 (by decide) (by decide)
                have e11 : expF (11 : Int32) (0 : Int32) (7 : Int32) x f = f := own_e1 (by decide) (by decide)
                have e12 : expF (12 : Int32) (0 : Int32) (7 : Int32) x f = f := own_e1 (by decide) (by decide)
                have e13 : expF (13 : Int32) (0 : Int32) (7 : Int32) x f = f := own_e1 (by decide) (by decide)
                rw [hn]
                exact ⟨rfl, ((((((((Keep.refl h0 [a1]).trans K_7 (allS (Or.inl (List.mem_of_getElem? (i := 0) rfl)) all0)).trans K_16 (allS (Or.inl (List.mem_of_getElem? (i := 0) rfl)) all0)).trans K_25 (allS (Or.inl (List.mem_of_getElem? (i := 0) rfl)) all0)).trans K_34 (allS (Or.inl (List.mem_of_getElem? (i := 0) rfl)) all0)).trans K_43 (allS (Or.inl (List.mem_of_getElem? (i := 0) rfl)) all0)).trans K_52 (allS (Or.inl (List.mem_of_getElem? (i := 0) rfl)) all0)).trans K_57 (allS (Or.inl (List.mem_of_getElem? (i := 0) rfl)) all0)), by rw [e0, e1, e2, e3, e4, e5, e6, e7, e8, e9, e10, e11, e12, e13]; exact f_59⟩
              · refine g_if_n C d2_14 (Jvm.Free.XT.ll_eq_f hb_55) (pc' := 17) rfl ?_
                refine g_aload_n C d2_17 (v := (.ref a1)) rfl rfl (pc' := 18) rfl ?_
                refine g_iload C d2_18 (v := (6 : Int32)) rfl (pc' := 20) rfl ?_
                refine g_iinc C d2_20 (v := (6 : Int32)) (w := (7 : Int32)) rfl rfl (L' := #[.val (.ref a1), .val (.int (0 : Int32)), .val (.long x), .second, .val (.int (7 : Int32)), .val (.long x6), .second]) rfl (pc' := 23) rfl ?_
                refine g_lload C d2_23 (v := x6) rfl (pc' := 25) rfl ?_
                refine g_ldc2_w C (v := (127 : Int64)) (own_w hw 14 rfl) d2_25 (pc' := 28) rfl ?_
                refine g_land C (x := x6) (y := (127 : Int64)) d2_28  (pc' := 29) rfl ?_
                refine g_ldc2_w C (v := (128 : Int64)) (own_w hw 15 rfl) d2_29 (pc' := 32) rfl ?_
                refine g_lor C (x := (x6 &&& (127 : Int64))) (y := (128 : Int64)) d2_32  (pc' := 33) rfl ?_
                refine g_l2i C (x := ((x6 &&& (127 : Int64)) ||| (128 : Int64))) d2_33 (pc' := 34) rfl ?_
                refine g_i2b C (x := (Int64.toInt32 ((x6 &&& (127 : Int64)) ||| (128 : Int64)))) d2_34 (pc' := 35) rfl ?_
                refine g_bastoreB C f_54 (by decide) (i := 6) (by decide) (show 6 < 14 by decide) (w := (.int (Int8.toInt32 (Int32.toInt8 (Int64.toInt32 ((x6 &&& (127 : Int64)) ||| (128 : Int64))))))) (congrArg Value.int (own_narb _)) g0 d2_35 (pc' := 36) rfl ?_
                intro h_60 K_61 A_62
                have f_63 : Ary Z h_60 a1 .byte [(.int (Int8.toInt32 (Int32.toInt8 (Int64.toInt32 ((x &&& (127 : Int64)) ||| (128 : Int64)))))), (.int (Int8.toInt32 (Int32.toInt8 (Int64.toInt32 ((x1 &&& (127 : Int64)) ||| (128 : Int64)))))), (.int (Int8.toInt32 (Int32.toInt8 (Int64.toInt32 ((x2 &&& (127 : Int64)) ||| (128 : Int64)))))), (.int (Int8.toInt32 (Int32.toInt8 (Int64.toInt32 ((x3 &&& (127 : Int64)) ||| (128 : Int64)))))), (.int (Int8.toInt32 (Int32.toInt8 (Int64.toInt32 ((x4 &&& (127 : Int64)) ||| (128 : Int64)))))), (.int (Int8.toInt32 (Int32.toInt8 (Int64.toInt32 ((x5 &&& (127 : Int64)) ||| (128 : Int64)))))), (.int (Int8.toInt32 (Int32.toInt8 (Int64.toInt32 ((x6 &&& (127 : Int64)) ||| (128 : Int64)))))), (.int f), (.int f), (.int f), (.int f), (.int f), (.int f), (.int f)] := A_62
                refine g_lload C d2_36 (v := x6) rfl (pc' := 38) rfl ?_
                refine g_bipush C d2_38 (v := (7 : Int32)) rfl (pc' := 40) rfl ?_
                refine g_lushr C (x := x6) (y := (7 : Int32)) d2_40  (pc' := 41) rfl ?_
                obtain ⟨x7, hx7⟩ : ∃ z : Int64, z = (Jvm.Free.XT.ushrL x6 (7 : Int32)) := ⟨_, rfl⟩
                rw [← hx7]
                have y7 : x7 = Jvm.Free.XT.ushrL x (49 : Int32) := by rw [hx7, y6]; exact own_sh x (ka := 42) (kb := 7) (by decide) (by decide) (by decide)
                have nz7 : ¬ Jvm.Free.XT.ushrL x (49 : Int32) = 0 := by rw [← y7, hx7]; exact fun q => hb_55 ((own_m128 _).mpr q)
                refine g_lstore C d2_41 (v := x7) (L' := #[.val (.ref a1), .val (.int (0 : Int32)), .val (.long x), .second, .val (.int (7 : Int32)), .val (.long x7), .second]) rfl (pc' := 43) rfl ?_
                refine g_goto C d2_43 (pc' := 6) (by decide) (by decide) ?_
                refine g_lload C d2_6 (v := x7) rfl (pc' := 8) rfl ?_
                refine g_ldc2_w C (v := (-128 : Int64)) (own_w hw 9 rfl) d2_8 (pc' := 11) rfl ?_
                refine g_land C (x := x7) (y := (-128 : Int64)) d2_11  (pc' := 12) rfl ?_
                refine g_lconst C d2_12 (v := (0 : Int64)) rfl (pc' := 13) rfl ?_
                refine g_lcmp C (x := (x7 &&& (-128 : Int64))) (y := (0 : Int64)) d2_13 (pc' := 14) rfl ?_
                by_cases hb_64 : (x7 &&& (-128 : Int64)) = (0 : Int64)
                · refine g_if_y C d2_14 (Jvm.Free.XT.ll_eq_t hb_64) (pc' := 46) (by decide) (by decide) ?_
                  refine g_aload_n C d2_46 (v := (.ref a1)) rfl rfl (pc' := 47) rfl ?_
                  refine g_iload C d2_47 (v := (7 : Int32)) rfl (pc' := 49) rfl ?_
                  refine g_iinc C d2_49 (v := (7 : Int32)) (w := (8 : Int32)) rfl rfl (L' := #[.val (.ref a1), .val (.int (0 : Int32)), .val (.long x), .second, .val (.int (8 : Int32)), .val (.long x7), .second]) rfl (pc' := 52) rfl ?_
                  refine g_lload C d2_52 (v := x7) rfl (pc' := 54) rfl ?_
                  refine g_l2i C (x := x7) d2_54 (pc' := 55) rfl ?_
                  refine g_i2b C (x := (Int64.toInt32 x7)) d2_55 (pc' := 56) rfl ?_
                  refine g_bastoreB C f_63 (by decide) (i := 7) (by decide) (show 7 < 14 by decide) (w := (.int (Int8.toInt32 (Int32.toInt8 (Int64.toInt32 x7))))) (congrArg Value.int (own_narb _)) g0 d2_56 (pc' := 57) rfl ?_
                  intro h_65 K_66 A_67
                  have f_68 : Ary Z h_65 a1 .byte [(.int (Int8.toInt32 (Int32.toInt8 (Int64.toInt32 ((x &&& (127 : Int64)) ||| (128 : Int64)))))), (.int (Int8.toInt32 (Int32.toInt8 (Int64.toInt32 ((x1 &&& (127 : Int64)) ||| (128 : Int64)))))), (.int (Int8.toInt32 (Int32.toInt8 (Int64.toInt32 ((x2 &&& (127 : Int64)) ||| (128 : Int64)))))), (.int (Int8.toInt32 (Int32.toInt8 (Int64.toInt32 ((x3 &&& (127 : Int64)) ||| (128 : Int64)))))), (.int (Int8.toInt32 (Int32.toInt8 (Int64.toInt32 ((x4 &&& (127 : Int64)) ||| (128 : Int64)))))), (.int (Int8.toInt32 (Int32.toInt8 (Int64.toInt32 ((x5 &&& (127 : Int64)) ||| (128 : Int64)))))), (.int (Int8.toInt32 (Int32.toInt8 (Int64.toInt32 ((x6 &&& (127 : Int64)) ||| (128 : Int64)))))), (.int (Int8.toInt32 (Int32.toInt8 (Int64.toInt32 x7)))), (.int f), (.int f), (.int f), (.int f), (.int f), (.int f)] := A_67
                  refine g_iload C d2_57 (v := (8 : Int32)) rfl (pc' := 59) rfl ?_
                  refine g_ret C (v := (.int (8 : Int32))) (ty := .int) rfl rfl (Or.inl ⟨rfl, Or.inl rfl, _, rfl⟩) d2_59 (by decide) (by decide) ?_
                  have zk : Jvm.Free.XT.ushrL x7 (7 : Int32) = 0 := (own_m128 _).mp hb_64
                  have zz : Jvm.Free.XT.ushrL x (56 : Int32) = 0 := by rw [← own_sh x (ka := 49) (kb := 7) (a := (49 : Int32)) (b := (7 : Int32)) (by decide) (by decide) (by decide), ← y7]; exact zk
                  have hn : nlen x = (8 : Int32) := by rw [nlen, if_neg nz1, if_neg nz2, if_neg nz3, if_neg nz4, if_neg nz5, if_neg nz6, if_neg nz7, if_pos zz]
                  have e0 : expF (0 : Int32) (0 : Int32) (8 : Int32) x f = (Int8.toInt32 (Int32.toInt8 (Int64.toInt32 ((x &&& (127 : Int64)) ||| (128 : Int64))))) := own_e2 (c := (0 : Int32)) (by decide) (by decide) (by decide) (by decide) (own_u0 x)
                  have e1 : expF (1 : Int32) (0 : Int32) (8 : Int32) x f = (Int8.toInt32 (Int32.toInt8 (Int64.toInt32 ((x1 &&& (127 : Int64)) ||| (128 : Int64))))) := own_e2 (c := (7 : Int32)) (by decide) (by decide) (by decide) (by decide) y1
                  have e2 : expF (2 : Int32) (0 : Int32) (8 : Int32) x f = (Int8.toInt32 (Int32.toInt8 (Int64.toInt32 ((x2 &&& (127 : Int64)) ||| (128 : Int64))))) := own_e2 (c := (14 : Int32)) (by decide) (by decide) (by decide) (by decide) y2
                  have e3 : expF (3 : Int32) (0 : Int32) (8 : Int32) x f = (Int8.toInt32 (Int32.toInt8 (Int64.toInt32 ((x3 &&& (127 : Int64)) ||| (128 : Int64))))) := own_e2 (c := (21 : Int32)) (by decide) (by decide) (by decide) (by decide) y3
                  have e4 : expF (4 : Int32) (0 : Int32) (8 : Int32) x f = (Int8.toInt32 (Int32.toInt8 (Int64.toInt32 ((x4 &&& (127 : Int64)) ||| (128 : Int64))))) := own_e2 (c := (28 : Int32)) (by decide) (by decide) (by decide) (by decide) y4
                  have e5 : expF (5 : Int32) (0 : Int32) (8 : Int32) x f = (Int8.toInt32 (Int32.toInt8 (Int64.toInt32 ((x5 &&& (127 : Int64)) ||| (128 : Int64))))) := own_e2 (c := (35 : Int32)) (by decide) (by decide) (by decide) (by decide) y5
                  have e6 : expF (6 : Int32) (0 : Int32) (8 : Int32) x f = (Int8.toInt32 (Int32.toInt8 (Int64.toInt32 ((x6 &&& (127 : Int64)) ||| (128 : Int64))))) := own_e2 (c := (42 : Int32)) (by decide) (by decide) (by decide) (by decide) y6
                  have e7 : expF (7 : Int32) (0 : Int32) (8 : Int32) x f = (Int8.toInt32 (Int32.toInt8 (Int64.toInt32 x7))) := own_e3 (c := (49 : Int32)) (by decide) (by decide) (by decide) (by decide) y7 zk
                  have e8 : expF (8 : Int32) (0 : Int32) (8 : Int32) x f = f := own_e1 (by decide) (by decide)
                  have e9 : expF (9 : Int32) (0 : Int32) (8 : Int32) x f = f := own_e1 (by decide) (by decide)
                  have e10 : expF (10 : Int32) (0 : Int32) (8 : Int32) x f = f := own_e1 (by decide) (by decide)
                  have e11 : expF (11 : Int32) (0 : Int32) (8 : Int32) x f = f := own_e1 (by decide) (by decide)
                  have e12 : expF (12 : Int32) (0 : Int32) (8 : Int32) x f = f := own_e1 (by decide) (by decide)
                  have e13 : expF (13 : Int32) (0 : Int32) (8 : Int32) x f = f := own_e1 (by decide) (by decide)
                  rw [hn]
                  exact ⟨rfl, (((((((((Keep.refl h0 [a1]).trans K_7 (allS (Or.inl (List.mem_of_getElem? (i := 0) rfl)) all0)).trans K_16 (allS (Or.inl (List.mem_of_getElem? (i := 0) rfl)) all0)).trans K_25 (allS (Or.inl (List.mem_of_getElem? (i := 0) rfl)) all0)).trans K_34 (allS (Or.inl (List.mem_of_getElem? (i := 0) rfl)) all0)).trans K_43 (allS (Or.inl (List.mem_of_getElem? (i := 0) rfl)) all0)).trans K_52 (allS (Or.inl (List.mem_of_getElem? (i := 0) rfl)) all0)).trans K_61 (allS (Or.inl (List.mem_of_getElem? (i := 0) rfl)) all0)).trans K_66 (allS (Or.inl (List.mem_of_getElem? (i := 0) rfl)) all0)), by rw [e0, e1, e2, e3, e4, e5, e6, e7, e8, e9, e10, e11, e12, e13]; exact f_68⟩
                · refine g_if_n C d2_14 (Jvm.Free.XT.ll_eq_f hb_64) (pc' := 17) rfl ?_
                  refine g_aload_n C d2_17 (v := (.ref a1)) rfl rfl (pc' := 18) rfl ?_
                  refine g_iload C d2_18 (v := (7 : Int32)) rfl (pc' := 20) rfl ?_
                  refine g_iinc C d2_20 (v := (7 : Int32)) (w := (8 : Int32)) rfl rfl (L' := #[.val (.ref a1), .val (.int (0 : Int32)), .val (.long x), .second, .val (.int (8 : Int32)), .val (.long x7), .second]) rfl (pc' := 23) rfl ?_
                  refine g_lload C d2_23 (v := x7) rfl (pc' := 25) rfl ?_
                  refine g_ldc2_w C (v := (127 : Int64)) (own_w hw 14 rfl) d2_25 (pc' := 28) rfl ?_
                  refine g_land C (x := x7) (y := (127 : Int64)) d2_28  (pc' := 29) rfl ?_
                  refine g_ldc2_w C (v := (128 : Int64)) (own_w hw 15 rfl) d2_29 (pc' := 32) rfl ?_
                  refine g_lor C (x := (x7 &&& (127 : Int64))) (y := (128 : Int64)) d2_32  (pc' := 33) rfl ?_
                  refine g_l2i C (x := ((x7 &&& (127 : Int64)) ||| (128 : Int64))) d2_33 (pc' := 34) rfl ?_
                  refine g_i2b C (x := (Int64.toInt32 ((x7 &&& (127 : Int64)) ||| (128 : Int64)))) d2_34 (pc' := 35) rfl ?_
                  refine g_bastoreB C f_63 (by decide) (i := 7) (by decide) (show 7 < 14 by decide) (w := (.int (Int8.toInt32 (Int32.toInt8 (Int64.toInt32 ((x7 &&& (127 : Int64)) ||| (128 : Int64))))))) (congrArg Value.int (own_narb _)) g0 d2_35 (pc' := 36) rfl ?_
                  intro h_69 K_70 A_71
                  have f_72 : Ary Z h_69 a1 .byte [(.int (Int8.toInt32 (Int32.toInt8 (Int64.toInt32 ((x &&& (127 : Int64)) ||| (128 : Int64)))))), (.int (Int8.toInt32 (Int32.toInt8 (Int64.toInt32 ((x1 &&& (127 : Int64)) ||| (128 : Int64)))))), (.int (Int8.toInt32 (Int32.toInt8 (Int64.toInt32 ((x2 &&& (127 : Int64)) ||| (128 : Int64)))))), (.int (Int8.toInt32 (Int32.toInt8 (Int64.toInt32 ((x3 &&& (127 : Int64)) ||| (128 : Int64)))))), (.int (Int8.toInt32 (Int32.toInt8 (Int64.toInt32 ((x4 &&& (127 : Int64)) ||| (128 : Int64)))))), (.int (Int8.toInt32 (Int32.toInt8 (Int64.toInt32 ((x5 &&& (127 : Int64)) ||| (128 : Int64)))))), (.int (Int8.toInt32 (Int32.toInt8 (Int64.toInt32 ((x6 &&& (127 : Int64)) ||| (128 : Int64)))))), (.int (Int8.toInt32 (Int32.toInt8 (Int64.toInt32 ((x7 &&& (127 : Int64)) ||| (128 : Int64)))))), (.int f), (.int f), (.int f), (.int f), (.int f), (.int f)] := A_71
                  refine g_lload C d2_36 (v := x7) rfl (pc' := 38) rfl ?_
                  refine g_bipush C d2_38 (v := (7 : Int32)) rfl (pc' := 40) rfl ?_
                  refine g_lushr C (x := x7) (y := (7 : Int32)) d2_40  (pc' := 41) rfl ?_
                  obtain ⟨x8, hx8⟩ : ∃ z : Int64, z = (Jvm.Free.XT.ushrL x7 (7 : Int32)) := ⟨_, rfl⟩
                  rw [← hx8]
                  have y8 : x8 = Jvm.Free.XT.ushrL x (56 : Int32) := by rw [hx8, y7]; exact own_sh x (ka := 49) (kb := 7) (by decide) (by decide) (by decide)
                  have nz8 : ¬ Jvm.Free.XT.ushrL x (56 : Int32) = 0 := by rw [← y8, hx8]; exact fun q => hb_64 ((own_m128 _).mpr q)
                  refine g_lstore C d2_41 (v := x8) (L' := #[.val (.ref a1), .val (.int (0 : Int32)), .val (.long x), .second, .val (.int (8 : Int32)), .val (.long x8), .second]) rfl (pc' := 43) rfl ?_
                  refine g_goto C d2_43 (pc' := 6) (by decide) (by decide) ?_
                  refine g_lload C d2_6 (v := x8) rfl (pc' := 8) rfl ?_
                  refine g_ldc2_w C (v := (-128 : Int64)) (own_w hw 9 rfl) d2_8 (pc' := 11) rfl ?_
                  refine g_land C (x := x8) (y := (-128 : Int64)) d2_11  (pc' := 12) rfl ?_
                  refine g_lconst C d2_12 (v := (0 : Int64)) rfl (pc' := 13) rfl ?_
                  refine g_lcmp C (x := (x8 &&& (-128 : Int64))) (y := (0 : Int64)) d2_13 (pc' := 14) rfl ?_
                  by_cases hb_73 : (x8 &&& (-128 : Int64)) = (0 : Int64)
                  · refine g_if_y C d2_14 (Jvm.Free.XT.ll_eq_t hb_73) (pc' := 46) (by decide) (by decide) ?_
                    refine g_aload_n C d2_46 (v := (.ref a1)) rfl rfl (pc' := 47) rfl ?_
                    refine g_iload C d2_47 (v := (8 : Int32)) rfl (pc' := 49) rfl ?_
                    refine g_iinc C d2_49 (v := (8 : Int32)) (w := (9 : Int32)) rfl rfl (L' := #[.val (.ref a1), .val (.int (0 : Int32)), .val (.long x), .second, .val (.int (9 : Int32)), .val (.long x8), .second]) rfl (pc' := 52) rfl ?_
                    refine g_lload C d2_52 (v := x8) rfl (pc' := 54) rfl ?_
                    refine g_l2i C (x := x8) d2_54 (pc' := 55) rfl ?_
                    refine g_i2b C (x := (Int64.toInt32 x8)) d2_55 (pc' := 56) rfl ?_
                    refine g_bastoreB C f_72 (by decide) (i := 8) (by decide) (show 8 < 14 by decide) (w := (.int (Int8.toInt32 (Int32.toInt8 (Int64.toInt32 x8))))) (congrArg Value.int (own_narb _)) g0 d2_56 (pc' := 57) rfl ?_
                    intro h_74 K_75 A_76
                    have f_77 : Ary Z h_74 a1 .byte [(.int (Int8.toInt32 (Int32.toInt8 (Int64.toInt32 ((x &&& (127 : Int64)) ||| (128 : Int64)))))), (.int (Int8.toInt32 (Int32.toInt8 (Int64.toInt32 ((x1 &&& (127 : Int64)) ||| (128 : Int64)))))), (.int (Int8.toInt32 (Int32.toInt8 (Int64.toInt32 ((x2 &&& (127 : Int64)) ||| (128 : Int64)))))), (.int (Int8.toInt32 (Int32.toInt8 (Int64.toInt32 ((x3 &&& (127 : Int64)) ||| (128 : Int64)))))), (.int (Int8.toInt32 (Int32.toInt8 (Int64.toInt32 ((x4 &&& (127 : Int64)) ||| (128 : Int64)))))), (.int (Int8.toInt32 (Int32.toInt8 (Int64.toInt32 ((x5 &&& (127 : Int64)) ||| (128 : Int64)))))), (.int (Int8.toInt32 (Int32.toInt8 (Int64.toInt32 ((x6 &&& (127 : Int64)) ||| (128 : Int64)))))), (.int (Int8.toInt32 (Int32.toInt8 (Int64.toInt32 ((x7 &&& (127 : Int64)) ||| (128 : Int64)))))), (.int (Int8.toInt32 (Int32.toInt8 (Int64.toInt32 x8)))), (.int f), (.int f), (.int f), (.int f), (.int f)] := A_76
                    refine g_iload C d2_57 (v := (9 : Int32)) rfl (pc' := 59) rfl ?_
                    refine g_ret C (v := (.int (9 : Int32))) (ty := .int) rfl rfl (Or.inl ⟨rfl, Or.inl rfl, _, rfl⟩) d2_59 (by decide) (by decide) ?_
                    have zk : Jvm.Free.XT.ushrL x8 (7 : Int32) = 0 := (own_m128 _).mp hb_73
                    have zz : Jvm.Free.XT.ushrL x (63 : Int32) = 0 := by rw [← own_sh x (ka := 56) (kb := 7) (a := (56 : Int32)) (b := (7 : Int32)) (by decide) (by decide) (by decide), ← y8]; exact zk
                    have hn : nlen x = (9 : Int32) := by rw [nlen, if_neg nz1, if_neg nz2, if_neg nz3, if_neg nz4, if_neg nz5, if_neg nz6, if_neg nz7, if_neg nz8, if_pos zz]
                    have e0 : expF (0 : Int32) (0 : Int32) (9 : Int32) x f = (Int8.toInt32 (Int32.toInt8 (Int64.toInt32 ((x &&& (127 : Int64)) ||| (128 : Int64))))) := own_e2 (c := (0 : Int32)) (by decide) (by decide) (by decide) (by decide) (own_u0 x)
                    have e1 : expF (1 : Int32) (0 : Int32) (9 : Int32) x f = (Int8.toInt32 (Int32.toInt8 (Int64.toInt32 ((x1 &&& (127 : Int64)) ||| (128 : Int64))))) := own_e2 (c := (7 : Int32)) (by decide) (by decide) (by decide) (by decide) y1
                    have e2 : expF (2 : Int32) (0 : Int32) (9 : Int32) x f = (Int8.toInt32 (Int32.toInt8 (Int64.toInt32 ((x2 &&& (127 : Int64)) ||| (128 : Int64))))) := own_e2 (c := (14 : Int32)) (by decide) (by decide) (by decide) (by decide) y2
                    have e3 : expF (3 : Int32) (0 : Int32) (9 : Int32) x f = (Int8.toInt32 (Int32.toInt8 (Int64.toInt32 ((x3 &&& (127 : Int64)) ||| (128 : Int64))))) := own_e2 (c := (21 : Int32)) (by decide) (by decide) (by decide) (by decide) y3
                    have e4 : expF (4 : Int32) (0 : Int32) (9 : Int32) x f = (Int8.toInt32 (Int32.toInt8 (Int64.toInt32 ((x4 &&& (127 : Int64)) ||| (128 : Int64))))) := own_e2 (c := (28 : Int32)) (by decide) (by decide) (by decide) (by decide) y4
                    have e5 : expF (5 : Int32) (0 : Int32) (9 : Int32) x f = (Int8.toInt32 (Int32.toInt8 (Int64.toInt32 ((x5 &&& (127 : Int64)) ||| (128 : Int64))))) := own_e2 (c := (35 : Int32)) (by decide) (by decide) (by decide) (by decide) y5
                    have e6 : expF (6 : Int32) (0 : Int32) (9 : Int32) x f = (Int8.toInt32 (Int32.toInt8 (Int64.toInt32 ((x6 &&& (127 : Int64)) ||| (128 : Int64))))) := own_e2 (c := (42 : Int32)) (by decide) (by decide) (by decide) (by decide) y6
                    have e7 : expF (7 : Int32) (0 : Int32) (9 : Int32) x f = (Int8.toInt32 (Int32.toInt8 (Int64.toInt32 ((x7 &&& (127 : Int64)) ||| (128 : Int64))))) := own_e2 (c := (49 : Int32)) (by decide) (by decide) (by decide) (by decide) y7
                    have e8 : expF (8 : Int32) (0 : Int32) (9 : Int32) x f = (Int8.toInt32 (Int32.toInt8 (Int64.toInt32 x8))) := own_e3 (c := (56 : Int32)) (by decide) (by decide) (by decide) (by decide) y8 zk
                    have e9 : expF (9 : Int32) (0 : Int32) (9 : Int32) x f = f := own_e1 (by decide) (by decide)
                    have e10 : expF (10 : Int32) (0 : Int32) (9 : Int32) x f = f := own_e1 (by decide) (by decide)
                    have e11 : expF (11 : Int32) (0 : Int32) (9 : Int32) x f = f := own_e1 (by decide) (by decide)
                    have e12 : expF (12 : Int32) (0 : Int32) (9 : Int32) x f = f := own_e1 (by decide) (by decide)
                    have e13 : expF (13 : Int32) (0 : Int32) (9 : Int32) x f = f := own_e1 (by decide) (by decide)
                    rw [hn]
                    exact ⟨rfl, ((((((((((Keep.refl h0 [a1]).trans K_7 (allS (Or.inl (List.mem_of_getElem? (i := 0) rfl)) all0)).trans K_16 (allS (Or.inl (List.mem_of_getElem? (i := 0) rfl)) all0)).trans K_25 (allS (Or.inl (List.mem_of_getElem? (i := 0) rfl)) all0)).trans K_34 (allS (Or.inl (List.mem_of_getElem? (i := 0) rfl)) all0)).trans K_43 (allS (Or.inl (List.mem_of_getElem? (i := 0) rfl)) all0)).trans K_52 (allS (Or.inl (List.mem_of_getElem? (i := 0) rfl)) all0)).trans K_61 (allS (Or.inl (List.mem_of_getElem? (i := 0) rfl)) all0)).trans K_70 (allS (Or.inl (List.mem_of_getElem? (i := 0) rfl)) all0)).trans K_75 (allS (Or.inl (List.mem_of_getElem? (i := 0) rfl)) all0)), by rw [e0, e1, e2, e3, e4, e5, e6, e7, e8, e9, e10, e11, e12, e13]; exact f_77⟩
                  · refine g_if_n C d2_14 (Jvm.Free.XT.ll_eq_f hb_73) (pc' := 17) rfl ?_
                    refine g_aload_n C d2_17 (v := (.ref a1)) rfl rfl (pc' := 18) rfl ?_
                    refine g_iload C d2_18 (v := (8 : Int32)) rfl (pc' := 20) rfl ?_
                    refine g_iinc C d2_20 (v := (8 : Int32)) (w := (9 : Int32)) rfl rfl (L' := #[.val (.ref a1), .val (.int (0 : Int32)), .val (.long x), .second, .val (.int (9 : Int32)), .val (.long x8), .second]) rfl (pc' := 23) rfl ?_
                    refine g_lload C d2_23 (v := x8) rfl (pc' := 25) rfl ?_
                    refine g_ldc2_w C (v := (127 : Int64)) (own_w hw 14 rfl) d2_25 (pc' := 28) rfl ?_
                    refine g_land C (x := x8) (y := (127 : Int64)) d2_28  (pc' := 29) rfl ?_
                    refine g_ldc2_w C (v := (128 : Int64)) (own_w hw 15 rfl) d2_29 (pc' := 32) rfl ?_
                    refine g_lor C (x := (x8 &&& (127 : Int64))) (y := (128 : Int64)) d2_32  (pc' := 33) rfl ?_
                    refine g_l2i C (x := ((x8 &&& (127 : Int64)) ||| (128 : Int64))) d2_33 (pc' := 34) rfl ?_
                    refine g_i2b C (x := (Int64.toInt32 ((x8 &&& (127 : Int64)) ||| (128 : Int64)))) d2_34 (pc' := 35) rfl ?_
                    refine g_bastoreB C f_72 (by decide) (i := 8) (by decide) (show 8 < 14 by decide) (w := (.int (Int8.toInt32 (Int32.toInt8 (Int64.toInt32 ((x8 &&& (127 : Int64)) ||| (128 : Int64))))))) (congrArg Value.int (own_narb _)) g0 d2_35 (pc' := 36) rfl ?_
                    intro h_78 K_79 A_80
                    have f_81 : Ary Z h_78 a1 .byte [(.int (Int8.toInt32 (Int32.toInt8 (Int64.toInt32 ((x &&& (127 : Int64)) ||| (128 : Int64)))))), (.int (Int8.toInt32 (Int32.toInt8 (Int64.toInt32 ((x1 &&& (127 : Int64)) ||| (128 : Int64)))))), (.int (Int8.toInt32 (Int32.toInt8 (Int64.toInt32 ((x2 &&& (127 : Int64)) ||| (128 : Int64)))))), (.int (Int8.toInt32 (Int32.toInt8 (Int64.toInt32 ((x3 &&& (127 : Int64)) ||| (128 : Int64)))))), (.int (Int8.toInt32 (Int32.toInt8 (Int64.toInt32 ((x4 &&& (127 : Int64)) ||| (128 : Int64)))))), (.int (Int8.toInt32 (Int32.toInt8 (Int64.toInt32 ((x5 &&& (127 : Int64)) ||| (128 : Int64)))))), (.int (Int8.toInt32 (Int32.toInt8 (Int64.toInt32 ((x6 &&& (127 : Int64)) ||| (128 : Int64)))))), (.int (Int8.toInt32 (Int32.toInt8 (Int64.toInt32 ((x7 &&& (127 : Int64)) ||| (128 : Int64)))))), (.int (Int8.toInt32 (Int32.toInt8 (Int64.toInt32 ((x8 &&& (127 : Int64)) ||| (128 : Int64)))))), (.int f), (.int f), (.int f), (.int f), (.int f)] := A_80
                    refine g_lload C d2_36 (v := x8) rfl (pc' := 38) rfl ?_
                    refine g_bipush C d2_38 (v := (7 : Int32)) rfl (pc' := 40) rfl ?_
                    refine g_lushr C (x := x8) (y := (7 : Int32)) d2_40  (pc' := 41) rfl ?_
                    obtain ⟨x9, hx9⟩ : ∃ z : Int64, z = (Jvm.Free.XT.ushrL x8 (7 : Int32)) := ⟨_, rfl⟩
                    rw [← hx9]
                    have y9 : x9 = Jvm.Free.XT.ushrL x (63 : Int32) := by rw [hx9, y8]; exact own_sh x (ka := 56) (kb := 7) (by decide) (by decide) (by decide)
                    have nz9 : ¬ Jvm.Free.XT.ushrL x (63 : Int32) = 0 := by rw [← y9, hx9]; exact fun q => hb_73 ((own_m128 _).mpr q)
                    refine g_lstore C d2_41 (v := x9) (L' := #[.val (.ref a1), .val (.int (0 : Int32)), .val (.long x), .second, .val (.int (9 : Int32)), .val (.long x9), .second]) rfl (pc' := 43) rfl ?_
                    refine g_goto C d2_43 (pc' := 6) (by decide) (by decide) ?_
                    refine g_lload C d2_6 (v := x9) rfl (pc' := 8) rfl ?_
                    refine g_ldc2_w C (v := (-128 : Int64)) (own_w hw 9 rfl) d2_8 (pc' := 11) rfl ?_
                    refine g_land C (x := x9) (y := (-128 : Int64)) d2_11  (pc' := 12) rfl ?_
                    refine g_lconst C d2_12 (v := (0 : Int64)) rfl (pc' := 13) rfl ?_
                    refine g_lcmp C (x := (x9 &&& (-128 : Int64))) (y := (0 : Int64)) d2_13 (pc' := 14) rfl ?_
                    refine g_if_y C d2_14 (Jvm.Free.XT.ll_eq_t ((own_m128 _).mpr (by rw [y9]; exact own_zero x))) (pc' := 46) (by decide) (by decide) ?_
                    refine g_aload_n C d2_46 (v := (.ref a1)) rfl rfl (pc' := 47) rfl ?_
                    refine g_iload C d2_47 (v := (9 : Int32)) rfl (pc' := 49) rfl ?_
                    refine g_iinc C d2_49 (v := (9 : Int32)) (w := (10 : Int32)) rfl rfl (L' := #[.val (.ref a1), .val (.int (0 : Int32)), .val (.long x), .second, .val (.int (10 : Int32)), .val (.long x9), .second]) rfl (pc' := 52) rfl ?_
                    refine g_lload C d2_52 (v := x9) rfl (pc' := 54) rfl ?_
                    refine g_l2i C (x := x9) d2_54 (pc' := 55) rfl ?_
                    refine g_i2b C (x := (Int64.toInt32 x9)) d2_55 (pc' := 56) rfl ?_
                    refine g_bastoreB C f_81 (by decide) (i := 9) (by decide) (show 9 < 14 by decide) (w := (.int (Int8.toInt32 (Int32.toInt8 (Int64.toInt32 x9))))) (congrArg Value.int (own_narb _)) g0 d2_56 (pc' := 57) rfl ?_
                    intro h_82 K_83 A_84
                    have f_85 : Ary Z h_82 a1 .byte [(.int (Int8.toInt32 (Int32.toInt8 (Int64.toInt32 ((x &&& (127 : Int64)) ||| (128 : Int64)))))), (.int (Int8.toInt32 (Int32.toInt8 (Int64.toInt32 ((x1 &&& (127 : Int64)) ||| (128 : Int64)))))), (.int (Int8.toInt32 (Int32.toInt8 (Int64.toInt32 ((x2 &&& (127 : Int64)) ||| (128 : Int64)))))), (.int (Int8.toInt32 (Int32.toInt8 (Int64.toInt32 ((x3 &&& (127 : Int64)) ||| (128 : Int64)))))), (.int (Int8.toInt32 (Int32.toInt8 (Int64.toInt32 ((x4 &&& (127 : Int64)) ||| (128 : Int64)))))), (.int (Int8.toInt32 (Int32.toInt8 (Int64.toInt32 ((x5 &&& (127 : Int64)) ||| (128 : Int64)))))), (.int (Int8.toInt32 (Int32.toInt8 (Int64.toInt32 ((x6 &&& (127 : Int64)) ||| (128 : Int64)))))), (.int (Int8.toInt32 (Int32.toInt8 (Int64.toInt32 ((x7 &&& (127 : Int64)) ||| (128 : Int64)))))), (.int (Int8.toInt32 (Int32.toInt8 (Int64.toInt32 ((x8 &&& (127 : Int64)) ||| (128 : Int64)))))), (.int (Int8.toInt32 (Int32.toInt8 (Int64.toInt32 x9)))), (.int f), (.int f), (.int f), (.int f)] := A_84
                    refine g_iload C d2_57 (v := (10 : Int32)) rfl (pc' := 59) rfl ?_
                    refine g_ret C (v := (.int (10 : Int32))) (ty := .int) rfl rfl (Or.inl ⟨rfl, Or.inl rfl, _, rfl⟩) d2_59 (by decide) (by decide) ?_
                    have zk : Jvm.Free.XT.ushrL x9 (7 : Int32) = 0 := by rw [y9]; exact own_zero x
                    have hn : nlen x = (10 : Int32) := by rw [nlen, if_neg nz1, if_neg nz2, if_neg nz3, if_neg nz4, if_neg nz5, if_neg nz6, if_neg nz7, if_neg nz8, if_neg nz9]
                    have e0 : expF (0 : Int32) (0 : Int32) (10 : Int32) x f = (Int8.toInt32 (Int32.toInt8 (Int64.toInt32 ((x &&& (127 : Int64)) ||| (128 : Int64))))) := own_e2 (c := (0 : Int32)) (by decide) (by decide) (by decide) (by decide) (own_u0 x)
                    have e1 : expF (1 : Int32) (0 : Int32) (10 : Int32) x f = (Int8.toInt32 (Int32.toInt8 (Int64.toInt32 ((x1 &&& (127 : Int64)) ||| (128 : Int64))))) := own_e2 (c := (7 : Int32)) (by decide) (by decide) (by decide) (by decide) y1
                    have e2 : expF (2 : Int32) (0 : Int32) (10 : Int32) x f = (Int8.toInt32 (Int32.toInt8 (Int64.toInt32 ((x2 &&& (127 : Int64)) ||| (128 : Int64))))) := own_e2 (c := (14 : Int32)) (by decide) (by decide) (by decide) (by decide) y2
                    have e3 : expF (3 : Int32) (0 : Int32) (10 : Int32) x f = (Int8.toInt32 (Int32.toInt8 (Int64.toInt32 ((x3 &&& (127 : Int64)) ||| (128 : Int64))))) := own_e2 (c := (21 : Int32)) (by decide) (by decide) (by decide) (by decide) y3
                    have e4 : expF (4 : Int32) (0 : Int32) (10 : Int32) x f = (Int8.toInt32 (Int32.toInt8 (Int64.toInt32 ((x4 &&& (127 : Int64)) ||| (128 : Int64))))) := own_e2 (c := (28 : Int32)) (by decide) (by decide) (by decide) (by decide) y4
                    have e5 : expF (5 : Int32) (0 : Int32) (10 : Int32) x f = (Int8.toInt32 (Int32.toInt8 (Int64.toInt32 ((x5 &&& (127 : Int64)) ||| (128 : Int64))))) := own_e2 (c := (35 : Int32)) (by decide) (by decide) (by decide) (by decide) y5
                    have e6 : expF (6 : Int32) (0 : Int32) (10 : Int32) x f = (Int8.toInt32 (Int32.toInt8 (Int64.toInt32 ((x6 &&& (127 : Int64)) ||| (128 : Int64))))) := own_e2 (c := (42 : Int32)) (by decide) (by decide) (by decide) (by decide) y6
                    have e7 : expF (7 : Int32) (0 : Int32) (10 : Int32) x f = (Int8.toInt32 (Int32.toInt8 (Int64.toInt32 ((x7 &&& (127 : Int64)) ||| (128 : Int64))))) := own_e2 (c := (49 : Int32)) (by decide) (by decide) (by decide) (by decide) y7
                    have e8 : expF (8 : Int32) (0 : Int32) (10 : Int32) x f = (Int8.toInt32 (Int32.toInt8 (Int64.toInt32 ((x8 &&& (127 : Int64)) ||| (128 : Int64))))) := own_e2 (c := (56 : Int32)) (by decide) (by decide) (by decide) (by decide) y8
                    have e9 : expF (9 : Int32) (0 : Int32) (10 : Int32) x f = (Int8.toInt32 (Int32.toInt8 (Int64.toInt32 x9))) := own_e3 (c := (63 : Int32)) (by decide) (by decide) (by decide) (by decide) y9 zk
                    have e10 : expF (10 : Int32) (0 : Int32) (10 : Int32) x f = f := own_e1 (by decide) (by decide)
                    have e11 : expF (11 : Int32) (0 : Int32) (10 : Int32) x f = f := own_e1 (by decide) (by decide)
                    have e12 : expF (12 : Int32) (0 : Int32) (10 : Int32) x f = f := own_e1 (by decide) (by decide)
                    have e13 : expF (13 : Int32) (0 : Int32) (10 : Int32) x f = f := own_e1 (by decide) (by decide)
                    rw [hn]
                    exact ⟨rfl, (((((((((((Keep.refl h0 [a1]).trans K_7 (allS (Or.inl (List.mem_of_getElem? (i := 0) rfl)) all0)).trans K_16 (allS (Or.inl (List.mem_of_getElem? (i := 0) rfl)) all0)).trans K_25 (allS (Or.inl (List.mem_of_getElem? (i := 0) rfl)) all0)).trans K_34 (allS (Or.inl (List.mem_of_getElem? (i := 0) rfl)) all0)).trans K_43 (allS (Or.inl (List.mem_of_getElem? (i := 0) rfl)) all0)).trans K_52 (allS (Or.inl (List.mem_of_getElem? (i := 0) rfl)) all0)).trans K_61 (allS (Or.inl (List.mem_of_getElem? (i := 0) rfl)) all0)).trans K_70 (allS (Or.inl (List.mem_of_getElem? (i := 0) rfl)) all0)).trans K_79 (allS (Or.inl (List.mem_of_getElem? (i := 0) rfl)) all0)).trans K_83 (allS (Or.inl (List.mem_of_getElem? (i := 0) rfl)) all0)), by rw [e0, e1, e2, e3, e4, e5, e6, e7, e8, e9, e10, e11, e12, e13]; exact f_85⟩
set_option maxRecDepth 65536 in
set_option maxHeartbeats 40000000 in
theorem rm_put1 (l : Launch) (Z : State) (a0 : Array Value) (hw : ∀ d ∈ tables_1, d.before a0 Z = true) (n0 : Nat) (a1 : Addr) (x : Int64) (f : Int32) (h0 : Heap) (Z0 : n0 ≤ h0.size) (F1 : Ary Z h0 a1 .byte [.int f, .int f, .int f, .int f, .int f, .int f, .int f, .int f, .int f, .int f, .int f, .int f, .int f, .int f]) (g0 : n0 ≤ a1) :
    Met1 l Z (⟨"com/example/wirefield/wirefield/WireFormat", "putVarint", "([BIJ)I"⟩ : MethodName) prog_75_method_10_code 7 (some .int) ({ frames := 0, cells := 0, slots := 0, locals := 0 } : Room) n0 #[(.ref a1), (.int (1 : Int32)), (.long x)] h0 (fun v h => v = some (.int ((1 : Int32) + (nlen x))) ∧ Keep h0 h [a1] ∧ Ary Z h a1 .byte [.int (expF (0 : Int32) (1 : Int32) (nlen x) x f), .int (expF (1 : Int32) (1 : Int32) (nlen x) x f), .int (expF (2 : Int32) (1 : Int32) (nlen x) x f), .int (expF (3 : Int32) (1 : Int32) (nlen x) x f), .int (expF (4 : Int32) (1 : Int32) (nlen x) x f), .int (expF (5 : Int32) (1 : Int32) (nlen x) x f), .int (expF (6 : Int32) (1 : Int32) (nlen x) x f), .int (expF (7 : Int32) (1 : Int32) (nlen x) x f), .int (expF (8 : Int32) (1 : Int32) (nlen x) x f), .int (expF (9 : Int32) (1 : Int32) (nlen x) x f), .int (expF (10 : Int32) (1 : Int32) (nlen x) x f), .int (expF (11 : Int32) (1 : Int32) (nlen x) x f), .int (expF (12 : Int32) (1 : Int32) (nlen x) x f), .int (expF (13 : Int32) (1 : Int32) (nlen x) x f)]) := by
  refine met_of (plainFor_of_name own_pn_com_example_wirefield_wirefield_WireFormat) (L0 := #[.val (.ref a1), .val (.int (1 : Int32)), .val (.long x), .second, .unset, .unset, .unset]) (by first | rfl | (simp [argsToLocals, Value.category]; done)) ?_
  intro B C
  change Ctx B l _ _ "com/example/wirefield/wirefield/WireFormat" "putVarint" _ _ Z at C
  refine g_iload_n C d2_0 (v := (1 : Int32)) rfl (pc' := 1) rfl ?_
  refine g_istore C d2_1 (v := (1 : Int32)) (L' := #[.val (.ref a1), .val (.int (1 : Int32)), .val (.long x), .second, .val (.int (1 : Int32)), .unset, .unset]) rfl (pc' := 3) rfl ?_
  refine g_lload_n C d2_3 (v := x) rfl (pc' := 4) rfl ?_
  refine g_lstore C d2_4 (v := x) (L' := #[.val (.ref a1), .val (.int (1 : Int32)), .val (.long x), .second, .val (.int (1 : Int32)), .val (.long x), .second]) rfl (pc' := 6) rfl ?_
  refine g_lload C d2_6 (v := x) rfl (pc' := 8) rfl ?_
  refine g_ldc2_w C (v := (-128 : Int64)) (own_w hw 9 rfl) d2_8 (pc' := 11) rfl ?_
  refine g_land C (x := x) (y := (-128 : Int64)) d2_11  (pc' := 12) rfl ?_
  refine g_lconst C d2_12 (v := (0 : Int64)) rfl (pc' := 13) rfl ?_
  refine g_lcmp C (x := (x &&& (-128 : Int64))) (y := (0 : Int64)) d2_13 (pc' := 14) rfl ?_
  by_cases hb_1 : (x &&& (-128 : Int64)) = (0 : Int64)
  · refine g_if_y C d2_14 (Jvm.Free.XT.ll_eq_t hb_1) (pc' := 46) (by decide) (by decide) ?_
    refine g_aload_n C d2_46 (v := (.ref a1)) rfl rfl (pc' := 47) rfl ?_
    refine g_iload C d2_47 (v := (1 : Int32)) rfl (pc' := 49) rfl ?_
    refine g_iinc C d2_49 (v := (1 : Int32)) (w := (2 : Int32)) rfl rfl (L' := #[.val (.ref a1), .val (.int (1 : Int32)), .val (.long x), .second, .val (.int (2 : Int32)), .val (.long x), .second]) rfl (pc' := 52) rfl ?_
    refine g_lload C d2_52 (v := x) rfl (pc' := 54) rfl ?_
    refine g_l2i C (x := x) d2_54 (pc' := 55) rfl ?_
    refine g_i2b C (x := (Int64.toInt32 x)) d2_55 (pc' := 56) rfl ?_
    refine g_bastoreB C F1 (by decide) (i := 1) (by decide) (show 1 < 14 by decide) (w := (.int (Int8.toInt32 (Int32.toInt8 (Int64.toInt32 x))))) (congrArg Value.int (own_narb _)) g0 d2_56 (pc' := 57) rfl ?_
    intro h_2 K_3 A_4
    have f_5 : Ary Z h_2 a1 .byte [(.int f), (.int (Int8.toInt32 (Int32.toInt8 (Int64.toInt32 x)))), (.int f), (.int f), (.int f), (.int f), (.int f), (.int f), (.int f), (.int f), (.int f), (.int f), (.int f), (.int f)] := A_4
    refine g_iload C d2_57 (v := (2 : Int32)) rfl (pc' := 59) rfl ?_
    refine g_ret C (v := (.int (2 : Int32))) (ty := .int) rfl rfl (Or.inl ⟨rfl, Or.inl rfl, _, rfl⟩) d2_59 (by decide) (by decide) ?_
    have zk : Jvm.Free.XT.ushrL x (7 : Int32) = 0 := (own_m128 _).mp hb_1
    have zz : Jvm.Free.XT.ushrL x (7 : Int32) = 0 := zk
    have hn : nlen x = (1 : Int32) := by rw [nlen, if_pos zz]
    have e0 : expF (0 : Int32) (1 : Int32) (1 : Int32) x f = f := own_e0 (by decide)
    have e1 : expF (1 : Int32) (1 : Int32) (1 : Int32) x f = (Int8.toInt32 (Int32.toInt8 (Int64.toInt32 x))) := own_e3 (c := (0 : Int32)) (by decide) (by decide) (by decide) (by decide) (own_u0 x) zk
    have e2 : expF (2 : Int32) (1 : Int32) (1 : Int32) x f = f := own_e1 (by decide) (by decide)
    have e3 : expF (3 : Int32) (1 : Int32) (1 : Int32) x f = f := own_e1 (by decide) (by decide)
    have e4 : expF (4 : Int32) (1 : Int32) (1 : Int32) x f = f := own_e1 (by decide) (by decide)
    have e5 : expF (5 : Int32) (1 : Int32) (1 : Int32) x f = f := own_e1 (by decide) (by decide)
    have e6 : expF (6 : Int32) (1 : Int32) (1 : Int32) x f = f := own_e1 (by decide) (by decide)
    have e7 : expF (7 : Int32) (1 : Int32) (1 : Int32) x f = f := own_e1 (by decide) (by decide)
    have e8 : expF (8 : Int32) (1 : Int32) (1 : Int32) x f = f := own_e1 (by decide) (by decide)
    have e9 : expF (9 : Int32) (1 : Int32) (1 : Int32) x f = f := own_e1 (by decide) (by decide)
    have e10 : expF (10 : Int32) (1 : Int32) (1 : Int32) x f = f := own_e1 (by decide) (by decide)
    have e11 : expF (11 : Int32) (1 : Int32) (1 : Int32) x f = f := own_e1 (by decide) (by decide)
    have e12 : expF (12 : Int32) (1 : Int32) (1 : Int32) x f = f := own_e1 (by decide) (by decide)
    have e13 : expF (13 : Int32) (1 : Int32) (1 : Int32) x f = f := own_e1 (by decide) (by decide)
    rw [hn]
    exact ⟨rfl, ((Keep.refl h0 [a1]).trans K_3 (allS (Or.inl (List.mem_of_getElem? (i := 0) rfl)) all0)), by rw [e0, e1, e2, e3, e4, e5, e6, e7, e8, e9, e10, e11, e12, e13]; exact f_5⟩
  · refine g_if_n C d2_14 (Jvm.Free.XT.ll_eq_f hb_1) (pc' := 17) rfl ?_
    refine g_aload_n C d2_17 (v := (.ref a1)) rfl rfl (pc' := 18) rfl ?_
    refine g_iload C d2_18 (v := (1 : Int32)) rfl (pc' := 20) rfl ?_
    refine g_iinc C d2_20 (v := (1 : Int32)) (w := (2 : Int32)) rfl rfl (L' := #[.val (.ref a1), .val (.int (1 : Int32)), .val (.long x), .second, .val (.int (2 : Int32)), .val (.long x), .second]) rfl (pc' := 23) rfl ?_
    refine g_lload C d2_23 (v := x) rfl (pc' := 25) rfl ?_
    refine g_ldc2_w C (v := (127 : Int64)) (own_w hw 14 rfl) d2_25 (pc' := 28) rfl ?_
    refine g_land C (x := x) (y := (127 : Int64)) d2_28  (pc' := 29) rfl ?_
    refine g_ldc2_w C (v := (128 : Int64)) (own_w hw 15 rfl) d2_29 (pc' := 32) rfl ?_
    refine g_lor C (x := (x &&& (127 : Int64))) (y := (128 : Int64)) d2_32  (pc' := 33) rfl ?_
    refine g_l2i C (x := ((x &&& (127 : Int64)) ||| (128 : Int64))) d2_33 (pc' := 34) rfl ?_
    refine g_i2b C (x := (Int64.toInt32 ((x &&& (127 : Int64)) ||| (128 : Int64)))) d2_34 (pc' := 35) rfl ?_
    refine g_bastoreB C F1 (by decide) (i := 1) (by decide) (show 1 < 14 by decide) (w := (.int (Int8.toInt32 (Int32.toInt8 (Int64.toInt32 ((x &&& (127 : Int64)) ||| (128 : Int64))))))) (congrArg Value.int (own_narb _)) g0 d2_35 (pc' := 36) rfl ?_
    intro h_6 K_7 A_8
    have f_9 : Ary Z h_6 a1 .byte [(.int f), (.int (Int8.toInt32 (Int32.toInt8 (Int64.toInt32 ((x &&& (127 : Int64)) ||| (128 : Int64)))))), (.int f), (.int f), (.int f), (.int f), (.int f), (.int f), (.int f), (.int f), (.int f), (.int f), (.int f), (.int f)] := A_8
    refine g_lload C d2_36 (v := x) rfl (pc' := 38) rfl ?_
    refine g_bipush C d2_38 (v := (7 : Int32)) rfl (pc' := 40) rfl ?_
    refine g_lushr C (x := x) (y := (7 : Int32)) d2_40  (pc' := 41) rfl ?_
    obtain ⟨x1, hx1⟩ : ∃ z : Int64, z = (Jvm.Free.XT.ushrL x (7 : Int32)) := ⟨_, rfl⟩
    rw [← hx1]
    have y1 : x1 = Jvm.Free.XT.ushrL x (7 : Int32) := hx1
    have nz1 : ¬ Jvm.Free.XT.ushrL x (7 : Int32) = 0 := by rw [← y1, hx1]; exact fun q => hb_1 ((own_m128 _).mpr q)
    refine g_lstore C d2_41 (v := x1) (L' := #[.val (.ref a1), .val (.int (1 : Int32)), .val (.long x), .second, .val (.int (2 : Int32)), .val (.long x1), .second]) rfl (pc' := 43) rfl ?_
    refine g_goto C d2_43 (pc' := 6) (by decide) (by decide) ?_
    refine g_lload C d2_6 (v := x1) rfl (pc' := 8) rfl ?_
    refine g_ldc2_w C (v := (-128 : Int64)) (own_w hw 9 rfl) d2_8 (pc' := 11) rfl ?_
    refine g_land C (x := x1) (y := (-128 : Int64)) d2_11  (pc' := 12) rfl ?_
    refine g_lconst C d2_12 (v := (0 : Int64)) rfl (pc' := 13) rfl ?_
    refine g_lcmp C (x := (x1 &&& (-128 : Int64))) (y := (0 : Int64)) d2_13 (pc' := 14) rfl ?_
    by_cases hb_10 : (x1 &&& (-128 : Int64)) = (0 : Int64)
    · refine g_if_y C d2_14 (Jvm.Free.XT.ll_eq_t hb_10) (pc' := 46) (by decide) (by decide) ?_
      refine g_aload_n C d2_46 (v := (.ref a1)) rfl rfl (pc' := 47) rfl ?_
      refine g_iload C d2_47 (v := (2 : Int32)) rfl (pc' := 49) rfl ?_
      refine g_iinc C d2_49 (v := (2 : Int32)) (w := (3 : Int32)) rfl rfl (L' := #[.val (.ref a1), .val (.int (1 : Int32)), .val (.long x), .second, .val (.int (3 : Int32)), .val (.long x1), .second]) rfl (pc' := 52) rfl ?_
      refine g_lload C d2_52 (v := x1) rfl (pc' := 54) rfl ?_
      refine g_l2i C (x := x1) d2_54 (pc' := 55) rfl ?_
      refine g_i2b C (x := (Int64.toInt32 x1)) d2_55 (pc' := 56) rfl ?_
      refine g_bastoreB C f_9 (by decide) (i := 2) (by decide) (show 2 < 14 by decide) (w := (.int (Int8.toInt32 (Int32.toInt8 (Int64.toInt32 x1))))) (congrArg Value.int (own_narb _)) g0 d2_56 (pc' := 57) rfl ?_
      intro h_11 K_12 A_13
      have f_14 : Ary Z h_11 a1 .byte [(.int f), (.int (Int8.toInt32 (Int32.toInt8 (Int64.toInt32 ((x &&& (127 : Int64)) ||| (128 : Int64)))))), (.int (Int8.toInt32 (Int32.toInt8 (Int64.toInt32 x1)))), (.int f), (.int f), (.int f), (.int f), (.int f), (.int f), (.int f), (.int f), (.int f), (.int f), (.int f)] := A_13
      refine g_iload C d2_57 (v := (3 : Int32)) rfl (pc' := 59) rfl ?_
      refine g_ret C (v := (.int (3 : Int32))) (ty := .int) rfl rfl (Or.inl ⟨rfl, Or.inl rfl, _, rfl⟩) d2_59 (by decide) (by decide) ?_
      have zk : Jvm.Free.XT.ushrL x1 (7 : Int32) = 0 := (own_m128 _).mp hb_10
      have zz : Jvm.Free.XT.ushrL x (14 : Int32) = 0 := by rw [← own_sh x (ka := 7) (kb := 7) (a := (7 : Int32)) (b := (7 : Int32)) (by decide) (by decide) (by decide), ← y1]; exact zk
      have hn : nlen x = (2 : Int32) := by rw [nlen, if_neg nz1, if_pos zz]
      have e0 : expF (0 : Int32) (1 : Int32) (2 : Int32) x f = f := own_e0 (by decide)
      have e1 : expF (1 : Int32) (1 : Int32) (2 : Int32) x f = (Int8.toInt32 (Int32.toInt8 (Int64.toInt32 ((x &&& (127 : Int64)) ||| (128 : Int64))))) := own_e2 (c := (0 : Int32)) (by decide) (by decide) (by decide) (by decide) (own_u0 x)
      have e2 : expF (2 : Int32) (1 : Int32) (2 : Int32) x f = (Int8.toInt32 (Int32.toInt8 (Int64.toInt32 x1))) := own_e3 (c := (7 : Int32)) (by decide) (by decide) (by decide) (by decide) y1 zk
      have e3 : expF (3 : Int32) (1 : Int32) (2 : Int32) x f = f := own_e1 (by decide) (by decide)
      have e4 : expF (4 : Int32) (1 : Int32) (2 : Int32) x f = f := own_e1 (by decide) (by decide)
      have e5 : expF (5 : Int32) (1 : Int32) (2 : Int32) x f = f := own_e1 (by decide) (by decide)
      have e6 : expF (6 : Int32) (1 : Int32) (2 : Int32) x f = f := own_e1 (by decide) (by decide)
      have e7 : expF (7 : Int32) (1 : Int32) (2 : Int32) x f = f := own_e1 (by decide) (by decide)
      have e8 : expF (8 : Int32) (1 : Int32) (2 : Int32) x f = f := own_e1 (by decide) (by decide)
      have e9 : expF (9 : Int32) (1 : Int32) (2 : Int32) x f = f := own_e1 (by decide) (by decide)
      have e10 : expF (10 : Int32) (1 : Int32) (2 : Int32) x f = f := own_e1 (by decide) (by decide)
      have e11 : expF (11 : Int32) (1 : Int32) (2 : Int32) x f = f := own_e1 (by decide) (by decide)
      have e12 : expF (12 : Int32) (1 : Int32) (2 : Int32) x f = f := own_e1 (by decide) (by decide)
      have e13 : expF (13 : Int32) (1 : Int32) (2 : Int32) x f = f := own_e1 (by decide) (by decide)
      rw [hn]
      exact ⟨rfl, (((Keep.refl h0 [a1]).trans K_7 (allS (Or.inl (List.mem_of_getElem? (i := 0) rfl)) all0)).trans K_12 (allS (Or.inl (List.mem_of_getElem? (i := 0) rfl)) all0)), by rw [e0, e1, e2, e3, e4, e5, e6, e7, e8, e9, e10, e11, e12, e13]; exact f_14⟩
    · refine g_if_n C d2_14 (Jvm.Free.XT.ll_eq_f hb_10) (pc' := 17) rfl ?_
      refine g_aload_n C d2_17 (v := (.ref a1)) rfl rfl (pc' := 18) rfl ?_
      refine g_iload C d2_18 (v := (2 : Int32)) rfl (pc' := 20) rfl ?_
      refine g_iinc C d2_20 (v := (2 : Int32)) (w := (3 : Int32)) rfl rfl (L' := #[.val (.ref a1), .val (.int (1 : Int32)), .val (.long x), .second, .val (.int (3 : Int32)), .val (.long x1), .second]) rfl (pc' := 23) rfl ?_
      refine g_lload C d2_23 (v := x1) rfl (pc' := 25) rfl ?_
      refine g_ldc2_w C (v := (127 : Int64)) (own_w hw 14 rfl) d2_25 (pc' := 28) rfl ?_
      refine g_land C (x := x1) (y := (127 : Int64)) d2_28  (pc' := 29) rfl ?_
      refine g_ldc2_w C (v := (128 : Int64)) (own_w hw 15 rfl) d2_29 (pc' := 32) rfl ?_
      refine g_lor C (x := (x1 &&& (127 : Int64))) (y := (128 : Int64)) d2_32  (pc' := 33) rfl ?_
      refine g_l2i C (x := ((x1 &&& (127 : Int64)) ||| (128 : Int64))) d2_33 (pc' := 34) rfl ?_
      refine g_i2b C (x := (Int64.toInt32 ((x1 &&& (127 : Int64)) ||| (128 : Int64)))) d2_34 (pc' := 35) rfl ?_
      refine g_bastoreB C f_9 (by decide) (i := 2) (by decide) (show 2 < 14 by decide) (w := (.int (Int8.toInt32 (Int32.toInt8 (Int64.toInt32 ((x1 &&& (127 : Int64)) ||| (128 : Int64))))))) (congrArg Value.int (own_narb _)) g0 d2_35 (pc' := 36) rfl ?_
      intro h_15 K_16 A_17
      have f_18 : Ary Z h_15 a1 .byte [(.int f), (.int (Int8.toInt32 (Int32.toInt8 (Int64.toInt32 ((x &&& (127 : Int64)) ||| (128 : Int64)))))), (.int (Int8.toInt32 (Int32.toInt8 (Int64.toInt32 ((x1 &&& (127 : Int64)) ||| (128 : Int64)))))), (.int f), (.int f), (.int f), (.int f), (.int f), (.int f), (.int f), (.int f), (.int f), (.int f), (.int f)] := A_17
      refine g_lload C d2_36 (v := x1) rfl (pc' := 38) rfl ?_
      refine g_bipush C d2_38 (v := (7 : Int32)) rfl (pc' := 40) rfl ?_
      refine g_lushr C (x := x1) (y := (7 : Int32)) d2_40  (pc' := 41) rfl ?_
      obtain ⟨x2, hx2⟩ : ∃ z : Int64, z = (Jvm.Free.XT.ushrL x1 (7 : Int32)) := ⟨_, rfl⟩
      rw [← hx2]
      have y2 : x2 = Jvm.Free.XT.ushrL x (14 : Int32) := by rw [hx2, y1]; exact own_sh x (ka := 7) (kb := 7) (by decide) (by decide) (by decide)
      have nz2 : ¬ Jvm.Free.XT.ushrL x (14 : Int32) = 0 := by rw [← y2, hx2]; exact fun q => hb_10 ((own_m128 _).mpr q)
      refine g_lstore C d2_41 (v := x2) (L' := #[.val (.ref a1), .val (.int (1 : Int32)), .val (.long x), .second, .val (.int (3 : Int32)), .val (.long x2), .second]) rfl (pc' := 43) rfl ?_
      refine g_goto C d2_43 (pc' := 6) (by decide) (by decide) ?_
      refine g_lload C d2_6 (v := x2) rfl (pc' := 8) rfl ?_
      refine g_ldc2_w C (v := (-128 : Int64)) (own_w hw 9 rfl) d2_8 (pc' := 11) rfl ?_
      refine g_land C (x := x2) (y := (-128 : Int64)) d2_11  (pc' := 12) rfl ?_
      refine g_lconst C d2_12 (v := (0 : Int64)) rfl (pc' := 13) rfl ?_
      refine g_lcmp C (x := (x2 &&& (-128 : Int64))) (y := (0 : Int64)) d2_13 (pc' := 14) rfl ?_
      by_cases hb_19 : (x2 &&& (-128 : Int64)) = (0 : Int64)
      · refine g_if_y C d2_14 (Jvm.Free.XT.ll_eq_t hb_19) (pc' := 46) (by decide) (by decide) ?_
        refine g_aload_n C d2_46 (v := (.ref a1)) rfl rfl (pc' := 47) rfl ?_
        refine g_iload C d2_47 (v := (3 : Int32)) rfl (pc' := 49) rfl ?_
        refine g_iinc C d2_49 (v := (3 : Int32)) (w := (4 : Int32)) rfl rfl (L' := #[.val (.ref a1), .val (.int (1 : Int32)), .val (.long x), .second, .val (.int (4 : Int32)), .val (.long x2), .second]) rfl (pc' := 52) rfl ?_
        refine g_lload C d2_52 (v := x2) rfl (pc' := 54) rfl ?_
        refine g_l2i C (x := x2) d2_54 (pc' := 55) rfl ?_
        refine g_i2b C (x := (Int64.toInt32 x2)) d2_55 (pc' := 56) rfl ?_
        refine g_bastoreB C f_18 (by decide) (i := 3) (by decide) (show 3 < 14 by decide) (w := (.int (Int8.toInt32 (Int32.toInt8 (Int64.toInt32 x2))))) (congrArg Value.int (own_narb _)) g0 d2_56 (pc' := 57) rfl ?_
        intro h_20 K_21 A_22
        have f_23 : Ary Z h_20 a1 .byte [(.int f), (.int (Int8.toInt32 (Int32.toInt8 (Int64.toInt32 ((x &&& (127 : Int64)) ||| (128 : Int64)))))), (.int (Int8.toInt32 (Int32.toInt8 (Int64.toInt32 ((x1 &&& (127 : Int64)) ||| (128 : Int64)))))), (.int (Int8.toInt32 (Int32.toInt8 (Int64.toInt32 x2)))), (.int f), (.int f), (.int f), (.int f), (.int f), (.int f), (.int f), (.int f), (.int f), (.int f)] := A_22
        refine g_iload C d2_57 (v := (4 : Int32)) rfl (pc' := 59) rfl ?_
        refine g_ret C (v := (.int (4 : Int32))) (ty := .int) rfl rfl (Or.inl ⟨rfl, Or.inl rfl, _, rfl⟩) d2_59 (by decide) (by decide) ?_
        have zk : Jvm.Free.XT.ushrL x2 (7 : Int32) = 0 := (own_m128 _).mp hb_19
        have zz : Jvm.Free.XT.ushrL x (21 : Int32) = 0 := by rw [← own_sh x (ka := 14) (kb := 7) (a := (14 : Int32)) (b := (7 : Int32)) (by decide) (by decide) (by decide), ← y2]; exact zk
        have hn : nlen x = (3 : Int32) := by rw [nlen, if_neg nz1, if_neg nz2, if_pos zz]
        have e0 : expF (0 : Int32) (1 : Int32) (3 : Int32) x f = f := own_e0 (by decide)
        have e1 : expF (1 : Int32) (1 : Int32) (3 : Int32) x f = (Int8.toInt32 (Int32.toInt8 (Int64.toInt32 ((x &&& (127 : Int64)) ||| (128 : Int64))))) := own_e2 (c := (0 : Int32)) (by decide) (by decide) (by decide) (by decide) (own_u0 x)
        have e2 : expF (2 : Int32) (1 : Int32) (3 : Int32) x f = (Int8.toInt32 (Int32.toInt8 (Int64.toInt32 ((x1 &&& (127 : Int64)) ||| (128 : Int64))))) := own_e2 (c := (7 : Int32)) (by decide) (by decide) (by decide) (by decide) y1
        have e3 : expF (3 : Int32) (1 : Int32) (3 : Int32) x f = (Int8.toInt32 (Int32.toInt8 (Int64.toInt32 x2))) := own_e3 (c := (14 : Int32)) (by decide) (by decide) (by decide) (by decide) y2 zk
        have e4 : expF (4 : Int32) (1 : Int32) (3 : Int32) x f = f := own_e1 (by decide) (by decide)
        have e5 : expF (5 : Int32) (1 : Int32) (3 : Int32) x f = f := own_e1 (by decide) (by decide)
        have e6 : expF (6 : Int32) (1 : Int32) (3 : Int32) x f = f := own_e1 (by decide) (by decide)
        have e7 : expF (7 : Int32) (1 : Int32) (3 : Int32) x f = f := own_e1 (by decide) (by decide)
        have e8 : expF (8 : Int32) (1 : Int32) (3 : Int32) x f = f := own_e1 (by decide) (by decide)
        have e9 : expF (9 : Int32) (1 : Int32) (3 : Int32) x f = f := own_e1 (by decide) (by decide)
        have e10 : expF (10 : Int32) (1 : Int32) (3 : Int32) x f = f := own_e1 (by decide) (by decide)
        have e11 : expF (11 : Int32) (1 : Int32) (3 : Int32) x f = f := own_e1 (by decide) (by decide)
        have e12 : expF (12 : Int32) (1 : Int32) (3 : Int32) x f = f := own_e1 (by decide) (by decide)
        have e13 : expF (13 : Int32) (1 : Int32) (3 : Int32) x f = f := own_e1 (by decide) (by decide)
        rw [hn]
        exact ⟨rfl, ((((Keep.refl h0 [a1]).trans K_7 (allS (Or.inl (List.mem_of_getElem? (i := 0) rfl)) all0)).trans K_16 (allS (Or.inl (List.mem_of_getElem? (i := 0) rfl)) all0)).trans K_21 (allS (Or.inl (List.mem_of_getElem? (i := 0) rfl)) all0)), by rw [e0, e1, e2, e3, e4, e5, e6, e7, e8, e9, e10, e11, e12, e13]; exact f_23⟩
      · refine g_if_n C d2_14 (Jvm.Free.XT.ll_eq_f hb_19) (pc' := 17) rfl ?_
        refine g_aload_n C d2_17 (v := (.ref a1)) rfl rfl (pc' := 18) rfl ?_
        refine g_iload C d2_18 (v := (3 : Int32)) rfl (pc' := 20) rfl ?_
        refine g_iinc C d2_20 (v := (3 : Int32)) (w := (4 : Int32)) rfl rfl (L' := #[.val (.ref a1), .val (.int (1 : Int32)), .val (.long x), .second, .val (.int (4 : Int32)), .val (.long x2), .second]) rfl (pc' := 23) rfl ?_
        refine g_lload C d2_23 (v := x2) rfl (pc' := 25) rfl ?_
        refine g_ldc2_w C (v := (127 : Int64)) (own_w hw 14 rfl) d2_25 (pc' := 28) rfl ?_
        refine g_land C (x := x2) (y := (127 : Int64)) d2_28  (pc' := 29) rfl ?_
        refine g_ldc2_w C (v := (128 : Int64)) (own_w hw 15 rfl) d2_29 (pc' := 32) rfl ?_
        refine g_lor C (x := (x2 &&& (127 : Int64))) (y := (128 : Int64)) d2_32  (pc' := 33) rfl ?_
        refine g_l2i C (x := ((x2 &&& (127 : Int64)) ||| (128 : Int64))) d2_33 (pc' := 34) rfl ?_
        refine g_i2b C (x := (Int64.toInt32 ((x2 &&& (127 : Int64)) ||| (128 : Int64)))) d2_34 (pc' := 35) rfl ?_
        refine g_bastoreB C f_18 (by decide) (i := 3) (by decide) (show 3 < 14 by decide) (w := (.int (Int8.toInt32 (Int32.toInt8 (Int64.toInt32 ((x2 &&& (127 : Int64)) ||| (128 : Int64))))))) (congrArg Value.int (own_narb _)) g0 d2_35 (pc' := 36) rfl ?_
        intro h_24 K_25 A_26
        have f_27 : Ary Z h_24 a1 .byte [(.int f), (.int (Int8.toInt32 (Int32.toInt8 (Int64.toInt32 ((x &&& (127 : Int64)) ||| (128 : Int64)))))), (.int (Int8.toInt32 (Int32.toInt8 (Int64.toInt32 ((x1 &&& (127 : Int64)) ||| (128 : Int64)))))), (.int (Int8.toInt32 (Int32.toInt8 (Int64.toInt32 ((x2 &&& (127 : Int64)) ||| (128 : Int64)))))), (.int f), (.int f), (.int f), (.int f), (.int f), (.int f), (.int f), (.int f), (.int f), (.int f)] := A_26
        refine g_lload C d2_36 (v := x2) rfl (pc' := 38) rfl ?_
        refine g_bipush C d2_38 (v := (7 : Int32)) rfl (pc' := 40) rfl ?_
        refine g_lushr C (x := x2) (y := (7 : Int32)) d2_40  (pc' := 41) rfl ?_
        obtain ⟨x3, hx3⟩ : ∃ z : Int64, z = (Jvm.Free.XT.ushrL x2 (7 : Int32)) := ⟨_, rfl⟩
        rw [← hx3]
        have y3 : x3 = Jvm.Free.XT.ushrL x (21 : Int32) := by rw [hx3, y2]; exact own_sh x (ka := 14) (kb := 7) (by decide) (by decide) (by decide)
        have nz3 : ¬ Jvm.Free.XT.ushrL x (21 : Int32) = 0 := by rw [← y3, hx3]; exact fun q => hb_19 ((own_m128 _).mpr q)
        refine g_lstore C d2_41 (v := x3) (L' := #[.val (.ref a1), .val (.int (1 : Int32)), .val (.long x), .second, .val (.int (4 : Int32)), .val (.long x3), .second]) rfl (pc' := 43) rfl ?_
        refine g_goto C d2_43 (pc' := 6) (by decide) (by decide) ?_
        refine g_lload C d2_6 (v := x3) rfl (pc' := 8) rfl ?_
        refine g_ldc2_w C (v := (-128 : Int64)) (own_w hw 9 rfl) d2_8 (pc' := 11) rfl ?_
        refine g_land C (x := x3) (y := (-128 : Int64)) d2_11  (pc' := 12) rfl ?_
        refine g_lconst C d2_12 (v := (0 : Int64)) rfl (pc' := 13) rfl ?_
        refine g_lcmp C (x := (x3 &&& (-128 : Int64))) (y := (0 : Int64)) d2_13 (pc' := 14) rfl ?_
        by_cases hb_28 : (x3 &&& (-128 : Int64)) = (0 : Int64)
        · refine g_if_y C d2_14 (Jvm.Free.XT.ll_eq_t hb_28) (pc' := 46) (by decide) (by decide) ?_
          refine g_aload_n C d2_46 (v := (.ref a1)) rfl rfl (pc' := 47) rfl ?_
          refine g_iload C d2_47 (v := (4 : Int32)) rfl (pc' := 49) rfl ?_
          refine g_iinc C d2_49 (v := (4 : Int32)) (w := (5 : Int32)) rfl rfl (L' := #[.val (.ref a1), .val (.int (1 : Int32)), .val (.long x), .second, .val (.int (5 : Int32)), .val (.long x3), .second]) rfl (pc' := 52) rfl ?_
          refine g_lload C d2_52 (v := x3) rfl (pc' := 54) rfl ?_
          refine g_l2i C (x := x3) d2_54 (pc' := 55) rfl ?_
          refine g_i2b C (x := (Int64.toInt32 x3)) d2_55 (pc' := 56) rfl ?_
          refine g_bastoreB C f_27 (by decide) (i := 4) (by decide) (show 4 < 14 by decide) (w := (.int (Int8.toInt32 (Int32.toInt8 (Int64.toInt32 x3))))) (congrArg Value.int (own_narb _)) g0 d2_56 (pc' := 57) rfl ?_
          intro h_29 K_30 A_31
          have f_32 : Ary Z h_29 a1 .byte [(.int f), (.int (Int8.toInt32 (Int32.toInt8 (Int64.toInt32 ((x &&& (127 : Int64)) ||| (128 : Int64)))))), (.int (Int8.toInt32 (Int32.toInt8 (Int64.toInt32 ((x1 &&& (127 : Int64)) ||| (128 : Int64)))))), (.int (Int8.toInt32 (Int32.toInt8 (Int64.toInt32 ((x2 &&& (127 : Int64)) ||| (128 : Int64)))))), (.int (Int8.toInt32 (Int32.toInt8 (Int64.toInt32 x3)))), (.int f), (.int f), (.int f), (.int f), (.int f), (.int f), (.int f), (.int f), (.int f)] := A_31
          refine g_iload C d2_57 (v := (5 : Int32)) rfl (pc' := 59) rfl ?_
          refine g_ret C (v := (.int (5 : Int32))) (ty := .int) rfl rfl (Or.inl ⟨rfl, Or.inl rfl, _, rfl⟩) d2_59 (by decide) (by decide) ?_
          have zk : Jvm.Free.XT.ushrL x3 (7 : Int32) = 0 := (own_m128 _).mp hb_28
          have zz : Jvm.Free.XT.ushrL x (28 : Int32) = 0 := by rw [← own_sh x (ka := 21) (kb := 7) (a := (21 : Int32)) (b := (7 : Int32)) (by decide) (by decide) (by decide), ← y3]; exact zk
          have hn : nlen x = (4 : Int32) := by rw [nlen, if_neg nz1, if_neg nz2, if_neg nz3, if_pos zz]
          have e0 : expF (0 : Int32) (1 : Int32) (4 : Int32) x f = f := own_e0 (by decide)
          have e1 : expF (1 : Int32) (1 : Int32) (4 : Int32) x f = (Int8.toInt32 (Int32.toInt8 (Int64.toInt32 ((x &&& (127 : Int64)) ||| (128 : Int64))))) := own_e2 (c := (0 : Int32)) (by decide) (by decide) (by decide) (by decide) (own_u0 x)
          have e2 : expF (2 : Int32) (1 : Int32) (4 : Int32) x f = (Int8.toInt32 (Int32.toInt8 (Int64.toInt32 ((x1 &&& (127 : Int64)) ||| (128 : Int64))))) := own_e2 (c := (7 : Int32)) (by decide) (by decide) (by decide) (by decide) y1
          have e3 : expF (3 : Int32) (1 : Int32) (4 : Int32) x f = (Int8.toInt32 (Int32.toInt8 (Int64.toInt32 ((x2 &&& (127 : Int64)) ||| (128 : Int64))))) := own_e2 (c := (14 : Int32)) (by decide) (by decide) (by decide) (by decide) y2
          have e4 : expF (4 : Int32) (1 : Int32) (4 : Int32) x f = (Int8.toInt32 (Int32.toInt8 (Int64.toInt32 x3))) := own_e3 (c := (21 : Int32)) (by decide) (by decide) (by decide) (by decide) y3 zk
          have e5 : expF (5 : Int32) (1 : Int32) (4 : Int32) x f = f := own_e1 (by decide) (by decide)
          have e6 : expF (6 : Int32) (1 : Int32) (4 : Int32) x f = f := own_e1 (by decide) (by decide)
          have e7 : expF (7 : Int32) (1 : Int32) (4 : Int32) x f = f := own_e1 (by decide) (by decide)
          have e8 : expF (8 : Int32) (1 : Int32) (4 : Int32) x f = f := own_e1 (by decide) (by decide)
          have e9 : expF (9 : Int32) (1 : Int32) (4 : Int32) x f = f := own_e1 (by decide) (by decide)
          have e10 : expF (10 : Int32) (1 : Int32) (4 : Int32) x f = f := own_e1 (by decide) (by decide)
          have e11 : expF (11 : Int32) (1 : Int32) (4 : Int32) x f = f := own_e1 (by decide) (by decide)
          have e12 : expF (12 : Int32) (1 : Int32) (4 : Int32) x f = f := own_e1 (by decide) (by decide)
          have e13 : expF (13 : Int32) (1 : Int32) (4 : Int32) x f = f := own_e1 (by decide) (by decide)
          rw [hn]
          exact ⟨rfl, (((((Keep.refl h0 [a1]).trans K_7 (allS (Or.inl (List.mem_of_getElem? (i := 0) rfl)) all0)).trans K_16 (allS (Or.inl (List.mem_of_getElem? (i := 0) rfl)) all0)).trans K_25 (allS (Or.inl (List.mem_of_getElem? (i := 0) rfl)) all0)).trans K_30 (allS (Or.inl (List.mem_of_getElem? (i := 0) rfl)) all0)), by rw [e0, e1, e2, e3, e4, e5, e6, e7, e8, e9, e10, e11, e12, e13]; exact f_32⟩
        · refine g_if_n C d2_14 (Jvm.Free.XT.ll_eq_f hb_28) (pc' := 17) rfl ?_
          refine g_aload_n C d2_17 (v := (.ref a1)) rfl rfl (pc' := 18) rfl ?_
          refine g_iload C d2_18 (v := (4 : Int32)) rfl (pc' := 20) rfl ?_
          refine g_iinc C d2_20 (v := (4 : Int32)) (w := (5 : Int32)) rfl rfl (L' := #[.val (.ref a1), .val (.int (1 : Int32)), .val (.long x), .second, .val (.int (5 : Int32)), .val (.long x3), .second]) rfl (pc' := 23) rfl ?_
          refine g_lload C d2_23 (v := x3) rfl (pc' := 25) rfl ?_
          refine g_ldc2_w C (v := (127 : Int64)) (own_w hw 14 rfl) d2_25 (pc' := 28) rfl ?_
          refine g_land C (x := x3) (y := (127 : Int64)) d2_28  (pc' := 29) rfl ?_
          refine g_ldc2_w C (v := (128 : Int64)) (own_w hw 15 rfl) d2_29 (pc' := 32) rfl ?_
          refine g_lor C (x := (x3 &&& (127 : Int64))) (y := (128 : Int64)) d2_32  (pc' := 33) rfl ?_
          refine g_l2i C (x := ((x3 &&& (127 : Int64)) ||| (128 : Int64))) d2_33 (pc' := 34) rfl ?_
          refine g_i2b C (x := (Int64.toInt32 ((x3 &&& (127 : Int64)) ||| (128 : Int64)))) d2_34 (pc' := 35) rfl ?_
          refine g_bastoreB C f_27 (by decide) (i := 4) (by decide) (show 4 < 14 by decide) (w := (.int (Int8.toInt32 (Int32.toInt8 (Int64.toInt32 ((x3 &&& (127 : Int64)) ||| (128 : Int64))))))) (congrArg Value.int (own_narb _)) g0 d2_35 (pc' := 36) rfl ?_
          intro h_33 K_34 A_35
          have f_36 : Ary Z h_33 a1 .byte [(.int f), (.int (Int8.toInt32 (Int32.toInt8 (Int64.toInt32 ((x &&& (127 : Int64)) ||| (128 : Int64)))))), (.int (Int8.toInt32 (Int32.toInt8 (Int64.toInt32 ((x1 &&& (127 : Int64)) ||| (128 : Int64)))))), (.int (Int8.toInt32 (Int32.toInt8 (Int64.toInt32 ((x2 &&& (127 : Int64)) ||| (128 : Int64)))))), (.int (Int8.toInt32 (Int32.toInt8 (Int64.toInt32 ((x3 &&& (127 : Int64)) ||| (128 : Int64)))))), (.int f), (.int f), (.int f), (.int f), (.int f), (.int f), (.int f), (.int f), (.int f)] := A_35
          refine g_lload C d2_36 (v := x3) rfl (pc' := 38) rfl ?_
          refine g_bipush C d2_38 (v := (7 : Int32)) rfl (pc' := 40) rfl ?_
          refine g_lushr C (x := x3) (y := (7 : Int32)) d2_40  (pc' := 41) rfl ?_
          obtain ⟨x4, hx4⟩ : ∃ z : Int64, z = (Jvm.Free.XT.ushrL x3 (7 : Int32)) := ⟨_, rfl⟩
          rw [← hx4]
          have y4 : x4 = Jvm.Free.XT.ushrL x (28 : Int32) := by rw [hx4, y3]; exact own_sh x (ka := 21) (kb := 7) (by decide) (by decide) (by decide)
          have nz4 : ¬ Jvm.Free.XT.ushrL x (28 : Int32) = 0 := by rw [← y4, hx4]; exact fun q => hb_28 ((own_m128 _).mpr q)
          refine g_lstore C d2_41 (v := x4) (L' := #[.val (.ref a1), .val (.int (1 : Int32)), .val (.long x), .second, .val (.int (5 : Int32)), .val (.long x4), .second]) rfl (pc' := 43) rfl ?_
          refine g_goto C d2_43 (pc' := 6) (by decide) (by decide) ?_
          refine g_lload C d2_6 (v := x4) rfl (pc' := 8) rfl ?_
          refine g_ldc2_w C (v := (-128 : Int64)) (own_w hw 9 rfl) d2_8 (pc' := 11) rfl ?_
          refine g_land C (x := x4) (y := (-128 : Int64)) d2_11  (pc' := 12) rfl ?_
          refine g_lconst C d2_12 (v := (0 : Int64)) rfl (pc' := 13) rfl ?_
          refine g_lcmp C (x := (x4 &&& (-128 : Int64))) (y := (0 : Int64)) d2_13 (pc' := 14) rfl ?_
          by_cases hb_37 : (x4 &&& (-128 : Int64)) = (0 : Int64)
          · refine g_if_y C d2_14 (Jvm.Free.XT.ll_eq_t hb_37) (pc' := 46) (by decide) (by decide) ?_
            refine g_aload_n C d2_46 (v := (.ref a1)) rfl rfl (pc' := 47) rfl ?_
            refine g_iload C d2_47 (v := (5 : Int32)) rfl (pc' := 49) rfl ?_
            refine g_iinc C d2_49 (v := (5 : Int32)) (w := (6 : Int32)) rfl rfl (L' := #[.val (.ref a1), .val (.int (1 : Int32)), .val (.long x), .second, .val (.int (6 : Int32)), .val (.long x4), .second]) rfl (pc' := 52) rfl ?_
            refine g_lload C d2_52 (v := x4) rfl (pc' := 54) rfl ?_
            refine g_l2i C (x := x4) d2_54 (pc' := 55) rfl ?_
            refine g_i2b C (x := (Int64.toInt32 x4)) d2_55 (pc' := 56) rfl ?_
            refine g_bastoreB C f_36 (by decide) (i := 5) (by decide) (show 5 < 14 by decide) (w := (.int (Int8.toInt32 (Int32.toInt8 (Int64.toInt32 x4))))) (congrArg Value.int (own_narb _)) g0 d2_56 (pc' := 57) rfl ?_
            intro h_38 K_39 A_40
            have f_41 : Ary Z h_38 a1 .byte [(.int f), (.int (Int8.toInt32 (Int32.toInt8 (Int64.toInt32 ((x &&& (127 : Int64)) ||| (128 : Int64)))))), (.int (Int8.toInt32 (Int32.toInt8 (Int64.toInt32 ((x1 &&& (127 : Int64)) ||| (128 : Int64)))))), (.int (Int8.toInt32 (Int32.toInt8 (Int64.toInt32 ((x2 &&& (127 : Int64)) ||| (128 : Int64)))))), (.int (Int8.toInt32 (Int32.toInt8 (Int64.toInt32 ((x3 &&& (127 : Int64)) ||| (128 : Int64)))))), (.int (Int8.toInt32 (Int32.toInt8 (Int64.toInt32 x4)))), (.int f), (.int f), (.int f), (.int f), (.int f), (.int f), (.int f), (.int f)] := A_40
            refine g_iload C d2_57 (v := (6 : Int32)) rfl (pc' := 59) rfl ?_
            refine g_ret C (v := (.int (6 : Int32))) (ty := .int) rfl rfl (Or.inl ⟨rfl, Or.inl rfl, _, rfl⟩) d2_59 (by decide) (by decide) ?_
            have zk : Jvm.Free.XT.ushrL x4 (7 : Int32) = 0 := (own_m128 _).mp hb_37
            have zz : Jvm.Free.XT.ushrL x (35 : Int32) = 0 := by rw [← own_sh x (ka := 28) (kb := 7) (a := (28 : Int32)) (b := (7 : Int32)) (by decide) (by decide) (by decide), ← y4]; exact zk
            have hn : nlen x = (5 : Int32) := by rw [nlen, if_neg nz1, if_neg nz2, if_neg nz3, if_neg nz4, if_pos zz]
            have e0 : expF (0 : Int32) (1 : Int32) (5 : Int32) x f = f := own_e0 (by decide)
            have e1 : expF (1 : Int32) (1 : Int32) (5 : Int32) x f = (Int8.toInt32 (Int32.toInt8 (Int64.toInt32 ((x &&& (127 : Int64)) ||| (128 : Int64))))) := own_e2 (c := (0 : Int32)) (by decide) (by decide) (by decide) (by decide) (own_u0 x)
            have e2 : expF (2 : Int32) (1 : Int32) (5 : Int32) x f = (Int8.toInt32 (Int32.toInt8 (Int64.toInt32 ((x1 &&& (127 : Int64)) ||| (128 : Int64))))) := own_e2 (c := (7 : Int32)) (by decide) (by decide) (by decide) (by decide) y1
            have e3 : expF (3 : Int32) (1 : Int32) (5 : Int32) x f = (Int8.toInt32 (Int32.toInt8 (Int64.toInt32 ((x2 &&& (127 : Int64)) ||| (128 : Int64))))) := own_e2 (c := (14 : Int32)) (by decide) (by decide) (by decide) (by decide) y2
            have e4 : expF (4 : Int32) (1 : Int32) (5 : Int32) x f = (Int8.toInt32 (Int32.toInt8 (Int64.toInt32 ((x3 &&& (127 : Int64)) ||| (128 : Int64))))) := own_e2 (c := (21 : Int32)) (by decide) (by decide) (by decide) (by decide) y3
            have e5 : expF (5 : Int32) (1 : Int32) (5 : Int32) x f = (Int8.toInt32 (Int32.toInt8 (Int64.toInt32 x4))) := own_e3 (c := (28 : Int32)) (by decide) (by decide) (by decide) (by decide) y4 zk
            have e6 : expF (6 : Int32) (1 : Int32) (5 : Int32) x f = f := own_e1 (by decide) (by decide)
            have e7 : expF (7 : Int32) (1 : Int32) (5 : Int32) x f = f := own_e1 (by decide) (by decide)
            have e8 : expF (8 : Int32) (1 : Int32) (5 : Int32) x f = f := own_e1 (by decide) (by decide)
            have e9 : expF (9 : Int32) (1 : Int32) (5 : Int32) x f = f := own_e1 (by decide) (by decide)
            have e10 : expF (10 : Int32) (1 : Int32) (5 : Int32) x f = f := own_e1 (by decide) (by decide)
            have e11 : expF (11 : Int32) (1 : Int32) (5 : Int32) x f = f := own_e1 (by decide) (by decide)
            have e12 : expF (12 : Int32) (1 : Int32) (5 : Int32) x f = f := own_e1 (by decide) (by decide)
            have e13 : expF (13 : Int32) (1 : Int32) (5 : Int32) x f = f := own_e1 (by decide) (by decide)
            rw [hn]
            exact ⟨rfl, ((((((Keep.refl h0 [a1]).trans K_7 (allS (Or.inl (List.mem_of_getElem? (i := 0) rfl)) all0)).trans K_16 (allS (Or.inl (List.mem_of_getElem? (i := 0) rfl)) all0)).trans K_25 (allS (Or.inl (List.mem_of_getElem? (i := 0) rfl)) all0)).trans K_34 (allS (Or.inl (List.mem_of_getElem? (i := 0) rfl)) all0)).trans K_39 (allS (Or.inl (List.mem_of_getElem? (i := 0) rfl)) all0)), by rw [e0, e1, e2, e3, e4, e5, e6, e7, e8, e9, e10, e11, e12, e13]; exact f_41⟩
          · refine g_if_n C d2_14 (Jvm.Free.XT.ll_eq_f hb_37) (pc' := 17) rfl ?_
            refine g_aload_n C d2_17 (v := (.ref a1)) rfl rfl (pc' := 18) rfl ?_
            refine g_iload C d2_18 (v := (5 : Int32)) rfl (pc' := 20) rfl ?_
            refine g_iinc C d2_20 (v := (5 : Int32)) (w := (6 : Int32)) rfl rfl (L' := #[.val (.ref a1), .val (.int (1 : Int32)), .val (.long x), .second, .val (.int (6 : Int32)), .val (.long x4), .second]) rfl (pc' := 23) rfl ?_
            refine g_lload C d2_23 (v := x4) rfl (pc' := 25) rfl ?_
            refine g_ldc2_w C (v := (127 : Int64)) (own_w hw 14 rfl) d2_25 (pc' := 28) rfl ?_
            refine g_land C (x := x4) (y := (127 : Int64)) d2_28  (pc' := 29) rfl ?_
            refine g_ldc2_w C (v := (128 : Int64)) (own_w hw 15 rfl) d2_29 (pc' := 32) rfl ?_
            refine g_lor C (x := (x4 &&& (127 : Int64))) (y := (128 : Int64)) d2_32  (pc' := 33) rfl ?_
            refine g_l2i C (x := ((x4 &&& (127 : Int64)) ||| (128 : Int64))) d2_33 (pc' := 34) rfl ?_
            refine g_i2b C (x := (Int64.toInt32 ((x4 &&& (127 : Int64)) ||| (128 : Int64)))) d2_34 (pc' := 35) rfl ?_
            refine g_bastoreB C f_36 (by decide) (i := 5) (by decide) (show 5 < 14 by decide) (w := (.int (Int8.toInt32 (Int32.toInt8 (Int64.toInt32 ((x4 &&& (127 : Int64)) ||| (128 : Int64))))))) (congrArg Value.int (own_narb _)) g0 d2_35 (pc' := 36) rfl ?_
            intro h_42 K_43 A_44
            have f_45 : Ary Z h_42 a1 .byte [(.int f), (.int (Int8.toInt32 (Int32.toInt8 (Int64.toInt32 ((x &&& (127 : Int64)) ||| (128 : Int64)))))), (.int (Int8.toInt32 (Int32.toInt8 (Int64.toInt32 ((x1 &&& (127 : Int64)) ||| (128 : Int64)))))), (.int (Int8.toInt32 (Int32.toInt8 (Int64.toInt32 ((x2 &&& (127 : Int64)) ||| (128 : Int64)))))), (.int (Int8.toInt32 (Int32.toInt8 (Int64.toInt32 ((x3 &&& (127 : Int64)) ||| (128 : Int64)))))), (.int (Int8.toInt32 (Int32.toInt8 (Int64.toInt32 ((x4 &&& (127 : Int64)) ||| (128 : Int64)))))), (.int f), (.int f), (.int f), (.int f), (.int f), (.int f), (.int f), (.int f)] := A_44
            refine g_lload C d2_36 (v := x4) rfl (pc' := 38) rfl ?_
            refine g_bipush C d2_38 (v := (7 : Int32)) rfl (pc' := 40) rfl ?_
            refine g_lushr C (x := x4) (y := (7 : Int32)) d2_40  (pc' := 41) rfl ?_
            obtain ⟨x5, hx5⟩ : ∃ z : Int64, z = (Jvm.Free.XT.ushrL x4 (7 : Int32)) := ⟨_, rfl⟩
            rw [← hx5]
            have y5 : x5 = Jvm.Free.XT.ushrL x (35 : Int32) := by rw [hx5, y4]; exact own_sh x (ka := 28) (kb := 7) (by decide) (by decide) (by decide)
            have nz5 : ¬ Jvm.Free.XT.ushrL x (35 : Int32) = 0 := by rw [← y5, hx5]; exact fun q => hb_37 ((own_m128 _).mpr q)
            refine g_lstore C d2_41 (v := x5) (L' := #[.val (.ref a1), .val (.int (1 : Int32)), .val (.long x), .second, .val (.int (6 : Int32)), .val (.long x5), .second]) rfl (pc' := 43) rfl ?_
            refine g_goto C d2_43 (pc' := 6) (by decide) (by decide) ?_
            refine g_lload C d2_6 (v := x5) rfl (pc' := 8) rfl ?_
            refine g_ldc2_w C (v := (-128 : Int64)) (own_w hw 9 rfl) d2_8 (pc' := 11) rfl ?_
            refine g_land C (x := x5) (y := (-128 : Int64)) d2_11  (pc' := 12) rfl ?_
            refine g_lconst C d2_12 (v := (0 : Int64)) rfl (pc' := 13) rfl ?_
            refine g_lcmp C (x := (x5 &&& (-128 : Int64))) (y := (0 : Int64)) d2_13 (pc' := 14) rfl ?_
            by_cases hb_46 : (x5 &&& (-128 : Int64)) = (0 : Int64)
            · refine g_if_y C d2_14 (Jvm.Free.XT.ll_eq_t hb_46) (pc' := 46) (by decide) (by decide) ?_
              refine g_aload_n C d2_46 (v := (.ref a1)) rfl rfl (pc' := 47) rfl ?_
              refine g_iload C d2_47 (v := (6 : Int32)) rfl (pc' := 49) rfl ?_
              refine g_iinc C d2_49 (v := (6 : Int32)) (w := (7 : Int32)) rfl rfl (L' := #[.val (.ref a1), .val (.int (1 : Int32)), .val (.long x), .second, .val (.int (7 : Int32)), .val (.long x5), .second]) rfl (pc' := 52) rfl ?_
              refine g_lload C d2_52 (v := x5) rfl (pc' := 54) rfl ?_
              refine g_l2i C (x := x5) d2_54 (pc' := 55) rfl ?_
              refine g_i2b C (x := (Int64.toInt32 x5)) d2_55 (pc' := 56) rfl ?_
              refine g_bastoreB C f_45 (by decide) (i := 6) (by decide) (show 6 < 14 by decide) (w := (.int (Int8.toInt32 (Int32.toInt8 (Int64.toInt32 x5))))) (congrArg Value.int (own_narb _)) g0 d2_56 (pc' := 57) rfl ?_
              intro h_47 K_48 A_49
              have f_50 : Ary Z h_47 a1 .byte [(.int f), (.int (Int8.toInt32 (Int32.toInt8 (Int64.toInt32 ((x &&& (127 : Int64)) ||| (128 : Int64)))))), (.int (Int8.toInt32 (Int32.toInt8 (Int64.toInt32 ((x1 &&& (127 : Int64)) ||| (128 : Int64)))))), (.int (Int8.toInt32 (Int32.toInt8 (Int64.toInt32 ((x2 &&& (127 : Int64)) ||| (128 : Int64)))))), (.int (Int8.toInt32 (Int32.toInt8 (Int64.toInt32 ((x3 &&& (127 : Int64)) ||| (128 : Int64)))))), (.int (Int8.toInt32 (Int32.toInt8 (Int64.toInt32 ((x4 &&& (127 : Int64)) ||| (128 : Int64)))))), (.int (Int8.toInt32 (Int32.toInt8 (Int64.toInt32 x5)))), (.int f), (.int f), (.int f), (.int f), (.int f), (.int f), (.int f)] := A_49
              refine g_iload C d2_57 (v := (7 : Int32)) rfl (pc' := 59) rfl ?_
              refine g_ret C (v := (.int (7 : Int32))) (ty := .int) rfl rfl (Or.inl ⟨rfl, Or.inl rfl, _, rfl⟩) d2_59 (by decide) (by decide) ?_
              have zk : Jvm.Free.XT.ushrL x5 (7 : Int32) = 0 := (own_m128 _).mp hb_46
              have zz : Jvm.Free.XT.ushrL x (42 : Int32) = 0 := by rw [← own_sh x (ka := 35) (kb := 7) (a := (35 : Int32)) (b := (7 : Int32)) (by decide) (by decide) (by decide), ← y5]; exact zk
              have hn : nlen x = (6 : Int32) := by rw [nlen, if_neg nz1, if_neg nz2, if_neg nz3, if_neg nz4, if_neg nz5, if_pos zz]
              have e0 : expF (0 : Int32) (1 : Int32) (6 : Int32) x f = f := own_e0 (by decide)
              have e1 : expF (1 : Int32) (1 : Int32) (6 : Int32) x f = (Int8.toInt32 (Int32.toInt8 (Int64.toInt32 ((x &&& (127 : Int64)) ||| (128 : Int64))))) := own_e2 (c := (0 : Int32)) (by decide) (by decide) (by decide) (by decide) (own_u0 x)
              have e2 : expF (2 : Int32) (1 : Int32) (6 : Int32) x f = (Int8.toInt32 (Int32.toInt8 (Int64.toInt32 ((x1 &&& (127 : Int64)) ||| (128 : Int64))))) := own_e2 (c := (7 : Int32)) (by decide) (by decide) (by decide) (by decide) y1
              have e3 : expF (3 : Int32) (1 : Int32) (6 : Int32) x f = (Int8.toInt32 (Int32.toInt8 (Int64.toInt32 ((x2 &&& (127 : Int64)) ||| (128 : Int64))))) := own_e2 (c := (14 : Int32)) (by decide) (by decide) (by decide) (by decide) y2
              have e4 : expF (4 : Int32) (1 : Int32) (6 : Int32) x f = (Int8.toInt32 (Int32.toInt8 (Int64.toInt32 ((x3 &&& (127 : Int64)) ||| (128 : Int64))))) := own_e2 (c := (21 : Int32)) (by decide) (by decide) (by decide) (by decide) y3
              have e5 : expF (5 : Int32) (1 : Int32) (6 : Int32) x f = (Int8.toInt32 (Int32.toInt8 (Int64.toInt32 ((x4 &&& (127 : Int64)) ||| (128 : Int64))))) := own_e2 (c := (28 : Int32)) (by decide) (by decide) (by decide) (by decide) y4
              have e6 : expF (6 : Int32) (1 : Int32) (6 : Int32) x f = (Int8.toInt32 (Int32.toInt8 (Int64.toInt32 x5))) := own_e3 (c := (35 : Int32)) (by decide) (by decide) (by decide) (by decide) y5 zk
              have e7 : expF (7 : Int32) (1 : Int32) (6 : Int32) x f = f := own_e1 (by decide) (by decide)
              have e8 : expF (8 : Int32) (1 : Int32) (6 : Int32) x f = f := own_e1 (by decide) (by decide)
              have e9 : expF (9 : Int32) (1 : Int32) (6 : Int32) x f = f := own_e1 (by decide) (by decide)
              have e10 : expF (10 : Int32) (1 : Int32) (6 : Int32) x f = f := own_e1 (by decide) (by decide)
              have e11 : expF (11 : Int32) (1 : Int32) (6 : Int32) x f = f := own_e1 (by decide) (by decide)
              have e12 : expF (12 : Int32) (1 : Int32) (6 : Int32) x f = f := own_e1 (by decide) (by decide)
              have e13 : expF (13 : Int32) (1 : Int32) (6 : Int32) x f = f := own_e1 (by decide) (by decide)
              rw [hn]
              exact ⟨rfl, (((((((Keep.refl h0 [a1]).trans K_7 (allS (Or.inl (List.mem_of_getElem? (i := 0) rfl)) all0)).trans K_16 (allS (Or.inl (List.mem_of_getElem? (i := 0) rfl)) all0)).trans K_25 (allS (Or.inl (List.mem_of_getElem? (i := 0) rfl)) all0)).trans K_34 (allS (Or.inl (List.mem_of_getElem? (i := 0) rfl)) all0)).trans K_43 (allS (Or.inl (List.mem_of_getElem? (i := 0) rfl)) all0)).trans K_48 (allS (Or.inl (List.mem_of_getElem? (i := 0) rfl)) all0)), by rw [e0, e1, e2, e3, e4, e5, e6, e7, e8, e9, e10, e11, e12, e13]; exact f_50⟩
            · refine g_if_n C d2_14 (Jvm.Free.XT.ll_eq_f hb_46) (pc' := 17) rfl ?_
              refine g_aload_n C d2_17 (v := (.ref a1)) rfl rfl (pc' := 18) rfl ?_
              refine g_iload C d2_18 (v := (6 : Int32)) rfl (pc' := 20) rfl ?_
              refine g_iinc C d2_20 (v := (6 : Int32)) (w := (7 : Int32)) rfl rfl (L' := #[.val (.ref a1), .val (.int (1 : Int32)), .val (.long x), .second, .val (.int (7 : Int32)), .val (.long x5), .second]) rfl (pc' := 23) rfl ?_
              refine g_lload C d2_23 (v := x5) rfl (pc' := 25) rfl ?_
              refine g_ldc2_w C (v := (127 : Int64)) (own_w hw 14 rfl) d2_25 (pc' := 28) rfl ?_
              refine g_land C (x := x5) (y := (127 : Int64)) d2_28  (pc' := 29) rfl ?_
              refine g_ldc2_w C (v := (128 : Int64)) (own_w hw 15 rfl) d2_29 (pc' := 32) rfl ?_
              refine g_lor C (x := (x5 &&& (127 : Int64))) (y := (128 : Int64)) d2_32  (pc' := 33) rfl ?_
              refine g_l2i C (x := ((x5 &&& (127 : Int64)) ||| (128 : Int64))) d2_33 (pc' := 34) rfl ?_
              refine g_i2b C (x := (Int64.toInt32 ((x5 &&& (127 : Int64)) ||| (128 : Int64)))) d2_34 (pc' := 35) rfl ?_
              refine g_bastoreB C f_45 (by decide) (i := 6) (by decide) (show 6 < 14 by decide) (w := (.int (Int8.toInt32 (Int32.toInt8 (Int64.toInt32 ((x5 &&& (127 : Int64)) ||| (128 : Int64))))))) (congrArg Value.int (own_narb _)) g0 d2_35 (pc' := 36) rfl ?_
              intro h_51 K_52 A_53
              have f_54 : Ary Z h_51 a1 .byte [(.int f), (.int (Int8.toInt32 (Int32.toInt8 (Int64.toInt32 ((x &&& (127 : Int64)) ||| (128 : Int64)))))), (.int (Int8.toInt32 (Int32.toInt8 (Int64.toInt32 ((x1 &&& (127 : Int64)) ||| (128 : Int64)))))), (.int (Int8.toInt32 (Int32.toInt8 (Int64.toInt32 ((x2 &&& (127 : Int64)) ||| (128 : Int64)))))), (.int (Int8.toInt32 (Int32.toInt8 (Int64.toInt32 ((x3 &&& (127 : Int64)) ||| (128 : Int64)))))), (.int (Int8.toInt32 (Int32.toInt8 (Int64.toInt32 ((x4 &&& (127 : Int64)) ||| (128 : Int64)))))), (.int (Int8.toInt32 (Int32.toInt8 (Int64.toInt32 ((x5 &&& (127 : Int64)) ||| (128 : Int64)))))), (.int f), (.int f), (.int f), (.int f), (.int f), (.int f), (.int f)] := A_53
              refine g_lload C d2_36 (v := x5) rfl (pc' := 38) rfl ?_
              refine g_bipush C d2_38 (v := (7 : Int32)) rfl (pc' := 40) rfl ?_
              refine g_lushr C (x := x5) (y := (7 : Int32)) d2_40  (pc' := 41) rfl ?_
              obtain ⟨x6, hx6⟩ : ∃ z : Int64, z = (Jvm.Free.XT.ushrL x5 (7 : Int32)) := ⟨_, rfl⟩
              rw [← hx6]
              have y6 : x6 = Jvm.Free.XT.ushrL x (42 : Int32) := by rw [hx6, y5]; exact own_sh x (ka := 35) (kb := 7) (by decide) (by decide) (by decide)
              have nz6 : ¬ Jvm.Free.XT.ushrL x (42 : Int32) = 0 := by rw [← y6, hx6]; exact fun q => hb_46 ((own_m128 _).mpr q)
              refine g_lstore C d2_41 (v := x6) (L' := #[.val (.ref a1), .val (.int (1 : Int32)), .val (.long x), .second, .val (.int (7 : Int32)), .val (.long x6), .second]) rfl (pc' := 43) rfl ?_
              refine g_goto C d2_43 (pc' := 6) (by decide) (by decide) ?_
              refine g_lload C d2_6 (v := x6) rfl (pc' := 8) rfl ?_
              refine g_ldc2_w C (v := (-128 : Int64)) (own_w hw 9 rfl) d2_8 (pc' := 11) rfl ?_
              refine g_land C (x := x6) (y := (-128 : Int64)) d2_11  (pc' := 12) rfl ?_
              refine g_lconst C d2_12 (v := (0 : Int64)) rfl (pc' := 13) rfl ?_
              refine g_lcmp C (x := (x6 &&& (-128 : Int64))) (y := (0 : Int64)) d2_13 (pc' := 14) rfl ?_
              by_cases hb_55 : (x6 &&& (-128 : Int64)) = (0 : Int64)
              · refine g_if_y C d2_14 (Jvm.Free.XT.ll_eq_t hb_55) (pc' := 46) (by decide) (by decide) ?_
                refine g_aload_n C d2_46 (v := (.ref a1)) rfl rfl (pc' := 47) rfl ?_
                refine g_iload C d2_47 (v := (7 : Int32)) rfl (pc' := 49) rfl ?_
                refine g_iinc C d2_49 (v := (7 : Int32)) (w := (8 : Int32)) rfl rfl (L' := #[.val (.ref a1), .val (.int (1 : Int32)), .val (.long x), .second, .val (.int (8 : Int32)), .val (.long x6), .second]) rfl (pc' := 52) rfl ?_
                refine g_lload C d2_52 (v := x6) rfl (pc' := 54) rfl ?_
                refine g_l2i C (x := x6) d2_54 (pc' := 55) rfl ?_
                refine g_i2b C (x := (Int64.toInt32 x6)) d2_55 (pc' := 56) rfl ?_
                refine g_bastoreB C f_54 (by decide) (i := 7) (by decide) (show 7 < 14 by decide) (w := (.int (Int8.toInt32 (Int32.toInt8 (Int64.toInt32 x6))))) (congrArg Value.int (own_narb _)) g0 d2_56 (pc' := 57) rfl ?_
                intro h_56 K_57 A_58
                have f_59 : Ary Z h_56 a1 .byte [(.int f), (.int (Int8.toInt32 (Int32.toInt8 (Int64.toInt32 ((x &&& (127 : Int64)) ||| (128 : Int64)))))), (.int (Int8.toInt32 (Int32.toInt8 (Int64.toInt32 ((x1 &&& (127 : Int64)) ||| (128 : Int64)))))), (.int (Int8.toInt32 (Int32.toInt8 (Int64.toInt32 ((x2 &&& (127 : Int64)) ||| (128 : Int64)))))), (.int (Int8.toInt32 (Int32.toInt8 (Int64.toInt32 ((x3 &&& (127 : Int64)) ||| (128 : Int64)))))), (.int (Int8.toInt32 (Int32.toInt8 (Int64.toInt32 ((x4 &&& (127 : Int64)) ||| (128 : Int64)))))), (.int (Int8.toInt32 (Int32.toInt8 (Int64.toInt32 ((x5 &&& (127 : Int64)) ||| (128 : Int64)))))), (.int (Int8.toInt32 (Int32.toInt8 (Int64.toInt32 x6)))), (.int f), (.int f), (.int f), (.int f), (.int f), (.int f)] := A_58
                refine g_iload C d2_57 (v := (8 : Int32)) rfl (pc' := 59) rfl ?_
                refine g_ret C (v := (.int (8 : Int32))) (ty := .int) rfl rfl (Or.inl ⟨rfl, Or.inl rfl, _, rfl⟩) d2_59 (by decide) (by decide) ?_
                have zk : Jvm.Free.XT.ushrL x6 (7 : Int32) = 0 := (own_m128 _).mp hb_55
                have zz : Jvm.Free.XT.ushrL x (49 : Int32) = 0 := by rw [← own_sh x (ka := 42) (kb := 7) (a := (42 : Int32)) (b := (7 : Int32)) (by decide) (by decide) (by decide), ← y6]; exact zk
                have hn : nlen x = (7 : Int32) := by rw [nlen, if_neg nz1, if_neg nz2, if_neg nz3, if_neg nz4, if_neg nz5, if_neg nz6, if_pos zz]
                have e0 : expF (0 : Int32) (1 : Int32) (7 : Int32) x f = f := own_e0 (by decide)
                have e1 : expF (1 : Int32) (1 : Int32) (7 : Int32) x f = (Int8.toInt32 (Int32.toInt8 (Int64.toInt32 ((x &&& (127 : Int64)) ||| (128 : Int64))))) := own_e2 (c := (0 : Int32)) (by decide) (by decide) (by decide) (by decide) (own_u0 x)
                have e2 : expF (2 : Int32) (1 : Int32) (7 : Int32) x f = (Int8.toInt32 (Int32.toInt8 (Int64.toInt32 ((x1 &&& (127 : Int64)) ||| (128 : Int64))))) := own_e2 (c := (7 : Int32)) (by decide) (by decide) (by decide) (by decide) y1
                have e3 : expF (3 : Int32) (1 : Int32) (7 : Int32) x f = (Int8.toInt32 (Int32.toInt8 (Int64.toInt32 ((x2 &&& (127 : Int64)) ||| (128 : Int64))))) := own_e2 (c := (14 : Int32)) (by decide) (by decide) (by decide) (by decide) y2
                have e4 : expF (4 : Int32) (1 : Int32) (7 : Int32) x f = (Int8.toInt32 (Int32.toInt8 (Int64.toInt32 ((x3 &&& (127 : Int64)) ||| (128 : Int64))))) := own_e2 (c := (21 : Int32)) (by decide) (by decide) (by decide) (by decide) y3
                have e5 : expF (5 : Int32) (1 : Int32) (7 : Int32) x f = (Int8.toInt32 (Int32.toInt8 (Int64.toInt32 ((x4 &&& (127 : Int64)) ||| (128 : Int64))))) := own_e2 (c := (28 : Int32)) (by decide) (by decide) (by decide) (by decide) y4
                have e6 : expF (6 : Int32) (1 : Int32) (7 : Int32) x f = (Int8.toInt32 (Int32.toInt8 (Int64.toInt32 ((x5 &&& (127 : Int64)) ||| (128 : Int64))))) := own_e2 (c := (35 : Int32)) (by decide) (by decide) (by decide) (by decide) y5
                have e7 : expF (7 : Int32) (1 : Int32) (7 : Int32) x f = (Int8.toInt32 (Int32.toInt8 (Int64.toInt32 x6))) := own_e3 (c := (42 : Int32)) (by decide) (by decide) (by decide) (by decide) y6 zk
                have e8 : expF (8 : Int32) (1 : Int32) (7 : Int32) x f = f := own_e1 (by decide) (by decide)
                have e9 : expF (9 : Int32) (1 : Int32) (7 : Int32) x f = f := own_e1 (by decide) (by decide)
                have e10 : expF (10 : Int32) (1 : Int32) (7 : Int32) x f = f := own_e1 (by decide) (by decide)
                have e11 : expF (11 : Int32) (1 : Int32) (7 : Int32) x f = f := own_e1 (by decide) (by decide)
                have e12 : expF (12 : Int32) (1 : Int32) (7 : Int32) x f = f := own_e1 (by decide) (by decide)
                have e13 : expF (13 : Int32) (1 : Int32) (7 : Int32) x f = f := own_e1 (by decide) (by decide)
                rw [hn]
                exact ⟨rfl, ((((((((Keep.refl h0 [a1]).trans K_7 (allS (Or.inl (List.mem_of_getElem? (i := 0) rfl)) all0)).trans K_16 (allS (Or.inl (List.mem_of_getElem? (i := 0) rfl)) all0)).trans K_25 (allS (Or.inl (List.mem_of_getElem? (i := 0) rfl)) all0)).trans K_34 (allS (Or.inl (List.mem_of_getElem? (i := 0) rfl)) all0)).trans K_43 (allS (Or.inl (List.mem_of_getElem? (i := 0) rfl)) all0)).trans K_52 (allS (Or.inl (List.mem_of_getElem? (i := 0) rfl)) all0)).trans K_57 (allS (Or.inl (List.mem_of_getElem? (i := 0) rfl)) all0)), by rw [e0, e1, e2, e3, e4, e5, e6, e7, e8, e9, e10, e11, e12, e13]; exact f_59⟩
              · refine g_if_n C d2_14 (Jvm.Free.XT.ll_eq_f hb_55) (pc' := 17) rfl ?_
                refine g_aload_n C d2_17 (v := (.ref a1)) rfl rfl (pc' := 18) rfl ?_
                refine g_iload C d2_18 (v := (7 : Int32)) rfl (pc' := 20) rfl ?_
                refine g_iinc C d2_20 (v := (7 : Int32)) (w := (8 : Int32)) rfl rfl (L' := #[.val (.ref a1), .val (.int (1 : Int32)), .val (.long x), .second, .val (.int (8 : Int32)), .val (.long x6), .second]) rfl (pc' := 23) rfl ?_
                refine g_lload C d2_23 (v := x6) rfl (pc' := 25) rfl ?_
                refine g_ldc2_w C (v := (127 : Int64)) (own_w hw 14 rfl) d2_25 (pc' := 28) rfl ?_
                refine g_land C (x := x6) (y := (127 : Int64)) d2_28  (pc' := 29) rfl ?_
                refine g_ldc2_w C (v := (128 : Int64)) (own_w hw 15 rfl) d2_29 (pc' := 32) rfl ?_
                refine g_lor C (x := (x6 &&& (127 : Int64))) (y := (128 : Int64)) d2_32  (pc' := 33) rfl ?_
                refine g_l2i C (x := ((x6 &&& (127 : Int64)) ||| (128 : Int64))) d2_33 (pc' := 34) rfl ?_
                refine g_i2b C (x := (Int64.toInt32 ((x6 &&& (127 : Int64)) ||| (128 : Int64)))) d2_34 (pc' := 35) rfl ?_
                refine g_bastoreB C f_54 (by decide) (i := 7) (by decide) (show 7 < 14 by decide) (w := (.int (Int8.toInt32 (Int32.toInt8 (Int64.toInt32 ((x6 &&& (127 : Int64)) ||| (128 : Int64))))))) (congrArg Value.int (own_narb _)) g0 d2_35 (pc' := 36) rfl ?_
                intro h_60 K_61 A_62
                have f_63 : Ary Z h_60 a1 .byte [(.int f), (.int (Int8.toInt32 (Int32.toInt8 (Int64.toInt32 ((x &&& (127 : Int64)) ||| (128 : Int64)))))), (.int (Int8.toInt32 (Int32.toInt8 (Int64.toInt32 ((x1 &&& (127 : Int64)) ||| (128 : Int64)))))), (.int (Int8.toInt32 (Int32.toInt8 (Int64.toInt32 ((x2 &&& (127 : Int64)) ||| (128 : Int64)))))), (.int (Int8.toInt32 (Int32.toInt8 (Int64.toInt32 ((x3 &&& (127 : Int64)) ||| (128 : Int64)))))), (.int (Int8.toInt32 (Int32.toInt8 (Int64.toInt32 ((x4 &&& (127 : Int64)) ||| (128 : Int64)))))), (.int (Int8.toInt32 (Int32.toInt8 (Int64.toInt32 ((x5 &&& (127 : Int64)) ||| (128 : Int64)))))), (.int (Int8.toInt32 (Int32.toInt8 (Int64.toInt32 ((x6 &&& (127 : Int64)) ||| (128 : Int64)))))), (.int f), (.int f), (.int f), (.int f), (.int f), (.int f)] := A_62
                refine g_lload C d2_36 (v := x6) rfl (pc' := 38) rfl ?_
                refine g_bipush C d2_38 (v := (7 : Int32)) rfl (pc' := 40) rfl ?_
                refine g_lushr C (x := x6) (y := (7 : Int32)) d2_40  (pc' := 41) rfl ?_
                obtain ⟨x7, hx7⟩ : ∃ z : Int64, z = (Jvm.Free.XT.ushrL x6 (7 : Int32)) := ⟨_, rfl⟩
                rw [← hx7]
                have y7 : x7 = Jvm.Free.XT.ushrL x (49 : Int32) := by rw [hx7, y6]; exact own_sh x (ka := 42) (kb := 7) (by decide) (by decide) (by decide)
                have nz7 : ¬ Jvm.Free.XT.ushrL x (49 : Int32) = 0 := by rw [← y7, hx7]; exact fun q => hb_55 ((own_m128 _).mpr q)
                refine g_lstore C d2_41 (v := x7) (L' := #[.val (.ref a1), .val (.int (1 : Int32)), .val (.long x), .second, .val (.int (8 : Int32)), .val (.long x7), .second]) rfl (pc' := 43) rfl ?_
                refine g_goto C d2_43 (pc' := 6) (by decide) (by decide) ?_
                refine g_lload C d2_6 (v := x7) rfl (pc' := 8) rfl ?_
                refine g_ldc2_w C (v := (-128 : Int64)) (own_w hw 9 rfl) d2_8 (pc' := 11) rfl ?_
                refine g_land C (x := x7) (y := (-128 : Int64)) d2_11  (pc' := 12) rfl ?_
                refine g_lconst C d2_12 (v := (0 : Int64)) rfl (pc' := 13) rfl ?_
                refine g_lcmp C (x := (x7 &&& (-128 : Int64))) (y := (0 : Int64)) d2_13 (pc' := 14) rfl ?_
                by_cases hb_64 : (x7 &&& (-128 : Int64)) = (0 : Int64)
                · refine g_if_y C d2_14 (Jvm.Free.XT.ll_eq_t hb_64) (pc' := 46) (by decide) (by decide) ?_
                  refine g_aload_n C d2_46 (v := (.ref a1)) rfl rfl (pc' := 47) rfl ?_
                  refine g_iload C d2_47 (v := (8 : Int32)) rfl (pc' := 49) rfl ?_
                  refine g_iinc C d2_49 (v := (8 : Int32)) (w := (9 : Int32)) rfl rfl (L' := #[.val (.ref a1), .val (.int (1 : Int32)), .val (.long x), .second, .val (.int (9 : Int32)), .val (.long x7), .second]) rfl (pc' := 52) rfl ?_
                  refine g_lload C d2_52 (v := x7) rfl (pc' := 54) rfl ?_
                  refine g_l2i C (x := x7) d2_54 (pc' := 55) rfl ?_
                  refine g_i2b C (x := (Int64.toInt32 x7)) d2_55 (pc' := 56) rfl ?_
                  refine g_bastoreB C f_63 (by decide) (i := 8) (by decide) (show 8 < 14 by decide) (w := (.int (Int8.toInt32 (Int32.toInt8 (Int64.toInt32 x7))))) (congrArg Value.int (own_narb _)) g0 d2_56 (pc' := 57) rfl ?_
                  intro h_65 K_66 A_67
                  have f_68 : Ary Z h_65 a1 .byte [(.int f), (.int (Int8.toInt32 (Int32.toInt8 (Int64.toInt32 ((x &&& (127 : Int64)) ||| (128 : Int64)))))), (.int (Int8.toInt32 (Int32.toInt8 (Int64.toInt32 ((x1 &&& (127 : Int64)) ||| (128 : Int64)))))), (.int (Int8.toInt32 (Int32.toInt8 (Int64.toInt32 ((x2 &&& (127 : Int64)) ||| (128 : Int64)))))), (.int (Int8.toInt32 (Int32.toInt8 (Int64.toInt32 ((x3 &&& (127 : Int64)) ||| (128 : Int64)))))), (.int (Int8.toInt32 (Int32.toInt8 (Int64.toInt32 ((x4 &&& (127 : Int64)) ||| (128 : Int64)))))), (.int (Int8.toInt32 (Int32.toInt8 (Int64.toInt32 ((x5 &&& (127 : Int64)) ||| (128 : Int64)))))), (.int (Int8.toInt32 (Int32.toInt8 (Int64.toInt32 ((x6 &&& (127 : Int64)) ||| (128 : Int64)))))), (.int (Int8.toInt32 (Int32.toInt8 (Int64.toInt32 x7)))), (.int f), (.int f), (.int f), (.int f), (.int f)] := A_67
                  refine g_iload C d2_57 (v := (9 : Int32)) rfl (pc' := 59) rfl ?_
                  refine g_ret C (v := (.int (9 : Int32))) (ty := .int) rfl rfl (Or.inl ⟨rfl, Or.inl rfl, _, rfl⟩) d2_59 (by decide) (by decide) ?_
                  have zk : Jvm.Free.XT.ushrL x7 (7 : Int32) = 0 := (own_m128 _).mp hb_64
                  have zz : Jvm.Free.XT.ushrL x (56 : Int32) = 0 := by rw [← own_sh x (ka := 49) (kb := 7) (a := (49 : Int32)) (b := (7 : Int32)) (by decide) (by decide) (by decide), ← y7]; exact zk
                  have hn : nlen x = (8 : Int32) := by rw [nlen, if_neg nz1, if_neg nz2, if_neg nz3, if_neg nz4, if_neg nz5, if_neg nz6, if_neg nz7, if_pos zz]
                  have e0 : expF (0 : Int32) (1 : Int32) (8 : Int32) x f = f := own_e0 (by decide)
                  have e1 : expF (1 : Int32) (1 : Int32) (8 : Int32) x f = (Int8.toInt32 (Int32.toInt8 (Int64.toInt32 ((x &&& (127 : Int64)) ||| (128 : Int64))))) := own_e2 (c := (0 : Int32)) (by decide) (by decide) (by decide) (by decide) (own_u0 x)
                  have e2 : expF (2 : Int32) (1 : Int32) (8 : Int32) x f = (Int8.toInt32 (Int32.toInt8 (Int64.toInt32 ((x1 &&& (127 : Int64)) ||| (128 : Int64))))) := own_e2 (c := (7 : Int32)) (by decide) (by decide) (by decide) (by decide) y1
                  have e3 : expF (3 : Int32) (1 : Int32) (8 : Int32) x f = (Int8.toInt32 (Int32.toInt8 (Int64.toInt32 ((x2 &&& (127 : Int64)) ||| (128 : Int64))))) := own_e2 (c := (14 : Int32)) (by decide) (by decide) (by decide) (by decide) y2
                  have e4 : expF (4 : Int32) (1 : Int32) (8 : Int32) x f = (Int8.toInt32 (Int32.toInt8 (Int64.toInt32 ((x3 &&& (127 : Int64)) ||| (128 : Int64))))) := own_e2 (c := (21 : Int32)) (by decide) (by decide) (by decide) (by decide) y3
                  have e5 : expF (5 : Int32) (1 : Int32) (8 : Int32) x f = (Int8.toInt32 (Int32.toInt8 (Int64.toInt32 ((x4 &&& (127 : Int64)) ||| (128 : Int64))))) := own_e2 (c := (28 : Int32)) (by decide) (by decide) (by decide) (by decide) y4
                  have e6 : expF (6 : Int32) (1 : Int32) (8 : Int32) x f = (Int8.toInt32 (Int32.toInt8 (Int64.toInt32 ((x5 &&& (127 : Int64)) ||| (128 : Int64))))) := own_e2 (c := (35 : Int32)) (by decide) (by decide) (by decide) (by decide) y5
                  have e7 : expF (7 : Int32) (1 : Int32) (8 : Int32) x f = (Int8.toInt32 (Int32.toInt8 (Int64.toInt32 ((x6 &&& (127 : Int64)) ||| (128 : Int64))))) := own_e2 (c := (42 : Int32)) (by decide) (by decide) (by decide) (by decide) y6
                  have e8 : expF (8 : Int32) (1 : Int32) (8 : Int32) x f = (Int8.toInt32 (Int32.toInt8 (Int64.toInt32 x7))) := own_e3 (c := (49 : Int32)) (by decide) (by decide) (by decide) (by decide) y7 zk
                  have e9 : expF (9 : Int32) (1 : Int32) (8 : Int32) x f = f := own_e1 (by decide) (by decide)
                  have e10 : expF (10 : Int32) (1 : Int32) (8 : Int32) x f = f := own_e1 (by decide) (by decide)
                  have e11 : expF (11 : Int32) (1 : Int32) (8 : Int32) x f = f := own_e1 (by decide) (by decide)
                  have e12 : expF (12 : Int32) (1 : Int32) (8 : Int32) x f = f := own_e1 (by decide) (by decide)
                  have e13 : expF (13 : Int32) (1 : Int32) (8 : Int32) x f = f := own_e1 (by decide) (by decide)
                  rw [hn]
                  exact ⟨rfl, (((((((((Keep.refl h0 [a1]).trans K_7 (allS (Or.inl (List.mem_of_getElem? (i := 0) rfl)) all0)).trans K_16 (allS (Or.inl (List.mem_of_getElem? (i := 0) rfl)) all0)).trans K_25 (allS (Or.inl (List.mem_of_getElem? (i := 0) rfl)) all0)).trans K_34 (allS (Or.inl (List.mem_of_getElem? (i := 0) rfl)) all0)).trans K_43 (allS (Or.inl (List.mem_of_getElem? (i := 0) rfl)) all0)).trans K_52 (allS (Or.inl (List.mem_of_getElem? (i := 0) rfl)) all0)).trans K_61 (allS (Or.inl (List.mem_of_getElem? (i := 0) rfl)) all0)).trans K_66 (allS (Or.inl (List.mem_of_getElem? (i := 0) rfl)) all0)), by rw [e0, e1, e2, e3, e4, e5, e6, e7, e8, e9, e10, e11, e12, e13]; exact f_68⟩
                · refine g_if_n C d2_14 (Jvm.Free.XT.ll_eq_f hb_64) (pc' := 17) rfl ?_
                  refine g_aload_n C d2_17 (v := (.ref a1)) rfl rfl (pc' := 18) rfl ?_
                  refine g_iload C d2_18 (v := (8 : Int32)) rfl (pc' := 20) rfl ?_
                  refine g_iinc C d2_20 (v := (8 : Int32)) (w := (9 : Int32)) rfl rfl (L' := #[.val (.ref a1), .val (.int (1 : Int32)), .val (.long x), .second, .val (.int (9 : Int32)), .val (.long x7), .second]) rfl (pc' := 23) rfl ?_
                  refine g_lload C d2_23 (v := x7) rfl (pc' := 25) rfl ?_
                  refine g_ldc2_w C (v := (127 : Int64)) (own_w hw 14 rfl) d2_25 (pc' := 28) rfl ?_
                  refine g_land C (x := x7) (y := (127 : Int64)) d2_28  (pc' := 29) rfl ?_
                  refine g_ldc2_w C (v := (128 : Int64)) (own_w hw 15 rfl) d2_29 (pc' := 32) rfl ?_
                  refine g_lor C (x := (x7 &&& (127 : Int64))) (y := (128 : Int64)) d2_32  (pc' := 33) rfl ?_
                  refine g_l2i C (x := ((x7 &&& (127 : Int64)) ||| (128 : Int64))) d2_33 (pc' := 34) rfl ?_
                  refine g_i2b C (x := (Int64.toInt32 ((x7 &&& (127 : Int64)) ||| (128 : Int64)))) d2_34 (pc' := 35) rfl ?_
                  refine g_bastoreB C f_63 (by decide) (i := 8) (by decide) (show 8 < 14 by decide) (w := (.int (Int8.toInt32 (Int32.toInt8 (Int64.toInt32 ((x7 &&& (127 : Int64)) ||| (128 : Int64))))))) (congrArg Value.int (own_narb _)) g0 d2_35 (pc' := 36) rfl ?_
                  intro h_69 K_70 A_71
                  have f_72 : Ary Z h_69 a1 .byte [(.int f), (.int (Int8.toInt32 (Int32.toInt8 (Int64.toInt32 ((x &&& (127 : Int64)) ||| (128 : Int64)))))), (.int (Int8.toInt32 (Int32.toInt8 (Int64.toInt32 ((x1 &&& (127 : Int64)) ||| (128 : Int64)))))), (.int (Int8.toInt32 (Int32.toInt8 (Int64.toInt32 ((x2 &&& (127 : Int64)) ||| (128 : Int64)))))), (.int (Int8.toInt32 (Int32.toInt8 (Int64.toInt32 ((x3 &&& (127 : Int64)) ||| (128 : Int64)))))), (.int (Int8.toInt32 (Int32.toInt8 (Int64.toInt32 ((x4 &&& (127 : Int64)) ||| (128 : Int64)))))), (.int (Int8.toInt32 (Int32.toInt8 (Int64.toInt32 ((x5 &&& (127 : Int64)) ||| (128 : Int64)))))), (.int (Int8.toInt32 (Int32.toInt8 (Int64.toInt32 ((x6 &&& (127 : Int64)) ||| (128 : Int64)))))), (.int (Int8.toInt32 (Int32.toInt8 (Int64.toInt32 ((x7 &&& (127 : Int64)) ||| (128 : Int64)))))), (.int f), (.int f), (.int f), (.int f), (.int f)] := A_71
                  refine g_lload C d2_36 (v := x7) rfl (pc' := 38) rfl ?_
                  refine g_bipush C d2_38 (v := (7 : Int32)) rfl (pc' := 40) rfl ?_
                  refine g_lushr C (x := x7) (y := (7 : Int32)) d2_40  (pc' := 41) rfl ?_
                  obtain ⟨x8, hx8⟩ : ∃ z : Int64, z = (Jvm.Free.XT.ushrL x7 (7 : Int32)) := ⟨_, rfl⟩
                  rw [← hx8]
                  have y8 : x8 = Jvm.Free.XT.ushrL x (56 : Int32) := by rw [hx8, y7]; exact own_sh x (ka := 49) (kb := 7) (by decide) (by decide) (by decide)
                  have nz8 : ¬ Jvm.Free.XT.ushrL x (56 : Int32) = 0 := by rw [← y8, hx8]; exact fun q => hb_64 ((own_m128 _).mpr q)
                  refine g_lstore C d2_41 (v := x8) (L' := #[.val (.ref a1), .val (.int (1 : Int32)), .val (.long x), .second, .val (.int (9 : Int32)), .val (.long x8), .second]) rfl (pc' := 43) rfl ?_
                  refine g_goto C d2_43 (pc' := 6) (by decide) (by decide) ?_
                  refine g_lload C d2_6 (v := x8) rfl (pc' := 8) rfl ?_
                  refine g_ldc2_w C (v := (-128 : Int64)) (own_w hw 9 rfl) d2_8 (pc' := 11) rfl ?_
                  refine g_land C (x := x8) (y := (-128 : Int64)) d2_11  (pc' := 12) rfl ?_
                  refine g_lconst C d2_12 (v := (0 : Int64)) rfl (pc' := 13) rfl ?_
                  refine g_lcmp C (x := (x8 &&& (-128 : Int64))) (y := (0 : Int64)) d2_13 (pc' := 14) rfl ?_
                  by_cases hb_73 : (x8 &&& (-128 : Int64)) = (0 : Int64)
                  · refine g_if_y C d2_14 (Jvm.Free.XT.ll_eq_t hb_73) (pc' := 46) (by decide) (by decide) ?_
                    refine g_aload_n C d2_46 (v := (.ref a1)) rfl rfl (pc' := 47) rfl ?_
                    refine g_iload C d2_47 (v := (9 : Int32)) rfl (pc' := 49) rfl ?_
                    refine g_iinc C d2_49 (v := (9 : Int32)) (w := (10 : Int32)) rfl rfl (L' := #[.val (.ref a1), .val (.int (1 : Int32)), .val (.long x), .second, .val (.int (10 : Int32)), .val (.long x8), .second]) rfl (pc' := 52) rfl ?_
                    refine g_lload C d2_52 (v := x8) rfl (pc' := 54) rfl ?_
                    refine g_l2i C (x := x8) d2_54 (pc' := 55) rfl ?_
                    refine g_i2b C (x := (Int64.toInt32 x8)) d2_55 (pc' := 56) rfl ?_
                    refine g_bastoreB C f_72 (by decide) (i := 9) (by decide) (show 9 < 14 by decide) (w := (.int (Int8.toInt32 (Int32.toInt8 (Int64.toInt32 x8))))) (congrArg Value.int (own_narb _)) g0 d2_56 (pc' := 57) rfl ?_
                    intro h_74 K_75 A_76
                    have f_77 : Ary Z h_74 a1 .byte [(.int f), (.int (Int8.toInt32 (Int32.toInt8 (Int64.toInt32 ((x &&& (127 : Int64)) ||| (128 : Int64)))))), (.int (Int8.toInt32 (Int32.toInt8 (Int64.toInt32 ((x1 &&& (127 : Int64)) ||| (128 : Int64)))))), (.int (Int8.toInt32 (Int32.toInt8 (Int64.toInt32 ((x2 &&& (127 : Int64)) ||| (128 : Int64)))))), (.int (Int8.toInt32 (Int32.toInt8 (Int64.toInt32 ((x3 &&& (127 : Int64)) ||| (128 : Int64)))))), (.int (Int8.toInt32 (Int32.toInt8 (Int64.toInt32 ((x4 &&& (127 : Int64)) ||| (128 : Int64)))))), (.int (Int8.toInt32 (Int32.toInt8 (Int64.toInt32 ((x5 &&& (127 : Int64)) ||| (128 : Int64)))))), (.int (Int8.toInt32 (Int32.toInt8 (Int64.toInt32 ((x6 &&& (127 : Int64)) ||| (128 : Int64)))))), (.int (Int8.toInt32 (Int32.toInt8 (Int64.toInt32 ((x7 &&& (127 : Int64)) ||| (128 : Int64)))))), (.int (Int8.toInt32 (Int32.toInt8 (Int64.toInt32 x8)))), (.int f), (.int f), (.int f), (.int f)] := A_76
                    refine g_iload C d2_57 (v := (10 : Int32)) rfl (pc' := 59) rfl ?_
                    refine g_ret C (v := (.int (10 : Int32))) (ty := .int) rfl rfl (Or.inl ⟨rfl, Or.inl rfl, _, rfl⟩) d2_59 (by decide) (by decide) ?_
                    have zk : Jvm.Free.XT.ushrL x8 (7 : Int32) = 0 := (own_m128 _).mp hb_73
                    have zz : Jvm.Free.XT.ushrL x (63 : Int32) = 0 := by rw [← own_sh x (ka := 56) (kb := 7) (a := (56 : Int32)) (b := (7 : Int32)) (by decide) (by decide) (by decide), ← y8]; exact zk
                    have hn : nlen x = (9 : Int32) := by rw [nlen, if_neg nz1, if_neg nz2, if_neg nz3, if_neg nz4, if_neg nz5, if_neg nz6, if_neg nz7, if_neg nz8, if_pos zz]
                    have e0 : expF (0 : Int32) (1 : Int32) (9 : Int32) x f = f := own_e0 (by decide)
                    have e1 : expF (1 : Int32) (1 : Int32) (9 : Int32) x f = (Int8.toInt32 (Int32.toInt8 (Int64.toInt32 ((x &&& (127 : Int64)) ||| (128 : Int64))))) := own_e2 (c := (0 : Int32)) (by decide) (by decide) (by decide) (by decide) (own_u0 x)
                    have e2 : expF (2 : Int32) (1 : Int32) (9 : Int32) x f = (Int8.toInt32 (Int32.toInt8 (Int64.toInt32 ((x1 &&& (127 : Int64)) ||| (128 : Int64))))) := own_e2 (c := (7 : Int32)) (by decide) (by decide) (by decide) (by decide) y1
                    have e3 : expF (3 : Int32) (1 : Int32) (9 : Int32) x f = (Int8.toInt32 (Int32.toInt8 (Int64.toInt32 ((x2 &&& (127 : Int64)) ||| (128 : Int64))))) := own_e2 (c := (14 : Int32)) (by decide) (by decide) (by decide) (by decide) y2
                    have e4 : expF (4 : Int32) (1 : Int32) (9 : Int32) x f = (Int8.toInt32 (Int32.toInt8 (Int64.toInt32 ((x3 &&& (127 : Int64)) ||| (128 : Int64))))) := own_e2 (c := (21 : Int32)) (by decide) (by decide) (by decide) (by decide) y3
                    have e5 : expF (5 : Int32) (1 : Int32) (9 : Int32) x f = (Int8.toInt32 (Int32.toInt8 (Int64.toInt32 ((x4 &&& (127 : Int64)) ||| (128 : Int64))))) := own_e2 (c := (28 : Int32)) (by decide) (by decide) (by decide) (by decide) y4
                    have e6 : expF (6 : Int32) (1 : Int32) (9 : Int32) x f = (Int8.toInt32 (Int32.toInt8 (Int64.toInt32 ((x5 &&& (127 : Int64)) ||| (128 : Int64))))) := own_e2 (c := (35 : Int32)) (by decide) (by decide) (by decide) (by decide) y5
                    have e7 : expF (7 : Int32) (1 : Int32) (9 : Int32) x f = (Int8.toInt32 (Int32.toInt8 (Int64.toInt32 ((x6 &&& (127 : Int64)) ||| (128 : Int64))))) := own_e2 (c := (42 : Int32)) (by decide) (by decide) (by decide) (by decide) y6
                    have e8 : expF (8 : Int32) (1 : Int32) (9 : Int32) x f = (Int8.toInt32 (Int32.toInt8 (Int64.toInt32 ((x7 &&& (127 : Int64)) ||| (128 : Int64))))) := own_e2 (c := (49 : Int32)) (by decide) (by decide) (by decide) (by decide) y7
                    have e9 : expF (9 : Int32) (1 : Int32) (9 : Int32) x f = (Int8.toInt32 (Int32.toInt8 (Int64.toInt32 x8))) := own_e3 (c := (56 : Int32)) (by decide) (by decide) (by decide) (by decide) y8 zk
                    have e10 : expF (10 : Int32) (1 : Int32) (9 : Int32) x f = f := own_e1 (by decide) (by decide)
                    have e11 : expF (11 : Int32) (1 : Int32) (9 : Int32) x f = f := own_e1 (by decide) (by decide)
                    have e12 : expF (12 : Int32) (1 : Int32) (9 : Int32) x f = f := own_e1 (by decide) (by decide)
                    have e13 : expF (13 : Int32) (1 : Int32) (9 : Int32) x f = f := own_e1 (by decide) (by decide)
                    rw [hn]
                    exact ⟨rfl, ((((((((((Keep.refl h0 [a1]).trans K_7 (allS (Or.inl (List.mem_of_getElem? (i := 0) rfl)) all0)).trans K_16 (allS (Or.inl (List.mem_of_getElem? (i := 0) rfl)) all0)).trans K_25 (allS (Or.inl (List.mem_of_getElem? (i := 0) rfl)) all0)).trans K_34 (allS (Or.inl (List.mem_of_getElem? (i := 0) rfl)) all0)).trans K_43 (allS (Or.inl (List.mem_of_getElem? (i := 0) rfl)) all0)).trans K_52 (allS (Or.inl (List.mem_of_getElem? (i := 0) rfl)) all0)).trans K_61 (allS (Or.inl (List.mem_of_getElem? (i := 0) rfl)) all0)).trans K_70 (allS (Or.inl (List.mem_of_getElem? (i := 0) rfl)) all0)).trans K_75 (allS (Or.inl (List.mem_of_getElem? (i := 0) rfl)) all0)), by rw [e0, e1, e2, e3, e4, e5, e6, e7, e8, e9, e10, e11, e12, e13]; exact f_77⟩
                  · refine g_if_n C d2_14 (Jvm.Free.XT.ll_eq_f hb_73) (pc' := 17) rfl ?_
                    refine g_aload_n C d2_17 (v := (.ref a1)) rfl rfl (pc' := 18) rfl ?_
                    refine g_iload C d2_18 (v := (9 : Int32)) rfl (pc' := 20) rfl ?_
                    refine g_iinc C d2_20 (v := (9 : Int32)) (w := (10 : Int32)) rfl rfl (L' := #[.val (.ref a1), .val (.int (1 : Int32)), .val (.long x), .second, .val (.int (10 : Int32)), .val (.long x8), .second]) rfl (pc' := 23) rfl ?_
                    refine g_lload C d2_23 (v := x8) rfl (pc' := 25) rfl ?_
                    refine g_ldc2_w C (v := (127 : Int64)) (own_w hw 14 rfl) d2_25 (pc' := 28) rfl ?_
                    refine g_land C (x := x8) (y := (127 : Int64)) d2_28  (pc' := 29) rfl ?_
                    refine g_ldc2_w C (v := (128 : Int64)) (own_w hw 15 rfl) d2_29 (pc' := 32) rfl ?_
                    refine g_lor C (x := (x8 &&& (127 : Int64))) (y := (128 : Int64)) d2_32  (pc' := 33) rfl ?_
                    refine g_l2i C (x := ((x8 &&& (127 : Int64)) ||| (128 : Int64))) d2_33 (pc' := 34) rfl ?_
                    refine g_i2b C (x := (Int64.toInt32 ((x8 &&& (127 : Int64)) ||| (128 : Int64)))) d2_34 (pc' := 35) rfl ?_
                    refine g_bastoreB C f_72 (by decide) (i := 9) (by decide) (show 9 < 14 by decide) (w := (.int (Int8.toInt32 (Int32.toInt8 (Int64.toInt32 ((x8 &&& (127 : Int64)) ||| (128 : Int64))))))) (congrArg Value.int (own_narb _)) g0 d2_35 (pc' := 36) rfl ?_
                    intro h_78 K_79 A_80
                    have f_81 : Ary Z h_78 a1 .byte [(.int f), (.int (Int8.toInt32 (Int32.toInt8 (Int64.toInt32 ((x &&& (127 : Int64)) ||| (128 : Int64)))))), (.int (Int8.toInt32 (Int32.toInt8 (Int64.toInt32 ((x1 &&& (127 : Int64)) ||| (128 : Int64)))))), (.int (Int8.toInt32 (Int32.toInt8 (Int64.toInt32 ((x2 &&& (127 : Int64)) ||| (128 : Int64)))))), (.int (Int8.toInt32 (Int32.toInt8 (Int64.toInt32 ((x3 &&& (127 : Int64)) ||| (128 : Int64)))))), (.int (Int8.toInt32 (Int32.toInt8 (Int64.toInt32 ((x4 &&& (127 : Int64)) ||| (128 : Int64)))))), (.int (Int8.toInt32 (Int32.toInt8 (Int64.toInt32 ((x5 &&& (127 : Int64)) ||| (128 : Int64)))))), (.int (Int8.toInt32 (Int32.toInt8 (Int64.toInt32 ((x6 &&& (127 : Int64)) ||| (128 : Int64)))))), (.int (Int8.toInt32 (Int32.toInt8 (Int64.toInt32 ((x7 &&& (127 : Int64)) ||| (128 : Int64)))))), (.int (Int8.toInt32 (Int32.toInt8 (Int64.toInt32 ((x8 &&& (127 : Int64)) ||| (128 : Int64)))))), (.int f), (.int f), (.int f), (.int f)] := A_80
                    refine g_lload C d2_36 (v := x8) rfl (pc' := 38) rfl ?_
                    refine g_bipush C d2_38 (v := (7 : Int32)) rfl (pc' := 40) rfl ?_
                    refine g_lushr C (x := x8) (y := (7 : Int32)) d2_40  (pc' := 41) rfl ?_
                    obtain ⟨x9, hx9⟩ : ∃ z : Int64, z = (Jvm.Free.XT.ushrL x8 (7 : Int32)) := ⟨_, rfl⟩
                    rw [← hx9]
                    have y9 : x9 = Jvm.Free.XT.ushrL x (63 : Int32) := by rw [hx9, y8]; exact own_sh x (ka := 56) (kb := 7) (by decide) (by decide) (by decide)
                    have nz9 : ¬ Jvm.Free.XT.ushrL x (63 : Int32) = 0 := by rw [← y9, hx9]; exact fun q => hb_73 ((own_m128 _).mpr q)
                    refine g_lstore C d2_41 (v := x9) (L' := #[.val (.ref a1), .val (.int (1 : Int32)), .val (.long x), .second, .val (.int (10 : Int32)), .val (.long x9), .second]) rfl (pc' := 43) rfl ?_
                    refine g_goto C d2_43 (pc' := 6) (by decide) (by decide) ?_
                    refine g_lload C d2_6 (v := x9) rfl (pc' := 8) rfl ?_
                    refine g_ldc2_w C (v := (-128 : Int64)) (own_w hw 9 rfl) d2_8 (pc' := 11) rfl ?_
                    refine g_land C (x := x9) (y := (-128 : Int64)) d2_11  (pc' := 12) rfl ?_
                    refine g_lconst C d2_12 (v := (0 : Int64)) rfl (pc' := 13) rfl ?_
                    refine g_lcmp C (x := (x9 &&& (-128 : Int64))) (y := (0 : Int64)) d2_13 (pc' := 14) rfl ?_
                    refine g_if_y C d2_14 (Jvm.Free.XT.ll_eq_t ((own_m128 _).mpr (by rw [y9]; exact own_zero x))) (pc' := 46) (by decide) (by decide) ?_
                    refine g_aload_n C d2_46 (v := (.ref a1)) rfl rfl (pc' := 47) rfl ?_
                    refine g_iload C d2_47 (v := (10 : Int32)) rfl (pc' := 49) rfl ?_
                    refine g_iinc C d2_49 (v := (10 : Int32)) (w := (11 : Int32)) rfl rfl (L' := #[.val (.ref a1), .val (.int (1 : Int32)), .val (.long x), .second, .val (.int (11 : Int32)), .val (.long x9), .second]) rfl (pc' := 52) rfl ?_
                    refine g_lload C d2_52 (v := x9) rfl (pc' := 54) rfl ?_
                    refine g_l2i C (x := x9) d2_54 (pc' := 55) rfl ?_
                    refine g_i2b C (x := (Int64.toInt32 x9)) d2_55 (pc' := 56) rfl ?_
                    refine g_bastoreB C f_81 (by decide) (i := 10) (by decide) (show 10 < 14 by decide) (w := (.int (Int8.toInt32 (Int32.toInt8 (Int64.toInt32 x9))))) (congrArg Value.int (own_narb _)) g0 d2_56 (pc' := 57) rfl ?_
                    intro h_82 K_83 A_84
                    have f_85 : Ary Z h_82 a1 .byte [(.int f), (.int (Int8.toInt32 (Int32.toInt8 (Int64.toInt32 ((x &&& (127 : Int64)) ||| (128 : Int64)))))), (.int (Int8.toInt32 (Int32.toInt8 (Int64.toInt32 ((x1 &&& (127 : Int64)) ||| (128 : Int64)))))), (.int (Int8.toInt32 (Int32.toInt8 (Int64.toInt32 ((x2 &&& (127 : Int64)) ||| (128 : Int64)))))), (.int (Int8.toInt32 (Int32.toInt8 (Int64.toInt32 ((x3 &&& (127 : Int64)) ||| (128 : Int64)))))), (.int (Int8.toInt32 (Int32.toInt8 (Int64.toInt32 ((x4 &&& (127 : Int64)) ||| (128 : Int64)))))), (.int (Int8.toInt32 (Int32.toInt8 (Int64.toInt32 ((x5 &&& (127 : Int64)) ||| (128 : Int64)))))), (.int (Int8.toInt32 (Int32.toInt8 (Int64.toInt32 ((x6 &&& (127 : Int64)) ||| (128 : Int64)))))), (.int (Int8.toInt32 (Int32.toInt8 (Int64.toInt32 ((x7 &&& (127 : Int64)) ||| (128 : Int64)))))), (.int (Int8.toInt32 (Int32.toInt8 (Int64.toInt32 ((x8 &&& (127 : Int64)) ||| (128 : Int64)))))), (.int (Int8.toInt32 (Int32.toInt8 (Int64.toInt32 x9)))), (.int f), (.int f), (.int f)] := A_84
                    refine g_iload C d2_57 (v := (11 : Int32)) rfl (pc' := 59) rfl ?_
                    refine g_ret C (v := (.int (11 : Int32))) (ty := .int) rfl rfl (Or.inl ⟨rfl, Or.inl rfl, _, rfl⟩) d2_59 (by decide) (by decide) ?_
                    have zk : Jvm.Free.XT.ushrL x9 (7 : Int32) = 0 := by rw [y9]; exact own_zero x
                    have hn : nlen x = (10 : Int32) := by rw [nlen, if_neg nz1, if_neg nz2, if_neg nz3, if_neg nz4, if_neg nz5, if_neg nz6, if_neg nz7, if_neg nz8, if_neg nz9]
                    have e0 : expF (0 : Int32) (1 : Int32) (10 : Int32) x f = f := own_e0 (by decide)
                    have e1 : expF (1 : Int32) (1 : Int32) (10 : Int32) x f = (Int8.toInt32 (Int32.toInt8 (Int64.toInt32 ((x &&& (127 : Int64)) ||| (128 : Int64))))) := own_e2 (c := (0 : Int32)) (by decide) (by decide) (by decide) (by decide) (own_u0 x)
                    have e2 : expF (2 : Int32) (1 : Int32) (10 : Int32) x f = (Int8.toInt32 (Int32.toInt8 (Int64.toInt32 ((x1 &&& (127 : Int64)) ||| (128 : Int64))))) := own_e2 (c := (7 : Int32)) (by decide) (by decide) (by decide) (by decide) y1
                    have e3 : expF (3 : Int32) (1 : Int32) (10 : Int32) x f = (Int8.toInt32 (Int32.toInt8 (Int64.toInt32 ((x2 &&& (127 : Int64)) ||| (128 : Int64))))) := own_e2 (c := (14 : Int32)) (by decide) (by decide) (by decide) (by decide) y2
                    have e4 : expF (4 : Int32) (1 : Int32) (10 : Int32) x f = (Int8.toInt32 (Int32.toInt8 (Int64.toInt32 ((x3 &&& (127 : Int64)) ||| (128 : Int64))))) := own_e2 (c := (21 : Int32)) (by decide) (by decide) (by decide) (by decide) y3
                    have e5 : expF (5 : Int32) (1 : Int32) (10 : Int32) x f = (Int8.toInt32 (Int32.toInt8 (Int64.toInt32 ((x4 &&& (127 : Int64)) ||| (128 : Int64))))) := own_e2 (c := (28 : Int32)) (by decide) (by decide) (by decide) (by decide) y4
                    have e6 : expF (6 : Int32) (1 : Int32) (10 : Int32) x f = (Int8.toInt32 (Int32.toInt8 (Int64.toInt32 ((x5 &&& (127 : Int64)) ||| (128 : Int64))))) := own_e2 (c := (35 : Int32)) (by decide) (by decide) (by decide) (by decide) y5
                    have e7 : expF (7 : Int32) (1 : Int32) (10 : Int32) x f = (Int8.toInt32 (Int32.toInt8 (Int64.toInt32 ((x6 &&& (127 : Int64)) ||| (128 : Int64))))) := own_e2 (c := (42 : Int32)) (by decide) (by decide) (by decide) (by decide) y6
                    have e8 : expF (8 : Int32) (1 : Int32) (10 : Int32) x f = (Int8.toInt32 (Int32.toInt8 (Int64.toInt32 ((x7 &&& (127 : Int64)) ||| (128 : Int64))))) := own_e2 (c := (49 : Int32)) (by decide) (by decide) (by decide) (by decide) y7
                    have e9 : expF (9 : Int32) (1 : Int32) (10 : Int32) x f = (Int8.toInt32 (Int32.toInt8 (Int64.toInt32 ((x8 &&& (127 : Int64)) ||| (128 : Int64))))) := own_e2 (c := (56 : Int32)) (by decide) (by decide) (by decide) (by decide) y8
                    have e10 : expF (10 : Int32) (1 : Int32) (10 : Int32) x f = (Int8.toInt32 (Int32.toInt8 (Int64.toInt32 x9))) := own_e3 (c := (63 : Int32)) (by decide) (by decide) (by decide) (by decide) y9 zk
                    have e11 : expF (11 : Int32) (1 : Int32) (10 : Int32) x f = f := own_e1 (by decide) (by decide)
                    have e12 : expF (12 : Int32) (1 : Int32) (10 : Int32) x f = f := own_e1 (by decide) (by decide)
                    have e13 : expF (13 : Int32) (1 : Int32) (10 : Int32) x f = f := own_e1 (by decide) (by decide)
                    rw [hn]
                    exact ⟨rfl, (((((((((((Keep.refl h0 [a1]).trans K_7 (allS (Or.inl (List.mem_of_getElem? (i := 0) rfl)) all0)).trans K_16 (allS (Or.inl (List.mem_of_getElem? (i := 0) rfl)) all0)).trans K_25 (allS (Or.inl (List.mem_of_getElem? (i := 0) rfl)) all0)).trans K_34 (allS (Or.inl (List.mem_of_getElem? (i := 0) rfl)) all0)).trans K_43 (allS (Or.inl (List.mem_of_getElem? (i := 0) rfl)) all0)).trans K_52 (allS (Or.inl (List.mem_of_getElem? (i := 0) rfl)) all0)).trans K_61 (allS (Or.inl (List.mem_of_getElem? (i := 0) rfl)) all0)).trans K_70 (allS (Or.inl (List.mem_of_getElem? (i := 0) rfl)) all0)).trans K_79 (allS (Or.inl (List.mem_of_getElem? (i := 0) rfl)) all0)).trans K_83 (allS (Or.inl (List.mem_of_getElem? (i := 0) rfl)) all0)), by rw [e0, e1, e2, e3, e4, e5, e6, e7, e8, e9, e10, e11, e12, e13]; exact f_85⟩
set_option maxRecDepth 65536 in
set_option maxHeartbeats 40000000 in
theorem rm_put2 (l : Launch) (Z : State) (a0 : Array Value) (hw : ∀ d ∈ tables_1, d.before a0 Z = true) (n0 : Nat) (a1 : Addr) (x : Int64) (f : Int32) (h0 : Heap) (Z0 : n0 ≤ h0.size) (F1 : Ary Z h0 a1 .byte [.int f, .int f, .int f, .int f, .int f, .int f, .int f, .int f, .int f, .int f, .int f, .int f, .int f, .int f]) (g0 : n0 ≤ a1) :
    Met1 l Z (⟨"com/example/wirefield/wirefield/WireFormat", "putVarint", "([BIJ)I"⟩ : MethodName) prog_75_method_10_code 7 (some .int) ({ frames := 0, cells := 0, slots := 0, locals := 0 } : Room) n0 #[(.ref a1), (.int (2 : Int32)), (.long x)] h0 (fun v h => v = some (.int ((2 : Int32) + (nlen x))) ∧ Keep h0 h [a1] ∧ Ary Z h a1 .byte [.int (expF (0 : Int32) (2 : Int32) (nlen x) x f), .int (expF (1 : Int32) (2 : Int32) (nlen x) x f), .int (expF (2 : Int32) (2 : Int32) (nlen x) x f), .int (expF (3 : Int32) (2 : Int32) (nlen x) x f), .int (expF (4 : Int32) (2 : Int32) (nlen x) x f), .int (expF (5 : Int32) (2 : Int32) (nlen x) x f), .int (expF (6 : Int32) (2 : Int32) (nlen x) x f), .int (expF (7 : Int32) (2 : Int32) (nlen x) x f), .int (expF (8 : Int32) (2 : Int32) (nlen x) x f), .int (expF (9 : Int32) (2 : Int32) (nlen x) x f), .int (expF (10 : Int32) (2 : Int32) (nlen x) x f), .int (expF (11 : Int32) (2 : Int32) (nlen x) x f), .int (expF (12 : Int32) (2 : Int32) (nlen x) x f), .int (expF (13 : Int32) (2 : Int32) (nlen x) x f)]) := by
  refine met_of (plainFor_of_name own_pn_com_example_wirefield_wirefield_WireFormat) (L0 := #[.val (.ref a1), .val (.int (2 : Int32)), .val (.long x), .second, .unset, .unset, .unset]) (by first | rfl | (simp [argsToLocals, Value.category]; done)) ?_
  intro B C
  change Ctx B l _ _ "com/example/wirefield/wirefield/WireFormat" "putVarint" _ _ Z at C
  refine g_iload_n C d2_0 (v := (2 : Int32)) rfl (pc' := 1) rfl ?_
  refine g_istore C d2_1 (v := (2 : Int32)) (L' := #[.val (.ref a1), .val (.int (2 : Int32)), .val (.long x), .second, .val (.int (2 : Int32)), .unset, .unset]) rfl (pc' := 3) rfl ?_
  refine g_lload_n C d2_3 (v := x) rfl (pc' := 4) rfl ?_
  refine g_lstore C d2_4 (v := x) (L' := #[.val (.ref a1), .val (.int (2 : Int32)), .val (.long x), .second, .val (.int (2 : Int32)), .val (.long x), .second]) rfl (pc' := 6) rfl ?_
  refine g_lload C d2_6 (v := x) rfl (pc' := 8) rfl ?_
  refine g_ldc2_w C (v := (-128 : Int64)) (own_w hw 9 rfl) d2_8 (pc' := 11) rfl ?_
  refine g_land C (x := x) (y := (-128 : Int64)) d2_11  (pc' := 12) rfl ?_
  refine g_lconst C d2_12 (v := (0 : Int64)) rfl (pc' := 13) rfl ?_
  refine g_lcmp C (x := (x &&& (-128 : Int64))) (y := (0 : Int64)) d2_13 (pc' := 14) rfl ?_
  by_cases hb_1 : (x &&& (-128 : Int64)) = (0 : Int64)
  · refine g_if_y C d2_14 (Jvm.Free.XT.ll_eq_t hb_1) (pc' := 46) (by decide) (by decide) ?_
    refine g_aload_n C d2_46 (v := (.ref a1)) rfl rfl (pc' := 47) rfl ?_
    refine g_iload C d2_47 (v := (2 : Int32)) rfl (pc' := 49) rfl ?_
    refine g_iinc C d2_49 (v := (2 : Int32)) (w := (3 : Int32)) rfl rfl (L' := #[.val (.ref a1), .val (.int (2 : Int32)), .val (.long x), .second, .val (.int (3 : Int32)), .val (.long x), .second]) rfl (pc' := 52) rfl ?_
    refine g_lload C d2_52 (v := x) rfl (pc' := 54) rfl ?_
    refine g_l2i C (x := x) d2_54 (pc' := 55) rfl ?_
    refine g_i2b C (x := (Int64.toInt32 x)) d2_55 (pc' := 56) rfl ?_
    refine g_bastoreB C F1 (by decide) (i := 2) (by decide) (show 2 < 14 by decide) (w := (.int (Int8.toInt32 (Int32.toInt8 (Int64.toInt32 x))))) (congrArg Value.int (own_narb _)) g0 d2_56 (pc' := 57) rfl ?_
    intro h_2 K_3 A_4
    have f_5 : Ary Z h_2 a1 .byte [(.int f), (.int f), (.int (Int8.toInt32 (Int32.toInt8 (Int64.toInt32 x)))), (.int f), (.int f), (.int f), (.int f), (.int f), (.int f), (.int f), (.int f), (.int f), (.int f), (.int f)] := A_4
    refine g_iload C d2_57 (v := (3 : Int32)) rfl (pc' := 59) rfl ?_
    refine g_ret C (v := (.int (3 : Int32))) (ty := .int) rfl rfl (Or.inl ⟨rfl, Or.inl rfl, _, rfl⟩) d2_59 (by decide) (by decide) ?_
    have zk : Jvm.Free.XT.ushrL x (7 : Int32) = 0 := (own_m128 _).mp hb_1
    have zz : Jvm.Free.XT.ushrL x (7 : Int32) = 0 := zk
    have hn : nlen x = (1 : Int32) := by rw [nlen, if_pos zz]
    have e0 : expF (0 : Int32) (2 : Int32) (1 : Int32) x f = f := own_e0 (by decide)
    have e1 : expF (1 : Int32) (2 : Int32) (1 : Int32) x f = f := own_e0 (by decide)
    have e2 : expF (2 : Int32) (2 : Int32) (1 : Int32) x f = (Int8.toInt32 (Int32.toInt8 (Int64.toInt32 x))) := own_e3 (c := (0 : Int32)) (by decide) (by decide) (by decide) (by decide) (own_u0 x) zk
    have e3 : expF (3 : Int32) (2 : Int32) (1 : Int32) x f = f := own_e1 (by decide) (by decide)
    have e4 : expF (4 : Int32) (2 : Int32) (1 : Int32) x f = f := own_e1 (by decide) (by decide)
    have e5 : expF (5 : Int32) (2 : Int32) (1 : Int32) x f = f := own_e1 (by decide) (by decide)
    have e6 : expF (6 : Int32) (2 : Int32) (1 : Int32) x f = f := own_e1 (by decide) (by decide)
    have e7 : expF (7 : Int32) (2 : Int32) (1 : Int32) x f = f := own_e1 (by decide) (by decide)
    have e8 : expF (8 : Int32) (2 : Int32) (1 : Int32) x f = f := own_e1 (by decide) (by decide)
    have e9 : expF (9 : Int32) (2 : Int32) (1 : Int32) x f = f := own_e1 (by decide) (by decide)
    have e10 : expF (10 : Int32) (2 : Int32) (1 : Int32) x f = f := own_e1 (by decide) (by decide)
    have e11 : expF (11 : Int32) (2 : Int32) (1 : Int32) x f = f := own_e1 (by decide) (by decide)
    have e12 : expF (12 : Int32) (2 : Int32) (1 : Int32) x f = f := own_e1 (by decide) (by decide)
    have e13 : expF (13 : Int32) (2 : Int32) (1 : Int32) x f = f := own_e1 (by decide) (by decide)
    rw [hn]
    exact ⟨rfl, ((Keep.refl h0 [a1]).trans K_3 (allS (Or.inl (List.mem_of_getElem? (i := 0) rfl)) all0)), by rw [e0, e1, e2, e3, e4, e5, e6, e7, e8, e9, e10, e11, e12, e13]; exact f_5⟩
  · refine g_if_n C d2_14 (Jvm.Free.XT.ll_eq_f hb_1) (pc' := 17) rfl ?_
    refine g_aload_n C d2_17 (v := (.ref a1)) rfl rfl (pc' := 18) rfl ?_
    refine g_iload C d2_18 (v := (2 : Int32)) rfl (pc' := 20) rfl ?_
    refine g_iinc C d2_20 (v := (2 : Int32)) (w := (3 : Int32)) rfl rfl (L' := #[.val (.ref a1), .val (.int (2 : Int32)), .val (.long x), .second, .val (.int (3 : Int32)), .val (.long x), .second]) rfl (pc' := 23) rfl ?_
    refine g_lload C d2_23 (v := x) rfl (pc' := 25) rfl ?_
    refine g_ldc2_w C (v := (127 : Int64)) (own_w hw 14 rfl) d2_25 (pc' := 28) rfl ?_
    refine g_land C (x := x) (y := (127 : Int64)) d2_28  (pc' := 29) rfl ?_
    refine g_ldc2_w C (v := (128 : Int64)) (own_w hw 15 rfl) d2_29 (pc' := 32) rfl ?_
    refine g_lor C (x := (x &&& (127 : Int64))) (y := (128 : Int64)) d2_32  (pc' := 33) rfl ?_
    refine g_l2i C (x := ((x &&& (127 : Int64)) ||| (128 : Int64))) d2_33 (pc' := 34) rfl ?_
    refine g_i2b C (x := (Int64.toInt32 ((x &&& (127 : Int64)) ||| (128 : Int64)))) d2_34 (pc' := 35) rfl ?_
    refine g_bastoreB C F1 (by decide) (i := 2) (by decide) (show 2 < 14 by decide) (w := (.int (Int8.toInt32 (Int32.toInt8 (Int64.toInt32 ((x &&& (127 : Int64)) ||| (128 : Int64))))))) (congrArg Value.int (own_narb _)) g0 d2_35 (pc' := 36) rfl ?_
    intro h_6 K_7 A_8
    have f_9 : Ary Z h_6 a1 .byte [(.int f), (.int f), (.int (Int8.toInt32 (Int32.toInt8 (Int64.toInt32 ((x &&& (127 : Int64)) ||| (128 : Int64)))))), (.int f), (.int f), (.int f), (.int f), (.int f), (.int f), (.int f), (.int f), (.int f), (.int f), (.int f)] := A_8
    refine g_lload C d2_36 (v := x) rfl (pc' := 38) rfl ?_
    refine g_bipush C d2_38 (v := (7 : Int32)) rfl (pc' := 40) rfl ?_
    refine g_lushr C (x := x) (y := (7 : Int32)) d2_40  (pc' := 41) rfl ?_
    obtain ⟨x1, hx1⟩ : ∃ z : Int64, z = (Jvm.Free.XT.ushrL x (7 : Int32)) := ⟨_, rfl⟩
    rw [← hx1]
    have y1 : x1 = Jvm.Free.XT.ushrL x (7 : Int32) := hx1
    have nz1 : ¬ Jvm.Free.XT.ushrL x (7 : Int32) = 0 := by rw [← y1, hx1]; exact fun q => hb_1 ((own_m128 _).mpr q)
    refine g_lstore C d2_41 (v := x1) (L' := #[.val (.ref a1), .val (.int (2 : Int32)), .val (.long x), .second, .val (.int (3 : Int32)), .val (.long x1), .second]) rfl (pc' := 43) rfl ?_
    refine g_goto C d2_43 (pc' := 6) (by decide) (by decide) ?_
    refine g_lload C d2_6 (v := x1) rfl (pc' := 8) rfl ?_
    refine g_ldc2_w C (v := (-128 : Int64)) (own_w hw 9 rfl) d2_8 (pc' := 11) rfl ?_
    refine g_land C (x := x1) (y := (-128 : Int64)) d2_11  (pc' := 12) rfl ?_
    refine g_lconst C d2_12 (v := (0 : Int64)) rfl (pc' := 13) rfl ?_
    refine g_lcmp C (x := (x1 &&& (-128 : Int64))) (y := (0 : Int64)) d2_13 (pc' := 14) rfl ?_
    by_cases hb_10 : (x1 &&& (-128 : Int64)) = (0 : Int64)
    · refine g_if_y C d2_14 (Jvm.Free.XT.ll_eq_t hb_10) (pc' := 46) (by decide) (by decide) ?_
      refine g_aload_n C d2_46 (v := (.ref a1)) rfl rfl (pc' := 47) rfl ?_
      refine g_iload C d2_47 (v := (3 : Int32)) rfl (pc' := 49) rfl ?_
      refine g_iinc C d2_49 (v := (3 : Int32)) (w := (4 : Int32)) rfl rfl (L' := #[.val (.ref a1), .val (.int (2 : Int32)), .val (.long x), .second, .val (.int (4 : Int32)), .val (.long x1), .second]) rfl (pc' := 52) rfl ?_
      refine g_lload C d2_52 (v := x1) rfl (pc' := 54) rfl ?_
      refine g_l2i C (x := x1) d2_54 (pc' := 55) rfl ?_
      refine g_i2b C (x := (Int64.toInt32 x1)) d2_55 (pc' := 56) rfl ?_
      refine g_bastoreB C f_9 (by decide) (i := 3) (by decide) (show 3 < 14 by decide) (w := (.int (Int8.toInt32 (Int32.toInt8 (Int64.toInt32 x1))))) (congrArg Value.int (own_narb _)) g0 d2_56 (pc' := 57) rfl ?_
      intro h_11 K_12 A_13
      have f_14 : Ary Z h_11 a1 .byte [(.int f), (.int f), (.int (Int8.toInt32 (Int32.toInt8 (Int64.toInt32 ((x &&& (127 : Int64)) ||| (128 : Int64)))))), (.int (Int8.toInt32 (Int32.toInt8 (Int64.toInt32 x1)))), (.int f), (.int f), (.int f), (.int f), (.int f), (.int f), (.int f), (.int f), (.int f), (.int f)] := A_13
      refine g_iload C d2_57 (v := (4 : Int32)) rfl (pc' := 59) rfl ?_
      refine g_ret C (v := (.int (4 : Int32))) (ty := .int) rfl rfl (Or.inl ⟨rfl, Or.inl rfl, _, rfl⟩) d2_59 (by decide) (by decide) ?_
      have zk : Jvm.Free.XT.ushrL x1 (7 : Int32) = 0 := (own_m128 _).mp hb_10
      have zz : Jvm.Free.XT.ushrL x (14 : Int32) = 0 := by rw [← own_sh x (ka := 7) (kb := 7) (a := (7 : Int32)) (b := (7 : Int32)) (by decide) (by decide) (by decide), ← y1]; exact zk
      have hn : nlen x = (2 : Int32) := by rw [nlen, if_neg nz1, if_pos zz]
      have e0 : expF (0 : Int32) (2 : Int32) (2 : Int32) x f = f := own_e0 (by decide)
      have e1 : expF (1 : Int32) (2 : Int32) (2 : Int32) x f = f := own_e0 (by decide)
      have e2 : expF (2 : Int32) (2 : Int32) (2 : Int32) x f = (Int8.toInt32 (Int32.toInt8 (Int64.toInt32 ((x &&& (127 : Int64)) ||| (128 : Int64))))) := own_e2 (c := (0 : Int32)) (by decide) (by decide) (by decide) (by decide) (own_u0 x)
      have e3 : expF (3 : Int32) (2 : Int32) (2 : Int32) x f = (Int8.toInt32 (Int32.toInt8 (Int64.toInt32 x1))) := own_e3 (c := (7 : Int32)) (by decide) (by decide) (by decide) (by decide) y1 zk
      have e4 : expF (4 : Int32) (2 : Int32) (2 : Int32) x f = f := own_e1 (by decide) (by decide)
      have e5 : expF (5 : Int32) (2 : Int32) (2 : Int32) x f = f := own_e1 (by decide) (by decide)
      have e6 : expF (6 : Int32) (2 : Int32) (2 : Int32) x f = f := own_e1 (by decide) (by decide)
      have e7 : expF (7 : Int32) (2 : Int32) (2 : Int32) x f = f := own_e1 (by decide) (by decide)
      have e8 : expF (8 : Int32) (2 : Int32) (2 : Int32) x f = f := own_e1 (by decide) (by decide)
      have e9 : expF (9 : Int32) (2 : Int32) (2 : Int32) x f = f := own_e1 (by decide) (by decide)
      have e10 : expF (10 : Int32) (2 : Int32) (2 : Int32) x f = f := own_e1 (by decide) (by decide)
      have e11 : expF (11 : Int32) (2 : Int32) (2 : Int32) x f = f := own_e1 (by decide) (by decide)
      have e12 : expF (12 : Int32) (2 : Int32) (2 : Int32) x f = f := own_e1 (by decide) (by decide)
      have e13 : expF (13 : Int32) (2 : Int32) (2 : Int32) x f = f := own_e1 (by decide) (by decide)
      rw [hn]
      exact ⟨rfl, (((Keep.refl h0 [a1]).trans K_7 (allS (Or.inl (List.mem_of_getElem? (i := 0) rfl)) all0)).trans K_12 (allS (Or.inl (List.mem_of_getElem? (i := 0) rfl)) all0)), by rw [e0, e1, e2, e3, e4, e5, e6, e7, e8, e9, e10, e11, e12, e13]; exact f_14⟩
    · refine g_if_n C d2_14 (Jvm.Free.XT.ll_eq_f hb_10) (pc' := 17) rfl ?_
      refine g_aload_n C d2_17 (v := (.ref a1)) rfl rfl (pc' := 18) rfl ?_
      refine g_iload C d2_18 (v := (3 : Int32)) rfl (pc' := 20) rfl ?_
      refine g_iinc C d2_20 (v := (3 : Int32)) (w := (4 : Int32)) rfl rfl (L' := #[.val (.ref a1), .val (.int (2 : Int32)), .val (.long x), .second, .val (.int (4 : Int32)), .val (.long x1), .second]) rfl (pc' := 23) rfl ?_
      refine g_lload C d2_23 (v := x1) rfl (pc' := 25) rfl ?_
      refine g_ldc2_w C (v := (127 : Int64)) (own_w hw 14 rfl) d2_25 (pc' := 28) rfl ?_
      refine g_land C (x := x1) (y := (127 : Int64)) d2_28  (pc' := 29) rfl ?_
      refine g_ldc2_w C (v := (128 : Int64)) (own_w hw 15 rfl) d2_29 (pc' := 32) rfl ?_
      refine g_lor C (x := (x1 &&& (127 : Int64))) (y := (128 : Int64)) d2_32  (pc' := 33) rfl ?_
      refine g_l2i C (x := ((x1 &&& (127 : Int64)) ||| (128 : Int64))) d2_33 (pc' := 34) rfl ?_
      refine g_i2b C (x := (Int64.toInt32 ((x1 &&& (127 : Int64)) ||| (128 : Int64)))) d2_34 (pc' := 35) rfl ?_
      refine g_bastoreB C f_9 (by decide) (i := 3) (by decide) (show 3 < 14 by decide) (w := (.int (Int8.toInt32 (Int32.toInt8 (Int64.toInt32 ((x1 &&& (127 : Int64)) ||| (128 : Int64))))))) (congrArg Value.int (own_narb _)) g0 d2_35 (pc' := 36) rfl ?_
      intro h_15 K_16 A_17
      have f_18 : Ary Z h_15 a1 .byte [(.int f), (.int f), (.int (Int8.toInt32 (Int32.toInt8 (Int64.toInt32 ((x &&& (127 : Int64)) ||| (128 : Int64)))))), (.int (Int8.toInt32 (Int32.toInt8 (Int64.toInt32 ((x1 &&& (127 : Int64)) ||| (128 : Int64)))))), (.int f), (.int f), (.int f), (.int f), (.int f), (.int f), (.int f), (.int f), (.int f), (.int f)] := A_17
      refine g_lload C d2_36 (v := x1) rfl (pc' := 38) rfl ?_
      refine g_bipush C d2_38 (v := (7 : Int32)) rfl (pc' := 40) rfl ?_
      refine g_lushr C (x := x1) (y := (7 : Int32)) d2_40  (pc' := 41) rfl ?_
      obtain ⟨x2, hx2⟩ : ∃ z : Int64, z = (Jvm.Free.XT.ushrL x1 (7 : Int32)) := ⟨_, rfl⟩
      rw [← hx2]
      have y2 : x2 = Jvm.Free.XT.ushrL x (14 : Int32) := by rw [hx2, y1]; exact own_sh x (ka := 7) (kb := 7) (by decide) (by decide) (by decide)
      have nz2 : ¬ Jvm.Free.XT.ushrL x (14 : Int32) = 0 := by rw [← y2, hx2]; exact fun q => hb_10 ((own_m128 _).mpr q)
      refine g_lstore C d2_41 (v := x2) (L' := #[.val (.ref a1), .val (.int (2 : Int32)), .val (.long x), .second, .val (.int (4 : Int32)), .val (.long x2), .second]) rfl (pc' := 43) rfl ?_
      refine g_goto C d2_43 (pc' := 6) (by decide) (by decide) ?_
      refine g_lload C d2_6 (v := x2) rfl (pc' := 8) rfl ?_
      refine g_ldc2_w C (v := (-128 : Int64)) (own_w hw 9 rfl) d2_8 (pc' := 11) rfl ?_
      refine g_land C (x := x2) (y := (-128 : Int64)) d2_11  (pc' := 12) rfl ?_
      refine g_lconst C d2_12 (v := (0 : Int64)) rfl (pc' := 13) rfl ?_
      refine g_lcmp C (x := (x2 &&& (-128 : Int64))) (y := (0 : Int64)) d2_13 (pc' := 14) rfl ?_
      by_cases hb_19 : (x2 &&& (-128 : Int64)) = (0 : Int64)
      · refine g_if_y C d2_14 (Jvm.Free.XT.ll_eq_t hb_19) (pc' := 46) (by decide) (by decide) ?_
        refine g_aload_n C d2_46 (v := (.ref a1)) rfl rfl (pc' := 47) rfl ?_
        refine g_iload C d2_47 (v := (4 : Int32)) rfl (pc' := 49) rfl ?_
        refine g_iinc C d2_49 (v := (4 : Int32)) (w := (5 : Int32)) rfl rfl (L' := #[.val (.ref a1), .val (.int (2 : Int32)), .val (.long x), .second, .val (.int (5 : Int32)), .val (.long x2), .second]) rfl (pc' := 52) rfl ?_
        refine g_lload C d2_52 (v := x2) rfl (pc' := 54) rfl ?_
        refine g_l2i C (x := x2) d2_54 (pc' := 55) rfl ?_
        refine g_i2b C (x := (Int64.toInt32 x2)) d2_55 (pc' := 56) rfl ?_
        refine g_bastoreB C f_18 (by decide) (i := 4) (by decide) (show 4 < 14 by decide) (w := (.int (Int8.toInt32 (Int32.toInt8 (Int64.toInt32 x2))))) (congrArg Value.int (own_narb _)) g0 d2_56 (pc' := 57) rfl ?_
        intro h_20 K_21 A_22
        have f_23 : Ary Z h_20 a1 .byte [(.int f), (.int f), (.int (Int8.toInt32 (Int32.toInt8 (Int64.toInt32 ((x &&& (127 : Int64)) ||| (128 : Int64)))))), (.int (Int8.toInt32 (Int32.toInt8 (Int64.toInt32 ((x1 &&& (127 : Int64)) ||| (128 : Int64)))))), (.int (Int8.toInt32 (Int32.toInt8 (Int64.toInt32 x2)))), (.int f), (.int f), (.int f), (.int f), (.int f), (.int f), (.int f), (.int f), (.int f)] := A_22
        refine g_iload C d2_57 (v := (5 : Int32)) rfl (pc' := 59) rfl ?_
        refine g_ret C (v := (.int (5 : Int32))) (ty := .int) rfl rfl (Or.inl ⟨rfl, Or.inl rfl, _, rfl⟩) d2_59 (by decide) (by decide) ?_
        have zk : Jvm.Free.XT.ushrL x2 (7 : Int32) = 0 := (own_m128 _).mp hb_19
        have zz : Jvm.Free.XT.ushrL x (21 : Int32) = 0 := by rw [← own_sh x (ka := 14) (kb := 7) (a := (14 : Int32)) (b := (7 : Int32)) (by decide) (by decide) (by decide), ← y2]; exact zk
        have hn : nlen x = (3 : Int32) := by rw [nlen, if_neg nz1, if_neg nz2, if_pos zz]
        have e0 : expF (0 : Int32) (2 : Int32) (3 : Int32) x f = f := own_e0 (by decide)
        have e1 : expF (1 : Int32) (2 : Int32) (3 : Int32) x f = f := own_e0 (by decide)
        have e2 : expF (2 : Int32) (2 : Int32) (3 : Int32) x f = (Int8.toInt32 (Int32.toInt8 (Int64.toInt32 ((x &&& (127 : Int64)) ||| (128 : Int64))))) := own_e2 (c := (0 : Int32)) (by decide) (by decide) (by decide) (by decide) (own_u0 x)
        have e3 : expF (3 : Int32) (2 : Int32) (3 : Int32) x f = (Int8.toInt32 (Int32.toInt8 (Int64.toInt32 ((x1 &&& (127 : Int64)) ||| (128 : Int64))))) := own_e2 (c := (7 : Int32)) (by decide) (by decide) (by decide) (by decide) y1
        have e4 : expF (4 : Int32) (2 : Int32) (3 : Int32) x f = (Int8.toInt32 (Int32.toInt8 (Int64.toInt32 x2))) := own_e3 (c := (14 : Int32)) (by decide) (by decide) (by decide) (by decide) y2 zk
        have e5 : expF (5 : Int32) (2 : Int32) (3 : Int32) x f = f := own_e1 (by decide) (by decide)
        have e6 : expF (6 : Int32) (2 : Int32) (3 : Int32) x f = f := own_e1 (by decide) (by decide)
        have e7 : expF (7 : Int32) (2 : Int32) (3 : Int32) x f = f := own_e1 (by decide) (by decide)
        have e8 : expF (8 : Int32) (2 : Int32) (3 : Int32) x f = f := own_e1 (by decide) (by decide)
        have e9 : expF (9 : Int32) (2 : Int32) (3 : Int32) x f = f := own_e1 (by decide) (by decide)
        have e10 : expF (10 : Int32) (2 : Int32) (3 : Int32) x f = f := own_e1 (by decide) (by decide)
        have e11 : expF (11 : Int32) (2 : Int32) (3 : Int32) x f = f := own_e1 (by decide) (by decide)
        have e12 : expF (12 : Int32) (2 : Int32) (3 : Int32) x f = f := own_e1 (by decide) (by decide)
        have e13 : expF (13 : Int32) (2 : Int32) (3 : Int32) x f = f := own_e1 (by decide) (by decide)
        rw [hn]
        exact ⟨rfl, ((((Keep.refl h0 [a1]).trans K_7 (allS (Or.inl (List.mem_of_getElem? (i := 0) rfl)) all0)).trans K_16 (allS (Or.inl (List.mem_of_getElem? (i := 0) rfl)) all0)).trans K_21 (allS (Or.inl (List.mem_of_getElem? (i := 0) rfl)) all0)), by rw [e0, e1, e2, e3, e4, e5, e6, e7, e8, e9, e10, e11, e12, e13]; exact f_23⟩
      · refine g_if_n C d2_14 (Jvm.Free.XT.ll_eq_f hb_19) (pc' := 17) rfl ?_
        refine g_aload_n C d2_17 (v := (.ref a1)) rfl rfl (pc' := 18) rfl ?_
        refine g_iload C d2_18 (v := (4 : Int32)) rfl (pc' := 20) rfl ?_
        refine g_iinc C d2_20 (v := (4 : Int32)) (w := (5 : Int32)) rfl rfl (L' := #[.val (.ref a1), .val (.int (2 : Int32)), .val (.long x), .second, .val (.int (5 : Int32)), .val (.long x2), .second]) rfl (pc' := 23) rfl ?_
        refine g_lload C d2_23 (v := x2) rfl (pc' := 25) rfl ?_
        refine g_ldc2_w C (v := (127 : Int64)) (own_w hw 14 rfl) d2_25 (pc' := 28) rfl ?_
        refine g_land C (x := x2) (y := (127 : Int64)) d2_28  (pc' := 29) rfl ?_
        refine g_ldc2_w C (v := (128 : Int64)) (own_w hw 15 rfl) d2_29 (pc' := 32) rfl ?_
        refine g_lor C (x := (x2 &&& (127 : Int64))) (y := (128 : Int64)) d2_32  (pc' := 33) rfl ?_
        refine g_l2i C (x := ((x2 &&& (127 : Int64)) ||| (128 : Int64))) d2_33 (pc' := 34) rfl ?_
        refine g_i2b C (x := (Int64.toInt32 ((x2 &&& (127 : Int64)) ||| (128 : Int64)))) d2_34 (pc' := 35) rfl ?_
        refine g_bastoreB C f_18 (by decide) (i := 4) (by decide) (show 4 < 14 by decide) (w := (.int (Int8.toInt32 (Int32.toInt8 (Int64.toInt32 ((x2 &&& (127 : Int64)) ||| (128 : Int64))))))) (congrArg Value.int (own_narb _)) g0 d2_35 (pc' := 36) rfl ?_
        intro h_24 K_25 A_26
        have f_27 : Ary Z h_24 a1 .byte [(.int f), (.int f), (.int (Int8.toInt32 (Int32.toInt8 (Int64.toInt32 ((x &&& (127 : Int64)) ||| (128 : Int64)))))), (.int (Int8.toInt32 (Int32.toInt8 (Int64.toInt32 ((x1 &&& (127 : Int64)) ||| (128 : Int64)))))), (.int (Int8.toInt32 (Int32.toInt8 (Int64.toInt32 ((x2 &&& (127 : Int64)) ||| (128 : Int64)))))), (.int f), (.int f), (.int f), (.int f), (.int f), (.int f), (.int f), (.int f), (.int f)] := A_26
        refine g_lload C d2_36 (v := x2) rfl (pc' := 38) rfl ?_
        refine g_bipush C d2_38 (v := (7 : Int32)) rfl (pc' := 40) rfl ?_
        refine g_lushr C (x := x2) (y := (7 : Int32)) d2_40  (pc' := 41) rfl ?_
        obtain ⟨x3, hx3⟩ : ∃ z : Int64, z = (Jvm.Free.XT.ushrL x2 (7 : Int32)) := ⟨_, rfl⟩
        rw [← hx3]
        have y3 : x3 = Jvm.Free.XT.ushrL x (21 : Int32) := by rw [hx3, y2]; exact own_sh x (ka := 14) (kb := 7) (by decide) (by decide) (by decide)
        have nz3 : ¬ Jvm.Free.XT.ushrL x (21 : Int32) = 0 := by rw [← y3, hx3]; exact fun q => hb_19 ((own_m128 _).mpr q)
        refine g_lstore C d2_41 (v := x3) (L' := #[.val (.ref a1), .val (.int (2 : Int32)), .val (.long x), .second, .val (.int (5 : Int32)), .val (.long x3), .second]) rfl (pc' := 43) rfl ?_
        refine g_goto C d2_43 (pc' := 6) (by decide) (by decide) ?_
        refine g_lload C d2_6 (v := x3) rfl (pc' := 8) rfl ?_
        refine g_ldc2_w C (v := (-128 : Int64)) (own_w hw 9 rfl) d2_8 (pc' := 11) rfl ?_
        refine g_land C (x := x3) (y := (-128 : Int64)) d2_11  (pc' := 12) rfl ?_
        refine g_lconst C d2_12 (v := (0 : Int64)) rfl (pc' := 13) rfl ?_
        refine g_lcmp C (x := (x3 &&& (-128 : Int64))) (y := (0 : Int64)) d2_13 (pc' := 14) rfl ?_
        by_cases hb_28 : (x3 &&& (-128 : Int64)) = (0 : Int64)
        · refine g_if_y C d2_14 (Jvm.Free.XT.ll_eq_t hb_28) (pc' := 46) (by decide) (by decide) ?_
          refine g_aload_n C d2_46 (v := (.ref a1)) rfl rfl (pc' := 47) rfl ?_
          refine g_iload C d2_47 (v := (5 : Int32)) rfl (pc' := 49) rfl ?_
          refine g_iinc C d2_49 (v := (5 : Int32)) (w := (6 : Int32)) rfl rfl (L' := #[.val (.ref a1), .val (.int (2 : Int32)), .val (.long x), .second, .val (.int (6 : Int32)), .val (.long x3), .second]) rfl (pc' := 52) rfl ?_
          refine g_lload C d2_52 (v := x3) rfl (pc' := 54) rfl ?_
          refine g_l2i C (x := x3) d2_54 (pc' := 55) rfl ?_
          refine g_i2b C (x := (Int64.toInt32 x3)) d2_55 (pc' := 56) rfl ?_
          refine g_bastoreB C f_27 (by decide) (i := 5) (by decide) (show 5 < 14 by decide) (w := (.int (Int8.toInt32 (Int32.toInt8 (Int64.toInt32 x3))))) (congrArg Value.int (own_narb _)) g0 d2_56 (pc' := 57) rfl ?_
          intro h_29 K_30 A_31
          have f_32 : Ary Z h_29 a1 .byte [(.int f), (.int f), (.int (Int8.toInt32 (Int32.toInt8 (Int64.toInt32 ((x &&& (127 : Int64)) ||| (128 : Int64)))))), (.int (Int8.toInt32 (Int32.toInt8 (Int64.toInt32 ((x1 &&& (127 : Int64)) ||| (128 : Int64)))))), (.int (Int8.toInt32 (Int32.toInt8 (Int64.toInt32 ((x2 &&& (127 : Int64)) ||| (128 : Int64)))))), (.int (Int8.toInt32 (Int32.toInt8 (Int64.toInt32 x3)))), (.int f), (.int f), (.int f), (.int f), (.int f), (.int f), (.int f), (.int f)] := A_31
          refine g_iload C d2_57 (v := (6 : Int32)) rfl (pc' := 59) rfl ?_
          refine g_ret C (v := (.int (6 : Int32))) (ty := .int) rfl rfl (Or.inl ⟨rfl, Or.inl rfl, _, rfl⟩) d2_59 (by decide) (by decide) ?_
          have zk : Jvm.Free.XT.ushrL x3 (7 : Int32) = 0 := (own_m128 _).mp hb_28
          have zz : Jvm.Free.XT.ushrL x (28 : Int32) = 0 := by rw [← own_sh x (ka := 21) (kb := 7) (a := (21 : Int32)) (b := (7 : Int32)) (by decide) (by decide) (by decide), ← y3]; exact zk
          have hn : nlen x = (4 : Int32) := by rw [nlen, if_neg nz1, if_neg nz2, if_neg nz3, if_pos zz]
          have e0 : expF (0 : Int32) (2 : Int32) (4 : Int32) x f = f := own_e0 (by decide)
          have e1 : expF (1 : Int32) (2 : Int32) (4 : Int32) x f = f := own_e0 (by decide)
          have e2 : expF (2 : Int32) (2 : Int32) (4 : Int32) x f = (Int8.toInt32 (Int32.toInt8 (Int64.toInt32 ((x &&& (127 : Int64)) ||| (128 : Int64))))) := own_e2 (c := (0 : Int32)) (by decide) (by decide) (by decide) (by decide) (own_u0 x)
          have e3 : expF (3 : Int32) (2 : Int32) (4 : Int32) x f = (Int8.toInt32 (Int32.toInt8 (Int64.toInt32 ((x1 &&& (127 : Int64)) ||| (128 : Int64))))) := own_e2 (c := (7 : Int32)) (by decide) (by decide) (by decide) (by decide) y1
          have e4 : expF (4 : Int32) (2 : Int32) (4 : Int32) x f = (Int8.toInt32 (Int32.toInt8 (Int64.toInt32 ((x2 &&& (127 : Int64)) ||| (128 : Int64))))) := own_e2 (c := (14 : Int32)) (by decide) (by decide) (by decide) (by decide) y2
          have e5 : expF (5 : Int32) (2 : Int32) (4 : Int32) x f = (Int8.toInt32 (Int32.toInt8 (Int64.toInt32 x3))) := own_e3 (c := (21 : Int32)) (by decide) (by decide) (by decide) (by decide) y3 zk
          have e6 : expF (6 : Int32) (2 : Int32) (4 : Int32) x f = f := own_e1 (by decide) (by decide)
          have e7 : expF (7 : Int32) (2 : Int32) (4 : Int32) x f = f := own_e1 (by decide) (by decide)
          have e8 : expF (8 : Int32) (2 : Int32) (4 : Int32) x f = f := own_e1 (by decide) (by decide)
          have e9 : expF (9 : Int32) (2 : Int32) (4 : Int32) x f = f := own_e1 (by decide) (by decide)
          have e10 : expF (10 : Int32) (2 : Int32) (4 : Int32) x f = f := own_e1 (by decide) (by decide)
          have e11 : expF (11 : Int32) (2 : Int32) (4 : Int32) x f = f := own_e1 (by decide) (by decide)
          have e12 : expF (12 : Int32) (2 : Int32) (4 : Int32) x f = f := own_e1 (by decide) (by decide)
          have e13 : expF (13 : Int32) (2 : Int32) (4 : Int32) x f = f := own_e1 (by decide) (by decide)
          rw [hn]
          exact ⟨rfl, (((((Keep.refl h0 [a1]).trans K_7 (allS (Or.inl (List.mem_of_getElem? (i := 0) rfl)) all0)).trans K_16 (allS (Or.inl (List.mem_of_getElem? (i := 0) rfl)) all0)).trans K_25 (allS (Or.inl (List.mem_of_getElem? (i := 0) rfl)) all0)).trans K_30 (allS (Or.inl (List.mem_of_getElem? (i := 0) rfl)) all0)), by rw [e0, e1, e2, e3, e4, e5, e6, e7, e8, e9, e10, e11, e12, e13]; exact f_32⟩
        · refine g_if_n C d2_14 (Jvm.Free.XT.ll_eq_f hb_28) (pc' := 17) rfl ?_
          refine g_aload_n C d2_17 (v := (.ref a1)) rfl rfl (pc' := 18) rfl ?_
          refine g_iload C d2_18 (v := (5 : Int32)) rfl (pc' := 20) rfl ?_
          refine g_iinc C d2_20 (v := (5 : Int32)) (w := (6 : Int32)) rfl rfl (L' := #[.val (.ref a1), .val (.int (2 : Int32)), .val (.long x), .second, .val (.int (6 : Int32)), .val (.long x3), .second]) rfl (pc' := 23) rfl ?_
          refine g_lload C d2_23 (v := x3) rfl (pc' := 25) rfl ?_
          refine g_ldc2_w C (v := (127 : Int64)) (own_w hw 14 rfl) d2_25 (pc' := 28) rfl ?_
          refine g_land C (x := x3) (y := (127 : Int64)) d2_28  (pc' := 29) rfl ?_
          refine g_ldc2_w C (v := (128 : Int64)) (own_w hw 15 rfl) d2_29 (pc' := 32) rfl ?_
          refine g_lor C (x := (x3 &&& (127 : Int64))) (y := (128 : Int64)) d2_32  (pc' := 33) rfl ?_
          refine g_l2i C (x := ((x3 &&& (127 : Int64)) ||| (128 : Int64))) d2_33 (pc' := 34) rfl ?_
          refine g_i2b C (x := (Int64.toInt32 ((x3 &&& (127 : Int64)) ||| (128 : Int64)))) d2_34 (pc' := 35) rfl ?_
          refine g_bastoreB C f_27 (by decide) (i := 5) (by decide) (show 5 < 14 by decide) (w := (.int (Int8.toInt32 (Int32.toInt8 (Int64.toInt32 ((x3 &&& (127 : Int64)) ||| (128 : Int64))))))) (congrArg Value.int (own_narb _)) g0 d2_35 (pc' := 36) rfl ?_
          intro h_33 K_34 A_35
          have f_36 : Ary Z h_33 a1 .byte [(.int f), (.int f), (.int (Int8.toInt32 (Int32.toInt8 (Int64.toInt32 ((x &&& (127 : Int64)) ||| (128 : Int64)))))), (.int (Int8.toInt32 (Int32.toInt8 (Int64.toInt32 ((x1 &&& (127 : Int64)) ||| (128 : Int64)))))), (.int (Int8.toInt32 (Int32.toInt8 (Int64.toInt32 ((x2 &&& (127 : Int64)) ||| (128 : Int64)))))), (.int (Int8.toInt32 (Int32.toInt8 (Int64.toInt32 ((x3 &&& (127 : Int64)) ||| (128 : Int64)))))), (.int f), (.int f), (.int f), (.int f), (.int f), (.int f), (.int f), (.int f)] := A_35
          refine g_lload C d2_36 (v := x3) rfl (pc' := 38) rfl ?_
          refine g_bipush C d2_38 (v := (7 : Int32)) rfl (pc' := 40) rfl ?_
          refine g_lushr C (x := x3) (y := (7 : Int32)) d2_40  (pc' := 41) rfl ?_
          obtain ⟨x4, hx4⟩ : ∃ z : Int64, z = (Jvm.Free.XT.ushrL x3 (7 : Int32)) := ⟨_, rfl⟩
          rw [← hx4]
          have y4 : x4 = Jvm.Free.XT.ushrL x (28 : Int32) := by rw [hx4, y3]; exact own_sh x (ka := 21) (kb := 7) (by decide) (by decide) (by decide)
          have nz4 : ¬ Jvm.Free.XT.ushrL x (28 : Int32) = 0 := by rw [← y4, hx4]; exact fun q => hb_28 ((own_m128 _).mpr q)
          refine g_lstore C d2_41 (v := x4) (L' := #[.val (.ref a1), .val (.int (2 : Int32)), .val (.long x), .second, .val (.int (6 : Int32)), .val (.long x4), .second]) rfl (pc' := 43) rfl ?_
          refine g_goto C d2_43 (pc' := 6) (by decide) (by decide) ?_
          refine g_lload C d2_6 (v := x4) rfl (pc' := 8) rfl ?_
          refine g_ldc2_w C (v := (-128 : Int64)) (own_w hw 9 rfl) d2_8 (pc' := 11) rfl ?_
          refine g_land C (x := x4) (y := (-128 : Int64)) d2_11  (pc' := 12) rfl ?_
          refine g_lconst C d2_12 (v := (0 : Int64)) rfl (pc' := 13) rfl ?_
          refine g_lcmp C (x := (x4 &&& (-128 : Int64))) (y := (0 : Int64)) d2_13 (pc' := 14) rfl ?_
          by_cases hb_37 : (x4 &&& (-128 : Int64)) = (0 : Int64)
          · refine g_if_y C d2_14 (Jvm.Free.XT.ll_eq_t hb_37) (pc' := 46) (by decide) (by decide) ?_
            refine g_aload_n C d2_46 (v := (.ref a1)) rfl rfl (pc' := 47) rfl ?_
            refine g_iload C d2_47 (v := (6 : Int32)) rfl (pc' := 49) rfl ?_
            refine g_iinc C d2_49 (v := (6 : Int32)) (w := (7 : Int32)) rfl rfl (L' := #[.val (.ref a1), .val (.int (2 : Int32)), .val (.long x), .second, .val (.int (7 : Int32)), .val (.long x4), .second]) rfl (pc' := 52) rfl ?_
            refine g_lload C d2_52 (v := x4) rfl (pc' := 54) rfl ?_
            refine g_l2i C (x := x4) d2_54 (pc' := 55) rfl ?_
            refine g_i2b C (x := (Int64.toInt32 x4)) d2_55 (pc' := 56) rfl ?_
            refine g_bastoreB C f_36 (by decide) (i := 6) (by decide) (show 6 < 14 by decide) (w := (.int (Int8.toInt32 (Int32.toInt8 (Int64.toInt32 x4))))) (congrArg Value.int (own_narb _)) g0 d2_56 (pc' := 57) rfl ?_
            intro h_38 K_39 A_40
            have f_41 : Ary Z h_38 a1 .byte [(.int f), (.int f), (.int (Int8.toInt32 (Int32.toInt8 (Int64.toInt32 ((x &&& (127 : Int64)) ||| (128 : Int64)))))), (.int (Int8.toInt32 (Int32.toInt8 (Int64.toInt32 ((x1 &&& (127 : Int64)) ||| (128 : Int64)))))), (.int (Int8.toInt32 (Int32.toInt8 (Int64.toInt32 ((x2 &&& (127 : Int64)) ||| (128 : Int64)))))), (.int (Int8.toInt32 (Int32.toInt8 (Int64.toInt32 ((x3 &&& (127 : Int64)) ||| (128 : Int64)))))), (.int (Int8.toInt32 (Int32.toInt8 (Int64.toInt32 x4)))), (.int f), (.int f), (.int f), (.int f), (.int f), (.int f), (.int f)] := A_40
            refine g_iload C d2_57 (v := (7 : Int32)) rfl (pc' := 59) rfl ?_
            refine g_ret C (v := (.int (7 : Int32))) (ty := .int) rfl rfl (Or.inl ⟨rfl, Or.inl rfl, _, rfl⟩) d2_59 (by decide) (by decide) ?_
            have zk : Jvm.Free.XT.ushrL x4 (7 : Int32) = 0 := (own_m128 _).mp hb_37
            have zz : Jvm.Free.XT.ushrL x (35 : Int32) = 0 := by rw [← own_sh x (ka := 28) (kb := 7) (a := (28 : Int32)) (b := (7 : Int32)) (by decide) (by decide) (by decide), ← y4]; exact zk
            have hn : nlen x = (5 : Int32) := by rw [nlen, if_neg nz1, if_neg nz2, if_neg nz3, if_neg nz4, if_pos zz]
            have e0 : expF (0 : Int32) (2 : Int32) (5 : Int32) x f = f := own_e0 (by decide)
            have e1 : expF (1 : Int32) (2 : Int32) (5 : Int32) x f = f := own_e0 (by decide)
            have e2 : expF (2 : Int32) (2 : Int32) (5 : Int32) x f = (Int8.toInt32 (Int32.toInt8 (Int64.toInt32 ((x &&& (127 : Int64)) ||| (128 : Int64))))) := own_e2 (c := (0 : Int32)) (by decide) (by decide) (by decide) (by decide) (own_u0 x)
            have e3 : expF (3 : Int32) (2 : Int32) (5 : Int32) x f = (Int8.toInt32 (Int32.toInt8 (Int64.toInt32 ((x1 &&& (127 : Int64)) ||| (128 : Int64))))) := own_e2 (c := (7 : Int32)) (by decide) (by decide) (by decide) (by decide) y1
            have e4 : expF (4 : Int32) (2 : Int32) (5 : Int32) x f = (Int8.toInt32 (Int32.toInt8 (Int64.toInt32 ((x2 &&& (127 : Int64)) ||| (128 : Int64))))) := own_e2 (c := (14 : Int32)) (by decide) (by decide) (by decide) (by decide) y2
            have e5 : expF (5 : Int32) (2 : Int32) (5 : Int32) x f = (Int8.toInt32 (Int32.toInt8 (Int64.toInt32 ((x3 &&& (127 : Int64)) ||| (128 : Int64))))) := own_e2 (c := (21 : Int32)) (by decide) (by decide) (by decide) (by decide) y3
            have e6 : expF (6 : Int32) (2 : Int32) (5 : Int32) x f = (Int8.toInt32 (Int32.toInt8 (Int64.toInt32 x4))) := own_e3 (c := (28 : Int32)) (by decide) (by decide) (by decide) (by decide) y4 zk
            have e7 : expF (7 : Int32) (2 : Int32) (5 : Int32) x f = f := own_e1 (by decide) (by decide)
            have e8 : expF (8 : Int32) (2 : Int32) (5 : Int32) x f = f := own_e1 (by decide) (by decide)
            have e9 : expF (9 : Int32) (2 : Int32) (5 : Int32) x f = f := own_e1 (by decide) (by decide)
            have e10 : expF (10 : Int32) (2 : Int32) (5 : Int32) x f = f := own_e1 (by decide) (by decide)
            have e11 : expF (11 : Int32) (2 : Int32) (5 : Int32) x f = f := own_e1 (by decide) (by decide)
            have e12 : expF (12 : Int32) (2 : Int32) (5 : Int32) x f = f := own_e1 (by decide) (by decide)
            have e13 : expF (13 : Int32) (2 : Int32) (5 : Int32) x f = f := own_e1 (by decide) (by decide)
            rw [hn]
            exact ⟨rfl, ((((((Keep.refl h0 [a1]).trans K_7 (allS (Or.inl (List.mem_of_getElem? (i := 0) rfl)) all0)).trans K_16 (allS (Or.inl (List.mem_of_getElem? (i := 0) rfl)) all0)).trans K_25 (allS (Or.inl (List.mem_of_getElem? (i := 0) rfl)) all0)).trans K_34 (allS (Or.inl (List.mem_of_getElem? (i := 0) rfl)) all0)).trans K_39 (allS (Or.inl (List.mem_of_getElem? (i := 0) rfl)) all0)), by rw [e0, e1, e2, e3, e4, e5, e6, e7, e8, e9, e10, e11, e12, e13]; exact f_41⟩
          · refine g_if_n C d2_14 (Jvm.Free.XT.ll_eq_f hb_37) (pc' := 17) rfl ?_
            refine g_aload_n C d2_17 (v := (.ref a1)) rfl rfl (pc' := 18) rfl ?_
            refine g_iload C d2_18 (v := (6 : Int32)) rfl (pc' := 20) rfl ?_
            refine g_iinc C d2_20 (v := (6 : Int32)) (w := (7 : Int32)) rfl rfl (L' := #[.val (.ref a1), .val (.int (2 : Int32)), .val (.long x), .second, .val (.int (7 : Int32)), .val (.long x4), .second]) rfl (pc' := 23) rfl ?_
            refine g_lload C d2_23 (v := x4) rfl (pc' := 25) rfl ?_
            refine g_ldc2_w C (v := (127 : Int64)) (own_w hw 14 rfl) d2_25 (pc' := 28) rfl ?_
            refine g_land C (x := x4) (y := (127 : Int64)) d2_28  (pc' := 29) rfl ?_
            refine g_ldc2_w C (v := (128 : Int64)) (own_w hw 15 rfl) d2_29 (pc' := 32) rfl ?_
            refine g_lor C (x := (x4 &&& (127 : Int64))) (y := (128 : Int64)) d2_32  (pc' := 33) rfl ?_
            refine g_l2i C (x := ((x4 &&& (127 : Int64)) ||| (128 : Int64))) d2_33 (pc' := 34) rfl ?_
            refine g_i2b C (x := (Int64.toInt32 ((x4 &&& (127 : Int64)) ||| (128 : Int64)))) d2_34 (pc' := 35) rfl ?_
            refine g_bastoreB C f_36 (by decide) (i := 6) (by decide) (show 6 < 14 by decide) (w := (.int (Int8.toInt32 (Int32.toInt8 (Int64.toInt32 ((x4 &&& (127 : Int64)) ||| (128 : Int64))))))) (congrArg Value.int (own_narb _)) g0 d2_35 (pc' := 36) rfl ?_
            intro h_42 K_43 A_44
            have f_45 : Ary Z h_42 a1 .byte [(.int f), (.int f), (.int (Int8.toInt32 (Int32.toInt8 (Int64.toInt32 ((x &&& (127 : Int64)) ||| (128 : Int64)))))), (.int (Int8.toInt32 (Int32.toInt8 (Int64.toInt32 ((x1 &&& (127 : Int64)) ||| (128 : Int64)))))), (.int (Int8.toInt32 (Int32.toInt8 (Int64.toInt32 ((x2 &&& (127 : Int64)) ||| (128 : Int64)))))), (.int (Int8.toInt32 (Int32.toInt8 (Int64.toInt32 ((x3 &&& (127 : Int64)) ||| (128 : Int64)))))), (.int (Int8.toInt32 (Int32.toInt8 (Int64.toInt32 ((x4 &&& (127 : Int64)) ||| (128 : Int64)))))), (.int f), (.int f), (.int f), (.int f), (.int f), (.int f), (.int f)] := A_44
            refine g_lload C d2_36 (v := x4) rfl (pc' := 38) rfl ?_
            refine g_bipush C d2_38 (v := (7 : Int32)) rfl (pc' := 40) rfl ?_
            refine g_lushr C (x := x4) (y := (7 : Int32)) d2_40  (pc' := 41) rfl ?_
            obtain ⟨x5, hx5⟩ : ∃ z : Int64, z = (Jvm.Free.XT.ushrL x4 (7 : Int32)) := ⟨_, rfl⟩
            rw [← hx5]
            have y5 : x5 = Jvm.Free.XT.ushrL x (35 : Int32) := by rw [hx5, y4]; exact own_sh x (ka := 28) (kb := 7) (by decide) (by decide) (by decide)
            have nz5 : ¬ Jvm.Free.XT.ushrL x (35 : Int32) = 0 := by rw [← y5, hx5]; exact fun q => hb_37 ((own_m128 _).mpr q)
            refine g_lstore C d2_41 (v := x5) (L' := #[.val (.ref a1), .val (.int (2 : Int32)), .val (.long x), .second, .val (.int (7 : Int32)), .val (.long x5), .second]) rfl (pc' := 43) rfl ?_
            refine g_goto C d2_43 (pc' := 6) (by decide) (by decide) ?_
            refine g_lload C d2_6 (v := x5) rfl (pc' := 8) rfl ?_
            refine g_ldc2_w C (v := (-128 : Int64)) (own_w hw 9 rfl) d2_8 (pc' := 11) rfl ?_
            refine g_land C (x := x5) (y := (-128 : Int64)) d2_11  (pc' := 12) rfl ?_
            refine g_lconst C d2_12 (v := (0 : Int64)) rfl (pc' := 13) rfl ?_
            refine g_lcmp C (x := (x5 &&& (-128 : Int64))) (y := (0 : Int64)) d2_13 (pc' := 14) rfl ?_
            by_cases hb_46 : (x5 &&& (-128 : Int64)) = (0 : Int64)
            · refine g_if_y C d2_14 (Jvm.Free.XT.ll_eq_t hb_46) (pc' := 46) (by decide) (by decide) ?_
              refine g_aload_n C d2_46 (v := (.ref a1)) rfl rfl (pc' := 47) rfl ?_
              refine g_iload C d2_47 (v := (7 : Int32)) rfl (pc' := 49) rfl ?_
              refine g_iinc C d2_49 (v := (7 : Int32)) (w := (8 : Int32)) rfl rfl (L' := #[.val (.ref a1), .val (.int (2 : Int32)), .val (.long x), .second, .val (.int (8 : Int32)), .val (.long x5), .second]) rfl (pc' := 52) rfl ?_
              refine g_lload C d2_52 (v := x5) rfl (pc' := 54) rfl ?_
              refine g_l2i C (x := x5) d2_54 (pc' := 55) rfl ?_
              refine g_i2b C (x := (Int64.toInt32 x5)) d2_55 (pc' := 56) rfl ?_
              refine g_bastoreB C f_45 (by decide) (i := 7) (by decide) (show 7 < 14 by decide) (w := (.int (Int8.toInt32 (Int32.toInt8 (Int64.toInt32 x5))))) (congrArg Value.int (own_narb _)) g0 d2_56 (pc' := 57) rfl ?_
              intro h_47 K_48 A_49
              have f_50 : Ary Z h_47 a1 .byte [(.int f), (.int f), (.int (Int8.toInt32 (Int32.toInt8 (Int64.toInt32 ((x &&& (127 : Int64)) ||| (128 : Int64)))))), (.int (Int8.toInt32 (Int32.toInt8 (Int64.toInt32 ((x1 &&& (127 : Int64)) ||| (128 : Int64)))))), (.int (Int8.toInt32 (Int32.toInt8 (Int64.toInt32 ((x2 &&& (127 : Int64)) ||| (128 : Int64)))))), (.int (Int8.toInt32 (Int32.toInt8 (Int64.toInt32 ((x3 &&& (127 : Int64)) ||| (128 : Int64)))))), (.int (Int8.toInt32 (Int32.toInt8 (Int64.toInt32 ((x4 &&& (127 : Int64)) ||| (128 : Int64)))))), (.int (Int8.toInt32 (Int32.toInt8 (Int64.toInt32 x5)))), (.int f), (.int f), (.int f), (.int f), (.int f), (.int f)] := A_49
              refine g_iload C d2_57 (v := (8 : Int32)) rfl (pc' := 59) rfl ?_
              refine g_ret C (v := (.int (8 : Int32))) (ty := .int) rfl rfl (Or.inl ⟨rfl, Or.inl rfl, _, rfl⟩) d2_59 (by decide) (by decide) ?_
              have zk : Jvm.Free.XT.ushrL x5 (7 : Int32) = 0 := (own_m128 _).mp hb_46
              have zz : Jvm.Free.XT.ushrL x (42 : Int32) = 0 := by rw [← own_sh x (ka := 35) (kb := 7) (a := (35 : Int32)) (b := (7 : Int32)) (by decide) (by decide) (by decide), ← y5]; exact zk
              have hn : nlen x = (6 : Int32) := by rw [nlen, if_neg nz1, if_neg nz2, if_neg nz3, if_neg nz4, if_neg nz5, if_pos zz]
              have e0 : expF (0 : Int32) (2 : Int32) (6 : Int32) x f = f := own_e0 (by decide)
              have e1 : expF (1 : Int32) (2 : Int32) (6 : Int32) x f = f := own_e0 (by decide)
              have e2 : expF (2 : Int32) (2 : Int32) (6 : Int32) x f = (Int8.toInt32 (Int32.toInt8 (Int64.toInt32 ((x &&& (127 : Int64)) ||| (128 : Int64))))) := own_e2 (c := (0 : Int32)) (by decide) (by decide) (by decide) (by decide) (own_u0 x)
              have e3 : expF (3 : Int32) (2 : Int32) (6 : Int32) x f = (Int8.toInt32 (Int32.toInt8 (Int64.toInt32 ((x1 &&& (127 : Int64)) ||| (128 : Int64))))) := own_e2 (c := (7 : Int32)) (by decide) (by decide) (by decide) (by decide) y1
              have e4 : expF (4 : Int32) (2 : Int32) (6 : Int32) x f = (Int8.toInt32 (Int32.toInt8 (Int64.toInt32 ((x2 &&& (127 : Int64)) ||| (128 : Int64))))) := own_e2 (c := (14 : Int32)) (by decide) (by decide) (by decide) (by decide) y2
              have e5 : expF (5 : Int32) (2 : Int32) (6 : Int32) x f = (Int8.toInt32 (Int32.toInt8 (Int64.toInt32 ((x3 &&& (127 : Int64)) ||| (128 : Int64))))) := own_e2 (c := (21 : Int32)) (by decide) (by decide) (by decide) (by decide) y3
              have e6 : expF (6 : Int32) (2 : Int32) (6 : Int32) x f = (Int8.toInt32 (Int32.toInt8 (Int64.toInt32 ((x4 &&& (127 : Int64)) ||| (128 : Int64))))) := own_e2 (c := (28 : Int32)) (by decide) (by decide) (by decide) (by decide) y4
              have e7 : expF (7 : Int32) (2 : Int32) (6 : Int32) x f = (Int8.toInt32 (Int32.toInt8 (Int64.toInt32 x5))) := own_e3 (c := (35 : Int32)) (by decide) (by decide) (by decide) (by decide) y5 zk
              have e8 : expF (8 : Int32) (2 : Int32) (6 : Int32) x f = f := own_e1 (by decide) (by decide)
              have e9 : expF (9 : Int32) (2 : Int32) (6 : Int32) x f = f := own_e1 (by decide) (by decide)
              have e10 : expF (10 : Int32) (2 : Int32) (6 : Int32) x f = f := own_e1 (by decide) (by decide)
              have e11 : expF (11 : Int32) (2 : Int32) (6 : Int32) x f = f := own_e1 (by decide) (by decide)
              have e12 : expF (12 : Int32) (2 : Int32) (6 : Int32) x f = f := own_e1 (by decide) (by decide)
              have e13 : expF (13 : Int32) (2 : Int32) (6 : Int32) x f = f := own_e1 (by decide) (by decide)
              rw [hn]
              exact ⟨rfl, (((((((Keep.refl h0 [a1]).trans K_7 (allS (Or.inl (List.mem_of_getElem? (i := 0) rfl)) all0)).trans K_16 (allS (Or.inl (List.mem_of_getElem? (i := 0) rfl)) all0)).trans K_25 (allS (Or.inl (List.mem_of_getElem? (i := 0) rfl)) all0)).trans K_34 (allS (Or.inl (List.mem_of_getElem? (i := 0) rfl)) all0)).trans K_43 (allS (Or.inl (List.mem_of_getElem? (i := 0) rfl)) all0)).trans K_48 (allS (Or.inl (List.mem_of_getElem? (i := 0) rfl)) all0)), by rw [e0, e1, e2, e3, e4, e5, e6, e7, e8, e9, e10, e11, e12, e13]; exact f_50⟩
            · refine g_if_n C d2_14 (Jvm.Free.XT.ll_eq_f hb_46) (pc' := 17) rfl ?_
              refine g_aload_n C d2_17 (v := (.ref a1)) rfl rfl (pc' := 18) rfl ?_
              refine g_iload C d2_18 (v := (7 : Int32)) rfl (pc' := 20) rfl ?_
              refine g_iinc C d2_20 (v := (7 : Int32)) (w := (8 : Int32)) rfl rfl (L' := #[.val (.ref a1), .val (.int (2 : Int32)), .val (.long x), .second, .val (.int (8 : Int32)), .val (.long x5), .second]) rfl (pc' := 23) rfl ?_
              refine g_lload C d2_23 (v := x5) rfl (pc' := 25) rfl ?_
              refine g_ldc2_w C (v := (127 : Int64)) (own_w hw 14 rfl) d2_25 (pc' := 28) rfl ?_
              refine g_land C (x := x5) (y := (127 : Int64)) d2_28  (pc' := 29) rfl ?_
              refine g_ldc2_w C (v := (128 : Int64)) (own_w hw 15 rfl) d2_29 (pc' := 32) rfl ?_
              refine g_lor C (x := (x5 &&& (127 : Int64))) (y := (128 : Int64)) d2_32  (pc' := 33) rfl ?_
              refine g_l2i C (x := ((x5 &&& (127 : Int64)) ||| (128 : Int64))) d2_33 (pc' := 34) rfl ?_
              refine g_i2b C (x := (Int64.toInt32 ((x5 &&& (127 : Int64)) ||| (128 : Int64)))) d2_34 (pc' := 35) rfl ?_
              refine g_bastoreB C f_45 (by decide) (i := 7) (by decide) (show 7 < 14 by decide) (w := (.int (Int8.toInt32 (Int32.toInt8 (Int64.toInt32 ((x5 &&& (127 : Int64)) ||| (128 : Int64))))))) (congrArg Value.int (own_narb _)) g0 d2_35 (pc' := 36) rfl ?_
              intro h_51 K_52 A_53
              have f_54 : Ary Z h_51 a1 .byte [(.int f), (.int f), (.int (Int8.toInt32 (Int32.toInt8 (Int64.toInt32 ((x &&& (127 : Int64)) ||| (128 : Int64)))))), (.int (Int8.toInt32 (Int32.toInt8 (Int64.toInt32 ((x1 &&& (127 : Int64)) ||| (128 : Int64)))))), (.int (Int8.toInt32 (Int32.toInt8 (Int64.toInt32 ((x2 &&& (127 : Int64)) ||| (128 : Int64)))))), (.int (Int8.toInt32 (Int32.toInt8 (Int64.toInt32 ((x3 &&& (127 : Int64)) ||| (128 : Int64)))))), (.int (Int8.toInt32 (Int32.toInt8 (Int64.toInt32 ((x4 &&& (127 : Int64)) ||| (128 : Int64)))))), (.int (Int8.toInt32 (Int32.toInt8 (Int64.toInt32 ((x5 &&& (127 : Int64)) ||| (128 : Int64)))))), (.int f), (.int f), (.int f), (.int f), (.int f), (.int f)] := A_53
              refine g_lload C d2_36 (v := x5) rfl (pc' := 38) rfl ?_
              refine g_bipush C d2_38 (v := (7 : Int32)) rfl (pc' := 40) rfl ?_
              refine g_lushr C (x := x5) (y := (7 : Int32)) d2_40  (pc' := 41) rfl ?_
              obtain ⟨x6, hx6⟩ : ∃ z : Int64, z = (Jvm.Free.XT.ushrL x5 (7 : Int32)) := ⟨_, rfl⟩
              rw [← hx6]
              have y6 : x6 = Jvm.Free.XT.ushrL x (42 : Int32) := by rw [hx6, y5]; exact own_sh x (ka := 35) (kb := 7) (by decide) (by decide) (by decide)
              have nz6 : ¬ Jvm.Free.XT.ushrL x (42 : Int32) = 0 := by rw [← y6, hx6]; exact fun q => hb_46 ((own_m128 _).mpr q)
              refine g_lstore C d2_41 (v := x6) (L' := #[.val (.ref a1), .val (.int (2 : Int32)), .val (.long x), .second, .val (.int (8 : Int32)), .val (.long x6), .second]) rfl (pc' := 43) rfl ?_
              refine g_goto C d2_43 (pc' := 6) (by decide) (by decide) ?_
              refine g_lload C d2_6 (v := x6) rfl (pc' := 8) rfl ?_
              refine g_ldc2_w C (v := (-128 : Int64)) (own_w hw 9 rfl) d2_8 (pc' := 11) rfl ?_
              refine g_land C (x := x6) (y := (-128 : Int64)) d2_11  (pc' := 12) rfl ?_
              refine g_lconst C d2_12 (v := (0 : Int64)) rfl (pc' := 13) rfl ?_
              refine g_lcmp C (x := (x6 &&& (-128 : Int64))) (y := (0 : Int64)) d2_13 (pc' := 14) rfl ?_
              by_cases hb_55 : (x6 &&& (-128 : Int64)) = (0 : Int64)
              · refine g_if_y C d2_14 (Jvm.Free.XT.ll_eq_t hb_55) (pc' := 46) (by decide) (by decide) ?_
                refine g_aload_n C d2_46 (v := (.ref a1)) rfl rfl (pc' := 47) rfl ?_
                refine g_iload C d2_47 (v := (8 : Int32)) rfl (pc' := 49) rfl ?_
                refine g_iinc C d2_49 (v := (8 : Int32)) (w := (9 : Int32)) rfl rfl (L' := #[.val (.ref a1), .val (.int (2 : Int32)), .val (.long x), .second, .val (.int (9 : Int32)), .val (.long x6), .second]) rfl (pc' := 52) rfl ?_
                refine g_lload C d2_52 (v := x6) rfl (pc' := 54) rfl ?_
                refine g_l2i C (x := x6) d2_54 (pc' := 55) rfl ?_
                refine g_i2b C (x := (Int64.toInt32 x6)) d2_55 (pc' := 56) rfl ?_
                refine g_bastoreB C f_54 (by decide) (i := 8) (by decide) (show 8 < 14 by decide) (w := (.int (Int8.toInt32 (Int32.toInt8 (Int64.toInt32 x6))))) (congrArg Value.int (own_narb _)) g0 d2_56 (pc' := 57) rfl ?_
                intro h_56 K_57 A_58
                have f_59 : Ary Z h_56 a1 .byte [(.int f), (.int f), (.int (Int8.toInt32 (Int32.toInt8 (Int64.toInt32 ((x &&& (127 : Int64)) ||| (128 : Int64)))))), (.int (Int8.toInt32 (Int32.toInt8 (Int64.toInt32 ((x1 &&& (127 : Int64)) ||| (128 : Int64)))))), (.int (Int8.toInt32 (Int32.toInt8 (Int64.toInt32 ((x2 &&& (127 : Int64)) ||| (128 : Int64)))))), (.int (Int8.toInt32 (Int32.toInt8 (Int64.toInt32 ((x3 &&& (127 : Int64)) ||| (128 : Int64)))))), (.int (Int8.toInt32 (Int32.toInt8 (Int64.toInt32 ((x4 &&& (127 : Int64)) ||| (128 : Int64)))))), (.int (Int8.toInt32 (Int32.toInt8 (Int64.toInt32 ((x5 &&& (127 : Int64)) ||| (128 : Int64)))))), (.int (Int8.toInt32 (Int32.toInt8 (Int64.toInt32 x6)))), (.int f), (.int f), (.int f), (.int f), (.int f)] := A_58
                refine g_iload C d2_57 (v := (9 : Int32)) rfl (pc' := 59) rfl ?_
                refine g_ret C (v := (.int (9 : Int32))) (ty := .int) rfl rfl (Or.inl ⟨rfl, Or.inl rfl, _, rfl⟩) d2_59 (by decide) (by decide) ?_
                have zk : Jvm.Free.XT.ushrL x6 (7 : Int32) = 0 := (own_m128 _).mp hb_55
                have zz : Jvm.Free.XT.ushrL x (49 : Int32) = 0 := by rw [← own_sh x (ka := 42) (kb := 7) (a := (42 : Int32)) (b := (7 : Int32)) (by decide) (by decide) (by decide), ← y6]; exact zk
                have hn : nlen x = (7 : Int32) := by rw [nlen, if_neg nz1, if_neg nz2, if_neg nz3, if_neg nz4, if_neg nz5, if_neg nz6, if_pos zz]
                have e0 : expF (0 : Int32) (2 : Int32) (7 : Int32) x f = f := own_e0 (by decide)
                have e1 : expF (1 : Int32) (2 : Int32) (7 : Int32) x f = f := own_e0 (by decide)
                have e2 : expF (2 : Int32) (2 : Int32) (7 : Int32) x f = (Int8.toInt32 (Int32.toInt8 (Int64.toInt32 ((x &&& (127 : Int64)) ||| (128 : Int64))))) := own_e2 (c := (0 : Int32)) (by decide) (by decide) (by decide) (by decide) (own_u0 x)
                have e3 : expF (3 : Int32) (2 : Int32) (7 : Int32) x f = (Int8.toInt32 (Int32.toInt8 (Int64.toInt32 ((x1 &&& (127 : Int64)) ||| (128 : Int64))))) := own_e2 (c := (7 : Int32)) (by decide) (by decide) (by decide) (by decide) y1
                have e4 : expF (4 : Int32) (2 : Int32) (7 : Int32) x f = (Int8.toInt32 (Int32.toInt8 (Int64.toInt32 ((x2 &&& (127 : Int64)) ||| (128 : Int64))))) := own_e2 (c := (14 : Int32)) (by decide) (by decide) (by decide) (by decide) y2
                have e5 : expF (5 : Int32) (2 : Int32) (7 : Int32) x f = (Int8.toInt32 (Int32.toInt8 (Int64.toInt32 ((x3 &&& (127 : Int64)) ||| (128 : Int64))))) := own_e2 (c := (21 : Int32)) (by decide) (by decide) (by decide) (by decide) y3
                have e6 : expF (6 : Int32) (2 : Int32) (7 : Int32) x f = (Int8.toInt32 (Int32.toInt8 (Int64.toInt32 ((x4 &&& (127 : Int64)) ||| (128 : Int64))))) := own_e2 (c := (28 : Int32)) (by decide) (by decide) (by decide) (by decide) y4
                have e7 : expF (7 : Int32) (2 : Int32) (7 : Int32) x f = (Int8.toInt32 (Int32.toInt8 (Int64.toInt32 ((x5 &&& (127 : Int64)) ||| (128 : Int64))))) := own_e2 (c := (35 : Int32)) (by decide) (by decide) (by decide) (by decide) y5
                have e8 : expF (8 : Int32) (2 : Int32) (7 : Int32) x f = (Int8.toInt32 (Int32.toInt8 (Int64.toInt32 x6))) := own_e3 (c := (42 : Int32)) (by decide) (by decide) (by decide) (by decide) y6 zk
                have e9 : expF (9 : Int32) (2 : Int32) (7 : Int32) x f = f := own_e1 (by decide) (by decide)
                have e10 : expF (10 : Int32) (2 : Int32) (7 : Int32) x f = f := own_e1 (by decide) (by decide)
                have e11 : expF (11 : Int32) (2 : Int32) (7 : Int32) x f = f := own_e1 (by decide) (by decide)
                have e12 : expF (12 : Int32) (2 : Int32) (7 : Int32) x f = f := own_e1 (by decide) (by decide)
                have e13 : expF (13 : Int32) (2 : Int32) (7 : Int32) x f = f := own_e1 (by decide) (by decide)
                rw [hn]
                exact ⟨rfl, ((((((((Keep.refl h0 [a1]).trans K_7 (allS (Or.inl (List.mem_of_getElem? (i := 0) rfl)) all0)).trans K_16 (allS (Or.inl (List.mem_of_getElem? (i := 0) rfl)) all0)).trans K_25 (allS (Or.inl (List.mem_of_getElem? (i := 0) rfl)) all0)).trans K_34 (allS (Or.inl (List.mem_of_getElem? (i := 0) rfl)) all0)).trans K_43 (allS (Or.inl (List.mem_of_getElem? (i := 0) rfl)) all0)).trans K_52 (allS (Or.inl (List.mem_of_getElem? (i := 0) rfl)) all0)).trans K_57 (allS (Or.inl (List.mem_of_getElem? (i := 0) rfl)) all0)), by rw [e0, e1, e2, e3, e4, e5, e6, e7, e8, e9, e10, e11, e12, e13]; exact f_59⟩
              · refine g_if_n C d2_14 (Jvm.Free.XT.ll_eq_f hb_55) (pc' := 17) rfl ?_
                refine g_aload_n C d2_17 (v := (.ref a1)) rfl rfl (pc' := 18) rfl ?_
                refine g_iload C d2_18 (v := (8 : Int32)) rfl (pc' := 20) rfl ?_
                refine g_iinc C d2_20 (v := (8 : Int32)) (w := (9 : Int32)) rfl rfl (L' := #[.val (.ref a1), .val (.int (2 : Int32)), .val (.long x), .second, .val (.int (9 : Int32)), .val (.long x6), .second]) rfl (pc' := 23) rfl ?_
                refine g_lload C d2_23 (v := x6) rfl (pc' := 25) rfl ?_
                refine g_ldc2_w C (v := (127 : Int64)) (own_w hw 14 rfl) d2_25 (pc' := 28) rfl ?_
                refine g_land C (x := x6) (y := (127 : Int64)) d2_28  (pc' := 29) rfl ?_
                refine g_ldc2_w C (v := (128 : Int64)) (own_w hw 15 rfl) d2_29 (pc' := 32) rfl ?_
                refine g_lor C (x := (x6 &&& (127 : Int64))) (y := (128 : Int64)) d2_32  (pc' := 33) rfl ?_
                refine g_l2i C (x := ((x6 &&& (127 : Int64)) ||| (128 : Int64))) d2_33 (pc' := 34) rfl ?_
                refine g_i2b C (x := (Int64.toInt32 ((x6 &&& (127 : Int64)) ||| (128 : Int64)))) d2_34 (pc' := 35) rfl ?_
                refine g_bastoreB C f_54 (by decide) (i := 8) (by decide) (show 8 < 14 by decide) (w := (.int (Int8.toInt32 (Int32.toInt8 (Int64.toInt32 ((x6 &&& (127 : Int64)) ||| (128 : Int64))))))) (congrArg Value.int (own_narb _)) g0 d2_35 (pc' := 36) rfl ?_
                intro h_60 K_61 A_62
                have f_63 : Ary Z h_60 a1 .byte [(.int f), (.int f), (.int (Int8.toInt32 (Int32.toInt8 (Int64.toInt32 ((x &&& (127 : Int64)) ||| (128 : Int64)))))), (.int (Int8.toInt32 (Int32.toInt8 (Int64.toInt32 ((x1 &&& (127 : Int64)) ||| (128 : Int64)))))), (.int (Int8.toInt32 (Int32.toInt8 (Int64.toInt32 ((x2 &&& (127 : Int64)) ||| (128 : Int64)))))), (.int (Int8.toInt32 (Int32.toInt8 (Int64.toInt32 ((x3 &&& (127 : Int64)) ||| (128 : Int64)))))), (.int (Int8.toInt32 (Int32.toInt8 (Int64.toInt32 ((x4 &&& (127 : Int64)) ||| (128 : Int64)))))), (.int (Int8.toInt32 (Int32.toInt8 (Int64.toInt32 ((x5 &&& (127 : Int64)) ||| (128 : Int64)))))), (.int (Int8.toInt32 (Int32.toInt8 (Int64.toInt32 ((x6 &&& (127 : Int64)) ||| (128 : Int64)))))), (.int f), (.int f), (.int f), (.int f), (.int f)] := A_62
                refine g_lload C d2_36 (v := x6) rfl (pc' := 38) rfl ?_
                refine g_bipush C d2_38 (v := (7 : Int32)) rfl (pc' := 40) rfl ?_
                refine g_lushr C (x := x6) (y := (7 : Int32)) d2_40  (pc' := 41) rfl ?_
                obtain ⟨x7, hx7⟩ : ∃ z : Int64, z = (Jvm.Free.XT.ushrL x6 (7 : Int32)) := ⟨_, rfl⟩
                rw [← hx7]
                have y7 : x7 = Jvm.Free.XT.ushrL x (49 : Int32) := by rw [hx7, y6]; exact own_sh x (ka := 42) (kb := 7) (by decide) (by decide) (by decide)
                have nz7 : ¬ Jvm.Free.XT.ushrL x (49 : Int32) = 0 := by rw [← y7, hx7]; exact fun q => hb_55 ((own_m128 _).mpr q)
                refine g_lstore C d2_41 (v := x7) (L' := #[.val (.ref a1), .val (.int (2 : Int32)), .val (.long x), .second, .val (.int (9 : Int32)), .val (.long x7), .second]) rfl (pc' := 43) rfl ?_
                refine g_goto C d2_43 (pc' := 6) (by decide) (by decide) ?_
                refine g_lload C d2_6 (v := x7) rfl (pc' := 8) rfl ?_
                refine g_ldc2_w C (v := (-128 : Int64)) (own_w hw 9 rfl) d2_8 (pc' := 11) rfl ?_
                refine g_land C (x := x7) (y := (-128 : Int64)) d2_11  (pc' := 12) rfl ?_
                refine g_lconst C d2_12 (v := (0 : Int64)) rfl (pc' := 13) rfl ?_
                refine g_lcmp C (x := (x7 &&& (-128 : Int64))) (y := (0 : Int64)) d2_13 (pc' := 14) rfl ?_
                by_cases hb_64 : (x7 &&& (-128 : Int64)) = (0 : Int64)
                · refine g_if_y C d2_14 (Jvm.Free.XT.ll_eq_t hb_64) (pc' := 46) (by decide) (by decide) ?_
                  refine g_aload_n C d2_46 (v := (.ref a1)) rfl rfl (pc' := 47) rfl ?_
                  refine g_iload C d2_47 (v := (9 : Int32)) rfl (pc' := 49) rfl ?_
                  refine g_iinc C d2_49 (v := (9 : Int32)) (w := (10 : Int32)) rfl rfl (L' := #[.val (.ref a1), .val (.int (2 : Int32)), .val (.long x), .second, .val (.int (10 : Int32)), .val (.long x7), .second]) rfl (pc' := 52) rfl ?_
                  refine g_lload C d2_52 (v := x7) rfl (pc' := 54) rfl ?_
                  refine g_l2i C (x := x7) d2_54 (pc' := 55) rfl ?_
                  refine g_i2b C (x := (Int64.toInt32 x7)) d2_55 (pc' := 56) rfl ?_
                  refine g_bastoreB C f_63 (by decide) (i := 9) (by decide) (show 9 < 14 by decide) (w := (.int (Int8.toInt32 (Int32.toInt8 (Int64.toInt32 x7))))) (congrArg Value.int (own_narb _)) g0 d2_56 (pc' := 57) rfl ?_
                  intro h_65 K_66 A_67
                  have f_68 : Ary Z h_65 a1 .byte [(.int f), (.int f), (.int (Int8.toInt32 (Int32.toInt8 (Int64.toInt32 ((x &&& (127 : Int64)) ||| (128 : Int64)))))), (.int (Int8.toInt32 (Int32.toInt8 (Int64.toInt32 ((x1 &&& (127 : Int64)) ||| (128 : Int64)))))), (.int (Int8.toInt32 (Int32.toInt8 (Int64.toInt32 ((x2 &&& (127 : Int64)) ||| (128 : Int64)))))), (.int (Int8.toInt32 (Int32.toInt8 (Int64.toInt32 ((x3 &&& (127 : Int64)) ||| (128 : Int64)))))), (.int (Int8.toInt32 (Int32.toInt8 (Int64.toInt32 ((x4 &&& (127 : Int64)) ||| (128 : Int64)))))), (.int (Int8.toInt32 (Int32.toInt8 (Int64.toInt32 ((x5 &&& (127 : Int64)) ||| (128 : Int64)))))), (.int (Int8.toInt32 (Int32.toInt8 (Int64.toInt32 ((x6 &&& (127 : Int64)) ||| (128 : Int64)))))), (.int (Int8.toInt32 (Int32.toInt8 (Int64.toInt32 x7)))), (.int f), (.int f), (.int f), (.int f)] := A_67
                  refine g_iload C d2_57 (v := (10 : Int32)) rfl (pc' := 59) rfl ?_
                  refine g_ret C (v := (.int (10 : Int32))) (ty := .int) rfl rfl (Or.inl ⟨rfl, Or.inl rfl, _, rfl⟩) d2_59 (by decide) (by decide) ?_
                  have zk : Jvm.Free.XT.ushrL x7 (7 : Int32) = 0 := (own_m128 _).mp hb_64
                  have zz : Jvm.Free.XT.ushrL x (56 : Int32) = 0 := by rw [← own_sh x (ka := 49) (kb := 7) (a := (49 : Int32)) (b := (7 : Int32)) (by decide) (by decide) (by decide), ← y7]; exact zk
                  have hn : nlen x = (8 : Int32) := by rw [nlen, if_neg nz1, if_neg nz2, if_neg nz3, if_neg nz4, if_neg nz5, if_neg nz6, if_neg nz7, if_pos zz]
                  have e0 : expF (0 : Int32) (2 : Int32) (8 : Int32) x f = f := own_e0 (by decide)
                  have e1 : expF (1 : Int32) (2 : Int32) (8 : Int32) x f = f := own_e0 (by decide)
                  have e2 : expF (2 : Int32) (2 : Int32) (8 : Int32) x f = (Int8.toInt32 (Int32.toInt8 (Int64.toInt32 ((x &&& (127 : Int64)) ||| (128 : Int64))))) := own_e2 (c := (0 : Int32)) (by decide) (by decide) (by decide) (by decide) (own_u0 x)
                  have e3 : expF (3 : Int32) (2 : Int32) (8 : Int32) x f = (Int8.toInt32 (Int32.toInt8 (Int64.toInt32 ((x1 &&& (127 : Int64)) ||| (128 : Int64))))) := own_e2 (c := (7 : Int32)) (by decide) (by decide) (by decide) (by decide) y1
                  have e4 : expF (4 : Int32) (2 : Int32) (8 : Int32) x f = (Int8.toInt32 (Int32.toInt8 (Int64.toInt32 ((x2 &&& (127 : Int64)) ||| (128 : Int64))))) := own_e2 (c := (14 : Int32)) (by decide) (by decide) (by decide) (by decide) y2
                  have e5 : expF (5 : Int32) (2 : Int32) (8 : Int32) x f = (Int8.toInt32 (Int32.toInt8 (Int64.toInt32 ((x3 &&& (127 : Int64)) ||| (128 : Int64))))) := own_e2 (c := (21 : Int32)) (by decide) (by decide) (by decide) (by decide) y3
                  have e6 : expF (6 : Int32) (2 : Int32) (8 : Int32) x f = (Int8.toInt32 (Int32.toInt8 (Int64.toInt32 ((x4 &&& (127 : Int64)) ||| (128 : Int64))))) := own_e2 (c := (28 : Int32)) (by decide) (by decide) (by decide) (by decide) y4
                  have e7 : expF (7 : Int32) (2 : Int32) (8 : Int32) x f = (Int8.toInt32 (Int32.toInt8 (Int64.toInt32 ((x5 &&& (127 : Int64)) ||| (128 : Int64))))) := own_e2 (c := (35 : Int32)) (by decide) (by decide) (by decide) (by decide) y5
                  have e8 : expF (8 : Int32) (2 : Int32) (8 : Int32) x f = (Int8.toInt32 (Int32.toInt8 (Int64.toInt32 ((x6 &&& (127 : Int64)) ||| (128 : Int64))))) := own_e2 (c := (42 : Int32)) (by decide) (by decide) (by decide) (by decide) y6
                  have e9 : expF (9 : Int32) (2 : Int32) (8 : Int32) x f = (Int8.toInt32 (Int32.toInt8 (Int64.toInt32 x7))) := own_e3 (c := (49 : Int32)) (by decide) (by decide) (by decide) (by decide) y7 zk
                  have e10 : expF (10 : Int32) (2 : Int32) (8 : Int32) x f = f := own_e1 (by decide) (by decide)
                  have e11 : expF (11 : Int32) (2 : Int32) (8 : Int32) x f = f := own_e1 (by decide) (by decide)
                  have e12 : expF (12 : Int32) (2 : Int32) (8 : Int32) x f = f := own_e1 (by decide) (by decide)
                  have e13 : expF (13 : Int32) (2 : Int32) (8 : Int32) x f = f := own_e1 (by decide) (by decide)
                  rw [hn]
                  exact ⟨rfl, (((((((((Keep.refl h0 [a1]).trans K_7 (allS (Or.inl (List.mem_of_getElem? (i := 0) rfl)) all0)).trans K_16 (allS (Or.inl (List.mem_of_getElem? (i := 0) rfl)) all0)).trans K_25 (allS (Or.inl (List.mem_of_getElem? (i := 0) rfl)) all0)).trans K_34 (allS (Or.inl (List.mem_of_getElem? (i := 0) rfl)) all0)).trans K_43 (allS (Or.inl (List.mem_of_getElem? (i := 0) rfl)) all0)).trans K_52 (allS (Or.inl (List.mem_of_getElem? (i := 0) rfl)) all0)).trans K_61 (allS (Or.inl (List.mem_of_getElem? (i := 0) rfl)) all0)).trans K_66 (allS (Or.inl (List.mem_of_getElem? (i := 0) rfl)) all0)), by rw [e0, e1, e2, e3, e4, e5, e6, e7, e8, e9, e10, e11, e12, e13]; exact f_68⟩
                · refine g_if_n C d2_14 (Jvm.Free.XT.ll_eq_f hb_64) (pc' := 17) rfl ?_
                  refine g_aload_n C d2_17 (v := (.ref a1)) rfl rfl (pc' := 18) rfl ?_
                  refine g_iload C d2_18 (v := (9 : Int32)) rfl (pc' := 20) rfl ?_
                  refine g_iinc C d2_20 (v := (9 : Int32)) (w := (10 : Int32)) rfl rfl (L' := #[.val (.ref a1), .val (.int (2 : Int32)), .val (.long x), .second, .val (.int (10 : Int32)), .val (.long x7), .second]) rfl (pc' := 23) rfl ?_
                  refine g_lload C d2_23 (v := x7) rfl (pc' := 25) rfl ?_
                  refine g_ldc2_w C (v := (127 : Int64)) (own_w hw 14 rfl) d2_25 (pc' := 28) rfl ?_
                  refine g_land C (x := x7) (y := (127 : Int64)) d2_28  (pc' := 29) rfl ?_
                  refine g_ldc2_w C (v := (128 : Int64)) (own_w hw 15 rfl) d2_29 (pc' := 32) rfl ?_
                  refine g_lor C (x := (x7 &&& (127 : Int64))) (y := (128 : Int64)) d2_32  (pc' := 33) rfl ?_
                  refine g_l2i C (x := ((x7 &&& (127 : Int64)) ||| (128 : Int64))) d2_33 (pc' := 34) rfl ?_
                  refine g_i2b C (x := (Int64.toInt32 ((x7 &&& (127 : Int64)) ||| (128 : Int64)))) d2_34 (pc' := 35) rfl ?_
                  refine g_bastoreB C f_63 (by decide) (i := 9) (by decide) (show 9 < 14 by decide) (w := (.int (Int8.toInt32 (Int32.toInt8 (Int64.toInt32 ((x7 &&& (127 : Int64)) ||| (128 : Int64))))))) (congrArg Value.int (own_narb _)) g0 d2_35 (pc' := 36) rfl ?_
                  intro h_69 K_70 A_71
                  have f_72 : Ary Z h_69 a1 .byte [(.int f), (.int f), (.int (Int8.toInt32 (Int32.toInt8 (Int64.toInt32 ((x &&& (127 : Int64)) ||| (128 : Int64)))))), (.int (Int8.toInt32 (Int32.toInt8 (Int64.toInt32 ((x1 &&& (127 : Int64)) ||| (128 : Int64)))))), (.int (Int8.toInt32 (Int32.toInt8 (Int64.toInt32 ((x2 &&& (127 : Int64)) ||| (128 : Int64)))))), (.int (Int8.toInt32 (Int32.toInt8 (Int64.toInt32 ((x3 &&& (127 : Int64)) ||| (128 : Int64)))))), (.int (Int8.toInt32 (Int32.toInt8 (Int64.toInt32 ((x4 &&& (127 : Int64)) ||| (128 : Int64)))))), (.int (Int8.toInt32 (Int32.toInt8 (Int64.toInt32 ((x5 &&& (127 : Int64)) ||| (128 : Int64)))))), (.int (Int8.toInt32 (Int32.toInt8 (Int64.toInt32 ((x6 &&& (127 : Int64)) ||| (128 : Int64)))))), (.int (Int8.toInt32 (Int32.toInt8 (Int64.toInt32 ((x7 &&& (127 : Int64)) ||| (128 : Int64)))))), (.int f), (.int f), (.int f), (.int f)] := A_71
                  refine g_lload C d2_36 (v := x7) rfl (pc' := 38) rfl ?_
                  refine g_bipush C d2_38 (v := (7 : Int32)) rfl (pc' := 40) rfl ?_
                  refine g_lushr C (x := x7) (y := (7 : Int32)) d2_40  (pc' := 41) rfl ?_
                  obtain ⟨x8, hx8⟩ : ∃ z : Int64, z = (Jvm.Free.XT.ushrL x7 (7 : Int32)) := ⟨_, rfl⟩
                  rw [← hx8]
                  have y8 : x8 = Jvm.Free.XT.ushrL x (56 : Int32) := by rw [hx8, y7]; exact own_sh x (ka := 49) (kb := 7) (by decide) (by decide) (by decide)
                  have nz8 : ¬ Jvm.Free.XT.ushrL x (56 : Int32) = 0 := by rw [← y8, hx8]; exact fun q => hb_64 ((own_m128 _).mpr q)
                  refine g_lstore C d2_41 (v := x8) (L' := #[.val (.ref a1), .val (.int (2 : Int32)), .val (.long x), .second, .val (.int (10 : Int32)), .val (.long x8), .second]) rfl (pc' := 43) rfl ?_
                  refine g_goto C d2_43 (pc' := 6) (by decide) (by decide) ?_
                  refine g_lload C d2_6 (v := x8) rfl (pc' := 8) rfl ?_
                  refine g_ldc2_w C (v := (-128 : Int64)) (own_w hw 9 rfl) d2_8 (pc' := 11) rfl ?_
                  refine g_land C (x := x8) (y := (-128 : Int64)) d2_11  (pc' := 12) rfl ?_
                  refine g_lconst C d2_12 (v := (0 : Int64)) rfl (pc' := 13) rfl ?_
                  refine g_lcmp C (x := (x8 &&& (-128 : Int64))) (y := (0 : Int64)) d2_13 (pc' := 14) rfl ?_
                  by_cases hb_73 : (x8 &&& (-128 : Int64)) = (0 : Int64)
                  · refine g_if_y C d2_14 (Jvm.Free.XT.ll_eq_t hb_73) (pc' := 46) (by decide) (by decide) ?_
                    refine g_aload_n C d2_46 (v := (.ref a1)) rfl rfl (pc' := 47) rfl ?_
                    refine g_iload C d2_47 (v := (10 : Int32)) rfl (pc' := 49) rfl ?_
                    refine g_iinc C d2_49 (v := (10 : Int32)) (w := (11 : Int32)) rfl rfl (L' := #[.val (.ref a1), .val (.int (2 : Int32)), .val (.long x), .second, .val (.int (11 : Int32)), .val (.long x8), .second]) rfl (pc' := 52) rfl ?_
                    refine g_lload C d2_52 (v := x8) rfl (pc' := 54) rfl ?_
                    refine g_l2i C (x := x8) d2_54 (pc' := 55) rfl ?_
                    refine g_i2b C (x := (Int64.toInt32 x8)) d2_55 (pc' := 56) rfl ?_
                    refine g_bastoreB C f_72 (by decide) (i := 10) (by decide) (show 10 < 14 by decide) (w := (.int (Int8.toInt32 (Int32.toInt8 (Int64.toInt32 x8))))) (congrArg Value.int (own_narb _)) g0 d2_56 (pc' := 57) rfl ?_
                    intro h_74 K_75 A_76
                    have f_77 : Ary Z h_74 a1 .byte [(.int f), (.int f), (.int (Int8.toInt32 (Int32.toInt8 (Int64.toInt32 ((x &&& (127 : Int64)) ||| (128 : Int64)))))), (.int (Int8.toInt32 (Int32.toInt8 (Int64.toInt32 ((x1 &&& (127 : Int64)) ||| (128 : Int64)))))), (.int (Int8.toInt32 (Int32.toInt8 (Int64.toInt32 ((x2 &&& (127 : Int64)) ||| (128 : Int64)))))), (.int (Int8.toInt32 (Int32.toInt8 (Int64.toInt32 ((x3 &&& (127 : Int64)) ||| (128 : Int64)))))), (.int (Int8.toInt32 (Int32.toInt8 (Int64.toInt32 ((x4 &&& (127 : Int64)) ||| (128 : Int64)))))), (.int (Int8.toInt32 (Int32.toInt8 (Int64.toInt32 ((x5 &&& (127 : Int64)) ||| (128 : Int64)))))), (.int (Int8.toInt32 (Int32.toInt8 (Int64.toInt32 ((x6 &&& (127 : Int64)) ||| (128 : Int64)))))), (.int (Int8.toInt32 (Int32.toInt8 (Int64.toInt32 ((x7 &&& (127 : Int64)) ||| (128 : Int64)))))), (.int (Int8.toInt32 (Int32.toInt8 (Int64.toInt32 x8)))), (.int f), (.int f), (.int f)] := A_76
                    refine g_iload C d2_57 (v := (11 : Int32)) rfl (pc' := 59) rfl ?_
                    refine g_ret C (v := (.int (11 : Int32))) (ty := .int) rfl rfl (Or.inl ⟨rfl, Or.inl rfl, _, rfl⟩) d2_59 (by decide) (by decide) ?_
                    have zk : Jvm.Free.XT.ushrL x8 (7 : Int32) = 0 := (own_m128 _).mp hb_73
                    have zz : Jvm.Free.XT.ushrL x (63 : Int32) = 0 := by rw [← own_sh x (ka := 56) (kb := 7) (a := (56 : Int32)) (b := (7 : Int32)) (by decide) (by decide) (by decide), ← y8]; exact zk
                    have hn : nlen x = (9 : Int32) := by rw [nlen, if_neg nz1, if_neg nz2, if_neg nz3, if_neg nz4, if_neg nz5, if_neg nz6, if_neg nz7, if_neg nz8, if_pos zz]
                    have e0 : expF (0 : Int32) (2 : Int32) (9 : Int32) x f = f := own_e0 (by decide)
                    have e1 : expF (1 : Int32) (2 : Int32) (9 : Int32) x f = f := own_e0 (by decide)
                    have e2 : expF (2 : Int32) (2 : Int32) (9 : Int32) x f = (Int8.toInt32 (Int32.toInt8 (Int64.toInt32 ((x &&& (127 : Int64)) ||| (128 : Int64))))) := own_e2 (c := (0 : Int32)) (by decide) (by decide) (by decide) (by decide) (own_u0 x)
                    have e3 : expF (3 : Int32) (2 : Int32) (9 : Int32) x f = (Int8.toInt32 (Int32.toInt8 (Int64.toInt32 ((x1 &&& (127 : Int64)) ||| (128 : Int64))))) := own_e2 (c := (7 : Int32)) (by decide) (by decide) (by decide) (by decide) y1
                    have e4 : expF (4 : Int32) (2 : Int32) (9 : Int32) x f = (Int8.toInt32 (Int32.toInt8 (Int64.toInt32 ((x2 &&& (127 : Int64)) ||| (128 : Int64))))) := own_e2 (c := (14 : Int32)) (by decide) (by decide) (by decide) (by decide) y2
                    have e5 : expF (5 : Int32) (2 : Int32) (9 : Int32) x f = (Int8.toInt32 (Int32.toInt8 (Int64.toInt32 ((x3 &&& (127 : Int64)) ||| (128 : Int64))))) := own_e2 (c := (21 : Int32)) (by decide) (by decide) (by decide) (by decide) y3
                    have e6 : expF (6 : Int32) (2 : Int32) (9 : Int32) x f = (Int8.toInt32 (Int32.toInt8 (Int64.toInt32 ((x4 &&& (127 : Int64)) ||| (128 : Int64))))) := own_e2 (c := (28 : Int32)) (by decide) (by decide) (by decide) (by decide) y4
                    have e7 : expF (7 : Int32) (2 : Int32) (9 : Int32) x f = (Int8.toInt32 (Int32.toInt8 (Int64.toInt32 ((x5 &&& (127 : Int64)) ||| (128 : Int64))))) := own_e2 (c := (35 : Int32)) (by decide) (by decide) (by decide) (by decide) y5
                    have e8 : expF (8 : Int32) (2 : Int32) (9 : Int32) x f = (Int8.toInt32 (Int32.toInt8 (Int64.toInt32 ((x6 &&& (127 : Int64)) ||| (128 : Int64))))) := own_e2 (c := (42 : Int32)) (by decide) (by decide) (by decide) (by decide) y6
                    have e9 : expF (9 : Int32) (2 : Int32) (9 : Int32) x f = (Int8.toInt32 (Int32.toInt8 (Int64.toInt32 ((x7 &&& (127 : Int64)) ||| (128 : Int64))))) := own_e2 (c := (49 : Int32)) (by decide) (by decide) (by decide) (by decide) y7
                    have e10 : expF (10 : Int32) (2 : Int32) (9 : Int32) x f = (Int8.toInt32 (Int32.toInt8 (Int64.toInt32 x8))) := own_e3 (c := (56 : Int32)) (by decide) (by decide) (by decide) (by decide) y8 zk
                    have e11 : expF (11 : Int32) (2 : Int32) (9 : Int32) x f = f := own_e1 (by decide) (by decide)
                    have e12 : expF (12 : Int32) (2 : Int32) (9 : Int32) x f = f := own_e1 (by decide) (by decide)
                    have e13 : expF (13 : Int32) (2 : Int32) (9 : Int32) x f = f := own_e1 (by decide) (by decide)
                    rw [hn]
                    exact ⟨rfl, ((((((((((Keep.refl h0 [a1]).trans K_7 (allS (Or.inl (List.mem_of_getElem? (i := 0) rfl)) all0)).trans K_16 (allS (Or.inl (List.mem_of_getElem? (i := 0) rfl)) all0)).trans K_25 (allS (Or.inl (List.mem_of_getElem? (i := 0) rfl)) all0)).trans K_34 (allS (Or.inl (List.mem_of_getElem? (i := 0) rfl)) all0)).trans K_43 (allS (Or.inl (List.mem_of_getElem? (i := 0) rfl)) all0)).trans K_52 (allS (Or.inl (List.mem_of_getElem? (i := 0) rfl)) all0)).trans K_61 (allS (Or.inl (List.mem_of_getElem? (i := 0) rfl)) all0)).trans K_70 (allS (Or.inl (List.mem_of_getElem? (i := 0) rfl)) all0)).trans K_75 (allS (Or.inl (List.mem_of_getElem? (i := 0) rfl)) all0)), by rw [e0, e1, e2, e3, e4, e5, e6, e7, e8, e9, e10, e11, e12, e13]; exact f_77⟩
                  · refine g_if_n C d2_14 (Jvm.Free.XT.ll_eq_f hb_73) (pc' := 17) rfl ?_
                    refine g_aload_n C d2_17 (v := (.ref a1)) rfl rfl (pc' := 18) rfl ?_
                    refine g_iload C d2_18 (v := (10 : Int32)) rfl (pc' := 20) rfl ?_
                    refine g_iinc C d2_20 (v := (10 : Int32)) (w := (11 : Int32)) rfl rfl (L' := #[.val (.ref a1), .val (.int (2 : Int32)), .val (.long x), .second, .val (.int (11 : Int32)), .val (.long x8), .second]) rfl (pc' := 23) rfl ?_
                    refine g_lload C d2_23 (v := x8) rfl (pc' := 25) rfl ?_
                    refine g_ldc2_w C (v := (127 : Int64)) (own_w hw 14 rfl) d2_25 (pc' := 28) rfl ?_
                    refine g_land C (x := x8) (y := (127 : Int64)) d2_28  (pc' := 29) rfl ?_
                    refine g_ldc2_w C (v := (128 : Int64)) (own_w hw 15 rfl) d2_29 (pc' := 32) rfl ?_
                    refine g_lor C (x := (x8 &&& (127 : Int64))) (y := (128 : Int64)) d2_32  (pc' := 33) rfl ?_
                    refine g_l2i C (x := ((x8 &&& (127 : Int64)) ||| (128 : Int64))) d2_33 (pc' := 34) rfl ?_
                    refine g_i2b C (x := (Int64.toInt32 ((x8 &&& (127 : Int64)) ||| (128 : Int64)))) d2_34 (pc' := 35) rfl ?_
                    refine g_bastoreB C f_72 (by decide) (i := 10) (by decide) (show 10 < 14 by decide) (w := (.int (Int8.toInt32 (Int32.toInt8 (Int64.toInt32 ((x8 &&& (127 : Int64)) ||| (128 : Int64))))))) (congrArg Value.int (own_narb _)) g0 d2_35 (pc' := 36) rfl ?_
                    intro h_78 K_79 A_80
                    have f_81 : Ary Z h_78 a1 .byte [(.int f), (.int f), (.int (Int8.toInt32 (Int32.toInt8 (Int64.toInt32 ((x &&& (127 : Int64)) ||| (128 : Int64)))))), (.int (Int8.toInt32 (Int32.toInt8 (Int64.toInt32 ((x1 &&& (127 : Int64)) ||| (128 : Int64)))))), (.int (Int8.toInt32 (Int32.toInt8 (Int64.toInt32 ((x2 &&& (127 : Int64)) ||| (128 : Int64)))))), (.int (Int8.toInt32 (Int32.toInt8 (Int64.toInt32 ((x3 &&& (127 : Int64)) ||| (128 : Int64)))))), (.int (Int8.toInt32 (Int32.toInt8 (Int64.toInt32 ((x4 &&& (127 : Int64)) ||| (128 : Int64)))))), (.int (Int8.toInt32 (Int32.toInt8 (Int64.toInt32 ((x5 &&& (127 : Int64)) ||| (128 : Int64)))))), (.int (Int8.toInt32 (Int32.toInt8 (Int64.toInt32 ((x6 &&& (127 : Int64)) ||| (128 : Int64)))))), (.int (Int8.toInt32 (Int32.toInt8 (Int64.toInt32 ((x7 &&& (127 : Int64)) ||| (128 : Int64)))))), (.int (Int8.toInt32 (Int32.toInt8 (Int64.toInt32 ((x8 &&& (127 : Int64)) ||| (128 : Int64)))))), (.int f), (.int f), (.int f)] := A_80
                    refine g_lload C d2_36 (v := x8) rfl (pc' := 38) rfl ?_
                    refine g_bipush C d2_38 (v := (7 : Int32)) rfl (pc' := 40) rfl ?_
                    refine g_lushr C (x := x8) (y := (7 : Int32)) d2_40  (pc' := 41) rfl ?_
                    obtain ⟨x9, hx9⟩ : ∃ z : Int64, z = (Jvm.Free.XT.ushrL x8 (7 : Int32)) := ⟨_, rfl⟩
                    rw [← hx9]
                    have y9 : x9 = Jvm.Free.XT.ushrL x (63 : Int32) := by rw [hx9, y8]; exact own_sh x (ka := 56) (kb := 7) (by decide) (by decide) (by decide)
                    have nz9 : ¬ Jvm.Free.XT.ushrL x (63 : Int32) = 0 := by rw [← y9, hx9]; exact fun q => hb_73 ((own_m128 _).mpr q)
                    refine g_lstore C d2_41 (v := x9) (L' := #[.val (.ref a1), .val (.int (2 : Int32)), .val (.long x), .second, .val (.int (11 : Int32)), .val (.long x9), .second]) rfl (pc' := 43) rfl ?_
                    refine g_goto C d2_43 (pc' := 6) (by decide) (by decide) ?_
                    refine g_lload C d2_6 (v := x9) rfl (pc' := 8) rfl ?_
                    refine g_ldc2_w C (v := (-128 : Int64)) (own_w hw 9 rfl) d2_8 (pc' := 11) rfl ?_
                    refine g_land C (x := x9) (y := (-128 : Int64)) d2_11  (pc' := 12) rfl ?_
                    refine g_lconst C d2_12 (v := (0 : Int64)) rfl (pc' := 13) rfl ?_
                    refine g_lcmp C (x := (x9 &&& (-128 : Int64))) (y := (0 : Int64)) d2_13 (pc' := 14) rfl ?_
                    refine g_if_y C d2_14 (Jvm.Free.XT.ll_eq_t ((own_m128 _).mpr (by rw [y9]; exact own_zero x))) (pc' := 46) (by decide) (by decide) ?_
                    refine g_aload_n C d2_46 (v := (.ref a1)) rfl rfl (pc' := 47) rfl ?_
                    refine g_iload C d2_47 (v := (11 : Int32)) rfl (pc' := 49) rfl ?_
                    refine g_iinc C d2_49 (v := (11 : Int32)) (w := (12 : Int32)) rfl rfl (L' := #[.val (.ref a1), .val (.int (2 : Int32)), .val (.long x), .second, .val (.int (12 : Int32)), .val (.long x9), .second]) rfl (pc' := 52) rfl ?_
                    refine g_lload C d2_52 (v := x9) rfl (pc' := 54) rfl ?_
                    refine g_l2i C (x := x9) d2_54 (pc' := 55) rfl ?_
                    refine g_i2b C (x := (Int64.toInt32 x9)) d2_55 (pc' := 56) rfl ?_
                    refine g_bastoreB C f_81 (by decide) (i := 11) (by decide) (show 11 < 14 by decide) (w := (.int (Int8.toInt32 (Int32.toInt8 (Int64.toInt32 x9))))) (congrArg Value.int (own_narb _)) g0 d2_56 (pc' := 57) rfl ?_
                    intro h_82 K_83 A_84
                    have f_85 : Ary Z h_82 a1 .byte [(.int f), (.int f), (.int (Int8.toInt32 (Int32.toInt8 (Int64.toInt32 ((x &&& (127 : Int64)) ||| (128 : Int64)))))), (.int (Int8.toInt32 (Int32.toInt8 (Int64.toInt32 ((x1 &&& (127 : Int64)) ||| (128 : Int64)))))), (.int (Int8.toInt32 (Int32.toInt8 (Int64.toInt32 ((x2 &&& (127 : Int64)) ||| (128 : Int64)))))), (.int (Int8.toInt32 (Int32.toInt8 (Int64.toInt32 ((x3 &&& (127 : Int64)) ||| (128 : Int64)))))), (.int (Int8.toInt32 (Int32.toInt8 (Int64.toInt32 ((x4 &&& (127 : Int64)) ||| (128 : Int64)))))), (.int (Int8.toInt32 (Int32.toInt8 (Int64.toInt32 ((x5 &&& (127 : Int64)) ||| (128 : Int64)))))), (.int (Int8.toInt32 (Int32.toInt8 (Int64.toInt32 ((x6 &&& (127 : Int64)) ||| (128 : Int64)))))), (.int (Int8.toInt32 (Int32.toInt8 (Int64.toInt32 ((x7 &&& (127 : Int64)) ||| (128 : Int64)))))), (.int (Int8.toInt32 (Int32.toInt8 (Int64.toInt32 ((x8 &&& (127 : Int64)) ||| (128 : Int64)))))), (.int (Int8.toInt32 (Int32.toInt8 (Int64.toInt32 x9)))), (.int f), (.int f)] := A_84
                    refine g_iload C d2_57 (v := (12 : Int32)) rfl (pc' := 59) rfl ?_
                    refine g_ret C (v := (.int (12 : Int32))) (ty := .int) rfl rfl (Or.inl ⟨rfl, Or.inl rfl, _, rfl⟩) d2_59 (by decide) (by decide) ?_
                    have zk : Jvm.Free.XT.ushrL x9 (7 : Int32) = 0 := by rw [y9]; exact own_zero x
                    have hn : nlen x = (10 : Int32) := by rw [nlen, if_neg nz1, if_neg nz2, if_neg nz3, if_neg nz4, if_neg nz5, if_neg nz6, if_neg nz7, if_neg nz8, if_neg nz9]
                    have e0 : expF (0 : Int32) (2 : Int32) (10 : Int32) x f = f := own_e0 (by decide)
                    have e1 : expF (1 : Int32) (2 : Int32) (10 : Int32) x f = f := own_e0 (by decide)
                    have e2 : expF (2 : Int32) (2 : Int32) (10 : Int32) x f = (Int8.toInt32 (Int32.toInt8 (Int64.toInt32 ((x &&& (127 : Int64)) ||| (128 : Int64))))) := own_e2 (c := (0 : Int32)) (by decide) (by decide) (by decide) (by decide) (own_u0 x)
                    have e3 : expF (3 : Int32) (2 : Int32) (10 : Int32) x f = (Int8.toInt32 (Int32.toInt8 (Int64.toInt32 ((x1 &&& (127 : Int64)) ||| (128 : Int64))))) := own_e2 (c := (7 : Int32)) (by decide) (by decide) (by decide) (by decide) y1
                    have e4 : expF (4 : Int32) (2 : Int32) (10 : Int32) x f = (Int8.toInt32 (Int32.toInt8 (Int64.toInt32 ((x2 &&& (127 : Int64)) ||| (128 : Int64))))) := own_e2 (c := (14 : Int32)) (by decide) (by decide) (by decide) (by decide) y2
                    have e5 : expF (5 : Int32) (2 : Int32) (10 : Int32) x f = (Int8.toInt32 (Int32.toInt8 (Int64.toInt32 ((x3 &&& (127 : Int64)) ||| (128 : Int64))))) := own_e2 (c := (21 : Int32)) (by decide) (by decide) (by decide) (by decide) y3
                    have e6 : expF (6 : Int32) (2 : Int32) (10 : Int32) x f = (Int8.toInt32 (Int32.toInt8 (Int64.toInt32 ((x4 &&& (127 : Int64)) ||| (128 : Int64))))) := own_e2 (c := (28 : Int32)) (by decide) (by decide) (by decide) (by decide) y4
                    have e7 : expF (7 : Int32) (2 : Int32) (10 : Int32) x f = (Int8.toInt32 (Int32.toInt8 (Int64.toInt32 ((x5 &&& (127 : Int64)) ||| (128 : Int64))))) := own_e2 (c := (35 : Int32)) (by decide) (by decide) (by decide) (by decide) y5
                    have e8 : expF (8 : Int32) (2 : Int32) (10 : Int32) x f = (Int8.toInt32 (Int32.toInt8 (Int64.toInt32 ((x6 &&& (127 : Int64)) ||| (128 : Int64))))) := own_e2 (c := (42 : Int32)) (by decide) (by decide) (by decide) (by decide) y6
                    have e9 : expF (9 : Int32) (2 : Int32) (10 : Int32) x f = (Int8.toInt32 (Int32.toInt8 (Int64.toInt32 ((x7 &&& (127 : Int64)) ||| (128 : Int64))))) := own_e2 (c := (49 : Int32)) (by decide) (by decide) (by decide) (by decide) y7
                    have e10 : expF (10 : Int32) (2 : Int32) (10 : Int32) x f = (Int8.toInt32 (Int32.toInt8 (Int64.toInt32 ((x8 &&& (127 : Int64)) ||| (128 : Int64))))) := own_e2 (c := (56 : Int32)) (by decide) (by decide) (by decide) (by decide) y8
                    have e11 : expF (11 : Int32) (2 : Int32) (10 : Int32) x f = (Int8.toInt32 (Int32.toInt8 (Int64.toInt32 x9))) := own_e3 (c := (63 : Int32)) (by decide) (by decide) (by decide) (by decide) y9 zk
                    have e12 : expF (12 : Int32) (2 : Int32) (10 : Int32) x f = f := own_e1 (by decide) (by decide)
                    have e13 : expF (13 : Int32) (2 : Int32) (10 : Int32) x f = f := own_e1 (by decide) (by decide)
                    rw [hn]
                    exact ⟨rfl, (((((((((((Keep.refl h0 [a1]).trans K_7 (allS (Or.inl (List.mem_of_getElem? (i := 0) rfl)) all0)).trans K_16 (allS (Or.inl (List.mem_of_getElem? (i := 0) rfl)) all0)).trans K_25 (allS (Or.inl (List.mem_of_getElem? (i := 0) rfl)) all0)).trans K_34 (allS (Or.inl (List.mem_of_getElem? (i := 0) rfl)) all0)).trans K_43 (allS (Or.inl (List.mem_of_getElem? (i := 0) rfl)) all0)).trans K_52 (allS (Or.inl (List.mem_of_getElem? (i := 0) rfl)) all0)).trans K_61 (allS (Or.inl (List.mem_of_getElem? (i := 0) rfl)) all0)).trans K_70 (allS (Or.inl (List.mem_of_getElem? (i := 0) rfl)) all0)).trans K_79 (allS (Or.inl (List.mem_of_getElem? (i := 0) rfl)) all0)).trans K_83 (allS (Or.inl (List.mem_of_getElem? (i := 0) rfl)) all0)), by rw [e0, e1, e2, e3, e4, e5, e6, e7, e8, e9, e10, e11, e12, e13]; exact f_85⟩
set_option maxRecDepth 65536 in
set_option maxHeartbeats 40000000 in
theorem rm_put3 (l : Launch) (Z : State) (a0 : Array Value) (hw : ∀ d ∈ tables_1, d.before a0 Z = true) (n0 : Nat) (a1 : Addr) (x : Int64) (f : Int32) (h0 : Heap) (Z0 : n0 ≤ h0.size) (F1 : Ary Z h0 a1 .byte [.int f, .int f, .int f, .int f, .int f, .int f, .int f, .int f, .int f, .int f, .int f, .int f, .int f, .int f]) (g0 : n0 ≤ a1) :
    Met1 l Z (⟨"com/example/wirefield/wirefield/WireFormat", "putVarint", "([BIJ)I"⟩ : MethodName) prog_75_method_10_code 7 (some .int) ({ frames := 0, cells := 0, slots := 0, locals := 0 } : Room) n0 #[(.ref a1), (.int (3 : Int32)), (.long x)] h0 (fun v h => v = some (.int ((3 : Int32) + (nlen x))) ∧ Keep h0 h [a1] ∧ Ary Z h a1 .byte [.int (expF (0 : Int32) (3 : Int32) (nlen x) x f), .int (expF (1 : Int32) (3 : Int32) (nlen x) x f), .int (expF (2 : Int32) (3 : Int32) (nlen x) x f), .int (expF (3 : Int32) (3 : Int32) (nlen x) x f), .int (expF (4 : Int32) (3 : Int32) (nlen x) x f), .int (expF (5 : Int32) (3 : Int32) (nlen x) x f), .int (expF (6 : Int32) (3 : Int32) (nlen x) x f), .int (expF (7 : Int32) (3 : Int32) (nlen x) x f), .int (expF (8 : Int32) (3 : Int32) (nlen x) x f), .int (expF (9 : Int32) (3 : Int32) (nlen x) x f), .int (expF (10 : Int32) (3 : Int32) (nlen x) x f), .int (expF (11 : Int32) (3 : Int32) (nlen x) x f), .int (expF (12 : Int32) (3 : Int32) (nlen x) x f), .int (expF (13 : Int32) (3 : Int32) (nlen x) x f)]) := by
  refine met_of (plainFor_of_name own_pn_com_example_wirefield_wirefield_WireFormat) (L0 := #[.val (.ref a1), .val (.int (3 : Int32)), .val (.long x), .second, .unset, .unset, .unset]) (by first | rfl | (simp [argsToLocals, Value.category]; done)) ?_
  intro B C
  change Ctx B l _ _ "com/example/wirefield/wirefield/WireFormat" "putVarint" _ _ Z at C
  refine g_iload_n C d2_0 (v := (3 : Int32)) rfl (pc' := 1) rfl ?_
  refine g_istore C d2_1 (v := (3 : Int32)) (L' := #[.val (.ref a1), .val (.int (3 : Int32)), .val (.long x), .second, .val (.int (3 : Int32)), .unset, .unset]) rfl (pc' := 3) rfl ?_
  refine g_lload_n C d2_3 (v := x) rfl (pc' := 4) rfl ?_
  refine g_lstore C d2_4 (v := x) (L' := #[.val (.ref a1), .val (.int (3 : Int32)), .val (.long x), .second, .val (.int (3 : Int32)), .val (.long x), .second]) rfl (pc' := 6) rfl ?_
  refine g_lload C d2_6 (v := x) rfl (pc' := 8) rfl ?_
  refine g_ldc2_w C (v := (-128 : Int64)) (own_w hw 9 rfl) d2_8 (pc' := 11) rfl ?_
  refine g_land C (x := x) (y := (-128 : Int64)) d2_11  (pc' := 12) rfl ?_
  refine g_lconst C d2_12 (v := (0 : Int64)) rfl (pc' := 13) rfl ?_
  refine g_lcmp C (x := (x &&& (-128 : Int64))) (y := (0 : Int64)) d2_13 (pc' := 14) rfl ?_
  by_cases hb_1 : (x &&& (-128 : Int64)) = (0 : Int64)
  · refine g_if_y C d2_14 (Jvm.Free.XT.ll_eq_t hb_1) (pc' := 46) (by decide) (by decide) ?_
    refine g_aload_n C d2_46 (v := (.ref a1)) rfl rfl (pc' := 47) rfl ?_
    refine g_iload C d2_47 (v := (3 : Int32)) rfl (pc' := 49) rfl ?_
    refine g_iinc C d2_49 (v := (3 : Int32)) (w := (4 : Int32)) rfl rfl (L' := #[.val (.ref a1), .val (.int (3 : Int32)), .val (.long x), .second, .val (.int (4 : Int32)), .val (.long x), .second]) rfl (pc' := 52) rfl ?_
    refine g_lload C d2_52 (v := x) rfl (pc' := 54) rfl ?_
    refine g_l2i C (x := x) d2_54 (pc' := 55) rfl ?_
    refine g_i2b C (x := (Int64.toInt32 x)) d2_55 (pc' := 56) rfl ?_
    refine g_bastoreB C F1 (by decide) (i := 3) (by decide) (show 3 < 14 by decide) (w := (.int (Int8.toInt32 (Int32.toInt8 (Int64.toInt32 x))))) (congrArg Value.int (own_narb _)) g0 d2_56 (pc' := 57) rfl ?_
    intro h_2 K_3 A_4
    have f_5 : Ary Z h_2 a1 .byte [(.int f), (.int f), (.int f), (.int (Int8.toInt32 (Int32.toInt8 (Int64.toInt32 x)))), (.int f), (.int f), (.int f), (.int f), (.int f), (.int f), (.int f), (.int f), (.int f), (.int f)] := A_4
    refine g_iload C d2_57 (v := (4 : Int32)) rfl (pc' := 59) rfl ?_
    refine g_ret C (v := (.int (4 : Int32))) (ty := .int) rfl rfl (Or.inl ⟨rfl, Or.inl rfl, _, rfl⟩) d2_59 (by decide) (by decide) ?_
    have zk : Jvm.Free.XT.ushrL x (7 : Int32) = 0 := (own_m128 _).mp hb_1
    have zz : Jvm.Free.XT.ushrL x (7 : Int32) = 0 := zk
    have hn : nlen x = (1 : Int32) := by rw [nlen, if_pos zz]
    have e0 : expF (0 : Int32) (3 : Int32) (1 : Int32) x f = f := own_e0 (by decide)
    have e1 : expF (1 : Int32) (3 : Int32) (1 : Int32) x f = f := own_e0 (by decide)
    have e2 : expF (2 : Int32) (3 : Int32) (1 : Int32) x f = f := own_e0 (by decide)
    have e3 : expF (3 : Int32) (3 : Int32) (1 : Int32) x f = (Int8.toInt32 (Int32.toInt8 (Int64.toInt32 x))) := own_e3 (c := (0 : Int32)) (by decide) (by decide) (by decide) (by decide) (own_u0 x) zk
    have e4 : expF (4 : Int32) (3 : Int32) (1 : Int32) x f = f := own_e1 (by decide) (by decide)
    have e5 : expF (5 : Int32) (3 : Int32) (1 : Int32) x f = f := own_e1 (by decide) (by decide)
    have e6 : expF (6 : Int32) (3 : Int32) (1 : Int32) x f = f := own_e1 (by decide) (by decide)
    have e7 : expF (7 : Int32) (3 : Int32) (1 : Int32) x f = f := own_e1 (by decide) (by decide)
    have e8 : expF (8 : Int32) (3 : Int32) (1 : Int32) x f = f := own_e1 (by decide) (by decide)
    have e9 : expF (9 : Int32) (3 : Int32) (1 : Int32) x f = f := own_e1 (by decide) (by decide)
    have e10 : expF (10 : Int32) (3 : Int32) (1 : Int32) x f = f := own_e1 (by decide) (by decide)
    have e11 : expF (11 : Int32) (3 : Int32) (1 : Int32) x f = f := own_e1 (by decide) (by decide)
    have e12 : expF (12 : Int32) (3 : Int32) (1 : Int32) x f = f := own_e1 (by decide) (by decide)
    have e13 : expF (13 : Int32) (3 : Int32) (1 : Int32) x f = f := own_e1 (by decide) (by decide)
    rw [hn]
    exact ⟨rfl, ((Keep.refl h0 [a1]).trans K_3 (allS (Or.inl (List.mem_of_getElem? (i := 0) rfl)) all0)), by rw [e0, e1, e2, e3, e4, e5, e6, e7, e8, e9, e10, e11, e12, e13]; exact f_5⟩
  · refine g_if_n C d2_14 (Jvm.Free.XT.ll_eq_f hb_1) (pc' := 17) rfl ?_
    refine g_aload_n C d2_17 (v := (.ref a1)) rfl rfl (pc' := 18) rfl ?_
    refine g_iload C d2_18 (v := (3 : Int32)) rfl (pc' := 20) rfl ?_
    refine g_iinc C d2_20 (v := (3 : Int32)) (w := (4 : Int32)) rfl rfl (L' := #[.val (.ref a1), .val (.int (3 : Int32)), .val (.long x), .second, .val (.int (4 : Int32)), .val (.long x), .second]) rfl (pc' := 23) rfl ?_
    refine g_lload C d2_23 (v := x) rfl (pc' := 25) rfl ?_
    refine g_ldc2_w C (v := (127 : Int64)) (own_w hw 14 rfl) d2_25 (pc' := 28) rfl ?_
    refine g_land C (x := x) (y := (127 : Int64)) d2_28  (pc' := 29) rfl ?_
    refine g_ldc2_w C (v := (128 : Int64)) (own_w hw 15 rfl) d2_29 (pc' := 32) rfl ?_
    refine g_lor C (x := (x &&& (127 : Int64))) (y := (128 : Int64)) d2_32  (pc' := 33) rfl ?_
    refine g_l2i C (x := ((x &&& (127 : Int64)) ||| (128 : Int64))) d2_33 (pc' := 34) rfl ?_
    refine g_i2b C (x := (Int64.toInt32 ((x &&& (127 : Int64)) ||| (128 : Int64)))) d2_34 (pc' := 35) rfl ?_
    refine g_bastoreB C F1 (by decide) (i := 3) (by decide) (show 3 < 14 by decide) (w := (.int (Int8.toInt32 (Int32.toInt8 (Int64.toInt32 ((x &&& (127 : Int64)) ||| (128 : Int64))))))) (congrArg Value.int (own_narb _)) g0 d2_35 (pc' := 36) rfl ?_
    intro h_6 K_7 A_8
    have f_9 : Ary Z h_6 a1 .byte [(.int f), (.int f), (.int f), (.int (Int8.toInt32 (Int32.toInt8 (Int64.toInt32 ((x &&& (127 : Int64)) ||| (128 : Int64)))))), (.int f), (.int f), (.int f), (.int f), (.int f), (.int f), (.int f), (.int f), (.int f), (.int f)] := A_8
    refine g_lload C d2_36 (v := x) rfl (pc' := 38) rfl ?_
    refine g_bipush C d2_38 (v := (7 : Int32)) rfl (pc' := 40) rfl ?_
    refine g_lushr C (x := x) (y := (7 : Int32)) d2_40  (pc' := 41) rfl ?_
    obtain ⟨x1, hx1⟩ : ∃ z : Int64, z = (Jvm.Free.XT.ushrL x (7 : Int32)) := ⟨_, rfl⟩
    rw [← hx1]
    have y1 : x1 = Jvm.Free.XT.ushrL x (7 : Int32) := hx1
    have nz1 : ¬ Jvm.Free.XT.ushrL x (7 : Int32) = 0 := by rw [← y1, hx1]; exact fun q => hb_1 ((own_m128 _).mpr q)
    refine g_lstore C d2_41 (v := x1) (L' := #[.val (.ref a1), .val (.int (3 : Int32)), .val (.long x), .second, .val (.int (4 : Int32)), .val (.long x1), .second]) rfl (pc' := 43) rfl ?_
    refine g_goto C d2_43 (pc' := 6) (by decide) (by decide) ?_
    refine g_lload C d2_6 (v := x1) rfl (pc' := 8) rfl ?_
    refine g_ldc2_w C (v := (-128 : Int64)) (own_w hw 9 rfl) d2_8 (pc' := 11) rfl ?_
    refine g_land C (x := x1) (y := (-128 : Int64)) d2_11  (pc' := 12) rfl ?_
    refine g_lconst C d2_12 (v := (0 : Int64)) rfl (pc' := 13) rfl ?_
    refine g_lcmp C (x := (x1 &&& (-128 : Int64))) (y := (0 : Int64)) d2_13 (pc' := 14) rfl ?_
    by_cases hb_10 : (x1 &&& (-128 : Int64)) = (0 : Int64)
    · refine g_if_y C d2_14 (Jvm.Free.XT.ll_eq_t hb_10) (pc' := 46) (by decide) (by decide) ?_
      refine g_aload_n C d2_46 (v := (.ref a1)) rfl rfl (pc' := 47) rfl ?_
      refine g_iload C d2_47 (v := (4 : Int32)) rfl (pc' := 49) rfl ?_
      refine g_iinc C d2_49 (v := (4 : Int32)) (w := (5 : Int32)) rfl rfl (L' := #[.val (.ref a1), .val (.int (3 : Int32)), .val (.long x), .second, .val (.int (5 : Int32)), .val (.long x1), .second]) rfl (pc' := 52) rfl ?_
      refine g_lload C d2_52 (v := x1) rfl (pc' := 54) rfl ?_
      refine g_l2i C (x := x1) d2_54 (pc' := 55) rfl ?_
      refine g_i2b C (x := (Int64.toInt32 x1)) d2_55 (pc' := 56) rfl ?_
      refine g_bastoreB C f_9 (by decide) (i := 4) (by decide) (show 4 < 14 by decide) (w := (.int (Int8.toInt32 (Int32.toInt8 (Int64.toInt32 x1))))) (congrArg Value.int (own_narb _)) g0 d2_56 (pc' := 57) rfl ?_
      intro h_11 K_12 A_13
      have f_14 : Ary Z h_11 a1 .byte [(.int f), (.int f), (.int f), (.int (Int8.toInt32 (Int32.toInt8 (Int64.toInt32 ((x &&& (127 : Int64)) ||| (128 : Int64)))))), (.int (Int8.toInt32 (Int32.toInt8 (Int64.toInt32 x1)))), (.int f), (.int f), (.int f), (.int f), (.int f), (.int f), (.int f), (.int f), (.int f)] := A_13
      refine g_iload C d2_57 (v := (5 : Int32)) rfl (pc' := 59) rfl ?_
      refine g_ret C (v := (.int (5 : Int32))) (ty := .int) rfl rfl (Or.inl ⟨rfl, Or.inl rfl, _, rfl⟩) d2_59 (by decide) (by decide) ?_
      have zk : Jvm.Free.XT.ushrL x1 (7 : Int32) = 0 := (own_m128 _).mp hb_10
      have zz : Jvm.Free.XT.ushrL x (14 : Int32) = 0 := by rw [← own_sh x (ka := 7) (kb := 7) (a := (7 : Int32)) (b := (7 : Int32)) (by decide) (by decide) (by decide), ← y1]; exact zk
      have hn : nlen x = (2 : Int32) := by rw [nlen, if_neg nz1, if_pos zz]
      have e0 : expF (0 : Int32) (3 : Int32) (2 : Int32) x f = f := own_e0 (by decide)
      have e1 : expF (1 : Int32) (3 : Int32) (2 : Int32) x f = f := own_e0 (by decide)
      have e2 : expF (2 : Int32) (3 : Int32) (2 : Int32) x f = f := own_e0 (by decide)
      have e3 : expF (3 : Int32) (3 : Int32) (2 : Int32) x f = (Int8.toInt32 (Int32.toInt8 (Int64.toInt32 ((x &&& (127 : Int64)) ||| (128 : Int64))))) := own_e2 (c := (0 : Int32)) (by decide) (by decide) (by decide) (by decide) (own_u0 x)
      have e4 : expF (4 : Int32) (3 : Int32) (2 : Int32) x f = (Int8.toInt32 (Int32.toInt8 (Int64.toInt32 x1))) := own_e3 (c := (7 : Int32)) (by decide) (by decide) (by decide) (by decide) y1 zk
      have e5 : expF (5 : Int32) (3 : Int32) (2 : Int32) x f = f := own_e1 (by decide) (by decide)
      have e6 : expF (6 : Int32) (3 : Int32) (2 : Int32) x f = f := own_e1 (by decide) (by decide)
      have e7 : expF (7 : Int32) (3 : Int32) (2 : Int32) x f = f := own_e1 (by decide) (by decide)
      have e8 : expF (8 : Int32) (3 : Int32) (2 : Int32) x f = f := own_e1 (by decide) (by decide)
      have e9 : expF (9 : Int32) (3 : Int32) (2 : Int32) x f = f := own_e1 (by decide) (by decide)
      have e10 : expF (10 : Int32) (3 : Int32) (2 : Int32) x f = f := own_e1 (by decide) (by decide)
      have e11 : expF (11 : Int32) (3 : Int32) (2 : Int32) x f = f := own_e1 (by decide) (by decide)
      have e12 : expF (12 : Int32) (3 : Int32) (2 : Int32) x f = f := own_e1 (by decide) (by decide)
      have e13 : expF (13 : Int32) (3 : Int32) (2 : Int32) x f = f := own_e1 (by decide) (by decide)
      rw [hn]
      exact ⟨rfl, (((Keep.refl h0 [a1]).trans K_7 (allS (Or.inl (List.mem_of_getElem? (i := 0) rfl)) all0)).trans K_12 (allS (Or.inl (List.mem_of_getElem? (i := 0) rfl)) all0)), by rw [e0, e1, e2, e3, e4, e5, e6, e7, e8, e9, e10, e11, e12, e13]; exact f_14⟩
    · refine g_if_n C d2_14 (Jvm.Free.XT.ll_eq_f hb_10) (pc' := 17) rfl ?_
      refine g_aload_n C d2_17 (v := (.ref a1)) rfl rfl (pc' := 18) rfl ?_
      refine g_iload C d2_18 (v := (4 : Int32)) rfl (pc' := 20) rfl ?_
      refine g_iinc C d2_20 (v := (4 : Int32)) (w := (5 : Int32)) rfl rfl (L' := #[.val (.ref a1), .val (.int (3 : Int32)), .val (.long x), .second, .val (.int (5 : Int32)), .val (.long x1), .second]) rfl (pc' := 23) rfl ?_
      refine g_lload C d2_23 (v := x1) rfl (pc' := 25) rfl ?_
      refine g_ldc2_w C (v := (127 : Int64)) (own_w hw 14 rfl) d2_25 (pc' := 28) rfl ?_
      refine g_land C (x := x1) (y := (127 : Int64)) d2_28  (pc' := 29) rfl ?_
      refine g_ldc2_w C (v := (128 : Int64)) (own_w hw 15 rfl) d2_29 (pc' := 32) rfl ?_
      refine g_lor C (x := (x1 &&& (127 : Int64))) (y := (128 : Int64)) d2_32  (pc' := 33) rfl ?_
      refine g_l2i C (x := ((x1 &&& (127 : Int64)) ||| (128 : Int64))) d2_33 (pc' := 34) rfl ?_
      refine g_i2b C (x := (Int64.toInt32 ((x1 &&& (127 : Int64)) ||| (128 : Int64)))) d2_34 (pc' := 35) rfl ?_
      refine g_bastoreB C f_9 (by decide) (i := 4) (by decide) (show 4 < 14 by decide) (w := (.int (Int8.toInt32 (Int32.toInt8 (Int64.toInt32 ((x1 &&& (127 : Int64)) ||| (128 : Int64))))))) (congrArg Value.int (own_narb _)) g0 d2_35 (pc' := 36) rfl ?_
      intro h_15 K_16 A_17
      have f_18 : Ary Z h_15 a1 .byte [(.int f), (.int f), (.int f), (.int (Int8.toInt32 (Int32.toInt8 (Int64.toInt32 ((x &&& (127 : Int64)) ||| (128 : Int64)))))), (.int (Int8.toInt32 (Int32.toInt8 (Int64.toInt32 ((x1 &&& (127 : Int64)) ||| (128 : Int64)))))), (.int f), (.int f), (.int f), (.int f), (.int f), (.int f), (.int f), (.int f), (.int f)] := A_17
      refine g_lload C d2_36 (v := x1) rfl (pc' := 38) rfl ?_
      refine g_bipush C d2_38 (v := (7 : Int32)) rfl (pc' := 40) rfl ?_
      refine g_lushr C (x := x1) (y := (7 : Int32)) d2_40  (pc' := 41) rfl ?_
      obtain ⟨x2, hx2⟩ : ∃ z : Int64, z = (Jvm.Free.XT.ushrL x1 (7 : Int32)) := ⟨_, rfl⟩
      rw [← hx2]
      have y2 : x2 = Jvm.Free.XT.ushrL x (14 : Int32) := by rw [hx2, y1]; exact own_sh x (ka := 7) (kb := 7) (by decide) (by decide) (by decide)
      have nz2 : ¬ Jvm.Free.XT.ushrL x (14 : Int32) = 0 := by rw [← y2, hx2]; exact fun q => hb_10 ((own_m128 _).mpr q)
      refine g_lstore C d2_41 (v := x2) (L' := #[.val (.ref a1), .val (.int (3 : Int32)), .val (.long x), .second, .val (.int (5 : Int32)), .val (.long x2), .second]) rfl (pc' := 43) rfl ?_
      refine g_goto C d2_43 (pc' := 6) (by decide) (by decide) ?_
      refine g_lload C d2_6 (v := x2) rfl (pc' := 8) rfl ?_
      refine g_ldc2_w C (v := (-128 : Int64)) (own_w hw 9 rfl) d2_8 (pc' := 11) rfl ?_
      refine g_land C (x := x2) (y := (-128 : Int64)) d2_11  (pc' := 12) rfl ?_
      refine g_lconst C d2_12 (v := (0 : Int64)) rfl (pc' := 13) rfl ?_
      refine g_lcmp C (x := (x2 &&& (-128 : Int64))) (y := (0 : Int64)) d2_13 (pc' := 14) rfl ?_
      by_cases hb_19 : (x2 &&& (-128 : Int64)) = (0 : Int64)
      · refine g_if_y C d2_14 (Jvm.Free.XT.ll_eq_t hb_19) (pc' := 46) (by decide) (by decide) ?_
        refine g_aload_n C d2_46 (v := (.ref a1)) rfl rfl (pc' := 47) rfl ?_
        refine g_iload C d2_47 (v := (5 : Int32)) rfl (pc' := 49) rfl ?_
        refine g_iinc C d2_49 (v := (5 : Int32)) (w := (6 : Int32)) rfl rfl (L' := #[.val (.ref a1), .val (.int (3 : Int32)), .val (.long x), .second, .val (.int (6 : Int32)), .val (.long x2), .second]) rfl (pc' := 52) rfl ?_
        refine g_lload C d2_52 (v := x2) rfl (pc' := 54) rfl ?_
        refine g_l2i C (x := x2) d2_54 (pc' := 55) rfl ?_
        refine g_i2b C (x := (Int64.toInt32 x2)) d2_55 (pc' := 56) rfl ?_
        refine g_bastoreB C f_18 (by decide) (i := 5) (by decide) (show 5 < 14 by decide) (w := (.int (Int8.toInt32 (Int32.toInt8 (Int64.toInt32 x2))))) (congrArg Value.int (own_narb _)) g0 d2_56 (pc' := 57) rfl ?_
        intro h_20 K_21 A_22
        have f_23 : Ary Z h_20 a1 .byte [(.int f), (.int f), (.int f), (.int (Int8.toInt32 (Int32.toInt8 (Int64.toInt32 ((x &&& (127 : Int64)) ||| (128 : Int64)))))), (.int (Int8.toInt32 (Int32.toInt8 (Int64.toInt32 ((x1 &&& (127 : Int64)) ||| (128 : Int64)))))), (.int (Int8.toInt32 (Int32.toInt8 (Int64.toInt32 x2)))), (.int f), (.int f), (.int f), (.int f), (.int f), (.int f), (.int f), (.int f)] := A_22
        refine g_iload C d2_57 (v := (6 : Int32)) rfl (pc' := 59) rfl ?_
        refine g_ret C (v := (.int (6 : Int32))) (ty := .int) rfl rfl (Or.inl ⟨rfl, Or.inl rfl, _, rfl⟩) d2_59 (by decide) (by decide) ?_
        have zk : Jvm.Free.XT.ushrL x2 (7 : Int32) = 0 := (own_m128 _).mp hb_19
        have zz : Jvm.Free.XT.ushrL x (21 : Int32) = 0 := by rw [← own_sh x (ka := 14) (kb := 7) (a := (14 : Int32)) (b := (7 : Int32)) (by decide) (by decide) (by decide), ← y2]; exact zk
        have hn : nlen x = (3 : Int32) := by rw [nlen, if_neg nz1, if_neg nz2, if_pos zz]
        have e0 : expF (0 : Int32) (3 : Int32) (3 : Int32) x f = f := own_e0 (by decide)
        have e1 : expF (1 : Int32) (3 : Int32) (3 : Int32) x f = f := own_e0 (by decide)
        have e2 : expF (2 : Int32) (3 : Int32) (3 : Int32) x f = f := own_e0 (by decide)
        have e3 : expF (3 : Int32) (3 : Int32) (3 : Int32) x f = (Int8.toInt32 (Int32.toInt8 (Int64.toInt32 ((x &&& (127 : Int64)) ||| (128 : Int64))))) := own_e2 (c := (0 : Int32)) (by decide) (by decide) (by decide) (by decide) (own_u0 x)
        have e4 : expF (4 : Int32) (3 : Int32) (3 : Int32) x f = (Int8.toInt32 (Int32.toInt8 (Int64.toInt32 ((x1 &&& (127 : Int64)) ||| (128 : Int64))))) := own_e2 (c := (7 : Int32)) (by decide) (by decide) (by decide) (by decide) y1
        have e5 : expF (5 : Int32) (3 : Int32) (3 : Int32) x f = (Int8.toInt32 (Int32.toInt8 (Int64.toInt32 x2))) := own_e3 (c := (14 : Int32)) (by decide) (by decide) (by decide) (by decide) y2 zk
        have e6 : expF (6 : Int32) (3 : Int32) (3 : Int32) x f = f := own_e1 (by decide) (by decide)
        have e7 : expF (7 : Int32) (3 : Int32) (3 : Int32) x f = f := own_e1 (by decide) (by decide)
        have e8 : expF (8 : Int32) (3 : Int32) (3 : Int32) x f = f := own_e1 (by decide) (by decide)
        have e9 : expF (9 : Int32) (3 : Int32) (3 : Int32) x f = f := own_e1 (by decide) (by decide)
        have e10 : expF (10 : Int32) (3 : Int32) (3 : Int32) x f = f := own_e1 (by decide) (by decide)
        have e11 : expF (11 : Int32) (3 : Int32) (3 : Int32) x f = f := own_e1 (by decide) (by decide)
        have e12 : expF (12 : Int32) (3 : Int32) (3 : Int32) x f = f := own_e1 (by decide) (by decide)
        have e13 : expF (13 : Int32) (3 : Int32) (3 : Int32) x f = f := own_e1 (by decide) (by decide)
        rw [hn]
        exact ⟨rfl, ((((Keep.refl h0 [a1]).trans K_7 (allS (Or.inl (List.mem_of_getElem? (i := 0) rfl)) all0)).trans K_16 (allS (Or.inl (List.mem_of_getElem? (i := 0) rfl)) all0)).trans K_21 (allS (Or.inl (List.mem_of_getElem? (i := 0) rfl)) all0)), by rw [e0, e1, e2, e3, e4, e5, e6, e7, e8, e9, e10, e11, e12, e13]; exact f_23⟩
      · refine g_if_n C d2_14 (Jvm.Free.XT.ll_eq_f hb_19) (pc' := 17) rfl ?_
        refine g_aload_n C d2_17 (v := (.ref a1)) rfl rfl (pc' := 18) rfl ?_
        refine g_iload C d2_18 (v := (5 : Int32)) rfl (pc' := 20) rfl ?_
        refine g_iinc C d2_20 (v := (5 : Int32)) (w := (6 : Int32)) rfl rfl (L' := #[.val (.ref a1), .val (.int (3 : Int32)), .val (.long x), .second, .val (.int (6 : Int32)), .val (.long x2), .second]) rfl (pc' := 23) rfl ?_
        refine g_lload C d2_23 (v := x2) rfl (pc' := 25) rfl ?_
        refine g_ldc2_w C (v := (127 : Int64)) (own_w hw 14 rfl) d2_25 (pc' := 28) rfl ?_
        refine g_land C (x := x2) (y := (127 : Int64)) d2_28  (pc' := 29) rfl ?_
        refine g_ldc2_w C (v := (128 : Int64)) (own_w hw 15 rfl) d2_29 (pc' := 32) rfl ?_
        refine g_lor C (x := (x2 &&& (127 : Int64))) (y := (128 : Int64)) d2_32  (pc' := 33) rfl ?_
        refine g_l2i C (x := ((x2 &&& (127 : Int64)) ||| (128 : Int64))) d2_33 (pc' := 34) rfl ?_
        refine g_i2b C (x := (Int64.toInt32 ((x2 &&& (127 : Int64)) ||| (128 : Int64)))) d2_34 (pc' := 35) rfl ?_
        refine g_bastoreB C f_18 (by decide) (i := 5) (by decide) (show 5 < 14 by decide) (w := (.int (Int8.toInt32 (Int32.toInt8 (Int64.toInt32 ((x2 &&& (127 : Int64)) ||| (128 : Int64))))))) (congrArg Value.int (own_narb _)) g0 d2_35 (pc' := 36) rfl ?_
        intro h_24 K_25 A_26
        have f_27 : Ary Z h_24 a1 .byte [(.int f), (.int f), (.int f), (.int (Int8.toInt32 (Int32.toInt8 (Int64.toInt32 ((x &&& (127 : Int64)) ||| (128 : Int64)))))), (.int (Int8.toInt32 (Int32.toInt8 (Int64.toInt32 ((x1 &&& (127 : Int64)) ||| (128 : Int64)))))), (.int (Int8.toInt32 (Int32.toInt8 (Int64.toInt32 ((x2 &&& (127 : Int64)) ||| (128 : Int64)))))), (.int f), (.int f), (.int f), (.int f), (.int f), (.int f), (.int f), (.int f)] := A_26
        refine g_lload C d2_36 (v := x2) rfl (pc' := 38) rfl ?_
        refine g_bipush C d2_38 (v := (7 : Int32)) rfl (pc' := 40) rfl ?_
        refine g_lushr C (x := x2) (y := (7 : Int32)) d2_40  (pc' := 41) rfl ?_
        obtain ⟨x3, hx3⟩ : ∃ z : Int64, z = (Jvm.Free.XT.ushrL x2 (7 : Int32)) := ⟨_, rfl⟩
        rw [← hx3]
        have y3 : x3 = Jvm.Free.XT.ushrL x (21 : Int32) := by rw [hx3, y2]; exact own_sh x (ka := 14) (kb := 7) (by decide) (by decide) (by decide)
        have nz3 : ¬ Jvm.Free.XT.ushrL x (21 : Int32) = 0 := by rw [← y3, hx3]; exact fun q => hb_19 ((own_m128 _).mpr q)
        refine g_lstore C d2_41 (v := x3) (L' := #[.val (.ref a1), .val (.int (3 : Int32)), .val (.long x), .second, .val (.int (6 : Int32)), .val (.long x3), .second]) rfl (pc' := 43) rfl ?_
        refine g_goto C d2_43 (pc' := 6) (by decide) (by decide) ?_
        refine g_lload C d2_6 (v := x3) rfl (pc' := 8) rfl ?_
        refine g_ldc2_w C (v := (-128 : Int64)) (own_w hw 9 rfl) d2_8 (pc' := 11) rfl ?_
        refine g_land C (x := x3) (y := (-128 : Int64)) d2_11  (pc' := 12) rfl ?_
        refine g_lconst C d2_12 (v := (0 : Int64)) rfl (pc' := 13) rfl ?_
        refine g_lcmp C (x := (x3 &&& (-128 : Int64))) (y := (0 : Int64)) d2_13 (pc' := 14) rfl ?_
        by_cases hb_28 : (x3 &&& (-128 : Int64)) = (0 : Int64)
        · refine g_if_y C d2_14 (Jvm.Free.XT.ll_eq_t hb_28) (pc' := 46) (by decide) (by decide) ?_
          refine g_aload_n C d2_46 (v := (.ref a1)) rfl rfl (pc' := 47) rfl ?_
          refine g_iload C d2_47 (v := (6 : Int32)) rfl (pc' := 49) rfl ?_
          refine g_iinc C d2_49 (v := (6 : Int32)) (w := (7 : Int32)) rfl rfl (L' := #[.val (.ref a1), .val (.int (3 : Int32)), .val (.long x), .second, .val (.int (7 : Int32)), .val (.long x3), .second]) rfl (pc' := 52) rfl ?_
          refine g_lload C d2_52 (v := x3) rfl (pc' := 54) rfl ?_
          refine g_l2i C (x := x3) d2_54 (pc' := 55) rfl ?_
          refine g_i2b C (x := (Int64.toInt32 x3)) d2_55 (pc' := 56) rfl ?_
          refine g_bastoreB C f_27 (by decide) (i := 6) (by decide) (show 6 < 14 by decide) (w := (.int (Int8.toInt32 (Int32.toInt8 (Int64.toInt32 x3))))) (congrArg Value.int (own_narb _)) g0 d2_56 (pc' := 57) rfl ?_
          intro h_29 K_30 A_31
          have f_32 : Ary Z h_29 a1 .byte [(.int f), (.int f), (.int f), (.int (Int8.toInt32 (Int32.toInt8 (Int64.toInt32 ((x &&& (127 : Int64)) ||| (128 : Int64)))))), (.int (Int8.toInt32 (Int32.toInt8 (Int64.toInt32 ((x1 &&& (127 : Int64)) ||| (128 : Int64)))))), (.int (Int8.toInt32 (Int32.toInt8 (Int64.toInt32 ((x2 &&& (127 : Int64)) ||| (128 : Int64)))))), (.int (Int8.toInt32 (Int32.toInt8 (Int64.toInt32 x3)))), (.int f), (.int f), (.int f), (.int f), (.int f), (.int f), (.int f)] := A_31
          refine g_iload C d2_57 (v := (7 : Int32)) rfl (pc' := 59) rfl ?_
          refine g_ret C (v := (.int (7 : Int32))) (ty := .int) rfl rfl (Or.inl ⟨rfl, Or.inl rfl, _, rfl⟩) d2_59 (by decide) (by decide) ?_
          have zk : Jvm.Free.XT.ushrL x3 (7 : Int32) = 0 := (own_m128 _).mp hb_28
          have zz : Jvm.Free.XT.ushrL x (28 : Int32) = 0 := by rw [← own_sh x (ka := 21) (kb := 7) (a := (21 : Int32)) (b := (7 : Int32)) (by decide) (by decide) (by decide), ← y3]; exact zk
          have hn : nlen x = (4 : Int32) := by rw [nlen, if_neg nz1, if_neg nz2, if_neg nz3, if_pos zz]
          have e0 : expF (0 : Int32) (3 : Int32) (4 : Int32) x f = f := own_e0 (by decide)
          have e1 : expF (1 : Int32) (3 : Int32) (4 : Int32) x f = f := own_e0 (by decide)
          have e2 : expF (2 : Int32) (3 : Int32) (4 : Int32) x f = f := own_e0 (by decide)
          have e3 : expF (3 : Int32) (3 : Int32) (4 : Int32) x f = (Int8.toInt32 (Int32.toInt8 (Int64.toInt32 ((x &&& (127 : Int64)) ||| (128 : Int64))))) := own_e2 (c := (0 : Int32)) (by decide) (by decide) (by decide) (by decide) (own_u0 x)
          have e4 : expF (4 : Int32) (3 : Int32) (4 : Int32) x f = (Int8.toInt32 (Int32.toInt8 (Int64.toInt32 ((x1 &&& (127 : Int64)) ||| (128 : Int64))))) := own_e2 (c := (7 : Int32)) (by decide) (by decide) (by decide) (by decide) y1
          have e5 : expF (5 : Int32) (3 : Int32) (4 : Int32) x f = (Int8.toInt32 (Int32.toInt8 (Int64.toInt32 ((x2 &&& (127 : Int64)) ||| (128 : Int64))))) := own_e2 (c := (14 : Int32)) (by decide) (by decide) (by decide) (by decide) y2
          have e6 : expF (6 : Int32) (3 : Int32) (4 : Int32) x f = (Int8.toInt32 (Int32.toInt8 (Int64.toInt32 x3))) := own_e3 (c := (21 : Int32)) (by decide) (by decide) (by decide) (by decide) y3 zk
          have e7 : expF (7 : Int32) (3 : Int32) (4 : Int32) x f = f := own_e1 (by decide) (by decide)
          have e8 : expF (8 : Int32) (3 : Int32) (4 : Int32) x f = f := own_e1 (by decide) (by decide)
          have e9 : expF (9 : Int32) (3 : Int32) (4 : Int32) x f = f := own_e1 (by decide) (by decide)
          have e10 : expF (10 : Int32) (3 : Int32) (4 : Int32) x f = f := own_e1 (by decide) (by decide)
          have e11 : expF (11 : Int32) (3 : Int32) (4 : Int32) x f = f := own_e1 (by decide) (by decide)
          have e12 : expF (12 : Int32) (3 : Int32) (4 : Int32) x f = f := own_e1 (by decide) (by decide)
          have e13 : expF (13 : Int32) (3 : Int32) (4 : Int32) x f = f := own_e1 (by decide) (by decide)
          rw [hn]
          exact ⟨rfl, (((((Keep.refl h0 [a1]).trans K_7 (allS (Or.inl (List.mem_of_getElem? (i := 0) rfl)) all0)).trans K_16 (allS (Or.inl (List.mem_of_getElem? (i := 0) rfl)) all0)).trans K_25 (allS (Or.inl (List.mem_of_getElem? (i := 0) rfl)) all0)).trans K_30 (allS (Or.inl (List.mem_of_getElem? (i := 0) rfl)) all0)), by rw [e0, e1, e2, e3, e4, e5, e6, e7, e8, e9, e10, e11, e12, e13]; exact f_32⟩
        · refine g_if_n C d2_14 (Jvm.Free.XT.ll_eq_f hb_28) (pc' := 17) rfl ?_
          refine g_aload_n C d2_17 (v := (.ref a1)) rfl rfl (pc' := 18) rfl ?_
          refine g_iload C d2_18 (v := (6 : Int32)) rfl (pc' := 20) rfl ?_
          refine g_iinc C d2_20 (v := (6 : Int32)) (w := (7 : Int32)) rfl rfl (L' := #[.val (.ref a1), .val (.int (3 : Int32)), .val (.long x), .second, .val (.int (7 : Int32)), .val (.long x3), .second]) rfl (pc' := 23) rfl ?_
          refine g_lload C d2_23 (v := x3) rfl (pc' := 25) rfl ?_
          refine g_ldc2_w C (v := (127 : Int64)) (own_w hw 14 rfl) d2_25 (pc' := 28) rfl ?_
          refine g_land C (x := x3) (y := (127 : Int64)) d2_28  (pc' := 29) rfl ?_
          refine g_ldc2_w C (v := (128 : Int64)) (own_w hw 15 rfl) d2_29 (pc' := 32) rfl ?_
          refine g_lor C (x := (x3 &&& (127 : Int64))) (y := (128 : Int64)) d2_32  (pc' := 33) rfl ?_
          refine g_l2i C (x := ((x3 &&& (127 : Int64)) ||| (128 : Int64))) d2_33 (pc' := 34) rfl ?_
          refine g_i2b C (x := (Int64.toInt32 ((x3 &&& (127 : Int64)) ||| (128 : Int64)))) d2_34 (pc' := 35) rfl ?_
          refine g_bastoreB C f_27 (by decide) (i := 6) (by decide) (show 6 < 14 by decide) (w := (.int (Int8.toInt32 (Int32.toInt8 (Int64.toInt32 ((x3 &&& (127 : Int64)) ||| (128 : Int64))))))) (congrArg Value.int (own_narb _)) g0 d2_35 (pc' := 36) rfl ?_
          intro h_33 K_34 A_35
          have f_36 : Ary Z h_33 a1 .byte [(.int f), (.int f), (.int f), (.int (Int8.toInt32 (Int32.toInt8 (Int64.toInt32 ((x &&& (127 : Int64)) ||| (128 : Int64)))))), (.int (Int8.toInt32 (Int32.toInt8 (Int64.toInt32 ((x1 &&& (127 : Int64)) ||| (128 : Int64)))))), (.int (Int8.toInt32 (Int32.toInt8 (Int64.toInt32 ((x2 &&& (127 : Int64)) ||| (128 : Int64)))))), (.int (Int8.toInt32 (Int32.toInt8 (Int64.toInt32 ((x3 &&& (127 : Int64)) ||| (128 : Int64)))))), (.int f), (.int f), (.int f), (.int f), (.int f), (.int f), (.int f)] := A_35
          refine g_lload C d2_36 (v := x3) rfl (pc' := 38) rfl ?_
          refine g_bipush C d2_38 (v := (7 : Int32)) rfl (pc' := 40) rfl ?_
          refine g_lushr C (x := x3) (y := (7 : Int32)) d2_40  (pc' := 41) rfl ?_
          obtain ⟨x4, hx4⟩ : ∃ z : Int64, z = (Jvm.Free.XT.ushrL x3 (7 : Int32)) := ⟨_, rfl⟩
          rw [← hx4]
          have y4 : x4 = Jvm.Free.XT.ushrL x (28 : Int32) := by rw [hx4, y3]; exact own_sh x (ka := 21) (kb := 7) (by decide) (by decide) (by decide)
          have nz4 : ¬ Jvm.Free.XT.ushrL x (28 : Int32) = 0 := by rw [← y4, hx4]; exact fun q => hb_28 ((own_m128 _).mpr q)
          refine g_lstore C d2_41 (v := x4) (L' := #[.val (.ref a1), .val (.int (3 : Int32)), .val (.long x), .second, .val (.int (7 : Int32)), .val (.long x4), .second]) rfl (pc' := 43) rfl ?_
          refine g_goto C d2_43 (pc' := 6) (by decide) (by decide) ?_
          refine g_lload C d2_6 (v := x4) rfl (pc' := 8) rfl ?_
          refine g_ldc2_w C (v := (-128 : Int64)) (own_w hw 9 rfl) d2_8 (pc' := 11) rfl ?_
          refine g_land C (x := x4) (y := (-128 : Int64)) d2_11  (pc' := 12) rfl ?_
          refine g_lconst C d2_12 (v := (0 : Int64)) rfl (pc' := 13) rfl ?_
          refine g_lcmp C (x := (x4 &&& (-128 : Int64))) (y := (0 : Int64)) d2_13 (pc' := 14) rfl ?_
          by_cases hb_37 : (x4 &&& (-128 : Int64)) = (0 : Int64)
          · refine g_if_y C d2_14 (Jvm.Free.XT.ll_eq_t hb_37) (pc' := 46) (by decide) (by decide) ?_
            refine g_aload_n C d2_46 (v := (.ref a1)) rfl rfl (pc' := 47) rfl ?_
            refine g_iload C d2_47 (v := (7 : Int32)) rfl (pc' := 49) rfl ?_
            refine g_iinc C d2_49 (v := (7 : Int32)) (w := (8 : Int32)) rfl rfl (L' := #[.val (.ref a1), .val (.int (3 : Int32)), .val (.long x), .second, .val (.int (8 : Int32)), .val (.long x4), .second]) rfl (pc' := 52) rfl ?_
            refine g_lload C d2_52 (v := x4) rfl (pc' := 54) rfl ?_
            refine g_l2i C (x := x4) d2_54 (pc' := 55) rfl ?_
            refine g_i2b C (x := (Int64.toInt32 x4)) d2_55 (pc' := 56) rfl ?_
            refine g_bastoreB C f_36 (by decide) (i := 7) (by decide) (show 7 < 14 by decide) (w := (.int (Int8.toInt32 (Int32.toInt8 (Int64.toInt32 x4))))) (congrArg Value.int (own_narb _)) g0 d2_56 (pc' := 57) rfl ?_
            intro h_38 K_39 A_40
            have f_41 : Ary Z h_38 a1 .byte [(.int f), (.int f), (.int f), (.int (Int8.toInt32 (Int32.toInt8 (Int64.toInt32 ((x &&& (127 : Int64)) ||| (128 : Int64)))))), (.int (Int8.toInt32 (Int32.toInt8 (Int64.toInt32 ((x1 &&& (127 : Int64)) ||| (128 : Int64)))))), (.int (Int8.toInt32 (Int32.toInt8 (Int64.toInt32 ((x2 &&& (127 : Int64)) ||| (128 : Int64)))))), (.int (Int8.toInt32 (Int32.toInt8 (Int64.toInt32 ((x3 &&& (127 : Int64)) ||| (128 : Int64)))))), (.int (Int8.toInt32 (Int32.toInt8 (Int64.toInt32 x4)))), (.int f), (.int f), (.int f), (.int f), (.int f), (.int f)] := A_40
            refine g_iload C d2_57 (v := (8 : Int32)) rfl (pc' := 59) rfl ?_
            refine g_ret C (v := (.int (8 : Int32))) (ty := .int) rfl rfl (Or.inl ⟨rfl, Or.inl rfl, _, rfl⟩) d2_59 (by decide) (by decide) ?_
            have zk : Jvm.Free.XT.ushrL x4 (7 : Int32) = 0 := (own_m128 _).mp hb_37
            have zz : Jvm.Free.XT.ushrL x (35 : Int32) = 0 := by rw [← own_sh x (ka := 28) (kb := 7) (a := (28 : Int32)) (b := (7 : Int32)) (by decide) (by decide) (by decide), ← y4]; exact zk
            have hn : nlen x = (5 : Int32) := by rw [nlen, if_neg nz1, if_neg nz2, if_neg nz3, if_neg nz4, if_pos zz]
            have e0 : expF (0 : Int32) (3 : Int32) (5 : Int32) x f = f := own_e0 (by decide)
            have e1 : expF (1 : Int32) (3 : Int32) (5 : Int32) x f = f := own_e0 (by decide)
            have e2 : expF (2 : Int32) (3 : Int32) (5 : Int32) x f = f := own_e0 (by decide)
            have e3 : expF (3 : Int32) (3 : Int32) (5 : Int32) x f = (Int8.toInt32 (Int32.toInt8 (Int64.toInt32 ((x &&& (127 : Int64)) ||| (128 : Int64))))) := own_e2 (c := (0 : Int32)) (by decide) (by decide) (by decide) (by decide) (own_u0 x)
            have e4 : expF (4 : Int32) (3 : Int32) (5 : Int32) x f = (Int8.toInt32 (Int32.toInt8 (Int64.toInt32 ((x1 &&& (127 : Int64)) ||| (128 : Int64))))) := own_e2 (c := (7 : Int32)) (by decide) (by decide) (by decide) (by decide) y1
            have e5 : expF (5 : Int32) (3 : Int32) (5 : Int32) x f = (Int8.toInt32 (Int32.toInt8 (Int64.toInt32 ((x2 &&& (127 : Int64)) ||| (128 : Int64))))) := own_e2 (c := (14 : Int32)) (by decide) (by decide) (by decide) (by decide) y2
            have e6 : expF (6 : Int32) (3 : Int32) (5 : Int32) x f = (Int8.toInt32 (Int32.toInt8 (Int64.toInt32 ((x3 &&& (127 : Int64)) ||| (128 : Int64))))) := own_e2 (c := (21 : Int32)) (by decide) (by decide) (by decide) (by decide) y3
            have e7 : expF (7 : Int32) (3 : Int32) (5 : Int32) x f = (Int8.toInt32 (Int32.toInt8 (Int64.toInt32 x4))) := own_e3 (c := (28 : Int32)) (by decide) (by decide) (by decide) (by decide) y4 zk
            have e8 : expF (8 : Int32) (3 : Int32) (5 : Int32) x f = f := own_e1 (by decide) (by decide)
            have e9 : expF (9 : Int32) (3 : Int32) (5 : Int32) x f = f := own_e1 (by decide) (by decide)
            have e10 : expF (10 : Int32) (3 : Int32) (5 : Int32) x f = f := own_e1 (by decide) (by decide)
            have e11 : expF (11 : Int32) (3 : Int32) (5 : Int32) x f = f := own_e1 (by decide) (by decide)
            have e12 : expF (12 : Int32) (3 : Int32) (5 : Int32) x f = f := own_e1 (by decide) (by decide)
            have e13 : expF (13 : Int32) (3 : Int32) (5 : Int32) x f = f := own_e1 (by decide) (by decide)
            rw [hn]
            exact ⟨rfl, ((((((Keep.refl h0 [a1]).trans K_7 (allS (Or.inl (List.mem_of_getElem? (i := 0) rfl)) all0)).trans K_16 (allS (Or.inl (List.mem_of_getElem? (i := 0) rfl)) all0)).trans K_25 (allS (Or.inl (List.mem_of_getElem? (i := 0) rfl)) all0)).trans K_34 (allS (Or.inl (List.mem_of_getElem? (i := 0) rfl)) all0)).trans K_39 (allS (Or.inl (List.mem_of_getElem? (i := 0) rfl)) all0)), by rw [e0, e1, e2, e3, e4, e5, e6, e7, e8, e9, e10, e11, e12, e13]; exact f_41⟩
          · refine g_if_n C d2_14 (Jvm.Free.XT.ll_eq_f hb_37) (pc' := 17) rfl ?_
            refine g_aload_n C d2_17 (v := (.ref a1)) rfl rfl (pc' := 18) rfl ?_
            refine g_iload C d2_18 (v := (7 : Int32)) rfl (pc' := 20) rfl ?_
            refine g_iinc C d2_20 (v := (7 : Int32)) (w := (8 : Int32)) rfl rfl (L' := #[.val (.ref a1), .val (.int (3 : Int32)), .val (.long x), .second, .val (.int (8 : Int32)), .val (.long x4), .second]) rfl (pc' := 23) rfl ?_
            refine g_lload C d2_23 (v := x4) rfl (pc' := 25) rfl ?_
            refine g_ldc2_w C (v := (127 : Int64)) (own_w hw 14 rfl) d2_25 (pc' := 28) rfl ?_
            refine g_land C (x := x4) (y := (127 : Int64)) d2_28  (pc' := 29) rfl ?_
            refine g_ldc2_w C (v := (128 : Int64)) (own_w hw 15 rfl) d2_29 (pc' := 32) rfl ?_
            refine g_lor C (x := (x4 &&& (127 : Int64))) (y := (128 : Int64)) d2_32  (pc' := 33) rfl ?_
            refine g_l2i C (x := ((x4 &&& (127 : Int64)) ||| (128 : Int64))) d2_33 (pc' := 34) rfl ?_
            refine g_i2b C (x := (Int64.toInt32 ((x4 &&& (127 : Int64)) ||| (128 : Int64)))) d2_34 (pc' := 35) rfl ?_
            refine g_bastoreB C f_36 (by decide) (i := 7) (by decide) (show 7 < 14 by decide) (w := (.int (Int8.toInt32 (Int32.toInt8 (Int64.toInt32 ((x4 &&& (127 : Int64)) ||| (128 : Int64))))))) (congrArg Value.int (own_narb _)) g0 d2_35 (pc' := 36) rfl ?_
            intro h_42 K_43 A_44
            have f_45 : Ary Z h_42 a1 .byte [(.int f), (.int f), (.int f), (.int (Int8.toInt32 (Int32.toInt8 (Int64.toInt32 ((x &&& (127 : Int64)) ||| (128 : Int64)))))), (.int (Int8.toInt32 (Int32.toInt8 (Int64.toInt32 ((x1 &&& (127 : Int64)) ||| (128 : Int64)))))), (.int (Int8.toInt32 (Int32.toInt8 (Int64.toInt32 ((x2 &&& (127 : Int64)) ||| (128 : Int64)))))), (.int (Int8.toInt32 (Int32.toInt8 (Int64.toInt32 ((x3 &&& (127 : Int64)) ||| (128 : Int64)))))), (.int (Int8.toInt32 (Int32.toInt8 (Int64.toInt32 ((x4 &&& (127 : Int64)) ||| (128 : Int64)))))), (.int f), (.int f), (.int f), (.int f), (.int f), (.int f)] := A_44
            refine g_lload C d2_36 (v := x4) rfl (pc' := 38) rfl ?_
            refine g_bipush C d2_38 (v := (7 : Int32)) rfl (pc' := 40) rfl ?_
            refine g_lushr C (x := x4) (y := (7 : Int32)) d2_40  (pc' := 41) rfl ?_
            obtain ⟨x5, hx5⟩ : ∃ z : Int64, z = (Jvm.Free.XT.ushrL x4 (7 : Int32)) := ⟨_, rfl⟩
            rw [← hx5]
            have y5 : x5 = Jvm.Free.XT.ushrL x (35 : Int32) := by rw [hx5, y4]; exact own_sh x (ka := 28) (kb := 7) (by decide) (by decide) (by decide)
            have nz5 : ¬ Jvm.Free.XT.ushrL x (35 : Int32) = 0 := by rw [← y5, hx5]; exact fun q => hb_37 ((own_m128 _).mpr q)
            refine g_lstore C d2_41 (v := x5) (L' := #[.val (.ref a1), .val (.int (3 : Int32)), .val (.long x), .second, .val (.int (8 : Int32)), .val (.long x5), .second]) rfl (pc' := 43) rfl ?_
            refine g_goto C d2_43 (pc' := 6) (by decide) (by decide) ?_
            refine g_lload C d2_6 (v := x5) rfl (pc' := 8) rfl ?_
            refine g_ldc2_w C (v := (-128 : Int64)) (own_w hw 9 rfl) d2_8 (pc' := 11) rfl ?_
            refine g_land C (x := x5) (y := (-128 : Int64)) d2_11  (pc' := 12) rfl ?_
            refine g_lconst C d2_12 (v := (0 : Int64)) rfl (pc' := 13) rfl ?_
            refine g_lcmp C (x := (x5 &&& (-128 : Int64))) (y := (0 : Int64)) d2_13 (pc' := 14) rfl ?_
            by_cases hb_46 : (x5 &&& (-128 : Int64)) = (0 : Int64)
            · refine g_if_y C d2_14 (Jvm.Free.XT.ll_eq_t hb_46) (pc' := 46) (by decide) (by decide) ?_
              refine g_aload_n C d2_46 (v := (.ref a1)) rfl rfl (pc' := 47) rfl ?_
              refine g_iload C d2_47 (v := (8 : Int32)) rfl (pc' := 49) rfl ?_
              refine g_iinc C d2_49 (v := (8 : Int32)) (w := (9 : Int32)) rfl rfl (L' := #[.val (.ref a1), .val (.int (3 : Int32)), .val (.long x), .second, .val (.int (9 : Int32)), .val (.long x5), .second]) rfl (pc' := 52) rfl ?_
              refine g_lload C d2_52 (v := x5) rfl (pc' := 54) rfl ?_
              refine g_l2i C (x := x5) d2_54 (pc' := 55) rfl ?_
              refine g_i2b C (x := (Int64.toInt32 x5)) d2_55 (pc' := 56) rfl ?_
              refine g_bastoreB C f_45 (by decide) (i := 8) (by decide) (show 8 < 14 by decide) (w := (.int (Int8.toInt32 (Int32.toInt8 (Int64.toInt32 x5))))) (congrArg Value.int (own_narb _)) g0 d2_56 (pc' := 57) rfl ?_
              intro h_47 K_48 A_49
              have f_50 : Ary Z h_47 a1 .byte [(.int f), (.int f), (.int f), (.int (Int8.toInt32 (Int32.toInt8 (Int64.toInt32 ((x &&& (127 : Int64)) ||| (128 : Int64)))))), (.int (Int8.toInt32 (Int32.toInt8 (Int64.toInt32 ((x1 &&& (127 : Int64)) ||| (128 : Int64)))))), (.int (Int8.toInt32 (Int32.toInt8 (Int64.toInt32 ((x2 &&& (127 : Int64)) ||| (128 : Int64)))))), (.int (Int8.toInt32 (Int32.toInt8 (Int64.toInt32 ((x3 &&& (127 : Int64)) ||| (128 : Int64)))))), (.int (Int8.toInt32 (Int32.toInt8 (Int64.toInt32 ((x4 &&& (127 : Int64)) ||| (128 : Int64)))))), (.int (Int8.toInt32 (Int32.toInt8 (Int64.toInt32 x5)))), (.int f), (.int f), (.int f), (.int f), (.int f)] := A_49
              refine g_iload C d2_57 (v := (9 : Int32)) rfl (pc' := 59) rfl ?_
              refine g_ret C (v := (.int (9 : Int32))) (ty := .int) rfl rfl (Or.inl ⟨rfl, Or.inl rfl, _, rfl⟩) d2_59 (by decide) (by decide) ?_
              have zk : Jvm.Free.XT.ushrL x5 (7 : Int32) = 0 := (own_m128 _).mp hb_46
              have zz : Jvm.Free.XT.ushrL x (42 : Int32) = 0 := by rw [← own_sh x (ka := 35) (kb := 7) (a := (35 : Int32)) (b := (7 : Int32)) (by decide) (by decide) (by decide), ← y5]; exact zk
              have hn : nlen x = (6 : Int32) := by rw [nlen, if_neg nz1, if_neg nz2, if_neg nz3, if_neg nz4, if_neg nz5, if_pos zz]
              have e0 : expF (0 : Int32) (3 : Int32) (6 : Int32) x f = f := own_e0 (by decide)
              have e1 : expF (1 : Int32) (3 : Int32) (6 : Int32) x f = f := own_e0 (by decide)
              have e2 : expF (2 : Int32) (3 : Int32) (6 : Int32) x f = f := own_e0 (by decide)
              have e3 : expF (3 : Int32) (3 : Int32) (6 : Int32) x f = (Int8.toInt32 (Int32.toInt8 (Int64.toInt32 ((x &&& (127 : Int64)) ||| (128 : Int64))))) := own_e2 (c := (0 : Int32)) (by decide) (by decide) (by decide) (by decide) (own_u0 x)
              have e4 : expF (4 : Int32) (3 : Int32) (6 : Int32) x f = (Int8.toInt32 (Int32.toInt8 (Int64.toInt32 ((x1 &&& (127 : Int64)) ||| (128 : Int64))))) := own_e2 (c := (7 : Int32)) (by decide) (by decide) (by decide) (by decide) y1
              have e5 : expF (5 : Int32) (3 : Int32) (6 : Int32) x f = (Int8.toInt32 (Int32.toInt8 (Int64.toInt32 ((x2 &&& (127 : Int64)) ||| (128 : Int64))))) := own_e2 (c := (14 : Int32)) (by decide) (by decide) (by decide) (by decide) y2
              have e6 : expF (6 : Int32) (3 : Int32) (6 : Int32) x f = (Int8.toInt32 (Int32.toInt8 (Int64.toInt32 ((x3 &&& (127 : Int64)) ||| (128 : Int64))))) := own_e2 (c := (21 : Int32)) (by decide) (by decide) (by decide) (by decide) y3
              have e7 : expF (7 : Int32) (3 : Int32) (6 : Int32) x f = (Int8.toInt32 (Int32.toInt8 (Int64.toInt32 ((x4 &&& (127 : Int64)) ||| (128 : Int64))))) := own_e2 (c := (28 : Int32)) (by decide) (by decide) (by decide) (by decide) y4
              have e8 : expF (8 : Int32) (3 : Int32) (6 : Int32) x f = (Int8.toInt32 (Int32.toInt8 (Int64.toInt32 x5))) := own_e3 (c := (35 : Int32)) (by decide) (by decide) (by decide) (by decide) y5 zk
              have e9 : expF (9 : Int32) (3 : Int32) (6 : Int32) x f = f := own_e1 (by decide) (by decide)
              have e10 : expF (10 : Int32) (3 : Int32) (6 : Int32) x f = f := own_e1 (by decide) (by decide)
              have e11 : expF (11 : Int32) (3 : Int32) (6 : Int32) x f = f := own_e1 (by decide) (by decide)
              have e12 : expF (12 : Int32) (3 : Int32) (6 : Int32) x f = f := own_e1 (by decide) (by decide)
              have e13 : expF (13 : Int32) (3 : Int32) (6 : Int32) x f = f := own_e1 (by decide) (by decide)
              rw [hn]
              exact ⟨rfl, (((((((Keep.refl h0 [a1]).trans K_7 (allS (Or.inl (List.mem_of_getElem? (i := 0) rfl)) all0)).trans K_16 (allS (Or.inl (List.mem_of_getElem? (i := 0) rfl)) all0)).trans K_25 (allS (Or.inl (List.mem_of_getElem? (i := 0) rfl)) all0)).trans K_34 (allS (Or.inl (List.mem_of_getElem? (i := 0) rfl)) all0)).trans K_43 (allS (Or.inl (List.mem_of_getElem? (i := 0) rfl)) all0)).trans K_48 (allS (Or.inl (List.mem_of_getElem? (i := 0) rfl)) all0)), by rw [e0, e1, e2, e3, e4, e5, e6, e7, e8, e9, e10, e11, e12, e13]; exact f_50⟩
            · refine g_if_n C d2_14 (Jvm.Free.XT.ll_eq_f hb_46) (pc' := 17) rfl ?_
              refine g_aload_n C d2_17 (v := (.ref a1)) rfl rfl (pc' := 18) rfl ?_
              refine g_iload C d2_18 (v := (8 : Int32)) rfl (pc' := 20) rfl ?_
              refine g_iinc C d2_20 (v := (8 : Int32)) (w := (9 : Int32)) rfl rfl (L' := #[.val (.ref a1), .val (.int (3 : Int32)), .val (.long x), .second, .val (.int (9 : Int32)), .val (.long x5), .second]) rfl (pc' := 23) rfl ?_
              refine g_lload C d2_23 (v := x5) rfl (pc' := 25) rfl ?_
              refine g_ldc2_w C (v := (127 : Int64)) (own_w hw 14 rfl) d2_25 (pc' := 28) rfl ?_
              refine g_land C (x := x5) (y := (127 : Int64)) d2_28  (pc' := 29) rfl ?_
              refine g_ldc2_w C (v := (128 : Int64)) (own_w hw 15 rfl) d2_29 (pc' := 32) rfl ?_
              refine g_lor C (x := (x5 &&& (127 : Int64))) (y := (128 : Int64)) d2_32  (pc' := 33) rfl ?_
              refine g_l2i C (x := ((x5 &&& (127 : Int64)) ||| (128 : Int64))) d2_33 (pc' := 34) rfl ?_
              refine g_i2b C (x := (Int64.toInt32 ((x5 &&& (127 : Int64)) ||| (128 : Int64)))) d2_34 (pc' := 35) rfl ?_
              refine g_bastoreB C f_45 (by decide) (i := 8) (by decide) (show 8 < 14 by decide) (w := (.int (Int8.toInt32 (Int32.toInt8 (Int64.toInt32 ((x5 &&& (127 : Int64)) ||| (128 : Int64))))))) (congrArg Value.int (own_narb _)) g0 d2_35 (pc' := 36) rfl ?_
              intro h_51 K_52 A_53
              have f_54 : Ary Z h_51 a1 .byte [(.int f), (.int f), (.int f), (.int (Int8.toInt32 (Int32.toInt8 (Int64.toInt32 ((x &&& (127 : Int64)) ||| (128 : Int64)))))), (.int (Int8.toInt32 (Int32.toInt8 (Int64.toInt32 ((x1 &&& (127 : Int64)) ||| (128 : Int64)))))), (.int (Int8.toInt32 (Int32.toInt8 (Int64.toInt32 ((x2 &&& (127 : Int64)) ||| (128 : Int64)))))), (.int (Int8.toInt32 (Int32.toInt8 (Int64.toInt32 ((x3 &&& (127 : Int64)) ||| (128 : Int64)))))), (.int (Int8.toInt32 (Int32.toInt8 (Int64.toInt32 ((x4 &&& (127 : Int64)) ||| (128 : Int64)))))), (.int (Int8.toInt32 (Int32.toInt8 (Int64.toInt32 ((x5 &&& (127 : Int64)) ||| (128 : Int64)))))), (.int f), (.int f), (.int f), (.int f), (.int f)] := A_53
              refine g_lload C d2_36 (v := x5) rfl (pc' := 38) rfl ?_
              refine g_bipush C d2_38 (v := (7 : Int32)) rfl (pc' := 40) rfl ?_
              refine g_lushr C (x := x5) (y := (7 : Int32)) d2_40  (pc' := 41) rfl ?_
              obtain ⟨x6, hx6⟩ : ∃ z : Int64, z = (Jvm.Free.XT.ushrL x5 (7 : Int32)) := ⟨_, rfl⟩
              rw [← hx6]
              have y6 : x6 = Jvm.Free.XT.ushrL x (42 : Int32) := by rw [hx6, y5]; exact own_sh x (ka := 35) (kb := 7) (by decide) (by decide) (by decide)
              have nz6 : ¬ Jvm.Free.XT.ushrL x (42 : Int32) = 0 := by rw [← y6, hx6]; exact fun q => hb_46 ((own_m128 _).mpr q)
              refine g_lstore C d2_41 (v := x6) (L' := #[.val (.ref a1), .val (.int (3 : Int32)), .val (.long x), .second, .val (.int (9 : Int32)), .val (.long x6), .second]) rfl (pc' := 43) rfl ?_
              refine g_goto C d2_43 (pc' := 6) (by decide) (by decide) ?_
              refine g_lload C d2_6 (v := x6) rfl (pc' := 8) rfl ?_
              refine g_ldc2_w C (v := (-128 : Int64)) (own_w hw 9 rfl) d2_8 (pc' := 11) rfl ?_
              refine g_land C (x := x6) (y := (-128 : Int64)) d2_11  (pc' := 12) rfl ?_
              refine g_lconst C d2_12 (v := (0 : Int64)) rfl (pc' := 13) rfl ?_
              refine g_lcmp C (x := (x6 &&& (-128 : Int64))) (y := (0 : Int64)) d2_13 (pc' := 14) rfl ?_
              by_cases hb_55 : (x6 &&& (-128 : Int64)) = (0 : Int64)
              · refine g_if_y C d2_14 (Jvm.Free.XT.ll_eq_t hb_55) (pc' := 46) (by decide) (by decide) ?_
                refine g_aload_n C d2_46 (v := (.ref a1)) rfl rfl (pc' := 47) rfl ?_
                refine g_iload C d2_47 (v := (9 : Int32)) rfl (pc' := 49) rfl ?_
                refine g_iinc C d2_49 (v := (9 : Int32)) (w := (10 : Int32)) rfl rfl (L' := #[.val (.ref a1), .val (.int (3 : Int32)), .val (.long x), .second, .val (.int (10 : Int32)), .val (.long x6), .second]) rfl (pc' := 52) rfl ?_
                refine g_lload C d2_52 (v := x6) rfl (pc' := 54) rfl ?_
                refine g_l2i C (x := x6) d2_54 (pc' := 55) rfl ?_
                refine g_i2b C (x := (Int64.toInt32 x6)) d2_55 (pc' := 56) rfl ?_
                refine g_bastoreB C f_54 (by decide) (i := 9) (by decide) (show 9 < 14 by decide) (w := (.int (Int8.toInt32 (Int32.toInt8 (Int64.toInt32 x6))))) (congrArg Value.int (own_narb _)) g0 d2_56 (pc' := 57) rfl ?_
                intro h_56 K_57 A_58
                have f_59 : Ary Z h_56 a1 .byte [(.int f), (.int f), (.int f), (.int (Int8.toInt32 (Int32.toInt8 (Int64.toInt32 ((x &&& (127 : Int64)) ||| (128 : Int64)))))), (.int (Int8.toInt32 (Int32.toInt8 (Int64.toInt32 ((x1 &&& (127 : Int64)) ||| (128 : Int64)))))), (.int (Int8.toInt32 (Int32.toInt8 (Int64.toInt32 ((x2 &&& (127 : Int64)) ||| (128 : Int64)))))), (.int (Int8.toInt32 (Int32.toInt8 (Int64.toInt32 ((x3 &&& (127 : Int64)) ||| (128 : Int64)))))), (.int (Int8.toInt32 (Int32.toInt8 (Int64.toInt32 ((x4 &&& (127 : Int64)) ||| (128 : Int64)))))), (.int (Int8.toInt32 (Int32.toInt8 (Int64.toInt32 ((x5 &&& (127 : Int64)) ||| (128 : Int64)))))), (.int (Int8.toInt32 (Int32.toInt8 (Int64.toInt32 x6)))), (.int f), (.int f), (.int f), (.int f)] := A_58
                refine g_iload C d2_57 (v := (10 : Int32)) rfl (pc' := 59) rfl ?_
                refine g_ret C (v := (.int (10 : Int32))) (ty := .int) rfl rfl (Or.inl ⟨rfl, Or.inl rfl, _, rfl⟩) d2_59 (by decide) (by decide) ?_
                have zk : Jvm.Free.XT.ushrL x6 (7 : Int32) = 0 := (own_m128 _).mp hb_55
                have zz : Jvm.Free.XT.ushrL x (49 : Int32) = 0 := by rw [← own_sh x (ka := 42) (kb := 7) (a := (42 : Int32)) (b := (7 : Int32)) (by decide) (by decide) (by decide), ← y6]; exact zk
                have hn : nlen x = (7 : Int32) := by rw [nlen, if_neg nz1, if_neg nz2, if_neg nz3, if_neg nz4, if_neg nz5, if_neg nz6, if_pos zz]
                have e0 : expF (0 : Int32) (3 : Int32) (7 : Int32) x f = f := own_e0 (by decide)
                have e1 : expF (1 : Int32) (3 : Int32) (7 : Int32) x f = f := own_e0 (by decide)
                have e2 : expF (2 : Int32) (3 : Int32) (7 : Int32) x f = f := own_e0 (by decide)
                have e3 : expF (3 : Int32) (3 : Int32) (7 : Int32) x f = (Int8.toInt32 (Int32.toInt8 (Int64.toInt32 ((x &&& (127 : Int64)) ||| (128 : Int64))))) := own_e2 (c := (0 : Int32)) (by decide) (by decide) (by decide) (by decide) (own_u0 x)
                have e4 : expF (4 : Int32) (3 : Int32) (7 : Int32) x f = (Int8.toInt32 (Int32.toInt8 (Int64.toInt32 ((x1 &&& (127 : Int64)) ||| (128 : Int64))))) := own_e2 (c := (7 : Int32)) (by decide) (by decide) (by decide) (by decide) y1
                have e5 : expF (5 : Int32) (3 : Int32) (7 : Int32) x f = (Int8.toInt32 (Int32.toInt8 (Int64.toInt32 ((x2 &&& (127 : Int64)) ||| (128 : Int64))))) := own_e2 (c := (14 : Int32)) (by decide) (by decide) (by decide) (by decide) y2
                have e6 : expF (6 : Int32) (3 : Int32) (7 : Int32) x f = (Int8.toInt32 (Int32.toInt8 (Int64.toInt32 ((x3 &&& (127 : Int64)) ||| (128 : Int64))))) := own_e2 (c := (21 : Int32)) (by decide) (by decide) (by decide) (by decide) y3
                have e7 : expF (7 : Int32) (3 : Int32) (7 : Int32) x f = (Int8.toInt32 (Int32.toInt8 (Int64.toInt32 ((x4 &&& (127 : Int64)) ||| (128 : Int64))))) := own_e2 (c := (28 : Int32)) (by decide) (by decide) (by decide) (by decide) y4
                have e8 : expF (8 : Int32) (3 : Int32) (7 : Int32) x f = (Int8.toInt32 (Int32.toInt8 (Int64.toInt32 ((x5 &&& (127 : Int64)) ||| (128 : Int64))))) := own_e2 (c := (35 : Int32)) (by decide) (by decide) (by decide) (by decide) y5
                have e9 : expF (9 : Int32) (3 : Int32) (7 : Int32) x f = (Int8.toInt32 (Int32.toInt8 (Int64.toInt32 x6))) := own_e3 (c := (42 : Int32)) (by decide) (by decide) (by decide) (by decide) y6 zk
                have e10 : expF (10 : Int32) (3 : Int32) (7 : Int32) x f = f := own_e1 (by decide) (by decide)
                have e11 : expF (11 : Int32) (3 : Int32) (7 : Int32) x f = f := own_e1 (by decide) (by decide)
                have e12 : expF (12 : Int32) (3 : Int32) (7 : Int32) x f = f := own_e1 (by decide) (by decide)
                have e13 : expF (13 : Int32) (3 : Int32) (7 : Int32) x f = f := own_e1 (by decide) (by decide)
                rw [hn]
                exact ⟨rfl, ((((((((Keep.refl h0 [a1]).trans K_7 (allS (Or.inl (List.mem_of_getElem? (i := 0) rfl)) all0)).trans K_16 (allS (Or.inl (List.mem_of_getElem? (i := 0) rfl)) all0)).trans K_25 (allS (Or.inl (List.mem_of_getElem? (i := 0) rfl)) all0)).trans K_34 (allS (Or.inl (List.mem_of_getElem? (i := 0) rfl)) all0)).trans K_43 (allS (Or.inl (List.mem_of_getElem? (i := 0) rfl)) all0)).trans K_52 (allS (Or.inl (List.mem_of_getElem? (i := 0) rfl)) all0)).trans K_57 (allS (Or.inl (List.mem_of_getElem? (i := 0) rfl)) all0)), by rw [e0, e1, e2, e3, e4, e5, e6, e7, e8, e9, e10, e11, e12, e13]; exact f_59⟩
              · refine g_if_n C d2_14 (Jvm.Free.XT.ll_eq_f hb_55) (pc' := 17) rfl ?_
                refine g_aload_n C d2_17 (v := (.ref a1)) rfl rfl (pc' := 18) rfl ?_
                refine g_iload C d2_18 (v := (9 : Int32)) rfl (pc' := 20) rfl ?_
                refine g_iinc C d2_20 (v := (9 : Int32)) (w := (10 : Int32)) rfl rfl (L' := #[.val (.ref a1), .val (.int (3 : Int32)), .val (.long x), .second, .val (.int (10 : Int32)), .val (.long x6), .second]) rfl (pc' := 23) rfl ?_
                refine g_lload C d2_23 (v := x6) rfl (pc' := 25) rfl ?_
                refine g_ldc2_w C (v := (127 : Int64)) (own_w hw 14 rfl) d2_25 (pc' := 28) rfl ?_
                refine g_land C (x := x6) (y := (127 : Int64)) d2_28  (pc' := 29) rfl ?_
                refine g_ldc2_w C (v := (128 : Int64)) (own_w hw 15 rfl) d2_29 (pc' := 32) rfl ?_
                refine g_lor C (x := (x6 &&& (127 : Int64))) (y := (128 : Int64)) d2_32  (pc' := 33) rfl ?_
                refine g_l2i C (x := ((x6 &&& (127 : Int64)) ||| (128 : Int64))) d2_33 (pc' := 34) rfl ?_
                refine g_i2b C (x := (Int64.toInt32 ((x6 &&& (127 : Int64)) ||| (128 : Int64)))) d2_34 (pc' := 35) rfl ?_
                refine g_bastoreB C f_54 (by decide) (i := 9) (by decide) (show 9 < 14 by decide) (w := (.int (Int8.toInt32 (Int32.toInt8 (Int64.toInt32 ((x6 &&& (127 : Int64)) ||| (128 : Int64))))))) (congrArg Value.int (own_narb _)) g0 d2_35 (pc' := 36) rfl ?_
                intro h_60 K_61 A_62
                have f_63 : Ary Z h_60 a1 .byte [(.int f), (.int f), (.int f), (.int (Int8.toInt32 (Int32.toInt8 (Int64.toInt32 ((x &&& (127 : Int64)) ||| (128 : Int64)))))), (.int (Int8.toInt32 (Int32.toInt8 (Int64.toInt32 ((x1 &&& (127 : Int64)) ||| (128 : Int64)))))), (.int (Int8.toInt32 (Int32.toInt8 (Int64.toInt32 ((x2 &&& (127 : Int64)) ||| (128 : Int64)))))), (.int (Int8.toInt32 (Int32.toInt8 (Int64.toInt32 ((x3 &&& (127 : Int64)) ||| (128 : Int64)))))), (.int (Int8.toInt32 (Int32.toInt8 (Int64.toInt32 ((x4 &&& (127 : Int64)) ||| (128 : Int64)))))), (.int (Int8.toInt32 (Int32.toInt8 (Int64.toInt32 ((x5 &&& (127 : Int64)) ||| (128 : Int64)))))), (.int (Int8.toInt32 (Int32.toInt8 (Int64.toInt32 ((x6 &&& (127 : Int64)) ||| (128 : Int64)))))), (.int f), (.int f), (.int f), (.int f)] := A_62
                refine g_lload C d2_36 (v := x6) rfl (pc' := 38) rfl ?_
                refine g_bipush C d2_38 (v := (7 : Int32)) rfl (pc' := 40) rfl ?_
                refine g_lushr C (x := x6) (y := (7 : Int32)) d2_40  (pc' := 41) rfl ?_
                obtain ⟨x7, hx7⟩ : ∃ z : Int64, z = (Jvm.Free.XT.ushrL x6 (7 : Int32)) := ⟨_, rfl⟩
                rw [← hx7]
                have y7 : x7 = Jvm.Free.XT.ushrL x (49 : Int32) := by rw [hx7, y6]; exact own_sh x (ka := 42) (kb := 7) (by decide) (by decide) (by decide)
                have nz7 : ¬ Jvm.Free.XT.ushrL x (49 : Int32) = 0 := by rw [← y7, hx7]; exact fun q => hb_55 ((own_m128 _).mpr q)
                refine g_lstore C d2_41 (v := x7) (L' := #[.val (.ref a1), .val (.int (3 : Int32)), .val (.long x), .second, .val (.int (10 : Int32)), .val (.long x7), .second]) rfl (pc' := 43) rfl ?_
                refine g_goto C d2_43 (pc' := 6) (by decide) (by decide) ?_
                refine g_lload C d2_6 (v := x7) rfl (pc' := 8) rfl ?_
                refine g_ldc2_w C (v := (-128 : Int64)) (own_w hw 9 rfl) d2_8 (pc' := 11) rfl ?_
                refine g_land C (x := x7) (y := (-128 : Int64)) d2_11  (pc' := 12) rfl ?_
                refine g_lconst C d2_12 (v := (0 : Int64)) rfl (pc' := 13) rfl ?_
                refine g_lcmp C (x := (x7 &&& (-128 : Int64))) (y := (0 : Int64)) d2_13 (pc' := 14) rfl ?_
                by_cases hb_64 : (x7 &&& (-128 : Int64)) = (0 : Int64)
                · refine g_if_y C d2_14 (Jvm.Free.XT.ll_eq_t hb_64) (pc' := 46) (by decide) (by decide) ?_
                  refine g_aload_n C d2_46 (v := (.ref a1)) rfl rfl (pc' := 47) rfl ?_
                  refine g_iload C d2_47 (v := (10 : Int32)) rfl (pc' := 49) rfl ?_
                  refine g_iinc C d2_49 (v := (10 : Int32)) (w := (11 : Int32)) rfl rfl (L' := #[.val (.ref a1), .val (.int (3 : Int32)), .val (.long x), .second, .val (.int (11 : Int32)), .val (.long x7), .second]) rfl (pc' := 52) rfl ?_
                  refine g_lload C d2_52 (v := x7) rfl (pc' := 54) rfl ?_
                  refine g_l2i C (x := x7) d2_54 (pc' := 55) rfl ?_
                  refine g_i2b C (x := (Int64.toInt32 x7)) d2_55 (pc' := 56) rfl ?_
                  refine g_bastoreB C f_63 (by decide) (i := 10) (by decide) (show 10 < 14 by decide) (w := (.int (Int8.toInt32 (Int32.toInt8 (Int64.toInt32 x7))))) (congrArg Value.int (own_narb _)) g0 d2_56 (pc' := 57) rfl ?_
                  intro h_65 K_66 A_67
                  have f_68 : Ary Z h_65 a1 .byte [(.int f), (.int f), (.int f), (.int (Int8.toInt32 (Int32.toInt8 (Int64.toInt32 ((x &&& (127 : Int64)) ||| (128 : Int64)))))), (.int (Int8.toInt32 (Int32.toInt8 (Int64.toInt32 ((x1 &&& (127 : Int64)) ||| (128 : Int64)))))), (.int (Int8.toInt32 (Int32.toInt8 (Int64.toInt32 ((x2 &&& (127 : Int64)) ||| (128 : Int64)))))), (.int (Int8.toInt32 (Int32.toInt8 (Int64.toInt32 ((x3 &&& (127 : Int64)) ||| (128 : Int64)))))), (.int (Int8.toInt32 (Int32.toInt8 (Int64.toInt32 ((x4 &&& (127 : Int64)) ||| (128 : Int64)))))), (.int (Int8.toInt32 (Int32.toInt8 (Int64.toInt32 ((x5 &&& (127 : Int64)) ||| (128 : Int64)))))), (.int (Int8.toInt32 (Int32.toInt8 (Int64.toInt32 ((x6 &&& (127 : Int64)) ||| (128 : Int64)))))), (.int (Int8.toInt32 (Int32.toInt8 (Int64.toInt32 x7)))), (.int f), (.int f), (.int f)] := A_67
                  refine g_iload C d2_57 (v := (11 : Int32)) rfl (pc' := 59) rfl ?_
                  refine g_ret C (v := (.int (11 : Int32))) (ty := .int) rfl rfl (Or.inl ⟨rfl, Or.inl rfl, _, rfl⟩) d2_59 (by decide) (by decide) ?_
                  have zk : Jvm.Free.XT.ushrL x7 (7 : Int32) = 0 := (own_m128 _).mp hb_64
                  have zz : Jvm.Free.XT.ushrL x (56 : Int32) = 0 := by rw [← own_sh x (ka := 49) (kb := 7) (a := (49 : Int32)) (b := (7 : Int32)) (by decide) (by decide) (by decide), ← y7]; exact zk
                  have hn : nlen x = (8 : Int32) := by rw [nlen, if_neg nz1, if_neg nz2, if_neg nz3, if_neg nz4, if_neg nz5, if_neg nz6, if_neg nz7, if_pos zz]
                  have e0 : expF (0 : Int32) (3 : Int32) (8 : Int32) x f = f := own_e0 (by decide)
                  have e1 : expF (1 : Int32) (3 : Int32) (8 : Int32) x f = f := own_e0 (by decide)
                  have e2 : expF (2 : Int32) (3 : Int32) (8 : Int32) x f = f := own_e0 (by decide)
                  have e3 : expF (3 : Int32) (3 : Int32) (8 : Int32) x f = (Int8.toInt32 (Int32.toInt8 (Int64.toInt32 ((x &&& (127 : Int64)) ||| (128 : Int64))))) := own_e2 (c := (0 : Int32)) (by decide) (by decide) (by decide) (by decide) (own_u0 x)
                  have e4 : expF (4 : Int32) (3 : Int32) (8 : Int32) x f = (Int8.toInt32 (Int32.toInt8 (Int64.toInt32 ((x1 &&& (127 : Int64)) ||| (128 : Int64))))) := own_e2 (c := (7 : Int32)) (by decide) (by decide) (by decide) (by decide) y1
                  have e5 : expF (5 : Int32) (3 : Int32) (8 : Int32) x f = (Int8.toInt32 (Int32.toInt8 (Int64.toInt32 ((x2 &&& (127 : Int64)) ||| (128 : Int64))))) := own_e2 (c := (14 : Int32)) (by decide) (by decide) (by decide) (by decide) y2
                  have e6 : expF (6 : Int32) (3 : Int32) (8 : Int32) x f = (Int8.toInt32 (Int32.toInt8 (Int64.toInt32 ((x3 &&& (127 : Int64)) ||| (128 : Int64))))) := own_e2 (c := (21 : Int32)) (by decide) (by decide) (by decide) (by decide) y3
                  have e7 : expF (7 : Int32) (3 : Int32) (8 : Int32) x f = (Int8.toInt32 (Int32.toInt8 (Int64.toInt32 ((x4 &&& (127 : Int64)) ||| (128 : Int64))))) := own_e2 (c := (28 : Int32)) (by decide) (by decide) (by decide) (by decide) y4
                  have e8 : expF (8 : Int32) (3 : Int32) (8 : Int32) x f = (Int8.toInt32 (Int32.toInt8 (Int64.toInt32 ((x5 &&& (127 : Int64)) ||| (128 : Int64))))) := own_e2 (c := (35 : Int32)) (by decide) (by decide) (by decide) (by decide) y5
                  have e9 : expF (9 : Int32) (3 : Int32) (8 : Int32) x f = (Int8.toInt32 (Int32.toInt8 (Int64.toInt32 ((x6 &&& (127 : Int64)) ||| (128 : Int64))))) := own_e2 (c := (42 : Int32)) (by decide) (by decide) (by decide) (by decide) y6
                  have e10 : expF (10 : Int32) (3 : Int32) (8 : Int32) x f = (Int8.toInt32 (Int32.toInt8 (Int64.toInt32 x7))) := own_e3 (c := (49 : Int32)) (by decide) (by decide) (by decide) (by decide) y7 zk
                  have e11 : expF (11 : Int32) (3 : Int32) (8 : Int32) x f = f := own_e1 (by decide) (by decide)
                  have e12 : expF (12 : Int32) (3 : Int32) (8 : Int32) x f = f := own_e1 (by decide) (by decide)
                  have e13 : expF (13 : Int32) (3 : Int32) (8 : Int32) x f = f := own_e1 (by decide) (by decide)
                  rw [hn]
                  exact ⟨rfl, (((((((((Keep.refl h0 [a1]).trans K_7 (allS (Or.inl (List.mem_of_getElem? (i := 0) rfl)) all0)).trans K_16 (allS (Or.inl (List.mem_of_getElem? (i := 0) rfl)) all0)).trans K_25 (allS (Or.inl (List.mem_of_getElem? (i := 0) rfl)) all0)).trans K_34 (allS (Or.inl (List.mem_of_getElem? (i := 0) rfl)) all0)).trans K_43 (allS (Or.inl (List.mem_of_getElem? (i := 0) rfl)) all0)).trans K_52 (allS (Or.inl (List.mem_of_getElem? (i := 0) rfl)) all0)).trans K_61 (allS (Or.inl (List.mem_of_getElem? (i := 0) rfl)) all0)).trans K_66 (allS (Or.inl (List.mem_of_getElem? (i := 0) rfl)) all0)), by rw [e0, e1, e2, e3, e4, e5, e6, e7, e8, e9, e10, e11, e12, e13]; exact f_68⟩
                · refine g_if_n C d2_14 (Jvm.Free.XT.ll_eq_f hb_64) (pc' := 17) rfl ?_
                  refine g_aload_n C d2_17 (v := (.ref a1)) rfl rfl (pc' := 18) rfl ?_
                  refine g_iload C d2_18 (v := (10 : Int32)) rfl (pc' := 20) rfl ?_
                  refine g_iinc C d2_20 (v := (10 : Int32)) (w := (11 : Int32)) rfl rfl (L' := #[.val (.ref a1), .val (.int (3 : Int32)), .val (.long x), .second, .val (.int (11 : Int32)), .val (.long x7), .second]) rfl (pc' := 23) rfl ?_
                  refine g_lload C d2_23 (v := x7) rfl (pc' := 25) rfl ?_
                  refine g_ldc2_w C (v := (127 : Int64)) (own_w hw 14 rfl) d2_25 (pc' := 28) rfl ?_
                  refine g_land C (x := x7) (y := (127 : Int64)) d2_28  (pc' := 29) rfl ?_
                  refine g_ldc2_w C (v := (128 : Int64)) (own_w hw 15 rfl) d2_29 (pc' := 32) rfl ?_
                  refine g_lor C (x := (x7 &&& (127 : Int64))) (y := (128 : Int64)) d2_32  (pc' := 33) rfl ?_
                  refine g_l2i C (x := ((x7 &&& (127 : Int64)) ||| (128 : Int64))) d2_33 (pc' := 34) rfl ?_
                  refine g_i2b C (x := (Int64.toInt32 ((x7 &&& (127 : Int64)) ||| (128 : Int64)))) d2_34 (pc' := 35) rfl ?_
                  refine g_bastoreB C f_63 (by decide) (i := 10) (by decide) (show 10 < 14 by decide) (w := (.int (Int8.toInt32 (Int32.toInt8 (Int64.toInt32 ((x7 &&& (127 : Int64)) ||| (128 : Int64))))))) (congrArg Value.int (own_narb _)) g0 d2_35 (pc' := 36) rfl ?_
                  intro h_69 K_70 A_71
                  have f_72 : Ary Z h_69 a1 .byte [(.int f), (.int f), (.int f), (.int (Int8.toInt32 (Int32.toInt8 (Int64.toInt32 ((x &&& (127 : Int64)) ||| (128 : Int64)))))), (.int (Int8.toInt32 (Int32.toInt8 (Int64.toInt32 ((x1 &&& (127 : Int64)) ||| (128 : Int64)))))), (.int (Int8.toInt32 (Int32.toInt8 (Int64.toInt32 ((x2 &&& (127 : Int64)) ||| (128 : Int64)))))), (.int (Int8.toInt32 (Int32.toInt8 (Int64.toInt32 ((x3 &&& (127 : Int64)) ||| (128 : Int64)))))), (.int (Int8.toInt32 (Int32.toInt8 (Int64.toInt32 ((x4 &&& (127 : Int64)) ||| (128 : Int64)))))), (.int (Int8.toInt32 (Int32.toInt8 (Int64.toInt32 ((x5 &&& (127 : Int64)) ||| (128 : Int64)))))), (.int (Int8.toInt32 (Int32.toInt8 (Int64.toInt32 ((x6 &&& (127 : Int64)) ||| (128 : Int64)))))), (.int (Int8.toInt32 (Int32.toInt8 (Int64.toInt32 ((x7 &&& (127 : Int64)) ||| (128 : Int64)))))), (.int f), (.int f), (.int f)] := A_71
                  refine g_lload C d2_36 (v := x7) rfl (pc' := 38) rfl ?_
                  refine g_bipush C d2_38 (v := (7 : Int32)) rfl (pc' := 40) rfl ?_
                  refine g_lushr C (x := x7) (y := (7 : Int32)) d2_40  (pc' := 41) rfl ?_
                  obtain ⟨x8, hx8⟩ : ∃ z : Int64, z = (Jvm.Free.XT.ushrL x7 (7 : Int32)) := ⟨_, rfl⟩
                  rw [← hx8]
                  have y8 : x8 = Jvm.Free.XT.ushrL x (56 : Int32) := by rw [hx8, y7]; exact own_sh x (ka := 49) (kb := 7) (by decide) (by decide) (by decide)
                  have nz8 : ¬ Jvm.Free.XT.ushrL x (56 : Int32) = 0 := by rw [← y8, hx8]; exact fun q => hb_64 ((own_m128 _).mpr q)
                  refine g_lstore C d2_41 (v := x8) (L' := #[.val (.ref a1), .val (.int (3 : Int32)), .val (.long x), .second, .val (.int (11 : Int32)), .val (.long x8), .second]) rfl (pc' := 43) rfl ?_
                  refine g_goto C d2_43 (pc' := 6) (by decide) (by decide) ?_
                  refine g_lload C d2_6 (v := x8) rfl (pc' := 8) rfl ?_
                  refine g_ldc2_w C (v := (-128 : Int64)) (own_w hw 9 rfl) d2_8 (pc' := 11) rfl ?_
                  refine g_land C (x := x8) (y := (-128 : Int64)) d2_11  (pc' := 12) rfl ?_
                  refine g_lconst C d2_12 (v := (0 : Int64)) rfl (pc' := 13) rfl ?_
                  refine g_lcmp C (x := (x8 &&& (-128 : Int64))) (y := (0 : Int64)) d2_13 (pc' := 14) rfl ?_
                  by_cases hb_73 : (x8 &&& (-128 : Int64)) = (0 : Int64)
                  · refine g_if_y C d2_14 (Jvm.Free.XT.ll_eq_t hb_73) (pc' := 46) (by decide) (by decide) ?_
                    refine g_aload_n C d2_46 (v := (.ref a1)) rfl rfl (pc' := 47) rfl ?_
                    refine g_iload C d2_47 (v := (11 : Int32)) rfl (pc' := 49) rfl ?_
                    refine g_iinc C d2_49 (v := (11 : Int32)) (w := (12 : Int32)) rfl rfl (L' := #[.val (.ref a1), .val (.int (3 : Int32)), .val (.long x), .second, .val (.int (12 : Int32)), .val (.long x8), .second]) rfl (pc' := 52) rfl ?_
                    refine g_lload C d2_52 (v := x8) rfl (pc' := 54) rfl ?_
                    refine g_l2i C (x := x8) d2_54 (pc' := 55) rfl ?_
                    refine g_i2b C (x := (Int64.toInt32 x8)) d2_55 (pc' := 56) rfl ?_
                    refine g_bastoreB C f_72 (by decide) (i := 11) (by decide) (show 11 < 14 by decide) (w := (.int (Int8.toInt32 (Int32.toInt8 (Int64.toInt32 x8))))) (congrArg Value.int (own_narb _)) g0 d2_56 (pc' := 57) rfl ?_
                    intro h_74 K_75 A_76
                    have f_77 : Ary Z h_74 a1 .byte [(.int f), (.int f), (.int f), (.int (Int8.toInt32 (Int32.toInt8 (Int64.toInt32 ((x &&& (127 : Int64)) ||| (128 : Int64)))))), (.int (Int8.toInt32 (Int32.toInt8 (Int64.toInt32 ((x1 &&& (127 : Int64)) ||| (128 : Int64)))))), (.int (Int8.toInt32 (Int32.toInt8 (Int64.toInt32 ((x2 &&& (127 : Int64)) ||| (128 : Int64)))))), (.int (Int8.toInt32 (Int32.toInt8 (Int64.toInt32 ((x3 &&& (127 : Int64)) ||| (128 : Int64)))))), (.int (Int8.toInt32 (Int32.toInt8 (Int64.toInt32 ((x4 &&& (127 : Int64)) ||| (128 : Int64)))))), (.int (Int8.toInt32 (Int32.toInt8 (Int64.toInt32 ((x5 &&& (127 : Int64)) ||| (128 : Int64)))))), (.int (Int8.toInt32 (Int32.toInt8 (Int64.toInt32 ((x6 &&& (127 : Int64)) ||| (128 : Int64)))))), (.int (Int8.toInt32 (Int32.toInt8 (Int64.toInt32 ((x7 &&& (127 : Int64)) ||| (128 : Int64)))))), (.int (Int8.toInt32 (Int32.toInt8 (Int64.toInt32 x8)))), (.int f), (.int f)] := A_76
                    refine g_iload C d2_57 (v := (12 : Int32)) rfl (pc' := 59) rfl ?_
                    refine g_ret C (v := (.int (12 : Int32))) (ty := .int) rfl rfl (Or.inl ⟨rfl, Or.inl rfl, _, rfl⟩) d2_59 (by decide) (by decide) ?_
                    have zk : Jvm.Free.XT.ushrL x8 (7 : Int32) = 0 := (own_m128 _).mp hb_73
                    have zz : Jvm.Free.XT.ushrL x (63 : Int32) = 0 := by rw [← own_sh x (ka := 56) (kb := 7) (a := (56 : Int32)) (b := (7 : Int32)) (by decide) (by decide) (by decide), ← y8]; exact zk
                    have hn : nlen x = (9 : Int32) := by rw [nlen, if_neg nz1, if_neg nz2, if_neg nz3, if_neg nz4, if_neg nz5, if_neg nz6, if_neg nz7, if_neg nz8, if_pos zz]
                    have e0 : expF (0 : Int32) (3 : Int32) (9 : Int32) x f = f := own_e0 (by decide)
                    have e1 : expF (1 : Int32) (3 : Int32) (9 : Int32) x f = f := own_e0 (by decide)
                    have e2 : expF (2 : Int32) (3 : Int32) (9 : Int32) x f = f := own_e0 (by decide)
                    have e3 : expF (3 : Int32) (3 : Int32) (9 : Int32) x f = (Int8.toInt32 (Int32.toInt8 (Int64.toInt32 ((x &&& (127 : Int64)) ||| (128 : Int64))))) := own_e2 (c := (0 : Int32)) (by decide) (by decide) (by decide) (by decide) (own_u0 x)
                    have e4 : expF (4 : Int32) (3 : Int32) (9 : Int32) x f = (Int8.toInt32 (Int32.toInt8 (Int64.toInt32 ((x1 &&& (127 : Int64)) ||| (128 : Int64))))) := own_e2 (c := (7 : Int32)) (by decide) (by decide) (by decide) (by decide) y1
                    have e5 : expF (5 : Int32) (3 : Int32) (9 : Int32) x f = (Int8.toInt32 (Int32.toInt8 (Int64.toInt32 ((x2 &&& (127 : Int64)) ||| (128 : Int64))))) := own_e2 (c := (14 : Int32)) (by decide) (by decide) (by decide) (by decide) y2
                    have e6 : expF (6 : Int32) (3 : Int32) (9 : Int32) x f = (Int8.toInt32 (Int32.toInt8 (Int64.toInt32 ((x3 &&& (127 : Int64)) ||| (128 : Int64))))) := own_e2 (c := (21 : Int32)) (by decide) (by decide) (by decide) (by decide) y3
                    have e7 : expF (7 : Int32) (3 : Int32) (9 : Int32) x f = (Int8.toInt32 (Int32.toInt8 (Int64.toInt32 ((x4 &&& (127 : Int64)) ||| (128 : Int64))))) := own_e2 (c := (28 : Int32)) (by decide) (by decide) (by decide) (by decide) y4
                    have e8 : expF (8 : Int32) (3 : Int32) (9 : Int32) x f = (Int8.toInt32 (Int32.toInt8 (Int64.toInt32 ((x5 &&& (127 : Int64)) ||| (128 : Int64))))) := own_e2 (c := (35 : Int32)) (by decide) (by decide) (by decide) (by decide) y5
                    have e9 : expF (9 : Int32) (3 : Int32) (9 : Int32) x f = (Int8.toInt32 (Int32.toInt8 (Int64.toInt32 ((x6 &&& (127 : Int64)) ||| (128 : Int64))))) := own_e2 (c := (42 : Int32)) (by decide) (by decide) (by decide) (by decide) y6
                    have e10 : expF (10 : Int32) (3 : Int32) (9 : Int32) x f = (Int8.toInt32 (Int32.toInt8 (Int64.toInt32 ((x7 &&& (127 : Int64)) ||| (128 : Int64))))) := own_e2 (c := (49 : Int32)) (by decide) (by decide) (by decide) (by decide) y7
                    have e11 : expF (11 : Int32) (3 : Int32) (9 : Int32) x f = (Int8.toInt32 (Int32.toInt8 (Int64.toInt32 x8))) := own_e3 (c := (56 : Int32)) (by decide) (by decide) (by decide) (by decide) y8 zk
                    have e12 : expF (12 : Int32) (3 : Int32) (9 : Int32) x f = f := own_e1 (by decide) (by decide)
                    have e13 : expF (13 : Int32) (3 : Int32) (9 : Int32) x f = f := own_e1 (by decide) (by decide)
                    rw [hn]
                    exact ⟨rfl, ((((((((((Keep.refl h0 [a1]).trans K_7 (allS (Or.inl (List.mem_of_getElem? (i := 0) rfl)) all0)).trans K_16 (allS (Or.inl (List.mem_of_getElem? (i := 0) rfl)) all0)).trans K_25 (allS (Or.inl (List.mem_of_getElem? (i := 0) rfl)) all0)).trans K_34 (allS (Or.inl (List.mem_of_getElem? (i := 0) rfl)) all0)).trans K_43 (allS (Or.inl (List.mem_of_getElem? (i := 0) rfl)) all0)).trans K_52 (allS (Or.inl (List.mem_of_getElem? (i := 0) rfl)) all0)).trans K_61 (allS (Or.inl (List.mem_of_getElem? (i := 0) rfl)) all0)).trans K_70 (allS (Or.inl (List.mem_of_getElem? (i := 0) rfl)) all0)).trans K_75 (allS (Or.inl (List.mem_of_getElem? (i := 0) rfl)) all0)), by rw [e0, e1, e2, e3, e4, e5, e6, e7, e8, e9, e10, e11, e12, e13]; exact f_77⟩
                  · refine g_if_n C d2_14 (Jvm.Free.XT.ll_eq_f hb_73) (pc' := 17) rfl ?_
                    refine g_aload_n C d2_17 (v := (.ref a1)) rfl rfl (pc' := 18) rfl ?_
                    refine g_iload C d2_18 (v := (11 : Int32)) rfl (pc' := 20) rfl ?_
                    refine g_iinc C d2_20 (v := (11 : Int32)) (w := (12 : Int32)) rfl rfl (L' := #[.val (.ref a1), .val (.int (3 : Int32)), .val (.long x), .second, .val (.int (12 : Int32)), .val (.long x8), .second]) rfl (pc' := 23) rfl ?_
                    refine g_lload C d2_23 (v := x8) rfl (pc' := 25) rfl ?_
                    refine g_ldc2_w C (v := (127 : Int64)) (own_w hw 14 rfl) d2_25 (pc' := 28) rfl ?_
                    refine g_land C (x := x8) (y := (127 : Int64)) d2_28  (pc' := 29) rfl ?_
                    refine g_ldc2_w C (v := (128 : Int64)) (own_w hw 15 rfl) d2_29 (pc' := 32) rfl ?_
                    refine g_lor C (x := (x8 &&& (127 : Int64))) (y := (128 : Int64)) d2_32  (pc' := 33) rfl ?_
                    refine g_l2i C (x := ((x8 &&& (127 : Int64)) ||| (128 : Int64))) d2_33 (pc' := 34) rfl ?_
                    refine g_i2b C (x := (Int64.toInt32 ((x8 &&& (127 : Int64)) ||| (128 : Int64)))) d2_34 (pc' := 35) rfl ?_
                    refine g_bastoreB C f_72 (by decide) (i := 11) (by decide) (show 11 < 14 by decide) (w := (.int (Int8.toInt32 (Int32.toInt8 (Int64.toInt32 ((x8 &&& (127 : Int64)) ||| (128 : Int64))))))) (congrArg Value.int (own_narb _)) g0 d2_35 (pc' := 36) rfl ?_
                    intro h_78 K_79 A_80
                    have f_81 : Ary Z h_78 a1 .byte [(.int f), (.int f), (.int f), (.int (Int8.toInt32 (Int32.toInt8 (Int64.toInt32 ((x &&& (127 : Int64)) ||| (128 : Int64)))))), (.int (Int8.toInt32 (Int32.toInt8 (Int64.toInt32 ((x1 &&& (127 : Int64)) ||| (128 : Int64)))))), (.int (Int8.toInt32 (Int32.toInt8 (Int64.toInt32 ((x2 &&& (127 : Int64)) ||| (128 : Int64)))))), (.int (Int8.toInt32 (Int32.toInt8 (Int64.toInt32 ((x3 &&& (127 : Int64)) ||| (128 : Int64)))))), (.int (Int8.toInt32 (Int32.toInt8 (Int64.toInt32 ((x4 &&& (127 : Int64)) ||| (128 : Int64)))))), (.int (Int8.toInt32 (Int32.toInt8 (Int64.toInt32 ((x5 &&& (127 : Int64)) ||| (128 : Int64)))))), (.int (Int8.toInt32 (Int32.toInt8 (Int64.toInt32 ((x6 &&& (127 : Int64)) ||| (128 : Int64)))))), (.int (Int8.toInt32 (Int32.toInt8 (Int64.toInt32 ((x7 &&& (127 : Int64)) ||| (128 : Int64)))))), (.int (Int8.toInt32 (Int32.toInt8 (Int64.toInt32 ((x8 &&& (127 : Int64)) ||| (128 : Int64)))))), (.int f), (.int f)] := A_80
                    refine g_lload C d2_36 (v := x8) rfl (pc' := 38) rfl ?_
                    refine g_bipush C d2_38 (v := (7 : Int32)) rfl (pc' := 40) rfl ?_
                    refine g_lushr C (x := x8) (y := (7 : Int32)) d2_40  (pc' := 41) rfl ?_
                    obtain ⟨x9, hx9⟩ : ∃ z : Int64, z = (Jvm.Free.XT.ushrL x8 (7 : Int32)) := ⟨_, rfl⟩
                    rw [← hx9]
                    have y9 : x9 = Jvm.Free.XT.ushrL x (63 : Int32) := by rw [hx9, y8]; exact own_sh x (ka := 56) (kb := 7) (by decide) (by decide) (by decide)
                    have nz9 : ¬ Jvm.Free.XT.ushrL x (63 : Int32) = 0 := by rw [← y9, hx9]; exact fun q => hb_73 ((own_m128 _).mpr q)
                    refine g_lstore C d2_41 (v := x9) (L' := #[.val (.ref a1), .val (.int (3 : Int32)), .val (.long x), .second, .val (.int (12 : Int32)), .val (.long x9), .second]) rfl (pc' := 43) rfl ?_
                    refine g_goto C d2_43 (pc' := 6) (by decide) (by decide) ?_
                    refine g_lload C d2_6 (v := x9) rfl (pc' := 8) rfl ?_
                    refine g_ldc2_w C (v := (-128 : Int64)) (own_w hw 9 rfl) d2_8 (pc' := 11) rfl ?_
                    refine g_land C (x := x9) (y := (-128 : Int64)) d2_11  (pc' := 12) rfl ?_
                    refine g_lconst C d2_12 (v := (0 : Int64)) rfl (pc' := 13) rfl ?_
                    refine g_lcmp C (x := (x9 &&& (-128 : Int64))) (y := (0 : Int64)) d2_13 (pc' := 14) rfl ?_
                    refine g_if_y C d2_14 (Jvm.Free.XT.ll_eq_t ((own_m128 _).mpr (by rw [y9]; exact own_zero x))) (pc' := 46) (by decide) (by decide) ?_
                    refine g_aload_n C d2_46 (v := (.ref a1)) rfl rfl (pc' := 47) rfl ?_
                    refine g_iload C d2_47 (v := (12 : Int32)) rfl (pc' := 49) rfl ?_
                    refine g_iinc C d2_49 (v := (12 : Int32)) (w := (13 : Int32)) rfl rfl (L' := #[.val (.ref a1), .val (.int (3 : Int32)), .val (.long x), .second, .val (.int (13 : Int32)), .val (.long x9), .second]) rfl (pc' := 52) rfl ?_
                    refine g_lload C d2_52 (v := x9) rfl (pc' := 54) rfl ?_
                    refine g_l2i C (x := x9) d2_54 (pc' := 55) rfl ?_
                    refine g_i2b C (x := (Int64.toInt32 x9)) d2_55 (pc' := 56) rfl ?_
                    refine g_bastoreB C f_81 (by decide) (i := 12) (by decide) (show 12 < 14 by decide) (w := (.int (Int8.toInt32 (Int32.toInt8 (Int64.toInt32 x9))))) (congrArg Value.int (own_narb _)) g0 d2_56 (pc' := 57) rfl ?_
                    intro h_82 K_83 A_84
                    have f_85 : Ary Z h_82 a1 .byte [(.int f), (.int f), (.int f), (.int (Int8.toInt32 (Int32.toInt8 (Int64.toInt32 ((x &&& (127 : Int64)) ||| (128 : Int64)))))), (.int (Int8.toInt32 (Int32.toInt8 (Int64.toInt32 ((x1 &&& (127 : Int64)) ||| (128 : Int64)))))), (.int (Int8.toInt32 (Int32.toInt8 (Int64.toInt32 ((x2 &&& (127 : Int64)) ||| (128 : Int64)))))), (.int (Int8.toInt32 (Int32.toInt8 (Int64.toInt32 ((x3 &&& (127 : Int64)) ||| (128 : Int64)))))), (.int (Int8.toInt32 (Int32.toInt8 (Int64.toInt32 ((x4 &&& (127 : Int64)) ||| (128 : Int64)))))), (.int (Int8.toInt32 (Int32.toInt8 (Int64.toInt32 ((x5 &&& (127 : Int64)) ||| (128 : Int64)))))), (.int (Int8.toInt32 (Int32.toInt8 (Int64.toInt32 ((x6 &&& (127 : Int64)) ||| (128 : Int64)))))), (.int (Int8.toInt32 (Int32.toInt8 (Int64.toInt32 ((x7 &&& (127 : Int64)) ||| (128 : Int64)))))), (.int (Int8.toInt32 (Int32.toInt8 (Int64.toInt32 ((x8 &&& (127 : Int64)) ||| (128 : Int64)))))), (.int (Int8.toInt32 (Int32.toInt8 (Int64.toInt32 x9)))), (.int f)] := A_84
                    refine g_iload C d2_57 (v := (13 : Int32)) rfl (pc' := 59) rfl ?_
                    refine g_ret C (v := (.int (13 : Int32))) (ty := .int) rfl rfl (Or.inl ⟨rfl, Or.inl rfl, _, rfl⟩) d2_59 (by decide) (by decide) ?_
                    have zk : Jvm.Free.XT.ushrL x9 (7 : Int32) = 0 := by rw [y9]; exact own_zero x
                    have hn : nlen x = (10 : Int32) := by rw [nlen, if_neg nz1, if_neg nz2, if_neg nz3, if_neg nz4, if_neg nz5, if_neg nz6, if_neg nz7, if_neg nz8, if_neg nz9]
                    have e0 : expF (0 : Int32) (3 : Int32) (10 : Int32) x f = f := own_e0 (by decide)
                    have e1 : expF (1 : Int32) (3 : Int32) (10 : Int32) x f = f := own_e0 (by decide)
                    have e2 : expF (2 : Int32) (3 : Int32) (10 : Int32) x f = f := own_e0 (by decide)
                    have e3 : expF (3 : Int32) (3 : Int32) (10 : Int32) x f = (Int8.toInt32 (Int32.toInt8 (Int64.toInt32 ((x &&& (127 : Int64)) ||| (128 : Int64))))) := own_e2 (c := (0 : Int32)) (by decide) (by decide) (by decide) (by decide) (own_u0 x)
                    have e4 : expF (4 : Int32) (3 : Int32) (10 : Int32) x f = (Int8.toInt32 (Int32.toInt8 (Int64.toInt32 ((x1 &&& (127 : Int64)) ||| (128 : Int64))))) := own_e2 (c := (7 : Int32)) (by decide) (by decide) (by decide) (by decide) y1
                    have e5 : expF (5 : Int32) (3 : Int32) (10 : Int32) x f = (Int8.toInt32 (Int32.toInt8 (Int64.toInt32 ((x2 &&& (127 : Int64)) ||| (128 : Int64))))) := own_e2 (c := (14 : Int32)) (by decide) (by decide) (by decide) (by decide) y2
                    have e6 : expF (6 : Int32) (3 : Int32) (10 : Int32) x f = (Int8.toInt32 (Int32.toInt8 (Int64.toInt32 ((x3 &&& (127 : Int64)) ||| (128 : Int64))))) := own_e2 (c := (21 : Int32)) (by decide) (by decide) (by decide) (by decide) y3
                    have e7 : expF (7 : Int32) (3 : Int32) (10 : Int32) x f = (Int8.toInt32 (Int32.toInt8 (Int64.toInt32 ((x4 &&& (127 : Int64)) ||| (128 : Int64))))) := own_e2 (c := (28 : Int32)) (by decide) (by decide) (by decide) (by decide) y4
                    have e8 : expF (8 : Int32) (3 : Int32) (10 : Int32) x f = (Int8.toInt32 (Int32.toInt8 (Int64.toInt32 ((x5 &&& (127 : Int64)) ||| (128 : Int64))))) := own_e2 (c := (35 : Int32)) (by decide) (by decide) (by decide) (by decide) y5
                    have e9 : expF (9 : Int32) (3 : Int32) (10 : Int32) x f = (Int8.toInt32 (Int32.toInt8 (Int64.toInt32 ((x6 &&& (127 : Int64)) ||| (128 : Int64))))) := own_e2 (c := (42 : Int32)) (by decide) (by decide) (by decide) (by decide) y6
                    have e10 : expF (10 : Int32) (3 : Int32) (10 : Int32) x f = (Int8.toInt32 (Int32.toInt8 (Int64.toInt32 ((x7 &&& (127 : Int64)) ||| (128 : Int64))))) := own_e2 (c := (49 : Int32)) (by decide) (by decide) (by decide) (by decide) y7
                    have e11 : expF (11 : Int32) (3 : Int32) (10 : Int32) x f = (Int8.toInt32 (Int32.toInt8 (Int64.toInt32 ((x8 &&& (127 : Int64)) ||| (128 : Int64))))) := own_e2 (c := (56 : Int32)) (by decide) (by decide) (by decide) (by decide) y8
                    have e12 : expF (12 : Int32) (3 : Int32) (10 : Int32) x f = (Int8.toInt32 (Int32.toInt8 (Int64.toInt32 x9))) := own_e3 (c := (63 : Int32)) (by decide) (by decide) (by decide) (by decide) y9 zk
                    have e13 : expF (13 : Int32) (3 : Int32) (10 : Int32) x f = f := own_e1 (by decide) (by decide)
                    rw [hn]
                    exact ⟨rfl, (((((((((((Keep.refl h0 [a1]).trans K_7 (allS (Or.inl (List.mem_of_getElem? (i := 0) rfl)) all0)).trans K_16 (allS (Or.inl (List.mem_of_getElem? (i := 0) rfl)) all0)).trans K_25 (allS (Or.inl (List.mem_of_getElem? (i := 0) rfl)) all0)).trans K_34 (allS (Or.inl (List.mem_of_getElem? (i := 0) rfl)) all0)).trans K_43 (allS (Or.inl (List.mem_of_getElem? (i := 0) rfl)) all0)).trans K_52 (allS (Or.inl (List.mem_of_getElem? (i := 0) rfl)) all0)).trans K_61 (allS (Or.inl (List.mem_of_getElem? (i := 0) rfl)) all0)).trans K_70 (allS (Or.inl (List.mem_of_getElem? (i := 0) rfl)) all0)).trans K_79 (allS (Or.inl (List.mem_of_getElem? (i := 0) rfl)) all0)).trans K_83 (allS (Or.inl (List.mem_of_getElem? (i := 0) rfl)) all0)), by rw [e0, e1, e2, e3, e4, e5, e6, e7, e8, e9, e10, e11, e12, e13]; exact f_85⟩
theorem rm_put (l : Launch) (Z : State) (a0 : Array Value) (hw : ∀ d ∈ tables_1, d.before a0 Z = true) (n0 : Nat) (a1 : Addr) (p : Int32) (x : Int64) (f : Int32) (h0 : Heap) (Z0 : n0 ≤ h0.size) (F1 : Ary Z h0 a1 .byte [.int f, .int f, .int f, .int f, .int f, .int f, .int f, .int f, .int f, .int f, .int f, .int f, .int f, .int f]) (g0 : n0 ≤ a1) (hp : p = 0 ∨ p = 1 ∨ p = 2 ∨ p = 3) :
    Met1 l Z (⟨"com/example/wirefield/wirefield/WireFormat", "putVarint", "([BIJ)I"⟩ : MethodName) prog_75_method_10_code 7 (some .int) ({ frames := 0, cells := 0, slots := 0, locals := 0 } : Room) n0 #[(.ref a1), (.int p), (.long x)] h0 (fun v h => v = some (.int (p + (nlen x))) ∧ Keep h0 h [a1] ∧ Ary Z h a1 .byte [.int (expF (0 : Int32) p (nlen x) x f), .int (expF (1 : Int32) p (nlen x) x f), .int (expF (2 : Int32) p (nlen x) x f), .int (expF (3 : Int32) p (nlen x) x f), .int (expF (4 : Int32) p (nlen x) x f), .int (expF (5 : Int32) p (nlen x) x f), .int (expF (6 : Int32) p (nlen x) x f), .int (expF (7 : Int32) p (nlen x) x f), .int (expF (8 : Int32) p (nlen x) x f), .int (expF (9 : Int32) p (nlen x) x f), .int (expF (10 : Int32) p (nlen x) x f), .int (expF (11 : Int32) p (nlen x) x f), .int (expF (12 : Int32) p (nlen x) x f), .int (expF (13 : Int32) p (nlen x) x f)]) := by
  rcases hp with rfl | rfl | rfl | rfl
  · exact rm_put0 l Z a0 hw n0 a1 x f h0 Z0 F1 g0
  · exact rm_put1 l Z a0 hw n0 a1 x f h0 Z0 F1 g0
  · exact rm_put2 l Z a0 hw n0 a1 x f h0 Z0 F1 g0
  · exact rm_put3 l Z a0 hw n0 a1 x f h0 Z0 F1 g0
theorem own_pd_1_len : parseMethodDescriptor "(J)I" = some ⟨[.long], (some .int)⟩ := by decide +kernel
theorem own_pd_3_putVarint : parseMethodDescriptor "([BIJ)I" = some ⟨[(.array .byte), .int, .long], (some .int)⟩ := by decide +kernel
theorem own_pd_0_exp : parseMethodDescriptor "(IIIJB)B" = some ⟨[.int, .int, .int, .long, .byte], (some .byte)⟩ := by decide +kernel
set_option maxRecDepth 65536 in
set_option maxHeartbeats 40000000 in
theorem rm_law (l : Launch) (Z : State) (a0 : Array Value) (hw : ∀ d ∈ tables_1, d.before a0 Z = true) (n0 : Nat) (p0 : Int64) (p1 p2 p3 : Int32) (h0 : Heap) (Z0 : n0 ≤ h0.size)  :
    Met1 l Z x code maxLocals ret room_1 n0 #[(.long p0), (.int p1), (.int p2), (.int p3)] h0 (fun v h => v = some (.int 1)) := by
  refine met_of (plainFor_of_name own_pn_com_example_wirefield_wirefield_WireFormatPutVarintPinLaw) (L0 := #[.val (.long p0), .second, .val (.int p1), .val (.int p2), .val (.int p3), .unset, .unset, .unset, .unset, .unset, .unset, .unset, .unset]) (by first | rfl | (simp [argsToLocals, Value.category]; done)) ?_
  intro B C
  change Ctx B l room_1 code "com/example/wirefield/wirefield/WireFormatPutVarintPinLaw" "law" 13 (some .boolean) Z at C
  refine g_lload_n C at_0 (v := p0) rfl (pc' := 1) rfl ?_
  refine g_iload_n C at_1 (v := p1) rfl (pc' := 2) rfl ?_
  refine g_bipush C at_2 (v := (63 : Int32)) rfl (pc' := 4) rfl ?_
  refine g_iand C (x := p1) (y := (63 : Int32)) at_4  (pc' := 5) rfl ?_
  refine g_lushr C (x := p0) (y := (p1 &&& (63 : Int32))) at_5  (pc' := 6) rfl ?_
  obtain ⟨x, hx⟩ : ∃ z : Int64, z = (Jvm.Free.XT.ushrL p0 (p1 &&& (63 : Int32))) := ⟨_, rfl⟩
  rw [← hx]
  refine g_lstore C at_6 (v := x) (L' := #[.val (.long p0), .second, .val (.int p1), .val (.int p2), .val (.int p3), .val (.long x), .second, .unset, .unset, .unset, .unset, .unset, .unset]) rfl (pc' := 8) rfl ?_
  refine g_iload_n C at_8 (v := p2) rfl (pc' := 9) rfl ?_
  refine g_iconst C at_9 (v := (3 : Int32)) rfl (pc' := 10) rfl ?_
  refine g_iand C (x := p2) (y := (3 : Int32)) at_10  (pc' := 11) rfl ?_
  obtain ⟨p, hp⟩ : ∃ z : Int32, z = (p2 &&& (3 : Int32)) := ⟨_, rfl⟩
  rw [← hp]
  have hp4 : p = 0 ∨ p = 1 ∨ p = 2 ∨ p = 3 := by rw [hp]; exact own_and3 p2
  refine g_istore C at_11 (v := p) (L' := #[.val (.long p0), .second, .val (.int p1), .val (.int p2), .val (.int p3), .val (.long x), .second, .val (.int p), .unset, .unset, .unset, .unset, .unset]) rfl (pc' := 13) rfl ?_
  refine g_iload C at_13 (v := p3) rfl (pc' := 15) rfl ?_
  refine g_i2b C (x := p3) at_15 (pc' := 16) rfl ?_
  have hf0 := own_narb p3
  have hf0' := Jvm.Free.XT.narrow_b p3
  obtain ⟨f, hff⟩ : ∃ z : Int32, z = (Int8.toInt32 (Int32.toInt8 p3)) := ⟨_, rfl⟩
  rw [← hff]
  have hf : nar .byte f = f := by rw [hff]; exact hf0
  have hf' : narrow .byte (.int f) = .int f := by rw [hff]; exact hf0'
  refine g_istore C at_16 (v := f) (L' := #[.val (.long p0), .second, .val (.int p1), .val (.int p2), .val (.int p3), .val (.long x), .second, .val (.int p), .val (.int f), .unset, .unset, .unset, .unset]) rfl (pc' := 18) rfl ?_
  refine g_bipush C at_18 (v := (14 : Int32)) rfl (pc' := 20) rfl ?_
  refine g_newarray C (own_w hw 0 rfl) (ty := .byte) rfl (by decide) (cap := 14) (by decide) (by decide) (by decide) (by decide) at_20 (pc' := 22) rfl ?_
  intro h_1 a_2 g_3 E_4 A_5
  have ge_a_2 : n0 ≤ a_2 := Nat.le_trans Z0 (Nat.le_of_eq g_3.symm)
  have gs_a_2 : h0.size ≤ a_2 := Nat.le_trans (Nat.le_refl h0.size) (Nat.le_of_eq g_3.symm)
  have f_6 : Ary Z h_1 a_2 .byte [(.int (0 : Int32)), (.int (0 : Int32)), (.int (0 : Int32)), (.int (0 : Int32)), (.int (0 : Int32)), (.int (0 : Int32)), (.int (0 : Int32)), (.int (0 : Int32)), (.int (0 : Int32)), (.int (0 : Int32)), (.int (0 : Int32)), (.int (0 : Int32)), (.int (0 : Int32)), (.int (0 : Int32))] := A_5
  show Go B n0 _ h_1 1 14 22 #[.val (.long p0), .second, .val (.int p1), .val (.int p2), .val (.int p3), .val (.long x), .second, .val (.int p), .val (.int f), .unset, .unset, .unset, .unset] [(.ref a_2)]
  refine g_dup C at_22 rfl (pc' := 23) rfl ?_
  refine g_iconst C at_23 (v := (0 : Int32)) rfl (pc' := 24) rfl ?_
  refine g_iload C at_24 (v := f) rfl (pc' := 26) rfl ?_
  refine g_bastoreB C f_6 (by decide) (i := 0) (by decide) (show 0 < 14 by decide) (w := (.int f)) (congrArg Value.int hf) ge_a_2 at_26 (pc' := 27) rfl ?_
  intro h_7 K_8 A_9
  have f_10 : Ary Z h_7 a_2 .byte [(.int f), (.int (0 : Int32)), (.int (0 : Int32)), (.int (0 : Int32)), (.int (0 : Int32)), (.int (0 : Int32)), (.int (0 : Int32)), (.int (0 : Int32)), (.int (0 : Int32)), (.int (0 : Int32)), (.int (0 : Int32)), (.int (0 : Int32)), (.int (0 : Int32)), (.int (0 : Int32))] := A_9
  refine g_dup C at_27 rfl (pc' := 28) rfl ?_
  refine g_iconst C at_28 (v := (1 : Int32)) rfl (pc' := 29) rfl ?_
  refine g_iload C at_29 (v := f) rfl (pc' := 31) rfl ?_
  refine g_bastoreB C f_10 (by decide) (i := 1) (by decide) (show 1 < 14 by decide) (w := (.int f)) (congrArg Value.int hf) ge_a_2 at_31 (pc' := 32) rfl ?_
  intro h_11 K_12 A_13
  have f_14 : Ary Z h_11 a_2 .byte [(.int f), (.int f), (.int (0 : Int32)), (.int (0 : Int32)), (.int (0 : Int32)), (.int (0 : Int32)), (.int (0 : Int32)), (.int (0 : Int32)), (.int (0 : Int32)), (.int (0 : Int32)), (.int (0 : Int32)), (.int (0 : Int32)), (.int (0 : Int32)), (.int (0 : Int32))] := A_13
  refine g_dup C at_32 rfl (pc' := 33) rfl ?_
  refine g_iconst C at_33 (v := (2 : Int32)) rfl (pc' := 34) rfl ?_
  refine g_iload C at_34 (v := f) rfl (pc' := 36) rfl ?_
  refine g_bastoreB C f_14 (by decide) (i := 2) (by decide) (show 2 < 14 by decide) (w := (.int f)) (congrArg Value.int hf) ge_a_2 at_36 (pc' := 37) rfl ?_
  intro h_15 K_16 A_17
  have f_18 : Ary Z h_15 a_2 .byte [(.int f), (.int f), (.int f), (.int (0 : Int32)), (.int (0 : Int32)), (.int (0 : Int32)), (.int (0 : Int32)), (.int (0 : Int32)), (.int (0 : Int32)), (.int (0 : Int32)), (.int (0 : Int32)), (.int (0 : Int32)), (.int (0 : Int32)), (.int (0 : Int32))] := A_17
  refine g_dup C at_37 rfl (pc' := 38) rfl ?_
  refine g_iconst C at_38 (v := (3 : Int32)) rfl (pc' := 39) rfl ?_
  refine g_iload C at_39 (v := f) rfl (pc' := 41) rfl ?_
  refine g_bastoreB C f_18 (by decide) (i := 3) (by decide) (show 3 < 14 by decide) (w := (.int f)) (congrArg Value.int hf) ge_a_2 at_41 (pc' := 42) rfl ?_
  intro h_19 K_20 A_21
  have f_22 : Ary Z h_19 a_2 .byte [(.int f), (.int f), (.int f), (.int f), (.int (0 : Int32)), (.int (0 : Int32)), (.int (0 : Int32)), (.int (0 : Int32)), (.int (0 : Int32)), (.int (0 : Int32)), (.int (0 : Int32)), (.int (0 : Int32)), (.int (0 : Int32)), (.int (0 : Int32))] := A_21
  refine g_dup C at_42 rfl (pc' := 43) rfl ?_
  refine g_iconst C at_43 (v := (4 : Int32)) rfl (pc' := 44) rfl ?_
  refine g_iload C at_44 (v := f) rfl (pc' := 46) rfl ?_
  refine g_bastoreB C f_22 (by decide) (i := 4) (by decide) (show 4 < 14 by decide) (w := (.int f)) (congrArg Value.int hf) ge_a_2 at_46 (pc' := 47) rfl ?_
  intro h_23 K_24 A_25
  have f_26 : Ary Z h_23 a_2 .byte [(.int f), (.int f), (.int f), (.int f), (.int f), (.int (0 : Int32)), (.int (0 : Int32)), (.int (0 : Int32)), (.int (0 : Int32)), (.int (0 : Int32)), (.int (0 : Int32)), (.int (0 : Int32)), (.int (0 : Int32)), (.int (0 : Int32))] := A_25
  refine g_dup C at_47 rfl (pc' := 48) rfl ?_
  refine g_iconst C at_48 (v := (5 : Int32)) rfl (pc' := 49) rfl ?_
  refine g_iload C at_49 (v := f) rfl (pc' := 51) rfl ?_
  refine g_bastoreB C f_26 (by decide) (i := 5) (by decide) (show 5 < 14 by decide) (w := (.int f)) (congrArg Value.int hf) ge_a_2 at_51 (pc' := 52) rfl ?_
  intro h_27 K_28 A_29
  have f_30 : Ary Z h_27 a_2 .byte [(.int f), (.int f), (.int f), (.int f), (.int f), (.int f), (.int (0 : Int32)), (.int (0 : Int32)), (.int (0 : Int32)), (.int (0 : Int32)), (.int (0 : Int32)), (.int (0 : Int32)), (.int (0 : Int32)), (.int (0 : Int32))] := A_29
  refine g_dup C at_52 rfl (pc' := 53) rfl ?_
  refine g_bipush C at_53 (v := (6 : Int32)) rfl (pc' := 55) rfl ?_
  refine g_iload C at_55 (v := f) rfl (pc' := 57) rfl ?_
  refine g_bastoreB C f_30 (by decide) (i := 6) (by decide) (show 6 < 14 by decide) (w := (.int f)) (congrArg Value.int hf) ge_a_2 at_57 (pc' := 58) rfl ?_
  intro h_31 K_32 A_33
  have f_34 : Ary Z h_31 a_2 .byte [(.int f), (.int f), (.int f), (.int f), (.int f), (.int f), (.int f), (.int (0 : Int32)), (.int (0 : Int32)), (.int (0 : Int32)), (.int (0 : Int32)), (.int (0 : Int32)), (.int (0 : Int32)), (.int (0 : Int32))] := A_33
  refine g_dup C at_58 rfl (pc' := 59) rfl ?_
  refine g_bipush C at_59 (v := (7 : Int32)) rfl (pc' := 61) rfl ?_
  refine g_iload C at_61 (v := f) rfl (pc' := 63) rfl ?_
  refine g_bastoreB C f_34 (by decide) (i := 7) (by decide) (show 7 < 14 by decide) (w := (.int f)) (congrArg Value.int hf) ge_a_2 at_63 (pc' := 64) rfl ?_
  intro h_35 K_36 A_37
  have f_38 : Ary Z h_35 a_2 .byte [(.int f), (.int f), (.int f), (.int f), (.int f), (.int f), (.int f), (.int f), (.int (0 : Int32)), (.int (0 : Int32)), (.int (0 : Int32)), (.int (0 : Int32)), (.int (0 : Int32)), (.int (0 : Int32))] := A_37
  refine g_dup C at_64 rfl (pc' := 65) rfl ?_
  refine g_bipush C at_65 (v := (8 : Int32)) rfl (pc' := 67) rfl ?_
  refine g_iload C at_67 (v := f) rfl (pc' := 69) rfl ?_
  refine g_bastoreB C f_38 (by decide) (i := 8) (by decide) (show 8 < 14 by decide) (w := (.int f)) (congrArg Value.int hf) ge_a_2 at_69 (pc' := 70) rfl ?_
  intro h_39 K_40 A_41
  have f_42 : Ary Z h_39 a_2 .byte [(.int f), (.int f), (.int f), (.int f), (.int f), (.int f), (.int f), (.int f), (.int f), (.int (0 : Int32)), (.int (0 : Int32)), (.int (0 : Int32)), (.int (0 : Int32)), (.int (0 : Int32))] := A_41
  refine g_dup C at_70 rfl (pc' := 71) rfl ?_
  refine g_bipush C at_71 (v := (9 : Int32)) rfl (pc' := 73) rfl ?_
  refine g_iload C at_73 (v := f) rfl (pc' := 75) rfl ?_
  refine g_bastoreB C f_42 (by decide) (i := 9) (by decide) (show 9 < 14 by decide) (w := (.int f)) (congrArg Value.int hf) ge_a_2 at_75 (pc' := 76) rfl ?_
  intro h_43 K_44 A_45
  have f_46 : Ary Z h_43 a_2 .byte [(.int f), (.int f), (.int f), (.int f), (.int f), (.int f), (.int f), (.int f), (.int f), (.int f), (.int (0 : Int32)), (.int (0 : Int32)), (.int (0 : Int32)), (.int (0 : Int32))] := A_45
  refine g_dup C at_76 rfl (pc' := 77) rfl ?_
  refine g_bipush C at_77 (v := (10 : Int32)) rfl (pc' := 79) rfl ?_
  refine g_iload C at_79 (v := f) rfl (pc' := 81) rfl ?_
  refine g_bastoreB C f_46 (by decide) (i := 10) (by decide) (show 10 < 14 by decide) (w := (.int f)) (congrArg Value.int hf) ge_a_2 at_81 (pc' := 82) rfl ?_
  intro h_47 K_48 A_49
  have f_50 : Ary Z h_47 a_2 .byte [(.int f), (.int f), (.int f), (.int f), (.int f), (.int f), (.int f), (.int f), (.int f), (.int f), (.int f), (.int (0 : Int32)), (.int (0 : Int32)), (.int (0 : Int32))] := A_49
  refine g_dup C at_82 rfl (pc' := 83) rfl ?_
  refine g_bipush C at_83 (v := (11 : Int32)) rfl (pc' := 85) rfl ?_
  refine g_iload C at_85 (v := f) rfl (pc' := 87) rfl ?_
  refine g_bastoreB C f_50 (by decide) (i := 11) (by decide) (show 11 < 14 by decide) (w := (.int f)) (congrArg Value.int hf) ge_a_2 at_87 (pc' := 88) rfl ?_
  intro h_51 K_52 A_53
  have f_54 : Ary Z h_51 a_2 .byte [(.int f), (.int f), (.int f), (.int f), (.int f), (.int f), (.int f), (.int f), (.int f), (.int f), (.int f), (.int f), (.int (0 : Int32)), (.int (0 : Int32))] := A_53
  refine g_dup C at_88 rfl (pc' := 89) rfl ?_
  refine g_bipush C at_89 (v := (12 : Int32)) rfl (pc' := 91) rfl ?_
  refine g_iload C at_91 (v := f) rfl (pc' := 93) rfl ?_
  refine g_bastoreB C f_54 (by decide) (i := 12) (by decide) (show 12 < 14 by decide) (w := (.int f)) (congrArg Value.int hf) ge_a_2 at_93 (pc' := 94) rfl ?_
  intro h_55 K_56 A_57
  have f_58 : Ary Z h_55 a_2 .byte [(.int f), (.int f), (.int f), (.int f), (.int f), (.int f), (.int f), (.int f), (.int f), (.int f), (.int f), (.int f), (.int f), (.int (0 : Int32))] := A_57
  refine g_dup C at_94 rfl (pc' := 95) rfl ?_
  refine g_bipush C at_95 (v := (13 : Int32)) rfl (pc' := 97) rfl ?_
  refine g_iload C at_97 (v := f) rfl (pc' := 99) rfl ?_
  refine g_bastoreB C f_58 (by decide) (i := 13) (by decide) (show 13 < 14 by decide) (w := (.int f)) (congrArg Value.int hf) ge_a_2 at_99 (pc' := 100) rfl ?_
  intro h_59 K_60 A_61
  have f_62 : Ary Z h_59 a_2 .byte [(.int f), (.int f), (.int f), (.int f), (.int f), (.int f), (.int f), (.int f), (.int f), (.int f), (.int f), (.int f), (.int f), (.int f)] := A_61
  refine g_astore C at_100 (v := (.ref a_2)) (L' := #[.val (.long p0), .second, .val (.int p1), .val (.int p2), .val (.int p3), .val (.long x), .second, .val (.int p), .val (.int f), .val (.ref a_2), .unset, .unset, .unset]) rfl rfl (pc' := 102) rfl ?_
  refine g_lload C at_102 (v := x) rfl (pc' := 104) rfl ?_
  have f_63 := (Nat.le_trans (Nat.le_trans (Nat.le_trans (Nat.le_trans (Nat.le_trans (Nat.le_trans (Nat.le_trans (Nat.le_trans (Nat.le_trans (Nat.le_trans (Nat.le_trans (Nat.le_trans (Nat.le_trans (Nat.le_trans (Nat.le_trans Z0 E_4.1) K_8.1) K_12.1) K_16.1) K_20.1) K_24.1) K_28.1) K_32.1) K_36.1) K_40.1) K_44.1) K_48.1) K_52.1) K_56.1) K_60.1)
  refine g_static C (own_w hw 1 rfl) (own_w hw 2 rfl) (own_w hw 3 rfl) (own_w hw 4 rfl) (by decide) (rm_len l Z a0 hw n0 x h_59 f_63 ) (st := []) [(.long x)] rfl rfl own_pd_1_len rfl rfl (by decide) (W := 0) (Nat.le_of_eq rfl) (by decide) (by decide) (by decide) at_104 (pc' := 107) rfl ?_
  intro v_66 h_64 q_65
  obtain ⟨rfl, rfl⟩ := q_65
  show Go B n0 _ h_59 1 14 107 #[.val (.long p0), .second, .val (.int p1), .val (.int p2), .val (.int p3), .val (.long x), .second, .val (.int p), .val (.int f), .val (.ref a_2), .unset, .unset, .unset] [(.int (nlen x))]
  refine g_istore C at_107 (v := (nlen x)) (L' := #[.val (.long p0), .second, .val (.int p1), .val (.int p2), .val (.int p3), .val (.long x), .second, .val (.int p), .val (.int f), .val (.ref a_2), .val (.int (nlen x)), .unset, .unset]) rfl (pc' := 109) rfl ?_
  refine g_aload C at_109 (v := (.ref a_2)) rfl rfl (pc' := 111) rfl ?_
  refine g_iload C at_111 (v := p) rfl (pc' := 113) rfl ?_
  refine g_lload C at_113 (v := x) rfl (pc' := 115) rfl ?_
  refine g_static C (own_w hw 5 rfl) (own_w hw 6 rfl) (own_w hw 7 rfl) (own_w hw 8 rfl) (by decide) (rm_put l Z a0 hw n0 a_2 p x f h_59 f_63 f_62 ge_a_2 hp4) (st := []) [(.ref a_2), (.int p), (.long x)] rfl rfl own_pd_3_putVarint rfl rfl (by decide) (W := 0) (Nat.le_of_eq rfl) (by decide) (by decide) (by decide) at_115 (pc' := 118) rfl ?_
  intro v_69 h_67 q_68
  obtain ⟨rfl, K_70, f_71⟩ := q_68
  show Go B n0 _ h_67 1 14 118 #[.val (.long p0), .second, .val (.int p1), .val (.int p2), .val (.int p3), .val (.long x), .second, .val (.int p), .val (.int f), .val (.ref a_2), .val (.int (nlen x)), .unset, .unset] [(.int (p + (nlen x)))]
  refine g_istore C at_118 (v := (p + (nlen x))) (L' := #[.val (.long p0), .second, .val (.int p1), .val (.int p2), .val (.int p3), .val (.long x), .second, .val (.int p), .val (.int f), .val (.ref a_2), .val (.int (nlen x)), .val (.int (p + (nlen x))), .unset]) rfl (pc' := 120) rfl ?_
  refine g_iload C at_120 (v := (p + (nlen x))) rfl (pc' := 122) rfl ?_
  refine g_iload C at_122 (v := p) rfl (pc' := 124) rfl ?_
  refine g_iload C at_124 (v := (nlen x)) rfl (pc' := 126) rfl ?_
  refine g_iadd C (x := p) (y := (nlen x)) at_126  (pc' := 127) rfl ?_
  refine g_icmp_n C at_127 (Jvm.Free.XT.ii_ne_f rfl) (pc' := 130) rfl ?_
  refine g_iconst C at_130 (v := (1 : Int32)) rfl (pc' := 131) rfl ?_
  refine g_goto C at_131 (pc' := 135) (by decide) (by decide) ?_
  refine g_istore C at_135 (v := (1 : Int32)) (L' := #[.val (.long p0), .second, .val (.int p1), .val (.int p2), .val (.int p3), .val (.long x), .second, .val (.int p), .val (.int f), .val (.ref a_2), .val (.int (nlen x)), .val (.int (p + (nlen x))), .val (.int (1 : Int32))]) rfl (pc' := 137) rfl ?_
  refine g_iload C at_137 (v := (1 : Int32)) rfl (pc' := 139) rfl ?_
  refine g_if_n C at_139 (Jvm.Free.XT.i0_eq_f (by decide)) (pc' := 142) rfl ?_
  refine g_aload C at_142 (v := (.ref a_2)) rfl rfl (pc' := 144) rfl ?_
  refine g_iconst C at_144 (v := (0 : Int32)) rfl (pc' := 145) rfl ?_
  refine g_baloadB C f_71 (by decide) (i := 0) (by decide) (v := (expF (0 : Int32) p (nlen x) x f)) rfl at_145 (pc' := 146) rfl ?_
  refine g_iconst C at_146 (v := (0 : Int32)) rfl (pc' := 147) rfl ?_
  refine g_iload C at_147 (v := p) rfl (pc' := 149) rfl ?_
  refine g_iload C at_149 (v := (nlen x)) rfl (pc' := 151) rfl ?_
  refine g_lload C at_151 (v := x) rfl (pc' := 153) rfl ?_
  refine g_iload C at_153 (v := f) rfl (pc' := 155) rfl ?_
  have f_72 := (Nat.le_trans f_63 K_70.1)
  refine g_static C (own_w hw 10 rfl) (own_w hw 11 rfl) (own_w hw 3 rfl) (own_w hw 12 rfl) (by decide) (rm_exp l Z a0 hw n0 (0 : Int32) p (nlen x) x f h_67 f_72 hf') (st := [(.int (expF (0 : Int32) p (nlen x) x f))]) [(.int (0 : Int32)), (.int p), (.int (nlen x)), (.long x), (.int f)] rfl rfl own_pd_0_exp rfl rfl (by decide) (W := 1) (Nat.le_of_eq rfl) (by decide) (by decide) (by decide) at_155 (pc' := 158) rfl ?_
  intro v_75 h_73 q_74
  obtain ⟨rfl, rfl⟩ := q_74
  show Go B n0 _ h_67 1 14 158 #[.val (.long p0), .second, .val (.int p1), .val (.int p2), .val (.int p3), .val (.long x), .second, .val (.int p), .val (.int f), .val (.ref a_2), .val (.int (nlen x)), .val (.int (p + (nlen x))), .val (.int (1 : Int32))] [(.int (expF (0 : Int32) p (nlen x) x f)), (.int (expF (0 : Int32) p (nlen x) x f))]
  refine g_icmp_n C at_158 (Jvm.Free.XT.ii_ne_f rfl) (pc' := 161) rfl ?_
  refine g_iconst C at_161 (v := (1 : Int32)) rfl (pc' := 162) rfl ?_
  refine g_goto C at_162 (pc' := 166) (by decide) (by decide) ?_
  refine g_istore C at_166 (v := (1 : Int32)) (L' := #[.val (.long p0), .second, .val (.int p1), .val (.int p2), .val (.int p3), .val (.long x), .second, .val (.int p), .val (.int f), .val (.ref a_2), .val (.int (nlen x)), .val (.int (p + (nlen x))), .val (.int (1 : Int32))]) rfl (pc' := 168) rfl ?_
  refine g_iload C at_168 (v := (1 : Int32)) rfl (pc' := 170) rfl ?_
  refine g_if_n C at_170 (Jvm.Free.XT.i0_eq_f (by decide)) (pc' := 173) rfl ?_
  refine g_aload C at_173 (v := (.ref a_2)) rfl rfl (pc' := 175) rfl ?_
  refine g_iconst C at_175 (v := (1 : Int32)) rfl (pc' := 176) rfl ?_
  refine g_baloadB C f_71 (by decide) (i := 1) (by decide) (v := (expF (1 : Int32) p (nlen x) x f)) rfl at_176 (pc' := 177) rfl ?_
  refine g_iconst C at_177 (v := (1 : Int32)) rfl (pc' := 178) rfl ?_
  refine g_iload C at_178 (v := p) rfl (pc' := 180) rfl ?_
  refine g_iload C at_180 (v := (nlen x)) rfl (pc' := 182) rfl ?_
  refine g_lload C at_182 (v := x) rfl (pc' := 184) rfl ?_
  refine g_iload C at_184 (v := f) rfl (pc' := 186) rfl ?_
  refine g_static C (own_w hw 10 rfl) (own_w hw 11 rfl) (own_w hw 3 rfl) (own_w hw 12 rfl) (by decide) (rm_exp l Z a0 hw n0 (1 : Int32) p (nlen x) x f h_67 f_72 hf') (st := [(.int (expF (1 : Int32) p (nlen x) x f))]) [(.int (1 : Int32)), (.int p), (.int (nlen x)), (.long x), (.int f)] rfl rfl own_pd_0_exp rfl rfl (by decide) (W := 1) (Nat.le_of_eq rfl) (by decide) (by decide) (by decide) at_186 (pc' := 189) rfl ?_
  intro v_78 h_76 q_77
  obtain ⟨rfl, rfl⟩ := q_77
  show Go B n0 _ h_67 1 14 189 #[.val (.long p0), .second, .val (.int p1), .val (.int p2), .val (.int p3), .val (.long x), .second, .val (.int p), .val (.int f), .val (.ref a_2), .val (.int (nlen x)), .val (.int (p + (nlen x))), .val (.int (1 : Int32))] [(.int (expF (1 : Int32) p (nlen x) x f)), (.int (expF (1 : Int32) p (nlen x) x f))]
  refine g_icmp_n C at_189 (Jvm.Free.XT.ii_ne_f rfl) (pc' := 192) rfl ?_
  refine g_iconst C at_192 (v := (1 : Int32)) rfl (pc' := 193) rfl ?_
  refine g_goto C at_193 (pc' := 197) (by decide) (by decide) ?_
  refine g_istore C at_197 (v := (1 : Int32)) (L' := #[.val (.long p0), .second, .val (.int p1), .val (.int p2), .val (.int p3), .val (.long x), .second, .val (.int p), .val (.int f), .val (.ref a_2), .val (.int (nlen x)), .val (.int (p + (nlen x))), .val (.int (1 : Int32))]) rfl (pc' := 199) rfl ?_
  refine g_iload C at_199 (v := (1 : Int32)) rfl (pc' := 201) rfl ?_
  refine g_if_n C at_201 (Jvm.Free.XT.i0_eq_f (by decide)) (pc' := 204) rfl ?_
  refine g_aload C at_204 (v := (.ref a_2)) rfl rfl (pc' := 206) rfl ?_
  refine g_iconst C at_206 (v := (2 : Int32)) rfl (pc' := 207) rfl ?_
  refine g_baloadB C f_71 (by decide) (i := 2) (by decide) (v := (expF (2 : Int32) p (nlen x) x f)) rfl at_207 (pc' := 208) rfl ?_
  refine g_iconst C at_208 (v := (2 : Int32)) rfl (pc' := 209) rfl ?_
  refine g_iload C at_209 (v := p) rfl (pc' := 211) rfl ?_
  refine g_iload C at_211 (v := (nlen x)) rfl (pc' := 213) rfl ?_
  refine g_lload C at_213 (v := x) rfl (pc' := 215) rfl ?_
  refine g_iload C at_215 (v := f) rfl (pc' := 217) rfl ?_
  refine g_static C (own_w hw 10 rfl) (own_w hw 11 rfl) (own_w hw 3 rfl) (own_w hw 12 rfl) (by decide) (rm_exp l Z a0 hw n0 (2 : Int32) p (nlen x) x f h_67 f_72 hf') (st := [(.int (expF (2 : Int32) p (nlen x) x f))]) [(.int (2 : Int32)), (.int p), (.int (nlen x)), (.long x), (.int f)] rfl rfl own_pd_0_exp rfl rfl (by decide) (W := 1) (Nat.le_of_eq rfl) (by decide) (by decide) (by decide) at_217 (pc' := 220) rfl ?_
  intro v_81 h_79 q_80
  obtain ⟨rfl, rfl⟩ := q_80
  show Go B n0 _ h_67 1 14 220 #[.val (.long p0), .second, .val (.int p1), .val (.int p2), .val (.int p3), .val (.long x), .second, .val (.int p), .val (.int f), .val (.ref a_2), .val (.int (nlen x)), .val (.int (p + (nlen x))), .val (.int (1 : Int32))] [(.int (expF (2 : Int32) p (nlen x) x f)), (.int (expF (2 : Int32) p (nlen x) x f))]
  refine g_icmp_n C at_220 (Jvm.Free.XT.ii_ne_f rfl) (pc' := 223) rfl ?_
  refine g_iconst C at_223 (v := (1 : Int32)) rfl (pc' := 224) rfl ?_
  refine g_goto C at_224 (pc' := 228) (by decide) (by decide) ?_
  refine g_istore C at_228 (v := (1 : Int32)) (L' := #[.val (.long p0), .second, .val (.int p1), .val (.int p2), .val (.int p3), .val (.long x), .second, .val (.int p), .val (.int f), .val (.ref a_2), .val (.int (nlen x)), .val (.int (p + (nlen x))), .val (.int (1 : Int32))]) rfl (pc' := 230) rfl ?_
  refine g_iload C at_230 (v := (1 : Int32)) rfl (pc' := 232) rfl ?_
  refine g_if_n C at_232 (Jvm.Free.XT.i0_eq_f (by decide)) (pc' := 235) rfl ?_
  refine g_aload C at_235 (v := (.ref a_2)) rfl rfl (pc' := 237) rfl ?_
  refine g_iconst C at_237 (v := (3 : Int32)) rfl (pc' := 238) rfl ?_
  refine g_baloadB C f_71 (by decide) (i := 3) (by decide) (v := (expF (3 : Int32) p (nlen x) x f)) rfl at_238 (pc' := 239) rfl ?_
  refine g_iconst C at_239 (v := (3 : Int32)) rfl (pc' := 240) rfl ?_
  refine g_iload C at_240 (v := p) rfl (pc' := 242) rfl ?_
  refine g_iload C at_242 (v := (nlen x)) rfl (pc' := 244) rfl ?_
  refine g_lload C at_244 (v := x) rfl (pc' := 246) rfl ?_
  refine g_iload C at_246 (v := f) rfl (pc' := 248) rfl ?_
  refine g_static C (own_w hw 10 rfl) (own_w hw 11 rfl) (own_w hw 3 rfl) (own_w hw 12 rfl) (by decide) (rm_exp l Z a0 hw n0 (3 : Int32) p (nlen x) x f h_67 f_72 hf') (st := [(.int (expF (3 : Int32) p (nlen x) x f))]) [(.int (3 : Int32)), (.int p), (.int (nlen x)), (.long x), (.int f)] rfl rfl own_pd_0_exp rfl rfl (by decide) (W := 1) (Nat.le_of_eq rfl) (by decide) (by decide) (by decide) at_248 (pc' := 251) rfl ?_
  intro v_84 h_82 q_83
  obtain ⟨rfl, rfl⟩ := q_83
  show Go B n0 _ h_67 1 14 251 #[.val (.long p0), .second, .val (.int p1), .val (.int p2), .val (.int p3), .val (.long x), .second, .val (.int p), .val (.int f), .val (.ref a_2), .val (.int (nlen x)), .val (.int (p + (nlen x))), .val (.int (1 : Int32))] [(.int (expF (3 : Int32) p (nlen x) x f)), (.int (expF (3 : Int32) p (nlen x) x f))]
  refine g_icmp_n C at_251 (Jvm.Free.XT.ii_ne_f rfl) (pc' := 254) rfl ?_
  refine g_iconst C at_254 (v := (1 : Int32)) rfl (pc' := 255) rfl ?_
  refine g_goto C at_255 (pc' := 259) (by decide) (by decide) ?_
  refine g_istore C at_259 (v := (1 : Int32)) (L' := #[.val (.long p0), .second, .val (.int p1), .val (.int p2), .val (.int p3), .val (.long x), .second, .val (.int p), .val (.int f), .val (.ref a_2), .val (.int (nlen x)), .val (.int (p + (nlen x))), .val (.int (1 : Int32))]) rfl (pc' := 261) rfl ?_
  refine g_iload C at_261 (v := (1 : Int32)) rfl (pc' := 263) rfl ?_
  refine g_if_n C at_263 (Jvm.Free.XT.i0_eq_f (by decide)) (pc' := 266) rfl ?_
  refine g_aload C at_266 (v := (.ref a_2)) rfl rfl (pc' := 268) rfl ?_
  refine g_iconst C at_268 (v := (4 : Int32)) rfl (pc' := 269) rfl ?_
  refine g_baloadB C f_71 (by decide) (i := 4) (by decide) (v := (expF (4 : Int32) p (nlen x) x f)) rfl at_269 (pc' := 270) rfl ?_
  refine g_iconst C at_270 (v := (4 : Int32)) rfl (pc' := 271) rfl ?_
  refine g_iload C at_271 (v := p) rfl (pc' := 273) rfl ?_
  refine g_iload C at_273 (v := (nlen x)) rfl (pc' := 275) rfl ?_
  refine g_lload C at_275 (v := x) rfl (pc' := 277) rfl ?_
  refine g_iload C at_277 (v := f) rfl (pc' := 279) rfl ?_
  refine g_static C (own_w hw 10 rfl) (own_w hw 11 rfl) (own_w hw 3 rfl) (own_w hw 12 rfl) (by decide) (rm_exp l Z a0 hw n0 (4 : Int32) p (nlen x) x f h_67 f_72 hf') (st := [(.int (expF (4 : Int32) p (nlen x) x f))]) [(.int (4 : Int32)), (.int p), (.int (nlen x)), (.long x), (.int f)] rfl rfl own_pd_0_exp rfl rfl (by decide) (W := 1) (Nat.le_of_eq rfl) (by decide) (by decide) (by decide) at_279 (pc' := 282) rfl ?_
  intro v_87 h_85 q_86
  obtain ⟨rfl, rfl⟩ := q_86
  show Go B n0 _ h_67 1 14 282 #[.val (.long p0), .second, .val (.int p1), .val (.int p2), .val (.int p3), .val (.long x), .second, .val (.int p), .val (.int f), .val (.ref a_2), .val (.int (nlen x)), .val (.int (p + (nlen x))), .val (.int (1 : Int32))] [(.int (expF (4 : Int32) p (nlen x) x f)), (.int (expF (4 : Int32) p (nlen x) x f))]
  refine g_icmp_n C at_282 (Jvm.Free.XT.ii_ne_f rfl) (pc' := 285) rfl ?_
  refine g_iconst C at_285 (v := (1 : Int32)) rfl (pc' := 286) rfl ?_
  refine g_goto C at_286 (pc' := 290) (by decide) (by decide) ?_
  refine g_istore C at_290 (v := (1 : Int32)) (L' := #[.val (.long p0), .second, .val (.int p1), .val (.int p2), .val (.int p3), .val (.long x), .second, .val (.int p), .val (.int f), .val (.ref a_2), .val (.int (nlen x)), .val (.int (p + (nlen x))), .val (.int (1 : Int32))]) rfl (pc' := 292) rfl ?_
  refine g_iload C at_292 (v := (1 : Int32)) rfl (pc' := 294) rfl ?_
  refine g_if_n C at_294 (Jvm.Free.XT.i0_eq_f (by decide)) (pc' := 297) rfl ?_
  refine g_aload C at_297 (v := (.ref a_2)) rfl rfl (pc' := 299) rfl ?_
  refine g_iconst C at_299 (v := (5 : Int32)) rfl (pc' := 300) rfl ?_
  refine g_baloadB C f_71 (by decide) (i := 5) (by decide) (v := (expF (5 : Int32) p (nlen x) x f)) rfl at_300 (pc' := 301) rfl ?_
  refine g_iconst C at_301 (v := (5 : Int32)) rfl (pc' := 302) rfl ?_
  refine g_iload C at_302 (v := p) rfl (pc' := 304) rfl ?_
  refine g_iload C at_304 (v := (nlen x)) rfl (pc' := 306) rfl ?_
  refine g_lload C at_306 (v := x) rfl (pc' := 308) rfl ?_
  refine g_iload C at_308 (v := f) rfl (pc' := 310) rfl ?_
  refine g_static C (own_w hw 10 rfl) (own_w hw 11 rfl) (own_w hw 3 rfl) (own_w hw 12 rfl) (by decide) (rm_exp l Z a0 hw n0 (5 : Int32) p (nlen x) x f h_67 f_72 hf') (st := [(.int (expF (5 : Int32) p (nlen x) x f))]) [(.int (5 : Int32)), (.int p), (.int (nlen x)), (.long x), (.int f)] rfl rfl own_pd_0_exp rfl rfl (by decide) (W := 1) (Nat.le_of_eq rfl) (by decide) (by decide) (by decide) at_310 (pc' := 313) rfl ?_
  intro v_90 h_88 q_89
  obtain ⟨rfl, rfl⟩ := q_89
  show Go B n0 _ h_67 1 14 313 #[.val (.long p0), .second, .val (.int p1), .val (.int p2), .val (.int p3), .val (.long x), .second, .val (.int p), .val (.int f), .val (.ref a_2), .val (.int (nlen x)), .val (.int (p + (nlen x))), .val (.int (1 : Int32))] [(.int (expF (5 : Int32) p (nlen x) x f)), (.int (expF (5 : Int32) p (nlen x) x f))]
  refine g_icmp_n C at_313 (Jvm.Free.XT.ii_ne_f rfl) (pc' := 316) rfl ?_
  refine g_iconst C at_316 (v := (1 : Int32)) rfl (pc' := 317) rfl ?_
  refine g_goto C at_317 (pc' := 321) (by decide) (by decide) ?_
  refine g_istore C at_321 (v := (1 : Int32)) (L' := #[.val (.long p0), .second, .val (.int p1), .val (.int p2), .val (.int p3), .val (.long x), .second, .val (.int p), .val (.int f), .val (.ref a_2), .val (.int (nlen x)), .val (.int (p + (nlen x))), .val (.int (1 : Int32))]) rfl (pc' := 323) rfl ?_
  refine g_iload C at_323 (v := (1 : Int32)) rfl (pc' := 325) rfl ?_
  refine g_if_n C at_325 (Jvm.Free.XT.i0_eq_f (by decide)) (pc' := 328) rfl ?_
  refine g_aload C at_328 (v := (.ref a_2)) rfl rfl (pc' := 330) rfl ?_
  refine g_bipush C at_330 (v := (6 : Int32)) rfl (pc' := 332) rfl ?_
  refine g_baloadB C f_71 (by decide) (i := 6) (by decide) (v := (expF (6 : Int32) p (nlen x) x f)) rfl at_332 (pc' := 333) rfl ?_
  refine g_bipush C at_333 (v := (6 : Int32)) rfl (pc' := 335) rfl ?_
  refine g_iload C at_335 (v := p) rfl (pc' := 337) rfl ?_
  refine g_iload C at_337 (v := (nlen x)) rfl (pc' := 339) rfl ?_
  refine g_lload C at_339 (v := x) rfl (pc' := 341) rfl ?_
  refine g_iload C at_341 (v := f) rfl (pc' := 343) rfl ?_
  refine g_static C (own_w hw 10 rfl) (own_w hw 11 rfl) (own_w hw 3 rfl) (own_w hw 12 rfl) (by decide) (rm_exp l Z a0 hw n0 (6 : Int32) p (nlen x) x f h_67 f_72 hf') (st := [(.int (expF (6 : Int32) p (nlen x) x f))]) [(.int (6 : Int32)), (.int p), (.int (nlen x)), (.long x), (.int f)] rfl rfl own_pd_0_exp rfl rfl (by decide) (W := 1) (Nat.le_of_eq rfl) (by decide) (by decide) (by decide) at_343 (pc' := 346) rfl ?_
  intro v_93 h_91 q_92
  obtain ⟨rfl, rfl⟩ := q_92
  show Go B n0 _ h_67 1 14 346 #[.val (.long p0), .second, .val (.int p1), .val (.int p2), .val (.int p3), .val (.long x), .second, .val (.int p), .val (.int f), .val (.ref a_2), .val (.int (nlen x)), .val (.int (p + (nlen x))), .val (.int (1 : Int32))] [(.int (expF (6 : Int32) p (nlen x) x f)), (.int (expF (6 : Int32) p (nlen x) x f))]
  refine g_icmp_n C at_346 (Jvm.Free.XT.ii_ne_f rfl) (pc' := 349) rfl ?_
  refine g_iconst C at_349 (v := (1 : Int32)) rfl (pc' := 350) rfl ?_
  refine g_goto C at_350 (pc' := 354) (by decide) (by decide) ?_
  refine g_istore C at_354 (v := (1 : Int32)) (L' := #[.val (.long p0), .second, .val (.int p1), .val (.int p2), .val (.int p3), .val (.long x), .second, .val (.int p), .val (.int f), .val (.ref a_2), .val (.int (nlen x)), .val (.int (p + (nlen x))), .val (.int (1 : Int32))]) rfl (pc' := 356) rfl ?_
  refine g_iload C at_356 (v := (1 : Int32)) rfl (pc' := 358) rfl ?_
  refine g_if_n C at_358 (Jvm.Free.XT.i0_eq_f (by decide)) (pc' := 361) rfl ?_
  refine g_aload C at_361 (v := (.ref a_2)) rfl rfl (pc' := 363) rfl ?_
  refine g_bipush C at_363 (v := (7 : Int32)) rfl (pc' := 365) rfl ?_
  refine g_baloadB C f_71 (by decide) (i := 7) (by decide) (v := (expF (7 : Int32) p (nlen x) x f)) rfl at_365 (pc' := 366) rfl ?_
  refine g_bipush C at_366 (v := (7 : Int32)) rfl (pc' := 368) rfl ?_
  refine g_iload C at_368 (v := p) rfl (pc' := 370) rfl ?_
  refine g_iload C at_370 (v := (nlen x)) rfl (pc' := 372) rfl ?_
  refine g_lload C at_372 (v := x) rfl (pc' := 374) rfl ?_
  refine g_iload C at_374 (v := f) rfl (pc' := 376) rfl ?_
  refine g_static C (own_w hw 10 rfl) (own_w hw 11 rfl) (own_w hw 3 rfl) (own_w hw 12 rfl) (by decide) (rm_exp l Z a0 hw n0 (7 : Int32) p (nlen x) x f h_67 f_72 hf') (st := [(.int (expF (7 : Int32) p (nlen x) x f))]) [(.int (7 : Int32)), (.int p), (.int (nlen x)), (.long x), (.int f)] rfl rfl own_pd_0_exp rfl rfl (by decide) (W := 1) (Nat.le_of_eq rfl) (by decide) (by decide) (by decide) at_376 (pc' := 379) rfl ?_
  intro v_96 h_94 q_95
  obtain ⟨rfl, rfl⟩ := q_95
  show Go B n0 _ h_67 1 14 379 #[.val (.long p0), .second, .val (.int p1), .val (.int p2), .val (.int p3), .val (.long x), .second, .val (.int p), .val (.int f), .val (.ref a_2), .val (.int (nlen x)), .val (.int (p + (nlen x))), .val (.int (1 : Int32))] [(.int (expF (7 : Int32) p (nlen x) x f)), (.int (expF (7 : Int32) p (nlen x) x f))]
  refine g_icmp_n C at_379 (Jvm.Free.XT.ii_ne_f rfl) (pc' := 382) rfl ?_
  refine g_iconst C at_382 (v := (1 : Int32)) rfl (pc' := 383) rfl ?_
  refine g_goto C at_383 (pc' := 387) (by decide) (by decide) ?_
  refine g_istore C at_387 (v := (1 : Int32)) (L' := #[.val (.long p0), .second, .val (.int p1), .val (.int p2), .val (.int p3), .val (.long x), .second, .val (.int p), .val (.int f), .val (.ref a_2), .val (.int (nlen x)), .val (.int (p + (nlen x))), .val (.int (1 : Int32))]) rfl (pc' := 389) rfl ?_
  refine g_iload C at_389 (v := (1 : Int32)) rfl (pc' := 391) rfl ?_
  refine g_if_n C at_391 (Jvm.Free.XT.i0_eq_f (by decide)) (pc' := 394) rfl ?_
  refine g_aload C at_394 (v := (.ref a_2)) rfl rfl (pc' := 396) rfl ?_
  refine g_bipush C at_396 (v := (8 : Int32)) rfl (pc' := 398) rfl ?_
  refine g_baloadB C f_71 (by decide) (i := 8) (by decide) (v := (expF (8 : Int32) p (nlen x) x f)) rfl at_398 (pc' := 399) rfl ?_
  refine g_bipush C at_399 (v := (8 : Int32)) rfl (pc' := 401) rfl ?_
  refine g_iload C at_401 (v := p) rfl (pc' := 403) rfl ?_
  refine g_iload C at_403 (v := (nlen x)) rfl (pc' := 405) rfl ?_
  refine g_lload C at_405 (v := x) rfl (pc' := 407) rfl ?_
  refine g_iload C at_407 (v := f) rfl (pc' := 409) rfl ?_
  refine g_static C (own_w hw 10 rfl) (own_w hw 11 rfl) (own_w hw 3 rfl) (own_w hw 12 rfl) (by decide) (rm_exp l Z a0 hw n0 (8 : Int32) p (nlen x) x f h_67 f_72 hf') (st := [(.int (expF (8 : Int32) p (nlen x) x f))]) [(.int (8 : Int32)), (.int p), (.int (nlen x)), (.long x), (.int f)] rfl rfl own_pd_0_exp rfl rfl (by decide) (W := 1) (Nat.le_of_eq rfl) (by decide) (by decide) (by decide) at_409 (pc' := 412) rfl ?_
  intro v_99 h_97 q_98
  obtain ⟨rfl, rfl⟩ := q_98
  show Go B n0 _ h_67 1 14 412 #[.val (.long p0), .second, .val (.int p1), .val (.int p2), .val (.int p3), .val (.long x), .second, .val (.int p), .val (.int f), .val (.ref a_2), .val (.int (nlen x)), .val (.int (p + (nlen x))), .val (.int (1 : Int32))] [(.int (expF (8 : Int32) p (nlen x) x f)), (.int (expF (8 : Int32) p (nlen x) x f))]
  refine g_icmp_n C at_412 (Jvm.Free.XT.ii_ne_f rfl) (pc' := 415) rfl ?_
  refine g_iconst C at_415 (v := (1 : Int32)) rfl (pc' := 416) rfl ?_
  refine g_goto C at_416 (pc' := 420) (by decide) (by decide) ?_
  refine g_istore C at_420 (v := (1 : Int32)) (L' := #[.val (.long p0), .second, .val (.int p1), .val (.int p2), .val (.int p3), .val (.long x), .second, .val (.int p), .val (.int f), .val (.ref a_2), .val (.int (nlen x)), .val (.int (p + (nlen x))), .val (.int (1 : Int32))]) rfl (pc' := 422) rfl ?_
  refine g_iload C at_422 (v := (1 : Int32)) rfl (pc' := 424) rfl ?_
  refine g_if_n C at_424 (Jvm.Free.XT.i0_eq_f (by decide)) (pc' := 427) rfl ?_
  refine g_aload C at_427 (v := (.ref a_2)) rfl rfl (pc' := 429) rfl ?_
  refine g_bipush C at_429 (v := (9 : Int32)) rfl (pc' := 431) rfl ?_
  refine g_baloadB C f_71 (by decide) (i := 9) (by decide) (v := (expF (9 : Int32) p (nlen x) x f)) rfl at_431 (pc' := 432) rfl ?_
  refine g_bipush C at_432 (v := (9 : Int32)) rfl (pc' := 434) rfl ?_
  refine g_iload C at_434 (v := p) rfl (pc' := 436) rfl ?_
  refine g_iload C at_436 (v := (nlen x)) rfl (pc' := 438) rfl ?_
  refine g_lload C at_438 (v := x) rfl (pc' := 440) rfl ?_
  refine g_iload C at_440 (v := f) rfl (pc' := 442) rfl ?_
  refine g_static C (own_w hw 10 rfl) (own_w hw 11 rfl) (own_w hw 3 rfl) (own_w hw 12 rfl) (by decide) (rm_exp l Z a0 hw n0 (9 : Int32) p (nlen x) x f h_67 f_72 hf') (st := [(.int (expF (9 : Int32) p (nlen x) x f))]) [(.int (9 : Int32)), (.int p), (.int (nlen x)), (.long x), (.int f)] rfl rfl own_pd_0_exp rfl rfl (by decide) (W := 1) (Nat.le_of_eq rfl) (by decide) (by decide) (by decide) at_442 (pc' := 445) rfl ?_
  intro v_102 h_100 q_101
  obtain ⟨rfl, rfl⟩ := q_101
  show Go B n0 _ h_67 1 14 445 #[.val (.long p0), .second, .val (.int p1), .val (.int p2), .val (.int p3), .val (.long x), .second, .val (.int p), .val (.int f), .val (.ref a_2), .val (.int (nlen x)), .val (.int (p + (nlen x))), .val (.int (1 : Int32))] [(.int (expF (9 : Int32) p (nlen x) x f)), (.int (expF (9 : Int32) p (nlen x) x f))]
  refine g_icmp_n C at_445 (Jvm.Free.XT.ii_ne_f rfl) (pc' := 448) rfl ?_
  refine g_iconst C at_448 (v := (1 : Int32)) rfl (pc' := 449) rfl ?_
  refine g_goto C at_449 (pc' := 453) (by decide) (by decide) ?_
  refine g_istore C at_453 (v := (1 : Int32)) (L' := #[.val (.long p0), .second, .val (.int p1), .val (.int p2), .val (.int p3), .val (.long x), .second, .val (.int p), .val (.int f), .val (.ref a_2), .val (.int (nlen x)), .val (.int (p + (nlen x))), .val (.int (1 : Int32))]) rfl (pc' := 455) rfl ?_
  refine g_iload C at_455 (v := (1 : Int32)) rfl (pc' := 457) rfl ?_
  refine g_if_n C at_457 (Jvm.Free.XT.i0_eq_f (by decide)) (pc' := 460) rfl ?_
  refine g_aload C at_460 (v := (.ref a_2)) rfl rfl (pc' := 462) rfl ?_
  refine g_bipush C at_462 (v := (10 : Int32)) rfl (pc' := 464) rfl ?_
  refine g_baloadB C f_71 (by decide) (i := 10) (by decide) (v := (expF (10 : Int32) p (nlen x) x f)) rfl at_464 (pc' := 465) rfl ?_
  refine g_bipush C at_465 (v := (10 : Int32)) rfl (pc' := 467) rfl ?_
  refine g_iload C at_467 (v := p) rfl (pc' := 469) rfl ?_
  refine g_iload C at_469 (v := (nlen x)) rfl (pc' := 471) rfl ?_
  refine g_lload C at_471 (v := x) rfl (pc' := 473) rfl ?_
  refine g_iload C at_473 (v := f) rfl (pc' := 475) rfl ?_
  refine g_static C (own_w hw 10 rfl) (own_w hw 11 rfl) (own_w hw 3 rfl) (own_w hw 12 rfl) (by decide) (rm_exp l Z a0 hw n0 (10 : Int32) p (nlen x) x f h_67 f_72 hf') (st := [(.int (expF (10 : Int32) p (nlen x) x f))]) [(.int (10 : Int32)), (.int p), (.int (nlen x)), (.long x), (.int f)] rfl rfl own_pd_0_exp rfl rfl (by decide) (W := 1) (Nat.le_of_eq rfl) (by decide) (by decide) (by decide) at_475 (pc' := 478) rfl ?_
  intro v_105 h_103 q_104
  obtain ⟨rfl, rfl⟩ := q_104
  show Go B n0 _ h_67 1 14 478 #[.val (.long p0), .second, .val (.int p1), .val (.int p2), .val (.int p3), .val (.long x), .second, .val (.int p), .val (.int f), .val (.ref a_2), .val (.int (nlen x)), .val (.int (p + (nlen x))), .val (.int (1 : Int32))] [(.int (expF (10 : Int32) p (nlen x) x f)), (.int (expF (10 : Int32) p (nlen x) x f))]
  refine g_icmp_n C at_478 (Jvm.Free.XT.ii_ne_f rfl) (pc' := 481) rfl ?_
  refine g_iconst C at_481 (v := (1 : Int32)) rfl (pc' := 482) rfl ?_
  refine g_goto C at_482 (pc' := 486) (by decide) (by decide) ?_
  refine g_istore C at_486 (v := (1 : Int32)) (L' := #[.val (.long p0), .second, .val (.int p1), .val (.int p2), .val (.int p3), .val (.long x), .second, .val (.int p), .val (.int f), .val (.ref a_2), .val (.int (nlen x)), .val (.int (p + (nlen x))), .val (.int (1 : Int32))]) rfl (pc' := 488) rfl ?_
  refine g_iload C at_488 (v := (1 : Int32)) rfl (pc' := 490) rfl ?_
  refine g_if_n C at_490 (Jvm.Free.XT.i0_eq_f (by decide)) (pc' := 493) rfl ?_
  refine g_aload C at_493 (v := (.ref a_2)) rfl rfl (pc' := 495) rfl ?_
  refine g_bipush C at_495 (v := (11 : Int32)) rfl (pc' := 497) rfl ?_
  refine g_baloadB C f_71 (by decide) (i := 11) (by decide) (v := (expF (11 : Int32) p (nlen x) x f)) rfl at_497 (pc' := 498) rfl ?_
  refine g_bipush C at_498 (v := (11 : Int32)) rfl (pc' := 500) rfl ?_
  refine g_iload C at_500 (v := p) rfl (pc' := 502) rfl ?_
  refine g_iload C at_502 (v := (nlen x)) rfl (pc' := 504) rfl ?_
  refine g_lload C at_504 (v := x) rfl (pc' := 506) rfl ?_
  refine g_iload C at_506 (v := f) rfl (pc' := 508) rfl ?_
  refine g_static C (own_w hw 10 rfl) (own_w hw 11 rfl) (own_w hw 3 rfl) (own_w hw 12 rfl) (by decide) (rm_exp l Z a0 hw n0 (11 : Int32) p (nlen x) x f h_67 f_72 hf') (st := [(.int (expF (11 : Int32) p (nlen x) x f))]) [(.int (11 : Int32)), (.int p), (.int (nlen x)), (.long x), (.int f)] rfl rfl own_pd_0_exp rfl rfl (by decide) (W := 1) (Nat.le_of_eq rfl) (by decide) (by decide) (by decide) at_508 (pc' := 511) rfl ?_
  intro v_108 h_106 q_107
  obtain ⟨rfl, rfl⟩ := q_107
  show Go B n0 _ h_67 1 14 511 #[.val (.long p0), .second, .val (.int p1), .val (.int p2), .val (.int p3), .val (.long x), .second, .val (.int p), .val (.int f), .val (.ref a_2), .val (.int (nlen x)), .val (.int (p + (nlen x))), .val (.int (1 : Int32))] [(.int (expF (11 : Int32) p (nlen x) x f)), (.int (expF (11 : Int32) p (nlen x) x f))]
  refine g_icmp_n C at_511 (Jvm.Free.XT.ii_ne_f rfl) (pc' := 514) rfl ?_
  refine g_iconst C at_514 (v := (1 : Int32)) rfl (pc' := 515) rfl ?_
  refine g_goto C at_515 (pc' := 519) (by decide) (by decide) ?_
  refine g_istore C at_519 (v := (1 : Int32)) (L' := #[.val (.long p0), .second, .val (.int p1), .val (.int p2), .val (.int p3), .val (.long x), .second, .val (.int p), .val (.int f), .val (.ref a_2), .val (.int (nlen x)), .val (.int (p + (nlen x))), .val (.int (1 : Int32))]) rfl (pc' := 521) rfl ?_
  refine g_iload C at_521 (v := (1 : Int32)) rfl (pc' := 523) rfl ?_
  refine g_if_n C at_523 (Jvm.Free.XT.i0_eq_f (by decide)) (pc' := 526) rfl ?_
  refine g_aload C at_526 (v := (.ref a_2)) rfl rfl (pc' := 528) rfl ?_
  refine g_bipush C at_528 (v := (12 : Int32)) rfl (pc' := 530) rfl ?_
  refine g_baloadB C f_71 (by decide) (i := 12) (by decide) (v := (expF (12 : Int32) p (nlen x) x f)) rfl at_530 (pc' := 531) rfl ?_
  refine g_bipush C at_531 (v := (12 : Int32)) rfl (pc' := 533) rfl ?_
  refine g_iload C at_533 (v := p) rfl (pc' := 535) rfl ?_
  refine g_iload C at_535 (v := (nlen x)) rfl (pc' := 537) rfl ?_
  refine g_lload C at_537 (v := x) rfl (pc' := 539) rfl ?_
  refine g_iload C at_539 (v := f) rfl (pc' := 541) rfl ?_
  refine g_static C (own_w hw 10 rfl) (own_w hw 11 rfl) (own_w hw 3 rfl) (own_w hw 12 rfl) (by decide) (rm_exp l Z a0 hw n0 (12 : Int32) p (nlen x) x f h_67 f_72 hf') (st := [(.int (expF (12 : Int32) p (nlen x) x f))]) [(.int (12 : Int32)), (.int p), (.int (nlen x)), (.long x), (.int f)] rfl rfl own_pd_0_exp rfl rfl (by decide) (W := 1) (Nat.le_of_eq rfl) (by decide) (by decide) (by decide) at_541 (pc' := 544) rfl ?_
  intro v_111 h_109 q_110
  obtain ⟨rfl, rfl⟩ := q_110
  show Go B n0 _ h_67 1 14 544 #[.val (.long p0), .second, .val (.int p1), .val (.int p2), .val (.int p3), .val (.long x), .second, .val (.int p), .val (.int f), .val (.ref a_2), .val (.int (nlen x)), .val (.int (p + (nlen x))), .val (.int (1 : Int32))] [(.int (expF (12 : Int32) p (nlen x) x f)), (.int (expF (12 : Int32) p (nlen x) x f))]
  refine g_icmp_n C at_544 (Jvm.Free.XT.ii_ne_f rfl) (pc' := 547) rfl ?_
  refine g_iconst C at_547 (v := (1 : Int32)) rfl (pc' := 548) rfl ?_
  refine g_goto C at_548 (pc' := 552) (by decide) (by decide) ?_
  refine g_istore C at_552 (v := (1 : Int32)) (L' := #[.val (.long p0), .second, .val (.int p1), .val (.int p2), .val (.int p3), .val (.long x), .second, .val (.int p), .val (.int f), .val (.ref a_2), .val (.int (nlen x)), .val (.int (p + (nlen x))), .val (.int (1 : Int32))]) rfl (pc' := 554) rfl ?_
  refine g_iload C at_554 (v := (1 : Int32)) rfl (pc' := 556) rfl ?_
  refine g_if_n C at_556 (Jvm.Free.XT.i0_eq_f (by decide)) (pc' := 559) rfl ?_
  refine g_aload C at_559 (v := (.ref a_2)) rfl rfl (pc' := 561) rfl ?_
  refine g_bipush C at_561 (v := (13 : Int32)) rfl (pc' := 563) rfl ?_
  refine g_baloadB C f_71 (by decide) (i := 13) (by decide) (v := (expF (13 : Int32) p (nlen x) x f)) rfl at_563 (pc' := 564) rfl ?_
  refine g_bipush C at_564 (v := (13 : Int32)) rfl (pc' := 566) rfl ?_
  refine g_iload C at_566 (v := p) rfl (pc' := 568) rfl ?_
  refine g_iload C at_568 (v := (nlen x)) rfl (pc' := 570) rfl ?_
  refine g_lload C at_570 (v := x) rfl (pc' := 572) rfl ?_
  refine g_iload C at_572 (v := f) rfl (pc' := 574) rfl ?_
  refine g_static C (own_w hw 10 rfl) (own_w hw 11 rfl) (own_w hw 3 rfl) (own_w hw 12 rfl) (by decide) (rm_exp l Z a0 hw n0 (13 : Int32) p (nlen x) x f h_67 f_72 hf') (st := [(.int (expF (13 : Int32) p (nlen x) x f))]) [(.int (13 : Int32)), (.int p), (.int (nlen x)), (.long x), (.int f)] rfl rfl own_pd_0_exp rfl rfl (by decide) (W := 1) (Nat.le_of_eq rfl) (by decide) (by decide) (by decide) at_574 (pc' := 577) rfl ?_
  intro v_114 h_112 q_113
  obtain ⟨rfl, rfl⟩ := q_113
  show Go B n0 _ h_67 1 14 577 #[.val (.long p0), .second, .val (.int p1), .val (.int p2), .val (.int p3), .val (.long x), .second, .val (.int p), .val (.int f), .val (.ref a_2), .val (.int (nlen x)), .val (.int (p + (nlen x))), .val (.int (1 : Int32))] [(.int (expF (13 : Int32) p (nlen x) x f)), (.int (expF (13 : Int32) p (nlen x) x f))]
  refine g_icmp_n C at_577 (Jvm.Free.XT.ii_ne_f rfl) (pc' := 580) rfl ?_
  refine g_iconst C at_580 (v := (1 : Int32)) rfl (pc' := 581) rfl ?_
  refine g_goto C at_581 (pc' := 585) (by decide) (by decide) ?_
  refine g_istore C at_585 (v := (1 : Int32)) (L' := #[.val (.long p0), .second, .val (.int p1), .val (.int p2), .val (.int p3), .val (.long x), .second, .val (.int p), .val (.int f), .val (.ref a_2), .val (.int (nlen x)), .val (.int (p + (nlen x))), .val (.int (1 : Int32))]) rfl (pc' := 587) rfl ?_
  refine g_iload C at_587 (v := (1 : Int32)) rfl (pc' := 589) rfl ?_
  refine g_ret C (v := (.int (1 : Int32))) (ty := .boolean) rfl rfl (Or.inl ⟨rfl, Or.inr (Or.inl rfl), _, rfl⟩) at_589 (by decide) (by decide) ?_
  rfl
set_option maxRecDepth 65536 in
set_option maxHeartbeats 40000000 in
theorem comes_1 {Post : Tables → Env → Array Value → State → Outcome → State → Prop} (hpost : ∀ tb e args s v u, (limb_1_1.after args s (.returned v) u = true ∧ limb_1_2.after args s (.returned v) u = true ∧ True) → FrameEnd s (.returned v) u (Jvm.fieldLocs frame_1_writes args s ++ Jvm.arrayLocs frame_1_arrays args s ++ Jvm.staticLocs frame_1_statics s) 16 128 → Post tb e args s (.returned v) u) :
    ArmFor flags0 classFile x code maxLocals ret World_1 tables_1 room_1 Calls_1 rest_1 Pre_1 Post := by
  intro l hfl _ _ p e ha hc hk s m args below hf hA hF happ hP
  obtain ⟨hcalls, hrest, hpre⟩ := hP
  obtain ⟨-, -, -, hnamed, -, -, -, hat⟩ := (Spec.applies_iff hf).mp happ
  obtain ⟨hg, hn⟩ := and_e (Cond.before_iff.mp (show (Jvm.Cond.and given_1 narrow_1).before args s = true from hpre))
  obtain ⟨gc, gr0⟩ := and_e hg
  obtain ⟨ga0, gr1⟩ := and_e gr0
  obtain ⟨ga1, gr2⟩ := and_e gr1
  obtain ⟨ga2, gr3⟩ := and_e gr2
  obtain ⟨w0, w1, w2, w3, rfl⟩ : ∃ w0 w1 w2 w3 : Value, args = #[w0, w1, w2, w3] := by
    have hs : args.size = 4 := by simpa [Cond.value, given_1] using gc
    obtain ⟨L⟩ := args
    match L, hs with
    | [w0, w1, w2, w3], _ => exact ⟨w0, w1, w2, w3, rfl⟩
  have hw := fun d (hd : d ∈ tables_1) => atoms_spec (ws := Jvm.Cond.code x code maxLocals ret :: tables_1) hat d (List.mem_cons_of_mem _ hd)
  have hfit : Fit s := fun {y c} hc i hi => by
    obtain ⟨ha, rfl⟩ := Array.getElem?_eq_some_iff.mp hc
    have q := List.all_eq_true.mp ((Array.all_eq_true_iff_forall_mem.mp hF) _ (Array.getElem_mem ha)) i (List.mem_range.mpr hi)
    simpa [Array.getElem?_eq_getElem hi] using q
  obtain ⟨i0, ei0⟩ := isL_v ga0
  obtain rfl : w0 = (.long i0) := Option.some.inj ei0
  obtain ⟨i1, ei1⟩ := is_v ga1
  obtain rfl : w1 = (.int i1) := Option.some.inj ei1
  obtain ⟨i2, ei2⟩ := is_v ga2
  obtain rfl : w2 = (.int i2) := Option.some.inj ei2
  obtain ⟨i3, ei3⟩ := is_v gr3
  obtain rfl : w3 = (.int i3) := Option.some.inj ei3
  obtain ⟨n, o, h1, h2, h3, _, L, rfl, ⟨N, rfl⟩, hq⟩ := rm_law l s _ hw s.heap.size i0 i1 i2 i3  s.heap (Nat.le_refl _)  tables_1 p e ha hc hk s m _ below hf ((Spec.applies_iff_loose hf).mp happ).1 ⟨rfl, State.Warmed39.refl s, rfl⟩ trivial
  refine ⟨n, _, h1, h2, h3, hpost _ _ _ _ _ _ ⟨Cond.after_iff.mpr rfl, Cond.after_iff.mpr (eq_i res_at (Term.int_eval (1)) rfl), trivial⟩ ⟨hq.1, hq.2.1, (hq.2.2.sift fun y hy => Or.inr (N y hy)).mono (by decide) (by decide)⟩⟩
theorem main_1_1 : Claimed_1_1 := comes_1 fun _ _ _ _ _ _ h hF => ⟨h.1, hF⟩
theorem main_1_2 : Claimed_1_2 := comes_1 fun _ _ _ _ _ _ h hF => ⟨h.2.1, hF⟩
end Jvm.Pilot.@@N@@
namespace Jvm.Pilot.@@N@@
open Jvm Jvm.ClassFile Sem Op Lib Jvm.Free Jvm.Stand Jvm.Pilot.@@N@@.Jvm.D
/-! MADE BY PROGRAM (witnessworld.py) out of the Statement's table words and the real class files: 9 classes; the members and pool entries that the words name. The judged class is class 1, her method 3. -/
namespace start1
open Jvm.ClassFile
def u (s : String) : CpInfo := .utf8 (stringToUtf16 s)
/-- a pool by its gaps: so many unusable entries, then the entry; so many at the end -/
def gap : Nat → List CpInfo → List CpInfo
  | 0, r => r
  | n + 1, r => .unusable :: gap n r
def poolList (es : List (Nat × CpInfo)) (last : Nat) : List CpInfo := es.foldr (fun e r => gap e.1 (e.2 :: r)) (gap last [])
def pool (es : List (Nat × CpInfo)) (last : Nat) : Array CpInfo := ⟨poolList es last⟩
def fileOf (pool : Array CpInfo) (this : Nat) (attrs : Array Attribute := #[]) (ms : Array MethodInfo := #[]) (fl : Nat := 33) (sup : Nat := 0) (ifs : Array Nat := #[]) (fds : Array FieldInfo := #[]) : ClassFile where
  minorVersion := 0
  majorVersion := 65
  constantPool := pool
  accessFlags := fl
  thisClass := this
  superClass := sup
  interfaces := ifs
  fields := fds
  methods := ms
  attributes := attrs
def plain (name : String) (sup : Option ClassId) : Class where
  name := name
  kind := .ordinary
  loader := none
  accessFlags := 33
  super := sup
  interfaces := #[]
  cf := none
  fields := #[]
  methods := #[]
  instanceTypes := #[]
  staticTypes := #[]
  resolved := #[]
  callSites := []
  init := .initialized
  statics := none
  mirror := none

def pool0 : Array CpInfo := pool [(5, u "<init>"), (0, u "()V"), (1, .class_ 10), (1, u "java/lang/Object")] 113

def k0m0 : Method := { name := "<init>", desc := "()V", sig := { parameters := [], returnType := none }, accessFlags := 1, code := none }
/-- java/lang/Object -/
def k0 : Class := { plain "java/lang/Object" none with
  accessFlags := 33
  interfaces := #[]
  cf := some (fileOf pool0 8 #[] #[{ accessFlags := 1, nameIndex := 5, descriptorIndex := 6, attributes := #[] }] 33 0 #[] #[])
  fields := #[]
  methods := #[k0m0]
  instanceTypes := #[]
  staticTypes := #[]
  resolved := Array.replicate 124 none
  statics := none }

def pool1 : Array CpInfo := pool [(2, .class_ 4), (1, u "java/lang/Object"), (0, u "<init>"), (0, u "()V"), (0, .long 127), (1, .methodref 10 11), (0, .class_ 12), (0, .nameAndType 13 14), (0, u "com/example/wirefield/wirefield/WireFormatPutVarintPinLaw"), (0, u "len"), (0, u "(J)I"), (0, .methodref 16 17), (0, .class_ 18), (0, .nameAndType 19 20), (0, u "com/example/wirefield/wirefield/WireFormat"), (0, u "putVarint"), (0, u "([BIJ)I"), (0, .methodref 10 22), (0, .nameAndType 23 24), (0, u "exp"), (0, u "(IIIJB)B"), (3, u "law"), (0, u "(JIII)Z")] 4

def k1m0 : Method := { name := "<init>", desc := "()V", sig := { parameters := [], returnType := none }, accessFlags := 2, code := none }
def k1c1 : Code := { maxStack := 4, maxLocals := 2, code := method_2_code, exceptionTable := #[], attributes := #[] }
def k1m1 : Method := { name := "len", desc := "(J)I", sig := { parameters := [.long], returnType := some .int }, accessFlags := 10, code := some k1c1 }
def k1c2 : Code := { maxStack := 4, maxLocals := 8, code := method_3_code, exceptionTable := #[], attributes := #[] }
def k1m2 : Method := { name := "exp", desc := "(IIIJB)B", sig := { parameters := [.int, .int, .int, .long, .byte], returnType := some .byte }, accessFlags := 10, code := some k1c2 }
def k1c3 : Code := { maxStack := 7, maxLocals := 13, code := code, exceptionTable := #[], attributes := #[] }
def k1m3 : Method := { name := "law", desc := "(JIII)Z", sig := { parameters := [.long, .int, .int, .int], returnType := some .boolean }, accessFlags := 9, code := some k1c3 }
/-- com/example/wirefield/wirefield/WireFormatPutVarintPinLaw -/
def k1 : Class := { plain "com/example/wirefield/wirefield/WireFormatPutVarintPinLaw" (some 0) with
  accessFlags := 49
  interfaces := #[]
  cf := some (fileOf pool1 10 #[] #[{ accessFlags := 2, nameIndex := 5, descriptorIndex := 6, attributes := #[] }, { accessFlags := 10, nameIndex := 13, descriptorIndex := 14, attributes := #[] }, { accessFlags := 10, nameIndex := 23, descriptorIndex := 24, attributes := #[] }, { accessFlags := 9, nameIndex := 28, descriptorIndex := 29, attributes := #[] }] 49 2 #[] #[])
  fields := #[]
  methods := #[k1m0, k1m1, k1m2, k1m3]
  instanceTypes := #[]
  staticTypes := #[]
  resolved := Array.replicate 34 none
  statics := none }

def pool2 : Array CpInfo := pool [(2, .class_ 4), (1, u "java/lang/Object"), (0, u "<init>"), (0, u "()V"), (0, .class_ 8), (0, u "com/example/wirefield/wirefield/WireFormat"), (18, .long 18446744073709551488), (1, .long 127), (1, .long 128), (3, u "VARINT"), (0, u "I"), (2, u "FIXED64"), (1, u "LENGTH_DELIMITED"), (1, u "START_GROUP"), (1, u "END_GROUP"), (1, u "FIXED32"), (1, u "WIRE_TYPE_BITS"), (0, u "VARINT_BYTES_MAX"), (1, u "FIELD_NUMBER_MAX"), (14, u "putVarint"), (0, u "([BIJ)I")] 7

def k2m0 : Method := { name := "<init>", desc := "()V", sig := { parameters := [], returnType := none }, accessFlags := 2, code := none }
def k2c1 : Code := { maxStack := 6, maxLocals := 7, code := prog_75_method_10_code, exceptionTable := #[], attributes := #[] }
def k2m1 : Method := { name := "putVarint", desc := "([BIJ)I", sig := { parameters := [(.array .byte), .int, .long], returnType := some .int }, accessFlags := 8, code := some k2c1 }
/-- com/example/wirefield/wirefield/WireFormat -/
def k2 : Class := { plain "com/example/wirefield/wirefield/WireFormat" (some 0) with
  accessFlags := 48
  interfaces := #[]
  cf := some (fileOf pool2 7 #[] #[{ accessFlags := 2, nameIndex := 5, descriptorIndex := 6, attributes := #[] }, { accessFlags := 8, nameIndex := 67, descriptorIndex := 68, attributes := #[] }] 48 2 #[] #[{ accessFlags := 24, nameIndex := 35, descriptorIndex := 36, attributes := #[] }, { accessFlags := 24, nameIndex := 39, descriptorIndex := 36, attributes := #[] }, { accessFlags := 24, nameIndex := 41, descriptorIndex := 36, attributes := #[] }, { accessFlags := 24, nameIndex := 43, descriptorIndex := 36, attributes := #[] }, { accessFlags := 24, nameIndex := 45, descriptorIndex := 36, attributes := #[] }, { accessFlags := 24, nameIndex := 47, descriptorIndex := 36, attributes := #[] }, { accessFlags := 24, nameIndex := 49, descriptorIndex := 36, attributes := #[] }, { accessFlags := 24, nameIndex := 50, descriptorIndex := 36, attributes := #[] }, { accessFlags := 24, nameIndex := 52, descriptorIndex := 36, attributes := #[] }])
  fields := #[{ name := "VARINT", type := .int, accessFlags := 24, slot := 0, constantValue := 0 }, { name := "FIXED64", type := .int, accessFlags := 24, slot := 1, constantValue := 0 }, { name := "LENGTH_DELIMITED", type := .int, accessFlags := 24, slot := 2, constantValue := 0 }, { name := "START_GROUP", type := .int, accessFlags := 24, slot := 3, constantValue := 0 }, { name := "END_GROUP", type := .int, accessFlags := 24, slot := 4, constantValue := 0 }, { name := "FIXED32", type := .int, accessFlags := 24, slot := 5, constantValue := 0 }, { name := "WIRE_TYPE_BITS", type := .int, accessFlags := 24, slot := 6, constantValue := 0 }, { name := "VARINT_BYTES_MAX", type := .int, accessFlags := 24, slot := 7, constantValue := 0 }, { name := "FIELD_NUMBER_MAX", type := .int, accessFlags := 24, slot := 8, constantValue := 0 }]
  methods := #[k2m0, k2m1]
  instanceTypes := #[]
  staticTypes := #[.int, .int, .int, .int, .int, .int, .int, .int, .int]
  resolved := Array.replicate 76 none
  statics := none }

def pool3 : Array CpInfo := pool [(1, u "java/lang/Cloneable"), (0, .class_ 1), (0, u "java/lang/Object"), (0, .class_ 3)] 3

/-- java/lang/Cloneable -/
def k3 : Class := { plain "java/lang/Cloneable" (some 0) with
  accessFlags := 1537
  interfaces := #[]
  cf := some (fileOf pool3 2 #[] #[] 1537 4 #[] #[])
  fields := #[]
  methods := #[]
  instanceTypes := #[]
  staticTypes := #[]
  resolved := Array.replicate 8 none
  statics := none }

def pool4 : Array CpInfo := pool [(1, u "java/io/Serializable"), (0, .class_ 1), (0, u "java/lang/Object"), (0, .class_ 3)] 3

/-- java/io/Serializable -/
def k4 : Class := { plain "java/io/Serializable" (some 0) with
  accessFlags := 1537
  interfaces := #[]
  cf := some (fileOf pool4 2 #[] #[] 1537 4 #[] #[])
  fields := #[]
  methods := #[]
  instanceTypes := #[]
  staticTypes := #[]
  resolved := Array.replicate 8 none
  statics := none }

/-- the primitive byte -/
def k5 : Class := { plain "byte" none with kind := .primitive 'B', accessFlags := 0x411 }
/-- [B -/
def k6 : Class := { plain "[B" (some 0) with kind := .array 5 .byte, interfaces := #[3, 4], accessFlags := 1041 }

/-- the primitive int -/
def k7 : Class := { plain "int" none with kind := .primitive 'I', accessFlags := 0x411 }
/-- [I -/
def k8 : Class := { plain "[I" (some 0) with kind := .array 7 .int, interfaces := #[3, 4], accessFlags := 1041 }

def heap : Heap := #[]
def classes : Array Class := #[k0, k1, k2, k3, k4, k5, k6, k7, k8]
def interned : List (Array UInt16 × Addr) := []
def slotsUsed : Nat := 0
def theMethod : MethodId := ⟨1, 3⟩
def args0 : Array Value := #[.long 5, .int 6, .int 7, .int 8]
def aboutOver (below : List Frame) : State where
  vm := { classes := classes, interned := interned.toArray }
  heap := heap
  slotsUsed := slotsUsed
  threads := #[{ frames := .invoking theMethod args0 :: below }]
def below0 : List Frame := [.native { method := ⟨0, 0⟩, args := #[] }]
def about1 : State := aboutOver below0
def p0 : Program := .bare "" "" ""
def e0 : Env := launch0.env 0 0 0
theorem w_frames : about1.frames = Frame.invoking theMethod args0 :: below0 := rfl
set_option maxRecDepth 65536 in
theorem w_args : argsFit about1.vm theMethod args0 = true := by decide +kernel
set_option maxRecDepth 65536 in
theorem w_heap : heapFits about1 = true := by decide +kernel
set_option maxRecDepth 65536 in
theorem w_runnable : about1.curStatus? = some .runnable := by decide +kernel
set_option maxRecDepth 65536 in
theorem w_alone : about1.alone = true := by decide +kernel
set_option maxRecDepth 65536 in
theorem w_named : about1.methodNamed? x = some theMethod := by decide +kernel
set_option maxRecDepth 65536 in
theorem w_hears : about1.hears theMethod below0 = true := by decide +kernel
set_option maxRecDepth 65536 in
theorem w_ripe : about1.ripe theMethod args0 below0 = true := by decide +kernel
theorem w_running : about1.status = .running := rfl
set_option maxRecDepth 65536 in
theorem w_room : about1.hasRoom e0.platform room_1 = true :=
  launch0.hasRoom_least _ room_1 (by decide +kernel) (by decide +kernel) (by decide +kernel) (by decide +kernel) (by decide +kernel) (by decide +kernel)
theorem allAtoms_all (ts : List Jvm.Cond) (a : Array Jvm.Value) (st : Jvm.State) : (allAtoms ts).before a st = ts.all (fun c => c.before a st) := by
  induction ts with
  | nil => rfl
  | cons c t ih =>
    show (Jvm.Cond.and c (allAtoms t)).before a st = _
    rw [Jvm.Cond.before_and, ih, List.all_cons]
def words1 : List Jvm.Cond := Jvm.Cond.code x code maxLocals ret :: tables_1
/-- a 'code' word, met by the world's own term for the bytes: nothing is compared byte by byte -/
theorem code_word {y : MethodName} {bytes : ByteArray} {mx : Nat} {rt : Option FieldType} {a : Array Value} {s : State} {m : MethodId} {meth : Method} {c : Code} (h1 : s.methodNamed? y = some m) (h2 : s.vm.method? m = some meth) (h3 : meth.code = some c) (h4 : c.code = bytes)
    (h5 : (c.maxLocals == mx && c.exceptionTable.isEmpty && decide (c.maxStack ≤ mostOperands) && decide (meth.sig.returnType = rt) && !meth.locks && decide (parseMethodDescriptor y.desc = some meth.sig)) = true) : (Jvm.Cond.code y bytes mx rt).before a s = true := by
  simp only [Bool.and_eq_true, beq_iff_eq, Bool.not_eq_true', decide_eq_true_eq] at h5
  obtain ⟨⟨⟨⟨⟨g1, g2⟩, g3⟩, g4⟩, g5⟩, g6⟩ := h5
  simp [Cond.before, Cond.holds, Cond.value, h1, h2, h3, h4, g1, g2, g3, g4, g5, g6]
def isCode : Jvm.Cond → Bool
  | .code _ _ _ _ => true
  | _ => false
theorem all_split {L : List Jvm.Cond} {P : Jvm.Cond → Bool} (h1 : L.all (fun c => isCode c || P c) = true) (h2 : ∀ c ∈ L.filter isCode, P c = true) : L.all P = true := by
  refine List.all_eq_true.mpr fun c hc => ?_
  have h := List.all_eq_true.mp h1 c hc
  rcases Bool.eq_false_or_eq_true (isCode c) with hi | hi
  · exact h2 c (List.mem_filter.mpr ⟨hc, hi⟩)
  · simpa [hi] using h
set_option maxRecDepth 65536 in
theorem w_c0 : (Jvm.Cond.code x code maxLocals ret).before args0 about1 = true := code_word (m := ⟨1, 3⟩) (meth := k1m3) (c := k1c3) (by decide +kernel) rfl rfl rfl (by decide +kernel)
set_option maxRecDepth 65536 in
theorem w_c1 : (Jvm.Cond.code ({ cls := "com/example/wirefield/wirefield/WireFormatPutVarintPinLaw", name := "len", desc := "(J)I" } : Jvm.MethodName) method_2_code (2 : Nat) (Option.some Jvm.ClassFile.FieldType.int)).before args0 about1 = true := code_word (m := ⟨1, 1⟩) (meth := k1m1) (c := k1c1) (by decide +kernel) rfl rfl rfl (by decide +kernel)
set_option maxRecDepth 65536 in
theorem w_c2 : (Jvm.Cond.code ({ cls := "com/example/wirefield/wirefield/WireFormat", name := "putVarint", desc := "([BIJ)I" } : Jvm.MethodName) prog_75_method_10_code (7 : Nat) (Option.some Jvm.ClassFile.FieldType.int)).before args0 about1 = true := code_word (m := ⟨2, 1⟩) (meth := k2m1) (c := k2c1) (by decide +kernel) rfl rfl rfl (by decide +kernel)
set_option maxRecDepth 65536 in
theorem w_c3 : (Jvm.Cond.code ({ cls := "com/example/wirefield/wirefield/WireFormatPutVarintPinLaw", name := "exp", desc := "(IIIJB)B" } : Jvm.MethodName) method_3_code (8 : Nat) (Option.some Jvm.ClassFile.FieldType.byte)).before args0 about1 = true := code_word (m := ⟨1, 2⟩) (meth := k1m2) (c := k1c2) (by decide +kernel) rfl rfl rfl (by decide +kernel)
def codes1 : List Jvm.Cond := [Jvm.Cond.code x code maxLocals ret, Jvm.Cond.code ({ cls := "com/example/wirefield/wirefield/WireFormatPutVarintPinLaw", name := "len", desc := "(J)I" } : Jvm.MethodName) method_2_code (2 : Nat) (Option.some Jvm.ClassFile.FieldType.int), Jvm.Cond.code ({ cls := "com/example/wirefield/wirefield/WireFormat", name := "putVarint", desc := "([BIJ)I" } : Jvm.MethodName) prog_75_method_10_code (7 : Nat) (Option.some Jvm.ClassFile.FieldType.int), Jvm.Cond.code ({ cls := "com/example/wirefield/wirefield/WireFormatPutVarintPinLaw", name := "exp", desc := "(IIIJB)B" } : Jvm.MethodName) method_3_code (8 : Nat) (Option.some Jvm.ClassFile.FieldType.byte)]
set_option maxRecDepth 65536 in
theorem codes_eq : words1.filter isCode = codes1 := rfl
theorem w_codes : ∀ c ∈ words1.filter isCode, c.before args0 about1 = true := by
  rw [codes_eq]
  intro c hc
  simp only [codes1, List.mem_cons, List.not_mem_nil, or_false] at hc
  rcases hc with rfl | rfl | rfl | rfl
  · exact w_c0
  · exact w_c1
  · exact w_c2
  · exact w_c3
set_option maxRecDepth 65536 in
theorem w_t1 : words1.all (fun c => isCode c || c.before args0 about1) = true := by decide +kernel
theorem w_tables : (allAtoms (Jvm.Cond.code x code maxLocals ret :: tables_1)).before args0 about1 = true := by
  rw [allAtoms_all]
  show words1.all (fun c => c.before args0 about1) = true
  refine all_split ?_ w_codes
  rw [w_t1]
set_option maxRecDepth 65536 in
theorem w_case : (Jvm.Cond.and given_1 narrow_1).before args0 about1 = true := by decide +kernel
theorem w_applies : (headSpec (Jvm.Cond.code x code maxLocals ret :: tables_1) room_1).applies x e0.platform about1 = true :=
  (Spec.applies_iff w_frames).mpr ⟨w_running, w_runnable, w_alone, w_named, w_hears, w_ripe, w_room, w_tables⟩
theorem atStart : AtStart classFile x code maxLocals ret World_1 tables_1 room_1 Calls_1 rest_1 Pre_1 launch0 p0 e0 about1 theMethod args0 below0 :=
  ⟨lists_1, trivial, launch0.admits_env _ _ _, launch0.least_env, fairChoices_fair.cas, fairChoices_fair.clock, w_frames, w_args, w_heap, w_applies, trivial, trivial, w_case⟩
end start1
theorem witness_1 : WitnessClaimed_1 := ⟨start1.p0, start1.e0, start1.about1, start1.theMethod, start1.args0, start1.below0, start1.atStart⟩
end Jvm.Pilot.@@N@@
