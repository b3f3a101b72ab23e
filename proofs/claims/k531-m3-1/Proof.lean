import JvmDerived
import JvmDerived.Pilot.@@N@@Statement
import JvmDerived.Pilot.@@N@@Code
set_option linter.unusedVariables false
set_option linter.unusedSimpArgs false
namespace Jvm.OwnKit
open Jvm Jvm.ClassFile Sem Op Lib Jvm.Stand Jvm.Free Jvm.LawKit Jvm.RoadKit
/-! A small calculus of my own over the library's laws: Go says 'from here the body comes to its end, and what it leaves satisfies Q'. -/
abbrev Bod : Type := Program × Launch × Env × Room × State × MethodId × Array Value × List Frame × Method × Code
abbrev Bod.p (B : Bod) : Program := B.1
abbrev Bod.l (B : Bod) : Launch := B.2.1
abbrev Bod.e (B : Bod) : Env := B.2.2.1
abbrev Bod.R (B : Bod) : Room := B.2.2.2.1
abbrev Bod.s (B : Bod) : State := B.2.2.2.2.1
abbrev Bod.m (B : Bod) : MethodId := B.2.2.2.2.2.1
abbrev Bod.args (B : Bod) : Array Value := B.2.2.2.2.2.2.1
abbrev Bod.below (B : Bod) : List Frame := B.2.2.2.2.2.2.2.1
abbrev Bod.meth (B : Bod) : Method := B.2.2.2.2.2.2.2.2.1
abbrev Bod.c (B : Bod) : Code := B.2.2.2.2.2.2.2.2.2
abbrev St (B : Bod) (T : State) (locs : List Loc) (k n : Nat) : Prop := Stand B.p B.l B.e B.R B.s B.m B.args B.below B.meth B.c T locs k n
def Fin0 (B : Bod) (n0 : Nat) (Q : Option Value → Heap → Prop) (g : JFrame) (T : State) : Prop :=
  ∃ t o, Steps B.p.tables B.e B.below (T.setTop g) t ∧ t.status = .running ∧ Ended t B.below o ∧ ∃ v L, o = .returned v ∧ (Fr n0 L ∧ Q v t.heap) ∧ FrameEnd B.s o t L B.R.cells B.R.slots
def Go (B : Bod) (n0 : Nat) (Q : Option Value → Heap → Prop) (h : Heap) (k n pc : Nat) (L : Array Slot) (st : List Value) : Prop :=
  ∀ T locs, St B T locs k n → Fr n0 locs → T.heap = h → Fin0 B n0 Q (mkF B.m pc L st) T
def Ctx (B : Bod) (l : Launch) (rm : Room) (bytes : ByteArray) (own nm : String) (maxL : Nat) (ret : Option FieldType) (Z : State) : Prop :=
  B.l = l ∧ B.R = rm ∧ B.p.tables.exec = Jvm.exec ∧ B.c.code = bytes ∧ Z.Warmed39 B.s.vm ∧ B.s.vm.findClass own = some B.m.cls ∧ B.meth.name = nm ∧ B.c.maxLocals = maxL ∧ B.meth.sig.returnType = ret ∧ B.meth.locks = false
/-- a method's contract: called with these arguments over this heap it returns, and Q holds of what it returns and of the heap it leaves -/
def Met1 (l : Launch) (Z : State) (y : MethodName) (bytes : ByteArray) (maxL : Nat) (ret : Option FieldType) (rm : Room) (n0 : Nat) (as' : Array Value) (h0 : Heap) (Q : Option Value → Heap → Prop) : Prop :=
  ∀ ws : List Jvm.Cond, MetFree l y (head1 (Jvm.Cond.code y bytes maxL ret :: ws) rm) (fun a U => a = as' ∧ Z.Warmed39 U.vm ∧ U.heap = h0) (fun _ _ _ _ _ => True) (fun _ U o U' => ∃ v L, o = .returned v ∧ (Fr n0 L ∧ Q v U'.heap) ∧ FrameEnd U o U' L rm.cells rm.slots)
section Base
variable {B : Bod} {l : Launch} {rm : Room} {bytes : ByteArray} {own nm : String} {maxL : Nat} {ret : Option FieldType} {Z : State} {n0 : Nat} {Q : Option Value → Heap → Prop} {h : Heap} {k n pc pc' : Nat} {L L' : Array Slot} {st st' : List Value} {a0 : Array Value}
theorem met_of {y : MethodName} {as' : Array Value} (hp : plainFor y = true) {L0 : Array Slot} (hL : argsToLocals as' maxL = L0) (go : ∀ B : Bod, Ctx B l rm bytes y.cls y.name maxL ret Z → Go B n0 Q h 0 0 0 L0 []) : Met1 l Z y bytes maxL ret rm n0 as' h Q := by
  intro ws
  refine MetFree.of_bodySF hp hisR ?_
  intro p e s m args below meth c s₁ Bd hml0 hP hK
  obtain ⟨rfl, hZ, hh⟩ := hP
  subst hL
  obtain ⟨t, o, h1, h2, h3, v, L, h4, h5, h6⟩ := go (p, l, e, rm, s, m, args, below, meth, c) ⟨rfl, rfl, Bd.exec, Bd.bytes, hZ, findClass_of_methodNamed Bd.named, (name_of_methodNamed Bd.named Bd.method).1, hml0, Bd.returns, BodyLoose.notSynchronized Bd⟩ s₁ [] (Stand.of_body Bd) (Fr.nil n0) (by rw [← hh, Bd.state]; rfl)
  exact ⟨t, o, h1, h2, h3, v, L, h4, h5, h6⟩
/-- a step that moves the frame alone -/
theorem Go.step (f : ∀ T locs, St B T locs k n → T.heap = h → ∀ t, Steps B.p.tables B.e B.below (T.setTop (mkF B.m pc' L' st')) t → Steps B.p.tables B.e B.below (T.setTop (mkF B.m pc L st)) t) (go : Go B n0 Q h k n pc' L' st') : Go B n0 Q h k n pc L st := fun T locs X N eT => by
  obtain ⟨t, o, a, r⟩ := go T locs X N eT
  exact ⟨t, o, f T locs X eT t a, r⟩
/-- a step that moves the tables too -/
theorem Go.move (f : ∀ T locs, St B T locs k n → T.heap = h → ∃ T', St B T' locs k n ∧ T'.heap = h ∧ ∀ t, Steps B.p.tables B.e B.below (T'.setTop (mkF B.m pc' L' st')) t → Steps B.p.tables B.e B.below (T.setTop (mkF B.m pc L st)) t) (go : Go B n0 Q h k n pc' L' st') : Go B n0 Q h k n pc L st := fun T locs X N eT => by
  obtain ⟨T', X', e', f'⟩ := f T locs X eT
  obtain ⟨t, o, a, r⟩ := go T' locs X' N e'
  exact ⟨t, o, f' t a, r⟩
theorem Go.eqs {st2 : List Value} (go : Go B n0 Q h k n pc L st2) (e : st = st2) : Go B n0 Q h k n pc L st := e ▸ go
theorem Go.eqh {h2 : Heap} (go : Go B n0 Q h2 k n pc L st) (e : h = h2) : Go B n0 Q h k n pc L st := e ▸ go
theorem g_iload_n (C : Ctx B l rm bytes own nm maxL ret Z) {i : Fin 4} {v : Int32} (hd : decode bytes pc = .ok (.iload_n i, 1)) (hl : L[i.val]? = some (.val (.int v))) (hpc : pc + 1 = pc') (go : Go B n0 Q h k n pc' L (.int v :: st)) : Go B n0 Q h k n pc L st := go.step fun T locs X eT t q => Jvm.Free.XS.iloadN X.here C.2.2.1 rfl (hb C.2.2.2.1 hd) hl (by subst hpc; exact q)
theorem g_iload (C : Ctx B l rm bytes own nm maxL ret Z) {i : Nat} {v : Int32} (hd : decode bytes pc = .ok (.iload i, 2)) (hl : L[i]? = some (.val (.int v))) (hpc : pc + 2 = pc') (go : Go B n0 Q h k n pc' L (.int v :: st)) : Go B n0 Q h k n pc L st := go.step fun T locs X eT t q => Jvm.Free.XS.iload X.here C.2.2.1 rfl (hb C.2.2.2.1 hd) hl (by subst hpc; exact q)
theorem g_lload_n (C : Ctx B l rm bytes own nm maxL ret Z) {i : Fin 4} {v : Int64} (hd : decode bytes pc = .ok (.lload_n i, 1)) (hl : L[i.val]? = some (.val (.long v))) (hpc : pc + 1 = pc') (go : Go B n0 Q h k n pc' L (.long v :: st)) : Go B n0 Q h k n pc L st := go.step fun T locs X eT t q => Jvm.Free.XT.lloadN X.here C.2.2.1 rfl (hb C.2.2.2.1 hd) hl (by subst hpc; exact q)
theorem g_lload (C : Ctx B l rm bytes own nm maxL ret Z) {i : Nat} {v : Int64} (hd : decode bytes pc = .ok (.lload i, 2)) (hl : L[i]? = some (.val (.long v))) (hpc : pc + 2 = pc') (go : Go B n0 Q h k n pc' L (.long v :: st)) : Go B n0 Q h k n pc L st := go.step fun T locs X eT t q => Jvm.Free.XT.lload X.here C.2.2.1 rfl (hb C.2.2.2.1 hd) hl (by subst hpc; exact q)
theorem g_aload_n (C : Ctx B l rm bytes own nm maxL ret Z) {i : Fin 4} {v : Value} (hd : decode bytes pc = .ok (.aload_n i, 1)) (hl : L[i.val]? = some (.val v)) (hv : v.isRef = true) (hpc : pc + 1 = pc') (go : Go B n0 Q h k n pc' L (v :: st)) : Go B n0 Q h k n pc L st := go.step fun T locs X eT t q => Jvm.Free.XS.aloadN X.here C.2.2.1 rfl (hb C.2.2.2.1 hd) hl hv (by subst hpc; exact q)
theorem g_aload (C : Ctx B l rm bytes own nm maxL ret Z) {i : Nat} {v : Value} (hd : decode bytes pc = .ok (.aload i, 2)) (hl : L[i]? = some (.val v)) (hv : v.isRef = true) (hpc : pc + 2 = pc') (go : Go B n0 Q h k n pc' L (v :: st)) : Go B n0 Q h k n pc L st := go.step fun T locs X eT t q => Jvm.Free.XS.aload X.here C.2.2.1 rfl (hb C.2.2.2.1 hd) hl hv (by subst hpc; exact q)
theorem g_istore_n (C : Ctx B l rm bytes own nm maxL ret Z) {i : Fin 4} {v : Int32} (hd : decode bytes pc = .ok (.istore_n i, 1)) (hl : storeLocals L i.val (.int v) = some L') (hpc : pc + 1 = pc') (go : Go B n0 Q h k n pc' L' st) : Go B n0 Q h k n pc L (.int v :: st) := go.step fun T locs X eT t q => Jvm.Free.XS.istoreN X.here C.2.2.1 rfl (hb C.2.2.2.1 hd) rfl hl (by subst hpc; exact q)
theorem g_istore (C : Ctx B l rm bytes own nm maxL ret Z) {i : Nat} {v : Int32} (hd : decode bytes pc = .ok (.istore i, 2)) (hl : storeLocals L i (.int v) = some L') (hpc : pc + 2 = pc') (go : Go B n0 Q h k n pc' L' st) : Go B n0 Q h k n pc L (.int v :: st) := go.step fun T locs X eT t q => Jvm.Free.XS.istore X.here C.2.2.1 rfl (hb C.2.2.2.1 hd) rfl hl (by subst hpc; exact q)
theorem g_lstore_n (C : Ctx B l rm bytes own nm maxL ret Z) {i : Fin 4} {v : Int64} (hd : decode bytes pc = .ok (.lstore_n i, 1)) (hl : storeLocals L i.val (.long v) = some L') (hpc : pc + 1 = pc') (go : Go B n0 Q h k n pc' L' st) : Go B n0 Q h k n pc L (.long v :: st) := go.step fun T locs X eT t q => Jvm.Free.XT.lstoreN X.here C.2.2.1 rfl (hb C.2.2.2.1 hd) rfl hl (by subst hpc; exact q)
theorem g_lstore (C : Ctx B l rm bytes own nm maxL ret Z) {i : Nat} {v : Int64} (hd : decode bytes pc = .ok (.lstore i, 2)) (hl : storeLocals L i (.long v) = some L') (hpc : pc + 2 = pc') (go : Go B n0 Q h k n pc' L' st) : Go B n0 Q h k n pc L (.long v :: st) := go.step fun T locs X eT t q => Jvm.Free.XT.lstore X.here C.2.2.1 rfl (hb C.2.2.2.1 hd) rfl hl (by subst hpc; exact q)
theorem g_astore_n (C : Ctx B l rm bytes own nm maxL ret Z) {i : Fin 4} {v : Value} (hd : decode bytes pc = .ok (.astore_n i, 1)) (hl : storeLocals L i.val v = some L') (hv : v.isRef = true) (hpc : pc + 1 = pc') (go : Go B n0 Q h k n pc' L' st) : Go B n0 Q h k n pc L (v :: st) := go.step fun T locs X eT t q => Jvm.Free.XS.astoreN X.here C.2.2.1 rfl (hb C.2.2.2.1 hd) rfl hv hl (by subst hpc; exact q)
theorem g_astore (C : Ctx B l rm bytes own nm maxL ret Z) {i : Nat} {v : Value} (hd : decode bytes pc = .ok (.astore i, 2)) (hl : storeLocals L i v = some L') (hv : v.isRef = true) (hpc : pc + 2 = pc') (go : Go B n0 Q h k n pc' L' st) : Go B n0 Q h k n pc L (v :: st) := go.step fun T locs X eT t q => Jvm.Free.XS.astore X.here C.2.2.1 rfl (hb C.2.2.2.1 hd) rfl hv hl (by subst hpc; exact q)
theorem g_iinc (C : Ctx B l rm bytes own nm maxL ret Z) {i : Nat} {z : Int} {v w : Int32} (hd : decode bytes pc = .ok (.iinc i z, 3)) (hl : L[i]? = some (.val (.int v))) (hw : v + Int32.ofInt z = w) (hl' : storeLocals L i (.int w) = some L') (hpc : pc + 3 = pc') (go : Go B n0 Q h k n pc' L' st) : Go B n0 Q h k n pc L st := go.step fun T locs X eT t q => Jvm.Free.XS.iinc X.here C.2.2.1 rfl (hb C.2.2.2.1 hd) hl (by rw [hw]; exact hl') (by subst hpc; exact q)
theorem g_iconst (C : Ctx B l rm bytes own nm maxL ret Z) {z : Int} {v : Int32} (hd : decode bytes pc = .ok (.iconst z, 1)) (hv : Int32.ofInt z = v) (hpc : pc + 1 = pc') (go : Go B n0 Q h k n pc' L (.int v :: st)) : Go B n0 Q h k n pc L st := go.step fun T locs X eT t q => Jvm.Free.XS.iconst X.here C.2.2.1 rfl (hb C.2.2.2.1 hd) (by subst hpc hv; exact q)
theorem g_bipush (C : Ctx B l rm bytes own nm maxL ret Z) {z : Int} {v : Int32} (hd : decode bytes pc = .ok (.bipush z, 2)) (hv : (Int8.ofInt z).toInt32 = v) (hpc : pc + 2 = pc') (go : Go B n0 Q h k n pc' L (.int v :: st)) : Go B n0 Q h k n pc L st := go.step fun T locs X eT t q => Jvm.Free.XS.bipush X.here C.2.2.1 rfl (hb C.2.2.2.1 hd) (by subst hpc hv; exact q)
theorem g_lconst (C : Ctx B l rm bytes own nm maxL ret Z) {i : Fin 2} {v : Int64} (hd : decode bytes pc = .ok (.lconst i, 1)) (hv : Int64.ofNat i = v) (hpc : pc + 1 = pc') (go : Go B n0 Q h k n pc' L (.long v :: st)) : Go B n0 Q h k n pc L st := go.step fun T locs X eT t q => Jvm.Free.XT.lconst X.here C.2.2.1 rfl (hb C.2.2.2.1 hd) (by subst hpc hv; exact q)
theorem g_aconst_null (C : Ctx B l rm bytes own nm maxL ret Z)  (hd : decode bytes pc = .ok (.aconst_null, 1))  (hpc : pc + 1 = pc') (go : Go B n0 Q h k n pc' L (.null :: st)) : Go B n0 Q h k n pc L st := go.step fun T locs X eT t q => Jvm.Free.XS.aconstNull X.here C.2.2.1 rfl (hb C.2.2.2.1 hd)  (by subst hpc; exact q)
theorem g_iadd (C : Ctx B l rm bytes own nm maxL ret Z) {x y : Int32} (hd : decode bytes pc = .ok (.iadd, 1))  (hpc : pc + 1 = pc') (go : Go B n0 Q h k n pc' L (.int (x + y) :: st)) : Go B n0 Q h k n pc L (.int y :: .int x :: st) := go.step fun T locs X eT t q => Jvm.Free.XS.iadd X.here C.2.2.1 rfl (hb C.2.2.2.1 hd) rfl (by subst hpc; exact q)
theorem g_isub (C : Ctx B l rm bytes own nm maxL ret Z) {x y : Int32} (hd : decode bytes pc = .ok (.isub, 1))  (hpc : pc + 1 = pc') (go : Go B n0 Q h k n pc' L (.int (x - y) :: st)) : Go B n0 Q h k n pc L (.int y :: .int x :: st) := go.step fun T locs X eT t q => Jvm.Free.XS.isub X.here C.2.2.1 rfl (hb C.2.2.2.1 hd) rfl (by subst hpc; exact q)
theorem g_iand (C : Ctx B l rm bytes own nm maxL ret Z) {x y : Int32} (hd : decode bytes pc = .ok (.iand, 1))  (hpc : pc + 1 = pc') (go : Go B n0 Q h k n pc' L (.int (x &&& y) :: st)) : Go B n0 Q h k n pc L (.int y :: .int x :: st) := go.step fun T locs X eT t q => Jvm.Free.XS.iand X.here C.2.2.1 rfl (hb C.2.2.2.1 hd) rfl (by subst hpc; exact q)
theorem g_imul (C : Ctx B l rm bytes own nm maxL ret Z) {x y : Int32} (hd : decode bytes pc = .ok (.imul, 1))  (hpc : pc + 1 = pc') (go : Go B n0 Q h k n pc' L (.int (x * y) :: st)) : Go B n0 Q h k n pc L (.int y :: .int x :: st) := go.step fun T locs X eT t q => Jvm.Free.XS.imul X.here C.2.2.1 rfl (hb C.2.2.2.1 hd) rfl (by subst hpc; exact q)
theorem g_ixor (C : Ctx B l rm bytes own nm maxL ret Z) {x y : Int32} (hd : decode bytes pc = .ok (.ixor, 1))  (hpc : pc + 1 = pc') (go : Go B n0 Q h k n pc' L (.int (x ^^^ y) :: st)) : Go B n0 Q h k n pc L (.int y :: .int x :: st) := go.step fun T locs X eT t q => Jvm.Free.XT.ixor X.here C.2.2.1 rfl (hb C.2.2.2.1 hd) rfl (by subst hpc; exact q)
theorem g_ior (C : Ctx B l rm bytes own nm maxL ret Z) {x y : Int32} (hd : decode bytes pc = .ok (.ior, 1))  (hpc : pc + 1 = pc') (go : Go B n0 Q h k n pc' L (.int (x ||| y) :: st)) : Go B n0 Q h k n pc L (.int y :: .int x :: st) := go.step fun T locs X eT t q => Jvm.Free.XT.ior X.here C.2.2.1 rfl (hb C.2.2.2.1 hd) rfl (by subst hpc; exact q)
theorem g_ishl (C : Ctx B l rm bytes own nm maxL ret Z) {x y : Int32} (hd : decode bytes pc = .ok (.ishl, 1))  (hpc : pc + 1 = pc') (go : Go B n0 Q h k n pc' L (.int (x <<< (y &&& 31)) :: st)) : Go B n0 Q h k n pc L (.int y :: .int x :: st) := go.step fun T locs X eT t q => Jvm.Free.XT.ishl X.here C.2.2.1 rfl (hb C.2.2.2.1 hd) rfl (by subst hpc; exact q)
theorem g_ishr (C : Ctx B l rm bytes own nm maxL ret Z) {x y : Int32} (hd : decode bytes pc = .ok (.ishr, 1))  (hpc : pc + 1 = pc') (go : Go B n0 Q h k n pc' L (.int (x >>> (y &&& 31)) :: st)) : Go B n0 Q h k n pc L (.int y :: .int x :: st) := go.step fun T locs X eT t q => Jvm.Free.XT.ishr X.here C.2.2.1 rfl (hb C.2.2.2.1 hd) rfl (by subst hpc; exact q)
theorem g_iushr (C : Ctx B l rm bytes own nm maxL ret Z) {x y : Int32} (hd : decode bytes pc = .ok (.iushr, 1))  (hpc : pc + 1 = pc') (go : Go B n0 Q h k n pc' L (.int (Jvm.Free.XT.ushr x y) :: st)) : Go B n0 Q h k n pc L (.int y :: .int x :: st) := go.step fun T locs X eT t q => Jvm.Free.XT.iushr X.here C.2.2.1 rfl (hb C.2.2.2.1 hd) rfl (by subst hpc; exact q)
theorem g_idiv (C : Ctx B l rm bytes own nm maxL ret Z) {x y : Int32} (hd : decode bytes pc = .ok (.idiv, 1)) (hy : y ≠ 0) (hpc : pc + 1 = pc') (go : Go B n0 Q h k n pc' L (.int (x / y) :: st)) : Go B n0 Q h k n pc L (.int y :: .int x :: st) := go.step fun T locs X eT t q => Jvm.Free.XS.idiv X.here C.2.2.1 rfl (hb C.2.2.2.1 hd) rfl hy (by subst hpc; exact q)
theorem g_irem (C : Ctx B l rm bytes own nm maxL ret Z) {x y : Int32} (hd : decode bytes pc = .ok (.irem, 1)) (hy : y ≠ 0) (hpc : pc + 1 = pc') (go : Go B n0 Q h k n pc' L (.int (x - (x / y) * y) :: st)) : Go B n0 Q h k n pc L (.int y :: .int x :: st) := go.step fun T locs X eT t q => Jvm.Free.XS.irem X.here C.2.2.1 rfl (hb C.2.2.2.1 hd) rfl hy (by subst hpc; exact q)
theorem g_ineg (C : Ctx B l rm bytes own nm maxL ret Z) {x : Int32} (hd : decode bytes pc = .ok (.ineg, 1))  (hpc : pc + 1 = pc') (go : Go B n0 Q h k n pc' L (.int (-x) :: st)) : Go B n0 Q h k n pc L (.int x :: st) := go.step fun T locs X eT t q => Jvm.Free.XS.ineg X.here C.2.2.1 rfl (hb C.2.2.2.1 hd) rfl (by subst hpc; exact q)
theorem g_ladd (C : Ctx B l rm bytes own nm maxL ret Z) {x y : Int64} (hd : decode bytes pc = .ok (.ladd, 1))  (hpc : pc + 1 = pc') (go : Go B n0 Q h k n pc' L (.long (x + y) :: st)) : Go B n0 Q h k n pc L (.long y :: .long x :: st) := go.step fun T locs X eT t q => Jvm.Free.XT.ladd X.here C.2.2.1 rfl (hb C.2.2.2.1 hd) rfl (by subst hpc; exact q)
theorem g_lsub (C : Ctx B l rm bytes own nm maxL ret Z) {x y : Int64} (hd : decode bytes pc = .ok (.lsub, 1))  (hpc : pc + 1 = pc') (go : Go B n0 Q h k n pc' L (.long (x - y) :: st)) : Go B n0 Q h k n pc L (.long y :: .long x :: st) := go.step fun T locs X eT t q => Jvm.Free.XT.lsub X.here C.2.2.1 rfl (hb C.2.2.2.1 hd) rfl (by subst hpc; exact q)
theorem g_lmul (C : Ctx B l rm bytes own nm maxL ret Z) {x y : Int64} (hd : decode bytes pc = .ok (.lmul, 1))  (hpc : pc + 1 = pc') (go : Go B n0 Q h k n pc' L (.long (x * y) :: st)) : Go B n0 Q h k n pc L (.long y :: .long x :: st) := go.step fun T locs X eT t q => Jvm.Free.XT.lmul X.here C.2.2.1 rfl (hb C.2.2.2.1 hd) rfl (by subst hpc; exact q)
theorem g_land (C : Ctx B l rm bytes own nm maxL ret Z) {x y : Int64} (hd : decode bytes pc = .ok (.land, 1))  (hpc : pc + 1 = pc') (go : Go B n0 Q h k n pc' L (.long (x &&& y) :: st)) : Go B n0 Q h k n pc L (.long y :: .long x :: st) := go.step fun T locs X eT t q => Jvm.Free.XT.land X.here C.2.2.1 rfl (hb C.2.2.2.1 hd) rfl (by subst hpc; exact q)
theorem g_lor (C : Ctx B l rm bytes own nm maxL ret Z) {x y : Int64} (hd : decode bytes pc = .ok (.lor, 1))  (hpc : pc + 1 = pc') (go : Go B n0 Q h k n pc' L (.long (x ||| y) :: st)) : Go B n0 Q h k n pc L (.long y :: .long x :: st) := go.step fun T locs X eT t q => Jvm.Free.XT.lor X.here C.2.2.1 rfl (hb C.2.2.2.1 hd) rfl (by subst hpc; exact q)
theorem g_lxor (C : Ctx B l rm bytes own nm maxL ret Z) {x y : Int64} (hd : decode bytes pc = .ok (.lxor, 1))  (hpc : pc + 1 = pc') (go : Go B n0 Q h k n pc' L (.long (x ^^^ y) :: st)) : Go B n0 Q h k n pc L (.long y :: .long x :: st) := go.step fun T locs X eT t q => Jvm.Free.XT.lxor X.here C.2.2.1 rfl (hb C.2.2.2.1 hd) rfl (by subst hpc; exact q)
theorem g_ldiv (C : Ctx B l rm bytes own nm maxL ret Z) {x y : Int64} (hd : decode bytes pc = .ok (.ldiv, 1)) (hy : y ≠ 0) (hpc : pc + 1 = pc') (go : Go B n0 Q h k n pc' L (.long (x / y) :: st)) : Go B n0 Q h k n pc L (.long y :: .long x :: st) := go.step fun T locs X eT t q => Jvm.Free.XT.ldiv X.here C.2.2.1 rfl (hb C.2.2.2.1 hd) rfl hy (by subst hpc; exact q)
theorem g_lrem (C : Ctx B l rm bytes own nm maxL ret Z) {x y : Int64} (hd : decode bytes pc = .ok (.lrem, 1)) (hy : y ≠ 0) (hpc : pc + 1 = pc') (go : Go B n0 Q h k n pc' L (.long (x - (x / y) * y) :: st)) : Go B n0 Q h k n pc L (.long y :: .long x :: st) := go.step fun T locs X eT t q => Jvm.Free.XT.lrem X.here C.2.2.1 rfl (hb C.2.2.2.1 hd) rfl hy (by subst hpc; exact q)
theorem g_lneg (C : Ctx B l rm bytes own nm maxL ret Z) {x : Int64} (hd : decode bytes pc = .ok (.lneg, 1))  (hpc : pc + 1 = pc') (go : Go B n0 Q h k n pc' L (.long (-x) :: st)) : Go B n0 Q h k n pc L (.long x :: st) := go.step fun T locs X eT t q => Jvm.Free.XT.lneg X.here C.2.2.1 rfl (hb C.2.2.2.1 hd) rfl (by subst hpc; exact q)
theorem g_lshl (C : Ctx B l rm bytes own nm maxL ret Z) {x : Int64} {y : Int32} (hd : decode bytes pc = .ok (.lshl, 1))  (hpc : pc + 1 = pc') (go : Go B n0 Q h k n pc' L (.long (x <<< (y.toInt64 &&& 63)) :: st)) : Go B n0 Q h k n pc L (.int y :: .long x :: st) := go.step fun T locs X eT t q => Jvm.Free.XT.lshl X.here C.2.2.1 rfl (hb C.2.2.2.1 hd) rfl (by subst hpc; exact q)
theorem g_lshr (C : Ctx B l rm bytes own nm maxL ret Z) {x : Int64} {y : Int32} (hd : decode bytes pc = .ok (.lshr, 1))  (hpc : pc + 1 = pc') (go : Go B n0 Q h k n pc' L (.long (x >>> (y.toInt64 &&& 63)) :: st)) : Go B n0 Q h k n pc L (.int y :: .long x :: st) := go.step fun T locs X eT t q => Jvm.Free.XT.lshr X.here C.2.2.1 rfl (hb C.2.2.2.1 hd) rfl (by subst hpc; exact q)
theorem g_lushr (C : Ctx B l rm bytes own nm maxL ret Z) {x : Int64} {y : Int32} (hd : decode bytes pc = .ok (.lushr, 1))  (hpc : pc + 1 = pc') (go : Go B n0 Q h k n pc' L (.long (Jvm.Free.XT.ushrL x y) :: st)) : Go B n0 Q h k n pc L (.int y :: .long x :: st) := go.step fun T locs X eT t q => Jvm.Free.XT.lushr X.here C.2.2.1 rfl (hb C.2.2.2.1 hd) rfl (by subst hpc; exact q)
theorem g_lcmp (C : Ctx B l rm bytes own nm maxL ret Z) {x y : Int64} (hd : decode bytes pc = .ok (.lcmp, 1))  (hpc : pc + 1 = pc') (go : Go B n0 Q h k n pc' L (.int (Jvm.Free.XT.cmpL x y) :: st)) : Go B n0 Q h k n pc L (.long y :: .long x :: st) := go.step fun T locs X eT t q => Jvm.Free.XT.lcmp X.here C.2.2.1 rfl (hb C.2.2.2.1 hd) rfl (by subst hpc; exact q)
theorem g_i2l (C : Ctx B l rm bytes own nm maxL ret Z) {x : Int32} (hd : decode bytes pc = .ok (.i2l, 1))  (hpc : pc + 1 = pc') (go : Go B n0 Q h k n pc' L (.long (x.toInt64) :: st)) : Go B n0 Q h k n pc L (.int x :: st) := go.step fun T locs X eT t q => Jvm.Free.XT.i2l X.here C.2.2.1 rfl (hb C.2.2.2.1 hd) rfl (by subst hpc; exact q)
theorem g_l2i (C : Ctx B l rm bytes own nm maxL ret Z) {x : Int64} (hd : decode bytes pc = .ok (.l2i, 1))  (hpc : pc + 1 = pc') (go : Go B n0 Q h k n pc' L (.int (x.toInt32) :: st)) : Go B n0 Q h k n pc L (.long x :: st) := go.step fun T locs X eT t q => Jvm.Free.XT.l2i X.here C.2.2.1 rfl (hb C.2.2.2.1 hd) rfl (by subst hpc; exact q)
theorem g_i2b (C : Ctx B l rm bytes own nm maxL ret Z) {x : Int32} (hd : decode bytes pc = .ok (.i2b, 1))  (hpc : pc + 1 = pc') (go : Go B n0 Q h k n pc' L (.int (x.toInt8.toInt32) :: st)) : Go B n0 Q h k n pc L (.int x :: st) := go.step fun T locs X eT t q => Jvm.Free.XT.i2b X.here C.2.2.1 rfl (hb C.2.2.2.1 hd) rfl (by subst hpc; exact q)
theorem g_i2c (C : Ctx B l rm bytes own nm maxL ret Z) {x : Int32} (hd : decode bytes pc = .ok (.i2c, 1))  (hpc : pc + 1 = pc') (go : Go B n0 Q h k n pc' L (.int (x.toUInt32.toUInt16.toUInt32.toInt32) :: st)) : Go B n0 Q h k n pc L (.int x :: st) := go.step fun T locs X eT t q => Jvm.Free.XT.i2c X.here C.2.2.1 rfl (hb C.2.2.2.1 hd) rfl (by subst hpc; exact q)
theorem g_i2s (C : Ctx B l rm bytes own nm maxL ret Z) {x : Int32} (hd : decode bytes pc = .ok (.i2s, 1))  (hpc : pc + 1 = pc') (go : Go B n0 Q h k n pc' L (.int (x.toInt16.toInt32) :: st)) : Go B n0 Q h k n pc L (.int x :: st) := go.step fun T locs X eT t q => Jvm.Free.XT.i2s X.here C.2.2.1 rfl (hb C.2.2.2.1 hd) rfl (by subst hpc; exact q)
theorem g_dup (C : Ctx B l rm bytes own nm maxL ret Z) {x : Value} (hd : decode bytes pc = .ok (.dup, 1)) (hc : x.category = 1) (hpc : pc + 1 = pc') (go : Go B n0 Q h k n pc' L (x :: x :: st)) : Go B n0 Q h k n pc L (x :: st) := go.step fun T locs X eT t q => Jvm.Free.XS.dup X.here C.2.2.1 rfl (hb C.2.2.2.1 hd) rfl hc (by subst hpc; exact q)
theorem g_pop (C : Ctx B l rm bytes own nm maxL ret Z) {x : Value} (hd : decode bytes pc = .ok (.pop, 1)) (hc : x.category = 1) (hpc : pc + 1 = pc') (go : Go B n0 Q h k n pc' L st) : Go B n0 Q h k n pc L (x :: st) := go.step fun T locs X eT t q => Jvm.Free.XT.pop X.here C.2.2.1 rfl (hb C.2.2.2.1 hd) rfl hc (by subst hpc; exact q)
theorem g_dup_x1 (C : Ctx B l rm bytes own nm maxL ret Z) {x y : Value} (hd : decode bytes pc = .ok (.dup_x1, 1)) (hc : x.category = 1) (hc' : y.category = 1) (hpc : pc + 1 = pc') (go : Go B n0 Q h k n pc' L (x :: y :: x :: st)) : Go B n0 Q h k n pc L (x :: y :: st) := go.step fun T locs X eT t q => Jvm.Free.XT.dupX1 X.here C.2.2.1 rfl (hb C.2.2.2.1 hd) rfl hc hc' (by subst hpc; exact q)
theorem g_dup2 (C : Ctx B l rm bytes own nm maxL ret Z) {x y : Value} (hd : decode bytes pc = .ok (.dup2, 1)) (hc : x.category = 1) (hc' : y.category = 1) (hpc : pc + 1 = pc') (go : Go B n0 Q h k n pc' L (x :: y :: x :: y :: st)) : Go B n0 Q h k n pc L (x :: y :: st) := go.step fun T locs X eT t q => Jvm.Free.XT.dup2 X.here C.2.2.1 rfl (hb C.2.2.2.1 hd) rfl hc hc' (by subst hpc; exact q)
theorem g_dup2L (C : Ctx B l rm bytes own nm maxL ret Z) {x : Int64} (hd : decode bytes pc = .ok (.dup2, 1))  (hpc : pc + 1 = pc') (go : Go B n0 Q h k n pc' L (.long x :: .long x :: st)) : Go B n0 Q h k n pc L (.long x :: st) := go.step fun T locs X eT t q => Jvm.Free.XT.dup2L X.here C.2.2.1 rfl (hb C.2.2.2.1 hd) rfl (by subst hpc; exact q)
theorem g_goto (C : Ctx B l rm bytes own nm maxL ret Z) {o : Int} (hd : decode bytes pc = .ok (.goto o, 3)) (ho : 0 ≤ (pc : Int) + o) (hp : ((pc : Int) + o).toNat = pc') (go : Go B n0 Q h k n pc' L st) : Go B n0 Q h k n pc L st := go.step fun T locs X eT t q => Jvm.Free.XS.goto X.here C.2.2.1 rfl rfl (hb C.2.2.2.1 hd) ho hp q
theorem g_if_y (C : Ctx B l rm bytes own nm maxL ret Z) {cd : ClassFile.Cond} {x : Int32} {o : Int} (hd : decode bytes pc = .ok (.ifCond cd o, 3)) (hc : ifCond.holds cd x = true) (ho : 0 ≤ (pc : Int) + o) (hp : ((pc : Int) + o).toNat = pc') (go : Go B n0 Q h k n pc' L st) : Go B n0 Q h k n pc L (.int x :: st) := go.step fun T locs X eT t q => Jvm.Free.XS.ifYes X.here C.2.2.1 rfl rfl (hb C.2.2.2.1 hd) rfl hc ho hp q
theorem g_if_n (C : Ctx B l rm bytes own nm maxL ret Z) {cd : ClassFile.Cond} {x : Int32} {o : Int} (hd : decode bytes pc = .ok (.ifCond cd o, 3)) (hc : ifCond.holds cd x = false) (hpc : pc + 3 = pc') (go : Go B n0 Q h k n pc' L st) : Go B n0 Q h k n pc L (.int x :: st) := go.step fun T locs X eT t q => Jvm.Free.XS.ifNo X.here C.2.2.1 rfl (hb C.2.2.2.1 hd) rfl hc (by subst hpc; exact q)
theorem g_icmp_y (C : Ctx B l rm bytes own nm maxL ret Z) {cd : ClassFile.Cond} {x y : Int32} {o : Int} (hd : decode bytes pc = .ok (.if_icmp cd o, 3)) (hc : if_icmp.holds cd x y = true) (ho : 0 ≤ (pc : Int) + o) (hp : ((pc : Int) + o).toNat = pc') (go : Go B n0 Q h k n pc' L st) : Go B n0 Q h k n pc L (.int y :: .int x :: st) := go.step fun T locs X eT t q => Jvm.Free.XS.icmpYes X.here C.2.2.1 rfl rfl (hb C.2.2.2.1 hd) rfl hc ho hp q
theorem g_icmp_n (C : Ctx B l rm bytes own nm maxL ret Z) {cd : ClassFile.Cond} {x y : Int32} {o : Int} (hd : decode bytes pc = .ok (.if_icmp cd o, 3)) (hc : if_icmp.holds cd x y = false) (hpc : pc + 3 = pc') (go : Go B n0 Q h k n pc' L st) : Go B n0 Q h k n pc L (.int y :: .int x :: st) := go.step fun T locs X eT t q => Jvm.Free.XS.icmpNo X.here C.2.2.1 rfl (hb C.2.2.2.1 hd) rfl hc (by subst hpc; exact q)
theorem g_acmp_y (C : Ctx B l rm bytes own nm maxL ret Z) {cd : ClassFile.ACond} {x y : Value} {o : Int} (hd : decode bytes pc = .ok (.if_acmp cd o, 3)) (hc1 : x.isRef = true) (hc2 : y.isRef = true) (hc : Jvm.Free.XT.acmp cd x y = true) (ho : 0 ≤ (pc : Int) + o) (hp : ((pc : Int) + o).toNat = pc') (go : Go B n0 Q h k n pc' L st) : Go B n0 Q h k n pc L (y :: x :: st) := go.step fun T locs X eT t q => Jvm.Free.XT.acmpYes X.here C.2.2.1 rfl rfl (hb C.2.2.2.1 hd) rfl hc1 hc2 hc ho hp q
theorem g_acmp_n (C : Ctx B l rm bytes own nm maxL ret Z) {cd : ClassFile.ACond} {x y : Value} {o : Int} (hd : decode bytes pc = .ok (.if_acmp cd o, 3)) (hc1 : x.isRef = true) (hc2 : y.isRef = true) (hc : Jvm.Free.XT.acmp cd x y = false) (hpc : pc + 3 = pc') (go : Go B n0 Q h k n pc' L st) : Go B n0 Q h k n pc L (y :: x :: st) := go.step fun T locs X eT t q => Jvm.Free.XT.acmpNo X.here C.2.2.1 rfl (hb C.2.2.2.1 hd) rfl hc1 hc2 hc (by subst hpc; exact q)
theorem g_ifnull_y (C : Ctx B l rm bytes own nm maxL ret Z) {o : Int} (hd : decode bytes pc = .ok (.ifnull o, 3)) (ho : 0 ≤ (pc : Int) + o) (hp : ((pc : Int) + o).toNat = pc') (go : Go B n0 Q h k n pc' L st) : Go B n0 Q h k n pc L (.null :: st) := go.step fun T locs X eT t q => Jvm.Free.XS.ifnullYes X.here C.2.2.1 rfl rfl (hb C.2.2.2.1 hd) rfl ho hp q
theorem g_ifnull_n (C : Ctx B l rm bytes own nm maxL ret Z) {o : Int} {b : Addr} (hd : decode bytes pc = .ok (.ifnull o, 3)) (hpc : pc + 3 = pc') (go : Go B n0 Q h k n pc' L st) : Go B n0 Q h k n pc L (.ref b :: st) := go.step fun T locs X eT t q => Jvm.Free.XS.ifnullNo X.here C.2.2.1 rfl (hb C.2.2.2.1 hd) rfl (by subst hpc; exact q)
theorem g_ifnonnull_y (C : Ctx B l rm bytes own nm maxL ret Z) {o : Int} {b : Addr} (hd : decode bytes pc = .ok (.ifnonnull o, 3)) (ho : 0 ≤ (pc : Int) + o) (hp : ((pc : Int) + o).toNat = pc') (go : Go B n0 Q h k n pc' L st) : Go B n0 Q h k n pc L (.ref b :: st) := go.step fun T locs X eT t q => Jvm.Free.XT.ifnonnullYes X.here C.2.2.1 rfl rfl (hb C.2.2.2.1 hd) rfl ho hp q
theorem g_ifnonnull_n (C : Ctx B l rm bytes own nm maxL ret Z) {o : Int} (hd : decode bytes pc = .ok (.ifnonnull o, 3)) (hpc : pc + 3 = pc') (go : Go B n0 Q h k n pc' L st) : Go B n0 Q h k n pc L (.null :: st) := go.step fun T locs X eT t q => Jvm.Free.XT.ifnonnullNo X.here C.2.2.1 rfl (hb C.2.2.2.1 hd) rfl (by subst hpc; exact q)
theorem g_ldc (C : Ctx B l rm bytes own nm maxL ret Z) {i : Nat} {v : Int32} (w : (Jvm.Cond.constant own i v).before a0 Z = true) (hd : decode bytes pc = .ok (.ldc i, 2)) (hpc : pc + 2 = pc') (go : Go B n0 Q h k n pc' L (.int v :: st)) : Go B n0 Q h k n pc L st := go.step fun T locs X eT t q => X.ldcInt C.2.2.1 C.2.2.2.2.2.1 (mvT C.2.2.2.2.1 w) (g := mkF B.m pc L st) rfl (hb C.2.2.2.1 hd) t (by subst hpc; exact q)
theorem g_ldc_w (C : Ctx B l rm bytes own nm maxL ret Z) {i : Nat} {v : Int32} (w : (Jvm.Cond.constant own i v).before a0 Z = true) (hd : decode bytes pc = .ok (.ldc_w i, 3)) (hpc : pc + 3 = pc') (go : Go B n0 Q h k n pc' L (.int v :: st)) : Go B n0 Q h k n pc L st := go.step fun T locs X eT t q => X.ldcwInt C.2.2.1 C.2.2.2.2.2.1 (mvT C.2.2.2.2.1 w) (g := mkF B.m pc L st) rfl (hb C.2.2.2.1 hd) t (by subst hpc; exact q)
theorem g_ldc2_w (C : Ctx B l rm bytes own nm maxL ret Z) {i : Nat} {v : Int64} (w : (Jvm.Cond.constantLong own i v).before a0 Z = true) (hd : decode bytes pc = .ok (.ldc2_w i, 3)) (hpc : pc + 3 = pc') (go : Go B n0 Q h k n pc' L (.long v :: st)) : Go B n0 Q h k n pc L st := go.step fun T locs X eT t q => X.ldc2Long C.2.2.1 C.2.2.2.2.2.1 (mvT C.2.2.2.2.1 w) (g := mkF B.m pc L st) rfl (hb C.2.2.2.1 hd) t (by subst hpc; exact q)
theorem g_getfield (C : Ctx B l rm bytes own nm maxL ret Z) {i : Nat} {R0 O fn d host : String} {a : Addr} {v : Value} (w : (Jvm.Cond.fieldLink own i R0 fn d).before a0 Z = true ∨ (Jvm.Cond.fieldLinkNest own i R0 fn d host).before a0 Z = true) (via : Via Z R0 O fn d) (F : Fld Z h a O fn d v) (hd : decode bytes pc = .ok (.getfield i, 3)) (hpc : pc + 3 = pc') (go : Go B n0 Q h k n pc' L (v :: st)) : Go B n0 Q h k n pc L (.ref a :: st) := go.move fun T locs X eT => by
  obtain ⟨T', X', e', f⟩ := getF X C.2.2.1 C.2.2.2.2.1 C.2.2.2.2.2.1 w via eT F (g := mkF B.m pc L (.ref a :: st)) rfl rfl (hb C.2.2.2.1 hd)
  subst hpc; exact ⟨T', X', e', f⟩
theorem g_getstatic (C : Ctx B l rm bytes own nm maxL ret Z) {i : Nat} {R0 O fn d host : String} {v : Value} (w : (Jvm.Cond.fieldLink own i R0 fn d).before a0 Z = true ∨ (Jvm.Cond.fieldLinkNest own i R0 fn d host).before a0 Z = true) (via : Via Z R0 O fn d) (F : Sta Z h O fn d v) (hd : decode bytes pc = .ok (.getstatic i, 3)) (hpc : pc + 3 = pc') (go : Go B n0 Q h k n pc' L (v :: st)) : Go B n0 Q h k n pc L st := go.move fun T locs X eT => by
  obtain ⟨T', X', e', f⟩ := getS2 X C.2.2.1 C.2.2.2.2.1 C.2.2.2.2.2.1 w via eT F (g := mkF B.m pc L st) rfl (hb C.2.2.2.1 hd)
  subst hpc; exact ⟨T', X', e', f⟩
theorem g_checkcast (C : Ctx B l rm bytes own nm maxL ret Z) {i : Nat} {K : String} {a : Addr} (w : (Jvm.Cond.classLink own i K).before a0 Z = true) (F : Ins Z h a K true) (hd : decode bytes pc = .ok (.checkcast i, 3)) (hpc : pc + 3 = pc') (go : Go B n0 Q h k n pc' L (.ref a :: st)) : Go B n0 Q h k n pc L (.ref a :: st) := go.move fun T locs X eT => by
  obtain ⟨T', X', e', f⟩ := castY X C.2.2.1 C.2.2.2.2.1 C.2.2.2.2.2.1 w eT F (g := mkF B.m pc L (.ref a :: st)) rfl rfl (hb C.2.2.2.1 hd)
  subst hpc; exact ⟨T', X', e', f⟩
theorem g_instanceof_y (C : Ctx B l rm bytes own nm maxL ret Z) {i : Nat} {K : String} {a : Addr} (w : (Jvm.Cond.classLink own i K).before a0 Z = true) (F : Ins Z h a K true) (hd : decode bytes pc = .ok (.instanceof i, 3)) (hpc : pc + 3 = pc') (go : Go B n0 Q h k n pc' L (.int 1 :: st)) : Go B n0 Q h k n pc L (.ref a :: st) := go.move fun T locs X eT => by
  obtain ⟨T', X', e', f⟩ := instY X C.2.2.1 C.2.2.2.2.1 C.2.2.2.2.2.1 w eT F (g := mkF B.m pc L (.ref a :: st)) rfl rfl (hb C.2.2.2.1 hd)
  subst hpc; exact ⟨T', X', e', f⟩
theorem g_instanceof_n (C : Ctx B l rm bytes own nm maxL ret Z) {i : Nat} {K K' : String} {a : Addr} (w : (Jvm.Cond.classLink own i K).before a0 Z = true) (E : Exa Z h a K') (F : ∃ c t, Z.vm.findClass K' = some c ∧ Z.vm.findClass K = some t ∧ Z.vm.assignable c t = false) (hd : decode bytes pc = .ok (.instanceof i, 3)) (hpc : pc + 3 = pc') (go : Go B n0 Q h k n pc' L (.int 0 :: st)) : Go B n0 Q h k n pc L (.ref a :: st) := go.move fun T locs X eT => by
  obtain ⟨T', X', e', f⟩ := instNo X C.2.2.1 C.2.2.2.2.1 C.2.2.2.2.2.1 w eT E F (g := mkF B.m pc L (.ref a :: st)) rfl rfl (hb C.2.2.2.1 hd)
  subst hpc; exact ⟨T', X', e', f⟩
theorem g_putfield (C : Ctx B l rm bytes own nm maxL ret Z) {i kk : Nat} {R0 O fn d host K : String} {ty : FieldType} {a : Addr} {v old : Value} (w : (Jvm.Cond.fieldLink own i R0 fn d).before a0 Z = true ∨ (Jvm.Cond.fieldLinkNest own i R0 fn d host).before a0 Z = true) (via : Via Z R0 O fn d) (F : Fld Z h a O fn d old) (E : Exa Z h a K) (Ly : (Jvm.Cond.lays K O fn d).before a0 Z = true ∨ ((Jvm.Cond.laysFinal K O fn d).before a0 Z = true ∧ own = O ∧ nm = "<init>")) (wi : (Jvm.Cond.instantiable K kk).before a0 Z = true) (hty : parseFieldDescriptor d = some ty) (hn : narrow ty v = v) (hf : fits ty v = true) (ge : n0 ≤ a) (hd : decode bytes pc = .ok (.putfield i, 3)) (hpc : pc + 3 = pc') (go : ∀ h', Wr h h' a (Jvm.RoadKit.slotOf Z O fn d) v → Go B n0 Q h' k n pc' L st) : Go B n0 Q h k n pc L (v :: .ref a :: st) := fun T locs X N eT => by
  obtain ⟨T', h', X', e', W, f⟩ := putF X C.2.2.1 C.2.2.2.2.1 C.2.2.2.2.2.1 w via eT F E (Ly.imp id fun q => ⟨q.1, q.2.1, by rw [C.2.2.2.2.2.2.1]; exact q.2.2⟩) wi hty hn hf (g := mkF B.m pc L (v :: .ref a :: st)) rfl rfl (hb C.2.2.2.1 hd)
  obtain ⟨t, o, q, r⟩ := go h' W T' _ X' (Fr.snoc X' N ge) e'
  subst hpc
  exact ⟨t, o, f t q, r⟩
theorem g_new (C : Ctx B l rm bytes own nm maxL ret Z) {i nn : Nat} {K : String} (w : (Jvm.Cond.classLink own i K).before a0 Z = true) (wi : (Jvm.Cond.instantiable K nn).before a0 Z = true) (wz : (Jvm.Cond.initialized K).before a0 Z = true) (hc : k + 1 ≤ rm.cells) (hl : n + nn ≤ rm.slots) (hd : decode bytes pc = .ok (.new i, 3)) (hpc : pc + 3 = pc') (go : ∀ h' a, a = h.size → Ext h h' → Exa Z h' a K → (∀ {O fn d : String} {ty : FieldType}, Laid Z a0 K O fn d → parseFieldDescriptor d = some ty → Fld Z h' a O fn d (defaultValue ty)) → Go B n0 Q h' (k + 1) (n + nn) pc' L (.ref a :: st)) : Go B n0 Q h k n pc L st := fun T locs X N eT => by
  obtain ⟨T', h', X', e', E, A, D, -, f⟩ := newO X C.2.2.1 C.2.2.2.2.1 C.2.2.2.2.2.1 w wi wz eT (g := mkF B.m pc L st) rfl (hb C.2.2.2.1 hd) (by rw [C.2.1]; exact hc) (by rw [C.2.1]; exact hl)
  obtain ⟨t, o, q, r⟩ := go h' _ rfl E A D T' _ X' N e'
  subst hpc
  exact ⟨t, o, f t q, r⟩
theorem g_initObj (C : Ctx B l rm bytes own nm maxL ret Z) {i : Nat} {a : Addr} (w1 : (Jvm.Cond.methodLink own i Lib.objectInit).before a0 Z = true) (w2 : (Jvm.Cond.instanceMethod Lib.objectInit).before a0 Z = true) (w3 : (Jvm.Cond.code Lib.objectInit ⟨#[0xb1]⟩ 1 none).before a0 Z = true) (hsz : L.size = maxL) (hf : 1 ≤ rm.frames) {W : Nat} (hW : (st.map fun v => v.category).sum ≤ W) (hl : W + 12 ≤ rm.locals) (hd : decode bytes pc = .ok (.invokespecial i, 3)) (hpc : pc + 3 = pc') (go : Go B n0 Q h k n pc' L st) : Go B n0 Q h k n pc L (.ref a :: st) := fun T locs X N eT => by
  obtain ⟨T', X', e', f⟩ := initO X C.2.2.1 C.2.2.2.2.1 C.2.2.2.2.2.1 w1 w2 w3 eT (g := mkF B.m pc L (.ref a :: st)) rfl (by rw [C.2.2.2.2.2.2.2.1]; exact hsz) rfl (hb C.2.2.2.1 hd) (by rw [C.2.1]; exact hf) (W := W) (by show 2 * 0 + _ ≤ _; omega) (by rw [C.2.1]; exact hl)
  obtain ⟨t, o, q, r⟩ := go T' _ X' N e'
  subst hpc
  exact ⟨t, o, f t q, r⟩
theorem g_static (C : Ctx B l rm bytes own nm maxL ret Z) {i : Nat} {y : MethodName} {b' : ByteArray} {mx : Nat} {rt : Option FieldType} {rm' : Room} {as' : Array Value} {Q' : Option Value → Heap → Prop} (w1 : (Jvm.Cond.methodLink own i y).before a0 Z = true) (w2 : (Jvm.Cond.static y).before a0 Z = true) (wz : (Jvm.Cond.initialized y.cls).before a0 Z = true) (wc : (Jvm.Cond.code y b' mx rt).before a0 Z = true) (hy : y.cls ≠ "java/lang/invoke/MethodHandle" ∧ y.cls ≠ "java/lang/invoke/VarHandle") (K : Met1 l Z y b' mx rt rm' n0 as' h Q') (argsL : List Value) {stk : List Value} (hst : stk = argsL.reverse ++ st) (has : as' = argsL.toArray) {ps : List FieldType} {r' : Option FieldType} (pd : parseMethodDescriptor y.desc = some ⟨ps, r'⟩) (hlen : argsL.length = ps.length) (hsz : L.size = maxL) (hf : rm'.frames + 1 ≤ rm.frames) {W : Nat} (hW : (st.map fun v => v.category).sum ≤ W) (hlo : W + (mx + 11) + rm'.locals ≤ rm.locals) (hc : k + rm'.cells ≤ rm.cells) (hs : n + rm'.slots ≤ rm.slots) (hd : decode bytes pc = .ok (.invokestatic i, 3)) (hpc : pc + 3 = pc') (go : ∀ v h', Q' v h' → Go B n0 Q h' (k + rm'.cells) (n + rm'.slots) pc' L (v.toList ++ st)) : Go B n0 Q h k n pc L stk := fun T locs X N eT => by
  subst hst has
  obtain ⟨v, _, ⟨T', L1, k1, n1⟩, -, X', ⟨L2, ⟨N', hq⟩, l1, l2, l3⟩, f⟩ := Jvm.LawKit.callS X C.2.2.1 (y := y) C.2.2.2.2.2.1 (mvT C.2.2.2.2.1 w1) (mvT C.2.2.2.2.1 w2) (mvT C.2.2.2.2.1 wz) (mvT C.2.2.2.2.1 wc) hy (backOf (W := W) (Q := fun v h L => Fr n0 L ∧ Q' v h) (C.1 ▸ K []) C.2.2.2.2.1 wc wz (by rw [C.2.1]; exact hf) (by rw [C.2.1]; exact hlo)) (g := mkF B.m pc L (argsL.reverse ++ st)) rfl (by rw [C.2.2.2.2.2.2.2.1]; exact hsz) (argsL := argsL) (rest := st) (lenOf pd hlen) rfl (by show 2 * 0 + _ ≤ _; omega) (hb C.2.2.2.1 hd) (fun _ _ => ⟨rfl, eT, by rw [C.2.1]; exact hc, by rw [C.2.1]; exact hs⟩)
  dsimp only [Pt.U, Pt.locs, Pt.cells, Pt.slots] at X' l1 l2 l3 f hq
  subst l1 l2 l3
  obtain ⟨t, o, q, r⟩ := go v _ hq T' _ X' (Fr.app N N') rfl
  subst hpc
  exact ⟨t, o, f t q, r⟩
theorem g_special (C : Ctx B l rm bytes own nm maxL ret Z) {i : Nat} {y : MethodName} {b' : ByteArray} {mx : Nat} {rm' : Room} {as' : Array Value} {Q' : Option Value → Heap → Prop} {a : Addr} (hy1 : y.name = "<init>") (w1 : (Jvm.Cond.methodLink own i y).before a0 Z = true) (w2 : (Jvm.Cond.instanceMethod y).before a0 Z = true) (wz : (Jvm.Cond.initialized y.cls).before a0 Z = true) (wc : (Jvm.Cond.code y b' mx none).before a0 Z = true) (hy : y.cls ≠ "java/lang/invoke/MethodHandle" ∧ y.cls ≠ "java/lang/invoke/VarHandle") (K : Met1 l Z y b' mx none rm' n0 as' h Q') (argsL : List Value) {stk : List Value} (hst : stk = argsL.reverse ++ .ref a :: st) (has : as' = (Value.ref a :: argsL).toArray) {ps : List FieldType} {r' : Option FieldType} (pd : parseMethodDescriptor y.desc = some ⟨ps, r'⟩) (hlen : argsL.length = ps.length) (hsz : L.size = maxL) (hf : rm'.frames + 1 ≤ rm.frames) {W : Nat} (hW : (st.map fun v => v.category).sum ≤ W) (hlo : W + (mx + 11) + rm'.locals ≤ rm.locals) (hc : k + rm'.cells ≤ rm.cells) (hs : n + rm'.slots ≤ rm.slots) (hd : decode bytes pc = .ok (.invokespecial i, 3)) (hpc : pc + 3 = pc') (go : ∀ v h', Q' v h' → Go B n0 Q h' (k + rm'.cells) (n + rm'.slots) pc' L (v.toList ++ st)) : Go B n0 Q h k n pc L stk := fun T locs X N eT => by
  subst hst has
  obtain ⟨v, _, ⟨T', L1, k1, n1⟩, -, X', ⟨L2, ⟨N', hq⟩, l1, l2, l3⟩, f⟩ := X.specialBack C.2.2.1 (y := y) hy1 C.2.2.2.2.2.1 (mvT C.2.2.2.2.1 w1) (mvT C.2.2.2.2.1 w2) (mvT C.2.2.2.2.1 wc) hy (backOf (W := W) (Q := fun v h L => Fr n0 L ∧ Q' v h) (C.1 ▸ K []) C.2.2.2.2.1 wc wz (by rw [C.2.1]; exact hf) (by rw [C.2.1]; exact hlo)) (g := mkF B.m pc L (argsL.reverse ++ .ref a :: st)) rfl (by rw [C.2.2.2.2.2.2.2.1]; exact hsz) (Steps.refl _) (a := a) (argsL := argsL) (rest := st) (lenOf pd hlen) rfl (by show 2 * 0 + _ ≤ _; omega) (hb C.2.2.2.1 hd) (fun _ _ => ⟨rfl, eT, by rw [C.2.1]; exact hc, by rw [C.2.1]; exact hs⟩)
  dsimp only [Pt.U, Pt.locs, Pt.cells, Pt.slots] at X' l1 l2 l3 f hq
  subst l1 l2 l3
  obtain ⟨t, o, q, r⟩ := go v _ hq T' _ X' (Fr.app N N') rfl
  subst hpc
  exact ⟨t, o, f.trans q, r⟩
theorem g_virtual (C : Ctx B l rm bytes own nm maxL ret Z) {i : Nat} {y : MethodName} {b' : ByteArray} {mx : Nat} {rt : Option FieldType} {rm' : Room} {as' : Array Value} {Q' : Option Value → Heap → Prop} {a : Addr} {K' : String} {y0 : MethodName} (w1 : (Jvm.Cond.methodLink own i y0).before a0 Z = true) (w2 : (Jvm.Cond.declares y0).before a0 Z = true) (w3 : (Jvm.Cond.selects K' y0 y).before a0 Z = true) (w4 : (Jvm.Cond.instanceMethod y).before a0 Z = true) (wz : (Jvm.Cond.initialized y.cls).before a0 Z = true) (wc : (Jvm.Cond.code y b' mx rt).before a0 Z = true) (nf : NotFace B.s y0) (hy : y0.cls ≠ "java/lang/invoke/MethodHandle" ∧ y0.cls ≠ "java/lang/invoke/VarHandle") (E : Exa Z h a K') (K : Met1 l Z y b' mx rt rm' n0 as' h Q') (argsL : List Value) {stk : List Value} (hst : stk = argsL.reverse ++ .ref a :: st) (has : as' = (Value.ref a :: argsL).toArray) {ps : List FieldType} {r' : Option FieldType} (pd : parseMethodDescriptor y0.desc = some ⟨ps, r'⟩) (hlen : argsL.length = ps.length) (hsz : L.size = maxL) (hf : rm'.frames + 1 ≤ rm.frames) {W : Nat} (hW : (st.map fun v => v.category).sum ≤ W) (hlo : W + (mx + 11) + rm'.locals ≤ rm.locals) (hc : k + rm'.cells ≤ rm.cells) (hs : n + rm'.slots ≤ rm.slots) (hd : decode bytes pc = .ok (.invokevirtual i, 3)) (hpc : pc + 3 = pc') (go : ∀ v h', Q' v h' → Go B n0 Q h' (k + rm'.cells) (n + rm'.slots) pc' L (v.toList ++ st)) : Go B n0 Q h k n pc L stk := fun T locs X N eT => by
  subst hst has
  obtain ⟨cq, kq, qa, qb, qc⟩ := isOf C.2.2.2.2.1 eT E
  obtain ⟨v, _, ⟨T', L1, k1, n1⟩, -, X', ⟨L2, ⟨N', hq⟩, l1, l2, l3⟩, f⟩ := X.virtualBack C.2.2.1 (y := y0) (z := y) C.2.2.2.2.2.1 (mvT C.2.2.2.2.1 w1) (mvT C.2.2.2.2.1 w2) nf (mvT C.2.2.2.2.1 w3) (mvT C.2.2.2.2.1 w4) hy (backOf (W := W) (Q := fun v h L => Fr n0 L ∧ Q' v h) (C.1 ▸ K []) C.2.2.2.2.1 wc wz (by rw [C.2.1]; exact hf) (by rw [C.2.1]; exact hlo)) qa qc (g := mkF B.m pc L (argsL.reverse ++ .ref a :: st)) rfl (by rw [C.2.2.2.2.2.2.2.1]; exact hsz) (Steps.refl _) (argsL := argsL) (rest := st) (lenOf pd hlen) rfl (by show 2 * 0 + _ ≤ _; omega) (hb C.2.2.2.1 hd) (fun _ _ => ⟨rfl, eT, by rw [C.2.1]; exact hc, by rw [C.2.1]; exact hs⟩)
  dsimp only [Pt.U, Pt.locs, Pt.cells, Pt.slots] at X' l1 l2 l3 f hq
  subst l1 l2 l3
  obtain ⟨t, o, q, r⟩ := go v _ hq T' _ X' (Fr.app N N') rfl
  subst hpc
  exact ⟨t, o, f.trans q, r⟩
theorem g_ret (C : Ctx B l rm bytes own nm maxL ret Z) {v : Value} {ty : FieldType} {i : Instr} (hret : ret = some ty) (hn : narrow ty v = v)
    (hi : (i = .ireturn ∧ (ty = .int ∨ ty = .boolean ∨ ty = .byte ∨ ty = .char ∨ ty = .short) ∧ ∃ z, v = .int z) ∨ (i = .lreturn ∧ ty = .long ∧ ∃ z, v = .long z) ∨ (i = .dreturn ∧ ty = .double ∧ ∃ z, v = .double z) ∨ (i = .freturn ∧ ty = .float ∧ ∃ z, v = .float z) ∨ (i = .areturn ∧ ty.isReference = true ∧ v.isRef = true))
    (hd : decode bytes pc = .ok (i, 1)) (hk : k ≤ rm.cells) (hs : n ≤ rm.slots) (go : Q (some v) h) : Go B n0 Q h k n pc L (v :: st) := fun T locs X N eT => by
  have hr0 : B.meth.sig.returnType = some ty := C.2.2.2.2.2.2.2.2.1.trans hret
  obtain ⟨fs, hr, hrun, hended, hW, hsame⟩ := X.leave (v := some v) (fun q => by rw [hr0] at q; cases q) C.2.2.2.2.2.2.2.2.2
  exact ⟨_, _, retOut X C.2.2.1 hr0 hn hi (hb C.2.2.2.1 hd) hr, hrun, hended, _, _, rfl, ⟨N, by show Q _ T.heap; rw [eT]; exact go⟩, ⟨_, rfl⟩, hW, hsame.mono (by rw [C.2.1]; exact hk) (by rw [C.2.1]; exact hs)⟩
theorem g_return (C : Ctx B l rm bytes own nm maxL ret Z) (hret : ret = none) (hd : decode bytes pc = .ok (.return_, 1)) (hk : k ≤ rm.cells) (hs : n ≤ rm.slots) (go : Q none h) : Go B n0 Q h k n pc L [] := fun T locs X N eT => by
  have hr0 : B.meth.sig.returnType = none := C.2.2.2.2.2.2.2.2.1.trans hret
  obtain ⟨fs, hr, hrun, hended, hW, hsame⟩ := X.leave (v := none) (fun _ => rfl) C.2.2.2.2.2.2.2.2.2
  exact ⟨_, _, X.returnOut C.2.2.1 hr0 (hb C.2.2.2.1 hd) hr, hrun, hended, _, _, rfl, ⟨N, by show Q _ T.heap; rw [eT]; exact go⟩, ⟨_, rfl⟩, hW, hsame.mono (by rw [C.2.1]; exact hk) (by rw [C.2.1]; exact hs)⟩
end Base
/-! arrays made on the road -/
section Arrays
variable {Z : State} {h h' : Heap} {a b : Addr} {ty : FieldType} {vs : List Value} {ws : List Addr} {sl : Nat} {v : Value} {K : String}
def Ary (Z : State) (h : Heap) (a : Addr) (ty : FieldType) (vs : List Value) : Prop := ∃ c : Cell, Arr Z h a c ty ∧ c.slots.toList = vs ∧ vs.length < 2 ^ 31
def AryR (Z : State) (h : Heap) (a : Addr) (K : String) (vs : List Value) : Prop := ∃ c : Cell, Arr Z h a c (.object K) ∧ Ovr Z c.cls K ∧ c.slots.toList = vs ∧ vs.length < 2 ^ 31
theorem AryR.ary (F : AryR Z h a K vs) : Ary Z h a (.object K) vs := by obtain ⟨c, A, -, r⟩ := F; exact ⟨c, A, r⟩
theorem Ary.lt (F : Ary Z h a ty vs) : a < h.size := by obtain ⟨c, A, -⟩ := F; exact A.lt
theorem AryR.lt (F : AryR Z h a K vs) : a < h.size := F.ary.lt
theorem Ary.ext (F : Ary Z h a ty vs) (E : Ext h h') : Ary Z h' a ty vs := by obtain ⟨c, A, r⟩ := F; exact ⟨c, A.ext E, r⟩
theorem AryR.ext (F : AryR Z h a K vs) (E : Ext h h') : AryR Z h' a K vs := by obtain ⟨c, A, r⟩ := F; exact ⟨c, A.ext E, r⟩
theorem Ary.keep (F : Ary Z h a ty vs) (K : Keep h h' ws) (q : a ∉ ws) : Ary Z h' a ty vs := by obtain ⟨c, A, r⟩ := F; exact ⟨c, ⟨K.2.1 a c A.1 q, A.2⟩, r⟩
theorem AryR.keep (F : AryR Z h a K vs) (Kp : Keep h h' ws) (q : a ∉ ws) : AryR Z h' a K vs := by obtain ⟨c, A, r⟩ := F; exact ⟨c, ⟨Kp.2.1 a c A.1 q, A.2⟩, r⟩
theorem set_list (c : Cell) (i : Nat) (v : Value) : (c.setSlot i v).slots.toList = c.slots.toList.set i v := by simp [Cell.setSlot]
theorem keep_ext (E : Ext h h') : Keep h h' [] := (Keep.refl h []).ext E
theorem ne_new {c : Nat} (q : a < c) (e : b = c) : a ≠ b := fun z => absurd q (by rw [z, e]; exact Nat.lt_irrefl _)
theorem ne_newL {c : Nat} (q : a < c) (e : b = c) : b ≠ a := fun z => absurd q (by rw [← z, e]; exact Nat.lt_irrefl _)
theorem ne_ge {c : Nat} (q : a < c) (e : c ≤ b) : a ≠ b := fun z => absurd q (Nat.not_lt.mpr (z ▸ e))
theorem nin1 (q : a ≠ b) : a ∉ [b] := ninS q nin0
theorem in_b {j : Int32} {c : Cell} {i : Nat} (h0 : ¬ j < 0) (hj : j.toNatClampNeg = i) (hi : i < c.slots.size) : ¬ (j < 0 ∨ c.slots.size ≤ j.toNatClampNeg) := fun q => q.elim h0 fun q => by omega
end Arrays
section ArraySteps
variable {B : Bod} {l : Launch} {rm : Room} {bytes : ByteArray} {own nm : String} {maxL : Nat} {ret : Option FieldType} {Z : State} {n0 : Nat} {Q : Option Value → Heap → Prop} {h : Heap} {k n pc pc' : Nat} {L L' : Array Slot} {st st' : List Value} {a0 : Array Value}
theorem g_iaload (C : Ctx B l rm bytes own nm maxL ret Z) {a : Addr} {vs : List Value} {j : Int32} {i : Nat} {v : Int32} (F : Ary Z h a .int vs) (h0 : ¬ j < 0) (hj : j.toNatClampNeg = i) (hv : vs[i]? = some (.int v)) (hd : decode bytes pc = .ok (.iaload, 1)) (hpc : pc + 1 = pc') (go : Go B n0 Q h k n pc' L (.int v :: st)) : Go B n0 Q h k n pc L (.int j :: .ref a :: st) := go.step fun T locs X eT t q => by
  obtain ⟨c, A, rfl, hl⟩ := F
  have hi := (List.getElem?_eq_some_iff.mp hv).1
  rw [Array.length_toList] at hi
  rw [Array.getElem?_toList, ← hj] at hv
  exact X.iaload C.2.2.1 (by rw [eT]; exact A.1) (State.isArrayOf_alike C.2.2.2.2.1.alike A.2.1)  A.2.2 (in_b h0 hj hi) hv (g := mkF B.m pc L (.int j :: .ref a :: st)) rfl rfl (hb C.2.2.2.1 hd) t (by subst hpc; exact q)
theorem g_laload (C : Ctx B l rm bytes own nm maxL ret Z) {a : Addr} {vs : List Value} {j : Int32} {i : Nat} {v : Int64} (F : Ary Z h a .long vs) (h0 : ¬ j < 0) (hj : j.toNatClampNeg = i) (hv : vs[i]? = some (.long v)) (hd : decode bytes pc = .ok (.laload, 1)) (hpc : pc + 1 = pc') (go : Go B n0 Q h k n pc' L (.long v :: st)) : Go B n0 Q h k n pc L (.int j :: .ref a :: st) := go.step fun T locs X eT t q => by
  obtain ⟨c, A, rfl, hl⟩ := F
  have hi := (List.getElem?_eq_some_iff.mp hv).1
  rw [Array.length_toList] at hi
  rw [Array.getElem?_toList, ← hj] at hv
  exact X.laload C.2.2.1 (by rw [eT]; exact A.1) (State.isArrayOf_alike C.2.2.2.2.1.alike A.2.1)  A.2.2 (in_b h0 hj hi) hv (g := mkF B.m pc L (.int j :: .ref a :: st)) rfl rfl (hb C.2.2.2.1 hd) t (by subst hpc; exact q)
theorem g_caload (C : Ctx B l rm bytes own nm maxL ret Z) {a : Addr} {vs : List Value} {j : Int32} {i : Nat} {v : Int32} (F : Ary Z h a .char vs) (h0 : ¬ j < 0) (hj : j.toNatClampNeg = i) (hv : vs[i]? = some (.int v)) (hd : decode bytes pc = .ok (.caload, 1)) (hpc : pc + 1 = pc') (go : Go B n0 Q h k n pc' L (.int v :: st)) : Go B n0 Q h k n pc L (.int j :: .ref a :: st) := go.step fun T locs X eT t q => by
  obtain ⟨c, A, rfl, hl⟩ := F
  have hi := (List.getElem?_eq_some_iff.mp hv).1
  rw [Array.length_toList] at hi
  rw [Array.getElem?_toList, ← hj] at hv
  exact X.caload C.2.2.1 (by rw [eT]; exact A.1) (State.isArrayOf_alike C.2.2.2.2.1.alike A.2.1)  A.2.2 (in_b h0 hj hi) hv (g := mkF B.m pc L (.int j :: .ref a :: st)) rfl rfl (hb C.2.2.2.1 hd) t (by subst hpc; exact q)
theorem g_baloadB (C : Ctx B l rm bytes own nm maxL ret Z) {a : Addr} {vs : List Value} {j : Int32} {i : Nat} {v : Int32} (F : Ary Z h a .byte vs) (h0 : ¬ j < 0) (hj : j.toNatClampNeg = i) (hv : vs[i]? = some (.int v)) (hd : decode bytes pc = .ok (.baload, 1)) (hpc : pc + 1 = pc') (go : Go B n0 Q h k n pc' L (.int v :: st)) : Go B n0 Q h k n pc L (.int j :: .ref a :: st) := go.step fun T locs X eT t q => by
  obtain ⟨c, A, rfl, hl⟩ := F
  have hi := (List.getElem?_eq_some_iff.mp hv).1
  rw [Array.length_toList] at hi
  rw [Array.getElem?_toList, ← hj] at hv
  exact X.baloadBytes C.2.2.1 (by rw [eT]; exact A.1) (State.isArrayOf_alike C.2.2.2.2.1.alike A.2.1)  A.2.2 (in_b h0 hj hi) hv (g := mkF B.m pc L (.int j :: .ref a :: st)) rfl rfl (hb C.2.2.2.1 hd) t (by subst hpc; exact q)
theorem g_baloadZ (C : Ctx B l rm bytes own nm maxL ret Z) {a : Addr} {vs : List Value} {j : Int32} {i : Nat} {v : Int32} (F : Ary Z h a .boolean vs) (h0 : ¬ j < 0) (hj : j.toNatClampNeg = i) (hv : vs[i]? = some (.int v)) (hd : decode bytes pc = .ok (.baload, 1)) (hpc : pc + 1 = pc') (go : Go B n0 Q h k n pc' L (.int v :: st)) : Go B n0 Q h k n pc L (.int j :: .ref a :: st) := go.step fun T locs X eT t q => by
  obtain ⟨c, A, rfl, hl⟩ := F
  have hi := (List.getElem?_eq_some_iff.mp hv).1
  rw [Array.length_toList] at hi
  rw [Array.getElem?_toList, ← hj] at hv
  exact X.baloadBooleans C.2.2.1 (by rw [eT]; exact A.1) (State.isArrayOf_alike C.2.2.2.2.1.alike A.2.1)  A.2.2 (in_b h0 hj hi) hv (g := mkF B.m pc L (.int j :: .ref a :: st)) rfl rfl (hb C.2.2.2.1 hd) t (by subst hpc; exact q)
theorem g_aaload (C : Ctx B l rm bytes own nm maxL ret Z) {a : Addr} {vs : List Value} {j : Int32} {i : Nat} {v : Value} {ty : FieldType} (F : Ary Z h a ty vs) (hty : ty.isReference = true) (h0 : ¬ j < 0) (hj : j.toNatClampNeg = i) (hv : vs[i]? = some v) (hd : decode bytes pc = .ok (.aaload, 1)) (hpc : pc + 1 = pc') (go : Go B n0 Q h k n pc' L (v :: st)) : Go B n0 Q h k n pc L (.int j :: .ref a :: st) := go.step fun T locs X eT t q => by
  obtain ⟨c, A, rfl, hl⟩ := F
  have hi := (List.getElem?_eq_some_iff.mp hv).1
  rw [Array.length_toList] at hi
  rw [Array.getElem?_toList, ← hj] at hv
  exact X.aaload C.2.2.1 (by rw [eT]; exact A.1) (State.isArrayOf_alike C.2.2.2.2.1.alike A.2.1) hty A.2.2 (in_b h0 hj hi) hv (g := mkF B.m pc L (.int j :: .ref a :: st)) rfl rfl (hb C.2.2.2.1 hd) t (by subst hpc; exact q)
theorem g_arraylength (C : Ctx B l rm bytes own nm maxL ret Z) {a : Addr} {vs : List Value} {ty : FieldType} {z : Int32} (F : Ary Z h a ty vs) (hz : vs.length.toInt32 = z) (hd : decode bytes pc = .ok (.arraylength, 1)) (hpc : pc + 1 = pc') (go : Go B n0 Q h k n pc' L (.int z :: st)) : Go B n0 Q h k n pc L (.ref a :: st) := go.step fun T locs X eT t q => by
  obtain ⟨c, A, rfl, hl⟩ := F
  rw [Array.length_toList] at hz
  exact X.arraylength C.2.2.1 (by rw [eT]; exact A.1) (State.isArrayOf_alike C.2.2.2.2.1.alike A.2.1) (g := mkF B.m pc L (.ref a :: st)) rfl rfl (hb C.2.2.2.1 hd) t (by subst hpc hz; exact q)
theorem g_iastore (C : Ctx B l rm bytes own nm maxL ret Z) {a : Addr} {vs : List Value} {j : Int32} {i : Nat} {v : Int32} {w : Value} (F : Ary Z h a .int vs) (h0 : ¬ j < 0) (hj : j.toNatClampNeg = i) (hi : i < vs.length) (hw : Value.int v = w) (ge : n0 ≤ a) (hd : decode bytes pc = .ok (.iastore, 1)) (hpc : pc + 1 = pc') (go : ∀ h', Keep h h' [a] → Ary Z h' a .int (vs.set i w) → Go B n0 Q h' k n pc' L st) : Go B n0 Q h k n pc L (.int v :: .int j :: .ref a :: st) := fun T locs X N eT => by
  obtain ⟨c, A, rfl, hl⟩ := F
  have hi' := hi
  rw [Array.length_toList] at hi'
  obtain ⟨T', h', X', e', W, f⟩ := stI X C.2.2.1 C.2.2.2.2.1 eT A (in_b h0 hj hi') (g := mkF B.m pc L (.int v :: .int j :: .ref a :: st)) rfl rfl (hb C.2.2.2.1 hd)
  rw [hj, hw] at W
  obtain ⟨t, o, q, r⟩ := go h' (Keep.of_wr W) ⟨_, A.same W, set_list c i w, by rw [List.length_set]; exact hl⟩ T' _ X' (Fr.snoc X' N ge) e'
  subst hpc
  exact ⟨t, o, f t q, r⟩
theorem g_lastore (C : Ctx B l rm bytes own nm maxL ret Z) {a : Addr} {vs : List Value} {j : Int32} {i : Nat} {v : Int64} {w : Value} (F : Ary Z h a .long vs) (h0 : ¬ j < 0) (hj : j.toNatClampNeg = i) (hi : i < vs.length) (hw : Value.long v = w) (ge : n0 ≤ a) (hd : decode bytes pc = .ok (.lastore, 1)) (hpc : pc + 1 = pc') (go : ∀ h', Keep h h' [a] → Ary Z h' a .long (vs.set i w) → Go B n0 Q h' k n pc' L st) : Go B n0 Q h k n pc L (.long v :: .int j :: .ref a :: st) := fun T locs X N eT => by
  obtain ⟨c, A, rfl, hl⟩ := F
  have hi' := hi
  rw [Array.length_toList] at hi'
  obtain ⟨T', h', X', e', W, f⟩ := stJ X C.2.2.1 C.2.2.2.2.1 eT A (in_b h0 hj hi') (g := mkF B.m pc L (.long v :: .int j :: .ref a :: st)) rfl rfl (hb C.2.2.2.1 hd)
  rw [hj, hw] at W
  obtain ⟨t, o, q, r⟩ := go h' (Keep.of_wr W) ⟨_, A.same W, set_list c i w, by rw [List.length_set]; exact hl⟩ T' _ X' (Fr.snoc X' N ge) e'
  subst hpc
  exact ⟨t, o, f t q, r⟩
theorem g_castore (C : Ctx B l rm bytes own nm maxL ret Z) {a : Addr} {vs : List Value} {j : Int32} {i : Nat} {v : Int32} {w : Value} (F : Ary Z h a .char vs) (h0 : ¬ j < 0) (hj : j.toNatClampNeg = i) (hi : i < vs.length) (hw : Value.int (nar .char v) = w) (ge : n0 ≤ a) (hd : decode bytes pc = .ok (.castore, 1)) (hpc : pc + 1 = pc') (go : ∀ h', Keep h h' [a] → Ary Z h' a .char (vs.set i w) → Go B n0 Q h' k n pc' L st) : Go B n0 Q h k n pc L (.int v :: .int j :: .ref a :: st) := fun T locs X N eT => by
  obtain ⟨c, A, rfl, hl⟩ := F
  have hi' := hi
  rw [Array.length_toList] at hi'
  obtain ⟨T', h', X', e', W, f⟩ := stC X C.2.2.1 C.2.2.2.2.1 eT A (in_b h0 hj hi') (g := mkF B.m pc L (.int v :: .int j :: .ref a :: st)) rfl rfl (hb C.2.2.2.1 hd)
  rw [hj, hw] at W
  obtain ⟨t, o, q, r⟩ := go h' (Keep.of_wr W) ⟨_, A.same W, set_list c i w, by rw [List.length_set]; exact hl⟩ T' _ X' (Fr.snoc X' N ge) e'
  subst hpc
  exact ⟨t, o, f t q, r⟩
theorem g_bastoreB (C : Ctx B l rm bytes own nm maxL ret Z) {a : Addr} {vs : List Value} {j : Int32} {i : Nat} {v : Int32} {w : Value} (F : Ary Z h a .byte vs) (h0 : ¬ j < 0) (hj : j.toNatClampNeg = i) (hi : i < vs.length) (hw : Value.int (nar .byte v) = w) (ge : n0 ≤ a) (hd : decode bytes pc = .ok (.bastore, 1)) (hpc : pc + 1 = pc') (go : ∀ h', Keep h h' [a] → Ary Z h' a .byte (vs.set i w) → Go B n0 Q h' k n pc' L st) : Go B n0 Q h k n pc L (.int v :: .int j :: .ref a :: st) := fun T locs X N eT => by
  obtain ⟨c, A, rfl, hl⟩ := F
  have hi' := hi
  rw [Array.length_toList] at hi'
  obtain ⟨T', h', X', e', W, f⟩ := stB X C.2.2.1 C.2.2.2.2.1 eT A (in_b h0 hj hi') (g := mkF B.m pc L (.int v :: .int j :: .ref a :: st)) rfl rfl (hb C.2.2.2.1 hd)
  rw [hj, hw] at W
  obtain ⟨t, o, q, r⟩ := go h' (Keep.of_wr W) ⟨_, A.same W, set_list c i w, by rw [List.length_set]; exact hl⟩ T' _ X' (Fr.snoc X' N ge) e'
  subst hpc
  exact ⟨t, o, f t q, r⟩
theorem g_bastoreZ (C : Ctx B l rm bytes own nm maxL ret Z) {a : Addr} {vs : List Value} {j : Int32} {i : Nat} {v : Int32} {w : Value} (F : Ary Z h a .boolean vs) (h0 : ¬ j < 0) (hj : j.toNatClampNeg = i) (hi : i < vs.length) (hw : Value.int (nar .boolean v) = w) (ge : n0 ≤ a) (hd : decode bytes pc = .ok (.bastore, 1)) (hpc : pc + 1 = pc') (go : ∀ h', Keep h h' [a] → Ary Z h' a .boolean (vs.set i w) → Go B n0 Q h' k n pc' L st) : Go B n0 Q h k n pc L (.int v :: .int j :: .ref a :: st) := fun T locs X N eT => by
  obtain ⟨c, A, rfl, hl⟩ := F
  have hi' := hi
  rw [Array.length_toList] at hi'
  obtain ⟨T', h', X', e', W, f⟩ := stZ X C.2.2.1 C.2.2.2.2.1 eT A (in_b h0 hj hi') (g := mkF B.m pc L (.int v :: .int j :: .ref a :: st)) rfl rfl (hb C.2.2.2.1 hd)
  rw [hj, hw] at W
  obtain ⟨t, o, q, r⟩ := go h' (Keep.of_wr W) ⟨_, A.same W, set_list c i w, by rw [List.length_set]; exact hl⟩ T' _ X' (Fr.snoc X' N ge) e'
  subst hpc
  exact ⟨t, o, f t q, r⟩
theorem g_aastore (C : Ctx B l rm bytes own nm maxL ret Z) {a y : Addr} {K : String} {vs : List Value} {j : Int32} {i : Nat} (F : AryR Z h a K vs) (I : Ins Z h y K true) (h0 : ¬ j < 0) (hj : j.toNatClampNeg = i) (hi : i < vs.length) (ge : n0 ≤ a) (hd : decode bytes pc = .ok (.aastore, 1)) (hpc : pc + 1 = pc') (go : ∀ h', Keep h h' [a] → AryR Z h' a K (vs.set i (.ref y)) → Go B n0 Q h' k n pc' L st) : Go B n0 Q h k n pc L (.ref y :: .int j :: .ref a :: st) := fun T locs X N eT => by
  obtain ⟨c, A, O, rfl, hl⟩ := F
  have hi' := hi
  rw [Array.length_toList] at hi'
  obtain ⟨T', h', X', e', W, f⟩ := stR X C.2.2.1 C.2.2.2.2.1 eT A (in_b h0 hj hi') rfl (Sto.of A O I) (g := mkF B.m pc L (.ref y :: .int j :: .ref a :: st)) rfl rfl (hb C.2.2.2.1 hd)
  rw [hj] at W
  obtain ⟨t, o, q, r⟩ := go h' (Keep.of_wr W) ⟨_, A.same W, O, set_list c i _, by rw [List.length_set]; exact hl⟩ T' _ X' (Fr.snoc X' N ge) e'
  subst hpc
  exact ⟨t, o, f t q, r⟩
theorem g_newarray (C : Ctx B l rm bytes own nm maxL ret Z) {aty : ArrayType} {z : Int32} {cap : Nat} {ty : FieldType} (w : (Jvm.Cond.arrayClass (newarray.typeOf aty)).before a0 Z = true) (hty : newarray.typeOf aty = ty) (hz : ¬ z < 0) (hcap : z.toNatClampNeg = cap) (hcb : cap * 8 ≤ 536870912) (hc : k + 1 ≤ rm.cells) (hl : n + cap ≤ rm.slots) (hd : decode bytes pc = .ok (.newarray aty, 2)) (hpc : pc + 2 = pc') (go : ∀ h' a, a = h.size → Ext h h' → Ary Z h' a ty (List.replicate cap (defaultValue ty)) → Go B n0 Q h' (k + 1) (n + cap) pc' L (.ref a :: st)) : Go B n0 Q h k n pc L (.int z :: st) := fun T locs X N eT => by
  subst hty
  obtain ⟨T', h', cA, X', e', E, A, f⟩ := newP X C.2.2.1 C.2.2.2.2.1 w eT (g := mkF B.m pc L (.int z :: st)) rfl (hb C.2.2.2.1 hd) rfl hz (cap := cap) (Nat.le_of_eq hcap) hcb (by rw [C.2.1]; exact hc) (by rw [C.2.1]; exact hl)
  obtain ⟨t, o, q, r⟩ := go h' _ rfl E ⟨_, A, by rw [← hcap]; simp [newA], by rw [List.length_replicate]; omega⟩ T' _ X' N e'
  subst hpc
  exact ⟨t, o, f t q, r⟩
theorem g_newarrayUpTo (C : Ctx B l rm bytes own nm maxL ret Z) {aty : ArrayType} {z : Int32} {len cap : Nat} {ty : FieldType} (w : (Jvm.Cond.arrayClass (newarray.typeOf aty)).before a0 Z = true) (hty : newarray.typeOf aty = ty) (hz : ¬ z < 0) (hlen : z.toNatClampNeg = len) (hcap : len ≤ cap) (hcb : cap * 8 ≤ 536870912) (hc : k + 1 ≤ rm.cells) (hl : n + cap ≤ rm.slots) (hd : decode bytes pc = .ok (.newarray aty, 2)) (hpc : pc + 2 = pc') (go : ∀ h' a, a = h.size → Ext h h' → Ary Z h' a ty (List.replicate len (defaultValue ty)) → Go B n0 Q h' (k + 1) (n + cap) pc' L (.ref a :: st)) : Go B n0 Q h k n pc L (.int z :: st) := fun T locs X N eT => by
  subst hty
  obtain ⟨T', h', cA, X', e', E, A, f⟩ := newP X C.2.2.1 C.2.2.2.2.1 w eT (g := mkF B.m pc L (.int z :: st)) rfl (hb C.2.2.2.1 hd) rfl hz (cap := cap) (by rw [hlen]; exact hcap) hcb (by rw [C.2.1]; exact hc) (by rw [C.2.1]; exact hl)
  obtain ⟨t, o, q, r⟩ := go h' _ rfl E ⟨_, A, by rw [← hlen]; simp [newA], by rw [List.length_replicate]; omega⟩ T' _ X' N e'
  subst hpc
  exact ⟨t, o, f t q, r⟩
theorem g_anewarray (C : Ctx B l rm bytes own nm maxL ret Z) {i : Nat} {K : String} {z : Int32} {cap : Nat} (w : (Jvm.Cond.classLink own i K).before a0 Z = true) (w2 : (Jvm.Cond.arrayOver (.object K)).before a0 Z = true) (hz : ¬ z < 0) (hcap : z.toNatClampNeg = cap) (hcb : cap * 8 ≤ 536870912) (hc : k + 1 ≤ rm.cells) (hl : n + cap ≤ rm.slots) (hd : decode bytes pc = .ok (.anewarray i, 3)) (hpc : pc + 3 = pc') (go : ∀ h' a, a = h.size → Ext h h' → AryR Z h' a K (List.replicate cap .null) → Go B n0 Q h' (k + 1) (n + cap) pc' L (.ref a :: st)) : Go B n0 Q h k n pc L (.int z :: st) := fun T locs X N eT => by
  obtain ⟨T', h', cA, X', e', E, A, O, f⟩ := newR X C.2.2.1 C.2.2.2.2.1 C.2.2.2.2.2.1 w w2 eT (g := mkF B.m pc L (.int z :: st)) rfl (hb C.2.2.2.1 hd) rfl hz (cap := cap) (Nat.le_of_eq hcap) hcb (by rw [C.2.1]; exact hc) (by rw [C.2.1]; exact hl)
  obtain ⟨t, o, q, r⟩ := go h' _ rfl E ⟨_, A, O, by rw [← hcap]; simp [newA, defaultValue], by rw [List.length_replicate]; omega⟩ T' _ X' N e'
  subst hpc
  exact ⟨t, o, f t q, r⟩
end ArraySteps
end Jvm.OwnKit
namespace Jvm.Pilot.@@N@@
open Jvm Jvm.ClassFile Sem Op Lib Jvm.Free Jvm.Stand Jvm.LawKit Jvm.RoadKit Jvm.OwnKit Bundle Jvm.Pilot.@@N@@.Jvm.D
theorem own_w {a0 : Array Value} {Z : State} (hw : ∀ d ∈ tables_1, d.before a0 Z = true) (k : Nat) {d : Jvm.Cond} (e : tables_1[k]? = some d) : d.before a0 Z = true := hw _ (List.mem_of_getElem? e)
def Ens (Z : State) (e_PACKAGE e_MESSAGE e_ENUM e_FIELD e_ONEOF e_ENUM_VALUE e_SERVICE e_METHOD : Addr) : Prop := (Sta Z Z.heap "com/example/wirefield/wirefield/Symbol$Kind" "PACKAGE" "Lcom/example/wirefield/wirefield/Symbol$Kind;" (.ref e_PACKAGE) ∧ Exa Z Z.heap e_PACKAGE "com/example/wirefield/wirefield/Symbol$Kind" ∧ Fld Z Z.heap e_PACKAGE "java/lang/Enum" "ordinal" "I" (.int (0 : Int32))) ∧ (Sta Z Z.heap "com/example/wirefield/wirefield/Symbol$Kind" "MESSAGE" "Lcom/example/wirefield/wirefield/Symbol$Kind;" (.ref e_MESSAGE) ∧ Exa Z Z.heap e_MESSAGE "com/example/wirefield/wirefield/Symbol$Kind" ∧ Fld Z Z.heap e_MESSAGE "java/lang/Enum" "ordinal" "I" (.int (1 : Int32))) ∧ (Sta Z Z.heap "com/example/wirefield/wirefield/Symbol$Kind" "ENUM" "Lcom/example/wirefield/wirefield/Symbol$Kind;" (.ref e_ENUM) ∧ Exa Z Z.heap e_ENUM "com/example/wirefield/wirefield/Symbol$Kind" ∧ Fld Z Z.heap e_ENUM "java/lang/Enum" "ordinal" "I" (.int (2 : Int32))) ∧ (Sta Z Z.heap "com/example/wirefield/wirefield/Symbol$Kind" "FIELD" "Lcom/example/wirefield/wirefield/Symbol$Kind;" (.ref e_FIELD) ∧ Exa Z Z.heap e_FIELD "com/example/wirefield/wirefield/Symbol$Kind" ∧ Fld Z Z.heap e_FIELD "java/lang/Enum" "ordinal" "I" (.int (3 : Int32))) ∧ (Sta Z Z.heap "com/example/wirefield/wirefield/Symbol$Kind" "ONEOF" "Lcom/example/wirefield/wirefield/Symbol$Kind;" (.ref e_ONEOF) ∧ Exa Z Z.heap e_ONEOF "com/example/wirefield/wirefield/Symbol$Kind" ∧ Fld Z Z.heap e_ONEOF "java/lang/Enum" "ordinal" "I" (.int (4 : Int32))) ∧ (Sta Z Z.heap "com/example/wirefield/wirefield/Symbol$Kind" "ENUM_VALUE" "Lcom/example/wirefield/wirefield/Symbol$Kind;" (.ref e_ENUM_VALUE) ∧ Exa Z Z.heap e_ENUM_VALUE "com/example/wirefield/wirefield/Symbol$Kind" ∧ Fld Z Z.heap e_ENUM_VALUE "java/lang/Enum" "ordinal" "I" (.int (5 : Int32))) ∧ (Sta Z Z.heap "com/example/wirefield/wirefield/Symbol$Kind" "SERVICE" "Lcom/example/wirefield/wirefield/Symbol$Kind;" (.ref e_SERVICE) ∧ Exa Z Z.heap e_SERVICE "com/example/wirefield/wirefield/Symbol$Kind" ∧ Fld Z Z.heap e_SERVICE "java/lang/Enum" "ordinal" "I" (.int (6 : Int32))) ∧ (Sta Z Z.heap "com/example/wirefield/wirefield/Symbol$Kind" "METHOD" "Lcom/example/wirefield/wirefield/Symbol$Kind;" (.ref e_METHOD) ∧ Exa Z Z.heap e_METHOD "com/example/wirefield/wirefield/Symbol$Kind" ∧ Fld Z Z.heap e_METHOD "java/lang/Enum" "ordinal" "I" (.int (7 : Int32)))
theorem own_const {args : Array Value} {s : State} {K K' n d : String} (hx : (Jvm.Cond.exactly (.static K n d) K').value args s none s [] = some true) (hi : (Jvm.Cond.initialized K).before args s = true) (hl : (Jvm.Cond.laysStatic K n d).before args s = true) : ∃ a, Sta s s.heap K n d (.ref a) ∧ Exa s s.heap a K' ∧ (Jvm.Term.static K n d).eval args s none [] s = some (.ref a) := by
  have hx' : (Jvm.Cond.exactly (.static K n d) K').before args s = true := Cond.before_iff.mpr hx
  obtain ⟨a, c, cell, k, e1, -⟩ := Cond.exactly_spec hx'
  exact ⟨a, Sta.start e1 (Or.inr ⟨hi, hl⟩), Exa.start e1 hx, e1⟩
theorem own_fint {args : Array Value} {s : State} {C n d : String} {t : Jvm.Term} {a : Addr} {z : Int32} (e1 : t.eval args s none [] s = some (.ref a)) (h : (Jvm.Cond.eq (.field t C n d) (.int z)).value args s none s [] = some true) : Fld s s.heap a C n d (.int z) :=
  Fld.start (by have q := Cond.eq_int (Cond.before_iff.mpr h) rfl; simpa [Jvm.Term.eval, e1] using q)
theorem own_fref {args : Array Value} {s : State} {C n d K : String} {t : Jvm.Term} {a : Addr} (e1 : t.eval args s none [] s = some (.ref a)) (h : (Jvm.Cond.exactly (.field t C n d) K).value args s none s [] = some true) : ∃ r, Fld s s.heap a C n d (.ref r) := by
  obtain ⟨r, c, cell, k, e2, -⟩ := Cond.exactly_spec (Cond.before_iff.mpr h)
  exact ⟨r, Fld.start (by simpa [Jvm.Term.eval, e1] using e2)⟩
theorem own_fnull {args : Array Value} {s : State} {C n d : String} {t : Jvm.Term} {a : Addr} (e1 : t.eval args s none [] s = some (.ref a)) (h : (Jvm.Cond.eq (.field t C n d) .null).value args s none s [] = some true) : Fld s s.heap a C n d .null := by
  refine Fld.start ?_
  cases q : s.fieldOf? a C n d with
  | none => simp [Jvm.Cond.value, Jvm.Term.eval, e1, q] at h
  | some v => cases v <;> simp_all [Jvm.Cond.value, Jvm.Term.eval]
theorem d1_0 : decode prog_66_method_5_code 0 = .ok (.aload_n 0, 1) := by decide +kernel
theorem d1_1 : decode prog_66_method_5_code 1 = .ok (.getstatic 3, 3) := by decide +kernel
theorem d1_4 : decode prog_66_method_5_code 4 = .ok (.if_acmp .eq 24, 3) := by decide +kernel
theorem d1_28 : decode prog_66_method_5_code 28 = .ok (.iconst 1, 1) := by decide +kernel
theorem d1_29 : decode prog_66_method_5_code 29 = .ok (.goto 4, 3) := by decide +kernel
theorem d1_33 : decode prog_66_method_5_code 33 = .ok (.ireturn, 1) := by decide +kernel
theorem own_pn_com_example_wirefield_wirefield_Symbol_Kind : plainName "com/example/wirefield/wirefield/Symbol$Kind" = true := by first | (simp [plainName, overriddenIn]; done) | decide +kernel
set_option maxRecDepth 65536 in
set_option maxHeartbeats 40000000 in
theorem rm_isScope_PACKAGE (l : Launch) (Z : State) (a0 : Array Value) (hw : ∀ d ∈ tables_1, d.before a0 Z = true) (n0 : Nat) (e_PACKAGE e_MESSAGE e_ENUM e_FIELD e_ONEOF e_ENUM_VALUE e_SERVICE e_METHOD : Addr) (h0 : Heap) (Z0 : n0 ≤ h0.size) (en : Ens Z e_PACKAGE e_MESSAGE e_ENUM e_FIELD e_ONEOF e_ENUM_VALUE e_SERVICE e_METHOD) (O : Old Z n0 h0) :
    Met1 l Z (⟨"com/example/wirefield/wirefield/Symbol$Kind", "isScope", "()Z"⟩ : MethodName) prog_66_method_5_code 1 (some .boolean) ({ frames := 0, cells := 0, slots := 0, locals := 0 } : Room) n0 #[(.ref e_PACKAGE)] h0 (fun v h => v = some (.int (1 : Int32)) ∧ h0 = h) := by
  refine met_of (plainFor_of_name own_pn_com_example_wirefield_wirefield_Symbol_Kind) (L0 := #[.val (.ref e_PACKAGE)]) (by first | rfl | (simp [argsToLocals, Value.category]; done)) ?_
  intro B C
  change Ctx B l _ _ "com/example/wirefield/wirefield/Symbol$Kind" "isScope" _ _ Z at C
  have en' := en
  obtain ⟨⟨S_PACKAGE, X_PACKAGE, D_PACKAGE⟩, ⟨S_MESSAGE, X_MESSAGE, D_MESSAGE⟩, ⟨S_ENUM, X_ENUM, D_ENUM⟩, ⟨S_FIELD, X_FIELD, D_FIELD⟩, ⟨S_ONEOF, X_ONEOF, D_ONEOF⟩, ⟨S_ENUM_VALUE, X_ENUM_VALUE, D_ENUM_VALUE⟩, ⟨S_SERVICE, X_SERVICE, D_SERVICE⟩, ⟨S_METHOD, X_METHOD, D_METHOD⟩⟩ := en'
  refine g_aload_n C d1_0 (v := (.ref e_PACKAGE)) rfl rfl (pc' := 1) rfl ?_
  refine g_getstatic C (host := "") (v := (.ref e_PACKAGE)) (Or.inl (own_w hw 26 rfl)) Via.refl (S_PACKAGE.ext O.2) d1_1 (pc' := 4) rfl ?_
  refine g_acmp_y C d1_4 rfl rfl (Jvm.Free.XT.aa_eq_t rfl) (pc' := 28) (by decide) (by decide) ?_
  refine g_iconst C d1_28 (v := (1 : Int32)) rfl (pc' := 29) rfl ?_
  refine g_goto C d1_29 (pc' := 33) (by decide) (by decide) ?_
  refine g_ret C (v := (.int (1 : Int32))) (ty := .boolean) rfl rfl (Or.inl ⟨rfl, Or.inr (Or.inl rfl), _, rfl⟩) d1_33 (by decide) (by decide) ?_
  exact ⟨rfl, rfl⟩
theorem d1_7 : decode prog_66_method_5_code 7 = .ok (.aload_n 0, 1) := by decide +kernel
theorem d1_8 : decode prog_66_method_5_code 8 = .ok (.getstatic 7, 3) := by decide +kernel
theorem d1_11 : decode prog_66_method_5_code 11 = .ok (.if_acmp .eq 17, 3) := by decide +kernel
set_option maxRecDepth 65536 in
set_option maxHeartbeats 40000000 in
theorem rm_isScope_MESSAGE (l : Launch) (Z : State) (a0 : Array Value) (hw : ∀ d ∈ tables_1, d.before a0 Z = true) (n0 : Nat) (e_PACKAGE e_MESSAGE e_ENUM e_FIELD e_ONEOF e_ENUM_VALUE e_SERVICE e_METHOD : Addr) (h0 : Heap) (Z0 : n0 ≤ h0.size) (en : Ens Z e_PACKAGE e_MESSAGE e_ENUM e_FIELD e_ONEOF e_ENUM_VALUE e_SERVICE e_METHOD) (O : Old Z n0 h0) :
    Met1 l Z (⟨"com/example/wirefield/wirefield/Symbol$Kind", "isScope", "()Z"⟩ : MethodName) prog_66_method_5_code 1 (some .boolean) ({ frames := 0, cells := 0, slots := 0, locals := 0 } : Room) n0 #[(.ref e_MESSAGE)] h0 (fun v h => v = some (.int (1 : Int32)) ∧ h0 = h) := by
  refine met_of (plainFor_of_name own_pn_com_example_wirefield_wirefield_Symbol_Kind) (L0 := #[.val (.ref e_MESSAGE)]) (by first | rfl | (simp [argsToLocals, Value.category]; done)) ?_
  intro B C
  change Ctx B l _ _ "com/example/wirefield/wirefield/Symbol$Kind" "isScope" _ _ Z at C
  have en' := en
  obtain ⟨⟨S_PACKAGE, X_PACKAGE, D_PACKAGE⟩, ⟨S_MESSAGE, X_MESSAGE, D_MESSAGE⟩, ⟨S_ENUM, X_ENUM, D_ENUM⟩, ⟨S_FIELD, X_FIELD, D_FIELD⟩, ⟨S_ONEOF, X_ONEOF, D_ONEOF⟩, ⟨S_ENUM_VALUE, X_ENUM_VALUE, D_ENUM_VALUE⟩, ⟨S_SERVICE, X_SERVICE, D_SERVICE⟩, ⟨S_METHOD, X_METHOD, D_METHOD⟩⟩ := en'
  refine g_aload_n C d1_0 (v := (.ref e_MESSAGE)) rfl rfl (pc' := 1) rfl ?_
  refine g_getstatic C (host := "") (v := (.ref e_PACKAGE)) (Or.inl (own_w hw 26 rfl)) Via.refl (S_PACKAGE.ext O.2) d1_1 (pc' := 4) rfl ?_
  refine g_acmp_n C d1_4 rfl rfl (Jvm.Free.XT.aa_eq_f (fun q => (Fld.ne D_MESSAGE D_PACKAGE (by decide)) (Value.ref.inj q))) (pc' := 7) rfl ?_
  refine g_aload_n C d1_7 (v := (.ref e_MESSAGE)) rfl rfl (pc' := 8) rfl ?_
  refine g_getstatic C (host := "") (v := (.ref e_MESSAGE)) (Or.inl (own_w hw 32 rfl)) Via.refl (S_MESSAGE.ext O.2) d1_8 (pc' := 11) rfl ?_
  refine g_acmp_y C d1_11 rfl rfl (Jvm.Free.XT.aa_eq_t rfl) (pc' := 28) (by decide) (by decide) ?_
  refine g_iconst C d1_28 (v := (1 : Int32)) rfl (pc' := 29) rfl ?_
  refine g_goto C d1_29 (pc' := 33) (by decide) (by decide) ?_
  refine g_ret C (v := (.int (1 : Int32))) (ty := .boolean) rfl rfl (Or.inl ⟨rfl, Or.inr (Or.inl rfl), _, rfl⟩) d1_33 (by decide) (by decide) ?_
  exact ⟨rfl, rfl⟩
theorem d1_14 : decode prog_66_method_5_code 14 = .ok (.aload_n 0, 1) := by decide +kernel
theorem d1_15 : decode prog_66_method_5_code 15 = .ok (.getstatic 10, 3) := by decide +kernel
theorem d1_18 : decode prog_66_method_5_code 18 = .ok (.if_acmp .eq 10, 3) := by decide +kernel
set_option maxRecDepth 65536 in
set_option maxHeartbeats 40000000 in
theorem rm_isScope_ENUM (l : Launch) (Z : State) (a0 : Array Value) (hw : ∀ d ∈ tables_1, d.before a0 Z = true) (n0 : Nat) (e_PACKAGE e_MESSAGE e_ENUM e_FIELD e_ONEOF e_ENUM_VALUE e_SERVICE e_METHOD : Addr) (h0 : Heap) (Z0 : n0 ≤ h0.size) (en : Ens Z e_PACKAGE e_MESSAGE e_ENUM e_FIELD e_ONEOF e_ENUM_VALUE e_SERVICE e_METHOD) (O : Old Z n0 h0) :
    Met1 l Z (⟨"com/example/wirefield/wirefield/Symbol$Kind", "isScope", "()Z"⟩ : MethodName) prog_66_method_5_code 1 (some .boolean) ({ frames := 0, cells := 0, slots := 0, locals := 0 } : Room) n0 #[(.ref e_ENUM)] h0 (fun v h => v = some (.int (1 : Int32)) ∧ h0 = h) := by
  refine met_of (plainFor_of_name own_pn_com_example_wirefield_wirefield_Symbol_Kind) (L0 := #[.val (.ref e_ENUM)]) (by first | rfl | (simp [argsToLocals, Value.category]; done)) ?_
  intro B C
  change Ctx B l _ _ "com/example/wirefield/wirefield/Symbol$Kind" "isScope" _ _ Z at C
  have en' := en
  obtain ⟨⟨S_PACKAGE, X_PACKAGE, D_PACKAGE⟩, ⟨S_MESSAGE, X_MESSAGE, D_MESSAGE⟩, ⟨S_ENUM, X_ENUM, D_ENUM⟩, ⟨S_FIELD, X_FIELD, D_FIELD⟩, ⟨S_ONEOF, X_ONEOF, D_ONEOF⟩, ⟨S_ENUM_VALUE, X_ENUM_VALUE, D_ENUM_VALUE⟩, ⟨S_SERVICE, X_SERVICE, D_SERVICE⟩, ⟨S_METHOD, X_METHOD, D_METHOD⟩⟩ := en'
  refine g_aload_n C d1_0 (v := (.ref e_ENUM)) rfl rfl (pc' := 1) rfl ?_
  refine g_getstatic C (host := "") (v := (.ref e_PACKAGE)) (Or.inl (own_w hw 26 rfl)) Via.refl (S_PACKAGE.ext O.2) d1_1 (pc' := 4) rfl ?_
  refine g_acmp_n C d1_4 rfl rfl (Jvm.Free.XT.aa_eq_f (fun q => (Fld.ne D_ENUM D_PACKAGE (by decide)) (Value.ref.inj q))) (pc' := 7) rfl ?_
  refine g_aload_n C d1_7 (v := (.ref e_ENUM)) rfl rfl (pc' := 8) rfl ?_
  refine g_getstatic C (host := "") (v := (.ref e_MESSAGE)) (Or.inl (own_w hw 32 rfl)) Via.refl (S_MESSAGE.ext O.2) d1_8 (pc' := 11) rfl ?_
  refine g_acmp_n C d1_11 rfl rfl (Jvm.Free.XT.aa_eq_f (fun q => (Fld.ne D_ENUM D_MESSAGE (by decide)) (Value.ref.inj q))) (pc' := 14) rfl ?_
  refine g_aload_n C d1_14 (v := (.ref e_ENUM)) rfl rfl (pc' := 15) rfl ?_
  refine g_getstatic C (host := "") (v := (.ref e_ENUM)) (Or.inl (own_w hw 33 rfl)) Via.refl (S_ENUM.ext O.2) d1_15 (pc' := 18) rfl ?_
  refine g_acmp_y C d1_18 rfl rfl (Jvm.Free.XT.aa_eq_t rfl) (pc' := 28) (by decide) (by decide) ?_
  refine g_iconst C d1_28 (v := (1 : Int32)) rfl (pc' := 29) rfl ?_
  refine g_goto C d1_29 (pc' := 33) (by decide) (by decide) ?_
  refine g_ret C (v := (.int (1 : Int32))) (ty := .boolean) rfl rfl (Or.inl ⟨rfl, Or.inr (Or.inl rfl), _, rfl⟩) d1_33 (by decide) (by decide) ?_
  exact ⟨rfl, rfl⟩
theorem d1_21 : decode prog_66_method_5_code 21 = .ok (.aload_n 0, 1) := by decide +kernel
theorem d1_22 : decode prog_66_method_5_code 22 = .ok (.getstatic 22, 3) := by decide +kernel
theorem d1_25 : decode prog_66_method_5_code 25 = .ok (.if_acmp .ne 7, 3) := by decide +kernel
theorem d1_32 : decode prog_66_method_5_code 32 = .ok (.iconst 0, 1) := by decide +kernel
set_option maxRecDepth 65536 in
set_option maxHeartbeats 40000000 in
theorem rm_isScope_FIELD (l : Launch) (Z : State) (a0 : Array Value) (hw : ∀ d ∈ tables_1, d.before a0 Z = true) (n0 : Nat) (e_PACKAGE e_MESSAGE e_ENUM e_FIELD e_ONEOF e_ENUM_VALUE e_SERVICE e_METHOD : Addr) (h0 : Heap) (Z0 : n0 ≤ h0.size) (en : Ens Z e_PACKAGE e_MESSAGE e_ENUM e_FIELD e_ONEOF e_ENUM_VALUE e_SERVICE e_METHOD) (O : Old Z n0 h0) :
    Met1 l Z (⟨"com/example/wirefield/wirefield/Symbol$Kind", "isScope", "()Z"⟩ : MethodName) prog_66_method_5_code 1 (some .boolean) ({ frames := 0, cells := 0, slots := 0, locals := 0 } : Room) n0 #[(.ref e_FIELD)] h0 (fun v h => v = some (.int (0 : Int32)) ∧ h0 = h) := by
  refine met_of (plainFor_of_name own_pn_com_example_wirefield_wirefield_Symbol_Kind) (L0 := #[.val (.ref e_FIELD)]) (by first | rfl | (simp [argsToLocals, Value.category]; done)) ?_
  intro B C
  change Ctx B l _ _ "com/example/wirefield/wirefield/Symbol$Kind" "isScope" _ _ Z at C
  have en' := en
  obtain ⟨⟨S_PACKAGE, X_PACKAGE, D_PACKAGE⟩, ⟨S_MESSAGE, X_MESSAGE, D_MESSAGE⟩, ⟨S_ENUM, X_ENUM, D_ENUM⟩, ⟨S_FIELD, X_FIELD, D_FIELD⟩, ⟨S_ONEOF, X_ONEOF, D_ONEOF⟩, ⟨S_ENUM_VALUE, X_ENUM_VALUE, D_ENUM_VALUE⟩, ⟨S_SERVICE, X_SERVICE, D_SERVICE⟩, ⟨S_METHOD, X_METHOD, D_METHOD⟩⟩ := en'
  refine g_aload_n C d1_0 (v := (.ref e_FIELD)) rfl rfl (pc' := 1) rfl ?_
  refine g_getstatic C (host := "") (v := (.ref e_PACKAGE)) (Or.inl (own_w hw 26 rfl)) Via.refl (S_PACKAGE.ext O.2) d1_1 (pc' := 4) rfl ?_
  refine g_acmp_n C d1_4 rfl rfl (Jvm.Free.XT.aa_eq_f (fun q => (Fld.ne D_FIELD D_PACKAGE (by decide)) (Value.ref.inj q))) (pc' := 7) rfl ?_
  refine g_aload_n C d1_7 (v := (.ref e_FIELD)) rfl rfl (pc' := 8) rfl ?_
  refine g_getstatic C (host := "") (v := (.ref e_MESSAGE)) (Or.inl (own_w hw 32 rfl)) Via.refl (S_MESSAGE.ext O.2) d1_8 (pc' := 11) rfl ?_
  refine g_acmp_n C d1_11 rfl rfl (Jvm.Free.XT.aa_eq_f (fun q => (Fld.ne D_FIELD D_MESSAGE (by decide)) (Value.ref.inj q))) (pc' := 14) rfl ?_
  refine g_aload_n C d1_14 (v := (.ref e_FIELD)) rfl rfl (pc' := 15) rfl ?_
  refine g_getstatic C (host := "") (v := (.ref e_ENUM)) (Or.inl (own_w hw 33 rfl)) Via.refl (S_ENUM.ext O.2) d1_15 (pc' := 18) rfl ?_
  refine g_acmp_n C d1_18 rfl rfl (Jvm.Free.XT.aa_eq_f (fun q => (Fld.ne D_FIELD D_ENUM (by decide)) (Value.ref.inj q))) (pc' := 21) rfl ?_
  refine g_aload_n C d1_21 (v := (.ref e_FIELD)) rfl rfl (pc' := 22) rfl ?_
  refine g_getstatic C (host := "") (v := (.ref e_SERVICE)) (Or.inl (own_w hw 34 rfl)) Via.refl (S_SERVICE.ext O.2) d1_22 (pc' := 25) rfl ?_
  refine g_acmp_y C d1_25 rfl rfl (Jvm.Free.XT.aa_ne_t (fun q => (Fld.ne D_FIELD D_SERVICE (by decide)) (Value.ref.inj q))) (pc' := 32) (by decide) (by decide) ?_
  refine g_iconst C d1_32 (v := (0 : Int32)) rfl (pc' := 33) rfl ?_
  refine g_ret C (v := (.int (0 : Int32))) (ty := .boolean) rfl rfl (Or.inl ⟨rfl, Or.inr (Or.inl rfl), _, rfl⟩) d1_33 (by decide) (by decide) ?_
  exact ⟨rfl, rfl⟩
set_option maxRecDepth 65536 in
set_option maxHeartbeats 40000000 in
theorem rm_isScope_ONEOF (l : Launch) (Z : State) (a0 : Array Value) (hw : ∀ d ∈ tables_1, d.before a0 Z = true) (n0 : Nat) (e_PACKAGE e_MESSAGE e_ENUM e_FIELD e_ONEOF e_ENUM_VALUE e_SERVICE e_METHOD : Addr) (h0 : Heap) (Z0 : n0 ≤ h0.size) (en : Ens Z e_PACKAGE e_MESSAGE e_ENUM e_FIELD e_ONEOF e_ENUM_VALUE e_SERVICE e_METHOD) (O : Old Z n0 h0) :
    Met1 l Z (⟨"com/example/wirefield/wirefield/Symbol$Kind", "isScope", "()Z"⟩ : MethodName) prog_66_method_5_code 1 (some .boolean) ({ frames := 0, cells := 0, slots := 0, locals := 0 } : Room) n0 #[(.ref e_ONEOF)] h0 (fun v h => v = some (.int (0 : Int32)) ∧ h0 = h) := by
  refine met_of (plainFor_of_name own_pn_com_example_wirefield_wirefield_Symbol_Kind) (L0 := #[.val (.ref e_ONEOF)]) (by first | rfl | (simp [argsToLocals, Value.category]; done)) ?_
  intro B C
  change Ctx B l _ _ "com/example/wirefield/wirefield/Symbol$Kind" "isScope" _ _ Z at C
  have en' := en
  obtain ⟨⟨S_PACKAGE, X_PACKAGE, D_PACKAGE⟩, ⟨S_MESSAGE, X_MESSAGE, D_MESSAGE⟩, ⟨S_ENUM, X_ENUM, D_ENUM⟩, ⟨S_FIELD, X_FIELD, D_FIELD⟩, ⟨S_ONEOF, X_ONEOF, D_ONEOF⟩, ⟨S_ENUM_VALUE, X_ENUM_VALUE, D_ENUM_VALUE⟩, ⟨S_SERVICE, X_SERVICE, D_SERVICE⟩, ⟨S_METHOD, X_METHOD, D_METHOD⟩⟩ := en'
  refine g_aload_n C d1_0 (v := (.ref e_ONEOF)) rfl rfl (pc' := 1) rfl ?_
  refine g_getstatic C (host := "") (v := (.ref e_PACKAGE)) (Or.inl (own_w hw 26 rfl)) Via.refl (S_PACKAGE.ext O.2) d1_1 (pc' := 4) rfl ?_
  refine g_acmp_n C d1_4 rfl rfl (Jvm.Free.XT.aa_eq_f (fun q => (Fld.ne D_ONEOF D_PACKAGE (by decide)) (Value.ref.inj q))) (pc' := 7) rfl ?_
  refine g_aload_n C d1_7 (v := (.ref e_ONEOF)) rfl rfl (pc' := 8) rfl ?_
  refine g_getstatic C (host := "") (v := (.ref e_MESSAGE)) (Or.inl (own_w hw 32 rfl)) Via.refl (S_MESSAGE.ext O.2) d1_8 (pc' := 11) rfl ?_
  refine g_acmp_n C d1_11 rfl rfl (Jvm.Free.XT.aa_eq_f (fun q => (Fld.ne D_ONEOF D_MESSAGE (by decide)) (Value.ref.inj q))) (pc' := 14) rfl ?_
  refine g_aload_n C d1_14 (v := (.ref e_ONEOF)) rfl rfl (pc' := 15) rfl ?_
  refine g_getstatic C (host := "") (v := (.ref e_ENUM)) (Or.inl (own_w hw 33 rfl)) Via.refl (S_ENUM.ext O.2) d1_15 (pc' := 18) rfl ?_
  refine g_acmp_n C d1_18 rfl rfl (Jvm.Free.XT.aa_eq_f (fun q => (Fld.ne D_ONEOF D_ENUM (by decide)) (Value.ref.inj q))) (pc' := 21) rfl ?_
  refine g_aload_n C d1_21 (v := (.ref e_ONEOF)) rfl rfl (pc' := 22) rfl ?_
  refine g_getstatic C (host := "") (v := (.ref e_SERVICE)) (Or.inl (own_w hw 34 rfl)) Via.refl (S_SERVICE.ext O.2) d1_22 (pc' := 25) rfl ?_
  refine g_acmp_y C d1_25 rfl rfl (Jvm.Free.XT.aa_ne_t (fun q => (Fld.ne D_ONEOF D_SERVICE (by decide)) (Value.ref.inj q))) (pc' := 32) (by decide) (by decide) ?_
  refine g_iconst C d1_32 (v := (0 : Int32)) rfl (pc' := 33) rfl ?_
  refine g_ret C (v := (.int (0 : Int32))) (ty := .boolean) rfl rfl (Or.inl ⟨rfl, Or.inr (Or.inl rfl), _, rfl⟩) d1_33 (by decide) (by decide) ?_
  exact ⟨rfl, rfl⟩
set_option maxRecDepth 65536 in
set_option maxHeartbeats 40000000 in
theorem rm_isScope_ENUM_VALUE (l : Launch) (Z : State) (a0 : Array Value) (hw : ∀ d ∈ tables_1, d.before a0 Z = true) (n0 : Nat) (e_PACKAGE e_MESSAGE e_ENUM e_FIELD e_ONEOF e_ENUM_VALUE e_SERVICE e_METHOD : Addr) (h0 : Heap) (Z0 : n0 ≤ h0.size) (en : Ens Z e_PACKAGE e_MESSAGE e_ENUM e_FIELD e_ONEOF e_ENUM_VALUE e_SERVICE e_METHOD) (O : Old Z n0 h0) :
    Met1 l Z (⟨"com/example/wirefield/wirefield/Symbol$Kind", "isScope", "()Z"⟩ : MethodName) prog_66_method_5_code 1 (some .boolean) ({ frames := 0, cells := 0, slots := 0, locals := 0 } : Room) n0 #[(.ref e_ENUM_VALUE)] h0 (fun v h => v = some (.int (0 : Int32)) ∧ h0 = h) := by
  refine met_of (plainFor_of_name own_pn_com_example_wirefield_wirefield_Symbol_Kind) (L0 := #[.val (.ref e_ENUM_VALUE)]) (by first | rfl | (simp [argsToLocals, Value.category]; done)) ?_
  intro B C
  change Ctx B l _ _ "com/example/wirefield/wirefield/Symbol$Kind" "isScope" _ _ Z at C
  have en' := en
  obtain ⟨⟨S_PACKAGE, X_PACKAGE, D_PACKAGE⟩, ⟨S_MESSAGE, X_MESSAGE, D_MESSAGE⟩, ⟨S_ENUM, X_ENUM, D_ENUM⟩, ⟨S_FIELD, X_FIELD, D_FIELD⟩, ⟨S_ONEOF, X_ONEOF, D_ONEOF⟩, ⟨S_ENUM_VALUE, X_ENUM_VALUE, D_ENUM_VALUE⟩, ⟨S_SERVICE, X_SERVICE, D_SERVICE⟩, ⟨S_METHOD, X_METHOD, D_METHOD⟩⟩ := en'
  refine g_aload_n C d1_0 (v := (.ref e_ENUM_VALUE)) rfl rfl (pc' := 1) rfl ?_
  refine g_getstatic C (host := "") (v := (.ref e_PACKAGE)) (Or.inl (own_w hw 26 rfl)) Via.refl (S_PACKAGE.ext O.2) d1_1 (pc' := 4) rfl ?_
  refine g_acmp_n C d1_4 rfl rfl (Jvm.Free.XT.aa_eq_f (fun q => (Fld.ne D_ENUM_VALUE D_PACKAGE (by decide)) (Value.ref.inj q))) (pc' := 7) rfl ?_
  refine g_aload_n C d1_7 (v := (.ref e_ENUM_VALUE)) rfl rfl (pc' := 8) rfl ?_
  refine g_getstatic C (host := "") (v := (.ref e_MESSAGE)) (Or.inl (own_w hw 32 rfl)) Via.refl (S_MESSAGE.ext O.2) d1_8 (pc' := 11) rfl ?_
  refine g_acmp_n C d1_11 rfl rfl (Jvm.Free.XT.aa_eq_f (fun q => (Fld.ne D_ENUM_VALUE D_MESSAGE (by decide)) (Value.ref.inj q))) (pc' := 14) rfl ?_
  refine g_aload_n C d1_14 (v := (.ref e_ENUM_VALUE)) rfl rfl (pc' := 15) rfl ?_
  refine g_getstatic C (host := "") (v := (.ref e_ENUM)) (Or.inl (own_w hw 33 rfl)) Via.refl (S_ENUM.ext O.2) d1_15 (pc' := 18) rfl ?_
  refine g_acmp_n C d1_18 rfl rfl (Jvm.Free.XT.aa_eq_f (fun q => (Fld.ne D_ENUM_VALUE D_ENUM (by decide)) (Value.ref.inj q))) (pc' := 21) rfl ?_
  refine g_aload_n C d1_21 (v := (.ref e_ENUM_VALUE)) rfl rfl (pc' := 22) rfl ?_
  refine g_getstatic C (host := "") (v := (.ref e_SERVICE)) (Or.inl (own_w hw 34 rfl)) Via.refl (S_SERVICE.ext O.2) d1_22 (pc' := 25) rfl ?_
  refine g_acmp_y C d1_25 rfl rfl (Jvm.Free.XT.aa_ne_t (fun q => (Fld.ne D_ENUM_VALUE D_SERVICE (by decide)) (Value.ref.inj q))) (pc' := 32) (by decide) (by decide) ?_
  refine g_iconst C d1_32 (v := (0 : Int32)) rfl (pc' := 33) rfl ?_
  refine g_ret C (v := (.int (0 : Int32))) (ty := .boolean) rfl rfl (Or.inl ⟨rfl, Or.inr (Or.inl rfl), _, rfl⟩) d1_33 (by decide) (by decide) ?_
  exact ⟨rfl, rfl⟩
set_option maxRecDepth 65536 in
set_option maxHeartbeats 40000000 in
theorem rm_isScope_SERVICE (l : Launch) (Z : State) (a0 : Array Value) (hw : ∀ d ∈ tables_1, d.before a0 Z = true) (n0 : Nat) (e_PACKAGE e_MESSAGE e_ENUM e_FIELD e_ONEOF e_ENUM_VALUE e_SERVICE e_METHOD : Addr) (h0 : Heap) (Z0 : n0 ≤ h0.size) (en : Ens Z e_PACKAGE e_MESSAGE e_ENUM e_FIELD e_ONEOF e_ENUM_VALUE e_SERVICE e_METHOD) (O : Old Z n0 h0) :
    Met1 l Z (⟨"com/example/wirefield/wirefield/Symbol$Kind", "isScope", "()Z"⟩ : MethodName) prog_66_method_5_code 1 (some .boolean) ({ frames := 0, cells := 0, slots := 0, locals := 0 } : Room) n0 #[(.ref e_SERVICE)] h0 (fun v h => v = some (.int (1 : Int32)) ∧ h0 = h) := by
  refine met_of (plainFor_of_name own_pn_com_example_wirefield_wirefield_Symbol_Kind) (L0 := #[.val (.ref e_SERVICE)]) (by first | rfl | (simp [argsToLocals, Value.category]; done)) ?_
  intro B C
  change Ctx B l _ _ "com/example/wirefield/wirefield/Symbol$Kind" "isScope" _ _ Z at C
  have en' := en
  obtain ⟨⟨S_PACKAGE, X_PACKAGE, D_PACKAGE⟩, ⟨S_MESSAGE, X_MESSAGE, D_MESSAGE⟩, ⟨S_ENUM, X_ENUM, D_ENUM⟩, ⟨S_FIELD, X_FIELD, D_FIELD⟩, ⟨S_ONEOF, X_ONEOF, D_ONEOF⟩, ⟨S_ENUM_VALUE, X_ENUM_VALUE, D_ENUM_VALUE⟩, ⟨S_SERVICE, X_SERVICE, D_SERVICE⟩, ⟨S_METHOD, X_METHOD, D_METHOD⟩⟩ := en'
  refine g_aload_n C d1_0 (v := (.ref e_SERVICE)) rfl rfl (pc' := 1) rfl ?_
  refine g_getstatic C (host := "") (v := (.ref e_PACKAGE)) (Or.inl (own_w hw 26 rfl)) Via.refl (S_PACKAGE.ext O.2) d1_1 (pc' := 4) rfl ?_
  refine g_acmp_n C d1_4 rfl rfl (Jvm.Free.XT.aa_eq_f (fun q => (Fld.ne D_SERVICE D_PACKAGE (by decide)) (Value.ref.inj q))) (pc' := 7) rfl ?_
  refine g_aload_n C d1_7 (v := (.ref e_SERVICE)) rfl rfl (pc' := 8) rfl ?_
  refine g_getstatic C (host := "") (v := (.ref e_MESSAGE)) (Or.inl (own_w hw 32 rfl)) Via.refl (S_MESSAGE.ext O.2) d1_8 (pc' := 11) rfl ?_
  refine g_acmp_n C d1_11 rfl rfl (Jvm.Free.XT.aa_eq_f (fun q => (Fld.ne D_SERVICE D_MESSAGE (by decide)) (Value.ref.inj q))) (pc' := 14) rfl ?_
  refine g_aload_n C d1_14 (v := (.ref e_SERVICE)) rfl rfl (pc' := 15) rfl ?_
  refine g_getstatic C (host := "") (v := (.ref e_ENUM)) (Or.inl (own_w hw 33 rfl)) Via.refl (S_ENUM.ext O.2) d1_15 (pc' := 18) rfl ?_
  refine g_acmp_n C d1_18 rfl rfl (Jvm.Free.XT.aa_eq_f (fun q => (Fld.ne D_SERVICE D_ENUM (by decide)) (Value.ref.inj q))) (pc' := 21) rfl ?_
  refine g_aload_n C d1_21 (v := (.ref e_SERVICE)) rfl rfl (pc' := 22) rfl ?_
  refine g_getstatic C (host := "") (v := (.ref e_SERVICE)) (Or.inl (own_w hw 34 rfl)) Via.refl (S_SERVICE.ext O.2) d1_22 (pc' := 25) rfl ?_
  refine g_acmp_n C d1_25 rfl rfl (Jvm.Free.XT.aa_ne_f rfl) (pc' := 28) rfl ?_
  refine g_iconst C d1_28 (v := (1 : Int32)) rfl (pc' := 29) rfl ?_
  refine g_goto C d1_29 (pc' := 33) (by decide) (by decide) ?_
  refine g_ret C (v := (.int (1 : Int32))) (ty := .boolean) rfl rfl (Or.inl ⟨rfl, Or.inr (Or.inl rfl), _, rfl⟩) d1_33 (by decide) (by decide) ?_
  exact ⟨rfl, rfl⟩
set_option maxRecDepth 65536 in
set_option maxHeartbeats 40000000 in
theorem rm_isScope_METHOD (l : Launch) (Z : State) (a0 : Array Value) (hw : ∀ d ∈ tables_1, d.before a0 Z = true) (n0 : Nat) (e_PACKAGE e_MESSAGE e_ENUM e_FIELD e_ONEOF e_ENUM_VALUE e_SERVICE e_METHOD : Addr) (h0 : Heap) (Z0 : n0 ≤ h0.size) (en : Ens Z e_PACKAGE e_MESSAGE e_ENUM e_FIELD e_ONEOF e_ENUM_VALUE e_SERVICE e_METHOD) (O : Old Z n0 h0) :
    Met1 l Z (⟨"com/example/wirefield/wirefield/Symbol$Kind", "isScope", "()Z"⟩ : MethodName) prog_66_method_5_code 1 (some .boolean) ({ frames := 0, cells := 0, slots := 0, locals := 0 } : Room) n0 #[(.ref e_METHOD)] h0 (fun v h => v = some (.int (0 : Int32)) ∧ h0 = h) := by
  refine met_of (plainFor_of_name own_pn_com_example_wirefield_wirefield_Symbol_Kind) (L0 := #[.val (.ref e_METHOD)]) (by first | rfl | (simp [argsToLocals, Value.category]; done)) ?_
  intro B C
  change Ctx B l _ _ "com/example/wirefield/wirefield/Symbol$Kind" "isScope" _ _ Z at C
  have en' := en
  obtain ⟨⟨S_PACKAGE, X_PACKAGE, D_PACKAGE⟩, ⟨S_MESSAGE, X_MESSAGE, D_MESSAGE⟩, ⟨S_ENUM, X_ENUM, D_ENUM⟩, ⟨S_FIELD, X_FIELD, D_FIELD⟩, ⟨S_ONEOF, X_ONEOF, D_ONEOF⟩, ⟨S_ENUM_VALUE, X_ENUM_VALUE, D_ENUM_VALUE⟩, ⟨S_SERVICE, X_SERVICE, D_SERVICE⟩, ⟨S_METHOD, X_METHOD, D_METHOD⟩⟩ := en'
  refine g_aload_n C d1_0 (v := (.ref e_METHOD)) rfl rfl (pc' := 1) rfl ?_
  refine g_getstatic C (host := "") (v := (.ref e_PACKAGE)) (Or.inl (own_w hw 26 rfl)) Via.refl (S_PACKAGE.ext O.2) d1_1 (pc' := 4) rfl ?_
  refine g_acmp_n C d1_4 rfl rfl (Jvm.Free.XT.aa_eq_f (fun q => (Fld.ne D_METHOD D_PACKAGE (by decide)) (Value.ref.inj q))) (pc' := 7) rfl ?_
  refine g_aload_n C d1_7 (v := (.ref e_METHOD)) rfl rfl (pc' := 8) rfl ?_
  refine g_getstatic C (host := "") (v := (.ref e_MESSAGE)) (Or.inl (own_w hw 32 rfl)) Via.refl (S_MESSAGE.ext O.2) d1_8 (pc' := 11) rfl ?_
  refine g_acmp_n C d1_11 rfl rfl (Jvm.Free.XT.aa_eq_f (fun q => (Fld.ne D_METHOD D_MESSAGE (by decide)) (Value.ref.inj q))) (pc' := 14) rfl ?_
  refine g_aload_n C d1_14 (v := (.ref e_METHOD)) rfl rfl (pc' := 15) rfl ?_
  refine g_getstatic C (host := "") (v := (.ref e_ENUM)) (Or.inl (own_w hw 33 rfl)) Via.refl (S_ENUM.ext O.2) d1_15 (pc' := 18) rfl ?_
  refine g_acmp_n C d1_18 rfl rfl (Jvm.Free.XT.aa_eq_f (fun q => (Fld.ne D_METHOD D_ENUM (by decide)) (Value.ref.inj q))) (pc' := 21) rfl ?_
  refine g_aload_n C d1_21 (v := (.ref e_METHOD)) rfl rfl (pc' := 22) rfl ?_
  refine g_getstatic C (host := "") (v := (.ref e_SERVICE)) (Or.inl (own_w hw 34 rfl)) Via.refl (S_SERVICE.ext O.2) d1_22 (pc' := 25) rfl ?_
  refine g_acmp_y C d1_25 rfl rfl (Jvm.Free.XT.aa_ne_t (fun q => (Fld.ne D_METHOD D_SERVICE (by decide)) (Value.ref.inj q))) (pc' := 32) (by decide) (by decide) ?_
  refine g_iconst C d1_32 (v := (0 : Int32)) rfl (pc' := 33) rfl ?_
  refine g_ret C (v := (.int (0 : Int32))) (ty := .boolean) rfl rfl (Or.inl ⟨rfl, Or.inr (Or.inl rfl), _, rfl⟩) d1_33 (by decide) (by decide) ?_
  exact ⟨rfl, rfl⟩
theorem d2_0 : decode prog_66_method_4_code 0 = .ok (.aload_n 0, 1) := by decide +kernel
theorem d2_1 : decode prog_66_method_4_code 1 = .ok (.getstatic 7, 3) := by decide +kernel
theorem d2_4 : decode prog_66_method_4_code 4 = .ok (.if_acmp .eq 10, 3) := by decide +kernel
theorem d2_7 : decode prog_66_method_4_code 7 = .ok (.aload_n 0, 1) := by decide +kernel
theorem d2_8 : decode prog_66_method_4_code 8 = .ok (.getstatic 10, 3) := by decide +kernel
theorem d2_11 : decode prog_66_method_4_code 11 = .ok (.if_acmp .ne 7, 3) := by decide +kernel
theorem d2_18 : decode prog_66_method_4_code 18 = .ok (.iconst 0, 1) := by decide +kernel
theorem d2_19 : decode prog_66_method_4_code 19 = .ok (.ireturn, 1) := by decide +kernel
set_option maxRecDepth 65536 in
set_option maxHeartbeats 40000000 in
theorem rm_isType_PACKAGE (l : Launch) (Z : State) (a0 : Array Value) (hw : ∀ d ∈ tables_1, d.before a0 Z = true) (n0 : Nat) (e_PACKAGE e_MESSAGE e_ENUM e_FIELD e_ONEOF e_ENUM_VALUE e_SERVICE e_METHOD : Addr) (h0 : Heap) (Z0 : n0 ≤ h0.size) (en : Ens Z e_PACKAGE e_MESSAGE e_ENUM e_FIELD e_ONEOF e_ENUM_VALUE e_SERVICE e_METHOD) (O : Old Z n0 h0) :
    Met1 l Z (⟨"com/example/wirefield/wirefield/Symbol$Kind", "isType", "()Z"⟩ : MethodName) prog_66_method_4_code 1 (some .boolean) ({ frames := 0, cells := 0, slots := 0, locals := 0 } : Room) n0 #[(.ref e_PACKAGE)] h0 (fun v h => v = some (.int (0 : Int32)) ∧ h0 = h) := by
  refine met_of (plainFor_of_name own_pn_com_example_wirefield_wirefield_Symbol_Kind) (L0 := #[.val (.ref e_PACKAGE)]) (by first | rfl | (simp [argsToLocals, Value.category]; done)) ?_
  intro B C
  change Ctx B l _ _ "com/example/wirefield/wirefield/Symbol$Kind" "isType" _ _ Z at C
  have en' := en
  obtain ⟨⟨S_PACKAGE, X_PACKAGE, D_PACKAGE⟩, ⟨S_MESSAGE, X_MESSAGE, D_MESSAGE⟩, ⟨S_ENUM, X_ENUM, D_ENUM⟩, ⟨S_FIELD, X_FIELD, D_FIELD⟩, ⟨S_ONEOF, X_ONEOF, D_ONEOF⟩, ⟨S_ENUM_VALUE, X_ENUM_VALUE, D_ENUM_VALUE⟩, ⟨S_SERVICE, X_SERVICE, D_SERVICE⟩, ⟨S_METHOD, X_METHOD, D_METHOD⟩⟩ := en'
  refine g_aload_n C d2_0 (v := (.ref e_PACKAGE)) rfl rfl (pc' := 1) rfl ?_
  refine g_getstatic C (host := "") (v := (.ref e_MESSAGE)) (Or.inl (own_w hw 32 rfl)) Via.refl (S_MESSAGE.ext O.2) d2_1 (pc' := 4) rfl ?_
  refine g_acmp_n C d2_4 rfl rfl (Jvm.Free.XT.aa_eq_f (fun q => (Fld.ne D_PACKAGE D_MESSAGE (by decide)) (Value.ref.inj q))) (pc' := 7) rfl ?_
  refine g_aload_n C d2_7 (v := (.ref e_PACKAGE)) rfl rfl (pc' := 8) rfl ?_
  refine g_getstatic C (host := "") (v := (.ref e_ENUM)) (Or.inl (own_w hw 33 rfl)) Via.refl (S_ENUM.ext O.2) d2_8 (pc' := 11) rfl ?_
  refine g_acmp_y C d2_11 rfl rfl (Jvm.Free.XT.aa_ne_t (fun q => (Fld.ne D_PACKAGE D_ENUM (by decide)) (Value.ref.inj q))) (pc' := 18) (by decide) (by decide) ?_
  refine g_iconst C d2_18 (v := (0 : Int32)) rfl (pc' := 19) rfl ?_
  refine g_ret C (v := (.int (0 : Int32))) (ty := .boolean) rfl rfl (Or.inl ⟨rfl, Or.inr (Or.inl rfl), _, rfl⟩) d2_19 (by decide) (by decide) ?_
  exact ⟨rfl, rfl⟩
theorem d2_14 : decode prog_66_method_4_code 14 = .ok (.iconst 1, 1) := by decide +kernel
theorem d2_15 : decode prog_66_method_4_code 15 = .ok (.goto 4, 3) := by decide +kernel
set_option maxRecDepth 65536 in
set_option maxHeartbeats 40000000 in
theorem rm_isType_MESSAGE (l : Launch) (Z : State) (a0 : Array Value) (hw : ∀ d ∈ tables_1, d.before a0 Z = true) (n0 : Nat) (e_PACKAGE e_MESSAGE e_ENUM e_FIELD e_ONEOF e_ENUM_VALUE e_SERVICE e_METHOD : Addr) (h0 : Heap) (Z0 : n0 ≤ h0.size) (en : Ens Z e_PACKAGE e_MESSAGE e_ENUM e_FIELD e_ONEOF e_ENUM_VALUE e_SERVICE e_METHOD) (O : Old Z n0 h0) :
    Met1 l Z (⟨"com/example/wirefield/wirefield/Symbol$Kind", "isType", "()Z"⟩ : MethodName) prog_66_method_4_code 1 (some .boolean) ({ frames := 0, cells := 0, slots := 0, locals := 0 } : Room) n0 #[(.ref e_MESSAGE)] h0 (fun v h => v = some (.int (1 : Int32)) ∧ h0 = h) := by
  refine met_of (plainFor_of_name own_pn_com_example_wirefield_wirefield_Symbol_Kind) (L0 := #[.val (.ref e_MESSAGE)]) (by first | rfl | (simp [argsToLocals, Value.category]; done)) ?_
  intro B C
  change Ctx B l _ _ "com/example/wirefield/wirefield/Symbol$Kind" "isType" _ _ Z at C
  have en' := en
  obtain ⟨⟨S_PACKAGE, X_PACKAGE, D_PACKAGE⟩, ⟨S_MESSAGE, X_MESSAGE, D_MESSAGE⟩, ⟨S_ENUM, X_ENUM, D_ENUM⟩, ⟨S_FIELD, X_FIELD, D_FIELD⟩, ⟨S_ONEOF, X_ONEOF, D_ONEOF⟩, ⟨S_ENUM_VALUE, X_ENUM_VALUE, D_ENUM_VALUE⟩, ⟨S_SERVICE, X_SERVICE, D_SERVICE⟩, ⟨S_METHOD, X_METHOD, D_METHOD⟩⟩ := en'
  refine g_aload_n C d2_0 (v := (.ref e_MESSAGE)) rfl rfl (pc' := 1) rfl ?_
  refine g_getstatic C (host := "") (v := (.ref e_MESSAGE)) (Or.inl (own_w hw 32 rfl)) Via.refl (S_MESSAGE.ext O.2) d2_1 (pc' := 4) rfl ?_
  refine g_acmp_y C d2_4 rfl rfl (Jvm.Free.XT.aa_eq_t rfl) (pc' := 14) (by decide) (by decide) ?_
  refine g_iconst C d2_14 (v := (1 : Int32)) rfl (pc' := 15) rfl ?_
  refine g_goto C d2_15 (pc' := 19) (by decide) (by decide) ?_
  refine g_ret C (v := (.int (1 : Int32))) (ty := .boolean) rfl rfl (Or.inl ⟨rfl, Or.inr (Or.inl rfl), _, rfl⟩) d2_19 (by decide) (by decide) ?_
  exact ⟨rfl, rfl⟩
set_option maxRecDepth 65536 in
set_option maxHeartbeats 40000000 in
theorem rm_isType_ENUM (l : Launch) (Z : State) (a0 : Array Value) (hw : ∀ d ∈ tables_1, d.before a0 Z = true) (n0 : Nat) (e_PACKAGE e_MESSAGE e_ENUM e_FIELD e_ONEOF e_ENUM_VALUE e_SERVICE e_METHOD : Addr) (h0 : Heap) (Z0 : n0 ≤ h0.size) (en : Ens Z e_PACKAGE e_MESSAGE e_ENUM e_FIELD e_ONEOF e_ENUM_VALUE e_SERVICE e_METHOD) (O : Old Z n0 h0) :
    Met1 l Z (⟨"com/example/wirefield/wirefield/Symbol$Kind", "isType", "()Z"⟩ : MethodName) prog_66_method_4_code 1 (some .boolean) ({ frames := 0, cells := 0, slots := 0, locals := 0 } : Room) n0 #[(.ref e_ENUM)] h0 (fun v h => v = some (.int (1 : Int32)) ∧ h0 = h) := by
  refine met_of (plainFor_of_name own_pn_com_example_wirefield_wirefield_Symbol_Kind) (L0 := #[.val (.ref e_ENUM)]) (by first | rfl | (simp [argsToLocals, Value.category]; done)) ?_
  intro B C
  change Ctx B l _ _ "com/example/wirefield/wirefield/Symbol$Kind" "isType" _ _ Z at C
  have en' := en
  obtain ⟨⟨S_PACKAGE, X_PACKAGE, D_PACKAGE⟩, ⟨S_MESSAGE, X_MESSAGE, D_MESSAGE⟩, ⟨S_ENUM, X_ENUM, D_ENUM⟩, ⟨S_FIELD, X_FIELD, D_FIELD⟩, ⟨S_ONEOF, X_ONEOF, D_ONEOF⟩, ⟨S_ENUM_VALUE, X_ENUM_VALUE, D_ENUM_VALUE⟩, ⟨S_SERVICE, X_SERVICE, D_SERVICE⟩, ⟨S_METHOD, X_METHOD, D_METHOD⟩⟩ := en'
  refine g_aload_n C d2_0 (v := (.ref e_ENUM)) rfl rfl (pc' := 1) rfl ?_
  refine g_getstatic C (host := "") (v := (.ref e_MESSAGE)) (Or.inl (own_w hw 32 rfl)) Via.refl (S_MESSAGE.ext O.2) d2_1 (pc' := 4) rfl ?_
  refine g_acmp_n C d2_4 rfl rfl (Jvm.Free.XT.aa_eq_f (fun q => (Fld.ne D_ENUM D_MESSAGE (by decide)) (Value.ref.inj q))) (pc' := 7) rfl ?_
  refine g_aload_n C d2_7 (v := (.ref e_ENUM)) rfl rfl (pc' := 8) rfl ?_
  refine g_getstatic C (host := "") (v := (.ref e_ENUM)) (Or.inl (own_w hw 33 rfl)) Via.refl (S_ENUM.ext O.2) d2_8 (pc' := 11) rfl ?_
  refine g_acmp_n C d2_11 rfl rfl (Jvm.Free.XT.aa_ne_f rfl) (pc' := 14) rfl ?_
  refine g_iconst C d2_14 (v := (1 : Int32)) rfl (pc' := 15) rfl ?_
  refine g_goto C d2_15 (pc' := 19) (by decide) (by decide) ?_
  refine g_ret C (v := (.int (1 : Int32))) (ty := .boolean) rfl rfl (Or.inl ⟨rfl, Or.inr (Or.inl rfl), _, rfl⟩) d2_19 (by decide) (by decide) ?_
  exact ⟨rfl, rfl⟩
set_option maxRecDepth 65536 in
set_option maxHeartbeats 40000000 in
theorem rm_isType_FIELD (l : Launch) (Z : State) (a0 : Array Value) (hw : ∀ d ∈ tables_1, d.before a0 Z = true) (n0 : Nat) (e_PACKAGE e_MESSAGE e_ENUM e_FIELD e_ONEOF e_ENUM_VALUE e_SERVICE e_METHOD : Addr) (h0 : Heap) (Z0 : n0 ≤ h0.size) (en : Ens Z e_PACKAGE e_MESSAGE e_ENUM e_FIELD e_ONEOF e_ENUM_VALUE e_SERVICE e_METHOD) (O : Old Z n0 h0) :
    Met1 l Z (⟨"com/example/wirefield/wirefield/Symbol$Kind", "isType", "()Z"⟩ : MethodName) prog_66_method_4_code 1 (some .boolean) ({ frames := 0, cells := 0, slots := 0, locals := 0 } : Room) n0 #[(.ref e_FIELD)] h0 (fun v h => v = some (.int (0 : Int32)) ∧ h0 = h) := by
  refine met_of (plainFor_of_name own_pn_com_example_wirefield_wirefield_Symbol_Kind) (L0 := #[.val (.ref e_FIELD)]) (by first | rfl | (simp [argsToLocals, Value.category]; done)) ?_
  intro B C
  change Ctx B l _ _ "com/example/wirefield/wirefield/Symbol$Kind" "isType" _ _ Z at C
  have en' := en
  obtain ⟨⟨S_PACKAGE, X_PACKAGE, D_PACKAGE⟩, ⟨S_MESSAGE, X_MESSAGE, D_MESSAGE⟩, ⟨S_ENUM, X_ENUM, D_ENUM⟩, ⟨S_FIELD, X_FIELD, D_FIELD⟩, ⟨S_ONEOF, X_ONEOF, D_ONEOF⟩, ⟨S_ENUM_VALUE, X_ENUM_VALUE, D_ENUM_VALUE⟩, ⟨S_SERVICE, X_SERVICE, D_SERVICE⟩, ⟨S_METHOD, X_METHOD, D_METHOD⟩⟩ := en'
  refine g_aload_n C d2_0 (v := (.ref e_FIELD)) rfl rfl (pc' := 1) rfl ?_
  refine g_getstatic C (host := "") (v := (.ref e_MESSAGE)) (Or.inl (own_w hw 32 rfl)) Via.refl (S_MESSAGE.ext O.2) d2_1 (pc' := 4) rfl ?_
  refine g_acmp_n C d2_4 rfl rfl (Jvm.Free.XT.aa_eq_f (fun q => (Fld.ne D_FIELD D_MESSAGE (by decide)) (Value.ref.inj q))) (pc' := 7) rfl ?_
  refine g_aload_n C d2_7 (v := (.ref e_FIELD)) rfl rfl (pc' := 8) rfl ?_
  refine g_getstatic C (host := "") (v := (.ref e_ENUM)) (Or.inl (own_w hw 33 rfl)) Via.refl (S_ENUM.ext O.2) d2_8 (pc' := 11) rfl ?_
  refine g_acmp_y C d2_11 rfl rfl (Jvm.Free.XT.aa_ne_t (fun q => (Fld.ne D_FIELD D_ENUM (by decide)) (Value.ref.inj q))) (pc' := 18) (by decide) (by decide) ?_
  refine g_iconst C d2_18 (v := (0 : Int32)) rfl (pc' := 19) rfl ?_
  refine g_ret C (v := (.int (0 : Int32))) (ty := .boolean) rfl rfl (Or.inl ⟨rfl, Or.inr (Or.inl rfl), _, rfl⟩) d2_19 (by decide) (by decide) ?_
  exact ⟨rfl, rfl⟩
set_option maxRecDepth 65536 in
set_option maxHeartbeats 40000000 in
theorem rm_isType_ONEOF (l : Launch) (Z : State) (a0 : Array Value) (hw : ∀ d ∈ tables_1, d.before a0 Z = true) (n0 : Nat) (e_PACKAGE e_MESSAGE e_ENUM e_FIELD e_ONEOF e_ENUM_VALUE e_SERVICE e_METHOD : Addr) (h0 : Heap) (Z0 : n0 ≤ h0.size) (en : Ens Z e_PACKAGE e_MESSAGE e_ENUM e_FIELD e_ONEOF e_ENUM_VALUE e_SERVICE e_METHOD) (O : Old Z n0 h0) :
    Met1 l Z (⟨"com/example/wirefield/wirefield/Symbol$Kind", "isType", "()Z"⟩ : MethodName) prog_66_method_4_code 1 (some .boolean) ({ frames := 0, cells := 0, slots := 0, locals := 0 } : Room) n0 #[(.ref e_ONEOF)] h0 (fun v h => v = some (.int (0 : Int32)) ∧ h0 = h) := by
  refine met_of (plainFor_of_name own_pn_com_example_wirefield_wirefield_Symbol_Kind) (L0 := #[.val (.ref e_ONEOF)]) (by first | rfl | (simp [argsToLocals, Value.category]; done)) ?_
  intro B C
  change Ctx B l _ _ "com/example/wirefield/wirefield/Symbol$Kind" "isType" _ _ Z at C
  have en' := en
  obtain ⟨⟨S_PACKAGE, X_PACKAGE, D_PACKAGE⟩, ⟨S_MESSAGE, X_MESSAGE, D_MESSAGE⟩, ⟨S_ENUM, X_ENUM, D_ENUM⟩, ⟨S_FIELD, X_FIELD, D_FIELD⟩, ⟨S_ONEOF, X_ONEOF, D_ONEOF⟩, ⟨S_ENUM_VALUE, X_ENUM_VALUE, D_ENUM_VALUE⟩, ⟨S_SERVICE, X_SERVICE, D_SERVICE⟩, ⟨S_METHOD, X_METHOD, D_METHOD⟩⟩ := en'
  refine g_aload_n C d2_0 (v := (.ref e_ONEOF)) rfl rfl (pc' := 1) rfl ?_
  refine g_getstatic C (host := "") (v := (.ref e_MESSAGE)) (Or.inl (own_w hw 32 rfl)) Via.refl (S_MESSAGE.ext O.2) d2_1 (pc' := 4) rfl ?_
  refine g_acmp_n C d2_4 rfl rfl (Jvm.Free.XT.aa_eq_f (fun q => (Fld.ne D_ONEOF D_MESSAGE (by decide)) (Value.ref.inj q))) (pc' := 7) rfl ?_
  refine g_aload_n C d2_7 (v := (.ref e_ONEOF)) rfl rfl (pc' := 8) rfl ?_
  refine g_getstatic C (host := "") (v := (.ref e_ENUM)) (Or.inl (own_w hw 33 rfl)) Via.refl (S_ENUM.ext O.2) d2_8 (pc' := 11) rfl ?_
  refine g_acmp_y C d2_11 rfl rfl (Jvm.Free.XT.aa_ne_t (fun q => (Fld.ne D_ONEOF D_ENUM (by decide)) (Value.ref.inj q))) (pc' := 18) (by decide) (by decide) ?_
  refine g_iconst C d2_18 (v := (0 : Int32)) rfl (pc' := 19) rfl ?_
  refine g_ret C (v := (.int (0 : Int32))) (ty := .boolean) rfl rfl (Or.inl ⟨rfl, Or.inr (Or.inl rfl), _, rfl⟩) d2_19 (by decide) (by decide) ?_
  exact ⟨rfl, rfl⟩
set_option maxRecDepth 65536 in
set_option maxHeartbeats 40000000 in
theorem rm_isType_ENUM_VALUE (l : Launch) (Z : State) (a0 : Array Value) (hw : ∀ d ∈ tables_1, d.before a0 Z = true) (n0 : Nat) (e_PACKAGE e_MESSAGE e_ENUM e_FIELD e_ONEOF e_ENUM_VALUE e_SERVICE e_METHOD : Addr) (h0 : Heap) (Z0 : n0 ≤ h0.size) (en : Ens Z e_PACKAGE e_MESSAGE e_ENUM e_FIELD e_ONEOF e_ENUM_VALUE e_SERVICE e_METHOD) (O : Old Z n0 h0) :
    Met1 l Z (⟨"com/example/wirefield/wirefield/Symbol$Kind", "isType", "()Z"⟩ : MethodName) prog_66_method_4_code 1 (some .boolean) ({ frames := 0, cells := 0, slots := 0, locals := 0 } : Room) n0 #[(.ref e_ENUM_VALUE)] h0 (fun v h => v = some (.int (0 : Int32)) ∧ h0 = h) := by
  refine met_of (plainFor_of_name own_pn_com_example_wirefield_wirefield_Symbol_Kind) (L0 := #[.val (.ref e_ENUM_VALUE)]) (by first | rfl | (simp [argsToLocals, Value.category]; done)) ?_
  intro B C
  change Ctx B l _ _ "com/example/wirefield/wirefield/Symbol$Kind" "isType" _ _ Z at C
  have en' := en
  obtain ⟨⟨S_PACKAGE, X_PACKAGE, D_PACKAGE⟩, ⟨S_MESSAGE, X_MESSAGE, D_MESSAGE⟩, ⟨S_ENUM, X_ENUM, D_ENUM⟩, ⟨S_FIELD, X_FIELD, D_FIELD⟩, ⟨S_ONEOF, X_ONEOF, D_ONEOF⟩, ⟨S_ENUM_VALUE, X_ENUM_VALUE, D_ENUM_VALUE⟩, ⟨S_SERVICE, X_SERVICE, D_SERVICE⟩, ⟨S_METHOD, X_METHOD, D_METHOD⟩⟩ := en'
  refine g_aload_n C d2_0 (v := (.ref e_ENUM_VALUE)) rfl rfl (pc' := 1) rfl ?_
  refine g_getstatic C (host := "") (v := (.ref e_MESSAGE)) (Or.inl (own_w hw 32 rfl)) Via.refl (S_MESSAGE.ext O.2) d2_1 (pc' := 4) rfl ?_
  refine g_acmp_n C d2_4 rfl rfl (Jvm.Free.XT.aa_eq_f (fun q => (Fld.ne D_ENUM_VALUE D_MESSAGE (by decide)) (Value.ref.inj q))) (pc' := 7) rfl ?_
  refine g_aload_n C d2_7 (v := (.ref e_ENUM_VALUE)) rfl rfl (pc' := 8) rfl ?_
  refine g_getstatic C (host := "") (v := (.ref e_ENUM)) (Or.inl (own_w hw 33 rfl)) Via.refl (S_ENUM.ext O.2) d2_8 (pc' := 11) rfl ?_
  refine g_acmp_y C d2_11 rfl rfl (Jvm.Free.XT.aa_ne_t (fun q => (Fld.ne D_ENUM_VALUE D_ENUM (by decide)) (Value.ref.inj q))) (pc' := 18) (by decide) (by decide) ?_
  refine g_iconst C d2_18 (v := (0 : Int32)) rfl (pc' := 19) rfl ?_
  refine g_ret C (v := (.int (0 : Int32))) (ty := .boolean) rfl rfl (Or.inl ⟨rfl, Or.inr (Or.inl rfl), _, rfl⟩) d2_19 (by decide) (by decide) ?_
  exact ⟨rfl, rfl⟩
set_option maxRecDepth 65536 in
set_option maxHeartbeats 40000000 in
theorem rm_isType_SERVICE (l : Launch) (Z : State) (a0 : Array Value) (hw : ∀ d ∈ tables_1, d.before a0 Z = true) (n0 : Nat) (e_PACKAGE e_MESSAGE e_ENUM e_FIELD e_ONEOF e_ENUM_VALUE e_SERVICE e_METHOD : Addr) (h0 : Heap) (Z0 : n0 ≤ h0.size) (en : Ens Z e_PACKAGE e_MESSAGE e_ENUM e_FIELD e_ONEOF e_ENUM_VALUE e_SERVICE e_METHOD) (O : Old Z n0 h0) :
    Met1 l Z (⟨"com/example/wirefield/wirefield/Symbol$Kind", "isType", "()Z"⟩ : MethodName) prog_66_method_4_code 1 (some .boolean) ({ frames := 0, cells := 0, slots := 0, locals := 0 } : Room) n0 #[(.ref e_SERVICE)] h0 (fun v h => v = some (.int (0 : Int32)) ∧ h0 = h) := by
  refine met_of (plainFor_of_name own_pn_com_example_wirefield_wirefield_Symbol_Kind) (L0 := #[.val (.ref e_SERVICE)]) (by first | rfl | (simp [argsToLocals, Value.category]; done)) ?_
  intro B C
  change Ctx B l _ _ "com/example/wirefield/wirefield/Symbol$Kind" "isType" _ _ Z at C
  have en' := en
  obtain ⟨⟨S_PACKAGE, X_PACKAGE, D_PACKAGE⟩, ⟨S_MESSAGE, X_MESSAGE, D_MESSAGE⟩, ⟨S_ENUM, X_ENUM, D_ENUM⟩, ⟨S_FIELD, X_FIELD, D_FIELD⟩, ⟨S_ONEOF, X_ONEOF, D_ONEOF⟩, ⟨S_ENUM_VALUE, X_ENUM_VALUE, D_ENUM_VALUE⟩, ⟨S_SERVICE, X_SERVICE, D_SERVICE⟩, ⟨S_METHOD, X_METHOD, D_METHOD⟩⟩ := en'
  refine g_aload_n C d2_0 (v := (.ref e_SERVICE)) rfl rfl (pc' := 1) rfl ?_
  refine g_getstatic C (host := "") (v := (.ref e_MESSAGE)) (Or.inl (own_w hw 32 rfl)) Via.refl (S_MESSAGE.ext O.2) d2_1 (pc' := 4) rfl ?_
  refine g_acmp_n C d2_4 rfl rfl (Jvm.Free.XT.aa_eq_f (fun q => (Fld.ne D_SERVICE D_MESSAGE (by decide)) (Value.ref.inj q))) (pc' := 7) rfl ?_
  refine g_aload_n C d2_7 (v := (.ref e_SERVICE)) rfl rfl (pc' := 8) rfl ?_
  refine g_getstatic C (host := "") (v := (.ref e_ENUM)) (Or.inl (own_w hw 33 rfl)) Via.refl (S_ENUM.ext O.2) d2_8 (pc' := 11) rfl ?_
  refine g_acmp_y C d2_11 rfl rfl (Jvm.Free.XT.aa_ne_t (fun q => (Fld.ne D_SERVICE D_ENUM (by decide)) (Value.ref.inj q))) (pc' := 18) (by decide) (by decide) ?_
  refine g_iconst C d2_18 (v := (0 : Int32)) rfl (pc' := 19) rfl ?_
  refine g_ret C (v := (.int (0 : Int32))) (ty := .boolean) rfl rfl (Or.inl ⟨rfl, Or.inr (Or.inl rfl), _, rfl⟩) d2_19 (by decide) (by decide) ?_
  exact ⟨rfl, rfl⟩
set_option maxRecDepth 65536 in
set_option maxHeartbeats 40000000 in
theorem rm_isType_METHOD (l : Launch) (Z : State) (a0 : Array Value) (hw : ∀ d ∈ tables_1, d.before a0 Z = true) (n0 : Nat) (e_PACKAGE e_MESSAGE e_ENUM e_FIELD e_ONEOF e_ENUM_VALUE e_SERVICE e_METHOD : Addr) (h0 : Heap) (Z0 : n0 ≤ h0.size) (en : Ens Z e_PACKAGE e_MESSAGE e_ENUM e_FIELD e_ONEOF e_ENUM_VALUE e_SERVICE e_METHOD) (O : Old Z n0 h0) :
    Met1 l Z (⟨"com/example/wirefield/wirefield/Symbol$Kind", "isType", "()Z"⟩ : MethodName) prog_66_method_4_code 1 (some .boolean) ({ frames := 0, cells := 0, slots := 0, locals := 0 } : Room) n0 #[(.ref e_METHOD)] h0 (fun v h => v = some (.int (0 : Int32)) ∧ h0 = h) := by
  refine met_of (plainFor_of_name own_pn_com_example_wirefield_wirefield_Symbol_Kind) (L0 := #[.val (.ref e_METHOD)]) (by first | rfl | (simp [argsToLocals, Value.category]; done)) ?_
  intro B C
  change Ctx B l _ _ "com/example/wirefield/wirefield/Symbol$Kind" "isType" _ _ Z at C
  have en' := en
  obtain ⟨⟨S_PACKAGE, X_PACKAGE, D_PACKAGE⟩, ⟨S_MESSAGE, X_MESSAGE, D_MESSAGE⟩, ⟨S_ENUM, X_ENUM, D_ENUM⟩, ⟨S_FIELD, X_FIELD, D_FIELD⟩, ⟨S_ONEOF, X_ONEOF, D_ONEOF⟩, ⟨S_ENUM_VALUE, X_ENUM_VALUE, D_ENUM_VALUE⟩, ⟨S_SERVICE, X_SERVICE, D_SERVICE⟩, ⟨S_METHOD, X_METHOD, D_METHOD⟩⟩ := en'
  refine g_aload_n C d2_0 (v := (.ref e_METHOD)) rfl rfl (pc' := 1) rfl ?_
  refine g_getstatic C (host := "") (v := (.ref e_MESSAGE)) (Or.inl (own_w hw 32 rfl)) Via.refl (S_MESSAGE.ext O.2) d2_1 (pc' := 4) rfl ?_
  refine g_acmp_n C d2_4 rfl rfl (Jvm.Free.XT.aa_eq_f (fun q => (Fld.ne D_METHOD D_MESSAGE (by decide)) (Value.ref.inj q))) (pc' := 7) rfl ?_
  refine g_aload_n C d2_7 (v := (.ref e_METHOD)) rfl rfl (pc' := 8) rfl ?_
  refine g_getstatic C (host := "") (v := (.ref e_ENUM)) (Or.inl (own_w hw 33 rfl)) Via.refl (S_ENUM.ext O.2) d2_8 (pc' := 11) rfl ?_
  refine g_acmp_y C d2_11 rfl rfl (Jvm.Free.XT.aa_ne_t (fun q => (Fld.ne D_METHOD D_ENUM (by decide)) (Value.ref.inj q))) (pc' := 18) (by decide) (by decide) ?_
  refine g_iconst C d2_18 (v := (0 : Int32)) rfl (pc' := 19) rfl ?_
  refine g_ret C (v := (.int (0 : Int32))) (ty := .boolean) rfl rfl (Or.inl ⟨rfl, Or.inr (Or.inl rfl), _, rfl⟩) d2_19 (by decide) (by decide) ?_
  exact ⟨rfl, rfl⟩
theorem own_and7 (x : Int32) : 0 ≤ (x &&& (7 : Int32)).toInt ∧ (x &&& (7 : Int32)).toInt < 8 := by
  have h := c_mask x (7 : Int32) 3 (by decide) (by decide)
  omega
theorem own_split8 (i : Int32) (h0 : 0 ≤ i.toInt) (h1 : i.toInt < 8) : i = (0 : Int32) ∨ i = (1 : Int32) ∨ i = (2 : Int32) ∨ i = (3 : Int32) ∨ i = (4 : Int32) ∨ i = (5 : Int32) ∨ i = (6 : Int32) ∨ i = (7 : Int32) := by
  simp only [← Int32.toInt_inj, Int32.reduceToInt]; omega
theorem own_pd_0_isScope : parseMethodDescriptor "()Z" = some ⟨[], (some .boolean)⟩ := by decide +kernel
theorem own_pd_0_isType : parseMethodDescriptor "()Z" = some ⟨[], (some .boolean)⟩ := by decide +kernel
theorem own_pn_com_example_wirefield_wirefield_KindIsScopePinLaw : plainName "com/example/wirefield/wirefield/KindIsScopePinLaw" = true := by first | (simp [plainName, overriddenIn]; done) | decide +kernel
set_option maxRecDepth 65536 in
set_option maxHeartbeats 40000000 in
theorem rm_law (l : Launch) (Z : State) (a0 : Array Value) (hw : ∀ d ∈ tables_1, d.before a0 Z = true) (n0 : Nat) (p0 : Int32) (e_PACKAGE e_MESSAGE e_ENUM e_FIELD e_ONEOF e_ENUM_VALUE e_SERVICE e_METHOD : Addr) (h0 : Heap) (Z0 : n0 ≤ h0.size) (en : Ens Z e_PACKAGE e_MESSAGE e_ENUM e_FIELD e_ONEOF e_ENUM_VALUE e_SERVICE e_METHOD) (O : Old Z n0 h0) :
    Met1 l Z x code maxLocals ret room_1 n0 #[(.int p0)] h0 (fun v h => v = some (.int 1)) := by
  refine met_of (plainFor_of_name own_pn_com_example_wirefield_wirefield_KindIsScopePinLaw) (L0 := #[.val (.int p0), .unset, .unset, .unset, .unset, .unset, .unset]) (by first | rfl | (simp [argsToLocals, Value.category]; done)) ?_
  intro B C
  change Ctx B l room_1 code "com/example/wirefield/wirefield/KindIsScopePinLaw" "law" 7 (some .boolean) Z at C
  have en' := en
  obtain ⟨⟨S_PACKAGE, X_PACKAGE, D_PACKAGE⟩, ⟨S_MESSAGE, X_MESSAGE, D_MESSAGE⟩, ⟨S_ENUM, X_ENUM, D_ENUM⟩, ⟨S_FIELD, X_FIELD, D_FIELD⟩, ⟨S_ONEOF, X_ONEOF, D_ONEOF⟩, ⟨S_ENUM_VALUE, X_ENUM_VALUE, D_ENUM_VALUE⟩, ⟨S_SERVICE, X_SERVICE, D_SERVICE⟩, ⟨S_METHOD, X_METHOD, D_METHOD⟩⟩ := en'
  refine g_bipush C at_0 (v := (8 : Int32)) rfl (pc' := 2) rfl ?_
  refine g_anewarray C (own_w hw 0 rfl) (own_w hw 1 rfl) (by decide) (cap := 8) (by decide) (by decide) (by decide) (by decide) at_2 (pc' := 5) rfl ?_
  intro h_1 a_2 g_3 E_4 A_5
  have ne_6 : e_ENUM ≠ a_2 := ne_new (X_ENUM.ext O.2).lt g_3
  have ne_7 : e_ENUM_VALUE ≠ a_2 := ne_new (X_ENUM_VALUE.ext O.2).lt g_3
  have ne_8 : e_FIELD ≠ a_2 := ne_new (X_FIELD.ext O.2).lt g_3
  have ne_9 : e_MESSAGE ≠ a_2 := ne_new (X_MESSAGE.ext O.2).lt g_3
  have ne_10 : e_METHOD ≠ a_2 := ne_new (X_METHOD.ext O.2).lt g_3
  have ne_11 : e_ONEOF ≠ a_2 := ne_new (X_ONEOF.ext O.2).lt g_3
  have ne_12 : e_PACKAGE ≠ a_2 := ne_new (X_PACKAGE.ext O.2).lt g_3
  have ne_13 : e_SERVICE ≠ a_2 := ne_new (X_SERVICE.ext O.2).lt g_3
  have ge_a_2 : n0 ≤ a_2 := Nat.le_trans Z0 (Nat.le_of_eq g_3.symm)
  have gs_a_2 : h0.size ≤ a_2 := Nat.le_trans (Nat.le_refl h0.size) (Nat.le_of_eq g_3.symm)
  have f_14 : AryR Z h_1 a_2 "com/example/wirefield/wirefield/Symbol$Kind" [.null, .null, .null, .null, .null, .null, .null, .null] := A_5
  show Go B n0 _ h_1 1 8 5 #[.val (.int p0), .unset, .unset, .unset, .unset, .unset, .unset] [(.ref a_2)]
  refine g_dup C at_5 rfl (pc' := 6) rfl ?_
  refine g_iconst C at_6 (v := (0 : Int32)) rfl (pc' := 7) rfl ?_
  have f_15 := (O.ext E_4)
  refine g_getstatic C (host := "") (v := (.ref e_PACKAGE)) (Or.inl (own_w hw 2 rfl)) Via.refl (S_PACKAGE.ext f_15.2) at_7 (pc' := 10) rfl ?_
  have f_19 := ((X_PACKAGE.ext O.2).ext E_4)
  refine g_aastore C f_14 (Ins.self f_19) (by decide) (i := 0) (by decide) (show 0 < 8 by decide) ge_a_2 at_10 (pc' := 11) rfl ?_
  intro h_16 K_17 A_18
  have f_20 : AryR Z h_16 a_2 "com/example/wirefield/wirefield/Symbol$Kind" [(.ref e_PACKAGE), .null, .null, .null, .null, .null, .null, .null] := A_18
  refine g_dup C at_11 rfl (pc' := 12) rfl ?_
  refine g_iconst C at_12 (v := (1 : Int32)) rfl (pc' := 13) rfl ?_
  have f_21 := (f_15.keep K_17 (allS ge_a_2 all0))
  refine g_getstatic C (host := "") (v := (.ref e_MESSAGE)) (Or.inl (own_w hw 6 rfl)) Via.refl (S_MESSAGE.ext f_21.2) at_13 (pc' := 16) rfl ?_
  have f_25 := (((X_MESSAGE.ext O.2).ext E_4).keep K_17)
  refine g_aastore C f_20 (Ins.self f_25) (by decide) (i := 1) (by decide) (show 1 < 8 by decide) ge_a_2 at_16 (pc' := 17) rfl ?_
  intro h_22 K_23 A_24
  have f_26 : AryR Z h_22 a_2 "com/example/wirefield/wirefield/Symbol$Kind" [(.ref e_PACKAGE), (.ref e_MESSAGE), .null, .null, .null, .null, .null, .null] := A_24
  refine g_dup C at_17 rfl (pc' := 18) rfl ?_
  refine g_iconst C at_18 (v := (2 : Int32)) rfl (pc' := 19) rfl ?_
  have f_27 := (f_21.keep K_23 (allS ge_a_2 all0))
  refine g_getstatic C (host := "") (v := (.ref e_ENUM)) (Or.inl (own_w hw 8 rfl)) Via.refl (S_ENUM.ext f_27.2) at_19 (pc' := 22) rfl ?_
  have f_31 := ((((X_ENUM.ext O.2).ext E_4).keep K_17).keep K_23)
  refine g_aastore C f_26 (Ins.self f_31) (by decide) (i := 2) (by decide) (show 2 < 8 by decide) ge_a_2 at_22 (pc' := 23) rfl ?_
  intro h_28 K_29 A_30
  have f_32 : AryR Z h_28 a_2 "com/example/wirefield/wirefield/Symbol$Kind" [(.ref e_PACKAGE), (.ref e_MESSAGE), (.ref e_ENUM), .null, .null, .null, .null, .null] := A_30
  refine g_dup C at_23 rfl (pc' := 24) rfl ?_
  refine g_iconst C at_24 (v := (3 : Int32)) rfl (pc' := 25) rfl ?_
  have f_33 := (f_27.keep K_29 (allS ge_a_2 all0))
  refine g_getstatic C (host := "") (v := (.ref e_FIELD)) (Or.inl (own_w hw 10 rfl)) Via.refl (S_FIELD.ext f_33.2) at_25 (pc' := 28) rfl ?_
  have f_37 := (((((X_FIELD.ext O.2).ext E_4).keep K_17).keep K_23).keep K_29)
  refine g_aastore C f_32 (Ins.self f_37) (by decide) (i := 3) (by decide) (show 3 < 8 by decide) ge_a_2 at_28 (pc' := 29) rfl ?_
  intro h_34 K_35 A_36
  have f_38 : AryR Z h_34 a_2 "com/example/wirefield/wirefield/Symbol$Kind" [(.ref e_PACKAGE), (.ref e_MESSAGE), (.ref e_ENUM), (.ref e_FIELD), .null, .null, .null, .null] := A_36
  refine g_dup C at_29 rfl (pc' := 30) rfl ?_
  refine g_iconst C at_30 (v := (4 : Int32)) rfl (pc' := 31) rfl ?_
  have f_39 := (f_33.keep K_35 (allS ge_a_2 all0))
  refine g_getstatic C (host := "") (v := (.ref e_ONEOF)) (Or.inl (own_w hw 12 rfl)) Via.refl (S_ONEOF.ext f_39.2) at_31 (pc' := 34) rfl ?_
  have f_43 := ((((((X_ONEOF.ext O.2).ext E_4).keep K_17).keep K_23).keep K_29).keep K_35)
  refine g_aastore C f_38 (Ins.self f_43) (by decide) (i := 4) (by decide) (show 4 < 8 by decide) ge_a_2 at_34 (pc' := 35) rfl ?_
  intro h_40 K_41 A_42
  have f_44 : AryR Z h_40 a_2 "com/example/wirefield/wirefield/Symbol$Kind" [(.ref e_PACKAGE), (.ref e_MESSAGE), (.ref e_ENUM), (.ref e_FIELD), (.ref e_ONEOF), .null, .null, .null] := A_42
  refine g_dup C at_35 rfl (pc' := 36) rfl ?_
  refine g_iconst C at_36 (v := (5 : Int32)) rfl (pc' := 37) rfl ?_
  have f_45 := (f_39.keep K_41 (allS ge_a_2 all0))
  refine g_getstatic C (host := "") (v := (.ref e_ENUM_VALUE)) (Or.inl (own_w hw 14 rfl)) Via.refl (S_ENUM_VALUE.ext f_45.2) at_37 (pc' := 40) rfl ?_
  have f_49 := (((((((X_ENUM_VALUE.ext O.2).ext E_4).keep K_17).keep K_23).keep K_29).keep K_35).keep K_41)
  refine g_aastore C f_44 (Ins.self f_49) (by decide) (i := 5) (by decide) (show 5 < 8 by decide) ge_a_2 at_40 (pc' := 41) rfl ?_
  intro h_46 K_47 A_48
  have f_50 : AryR Z h_46 a_2 "com/example/wirefield/wirefield/Symbol$Kind" [(.ref e_PACKAGE), (.ref e_MESSAGE), (.ref e_ENUM), (.ref e_FIELD), (.ref e_ONEOF), (.ref e_ENUM_VALUE), .null, .null] := A_48
  refine g_dup C at_41 rfl (pc' := 42) rfl ?_
  refine g_bipush C at_42 (v := (6 : Int32)) rfl (pc' := 44) rfl ?_
  have f_51 := (f_45.keep K_47 (allS ge_a_2 all0))
  refine g_getstatic C (host := "") (v := (.ref e_SERVICE)) (Or.inl (own_w hw 16 rfl)) Via.refl (S_SERVICE.ext f_51.2) at_44 (pc' := 47) rfl ?_
  have f_55 := ((((((((X_SERVICE.ext O.2).ext E_4).keep K_17).keep K_23).keep K_29).keep K_35).keep K_41).keep K_47)
  refine g_aastore C f_50 (Ins.self f_55) (by decide) (i := 6) (by decide) (show 6 < 8 by decide) ge_a_2 at_47 (pc' := 48) rfl ?_
  intro h_52 K_53 A_54
  have f_56 : AryR Z h_52 a_2 "com/example/wirefield/wirefield/Symbol$Kind" [(.ref e_PACKAGE), (.ref e_MESSAGE), (.ref e_ENUM), (.ref e_FIELD), (.ref e_ONEOF), (.ref e_ENUM_VALUE), (.ref e_SERVICE), .null] := A_54
  refine g_dup C at_48 rfl (pc' := 49) rfl ?_
  refine g_bipush C at_49 (v := (7 : Int32)) rfl (pc' := 51) rfl ?_
  have f_57 := (f_51.keep K_53 (allS ge_a_2 all0))
  refine g_getstatic C (host := "") (v := (.ref e_METHOD)) (Or.inl (own_w hw 18 rfl)) Via.refl (S_METHOD.ext f_57.2) at_51 (pc' := 54) rfl ?_
  have f_61 := (((((((((X_METHOD.ext O.2).ext E_4).keep K_17).keep K_23).keep K_29).keep K_35).keep K_41).keep K_47).keep K_53)
  refine g_aastore C f_56 (Ins.self f_61) (by decide) (i := 7) (by decide) (show 7 < 8 by decide) ge_a_2 at_54 (pc' := 55) rfl ?_
  intro h_58 K_59 A_60
  have f_62 : AryR Z h_58 a_2 "com/example/wirefield/wirefield/Symbol$Kind" [(.ref e_PACKAGE), (.ref e_MESSAGE), (.ref e_ENUM), (.ref e_FIELD), (.ref e_ONEOF), (.ref e_ENUM_VALUE), (.ref e_SERVICE), (.ref e_METHOD)] := A_60
  refine g_astore_n C at_55 (v := (.ref a_2)) (L' := #[.val (.int p0), .val (.ref a_2), .unset, .unset, .unset, .unset, .unset]) rfl rfl (pc' := 56) rfl ?_
  refine g_bipush C at_56 (v := (8 : Int32)) rfl (pc' := 58) rfl ?_
  have f_63 := ((((((f_31.keep K_29).keep K_35).keep K_41).keep K_47).keep K_53).keep K_59)
  have f_64 := (((f_49.keep K_47).keep K_53).keep K_59)
  have f_65 := (((((f_37.keep K_35).keep K_41).keep K_47).keep K_53).keep K_59)
  have f_66 := (((((((f_25.keep K_23).keep K_29).keep K_35).keep K_41).keep K_47).keep K_53).keep K_59)
  have f_67 := (f_61.keep K_59)
  have f_68 := ((((f_43.keep K_41).keep K_47).keep K_53).keep K_59)
  have f_69 := ((((((((f_19.keep K_17).keep K_23).keep K_29).keep K_35).keep K_41).keep K_47).keep K_53).keep K_59)
  have f_70 := ((f_55.keep K_53).keep K_59)
  refine g_newarray C (own_w hw 20 rfl) (ty := .boolean) rfl (by decide) (cap := 8) (by decide) (by decide) (by decide) (by decide) at_58 (pc' := 60) rfl ?_
  intro h_71 a_72 g_73 E_74 A_75
  have ne_76 : a_2 ≠ a_72 := ne_new f_62.lt g_73
  have ne_77 : e_ENUM ≠ a_72 := ne_new f_63.lt g_73
  have ne_78 : e_ENUM_VALUE ≠ a_72 := ne_new f_64.lt g_73
  have ne_79 : e_FIELD ≠ a_72 := ne_new f_65.lt g_73
  have ne_80 : e_MESSAGE ≠ a_72 := ne_new f_66.lt g_73
  have ne_81 : e_METHOD ≠ a_72 := ne_new f_67.lt g_73
  have ne_82 : e_ONEOF ≠ a_72 := ne_new f_68.lt g_73
  have ne_83 : e_PACKAGE ≠ a_72 := ne_new f_69.lt g_73
  have ne_84 : e_SERVICE ≠ a_72 := ne_new f_70.lt g_73
  have f_85 := (Nat.le_trans (Nat.le_trans (Nat.le_trans (Nat.le_trans (Nat.le_trans (Nat.le_trans (Nat.le_trans (Nat.le_trans (Nat.le_trans Z0 E_4.1) K_17.1) K_23.1) K_29.1) K_35.1) K_41.1) K_47.1) K_53.1) K_59.1)
  have ge_a_72 : n0 ≤ a_72 := Nat.le_trans f_85 (Nat.le_of_eq g_73.symm)
  have f_86 := (Nat.le_trans (Nat.le_trans (Nat.le_trans (Nat.le_trans (Nat.le_trans (Nat.le_trans (Nat.le_trans (Nat.le_trans (Nat.le_trans (Nat.le_refl h0.size) E_4.1) K_17.1) K_23.1) K_29.1) K_35.1) K_41.1) K_47.1) K_53.1) K_59.1)
  have gs_a_72 : h0.size ≤ a_72 := Nat.le_trans f_86 (Nat.le_of_eq g_73.symm)
  have f_87 : Ary Z h_71 a_72 .boolean [(.int (0 : Int32)), (.int (0 : Int32)), (.int (0 : Int32)), (.int (0 : Int32)), (.int (0 : Int32)), (.int (0 : Int32)), (.int (0 : Int32)), (.int (0 : Int32))] := A_75
  show Go B n0 _ h_71 2 16 60 #[.val (.int p0), .val (.ref a_2), .unset, .unset, .unset, .unset, .unset] [(.ref a_72)]
  refine g_dup C at_60 rfl (pc' := 61) rfl ?_
  refine g_iconst C at_61 (v := (0 : Int32)) rfl (pc' := 62) rfl ?_
  refine g_iconst C at_62 (v := (1 : Int32)) rfl (pc' := 63) rfl ?_
  refine g_bastoreZ C f_87 (by decide) (i := 0) (by decide) (show 0 < 8 by decide) (w := (.int (1 : Int32))) rfl ge_a_72 at_63 (pc' := 64) rfl ?_
  intro h_88 K_89 A_90
  have f_91 : Ary Z h_88 a_72 .boolean [(.int (1 : Int32)), (.int (0 : Int32)), (.int (0 : Int32)), (.int (0 : Int32)), (.int (0 : Int32)), (.int (0 : Int32)), (.int (0 : Int32)), (.int (0 : Int32))] := A_90
  refine g_dup C at_64 rfl (pc' := 65) rfl ?_
  refine g_iconst C at_65 (v := (1 : Int32)) rfl (pc' := 66) rfl ?_
  refine g_iconst C at_66 (v := (1 : Int32)) rfl (pc' := 67) rfl ?_
  refine g_bastoreZ C f_91 (by decide) (i := 1) (by decide) (show 1 < 8 by decide) (w := (.int (1 : Int32))) rfl ge_a_72 at_67 (pc' := 68) rfl ?_
  intro h_92 K_93 A_94
  have f_95 : Ary Z h_92 a_72 .boolean [(.int (1 : Int32)), (.int (1 : Int32)), (.int (0 : Int32)), (.int (0 : Int32)), (.int (0 : Int32)), (.int (0 : Int32)), (.int (0 : Int32)), (.int (0 : Int32))] := A_94
  refine g_dup C at_68 rfl (pc' := 69) rfl ?_
  refine g_iconst C at_69 (v := (2 : Int32)) rfl (pc' := 70) rfl ?_
  refine g_iconst C at_70 (v := (1 : Int32)) rfl (pc' := 71) rfl ?_
  refine g_bastoreZ C f_95 (by decide) (i := 2) (by decide) (show 2 < 8 by decide) (w := (.int (1 : Int32))) rfl ge_a_72 at_71 (pc' := 72) rfl ?_
  intro h_96 K_97 A_98
  have f_99 : Ary Z h_96 a_72 .boolean [(.int (1 : Int32)), (.int (1 : Int32)), (.int (1 : Int32)), (.int (0 : Int32)), (.int (0 : Int32)), (.int (0 : Int32)), (.int (0 : Int32)), (.int (0 : Int32))] := A_98
  refine g_dup C at_72 rfl (pc' := 73) rfl ?_
  refine g_iconst C at_73 (v := (3 : Int32)) rfl (pc' := 74) rfl ?_
  refine g_iconst C at_74 (v := (0 : Int32)) rfl (pc' := 75) rfl ?_
  refine g_bastoreZ C f_99 (by decide) (i := 3) (by decide) (show 3 < 8 by decide) (w := (.int (0 : Int32))) rfl ge_a_72 at_75 (pc' := 76) rfl ?_
  intro h_100 K_101 A_102
  have f_103 : Ary Z h_100 a_72 .boolean [(.int (1 : Int32)), (.int (1 : Int32)), (.int (1 : Int32)), (.int (0 : Int32)), (.int (0 : Int32)), (.int (0 : Int32)), (.int (0 : Int32)), (.int (0 : Int32))] := A_102
  refine g_dup C at_76 rfl (pc' := 77) rfl ?_
  refine g_iconst C at_77 (v := (4 : Int32)) rfl (pc' := 78) rfl ?_
  refine g_iconst C at_78 (v := (0 : Int32)) rfl (pc' := 79) rfl ?_
  refine g_bastoreZ C f_103 (by decide) (i := 4) (by decide) (show 4 < 8 by decide) (w := (.int (0 : Int32))) rfl ge_a_72 at_79 (pc' := 80) rfl ?_
  intro h_104 K_105 A_106
  have f_107 : Ary Z h_104 a_72 .boolean [(.int (1 : Int32)), (.int (1 : Int32)), (.int (1 : Int32)), (.int (0 : Int32)), (.int (0 : Int32)), (.int (0 : Int32)), (.int (0 : Int32)), (.int (0 : Int32))] := A_106
  refine g_dup C at_80 rfl (pc' := 81) rfl ?_
  refine g_iconst C at_81 (v := (5 : Int32)) rfl (pc' := 82) rfl ?_
  refine g_iconst C at_82 (v := (0 : Int32)) rfl (pc' := 83) rfl ?_
  refine g_bastoreZ C f_107 (by decide) (i := 5) (by decide) (show 5 < 8 by decide) (w := (.int (0 : Int32))) rfl ge_a_72 at_83 (pc' := 84) rfl ?_
  intro h_108 K_109 A_110
  have f_111 : Ary Z h_108 a_72 .boolean [(.int (1 : Int32)), (.int (1 : Int32)), (.int (1 : Int32)), (.int (0 : Int32)), (.int (0 : Int32)), (.int (0 : Int32)), (.int (0 : Int32)), (.int (0 : Int32))] := A_110
  refine g_dup C at_84 rfl (pc' := 85) rfl ?_
  refine g_bipush C at_85 (v := (6 : Int32)) rfl (pc' := 87) rfl ?_
  refine g_iconst C at_87 (v := (1 : Int32)) rfl (pc' := 88) rfl ?_
  refine g_bastoreZ C f_111 (by decide) (i := 6) (by decide) (show 6 < 8 by decide) (w := (.int (1 : Int32))) rfl ge_a_72 at_88 (pc' := 89) rfl ?_
  intro h_112 K_113 A_114
  have f_115 : Ary Z h_112 a_72 .boolean [(.int (1 : Int32)), (.int (1 : Int32)), (.int (1 : Int32)), (.int (0 : Int32)), (.int (0 : Int32)), (.int (0 : Int32)), (.int (1 : Int32)), (.int (0 : Int32))] := A_114
  refine g_dup C at_89 rfl (pc' := 90) rfl ?_
  refine g_bipush C at_90 (v := (7 : Int32)) rfl (pc' := 92) rfl ?_
  refine g_iconst C at_92 (v := (0 : Int32)) rfl (pc' := 93) rfl ?_
  refine g_bastoreZ C f_115 (by decide) (i := 7) (by decide) (show 7 < 8 by decide) (w := (.int (0 : Int32))) rfl ge_a_72 at_93 (pc' := 94) rfl ?_
  intro h_116 K_117 A_118
  have f_119 : Ary Z h_116 a_72 .boolean [(.int (1 : Int32)), (.int (1 : Int32)), (.int (1 : Int32)), (.int (0 : Int32)), (.int (0 : Int32)), (.int (0 : Int32)), (.int (1 : Int32)), (.int (0 : Int32))] := A_118
  refine g_astore_n C at_94 (v := (.ref a_72)) (L' := #[.val (.int p0), .val (.ref a_2), .val (.ref a_72), .unset, .unset, .unset, .unset]) rfl rfl (pc' := 95) rfl ?_
  refine g_iload_n C at_95 (v := p0) rfl (pc' := 96) rfl ?_
  refine g_bipush C at_96 (v := (7 : Int32)) rfl (pc' := 98) rfl ?_
  refine g_iand C (x := p0) (y := (7 : Int32)) at_98  (pc' := 99) rfl ?_
  obtain ⟨i_120, hi_121⟩ : ∃ z : Int32, z = (p0 &&& (7 : Int32)) := ⟨_, rfl⟩
  rw [← hi_121]
  rcases own_split8 i_120 (by rw [hi_121]; exact (own_and7 p0).1) (by rw [hi_121]; exact (own_and7 p0).2) with i_120e | i_120e | i_120e | i_120e | i_120e | i_120e | i_120e | i_120e
  · subst i_120e
    show Go B n0 _ h_116 2 16 99 #[.val (.int p0), .val (.ref a_2), .val (.ref a_72), .unset, .unset, .unset, .unset] [(.int (0 : Int32))]
    refine g_istore_n C at_99 (v := (0 : Int32)) (L' := #[.val (.int p0), .val (.ref a_2), .val (.ref a_72), .val (.int (0 : Int32)), .unset, .unset, .unset]) rfl (pc' := 100) rfl ?_
    refine g_aload_n C at_100 (v := (.ref a_2)) rfl rfl (pc' := 101) rfl ?_
    refine g_iload_n C at_101 (v := (0 : Int32)) rfl (pc' := 102) rfl ?_
    have f_122 := (((((((((f_62.ext E_74).keep K_89 (ninS ne_76 nin0)).keep K_93 (ninS ne_76 nin0)).keep K_97 (ninS ne_76 nin0)).keep K_101 (ninS ne_76 nin0)).keep K_105 (ninS ne_76 nin0)).keep K_109 (ninS ne_76 nin0)).keep K_113 (ninS ne_76 nin0)).keep K_117 (ninS ne_76 nin0))
    refine g_aaload C (AryR.ary f_122) rfl (by decide) (i := 0) (by decide) (v := (.ref e_PACKAGE)) rfl at_102 (pc' := 103) rfl ?_
    refine g_astore C at_103 (v := (.ref e_PACKAGE)) (L' := #[.val (.int p0), .val (.ref a_2), .val (.ref a_72), .val (.int (0 : Int32)), .val (.ref e_PACKAGE), .unset, .unset]) rfl rfl (pc' := 105) rfl ?_
    refine g_aload C at_105 (v := (.ref e_PACKAGE)) rfl rfl (pc' := 107) rfl ?_
    have f_123 := ((((((((((f_57.keep K_59 (allS ge_a_2 all0)).ext E_74).keep K_89 (allS ge_a_72 all0)).keep K_93 (allS ge_a_72 all0)).keep K_97 (allS ge_a_72 all0)).keep K_101 (allS ge_a_72 all0)).keep K_105 (allS ge_a_72 all0)).keep K_109 (allS ge_a_72 all0)).keep K_113 (allS ge_a_72 all0)).keep K_117 (allS ge_a_72 all0))
    have f_124 := (Nat.le_trans (Nat.le_trans (Nat.le_trans (Nat.le_trans (Nat.le_trans (Nat.le_trans (Nat.le_trans (Nat.le_trans (Nat.le_trans f_85 E_74.1) K_89.1) K_93.1) K_97.1) K_101.1) K_105.1) K_109.1) K_113.1) K_117.1)
    have f_125 := (((((((((f_69.ext E_74).keep K_89).keep K_93).keep K_97).keep K_101).keep K_105).keep K_109).keep K_113).keep K_117)
    refine g_virtual C (own_w hw 21 rfl) (own_w hw 22 rfl) (own_w hw 24 rfl) (own_w hw 23 rfl) (own_w hw 3 rfl) (own_w hw 25 rfl) (notFace_of_selects (args := #[]) (mvT C.2.2.2.2.1 (own_w hw 24 rfl))) (by decide) f_125 (rm_isScope_PACKAGE l Z a0 hw n0 e_PACKAGE e_MESSAGE e_ENUM e_FIELD e_ONEOF e_ENUM_VALUE e_SERVICE e_METHOD h_116 f_124 en f_123) (st := []) [] rfl rfl own_pd_0_isScope rfl rfl (by decide) (W := 0) (Nat.le_of_eq rfl) (by decide) (by decide) (by decide) at_107 (pc' := 110) rfl ?_
    intro v_128 h_126 q_127
    obtain ⟨rfl, rfl⟩ := q_127
    show Go B n0 _ h_116 2 16 110 #[.val (.int p0), .val (.ref a_2), .val (.ref a_72), .val (.int (0 : Int32)), .val (.ref e_PACKAGE), .unset, .unset] [(.int (1 : Int32))]
    refine g_istore C at_110 (v := (1 : Int32)) (L' := #[.val (.int p0), .val (.ref a_2), .val (.ref a_72), .val (.int (0 : Int32)), .val (.ref e_PACKAGE), .val (.int (1 : Int32)), .unset]) rfl (pc' := 112) rfl ?_
    refine g_aload C at_112 (v := (.ref e_PACKAGE)) rfl rfl (pc' := 114) rfl ?_
    refine g_virtual C (own_w hw 27 rfl) (own_w hw 28 rfl) (own_w hw 30 rfl) (own_w hw 29 rfl) (own_w hw 3 rfl) (own_w hw 31 rfl) (notFace_of_selects (args := #[]) (mvT C.2.2.2.2.1 (own_w hw 30 rfl))) (by decide) f_125 (rm_isType_PACKAGE l Z a0 hw n0 e_PACKAGE e_MESSAGE e_ENUM e_FIELD e_ONEOF e_ENUM_VALUE e_SERVICE e_METHOD h_116 f_124 en f_123) (st := []) [] rfl rfl own_pd_0_isType rfl rfl (by decide) (W := 0) (Nat.le_of_eq rfl) (by decide) (by decide) (by decide) at_114 (pc' := 117) rfl ?_
    intro v_131 h_129 q_130
    obtain ⟨rfl, rfl⟩ := q_130
    show Go B n0 _ h_116 2 16 117 #[.val (.int p0), .val (.ref a_2), .val (.ref a_72), .val (.int (0 : Int32)), .val (.ref e_PACKAGE), .val (.int (1 : Int32)), .unset] [(.int (0 : Int32))]
    refine g_if_y C at_117 (Jvm.Free.XT.i0_eq_t (by decide)) (pc' := 125) (by decide) (by decide) ?_
    refine g_iconst C at_125 (v := (1 : Int32)) rfl (pc' := 126) rfl ?_
    refine g_goto C at_126 (pc' := 130) (by decide) (by decide) ?_
    refine g_istore C at_130 (v := (1 : Int32)) (L' := #[.val (.int p0), .val (.ref a_2), .val (.ref a_72), .val (.int (0 : Int32)), .val (.ref e_PACKAGE), .val (.int (1 : Int32)), .val (.int (1 : Int32))]) rfl (pc' := 132) rfl ?_
    refine g_iload C at_132 (v := (1 : Int32)) rfl (pc' := 134) rfl ?_
    refine g_aload_n C at_134 (v := (.ref a_72)) rfl rfl (pc' := 135) rfl ?_
    refine g_iload_n C at_135 (v := (0 : Int32)) rfl (pc' := 136) rfl ?_
    refine g_baloadZ C f_119 (by decide) (i := 0) (by decide) (v := (1 : Int32)) rfl at_136 (pc' := 137) rfl ?_
    refine g_icmp_n C at_137 (Jvm.Free.XT.ii_ne_f (by decide)) (pc' := 140) rfl ?_
    refine g_iload C at_140 (v := (1 : Int32)) rfl (pc' := 142) rfl ?_
    refine g_if_n C at_142 (Jvm.Free.XT.i0_eq_f (by decide)) (pc' := 145) rfl ?_
    refine g_iconst C at_145 (v := (1 : Int32)) rfl (pc' := 146) rfl ?_
    refine g_goto C at_146 (pc' := 150) (by decide) (by decide) ?_
    refine g_ret C (v := (.int (1 : Int32))) (ty := .boolean) rfl rfl (Or.inl ⟨rfl, Or.inr (Or.inl rfl), _, rfl⟩) at_150 (by decide) (by decide) ?_
    rfl
  · subst i_120e
    show Go B n0 _ h_116 2 16 99 #[.val (.int p0), .val (.ref a_2), .val (.ref a_72), .unset, .unset, .unset, .unset] [(.int (1 : Int32))]
    refine g_istore_n C at_99 (v := (1 : Int32)) (L' := #[.val (.int p0), .val (.ref a_2), .val (.ref a_72), .val (.int (1 : Int32)), .unset, .unset, .unset]) rfl (pc' := 100) rfl ?_
    refine g_aload_n C at_100 (v := (.ref a_2)) rfl rfl (pc' := 101) rfl ?_
    refine g_iload_n C at_101 (v := (1 : Int32)) rfl (pc' := 102) rfl ?_
    have f_132 := (((((((((f_62.ext E_74).keep K_89 (ninS ne_76 nin0)).keep K_93 (ninS ne_76 nin0)).keep K_97 (ninS ne_76 nin0)).keep K_101 (ninS ne_76 nin0)).keep K_105 (ninS ne_76 nin0)).keep K_109 (ninS ne_76 nin0)).keep K_113 (ninS ne_76 nin0)).keep K_117 (ninS ne_76 nin0))
    refine g_aaload C (AryR.ary f_132) rfl (by decide) (i := 1) (by decide) (v := (.ref e_MESSAGE)) rfl at_102 (pc' := 103) rfl ?_
    refine g_astore C at_103 (v := (.ref e_MESSAGE)) (L' := #[.val (.int p0), .val (.ref a_2), .val (.ref a_72), .val (.int (1 : Int32)), .val (.ref e_MESSAGE), .unset, .unset]) rfl rfl (pc' := 105) rfl ?_
    refine g_aload C at_105 (v := (.ref e_MESSAGE)) rfl rfl (pc' := 107) rfl ?_
    have f_133 := ((((((((((f_57.keep K_59 (allS ge_a_2 all0)).ext E_74).keep K_89 (allS ge_a_72 all0)).keep K_93 (allS ge_a_72 all0)).keep K_97 (allS ge_a_72 all0)).keep K_101 (allS ge_a_72 all0)).keep K_105 (allS ge_a_72 all0)).keep K_109 (allS ge_a_72 all0)).keep K_113 (allS ge_a_72 all0)).keep K_117 (allS ge_a_72 all0))
    have f_134 := (Nat.le_trans (Nat.le_trans (Nat.le_trans (Nat.le_trans (Nat.le_trans (Nat.le_trans (Nat.le_trans (Nat.le_trans (Nat.le_trans f_85 E_74.1) K_89.1) K_93.1) K_97.1) K_101.1) K_105.1) K_109.1) K_113.1) K_117.1)
    have f_135 := (((((((((f_66.ext E_74).keep K_89).keep K_93).keep K_97).keep K_101).keep K_105).keep K_109).keep K_113).keep K_117)
    refine g_virtual C (own_w hw 21 rfl) (own_w hw 22 rfl) (own_w hw 24 rfl) (own_w hw 23 rfl) (own_w hw 3 rfl) (own_w hw 25 rfl) (notFace_of_selects (args := #[]) (mvT C.2.2.2.2.1 (own_w hw 24 rfl))) (by decide) f_135 (rm_isScope_MESSAGE l Z a0 hw n0 e_PACKAGE e_MESSAGE e_ENUM e_FIELD e_ONEOF e_ENUM_VALUE e_SERVICE e_METHOD h_116 f_134 en f_133) (st := []) [] rfl rfl own_pd_0_isScope rfl rfl (by decide) (W := 0) (Nat.le_of_eq rfl) (by decide) (by decide) (by decide) at_107 (pc' := 110) rfl ?_
    intro v_138 h_136 q_137
    obtain ⟨rfl, rfl⟩ := q_137
    show Go B n0 _ h_116 2 16 110 #[.val (.int p0), .val (.ref a_2), .val (.ref a_72), .val (.int (1 : Int32)), .val (.ref e_MESSAGE), .unset, .unset] [(.int (1 : Int32))]
    refine g_istore C at_110 (v := (1 : Int32)) (L' := #[.val (.int p0), .val (.ref a_2), .val (.ref a_72), .val (.int (1 : Int32)), .val (.ref e_MESSAGE), .val (.int (1 : Int32)), .unset]) rfl (pc' := 112) rfl ?_
    refine g_aload C at_112 (v := (.ref e_MESSAGE)) rfl rfl (pc' := 114) rfl ?_
    refine g_virtual C (own_w hw 27 rfl) (own_w hw 28 rfl) (own_w hw 30 rfl) (own_w hw 29 rfl) (own_w hw 3 rfl) (own_w hw 31 rfl) (notFace_of_selects (args := #[]) (mvT C.2.2.2.2.1 (own_w hw 30 rfl))) (by decide) f_135 (rm_isType_MESSAGE l Z a0 hw n0 e_PACKAGE e_MESSAGE e_ENUM e_FIELD e_ONEOF e_ENUM_VALUE e_SERVICE e_METHOD h_116 f_134 en f_133) (st := []) [] rfl rfl own_pd_0_isType rfl rfl (by decide) (W := 0) (Nat.le_of_eq rfl) (by decide) (by decide) (by decide) at_114 (pc' := 117) rfl ?_
    intro v_141 h_139 q_140
    obtain ⟨rfl, rfl⟩ := q_140
    show Go B n0 _ h_116 2 16 117 #[.val (.int p0), .val (.ref a_2), .val (.ref a_72), .val (.int (1 : Int32)), .val (.ref e_MESSAGE), .val (.int (1 : Int32)), .unset] [(.int (1 : Int32))]
    refine g_if_n C at_117 (Jvm.Free.XT.i0_eq_f (by decide)) (pc' := 120) rfl ?_
    refine g_iload C at_120 (v := (1 : Int32)) rfl (pc' := 122) rfl ?_
    refine g_if_n C at_122 (Jvm.Free.XT.i0_eq_f (by decide)) (pc' := 125) rfl ?_
    refine g_iconst C at_125 (v := (1 : Int32)) rfl (pc' := 126) rfl ?_
    refine g_goto C at_126 (pc' := 130) (by decide) (by decide) ?_
    refine g_istore C at_130 (v := (1 : Int32)) (L' := #[.val (.int p0), .val (.ref a_2), .val (.ref a_72), .val (.int (1 : Int32)), .val (.ref e_MESSAGE), .val (.int (1 : Int32)), .val (.int (1 : Int32))]) rfl (pc' := 132) rfl ?_
    refine g_iload C at_132 (v := (1 : Int32)) rfl (pc' := 134) rfl ?_
    refine g_aload_n C at_134 (v := (.ref a_72)) rfl rfl (pc' := 135) rfl ?_
    refine g_iload_n C at_135 (v := (1 : Int32)) rfl (pc' := 136) rfl ?_
    refine g_baloadZ C f_119 (by decide) (i := 1) (by decide) (v := (1 : Int32)) rfl at_136 (pc' := 137) rfl ?_
    refine g_icmp_n C at_137 (Jvm.Free.XT.ii_ne_f (by decide)) (pc' := 140) rfl ?_
    refine g_iload C at_140 (v := (1 : Int32)) rfl (pc' := 142) rfl ?_
    refine g_if_n C at_142 (Jvm.Free.XT.i0_eq_f (by decide)) (pc' := 145) rfl ?_
    refine g_iconst C at_145 (v := (1 : Int32)) rfl (pc' := 146) rfl ?_
    refine g_goto C at_146 (pc' := 150) (by decide) (by decide) ?_
    refine g_ret C (v := (.int (1 : Int32))) (ty := .boolean) rfl rfl (Or.inl ⟨rfl, Or.inr (Or.inl rfl), _, rfl⟩) at_150 (by decide) (by decide) ?_
    rfl
  · subst i_120e
    show Go B n0 _ h_116 2 16 99 #[.val (.int p0), .val (.ref a_2), .val (.ref a_72), .unset, .unset, .unset, .unset] [(.int (2 : Int32))]
    refine g_istore_n C at_99 (v := (2 : Int32)) (L' := #[.val (.int p0), .val (.ref a_2), .val (.ref a_72), .val (.int (2 : Int32)), .unset, .unset, .unset]) rfl (pc' := 100) rfl ?_
    refine g_aload_n C at_100 (v := (.ref a_2)) rfl rfl (pc' := 101) rfl ?_
    refine g_iload_n C at_101 (v := (2 : Int32)) rfl (pc' := 102) rfl ?_
    have f_142 := (((((((((f_62.ext E_74).keep K_89 (ninS ne_76 nin0)).keep K_93 (ninS ne_76 nin0)).keep K_97 (ninS ne_76 nin0)).keep K_101 (ninS ne_76 nin0)).keep K_105 (ninS ne_76 nin0)).keep K_109 (ninS ne_76 nin0)).keep K_113 (ninS ne_76 nin0)).keep K_117 (ninS ne_76 nin0))
    refine g_aaload C (AryR.ary f_142) rfl (by decide) (i := 2) (by decide) (v := (.ref e_ENUM)) rfl at_102 (pc' := 103) rfl ?_
    refine g_astore C at_103 (v := (.ref e_ENUM)) (L' := #[.val (.int p0), .val (.ref a_2), .val (.ref a_72), .val (.int (2 : Int32)), .val (.ref e_ENUM), .unset, .unset]) rfl rfl (pc' := 105) rfl ?_
    refine g_aload C at_105 (v := (.ref e_ENUM)) rfl rfl (pc' := 107) rfl ?_
    have f_143 := ((((((((((f_57.keep K_59 (allS ge_a_2 all0)).ext E_74).keep K_89 (allS ge_a_72 all0)).keep K_93 (allS ge_a_72 all0)).keep K_97 (allS ge_a_72 all0)).keep K_101 (allS ge_a_72 all0)).keep K_105 (allS ge_a_72 all0)).keep K_109 (allS ge_a_72 all0)).keep K_113 (allS ge_a_72 all0)).keep K_117 (allS ge_a_72 all0))
    have f_144 := (Nat.le_trans (Nat.le_trans (Nat.le_trans (Nat.le_trans (Nat.le_trans (Nat.le_trans (Nat.le_trans (Nat.le_trans (Nat.le_trans f_85 E_74.1) K_89.1) K_93.1) K_97.1) K_101.1) K_105.1) K_109.1) K_113.1) K_117.1)
    have f_145 := (((((((((f_63.ext E_74).keep K_89).keep K_93).keep K_97).keep K_101).keep K_105).keep K_109).keep K_113).keep K_117)
    refine g_virtual C (own_w hw 21 rfl) (own_w hw 22 rfl) (own_w hw 24 rfl) (own_w hw 23 rfl) (own_w hw 3 rfl) (own_w hw 25 rfl) (notFace_of_selects (args := #[]) (mvT C.2.2.2.2.1 (own_w hw 24 rfl))) (by decide) f_145 (rm_isScope_ENUM l Z a0 hw n0 e_PACKAGE e_MESSAGE e_ENUM e_FIELD e_ONEOF e_ENUM_VALUE e_SERVICE e_METHOD h_116 f_144 en f_143) (st := []) [] rfl rfl own_pd_0_isScope rfl rfl (by decide) (W := 0) (Nat.le_of_eq rfl) (by decide) (by decide) (by decide) at_107 (pc' := 110) rfl ?_
    intro v_148 h_146 q_147
    obtain ⟨rfl, rfl⟩ := q_147
    show Go B n0 _ h_116 2 16 110 #[.val (.int p0), .val (.ref a_2), .val (.ref a_72), .val (.int (2 : Int32)), .val (.ref e_ENUM), .unset, .unset] [(.int (1 : Int32))]
    refine g_istore C at_110 (v := (1 : Int32)) (L' := #[.val (.int p0), .val (.ref a_2), .val (.ref a_72), .val (.int (2 : Int32)), .val (.ref e_ENUM), .val (.int (1 : Int32)), .unset]) rfl (pc' := 112) rfl ?_
    refine g_aload C at_112 (v := (.ref e_ENUM)) rfl rfl (pc' := 114) rfl ?_
    refine g_virtual C (own_w hw 27 rfl) (own_w hw 28 rfl) (own_w hw 30 rfl) (own_w hw 29 rfl) (own_w hw 3 rfl) (own_w hw 31 rfl) (notFace_of_selects (args := #[]) (mvT C.2.2.2.2.1 (own_w hw 30 rfl))) (by decide) f_145 (rm_isType_ENUM l Z a0 hw n0 e_PACKAGE e_MESSAGE e_ENUM e_FIELD e_ONEOF e_ENUM_VALUE e_SERVICE e_METHOD h_116 f_144 en f_143) (st := []) [] rfl rfl own_pd_0_isType rfl rfl (by decide) (W := 0) (Nat.le_of_eq rfl) (by decide) (by decide) (by decide) at_114 (pc' := 117) rfl ?_
    intro v_151 h_149 q_150
    obtain ⟨rfl, rfl⟩ := q_150
    show Go B n0 _ h_116 2 16 117 #[.val (.int p0), .val (.ref a_2), .val (.ref a_72), .val (.int (2 : Int32)), .val (.ref e_ENUM), .val (.int (1 : Int32)), .unset] [(.int (1 : Int32))]
    refine g_if_n C at_117 (Jvm.Free.XT.i0_eq_f (by decide)) (pc' := 120) rfl ?_
    refine g_iload C at_120 (v := (1 : Int32)) rfl (pc' := 122) rfl ?_
    refine g_if_n C at_122 (Jvm.Free.XT.i0_eq_f (by decide)) (pc' := 125) rfl ?_
    refine g_iconst C at_125 (v := (1 : Int32)) rfl (pc' := 126) rfl ?_
    refine g_goto C at_126 (pc' := 130) (by decide) (by decide) ?_
    refine g_istore C at_130 (v := (1 : Int32)) (L' := #[.val (.int p0), .val (.ref a_2), .val (.ref a_72), .val (.int (2 : Int32)), .val (.ref e_ENUM), .val (.int (1 : Int32)), .val (.int (1 : Int32))]) rfl (pc' := 132) rfl ?_
    refine g_iload C at_132 (v := (1 : Int32)) rfl (pc' := 134) rfl ?_
    refine g_aload_n C at_134 (v := (.ref a_72)) rfl rfl (pc' := 135) rfl ?_
    refine g_iload_n C at_135 (v := (2 : Int32)) rfl (pc' := 136) rfl ?_
    refine g_baloadZ C f_119 (by decide) (i := 2) (by decide) (v := (1 : Int32)) rfl at_136 (pc' := 137) rfl ?_
    refine g_icmp_n C at_137 (Jvm.Free.XT.ii_ne_f (by decide)) (pc' := 140) rfl ?_
    refine g_iload C at_140 (v := (1 : Int32)) rfl (pc' := 142) rfl ?_
    refine g_if_n C at_142 (Jvm.Free.XT.i0_eq_f (by decide)) (pc' := 145) rfl ?_
    refine g_iconst C at_145 (v := (1 : Int32)) rfl (pc' := 146) rfl ?_
    refine g_goto C at_146 (pc' := 150) (by decide) (by decide) ?_
    refine g_ret C (v := (.int (1 : Int32))) (ty := .boolean) rfl rfl (Or.inl ⟨rfl, Or.inr (Or.inl rfl), _, rfl⟩) at_150 (by decide) (by decide) ?_
    rfl
  · subst i_120e
    show Go B n0 _ h_116 2 16 99 #[.val (.int p0), .val (.ref a_2), .val (.ref a_72), .unset, .unset, .unset, .unset] [(.int (3 : Int32))]
    refine g_istore_n C at_99 (v := (3 : Int32)) (L' := #[.val (.int p0), .val (.ref a_2), .val (.ref a_72), .val (.int (3 : Int32)), .unset, .unset, .unset]) rfl (pc' := 100) rfl ?_
    refine g_aload_n C at_100 (v := (.ref a_2)) rfl rfl (pc' := 101) rfl ?_
    refine g_iload_n C at_101 (v := (3 : Int32)) rfl (pc' := 102) rfl ?_
    have f_152 := (((((((((f_62.ext E_74).keep K_89 (ninS ne_76 nin0)).keep K_93 (ninS ne_76 nin0)).keep K_97 (ninS ne_76 nin0)).keep K_101 (ninS ne_76 nin0)).keep K_105 (ninS ne_76 nin0)).keep K_109 (ninS ne_76 nin0)).keep K_113 (ninS ne_76 nin0)).keep K_117 (ninS ne_76 nin0))
    refine g_aaload C (AryR.ary f_152) rfl (by decide) (i := 3) (by decide) (v := (.ref e_FIELD)) rfl at_102 (pc' := 103) rfl ?_
    refine g_astore C at_103 (v := (.ref e_FIELD)) (L' := #[.val (.int p0), .val (.ref a_2), .val (.ref a_72), .val (.int (3 : Int32)), .val (.ref e_FIELD), .unset, .unset]) rfl rfl (pc' := 105) rfl ?_
    refine g_aload C at_105 (v := (.ref e_FIELD)) rfl rfl (pc' := 107) rfl ?_
    have f_153 := ((((((((((f_57.keep K_59 (allS ge_a_2 all0)).ext E_74).keep K_89 (allS ge_a_72 all0)).keep K_93 (allS ge_a_72 all0)).keep K_97 (allS ge_a_72 all0)).keep K_101 (allS ge_a_72 all0)).keep K_105 (allS ge_a_72 all0)).keep K_109 (allS ge_a_72 all0)).keep K_113 (allS ge_a_72 all0)).keep K_117 (allS ge_a_72 all0))
    have f_154 := (Nat.le_trans (Nat.le_trans (Nat.le_trans (Nat.le_trans (Nat.le_trans (Nat.le_trans (Nat.le_trans (Nat.le_trans (Nat.le_trans f_85 E_74.1) K_89.1) K_93.1) K_97.1) K_101.1) K_105.1) K_109.1) K_113.1) K_117.1)
    have f_155 := (((((((((f_65.ext E_74).keep K_89).keep K_93).keep K_97).keep K_101).keep K_105).keep K_109).keep K_113).keep K_117)
    refine g_virtual C (own_w hw 21 rfl) (own_w hw 22 rfl) (own_w hw 24 rfl) (own_w hw 23 rfl) (own_w hw 3 rfl) (own_w hw 25 rfl) (notFace_of_selects (args := #[]) (mvT C.2.2.2.2.1 (own_w hw 24 rfl))) (by decide) f_155 (rm_isScope_FIELD l Z a0 hw n0 e_PACKAGE e_MESSAGE e_ENUM e_FIELD e_ONEOF e_ENUM_VALUE e_SERVICE e_METHOD h_116 f_154 en f_153) (st := []) [] rfl rfl own_pd_0_isScope rfl rfl (by decide) (W := 0) (Nat.le_of_eq rfl) (by decide) (by decide) (by decide) at_107 (pc' := 110) rfl ?_
    intro v_158 h_156 q_157
    obtain ⟨rfl, rfl⟩ := q_157
    show Go B n0 _ h_116 2 16 110 #[.val (.int p0), .val (.ref a_2), .val (.ref a_72), .val (.int (3 : Int32)), .val (.ref e_FIELD), .unset, .unset] [(.int (0 : Int32))]
    refine g_istore C at_110 (v := (0 : Int32)) (L' := #[.val (.int p0), .val (.ref a_2), .val (.ref a_72), .val (.int (3 : Int32)), .val (.ref e_FIELD), .val (.int (0 : Int32)), .unset]) rfl (pc' := 112) rfl ?_
    refine g_aload C at_112 (v := (.ref e_FIELD)) rfl rfl (pc' := 114) rfl ?_
    refine g_virtual C (own_w hw 27 rfl) (own_w hw 28 rfl) (own_w hw 30 rfl) (own_w hw 29 rfl) (own_w hw 3 rfl) (own_w hw 31 rfl) (notFace_of_selects (args := #[]) (mvT C.2.2.2.2.1 (own_w hw 30 rfl))) (by decide) f_155 (rm_isType_FIELD l Z a0 hw n0 e_PACKAGE e_MESSAGE e_ENUM e_FIELD e_ONEOF e_ENUM_VALUE e_SERVICE e_METHOD h_116 f_154 en f_153) (st := []) [] rfl rfl own_pd_0_isType rfl rfl (by decide) (W := 0) (Nat.le_of_eq rfl) (by decide) (by decide) (by decide) at_114 (pc' := 117) rfl ?_
    intro v_161 h_159 q_160
    obtain ⟨rfl, rfl⟩ := q_160
    show Go B n0 _ h_116 2 16 117 #[.val (.int p0), .val (.ref a_2), .val (.ref a_72), .val (.int (3 : Int32)), .val (.ref e_FIELD), .val (.int (0 : Int32)), .unset] [(.int (0 : Int32))]
    refine g_if_y C at_117 (Jvm.Free.XT.i0_eq_t (by decide)) (pc' := 125) (by decide) (by decide) ?_
    refine g_iconst C at_125 (v := (1 : Int32)) rfl (pc' := 126) rfl ?_
    refine g_goto C at_126 (pc' := 130) (by decide) (by decide) ?_
    refine g_istore C at_130 (v := (1 : Int32)) (L' := #[.val (.int p0), .val (.ref a_2), .val (.ref a_72), .val (.int (3 : Int32)), .val (.ref e_FIELD), .val (.int (0 : Int32)), .val (.int (1 : Int32))]) rfl (pc' := 132) rfl ?_
    refine g_iload C at_132 (v := (0 : Int32)) rfl (pc' := 134) rfl ?_
    refine g_aload_n C at_134 (v := (.ref a_72)) rfl rfl (pc' := 135) rfl ?_
    refine g_iload_n C at_135 (v := (3 : Int32)) rfl (pc' := 136) rfl ?_
    refine g_baloadZ C f_119 (by decide) (i := 3) (by decide) (v := (0 : Int32)) rfl at_136 (pc' := 137) rfl ?_
    refine g_icmp_n C at_137 (Jvm.Free.XT.ii_ne_f (by decide)) (pc' := 140) rfl ?_
    refine g_iload C at_140 (v := (1 : Int32)) rfl (pc' := 142) rfl ?_
    refine g_if_n C at_142 (Jvm.Free.XT.i0_eq_f (by decide)) (pc' := 145) rfl ?_
    refine g_iconst C at_145 (v := (1 : Int32)) rfl (pc' := 146) rfl ?_
    refine g_goto C at_146 (pc' := 150) (by decide) (by decide) ?_
    refine g_ret C (v := (.int (1 : Int32))) (ty := .boolean) rfl rfl (Or.inl ⟨rfl, Or.inr (Or.inl rfl), _, rfl⟩) at_150 (by decide) (by decide) ?_
    rfl
  · subst i_120e
    show Go B n0 _ h_116 2 16 99 #[.val (.int p0), .val (.ref a_2), .val (.ref a_72), .unset, .unset, .unset, .unset] [(.int (4 : Int32))]
    refine g_istore_n C at_99 (v := (4 : Int32)) (L' := #[.val (.int p0), .val (.ref a_2), .val (.ref a_72), .val (.int (4 : Int32)), .unset, .unset, .unset]) rfl (pc' := 100) rfl ?_
    refine g_aload_n C at_100 (v := (.ref a_2)) rfl rfl (pc' := 101) rfl ?_
    refine g_iload_n C at_101 (v := (4 : Int32)) rfl (pc' := 102) rfl ?_
    have f_162 := (((((((((f_62.ext E_74).keep K_89 (ninS ne_76 nin0)).keep K_93 (ninS ne_76 nin0)).keep K_97 (ninS ne_76 nin0)).keep K_101 (ninS ne_76 nin0)).keep K_105 (ninS ne_76 nin0)).keep K_109 (ninS ne_76 nin0)).keep K_113 (ninS ne_76 nin0)).keep K_117 (ninS ne_76 nin0))
    refine g_aaload C (AryR.ary f_162) rfl (by decide) (i := 4) (by decide) (v := (.ref e_ONEOF)) rfl at_102 (pc' := 103) rfl ?_
    refine g_astore C at_103 (v := (.ref e_ONEOF)) (L' := #[.val (.int p0), .val (.ref a_2), .val (.ref a_72), .val (.int (4 : Int32)), .val (.ref e_ONEOF), .unset, .unset]) rfl rfl (pc' := 105) rfl ?_
    refine g_aload C at_105 (v := (.ref e_ONEOF)) rfl rfl (pc' := 107) rfl ?_
    have f_163 := ((((((((((f_57.keep K_59 (allS ge_a_2 all0)).ext E_74).keep K_89 (allS ge_a_72 all0)).keep K_93 (allS ge_a_72 all0)).keep K_97 (allS ge_a_72 all0)).keep K_101 (allS ge_a_72 all0)).keep K_105 (allS ge_a_72 all0)).keep K_109 (allS ge_a_72 all0)).keep K_113 (allS ge_a_72 all0)).keep K_117 (allS ge_a_72 all0))
    have f_164 := (Nat.le_trans (Nat.le_trans (Nat.le_trans (Nat.le_trans (Nat.le_trans (Nat.le_trans (Nat.le_trans (Nat.le_trans (Nat.le_trans f_85 E_74.1) K_89.1) K_93.1) K_97.1) K_101.1) K_105.1) K_109.1) K_113.1) K_117.1)
    have f_165 := (((((((((f_68.ext E_74).keep K_89).keep K_93).keep K_97).keep K_101).keep K_105).keep K_109).keep K_113).keep K_117)
    refine g_virtual C (own_w hw 21 rfl) (own_w hw 22 rfl) (own_w hw 24 rfl) (own_w hw 23 rfl) (own_w hw 3 rfl) (own_w hw 25 rfl) (notFace_of_selects (args := #[]) (mvT C.2.2.2.2.1 (own_w hw 24 rfl))) (by decide) f_165 (rm_isScope_ONEOF l Z a0 hw n0 e_PACKAGE e_MESSAGE e_ENUM e_FIELD e_ONEOF e_ENUM_VALUE e_SERVICE e_METHOD h_116 f_164 en f_163) (st := []) [] rfl rfl own_pd_0_isScope rfl rfl (by decide) (W := 0) (Nat.le_of_eq rfl) (by decide) (by decide) (by decide) at_107 (pc' := 110) rfl ?_
    intro v_168 h_166 q_167
    obtain ⟨rfl, rfl⟩ := q_167
    show Go B n0 _ h_116 2 16 110 #[.val (.int p0), .val (.ref a_2), .val (.ref a_72), .val (.int (4 : Int32)), .val (.ref e_ONEOF), .unset, .unset] [(.int (0 : Int32))]
    refine g_istore C at_110 (v := (0 : Int32)) (L' := #[.val (.int p0), .val (.ref a_2), .val (.ref a_72), .val (.int (4 : Int32)), .val (.ref e_ONEOF), .val (.int (0 : Int32)), .unset]) rfl (pc' := 112) rfl ?_
    refine g_aload C at_112 (v := (.ref e_ONEOF)) rfl rfl (pc' := 114) rfl ?_
    refine g_virtual C (own_w hw 27 rfl) (own_w hw 28 rfl) (own_w hw 30 rfl) (own_w hw 29 rfl) (own_w hw 3 rfl) (own_w hw 31 rfl) (notFace_of_selects (args := #[]) (mvT C.2.2.2.2.1 (own_w hw 30 rfl))) (by decide) f_165 (rm_isType_ONEOF l Z a0 hw n0 e_PACKAGE e_MESSAGE e_ENUM e_FIELD e_ONEOF e_ENUM_VALUE e_SERVICE e_METHOD h_116 f_164 en f_163) (st := []) [] rfl rfl own_pd_0_isType rfl rfl (by decide) (W := 0) (Nat.le_of_eq rfl) (by decide) (by decide) (by decide) at_114 (pc' := 117) rfl ?_
    intro v_171 h_169 q_170
    obtain ⟨rfl, rfl⟩ := q_170
    show Go B n0 _ h_116 2 16 117 #[.val (.int p0), .val (.ref a_2), .val (.ref a_72), .val (.int (4 : Int32)), .val (.ref e_ONEOF), .val (.int (0 : Int32)), .unset] [(.int (0 : Int32))]
    refine g_if_y C at_117 (Jvm.Free.XT.i0_eq_t (by decide)) (pc' := 125) (by decide) (by decide) ?_
    refine g_iconst C at_125 (v := (1 : Int32)) rfl (pc' := 126) rfl ?_
    refine g_goto C at_126 (pc' := 130) (by decide) (by decide) ?_
    refine g_istore C at_130 (v := (1 : Int32)) (L' := #[.val (.int p0), .val (.ref a_2), .val (.ref a_72), .val (.int (4 : Int32)), .val (.ref e_ONEOF), .val (.int (0 : Int32)), .val (.int (1 : Int32))]) rfl (pc' := 132) rfl ?_
    refine g_iload C at_132 (v := (0 : Int32)) rfl (pc' := 134) rfl ?_
    refine g_aload_n C at_134 (v := (.ref a_72)) rfl rfl (pc' := 135) rfl ?_
    refine g_iload_n C at_135 (v := (4 : Int32)) rfl (pc' := 136) rfl ?_
    refine g_baloadZ C f_119 (by decide) (i := 4) (by decide) (v := (0 : Int32)) rfl at_136 (pc' := 137) rfl ?_
    refine g_icmp_n C at_137 (Jvm.Free.XT.ii_ne_f (by decide)) (pc' := 140) rfl ?_
    refine g_iload C at_140 (v := (1 : Int32)) rfl (pc' := 142) rfl ?_
    refine g_if_n C at_142 (Jvm.Free.XT.i0_eq_f (by decide)) (pc' := 145) rfl ?_
    refine g_iconst C at_145 (v := (1 : Int32)) rfl (pc' := 146) rfl ?_
    refine g_goto C at_146 (pc' := 150) (by decide) (by decide) ?_
    refine g_ret C (v := (.int (1 : Int32))) (ty := .boolean) rfl rfl (Or.inl ⟨rfl, Or.inr (Or.inl rfl), _, rfl⟩) at_150 (by decide) (by decide) ?_
    rfl
  · subst i_120e
    show Go B n0 _ h_116 2 16 99 #[.val (.int p0), .val (.ref a_2), .val (.ref a_72), .unset, .unset, .unset, .unset] [(.int (5 : Int32))]
    refine g_istore_n C at_99 (v := (5 : Int32)) (L' := #[.val (.int p0), .val (.ref a_2), .val (.ref a_72), .val (.int (5 : Int32)), .unset, .unset, .unset]) rfl (pc' := 100) rfl ?_
    refine g_aload_n C at_100 (v := (.ref a_2)) rfl rfl (pc' := 101) rfl ?_
    refine g_iload_n C at_101 (v := (5 : Int32)) rfl (pc' := 102) rfl ?_
    have f_172 := (((((((((f_62.ext E_74).keep K_89 (ninS ne_76 nin0)).keep K_93 (ninS ne_76 nin0)).keep K_97 (ninS ne_76 nin0)).keep K_101 (ninS ne_76 nin0)).keep K_105 (ninS ne_76 nin0)).keep K_109 (ninS ne_76 nin0)).keep K_113 (ninS ne_76 nin0)).keep K_117 (ninS ne_76 nin0))
    refine g_aaload C (AryR.ary f_172) rfl (by decide) (i := 5) (by decide) (v := (.ref e_ENUM_VALUE)) rfl at_102 (pc' := 103) rfl ?_
    refine g_astore C at_103 (v := (.ref e_ENUM_VALUE)) (L' := #[.val (.int p0), .val (.ref a_2), .val (.ref a_72), .val (.int (5 : Int32)), .val (.ref e_ENUM_VALUE), .unset, .unset]) rfl rfl (pc' := 105) rfl ?_
    refine g_aload C at_105 (v := (.ref e_ENUM_VALUE)) rfl rfl (pc' := 107) rfl ?_
    have f_173 := ((((((((((f_57.keep K_59 (allS ge_a_2 all0)).ext E_74).keep K_89 (allS ge_a_72 all0)).keep K_93 (allS ge_a_72 all0)).keep K_97 (allS ge_a_72 all0)).keep K_101 (allS ge_a_72 all0)).keep K_105 (allS ge_a_72 all0)).keep K_109 (allS ge_a_72 all0)).keep K_113 (allS ge_a_72 all0)).keep K_117 (allS ge_a_72 all0))
    have f_174 := (Nat.le_trans (Nat.le_trans (Nat.le_trans (Nat.le_trans (Nat.le_trans (Nat.le_trans (Nat.le_trans (Nat.le_trans (Nat.le_trans f_85 E_74.1) K_89.1) K_93.1) K_97.1) K_101.1) K_105.1) K_109.1) K_113.1) K_117.1)
    have f_175 := (((((((((f_64.ext E_74).keep K_89).keep K_93).keep K_97).keep K_101).keep K_105).keep K_109).keep K_113).keep K_117)
    refine g_virtual C (own_w hw 21 rfl) (own_w hw 22 rfl) (own_w hw 24 rfl) (own_w hw 23 rfl) (own_w hw 3 rfl) (own_w hw 25 rfl) (notFace_of_selects (args := #[]) (mvT C.2.2.2.2.1 (own_w hw 24 rfl))) (by decide) f_175 (rm_isScope_ENUM_VALUE l Z a0 hw n0 e_PACKAGE e_MESSAGE e_ENUM e_FIELD e_ONEOF e_ENUM_VALUE e_SERVICE e_METHOD h_116 f_174 en f_173) (st := []) [] rfl rfl own_pd_0_isScope rfl rfl (by decide) (W := 0) (Nat.le_of_eq rfl) (by decide) (by decide) (by decide) at_107 (pc' := 110) rfl ?_
    intro v_178 h_176 q_177
    obtain ⟨rfl, rfl⟩ := q_177
    show Go B n0 _ h_116 2 16 110 #[.val (.int p0), .val (.ref a_2), .val (.ref a_72), .val (.int (5 : Int32)), .val (.ref e_ENUM_VALUE), .unset, .unset] [(.int (0 : Int32))]
    refine g_istore C at_110 (v := (0 : Int32)) (L' := #[.val (.int p0), .val (.ref a_2), .val (.ref a_72), .val (.int (5 : Int32)), .val (.ref e_ENUM_VALUE), .val (.int (0 : Int32)), .unset]) rfl (pc' := 112) rfl ?_
    refine g_aload C at_112 (v := (.ref e_ENUM_VALUE)) rfl rfl (pc' := 114) rfl ?_
    refine g_virtual C (own_w hw 27 rfl) (own_w hw 28 rfl) (own_w hw 30 rfl) (own_w hw 29 rfl) (own_w hw 3 rfl) (own_w hw 31 rfl) (notFace_of_selects (args := #[]) (mvT C.2.2.2.2.1 (own_w hw 30 rfl))) (by decide) f_175 (rm_isType_ENUM_VALUE l Z a0 hw n0 e_PACKAGE e_MESSAGE e_ENUM e_FIELD e_ONEOF e_ENUM_VALUE e_SERVICE e_METHOD h_116 f_174 en f_173) (st := []) [] rfl rfl own_pd_0_isType rfl rfl (by decide) (W := 0) (Nat.le_of_eq rfl) (by decide) (by decide) (by decide) at_114 (pc' := 117) rfl ?_
    intro v_181 h_179 q_180
    obtain ⟨rfl, rfl⟩ := q_180
    show Go B n0 _ h_116 2 16 117 #[.val (.int p0), .val (.ref a_2), .val (.ref a_72), .val (.int (5 : Int32)), .val (.ref e_ENUM_VALUE), .val (.int (0 : Int32)), .unset] [(.int (0 : Int32))]
    refine g_if_y C at_117 (Jvm.Free.XT.i0_eq_t (by decide)) (pc' := 125) (by decide) (by decide) ?_
    refine g_iconst C at_125 (v := (1 : Int32)) rfl (pc' := 126) rfl ?_
    refine g_goto C at_126 (pc' := 130) (by decide) (by decide) ?_
    refine g_istore C at_130 (v := (1 : Int32)) (L' := #[.val (.int p0), .val (.ref a_2), .val (.ref a_72), .val (.int (5 : Int32)), .val (.ref e_ENUM_VALUE), .val (.int (0 : Int32)), .val (.int (1 : Int32))]) rfl (pc' := 132) rfl ?_
    refine g_iload C at_132 (v := (0 : Int32)) rfl (pc' := 134) rfl ?_
    refine g_aload_n C at_134 (v := (.ref a_72)) rfl rfl (pc' := 135) rfl ?_
    refine g_iload_n C at_135 (v := (5 : Int32)) rfl (pc' := 136) rfl ?_
    refine g_baloadZ C f_119 (by decide) (i := 5) (by decide) (v := (0 : Int32)) rfl at_136 (pc' := 137) rfl ?_
    refine g_icmp_n C at_137 (Jvm.Free.XT.ii_ne_f (by decide)) (pc' := 140) rfl ?_
    refine g_iload C at_140 (v := (1 : Int32)) rfl (pc' := 142) rfl ?_
    refine g_if_n C at_142 (Jvm.Free.XT.i0_eq_f (by decide)) (pc' := 145) rfl ?_
    refine g_iconst C at_145 (v := (1 : Int32)) rfl (pc' := 146) rfl ?_
    refine g_goto C at_146 (pc' := 150) (by decide) (by decide) ?_
    refine g_ret C (v := (.int (1 : Int32))) (ty := .boolean) rfl rfl (Or.inl ⟨rfl, Or.inr (Or.inl rfl), _, rfl⟩) at_150 (by decide) (by decide) ?_
    rfl
  · subst i_120e
    show Go B n0 _ h_116 2 16 99 #[.val (.int p0), .val (.ref a_2), .val (.ref a_72), .unset, .unset, .unset, .unset] [(.int (6 : Int32))]
    refine g_istore_n C at_99 (v := (6 : Int32)) (L' := #[.val (.int p0), .val (.ref a_2), .val (.ref a_72), .val (.int (6 : Int32)), .unset, .unset, .unset]) rfl (pc' := 100) rfl ?_
    refine g_aload_n C at_100 (v := (.ref a_2)) rfl rfl (pc' := 101) rfl ?_
    refine g_iload_n C at_101 (v := (6 : Int32)) rfl (pc' := 102) rfl ?_
    have f_182 := (((((((((f_62.ext E_74).keep K_89 (ninS ne_76 nin0)).keep K_93 (ninS ne_76 nin0)).keep K_97 (ninS ne_76 nin0)).keep K_101 (ninS ne_76 nin0)).keep K_105 (ninS ne_76 nin0)).keep K_109 (ninS ne_76 nin0)).keep K_113 (ninS ne_76 nin0)).keep K_117 (ninS ne_76 nin0))
    refine g_aaload C (AryR.ary f_182) rfl (by decide) (i := 6) (by decide) (v := (.ref e_SERVICE)) rfl at_102 (pc' := 103) rfl ?_
    refine g_astore C at_103 (v := (.ref e_SERVICE)) (L' := #[.val (.int p0), .val (.ref a_2), .val (.ref a_72), .val (.int (6 : Int32)), .val (.ref e_SERVICE), .unset, .unset]) rfl rfl (pc' := 105) rfl ?_
    refine g_aload C at_105 (v := (.ref e_SERVICE)) rfl rfl (pc' := 107) rfl ?_
    have f_183 := ((((((((((f_57.keep K_59 (allS ge_a_2 all0)).ext E_74).keep K_89 (allS ge_a_72 all0)).keep K_93 (allS ge_a_72 all0)).keep K_97 (allS ge_a_72 all0)).keep K_101 (allS ge_a_72 all0)).keep K_105 (allS ge_a_72 all0)).keep K_109 (allS ge_a_72 all0)).keep K_113 (allS ge_a_72 all0)).keep K_117 (allS ge_a_72 all0))
    have f_184 := (Nat.le_trans (Nat.le_trans (Nat.le_trans (Nat.le_trans (Nat.le_trans (Nat.le_trans (Nat.le_trans (Nat.le_trans (Nat.le_trans f_85 E_74.1) K_89.1) K_93.1) K_97.1) K_101.1) K_105.1) K_109.1) K_113.1) K_117.1)
    have f_185 := (((((((((f_70.ext E_74).keep K_89).keep K_93).keep K_97).keep K_101).keep K_105).keep K_109).keep K_113).keep K_117)
    refine g_virtual C (own_w hw 21 rfl) (own_w hw 22 rfl) (own_w hw 24 rfl) (own_w hw 23 rfl) (own_w hw 3 rfl) (own_w hw 25 rfl) (notFace_of_selects (args := #[]) (mvT C.2.2.2.2.1 (own_w hw 24 rfl))) (by decide) f_185 (rm_isScope_SERVICE l Z a0 hw n0 e_PACKAGE e_MESSAGE e_ENUM e_FIELD e_ONEOF e_ENUM_VALUE e_SERVICE e_METHOD h_116 f_184 en f_183) (st := []) [] rfl rfl own_pd_0_isScope rfl rfl (by decide) (W := 0) (Nat.le_of_eq rfl) (by decide) (by decide) (by decide) at_107 (pc' := 110) rfl ?_
    intro v_188 h_186 q_187
    obtain ⟨rfl, rfl⟩ := q_187
    show Go B n0 _ h_116 2 16 110 #[.val (.int p0), .val (.ref a_2), .val (.ref a_72), .val (.int (6 : Int32)), .val (.ref e_SERVICE), .unset, .unset] [(.int (1 : Int32))]
    refine g_istore C at_110 (v := (1 : Int32)) (L' := #[.val (.int p0), .val (.ref a_2), .val (.ref a_72), .val (.int (6 : Int32)), .val (.ref e_SERVICE), .val (.int (1 : Int32)), .unset]) rfl (pc' := 112) rfl ?_
    refine g_aload C at_112 (v := (.ref e_SERVICE)) rfl rfl (pc' := 114) rfl ?_
    refine g_virtual C (own_w hw 27 rfl) (own_w hw 28 rfl) (own_w hw 30 rfl) (own_w hw 29 rfl) (own_w hw 3 rfl) (own_w hw 31 rfl) (notFace_of_selects (args := #[]) (mvT C.2.2.2.2.1 (own_w hw 30 rfl))) (by decide) f_185 (rm_isType_SERVICE l Z a0 hw n0 e_PACKAGE e_MESSAGE e_ENUM e_FIELD e_ONEOF e_ENUM_VALUE e_SERVICE e_METHOD h_116 f_184 en f_183) (st := []) [] rfl rfl own_pd_0_isType rfl rfl (by decide) (W := 0) (Nat.le_of_eq rfl) (by decide) (by decide) (by decide) at_114 (pc' := 117) rfl ?_
    intro v_191 h_189 q_190
    obtain ⟨rfl, rfl⟩ := q_190
    show Go B n0 _ h_116 2 16 117 #[.val (.int p0), .val (.ref a_2), .val (.ref a_72), .val (.int (6 : Int32)), .val (.ref e_SERVICE), .val (.int (1 : Int32)), .unset] [(.int (0 : Int32))]
    refine g_if_y C at_117 (Jvm.Free.XT.i0_eq_t (by decide)) (pc' := 125) (by decide) (by decide) ?_
    refine g_iconst C at_125 (v := (1 : Int32)) rfl (pc' := 126) rfl ?_
    refine g_goto C at_126 (pc' := 130) (by decide) (by decide) ?_
    refine g_istore C at_130 (v := (1 : Int32)) (L' := #[.val (.int p0), .val (.ref a_2), .val (.ref a_72), .val (.int (6 : Int32)), .val (.ref e_SERVICE), .val (.int (1 : Int32)), .val (.int (1 : Int32))]) rfl (pc' := 132) rfl ?_
    refine g_iload C at_132 (v := (1 : Int32)) rfl (pc' := 134) rfl ?_
    refine g_aload_n C at_134 (v := (.ref a_72)) rfl rfl (pc' := 135) rfl ?_
    refine g_iload_n C at_135 (v := (6 : Int32)) rfl (pc' := 136) rfl ?_
    refine g_baloadZ C f_119 (by decide) (i := 6) (by decide) (v := (1 : Int32)) rfl at_136 (pc' := 137) rfl ?_
    refine g_icmp_n C at_137 (Jvm.Free.XT.ii_ne_f (by decide)) (pc' := 140) rfl ?_
    refine g_iload C at_140 (v := (1 : Int32)) rfl (pc' := 142) rfl ?_
    refine g_if_n C at_142 (Jvm.Free.XT.i0_eq_f (by decide)) (pc' := 145) rfl ?_
    refine g_iconst C at_145 (v := (1 : Int32)) rfl (pc' := 146) rfl ?_
    refine g_goto C at_146 (pc' := 150) (by decide) (by decide) ?_
    refine g_ret C (v := (.int (1 : Int32))) (ty := .boolean) rfl rfl (Or.inl ⟨rfl, Or.inr (Or.inl rfl), _, rfl⟩) at_150 (by decide) (by decide) ?_
    rfl
  · subst i_120e
    show Go B n0 _ h_116 2 16 99 #[.val (.int p0), .val (.ref a_2), .val (.ref a_72), .unset, .unset, .unset, .unset] [(.int (7 : Int32))]
    refine g_istore_n C at_99 (v := (7 : Int32)) (L' := #[.val (.int p0), .val (.ref a_2), .val (.ref a_72), .val (.int (7 : Int32)), .unset, .unset, .unset]) rfl (pc' := 100) rfl ?_
    refine g_aload_n C at_100 (v := (.ref a_2)) rfl rfl (pc' := 101) rfl ?_
    refine g_iload_n C at_101 (v := (7 : Int32)) rfl (pc' := 102) rfl ?_
    have f_192 := (((((((((f_62.ext E_74).keep K_89 (ninS ne_76 nin0)).keep K_93 (ninS ne_76 nin0)).keep K_97 (ninS ne_76 nin0)).keep K_101 (ninS ne_76 nin0)).keep K_105 (ninS ne_76 nin0)).keep K_109 (ninS ne_76 nin0)).keep K_113 (ninS ne_76 nin0)).keep K_117 (ninS ne_76 nin0))
    refine g_aaload C (AryR.ary f_192) rfl (by decide) (i := 7) (by decide) (v := (.ref e_METHOD)) rfl at_102 (pc' := 103) rfl ?_
    refine g_astore C at_103 (v := (.ref e_METHOD)) (L' := #[.val (.int p0), .val (.ref a_2), .val (.ref a_72), .val (.int (7 : Int32)), .val (.ref e_METHOD), .unset, .unset]) rfl rfl (pc' := 105) rfl ?_
    refine g_aload C at_105 (v := (.ref e_METHOD)) rfl rfl (pc' := 107) rfl ?_
    have f_193 := ((((((((((f_57.keep K_59 (allS ge_a_2 all0)).ext E_74).keep K_89 (allS ge_a_72 all0)).keep K_93 (allS ge_a_72 all0)).keep K_97 (allS ge_a_72 all0)).keep K_101 (allS ge_a_72 all0)).keep K_105 (allS ge_a_72 all0)).keep K_109 (allS ge_a_72 all0)).keep K_113 (allS ge_a_72 all0)).keep K_117 (allS ge_a_72 all0))
    have f_194 := (Nat.le_trans (Nat.le_trans (Nat.le_trans (Nat.le_trans (Nat.le_trans (Nat.le_trans (Nat.le_trans (Nat.le_trans (Nat.le_trans f_85 E_74.1) K_89.1) K_93.1) K_97.1) K_101.1) K_105.1) K_109.1) K_113.1) K_117.1)
    have f_195 := (((((((((f_67.ext E_74).keep K_89).keep K_93).keep K_97).keep K_101).keep K_105).keep K_109).keep K_113).keep K_117)
    refine g_virtual C (own_w hw 21 rfl) (own_w hw 22 rfl) (own_w hw 24 rfl) (own_w hw 23 rfl) (own_w hw 3 rfl) (own_w hw 25 rfl) (notFace_of_selects (args := #[]) (mvT C.2.2.2.2.1 (own_w hw 24 rfl))) (by decide) f_195 (rm_isScope_METHOD l Z a0 hw n0 e_PACKAGE e_MESSAGE e_ENUM e_FIELD e_ONEOF e_ENUM_VALUE e_SERVICE e_METHOD h_116 f_194 en f_193) (st := []) [] rfl rfl own_pd_0_isScope rfl rfl (by decide) (W := 0) (Nat.le_of_eq rfl) (by decide) (by decide) (by decide) at_107 (pc' := 110) rfl ?_
    intro v_198 h_196 q_197
    obtain ⟨rfl, rfl⟩ := q_197
    show Go B n0 _ h_116 2 16 110 #[.val (.int p0), .val (.ref a_2), .val (.ref a_72), .val (.int (7 : Int32)), .val (.ref e_METHOD), .unset, .unset] [(.int (0 : Int32))]
    refine g_istore C at_110 (v := (0 : Int32)) (L' := #[.val (.int p0), .val (.ref a_2), .val (.ref a_72), .val (.int (7 : Int32)), .val (.ref e_METHOD), .val (.int (0 : Int32)), .unset]) rfl (pc' := 112) rfl ?_
    refine g_aload C at_112 (v := (.ref e_METHOD)) rfl rfl (pc' := 114) rfl ?_
    refine g_virtual C (own_w hw 27 rfl) (own_w hw 28 rfl) (own_w hw 30 rfl) (own_w hw 29 rfl) (own_w hw 3 rfl) (own_w hw 31 rfl) (notFace_of_selects (args := #[]) (mvT C.2.2.2.2.1 (own_w hw 30 rfl))) (by decide) f_195 (rm_isType_METHOD l Z a0 hw n0 e_PACKAGE e_MESSAGE e_ENUM e_FIELD e_ONEOF e_ENUM_VALUE e_SERVICE e_METHOD h_116 f_194 en f_193) (st := []) [] rfl rfl own_pd_0_isType rfl rfl (by decide) (W := 0) (Nat.le_of_eq rfl) (by decide) (by decide) (by decide) at_114 (pc' := 117) rfl ?_
    intro v_201 h_199 q_200
    obtain ⟨rfl, rfl⟩ := q_200
    show Go B n0 _ h_116 2 16 117 #[.val (.int p0), .val (.ref a_2), .val (.ref a_72), .val (.int (7 : Int32)), .val (.ref e_METHOD), .val (.int (0 : Int32)), .unset] [(.int (0 : Int32))]
    refine g_if_y C at_117 (Jvm.Free.XT.i0_eq_t (by decide)) (pc' := 125) (by decide) (by decide) ?_
    refine g_iconst C at_125 (v := (1 : Int32)) rfl (pc' := 126) rfl ?_
    refine g_goto C at_126 (pc' := 130) (by decide) (by decide) ?_
    refine g_istore C at_130 (v := (1 : Int32)) (L' := #[.val (.int p0), .val (.ref a_2), .val (.ref a_72), .val (.int (7 : Int32)), .val (.ref e_METHOD), .val (.int (0 : Int32)), .val (.int (1 : Int32))]) rfl (pc' := 132) rfl ?_
    refine g_iload C at_132 (v := (0 : Int32)) rfl (pc' := 134) rfl ?_
    refine g_aload_n C at_134 (v := (.ref a_72)) rfl rfl (pc' := 135) rfl ?_
    refine g_iload_n C at_135 (v := (7 : Int32)) rfl (pc' := 136) rfl ?_
    refine g_baloadZ C f_119 (by decide) (i := 7) (by decide) (v := (0 : Int32)) rfl at_136 (pc' := 137) rfl ?_
    refine g_icmp_n C at_137 (Jvm.Free.XT.ii_ne_f (by decide)) (pc' := 140) rfl ?_
    refine g_iload C at_140 (v := (1 : Int32)) rfl (pc' := 142) rfl ?_
    refine g_if_n C at_142 (Jvm.Free.XT.i0_eq_f (by decide)) (pc' := 145) rfl ?_
    refine g_iconst C at_145 (v := (1 : Int32)) rfl (pc' := 146) rfl ?_
    refine g_goto C at_146 (pc' := 150) (by decide) (by decide) ?_
    refine g_ret C (v := (.int (1 : Int32))) (ty := .boolean) rfl rfl (Or.inl ⟨rfl, Or.inr (Or.inl rfl), _, rfl⟩) at_150 (by decide) (by decide) ?_
    rfl
set_option maxRecDepth 65536 in
set_option maxHeartbeats 40000000 in
theorem comes_1 {Post : Tables → Env → Array Value → State → Outcome → State → Prop} (hpost : ∀ tb e args s v u, (limb_1_1.after args s (.returned v) u = true ∧ limb_1_2.after args s (.returned v) u = true ∧ True) → FrameEnd s (.returned v) u (Jvm.fieldLocs frame_1_writes args s ++ Jvm.arrayLocs frame_1_arrays args s ++ Jvm.staticLocs frame_1_statics s) 16 128 → Post tb e args s (.returned v) u) :
    ArmFor flags0 classFile x code maxLocals ret World_1 tables_1 room_1 Calls_1 rest_1 Pre_1 Post := by
  intro l hfl _ _ p e ha hc hk s m args below hf hA hF happ hP
  obtain ⟨hcalls, hrest, hpre⟩ := hP
  obtain ⟨-, -, -, hnamed, -, -, -, hat⟩ := (Spec.applies_iff hf).mp happ
  obtain ⟨hg, hn⟩ := and_e (Cond.before_iff.mp (show (Jvm.Cond.and given_1 narrow_1).before args s = true from hpre))
  obtain ⟨gc, gr0⟩ := and_e hg
  obtain ⟨w0, rfl⟩ : ∃ w0 : Value, args = #[w0] := by
    have hs : args.size = 1 := by simpa [Cond.value, given_1] using gc
    obtain ⟨L⟩ := args
    match L, hs with
    | [w0], _ => exact ⟨w0, rfl⟩
  have hw := fun d (hd : d ∈ tables_1) => atoms_spec (ws := Jvm.Cond.code x code maxLocals ret :: tables_1) hat d (List.mem_cons_of_mem _ hd)
  have hfit : Fit s := fun {y c} hc i hi => by
    obtain ⟨ha, rfl⟩ := Array.getElem?_eq_some_iff.mp hc
    have q := List.all_eq_true.mp ((Array.all_eq_true_iff_forall_mem.mp hF) _ (Array.getElem_mem ha)) i (List.mem_range.mpr hi)
    simpa [Array.getElem?_eq_getElem hi] using q
  obtain ⟨i0, ei0⟩ := is_v gr0
  obtain rfl : w0 = (.int i0) := Option.some.inj ei0
  obtain ⟨nq0, nr0⟩ := and_e hn
  obtain ⟨nq1, nr1⟩ := and_e nr0
  obtain ⟨nq2, nr2⟩ := and_e nr1
  obtain ⟨nq3, nr3⟩ := and_e nr2
  obtain ⟨nq4, nr4⟩ := and_e nr3
  obtain ⟨nq5, nr5⟩ := and_e nr4
  obtain ⟨nq6, nr6⟩ := and_e nr5
  obtain ⟨nq7, nr7⟩ := and_e nr6
  obtain ⟨nq8, nr8⟩ := and_e nr7
  obtain ⟨nq9, nr9⟩ := and_e nr8
  obtain ⟨nq10, nr10⟩ := and_e nr9
  obtain ⟨nq11, nr11⟩ := and_e nr10
  obtain ⟨nq12, nr12⟩ := and_e nr11
  obtain ⟨nq13, nr13⟩ := and_e nr12
  obtain ⟨nq14, nr14⟩ := and_e nr13
  obtain ⟨e_PACKAGE, S_PACKAGE, X_PACKAGE, v_PACKAGE⟩ := own_const nq0 (own_w hw 3 rfl) (own_w hw 4 rfl)
  obtain ⟨e_MESSAGE, S_MESSAGE, X_MESSAGE, v_MESSAGE⟩ := own_const nq1 (own_w hw 3 rfl) (own_w hw 7 rfl)
  obtain ⟨e_ENUM, S_ENUM, X_ENUM, v_ENUM⟩ := own_const nq2 (own_w hw 3 rfl) (own_w hw 9 rfl)
  obtain ⟨e_FIELD, S_FIELD, X_FIELD, v_FIELD⟩ := own_const nq3 (own_w hw 3 rfl) (own_w hw 11 rfl)
  obtain ⟨e_ONEOF, S_ONEOF, X_ONEOF, v_ONEOF⟩ := own_const nq4 (own_w hw 3 rfl) (own_w hw 13 rfl)
  obtain ⟨e_ENUM_VALUE, S_ENUM_VALUE, X_ENUM_VALUE, v_ENUM_VALUE⟩ := own_const nq5 (own_w hw 3 rfl) (own_w hw 15 rfl)
  obtain ⟨e_SERVICE, S_SERVICE, X_SERVICE, v_SERVICE⟩ := own_const nq6 (own_w hw 3 rfl) (own_w hw 17 rfl)
  obtain ⟨e_METHOD, S_METHOD, X_METHOD, v_METHOD⟩ := own_const nq7 (own_w hw 3 rfl) (own_w hw 19 rfl)
  have en : Ens s e_PACKAGE e_MESSAGE e_ENUM e_FIELD e_ONEOF e_ENUM_VALUE e_SERVICE e_METHOD := ⟨⟨S_PACKAGE, X_PACKAGE, own_fint v_PACKAGE nq8⟩, ⟨S_MESSAGE, X_MESSAGE, own_fint v_MESSAGE nq9⟩, ⟨S_ENUM, X_ENUM, own_fint v_ENUM nq10⟩, ⟨S_FIELD, X_FIELD, own_fint v_FIELD nq11⟩, ⟨S_ONEOF, X_ONEOF, own_fint v_ONEOF nq14⟩, ⟨S_ENUM_VALUE, X_ENUM_VALUE, own_fint v_ENUM_VALUE nr14⟩, ⟨S_SERVICE, X_SERVICE, own_fint v_SERVICE nq12⟩, ⟨S_METHOD, X_METHOD, own_fint v_METHOD nq13⟩⟩
  obtain ⟨n, o, h1, h2, h3, _, L, rfl, ⟨N, rfl⟩, hq⟩ := rm_law l s _ hw s.heap.size i0 e_PACKAGE e_MESSAGE e_ENUM e_FIELD e_ONEOF e_ENUM_VALUE e_SERVICE e_METHOD s.heap (Nat.le_refl _) en (Old.start s) tables_1 p e ha hc hk s m _ below hf ((Spec.applies_iff_loose hf).mp happ).1 ⟨rfl, State.Warmed39.refl s, rfl⟩ trivial
  refine ⟨n, _, h1, h2, h3, hpost _ _ _ _ _ _ ⟨Cond.after_iff.mpr rfl, Cond.after_iff.mpr (eq_i res_at (Term.int_eval (1)) rfl), trivial⟩ ⟨hq.1, hq.2.1, (hq.2.2.sift fun y hy => Or.inr (N y hy)).mono (by decide) (by decide)⟩⟩
theorem main_1_1 : Claimed_1_1 := comes_1 fun _ _ _ _ _ _ h hF => ⟨h.1, hF⟩
theorem main_1_2 : Claimed_1_2 := comes_1 fun _ _ _ _ _ _ h hF => ⟨h.2.1, hF⟩
end Jvm.Pilot.@@N@@
namespace Jvm.Pilot.@@N@@
open Jvm Jvm.ClassFile Sem Op Lib Jvm.Free Jvm.Stand Jvm.Pilot.@@N@@.Jvm.D
/-! MADE BY PROGRAM (witnessworld.py) out of the Statement's table words and the real class files: 15 classes; the members and pool entries that the words name. The judged class is class 1, her method 1. -/
namespace start1
open Jvm.ClassFile
def u (s : String) : CpInfo := .utf8 (stringToUtf16 s)
/-- a pool by its gaps: so many unusable entries, then the entry; so many at the end -/
def gap : Nat → List CpInfo → List CpInfo
  | 0, r => r
  | n + 1, r => .unusable :: gap n r
def poolList (es : List (Nat × CpInfo)) (last : Nat) : List CpInfo := es.foldr (fun e r => gap e.1 (e.2 :: r)) (gap last [])
def pool (es : List (Nat × CpInfo)) (last : Nat) : Array CpInfo := ⟨poolList es last⟩
def fileOf (pool : Array CpInfo) (this : Nat) (attrs : Array Attribute := #[]) (ms : Array MethodInfo := #[]) (fl : Nat := 33) (sup : Nat := 0) (ifs : Array Nat := #[]) (fds : Array FieldInfo := #[]) : ClassFile where
  minorVersion := 0
  majorVersion := 65
  constantPool := pool
  accessFlags := fl
  thisClass := this
  superClass := sup
  interfaces := ifs
  fields := fds
  methods := ms
  attributes := attrs
def plain (name : String) (sup : Option ClassId) : Class where
  name := name
  kind := .ordinary
  loader := none
  accessFlags := 33
  super := sup
  interfaces := #[]
  cf := none
  fields := #[]
  methods := #[]
  instanceTypes := #[]
  staticTypes := #[]
  resolved := #[]
  callSites := []
  init := .initialized
  statics := none
  mirror := none

def pool0 : Array CpInfo := pool [(5, u "<init>"), (0, u "()V"), (1, .class_ 10), (1, u "java/lang/Object")] 113

def k0m0 : Method := { name := "<init>", desc := "()V", sig := { parameters := [], returnType := none }, accessFlags := 1, code := none }
/-- java/lang/Object -/
def k0 : Class := { plain "java/lang/Object" none with
  accessFlags := 33
  interfaces := #[]
  cf := some (fileOf pool0 8 #[] #[{ accessFlags := 1, nameIndex := 5, descriptorIndex := 6, attributes := #[] }] 33 0 #[] #[])
  fields := #[]
  methods := #[k0m0]
  instanceTypes := #[]
  staticTypes := #[]
  resolved := Array.replicate 124 none
  statics := none }

def pool1 : Array CpInfo := pool [(2, .class_ 4), (1, u "java/lang/Object"), (0, u "<init>"), (0, u "()V"), (0, .class_ 8), (0, u "com/example/wirefield/wirefield/Symbol$Kind"), (0, .fieldref 7 10), (0, .nameAndType 11 12), (0, u "PACKAGE"), (0, u "Lcom/example/wirefield/wirefield/Symbol$Kind;"), (0, .fieldref 7 14), (0, .nameAndType 15 12), (0, u "MESSAGE"), (0, .fieldref 7 17), (0, .nameAndType 18 12), (0, u "ENUM"), (0, .fieldref 7 20), (0, .nameAndType 21 12), (0, u "FIELD"), (0, .fieldref 7 23), (0, .nameAndType 24 12), (0, u "ONEOF"), (0, .fieldref 7 26), (0, .nameAndType 27 12), (0, u "ENUM_VALUE"), (0, .fieldref 7 29), (0, .nameAndType 30 12), (0, u "SERVICE"), (0, .fieldref 7 32), (0, .nameAndType 33 12), (0, u "METHOD"), (0, .methodref 7 35), (0, .nameAndType 36 37), (0, u "isScope"), (0, u "()Z"), (0, .methodref 7 39), (0, .nameAndType 40 37), (0, u "isType"), (0, .class_ 42), (0, u "com/example/wirefield/wirefield/KindIsScopePinLaw"), (2, u "law"), (0, u "(I)Z")] 11

def k1m0 : Method := { name := "<init>", desc := "()V", sig := { parameters := [], returnType := none }, accessFlags := 1, code := none }
def k1c1 : Code := { maxStack := 4, maxLocals := 7, code := code, exceptionTable := #[], attributes := #[] }
def k1m1 : Method := { name := "law", desc := "(I)Z", sig := { parameters := [.int], returnType := some .boolean }, accessFlags := 9, code := some k1c1 }
/-- com/example/wirefield/wirefield/KindIsScopePinLaw -/
def k1 : Class := { plain "com/example/wirefield/wirefield/KindIsScopePinLaw" (some 0) with
  accessFlags := 49
  interfaces := #[]
  cf := some (fileOf pool1 41 #[] #[{ accessFlags := 1, nameIndex := 5, descriptorIndex := 6, attributes := #[] }, { accessFlags := 9, nameIndex := 45, descriptorIndex := 46, attributes := #[] }] 49 2 #[] #[])
  fields := #[]
  methods := #[k1m0, k1m1]
  instanceTypes := #[]
  staticTypes := #[]
  resolved := Array.replicate 58 none
  statics := none }

def pool2 : Array CpInfo := pool [(1, .class_ 2), (0, u "java/lang/constant/Constable"), (0, .class_ 4), (0, u "java/lang/Object")] 6

/-- java/lang/constant/Constable -/
def k2 : Class := { plain "java/lang/constant/Constable" (some 0) with
  accessFlags := 1537
  interfaces := #[]
  cf := some (fileOf pool2 1 #[] #[] 1537 3 #[] #[])
  fields := #[]
  methods := #[]
  instanceTypes := #[]
  staticTypes := #[]
  resolved := Array.replicate 11 none
  statics := none }

def pool3 : Array CpInfo := pool [(1, .class_ 2), (0, u "java/lang/Comparable"), (0, .class_ 4), (0, u "java/lang/Object")] 7

/-- java/lang/Comparable -/
def k3 : Class := { plain "java/lang/Comparable" (some 0) with
  accessFlags := 1537
  interfaces := #[]
  cf := some (fileOf pool3 1 #[] #[] 1537 3 #[] #[])
  fields := #[]
  methods := #[]
  instanceTypes := #[]
  staticTypes := #[]
  resolved := Array.replicate 12 none
  statics := none }

def pool4 : Array CpInfo := pool [(1, .class_ 2), (0, u "java/io/Serializable"), (0, .class_ 4), (0, u "java/lang/Object")] 2

/-- java/io/Serializable -/
def k4 : Class := { plain "java/io/Serializable" (some 0) with
  accessFlags := 1537
  interfaces := #[]
  cf := some (fileOf pool4 1 #[] #[] 1537 3 #[] #[])
  fields := #[]
  methods := #[]
  instanceTypes := #[]
  staticTypes := #[]
  resolved := Array.replicate 7 none
  statics := none }

def pool5 : Array CpInfo := pool [(2, .class_ 4), (1, u "java/lang/Enum"), (0, u "name"), (0, u "Ljava/lang/String;"), (2, u "ordinal"), (0, u "I"), (1, .class_ 14), (1, u "java/lang/Object"), (4, u "hash"), (86, .class_ 108), (1, u "java/lang/Enum$EnumDesc"), (2, .class_ 112), (0, u "java/lang/constant/Constable"), (0, .class_ 114), (0, u "java/lang/Comparable"), (0, .class_ 116), (0, u "java/io/Serializable")] 87

/-- java/lang/Enum -/
def k5 : Class := { plain "java/lang/Enum" (some 0) with
  accessFlags := 1057
  interfaces := #[2, 3, 4]
  cf := some (fileOf pool5 2 #[.nestMembers #[106]] #[] 1057 12 #[111, 113, 115] #[{ accessFlags := 18, nameIndex := 5, descriptorIndex := 6, attributes := #[] }, { accessFlags := 18, nameIndex := 9, descriptorIndex := 10, attributes := #[] }, { accessFlags := 2, nameIndex := 19, descriptorIndex := 10, attributes := #[] }])
  fields := #[{ name := "name", type := (.object "java/lang/String"), accessFlags := 18, slot := 0, constantValue := 0 }, { name := "ordinal", type := .int, accessFlags := 18, slot := 1, constantValue := 0 }, { name := "hash", type := .int, accessFlags := 2, slot := 2, constantValue := 0 }]
  methods := #[]
  instanceTypes := #[(.object "java/lang/String"), .int, .int]
  staticTypes := #[]
  resolved := Array.replicate 204 none
  statics := none }

def pool6 : Array CpInfo := pool [(1, .class_ 2), (0, u "com/example/wirefield/wirefield/Symbol$Kind"), (0, .fieldref 1 4), (0, .nameAndType 5 6), (0, u "PACKAGE"), (0, u "Lcom/example/wirefield/wirefield/Symbol$Kind;"), (0, .fieldref 1 8), (0, .nameAndType 9 6), (0, u "MESSAGE"), (0, .fieldref 1 11), (0, .nameAndType 12 6), (0, u "ENUM"), (2, u "FIELD"), (2, u "ONEOF"), (2, u "ENUM_VALUE"), (0, .fieldref 1 23), (0, .nameAndType 24 6), (0, u "SERVICE"), (2, u "METHOD"), (2, u "$VALUES"), (0, u "[Lcom/example/wirefield/wirefield/Symbol$Kind;"), (6, .class_ 40), (1, u "java/lang/Enum"), (26, u "isType"), (0, u "()Z"), (1, u "isScope"), (5, .class_ 77), (0, u "com/example/wirefield/wirefield/Symbol")] 2

def k6c0 : Code := { maxStack := 2, maxLocals := 1, code := prog_66_method_4_code, exceptionTable := #[], attributes := #[] }
def k6m0 : Method := { name := "isType", desc := "()Z", sig := { parameters := [], returnType := some .boolean }, accessFlags := 0, code := some k6c0 }
def k6c1 : Code := { maxStack := 2, maxLocals := 1, code := prog_66_method_5_code, exceptionTable := #[], attributes := #[] }
def k6m1 : Method := { name := "isScope", desc := "()Z", sig := { parameters := [], returnType := some .boolean }, accessFlags := 0, code := some k6c1 }
/-- com/example/wirefield/wirefield/Symbol$Kind -/
def k6 : Class := { plain "com/example/wirefield/wirefield/Symbol$Kind" (some 5) with
  accessFlags := 16432
  interfaces := #[]
  cf := some (fileOf pool6 1 #[.nestHost 76] #[{ accessFlags := 0, nameIndex := 67, descriptorIndex := 68, attributes := #[] }, { accessFlags := 0, nameIndex := 70, descriptorIndex := 68, attributes := #[] }] 16432 38 #[] #[{ accessFlags := 16409, nameIndex := 5, descriptorIndex := 6, attributes := #[] }, { accessFlags := 16409, nameIndex := 9, descriptorIndex := 6, attributes := #[] }, { accessFlags := 16409, nameIndex := 12, descriptorIndex := 6, attributes := #[] }, { accessFlags := 16409, nameIndex := 15, descriptorIndex := 6, attributes := #[] }, { accessFlags := 16409, nameIndex := 18, descriptorIndex := 6, attributes := #[] }, { accessFlags := 16409, nameIndex := 21, descriptorIndex := 6, attributes := #[] }, { accessFlags := 16409, nameIndex := 24, descriptorIndex := 6, attributes := #[] }, { accessFlags := 16409, nameIndex := 27, descriptorIndex := 6, attributes := #[] }, { accessFlags := 4122, nameIndex := 30, descriptorIndex := 31, attributes := #[] }])
  fields := #[{ name := "PACKAGE", type := (.object "com/example/wirefield/wirefield/Symbol$Kind"), accessFlags := 16409, slot := 0, constantValue := 0 }, { name := "MESSAGE", type := (.object "com/example/wirefield/wirefield/Symbol$Kind"), accessFlags := 16409, slot := 1, constantValue := 0 }, { name := "ENUM", type := (.object "com/example/wirefield/wirefield/Symbol$Kind"), accessFlags := 16409, slot := 2, constantValue := 0 }, { name := "FIELD", type := (.object "com/example/wirefield/wirefield/Symbol$Kind"), accessFlags := 16409, slot := 3, constantValue := 0 }, { name := "ONEOF", type := (.object "com/example/wirefield/wirefield/Symbol$Kind"), accessFlags := 16409, slot := 4, constantValue := 0 }, { name := "ENUM_VALUE", type := (.object "com/example/wirefield/wirefield/Symbol$Kind"), accessFlags := 16409, slot := 5, constantValue := 0 }, { name := "SERVICE", type := (.object "com/example/wirefield/wirefield/Symbol$Kind"), accessFlags := 16409, slot := 6, constantValue := 0 }, { name := "METHOD", type := (.object "com/example/wirefield/wirefield/Symbol$Kind"), accessFlags := 16409, slot := 7, constantValue := 0 }, { name := "$VALUES", type := (.array (.object "com/example/wirefield/wirefield/Symbol$Kind")), accessFlags := 4122, slot := 8, constantValue := 0 }]
  methods := #[k6m0, k6m1]
  instanceTypes := #[(.object "java/lang/String"), .int, .int]
  staticTypes := #[(.object "com/example/wirefield/wirefield/Symbol$Kind"), (.object "com/example/wirefield/wirefield/Symbol$Kind"), (.object "com/example/wirefield/wirefield/Symbol$Kind"), (.object "com/example/wirefield/wirefield/Symbol$Kind"), (.object "com/example/wirefield/wirefield/Symbol$Kind"), (.object "com/example/wirefield/wirefield/Symbol$Kind"), (.object "com/example/wirefield/wirefield/Symbol$Kind"), (.object "com/example/wirefield/wirefield/Symbol$Kind"), (.array (.object "com/example/wirefield/wirefield/Symbol$Kind"))]
  resolved := Array.replicate 80 none
  statics := some 0 }

def pool7 : Array CpInfo := pool [(1, u "java/lang/Cloneable"), (0, .class_ 1), (0, u "java/lang/Object"), (0, .class_ 3)] 3

/-- java/lang/Cloneable -/
def k7 : Class := { plain "java/lang/Cloneable" (some 0) with
  accessFlags := 1537
  interfaces := #[]
  cf := some (fileOf pool7 2 #[] #[] 1537 4 #[] #[])
  fields := #[]
  methods := #[]
  instanceTypes := #[]
  staticTypes := #[]
  resolved := Array.replicate 8 none
  statics := none }

/-- the primitive boolean -/
def k8 : Class := { plain "boolean" none with kind := .primitive 'Z', accessFlags := 0x411 }
/-- [Z -/
def k9 : Class := { plain "[Z" (some 0) with kind := .array 8 .boolean, interfaces := #[7, 4], accessFlags := 1041 }

/-- the primitive byte -/
def k10 : Class := { plain "byte" none with kind := .primitive 'B', accessFlags := 0x411 }
/-- [B -/
def k11 : Class := { plain "[B" (some 0) with kind := .array 10 .byte, interfaces := #[7, 4], accessFlags := 1041 }

/-- the primitive int -/
def k12 : Class := { plain "int" none with kind := .primitive 'I', accessFlags := 0x411 }
/-- [I -/
def k13 : Class := { plain "[I" (some 0) with kind := .array 12 .int, interfaces := #[7, 4], accessFlags := 1041 }

/-- [Lcom/example/wirefield/wirefield/Symbol$Kind; -/
def k14 : Class := { plain "[Lcom/example/wirefield/wirefield/Symbol$Kind;" (some 0) with kind := .array 6 (.object "com/example/wirefield/wirefield/Symbol$Kind"), interfaces := #[7, 4], accessFlags := 1041 }

def heap : Heap := #[{ cls := 6, slots := #[.ref 1, .ref 2, .ref 3, .ref 4, .ref 5, .ref 6, .ref 7, .ref 8, .null], vm := .statics 6 },
  { cls := 6, slots := #[.null, .int 0, .int 0], vm := .none },
  { cls := 6, slots := #[.null, .int 1, .int 0], vm := .none },
  { cls := 6, slots := #[.null, .int 2, .int 0], vm := .none },
  { cls := 6, slots := #[.null, .int 3, .int 0], vm := .none },
  { cls := 6, slots := #[.null, .int 4, .int 0], vm := .none },
  { cls := 6, slots := #[.null, .int 5, .int 0], vm := .none },
  { cls := 6, slots := #[.null, .int 6, .int 0], vm := .none },
  { cls := 6, slots := #[.null, .int 7, .int 0], vm := .none }]
def classes : Array Class := #[k0, k1, k2, k3, k4, k5, k6, k7, k8, k9, k10, k11, k12, k13, k14]
def interned : List (Array UInt16 × Addr) := []
def slotsUsed : Nat := 33
def theMethod : MethodId := ⟨1, 1⟩
def args0 : Array Value := #[.int 5]
def aboutOver (below : List Frame) : State where
  vm := { classes := classes, interned := interned.toArray }
  heap := heap
  slotsUsed := slotsUsed
  threads := #[{ frames := .invoking theMethod args0 :: below }]
def below0 : List Frame := [.native { method := ⟨0, 0⟩, args := #[] }]
def about1 : State := aboutOver below0
def p0 : Program := .bare "" "" ""
def e0 : Env := launch0.env 0 0 0
theorem w_frames : about1.frames = Frame.invoking theMethod args0 :: below0 := rfl
set_option maxRecDepth 65536 in
theorem w_args : argsFit about1.vm theMethod args0 = true := by decide +kernel
set_option maxRecDepth 65536 in
theorem w_heap : heapFits about1 = true := by decide +kernel
set_option maxRecDepth 65536 in
theorem w_runnable : about1.curStatus? = some .runnable := by decide +kernel
set_option maxRecDepth 65536 in
theorem w_alone : about1.alone = true := by decide +kernel
set_option maxRecDepth 65536 in
theorem w_named : about1.methodNamed? x = some theMethod := by decide +kernel
set_option maxRecDepth 65536 in
theorem w_hears : about1.hears theMethod below0 = true := by decide +kernel
set_option maxRecDepth 65536 in
theorem w_ripe : about1.ripe theMethod args0 below0 = true := by decide +kernel
theorem w_running : about1.status = .running := rfl
set_option maxRecDepth 65536 in
theorem w_room : about1.hasRoom e0.platform room_1 = true :=
  launch0.hasRoom_least _ room_1 (by decide +kernel) (by decide +kernel) (by decide +kernel) (by decide +kernel) (by decide +kernel) (by decide +kernel)
theorem allAtoms_all (ts : List Jvm.Cond) (a : Array Jvm.Value) (st : Jvm.State) : (allAtoms ts).before a st = ts.all (fun c => c.before a st) := by
  induction ts with
  | nil => rfl
  | cons c t ih =>
    show (Jvm.Cond.and c (allAtoms t)).before a st = _
    rw [Jvm.Cond.before_and, ih, List.all_cons]
def words1 : List Jvm.Cond := Jvm.Cond.code x code maxLocals ret :: tables_1
/-- a 'code' word, met by the world's own term for the bytes: nothing is compared byte by byte -/
theorem code_word {y : MethodName} {bytes : ByteArray} {mx : Nat} {rt : Option FieldType} {a : Array Value} {s : State} {m : MethodId} {meth : Method} {c : Code} (h1 : s.methodNamed? y = some m) (h2 : s.vm.method? m = some meth) (h3 : meth.code = some c) (h4 : c.code = bytes)
    (h5 : (c.maxLocals == mx && c.exceptionTable.isEmpty && decide (c.maxStack ≤ mostOperands) && decide (meth.sig.returnType = rt) && !meth.locks && decide (parseMethodDescriptor y.desc = some meth.sig)) = true) : (Jvm.Cond.code y bytes mx rt).before a s = true := by
  simp only [Bool.and_eq_true, beq_iff_eq, Bool.not_eq_true', decide_eq_true_eq] at h5
  obtain ⟨⟨⟨⟨⟨g1, g2⟩, g3⟩, g4⟩, g5⟩, g6⟩ := h5
  simp [Cond.before, Cond.holds, Cond.value, h1, h2, h3, h4, g1, g2, g3, g4, g5, g6]
def isCode : Jvm.Cond → Bool
  | .code _ _ _ _ => true
  | _ => false
theorem all_split {L : List Jvm.Cond} {P : Jvm.Cond → Bool} (h1 : L.all (fun c => isCode c || P c) = true) (h2 : ∀ c ∈ L.filter isCode, P c = true) : L.all P = true := by
  refine List.all_eq_true.mpr fun c hc => ?_
  have h := List.all_eq_true.mp h1 c hc
  rcases Bool.eq_false_or_eq_true (isCode c) with hi | hi
  · exact h2 c (List.mem_filter.mpr ⟨hc, hi⟩)
  · simpa [hi] using h
set_option maxRecDepth 65536 in
theorem w_c0 : (Jvm.Cond.code x code maxLocals ret).before args0 about1 = true := code_word (m := ⟨1, 1⟩) (meth := k1m1) (c := k1c1) (by decide +kernel) rfl rfl rfl (by decide +kernel)
set_option maxRecDepth 65536 in
theorem w_c1 : (Jvm.Cond.code ({ cls := "com/example/wirefield/wirefield/Symbol$Kind", name := "isScope", desc := "()Z" } : Jvm.MethodName) prog_66_method_5_code (1 : Nat) (Option.some Jvm.ClassFile.FieldType.boolean)).before args0 about1 = true := code_word (m := ⟨6, 1⟩) (meth := k6m1) (c := k6c1) (by decide +kernel) rfl rfl rfl (by decide +kernel)
set_option maxRecDepth 65536 in
theorem w_c2 : (Jvm.Cond.code ({ cls := "com/example/wirefield/wirefield/Symbol$Kind", name := "isType", desc := "()Z" } : Jvm.MethodName) prog_66_method_4_code (1 : Nat) (Option.some Jvm.ClassFile.FieldType.boolean)).before args0 about1 = true := code_word (m := ⟨6, 0⟩) (meth := k6m0) (c := k6c0) (by decide +kernel) rfl rfl rfl (by decide +kernel)
def codes1 : List Jvm.Cond := [Jvm.Cond.code x code maxLocals ret, Jvm.Cond.code ({ cls := "com/example/wirefield/wirefield/Symbol$Kind", name := "isScope", desc := "()Z" } : Jvm.MethodName) prog_66_method_5_code (1 : Nat) (Option.some Jvm.ClassFile.FieldType.boolean), Jvm.Cond.code ({ cls := "com/example/wirefield/wirefield/Symbol$Kind", name := "isType", desc := "()Z" } : Jvm.MethodName) prog_66_method_4_code (1 : Nat) (Option.some Jvm.ClassFile.FieldType.boolean)]
set_option maxRecDepth 65536 in
theorem codes_eq : words1.filter isCode = codes1 := rfl
theorem w_codes : ∀ c ∈ words1.filter isCode, c.before args0 about1 = true := by
  rw [codes_eq]
  intro c hc
  simp only [codes1, List.mem_cons, List.not_mem_nil, or_false] at hc
  rcases hc with rfl | rfl | rfl
  · exact w_c0
  · exact w_c1
  · exact w_c2
set_option maxRecDepth 65536 in
theorem w_t1 : (words1.take 24).all (fun c => isCode c || c.before args0 about1) = true := by decide +kernel
set_option maxRecDepth 65536 in
theorem w_t2 : (words1.drop 24).all (fun c => isCode c || c.before args0 about1) = true := by decide +kernel
theorem w_tables : (allAtoms (Jvm.Cond.code x code maxLocals ret :: tables_1)).before args0 about1 = true := by
  rw [allAtoms_all]
  show words1.all (fun c => c.before args0 about1) = true
  refine all_split ?_ w_codes
  rw [← List.take_append_drop 24 words1, List.all_append, w_t1, w_t2]
  rfl
set_option maxRecDepth 65536 in
theorem w_case : (Jvm.Cond.and given_1 narrow_1).before args0 about1 = true := by decide +kernel
theorem w_applies : (headSpec (Jvm.Cond.code x code maxLocals ret :: tables_1) room_1).applies x e0.platform about1 = true :=
  (Spec.applies_iff w_frames).mpr ⟨w_running, w_runnable, w_alone, w_named, w_hears, w_ripe, w_room, w_tables⟩
theorem atStart : AtStart classFile x code maxLocals ret World_1 tables_1 room_1 Calls_1 rest_1 Pre_1 launch0 p0 e0 about1 theMethod args0 below0 :=
  ⟨lists_1, trivial, launch0.admits_env _ _ _, launch0.least_env, fairChoices_fair.cas, fairChoices_fair.clock, w_frames, w_args, w_heap, w_applies, trivial, trivial, w_case⟩
end start1
theorem witness_1 : WitnessClaimed_1 := ⟨start1.p0, start1.e0, start1.about1, start1.theMethod, start1.args0, start1.below0, start1.atStart⟩
end Jvm.Pilot.@@N@@
