import JvmDerived
import JvmDerived.Pilot.@@N@@Statement
import JvmDerived.Pilot.@@N@@Code
set_option linter.unusedVariables false
set_option linter.unusedSimpArgs false
namespace Jvm.OwnKit
open Jvm Jvm.ClassFile Sem Op Lib Jvm.Stand Jvm.Free Jvm.LawKit Jvm.RoadKit
/-! A small calculus of my own over the library's laws: Go says 'from here the body comes to its end, and what it leaves satisfies Q'. -/
abbrev Bod : Type := Program × Launch × Env × Room × State × MethodId × Array Value × List Frame × Method × Code
abbrev Bod.p (B : Bod) : Program := B.1
abbrev Bod.l (B : Bod) : Launch := B.2.1
abbrev Bod.e (B : Bod) : Env := B.2.2.1
abbrev Bod.R (B : Bod) : Room := B.2.2.2.1
abbrev Bod.s (B : Bod) : State := B.2.2.2.2.1
abbrev Bod.m (B : Bod) : MethodId := B.2.2.2.2.2.1
abbrev Bod.args (B : Bod) : Array Value := B.2.2.2.2.2.2.1
abbrev Bod.below (B : Bod) : List Frame := B.2.2.2.2.2.2.2.1
abbrev Bod.meth (B : Bod) : Method := B.2.2.2.2.2.2.2.2.1
abbrev Bod.c (B : Bod) : Code := B.2.2.2.2.2.2.2.2.2
abbrev St (B : Bod) (T : State) (locs : List Loc) (k n : Nat) : Prop := Stand B.p B.l B.e B.R B.s B.m B.args B.below B.meth B.c T locs k n
def Fin0 (B : Bod) (n0 : Nat) (Q : Option Value → Heap → Prop) (g : JFrame) (T : State) : Prop :=
  ∃ t o, Steps B.p.tables B.e B.below (T.setTop g) t ∧ t.status = .running ∧ Ended t B.below o ∧ ∃ v L, o = .returned v ∧ (Fr n0 L ∧ Q v t.heap) ∧ FrameEnd B.s o t L B.R.cells B.R.slots
def Go (B : Bod) (n0 : Nat) (Q : Option Value → Heap → Prop) (h : Heap) (k n pc : Nat) (L : Array Slot) (st : List Value) : Prop :=
  ∀ T locs, St B T locs k n → Fr n0 locs → T.heap = h → Fin0 B n0 Q (mkF B.m pc L st) T
def Ctx (B : Bod) (l : Launch) (rm : Room) (bytes : ByteArray) (own nm : String) (maxL : Nat) (ret : Option FieldType) (Z : State) : Prop :=
  B.l = l ∧ B.R = rm ∧ B.p.tables.exec = Jvm.exec ∧ B.c.code = bytes ∧ Z.Warmed39 B.s.vm ∧ B.s.vm.findClass own = some B.m.cls ∧ B.meth.name = nm ∧ B.c.maxLocals = maxL ∧ B.meth.sig.returnType = ret ∧ B.meth.locks = false
/-- a method's contract: called with these arguments over this heap it returns, and Q holds of what it returns and of the heap it leaves -/
def Met1 (l : Launch) (Z : State) (y : MethodName) (bytes : ByteArray) (maxL : Nat) (ret : Option FieldType) (rm : Room) (n0 : Nat) (as' : Array Value) (h0 : Heap) (Q : Option Value → Heap → Prop) : Prop :=
  ∀ ws : List Jvm.Cond, MetFree l y (head1 (Jvm.Cond.code y bytes maxL ret :: ws) rm) (fun a U => a = as' ∧ Z.Warmed39 U.vm ∧ U.heap = h0) (fun _ _ _ _ _ => True) (fun _ U o U' => ∃ v L, o = .returned v ∧ (Fr n0 L ∧ Q v U'.heap) ∧ FrameEnd U o U' L rm.cells rm.slots)
section Base
variable {B : Bod} {l : Launch} {rm : Room} {bytes : ByteArray} {own nm : String} {maxL : Nat} {ret : Option FieldType} {Z : State} {n0 : Nat} {Q : Option Value → Heap → Prop} {h : Heap} {k n pc pc' : Nat} {L L' : Array Slot} {st st' : List Value} {a0 : Array Value}
theorem met_of {y : MethodName} {as' : Array Value} (hp : plainFor y = true) {L0 : Array Slot} (hL : argsToLocals as' maxL = L0) (go : ∀ B : Bod, Ctx B l rm bytes y.cls y.name maxL ret Z → Go B n0 Q h 0 0 0 L0 []) : Met1 l Z y bytes maxL ret rm n0 as' h Q := by
  intro ws
  refine MetFree.of_bodySF hp hisR ?_
  intro p e s m args below meth c s₁ Bd hml0 hP hK
  obtain ⟨rfl, hZ, hh⟩ := hP
  subst hL
  obtain ⟨t, o, h1, h2, h3, v, L, h4, h5, h6⟩ := go (p, l, e, rm, s, m, args, below, meth, c) ⟨rfl, rfl, Bd.exec, Bd.bytes, hZ, findClass_of_methodNamed Bd.named, (name_of_methodNamed Bd.named Bd.method).1, hml0, Bd.returns, BodyLoose.notSynchronized Bd⟩ s₁ [] (Stand.of_body Bd) (Fr.nil n0) (by rw [← hh, Bd.state]; rfl)
  exact ⟨t, o, h1, h2, h3, v, L, h4, h5, h6⟩
/-- a step that moves the frame alone -/
theorem Go.step (f : ∀ T locs, St B T locs k n → T.heap = h → ∀ t, Steps B.p.tables B.e B.below (T.setTop (mkF B.m pc' L' st')) t → Steps B.p.tables B.e B.below (T.setTop (mkF B.m pc L st)) t) (go : Go B n0 Q h k n pc' L' st') : Go B n0 Q h k n pc L st := fun T locs X N eT => by
  obtain ⟨t, o, a, r⟩ := go T locs X N eT
  exact ⟨t, o, f T locs X eT t a, r⟩
/-- a step that moves the tables too -/
theorem Go.move (f : ∀ T locs, St B T locs k n → T.heap = h → ∃ T', St B T' locs k n ∧ T'.heap = h ∧ ∀ t, Steps B.p.tables B.e B.below (T'.setTop (mkF B.m pc' L' st')) t → Steps B.p.tables B.e B.below (T.setTop (mkF B.m pc L st)) t) (go : Go B n0 Q h k n pc' L' st') : Go B n0 Q h k n pc L st := fun T locs X N eT => by
  obtain ⟨T', X', e', f'⟩ := f T locs X eT
  obtain ⟨t, o, a, r⟩ := go T' locs X' N e'
  exact ⟨t, o, f' t a, r⟩
theorem Go.eqs {st2 : List Value} (go : Go B n0 Q h k n pc L st2) (e : st = st2) : Go B n0 Q h k n pc L st := e ▸ go
theorem Go.eqh {h2 : Heap} (go : Go B n0 Q h2 k n pc L st) (e : h = h2) : Go B n0 Q h k n pc L st := e ▸ go
theorem g_iload_n (C : Ctx B l rm bytes own nm maxL ret Z) {i : Fin 4} {v : Int32} (hd : decode bytes pc = .ok (.iload_n i, 1)) (hl : L[i.val]? = some (.val (.int v))) (hpc : pc + 1 = pc') (go : Go B n0 Q h k n pc' L (.int v :: st)) : Go B n0 Q h k n pc L st := go.step fun T locs X eT t q => Jvm.Free.XS.iloadN X.here C.2.2.1 rfl (hb C.2.2.2.1 hd) hl (by subst hpc; exact q)
theorem g_iload (C : Ctx B l rm bytes own nm maxL ret Z) {i : Nat} {v : Int32} (hd : decode bytes pc = .ok (.iload i, 2)) (hl : L[i]? = some (.val (.int v))) (hpc : pc + 2 = pc') (go : Go B n0 Q h k n pc' L (.int v :: st)) : Go B n0 Q h k n pc L st := go.step fun T locs X eT t q => Jvm.Free.XS.iload X.here C.2.2.1 rfl (hb C.2.2.2.1 hd) hl (by subst hpc; exact q)
theorem g_lload_n (C : Ctx B l rm bytes own nm maxL ret Z) {i : Fin 4} {v : Int64} (hd : decode bytes pc = .ok (.lload_n i, 1)) (hl : L[i.val]? = some (.val (.long v))) (hpc : pc + 1 = pc') (go : Go B n0 Q h k n pc' L (.long v :: st)) : Go B n0 Q h k n pc L st := go.step fun T locs X eT t q => Jvm.Free.XT.lloadN X.here C.2.2.1 rfl (hb C.2.2.2.1 hd) hl (by subst hpc; exact q)
theorem g_lload (C : Ctx B l rm bytes own nm maxL ret Z) {i : Nat} {v : Int64} (hd : decode bytes pc = .ok (.lload i, 2)) (hl : L[i]? = some (.val (.long v))) (hpc : pc + 2 = pc') (go : Go B n0 Q h k n pc' L (.long v :: st)) : Go B n0 Q h k n pc L st := go.step fun T locs X eT t q => Jvm.Free.XT.lload X.here C.2.2.1 rfl (hb C.2.2.2.1 hd) hl (by subst hpc; exact q)
theorem g_aload_n (C : Ctx B l rm bytes own nm maxL ret Z) {i : Fin 4} {v : Value} (hd : decode bytes pc = .ok (.aload_n i, 1)) (hl : L[i.val]? = some (.val v)) (hv : v.isRef = true) (hpc : pc + 1 = pc') (go : Go B n0 Q h k n pc' L (v :: st)) : Go B n0 Q h k n pc L st := go.step fun T locs X eT t q => Jvm.Free.XS.aloadN X.here C.2.2.1 rfl (hb C.2.2.2.1 hd) hl hv (by subst hpc; exact q)
theorem g_aload (C : Ctx B l rm bytes own nm maxL ret Z) {i : Nat} {v : Value} (hd : decode bytes pc = .ok (.aload i, 2)) (hl : L[i]? = some (.val v)) (hv : v.isRef = true) (hpc : pc + 2 = pc') (go : Go B n0 Q h k n pc' L (v :: st)) : Go B n0 Q h k n pc L st := go.step fun T locs X eT t q => Jvm.Free.XS.aload X.here C.2.2.1 rfl (hb C.2.2.2.1 hd) hl hv (by subst hpc; exact q)
theorem g_istore_n (C : Ctx B l rm bytes own nm maxL ret Z) {i : Fin 4} {v : Int32} (hd : decode bytes pc = .ok (.istore_n i, 1)) (hl : storeLocals L i.val (.int v) = some L') (hpc : pc + 1 = pc') (go : Go B n0 Q h k n pc' L' st) : Go B n0 Q h k n pc L (.int v :: st) := go.step fun T locs X eT t q => Jvm.Free.XS.istoreN X.here C.2.2.1 rfl (hb C.2.2.2.1 hd) rfl hl (by subst hpc; exact q)
theorem g_istore (C : Ctx B l rm bytes own nm maxL ret Z) {i : Nat} {v : Int32} (hd : decode bytes pc = .ok (.istore i, 2)) (hl : storeLocals L i (.int v) = some L') (hpc : pc + 2 = pc') (go : Go B n0 Q h k n pc' L' st) : Go B n0 Q h k n pc L (.int v :: st) := go.step fun T locs X eT t q => Jvm.Free.XS.istore X.here C.2.2.1 rfl (hb C.2.2.2.1 hd) rfl hl (by subst hpc; exact q)
theorem g_lstore_n (C : Ctx B l rm bytes own nm maxL ret Z) {i : Fin 4} {v : Int64} (hd : decode bytes pc = .ok (.lstore_n i, 1)) (hl : storeLocals L i.val (.long v) = some L') (hpc : pc + 1 = pc') (go : Go B n0 Q h k n pc' L' st) : Go B n0 Q h k n pc L (.long v :: st) := go.step fun T locs X eT t q => Jvm.Free.XT.lstoreN X.here C.2.2.1 rfl (hb C.2.2.2.1 hd) rfl hl (by subst hpc; exact q)
theorem g_lstore (C : Ctx B l rm bytes own nm maxL ret Z) {i : Nat} {v : Int64} (hd : decode bytes pc = .ok (.lstore i, 2)) (hl : storeLocals L i (.long v) = some L') (hpc : pc + 2 = pc') (go : Go B n0 Q h k n pc' L' st) : Go B n0 Q h k n pc L (.long v :: st) := go.step fun T locs X eT t q => Jvm.Free.XT.lstore X.here C.2.2.1 rfl (hb C.2.2.2.1 hd) rfl hl (by subst hpc; exact q)
theorem g_astore_n (C : Ctx B l rm bytes own nm maxL ret Z) {i : Fin 4} {v : Value} (hd : decode bytes pc = .ok (.astore_n i, 1)) (hl : storeLocals L i.val v = some L') (hv : v.isRef = true) (hpc : pc + 1 = pc') (go : Go B n0 Q h k n pc' L' st) : Go B n0 Q h k n pc L (v :: st) := go.step fun T locs X eT t q => Jvm.Free.XS.astoreN X.here C.2.2.1 rfl (hb C.2.2.2.1 hd) rfl hv hl (by subst hpc; exact q)
theorem g_astore (C : Ctx B l rm bytes own nm maxL ret Z) {i : Nat} {v : Value} (hd : decode bytes pc = .ok (.astore i, 2)) (hl : storeLocals L i v = some L') (hv : v.isRef = true) (hpc : pc + 2 = pc') (go : Go B n0 Q h k n pc' L' st) : Go B n0 Q h k n pc L (v :: st) := go.step fun T locs X eT t q => Jvm.Free.XS.astore X.here C.2.2.1 rfl (hb C.2.2.2.1 hd) rfl hv hl (by subst hpc; exact q)
theorem g_iinc (C : Ctx B l rm bytes own nm maxL ret Z) {i : Nat} {z : Int} {v w : Int32} (hd : decode bytes pc = .ok (.iinc i z, 3)) (hl : L[i]? = some (.val (.int v))) (hw : v + Int32.ofInt z = w) (hl' : storeLocals L i (.int w) = some L') (hpc : pc + 3 = pc') (go : Go B n0 Q h k n pc' L' st) : Go B n0 Q h k n pc L st := go.step fun T locs X eT t q => Jvm.Free.XS.iinc X.here C.2.2.1 rfl (hb C.2.2.2.1 hd) hl (by rw [hw]; exact hl') (by subst hpc; exact q)
theorem g_iconst (C : Ctx B l rm bytes own nm maxL ret Z) {z : Int} {v : Int32} (hd : decode bytes pc = .ok (.iconst z, 1)) (hv : Int32.ofInt z = v) (hpc : pc + 1 = pc') (go : Go B n0 Q h k n pc' L (.int v :: st)) : Go B n0 Q h k n pc L st := go.step fun T locs X eT t q => Jvm.Free.XS.iconst X.here C.2.2.1 rfl (hb C.2.2.2.1 hd) (by subst hpc hv; exact q)
theorem g_bipush (C : Ctx B l rm bytes own nm maxL ret Z) {z : Int} {v : Int32} (hd : decode bytes pc = .ok (.bipush z, 2)) (hv : (Int8.ofInt z).toInt32 = v) (hpc : pc + 2 = pc') (go : Go B n0 Q h k n pc' L (.int v :: st)) : Go B n0 Q h k n pc L st := go.step fun T locs X eT t q => Jvm.Free.XS.bipush X.here C.2.2.1 rfl (hb C.2.2.2.1 hd) (by subst hpc hv; exact q)
theorem g_lconst (C : Ctx B l rm bytes own nm maxL ret Z) {i : Fin 2} {v : Int64} (hd : decode bytes pc = .ok (.lconst i, 1)) (hv : Int64.ofNat i = v) (hpc : pc + 1 = pc') (go : Go B n0 Q h k n pc' L (.long v :: st)) : Go B n0 Q h k n pc L st := go.step fun T locs X eT t q => Jvm.Free.XT.lconst X.here C.2.2.1 rfl (hb C.2.2.2.1 hd) (by subst hpc hv; exact q)
theorem g_aconst_null (C : Ctx B l rm bytes own nm maxL ret Z)  (hd : decode bytes pc = .ok (.aconst_null, 1))  (hpc : pc + 1 = pc') (go : Go B n0 Q h k n pc' L (.null :: st)) : Go B n0 Q h k n pc L st := go.step fun T locs X eT t q => Jvm.Free.XS.aconstNull X.here C.2.2.1 rfl (hb C.2.2.2.1 hd)  (by subst hpc; exact q)
theorem g_iadd (C : Ctx B l rm bytes own nm maxL ret Z) {x y : Int32} (hd : decode bytes pc = .ok (.iadd, 1))  (hpc : pc + 1 = pc') (go : Go B n0 Q h k n pc' L (.int (x + y) :: st)) : Go B n0 Q h k n pc L (.int y :: .int x :: st) := go.step fun T locs X eT t q => Jvm.Free.XS.iadd X.here C.2.2.1 rfl (hb C.2.2.2.1 hd) rfl (by subst hpc; exact q)
theorem g_isub (C : Ctx B l rm bytes own nm maxL ret Z) {x y : Int32} (hd : decode bytes pc = .ok (.isub, 1))  (hpc : pc + 1 = pc') (go : Go B n0 Q h k n pc' L (.int (x - y) :: st)) : Go B n0 Q h k n pc L (.int y :: .int x :: st) := go.step fun T locs X eT t q => Jvm.Free.XS.isub X.here C.2.2.1 rfl (hb C.2.2.2.1 hd) rfl (by subst hpc; exact q)
theorem g_iand (C : Ctx B l rm bytes own nm maxL ret Z) {x y : Int32} (hd : decode bytes pc = .ok (.iand, 1))  (hpc : pc + 1 = pc') (go : Go B n0 Q h k n pc' L (.int (x &&& y) :: st)) : Go B n0 Q h k n pc L (.int y :: .int x :: st) := go.step fun T locs X eT t q => Jvm.Free.XS.iand X.here C.2.2.1 rfl (hb C.2.2.2.1 hd) rfl (by subst hpc; exact q)
theorem g_imul (C : Ctx B l rm bytes own nm maxL ret Z) {x y : Int32} (hd : decode bytes pc = .ok (.imul, 1))  (hpc : pc + 1 = pc') (go : Go B n0 Q h k n pc' L (.int (x * y) :: st)) : Go B n0 Q h k n pc L (.int y :: .int x :: st) := go.step fun T locs X eT t q => Jvm.Free.XS.imul X.here C.2.2.1 rfl (hb C.2.2.2.1 hd) rfl (by subst hpc; exact q)
theorem g_ixor (C : Ctx B l rm bytes own nm maxL ret Z) {x y : Int32} (hd : decode bytes pc = .ok (.ixor, 1))  (hpc : pc + 1 = pc') (go : Go B n0 Q h k n pc' L (.int (x ^^^ y) :: st)) : Go B n0 Q h k n pc L (.int y :: .int x :: st) := go.step fun T locs X eT t q => Jvm.Free.XT.ixor X.here C.2.2.1 rfl (hb C.2.2.2.1 hd) rfl (by subst hpc; exact q)
theorem g_ior (C : Ctx B l rm bytes own nm maxL ret Z) {x y : Int32} (hd : decode bytes pc = .ok (.ior, 1))  (hpc : pc + 1 = pc') (go : Go B n0 Q h k n pc' L (.int (x ||| y) :: st)) : Go B n0 Q h k n pc L (.int y :: .int x :: st) := go.step fun T locs X eT t q => Jvm.Free.XT.ior X.here C.2.2.1 rfl (hb C.2.2.2.1 hd) rfl (by subst hpc; exact q)
theorem g_ishl (C : Ctx B l rm bytes own nm maxL ret Z) {x y : Int32} (hd : decode bytes pc = .ok (.ishl, 1))  (hpc : pc + 1 = pc') (go : Go B n0 Q h k n pc' L (.int (x <<< (y &&& 31)) :: st)) : Go B n0 Q h k n pc L (.int y :: .int x :: st) := go.step fun T locs X eT t q => Jvm.Free.XT.ishl X.here C.2.2.1 rfl (hb C.2.2.2.1 hd) rfl (by subst hpc; exact q)
theorem g_ishr (C : Ctx B l rm bytes own nm maxL ret Z) {x y : Int32} (hd : decode bytes pc = .ok (.ishr, 1))  (hpc : pc + 1 = pc') (go : Go B n0 Q h k n pc' L (.int (x >>> (y &&& 31)) :: st)) : Go B n0 Q h k n pc L (.int y :: .int x :: st) := go.step fun T locs X eT t q => Jvm.Free.XT.ishr X.here C.2.2.1 rfl (hb C.2.2.2.1 hd) rfl (by subst hpc; exact q)
theorem g_iushr (C : Ctx B l rm bytes own nm maxL ret Z) {x y : Int32} (hd : decode bytes pc = .ok (.iushr, 1))  (hpc : pc + 1 = pc') (go : Go B n0 Q h k n pc' L (.int (Jvm.Free.XT.ushr x y) :: st)) : Go B n0 Q h k n pc L (.int y :: .int x :: st) := go.step fun T locs X eT t q => Jvm.Free.XT.iushr X.here C.2.2.1 rfl (hb C.2.2.2.1 hd) rfl (by subst hpc; exact q)
theorem g_idiv (C : Ctx B l rm bytes own nm maxL ret Z) {x y : Int32} (hd : decode bytes pc = .ok (.idiv, 1)) (hy : y ≠ 0) (hpc : pc + 1 = pc') (go : Go B n0 Q h k n pc' L (.int (x / y) :: st)) : Go B n0 Q h k n pc L (.int y :: .int x :: st) := go.step fun T locs X eT t q => Jvm.Free.XS.idiv X.here C.2.2.1 rfl (hb C.2.2.2.1 hd) rfl hy (by subst hpc; exact q)
theorem g_irem (C : Ctx B l rm bytes own nm maxL ret Z) {x y : Int32} (hd : decode bytes pc = .ok (.irem, 1)) (hy : y ≠ 0) (hpc : pc + 1 = pc') (go : Go B n0 Q h k n pc' L (.int (x - (x / y) * y) :: st)) : Go B n0 Q h k n pc L (.int y :: .int x :: st) := go.step fun T locs X eT t q => Jvm.Free.XS.irem X.here C.2.2.1 rfl (hb C.2.2.2.1 hd) rfl hy (by subst hpc; exact q)
theorem g_ineg (C : Ctx B l rm bytes own nm maxL ret Z) {x : Int32} (hd : decode bytes pc = .ok (.ineg, 1))  (hpc : pc + 1 = pc') (go : Go B n0 Q h k n pc' L (.int (-x) :: st)) : Go B n0 Q h k n pc L (.int x :: st) := go.step fun T locs X eT t q => Jvm.Free.XS.ineg X.here C.2.2.1 rfl (hb C.2.2.2.1 hd) rfl (by subst hpc; exact q)
theorem g_ladd (C : Ctx B l rm bytes own nm maxL ret Z) {x y : Int64} (hd : decode bytes pc = .ok (.ladd, 1))  (hpc : pc + 1 = pc') (go : Go B n0 Q h k n pc' L (.long (x + y) :: st)) : Go B n0 Q h k n pc L (.long y :: .long x :: st) := go.step fun T locs X eT t q => Jvm.Free.XT.ladd X.here C.2.2.1 rfl (hb C.2.2.2.1 hd) rfl (by subst hpc; exact q)
theorem g_lsub (C : Ctx B l rm bytes own nm maxL ret Z) {x y : Int64} (hd : decode bytes pc = .ok (.lsub, 1))  (hpc : pc + 1 = pc') (go : Go B n0 Q h k n pc' L (.long (x - y) :: st)) : Go B n0 Q h k n pc L (.long y :: .long x :: st) := go.step fun T locs X eT t q => Jvm.Free.XT.lsub X.here C.2.2.1 rfl (hb C.2.2.2.1 hd) rfl (by subst hpc; exact q)
theorem g_lmul (C : Ctx B l rm bytes own nm maxL ret Z) {x y : Int64} (hd : decode bytes pc = .ok (.lmul, 1))  (hpc : pc + 1 = pc') (go : Go B n0 Q h k n pc' L (.long (x * y) :: st)) : Go B n0 Q h k n pc L (.long y :: .long x :: st) := go.step fun T locs X eT t q => Jvm.Free.XT.lmul X.here C.2.2.1 rfl (hb C.2.2.2.1 hd) rfl (by subst hpc; exact q)
theorem g_land (C : Ctx B l rm bytes own nm maxL ret Z) {x y : Int64} (hd : decode bytes pc = .ok (.land, 1))  (hpc : pc + 1 = pc') (go : Go B n0 Q h k n pc' L (.long (x &&& y) :: st)) : Go B n0 Q h k n pc L (.long y :: .long x :: st) := go.step fun T locs X eT t q => Jvm.Free.XT.land X.here C.2.2.1 rfl (hb C.2.2.2.1 hd) rfl (by subst hpc; exact q)
theorem g_lor (C : Ctx B l rm bytes own nm maxL ret Z) {x y : Int64} (hd : decode bytes pc = .ok (.lor, 1))  (hpc : pc + 1 = pc') (go : Go B n0 Q h k n pc' L (.long (x ||| y) :: st)) : Go B n0 Q h k n pc L (.long y :: .long x :: st) := go.step fun T locs X eT t q => Jvm.Free.XT.lor X.here C.2.2.1 rfl (hb C.2.2.2.1 hd) rfl (by subst hpc; exact q)
theorem g_lxor (C : Ctx B l rm bytes own nm maxL ret Z) {x y : Int64} (hd : decode bytes pc = .ok (.lxor, 1))  (hpc : pc + 1 = pc') (go : Go B n0 Q h k n pc' L (.long (x ^^^ y) :: st)) : Go B n0 Q h k n pc L (.long y :: .long x :: st) := go.step fun T locs X eT t q => Jvm.Free.XT.lxor X.here C.2.2.1 rfl (hb C.2.2.2.1 hd) rfl (by subst hpc; exact q)
theorem g_ldiv (C : Ctx B l rm bytes own nm maxL ret Z) {x y : Int64} (hd : decode bytes pc = .ok (.ldiv, 1)) (hy : y ≠ 0) (hpc : pc + 1 = pc') (go : Go B n0 Q h k n pc' L (.long (x / y) :: st)) : Go B n0 Q h k n pc L (.long y :: .long x :: st) := go.step fun T locs X eT t q => Jvm.Free.XT.ldiv X.here C.2.2.1 rfl (hb C.2.2.2.1 hd) rfl hy (by subst hpc; exact q)
theorem g_lrem (C : Ctx B l rm bytes own nm maxL ret Z) {x y : Int64} (hd : decode bytes pc = .ok (.lrem, 1)) (hy : y ≠ 0) (hpc : pc + 1 = pc') (go : Go B n0 Q h k n pc' L (.long (x - (x / y) * y) :: st)) : Go B n0 Q h k n pc L (.long y :: .long x :: st) := go.step fun T locs X eT t q => Jvm.Free.XT.lrem X.here C.2.2.1 rfl (hb C.2.2.2.1 hd) rfl hy (by subst hpc; exact q)
theorem g_lneg (C : Ctx B l rm bytes own nm maxL ret Z) {x : Int64} (hd : decode bytes pc = .ok (.lneg, 1))  (hpc : pc + 1 = pc') (go : Go B n0 Q h k n pc' L (.long (-x) :: st)) : Go B n0 Q h k n pc L (.long x :: st) := go.step fun T locs X eT t q => Jvm.Free.XT.lneg X.here C.2.2.1 rfl (hb C.2.2.2.1 hd) rfl (by subst hpc; exact q)
theorem g_lshl (C : Ctx B l rm bytes own nm maxL ret Z) {x : Int64} {y : Int32} (hd : decode bytes pc = .ok (.lshl, 1))  (hpc : pc + 1 = pc') (go : Go B n0 Q h k n pc' L (.long (x <<< (y.toInt64 &&& 63)) :: st)) : Go B n0 Q h k n pc L (.int y :: .long x :: st) := go.step fun T locs X eT t q => Jvm.Free.XT.lshl X.here C.2.2.1 rfl (hb C.2.2.2.1 hd) rfl (by subst hpc; exact q)
theorem g_lshr (C : Ctx B l rm bytes own nm maxL ret Z) {x : Int64} {y : Int32} (hd : decode bytes pc = .ok (.lshr, 1))  (hpc : pc + 1 = pc') (go : Go B n0 Q h k n pc' L (.long (x >>> (y.toInt64 &&& 63)) :: st)) : Go B n0 Q h k n pc L (.int y :: .long x :: st) := go.step fun T locs X eT t q => Jvm.Free.XT.lshr X.here C.2.2.1 rfl (hb C.2.2.2.1 hd) rfl (by subst hpc; exact q)
theorem g_lushr (C : Ctx B l rm bytes own nm maxL ret Z) {x : Int64} {y : Int32} (hd : decode bytes pc = .ok (.lushr, 1))  (hpc : pc + 1 = pc') (go : Go B n0 Q h k n pc' L (.long (Jvm.Free.XT.ushrL x y) :: st)) : Go B n0 Q h k n pc L (.int y :: .long x :: st) := go.step fun T locs X eT t q => Jvm.Free.XT.lushr X.here C.2.2.1 rfl (hb C.2.2.2.1 hd) rfl (by subst hpc; exact q)
theorem g_lcmp (C : Ctx B l rm bytes own nm maxL ret Z) {x y : Int64} (hd : decode bytes pc = .ok (.lcmp, 1))  (hpc : pc + 1 = pc') (go : Go B n0 Q h k n pc' L (.int (Jvm.Free.XT.cmpL x y) :: st)) : Go B n0 Q h k n pc L (.long y :: .long x :: st) := go.step fun T locs X eT t q => Jvm.Free.XT.lcmp X.here C.2.2.1 rfl (hb C.2.2.2.1 hd) rfl (by subst hpc; exact q)
theorem g_i2l (C : Ctx B l rm bytes own nm maxL ret Z) {x : Int32} (hd : decode bytes pc = .ok (.i2l, 1))  (hpc : pc + 1 = pc') (go : Go B n0 Q h k n pc' L (.long (x.toInt64) :: st)) : Go B n0 Q h k n pc L (.int x :: st) := go.step fun T locs X eT t q => Jvm.Free.XT.i2l X.here C.2.2.1 rfl (hb C.2.2.2.1 hd) rfl (by subst hpc; exact q)
theorem g_l2i (C : Ctx B l rm bytes own nm maxL ret Z) {x : Int64} (hd : decode bytes pc = .ok (.l2i, 1))  (hpc : pc + 1 = pc') (go : Go B n0 Q h k n pc' L (.int (x.toInt32) :: st)) : Go B n0 Q h k n pc L (.long x :: st) := go.step fun T locs X eT t q => Jvm.Free.XT.l2i X.here C.2.2.1 rfl (hb C.2.2.2.1 hd) rfl (by subst hpc; exact q)
theorem g_i2b (C : Ctx B l rm bytes own nm maxL ret Z) {x : Int32} (hd : decode bytes pc = .ok (.i2b, 1))  (hpc : pc + 1 = pc') (go : Go B n0 Q h k n pc' L (.int (x.toInt8.toInt32) :: st)) : Go B n0 Q h k n pc L (.int x :: st) := go.step fun T locs X eT t q => Jvm.Free.XT.i2b X.here C.2.2.1 rfl (hb C.2.2.2.1 hd) rfl (by subst hpc; exact q)
theorem g_i2c (C : Ctx B l rm bytes own nm maxL ret Z) {x : Int32} (hd : decode bytes pc = .ok (.i2c, 1))  (hpc : pc + 1 = pc') (go : Go B n0 Q h k n pc' L (.int (x.toUInt32.toUInt16.toUInt32.toInt32) :: st)) : Go B n0 Q h k n pc L (.int x :: st) := go.step fun T locs X eT t q => Jvm.Free.XT.i2c X.here C.2.2.1 rfl (hb C.2.2.2.1 hd) rfl (by subst hpc; exact q)
theorem g_i2s (C : Ctx B l rm bytes own nm maxL ret Z) {x : Int32} (hd : decode bytes pc = .ok (.i2s, 1))  (hpc : pc + 1 = pc') (go : Go B n0 Q h k n pc' L (.int (x.toInt16.toInt32) :: st)) : Go B n0 Q h k n pc L (.int x :: st) := go.step fun T locs X eT t q => Jvm.Free.XT.i2s X.here C.2.2.1 rfl (hb C.2.2.2.1 hd) rfl (by subst hpc; exact q)
theorem g_dup (C : Ctx B l rm bytes own nm maxL ret Z) {x : Value} (hd : decode bytes pc = .ok (.dup, 1)) (hc : x.category = 1) (hpc : pc + 1 = pc') (go : Go B n0 Q h k n pc' L (x :: x :: st)) : Go B n0 Q h k n pc L (x :: st) := go.step fun T locs X eT t q => Jvm.Free.XS.dup X.here C.2.2.1 rfl (hb C.2.2.2.1 hd) rfl hc (by subst hpc; exact q)
theorem g_pop (C : Ctx B l rm bytes own nm maxL ret Z) {x : Value} (hd : decode bytes pc = .ok (.pop, 1)) (hc : x.category = 1) (hpc : pc + 1 = pc') (go : Go B n0 Q h k n pc' L st) : Go B n0 Q h k n pc L (x :: st) := go.step fun T locs X eT t q => Jvm.Free.XT.pop X.here C.2.2.1 rfl (hb C.2.2.2.1 hd) rfl hc (by subst hpc; exact q)
theorem g_dup_x1 (C : Ctx B l rm bytes own nm maxL ret Z) {x y : Value} (hd : decode bytes pc = .ok (.dup_x1, 1)) (hc : x.category = 1) (hc' : y.category = 1) (hpc : pc + 1 = pc') (go : Go B n0 Q h k n pc' L (x :: y :: x :: st)) : Go B n0 Q h k n pc L (x :: y :: st) := go.step fun T locs X eT t q => Jvm.Free.XT.dupX1 X.here C.2.2.1 rfl (hb C.2.2.2.1 hd) rfl hc hc' (by subst hpc; exact q)
theorem g_dup2 (C : Ctx B l rm bytes own nm maxL ret Z) {x y : Value} (hd : decode bytes pc = .ok (.dup2, 1)) (hc : x.category = 1) (hc' : y.category = 1) (hpc : pc + 1 = pc') (go : Go B n0 Q h k n pc' L (x :: y :: x :: y :: st)) : Go B n0 Q h k n pc L (x :: y :: st) := go.step fun T locs X eT t q => Jvm.Free.XT.dup2 X.here C.2.2.1 rfl (hb C.2.2.2.1 hd) rfl hc hc' (by subst hpc; exact q)
theorem g_dup2L (C : Ctx B l rm bytes own nm maxL ret Z) {x : Int64} (hd : decode bytes pc = .ok (.dup2, 1))  (hpc : pc + 1 = pc') (go : Go B n0 Q h k n pc' L (.long x :: .long x :: st)) : Go B n0 Q h k n pc L (.long x :: st) := go.step fun T locs X eT t q => Jvm.Free.XT.dup2L X.here C.2.2.1 rfl (hb C.2.2.2.1 hd) rfl (by subst hpc; exact q)
theorem g_goto (C : Ctx B l rm bytes own nm maxL ret Z) {o : Int} (hd : decode bytes pc = .ok (.goto o, 3)) (ho : 0 ≤ (pc : Int) + o) (hp : ((pc : Int) + o).toNat = pc') (go : Go B n0 Q h k n pc' L st) : Go B n0 Q h k n pc L st := go.step fun T locs X eT t q => Jvm.Free.XS.goto X.here C.2.2.1 rfl rfl (hb C.2.2.2.1 hd) ho hp q
theorem g_if_y (C : Ctx B l rm bytes own nm maxL ret Z) {cd : ClassFile.Cond} {x : Int32} {o : Int} (hd : decode bytes pc = .ok (.ifCond cd o, 3)) (hc : ifCond.holds cd x = true) (ho : 0 ≤ (pc : Int) + o) (hp : ((pc : Int) + o).toNat = pc') (go : Go B n0 Q h k n pc' L st) : Go B n0 Q h k n pc L (.int x :: st) := go.step fun T locs X eT t q => Jvm.Free.XS.ifYes X.here C.2.2.1 rfl rfl (hb C.2.2.2.1 hd) rfl hc ho hp q
theorem g_if_n (C : Ctx B l rm bytes own nm maxL ret Z) {cd : ClassFile.Cond} {x : Int32} {o : Int} (hd : decode bytes pc = .ok (.ifCond cd o, 3)) (hc : ifCond.holds cd x = false) (hpc : pc + 3 = pc') (go : Go B n0 Q h k n pc' L st) : Go B n0 Q h k n pc L (.int x :: st) := go.step fun T locs X eT t q => Jvm.Free.XS.ifNo X.here C.2.2.1 rfl (hb C.2.2.2.1 hd) rfl hc (by subst hpc; exact q)
theorem g_icmp_y (C : Ctx B l rm bytes own nm maxL ret Z) {cd : ClassFile.Cond} {x y : Int32} {o : Int} (hd : decode bytes pc = .ok (.if_icmp cd o, 3)) (hc : if_icmp.holds cd x y = true) (ho : 0 ≤ (pc : Int) + o) (hp : ((pc : Int) + o).toNat = pc') (go : Go B n0 Q h k n pc' L st) : Go B n0 Q h k n pc L (.int y :: .int x :: st) := go.step fun T locs X eT t q => Jvm.Free.XS.icmpYes X.here C.2.2.1 rfl rfl (hb C.2.2.2.1 hd) rfl hc ho hp q
theorem g_icmp_n (C : Ctx B l rm bytes own nm maxL ret Z) {cd : ClassFile.Cond} {x y : Int32} {o : Int} (hd : decode bytes pc = .ok (.if_icmp cd o, 3)) (hc : if_icmp.holds cd x y = false) (hpc : pc + 3 = pc') (go : Go B n0 Q h k n pc' L st) : Go B n0 Q h k n pc L (.int y :: .int x :: st) := go.step fun T locs X eT t q => Jvm.Free.XS.icmpNo X.here C.2.2.1 rfl (hb C.2.2.2.1 hd) rfl hc (by subst hpc; exact q)
theorem g_acmp_y (C : Ctx B l rm bytes own nm maxL ret Z) {cd : ClassFile.ACond} {x y : Value} {o : Int} (hd : decode bytes pc = .ok (.if_acmp cd o, 3)) (hc1 : x.isRef = true) (hc2 : y.isRef = true) (hc : Jvm.Free.XT.acmp cd x y = true) (ho : 0 ≤ (pc : Int) + o) (hp : ((pc : Int) + o).toNat = pc') (go : Go B n0 Q h k n pc' L st) : Go B n0 Q h k n pc L (y :: x :: st) := go.step fun T locs X eT t q => Jvm.Free.XT.acmpYes X.here C.2.2.1 rfl rfl (hb C.2.2.2.1 hd) rfl hc1 hc2 hc ho hp q
theorem g_acmp_n (C : Ctx B l rm bytes own nm maxL ret Z) {cd : ClassFile.ACond} {x y : Value} {o : Int} (hd : decode bytes pc = .ok (.if_acmp cd o, 3)) (hc1 : x.isRef = true) (hc2 : y.isRef = true) (hc : Jvm.Free.XT.acmp cd x y = false) (hpc : pc + 3 = pc') (go : Go B n0 Q h k n pc' L st) : Go B n0 Q h k n pc L (y :: x :: st) := go.step fun T locs X eT t q => Jvm.Free.XT.acmpNo X.here C.2.2.1 rfl (hb C.2.2.2.1 hd) rfl hc1 hc2 hc (by subst hpc; exact q)
theorem g_ifnull_y (C : Ctx B l rm bytes own nm maxL ret Z) {o : Int} (hd : decode bytes pc = .ok (.ifnull o, 3)) (ho : 0 ≤ (pc : Int) + o) (hp : ((pc : Int) + o).toNat = pc') (go : Go B n0 Q h k n pc' L st) : Go B n0 Q h k n pc L (.null :: st) := go.step fun T locs X eT t q => Jvm.Free.XS.ifnullYes X.here C.2.2.1 rfl rfl (hb C.2.2.2.1 hd) rfl ho hp q
theorem g_ifnull_n (C : Ctx B l rm bytes own nm maxL ret Z) {o : Int} {b : Addr} (hd : decode bytes pc = .ok (.ifnull o, 3)) (hpc : pc + 3 = pc') (go : Go B n0 Q h k n pc' L st) : Go B n0 Q h k n pc L (.ref b :: st) := go.step fun T locs X eT t q => Jvm.Free.XS.ifnullNo X.here C.2.2.1 rfl (hb C.2.2.2.1 hd) rfl (by subst hpc; exact q)
theorem g_ifnonnull_y (C : Ctx B l rm bytes own nm maxL ret Z) {o : Int} {b : Addr} (hd : decode bytes pc = .ok (.ifnonnull o, 3)) (ho : 0 ≤ (pc : Int) + o) (hp : ((pc : Int) + o).toNat = pc') (go : Go B n0 Q h k n pc' L st) : Go B n0 Q h k n pc L (.ref b :: st) := go.step fun T locs X eT t q => Jvm.Free.XT.ifnonnullYes X.here C.2.2.1 rfl rfl (hb C.2.2.2.1 hd) rfl ho hp q
theorem g_ifnonnull_n (C : Ctx B l rm bytes own nm maxL ret Z) {o : Int} (hd : decode bytes pc = .ok (.ifnonnull o, 3)) (hpc : pc + 3 = pc') (go : Go B n0 Q h k n pc' L st) : Go B n0 Q h k n pc L (.null :: st) := go.step fun T locs X eT t q => Jvm.Free.XT.ifnonnullNo X.here C.2.2.1 rfl (hb C.2.2.2.1 hd) rfl (by subst hpc; exact q)
theorem g_ldc (C : Ctx B l rm bytes own nm maxL ret Z) {i : Nat} {v : Int32} (w : (Jvm.Cond.constant own i v).before a0 Z = true) (hd : decode bytes pc = .ok (.ldc i, 2)) (hpc : pc + 2 = pc') (go : Go B n0 Q h k n pc' L (.int v :: st)) : Go B n0 Q h k n pc L st := go.step fun T locs X eT t q => X.ldcInt C.2.2.1 C.2.2.2.2.2.1 (mvT C.2.2.2.2.1 w) (g := mkF B.m pc L st) rfl (hb C.2.2.2.1 hd) t (by subst hpc; exact q)
theorem g_ldc_w (C : Ctx B l rm bytes own nm maxL ret Z) {i : Nat} {v : Int32} (w : (Jvm.Cond.constant own i v).before a0 Z = true) (hd : decode bytes pc = .ok (.ldc_w i, 3)) (hpc : pc + 3 = pc') (go : Go B n0 Q h k n pc' L (.int v :: st)) : Go B n0 Q h k n pc L st := go.step fun T locs X eT t q => X.ldcwInt C.2.2.1 C.2.2.2.2.2.1 (mvT C.2.2.2.2.1 w) (g := mkF B.m pc L st) rfl (hb C.2.2.2.1 hd) t (by subst hpc; exact q)
theorem g_ldc2_w (C : Ctx B l rm bytes own nm maxL ret Z) {i : Nat} {v : Int64} (w : (Jvm.Cond.constantLong own i v).before a0 Z = true) (hd : decode bytes pc = .ok (.ldc2_w i, 3)) (hpc : pc + 3 = pc') (go : Go B n0 Q h k n pc' L (.long v :: st)) : Go B n0 Q h k n pc L st := go.step fun T locs X eT t q => X.ldc2Long C.2.2.1 C.2.2.2.2.2.1 (mvT C.2.2.2.2.1 w) (g := mkF B.m pc L st) rfl (hb C.2.2.2.1 hd) t (by subst hpc; exact q)
theorem g_getfield (C : Ctx B l rm bytes own nm maxL ret Z) {i : Nat} {R0 O fn d host : String} {a : Addr} {v : Value} (w : (Jvm.Cond.fieldLink own i R0 fn d).before a0 Z = true ∨ (Jvm.Cond.fieldLinkNest own i R0 fn d host).before a0 Z = true) (via : Via Z R0 O fn d) (F : Fld Z h a O fn d v) (hd : decode bytes pc = .ok (.getfield i, 3)) (hpc : pc + 3 = pc') (go : Go B n0 Q h k n pc' L (v :: st)) : Go B n0 Q h k n pc L (.ref a :: st) := go.move fun T locs X eT => by
  obtain ⟨T', X', e', f⟩ := getF X C.2.2.1 C.2.2.2.2.1 C.2.2.2.2.2.1 w via eT F (g := mkF B.m pc L (.ref a :: st)) rfl rfl (hb C.2.2.2.1 hd)
  subst hpc; exact ⟨T', X', e', f⟩
theorem g_getstatic (C : Ctx B l rm bytes own nm maxL ret Z) {i : Nat} {R0 O fn d host : String} {v : Value} (w : (Jvm.Cond.fieldLink own i R0 fn d).before a0 Z = true ∨ (Jvm.Cond.fieldLinkNest own i R0 fn d host).before a0 Z = true) (via : Via Z R0 O fn d) (F : Sta Z h O fn d v) (hd : decode bytes pc = .ok (.getstatic i, 3)) (hpc : pc + 3 = pc') (go : Go B n0 Q h k n pc' L (v :: st)) : Go B n0 Q h k n pc L st := go.move fun T locs X eT => by
  obtain ⟨T', X', e', f⟩ := getS2 X C.2.2.1 C.2.2.2.2.1 C.2.2.2.2.2.1 w via eT F (g := mkF B.m pc L st) rfl (hb C.2.2.2.1 hd)
  subst hpc; exact ⟨T', X', e', f⟩
theorem g_checkcast (C : Ctx B l rm bytes own nm maxL ret Z) {i : Nat} {K : String} {a : Addr} (w : (Jvm.Cond.classLink own i K).before a0 Z = true) (F : Ins Z h a K true) (hd : decode bytes pc = .ok (.checkcast i, 3)) (hpc : pc + 3 = pc') (go : Go B n0 Q h k n pc' L (.ref a :: st)) : Go B n0 Q h k n pc L (.ref a :: st) := go.move fun T locs X eT => by
  obtain ⟨T', X', e', f⟩ := castY X C.2.2.1 C.2.2.2.2.1 C.2.2.2.2.2.1 w eT F (g := mkF B.m pc L (.ref a :: st)) rfl rfl (hb C.2.2.2.1 hd)
  subst hpc; exact ⟨T', X', e', f⟩
theorem g_instanceof_y (C : Ctx B l rm bytes own nm maxL ret Z) {i : Nat} {K : String} {a : Addr} (w : (Jvm.Cond.classLink own i K).before a0 Z = true) (F : Ins Z h a K true) (hd : decode bytes pc = .ok (.instanceof i, 3)) (hpc : pc + 3 = pc') (go : Go B n0 Q h k n pc' L (.int 1 :: st)) : Go B n0 Q h k n pc L (.ref a :: st) := go.move fun T locs X eT => by
  obtain ⟨T', X', e', f⟩ := instY X C.2.2.1 C.2.2.2.2.1 C.2.2.2.2.2.1 w eT F (g := mkF B.m pc L (.ref a :: st)) rfl rfl (hb C.2.2.2.1 hd)
  subst hpc; exact ⟨T', X', e', f⟩
theorem g_instanceof_n (C : Ctx B l rm bytes own nm maxL ret Z) {i : Nat} {K K' : String} {a : Addr} (w : (Jvm.Cond.classLink own i K).before a0 Z = true) (E : Exa Z h a K') (F : ∃ c t, Z.vm.findClass K' = some c ∧ Z.vm.findClass K = some t ∧ Z.vm.assignable c t = false) (hd : decode bytes pc = .ok (.instanceof i, 3)) (hpc : pc + 3 = pc') (go : Go B n0 Q h k n pc' L (.int 0 :: st)) : Go B n0 Q h k n pc L (.ref a :: st) := go.move fun T locs X eT => by
  obtain ⟨T', X', e', f⟩ := instNo X C.2.2.1 C.2.2.2.2.1 C.2.2.2.2.2.1 w eT E F (g := mkF B.m pc L (.ref a :: st)) rfl rfl (hb C.2.2.2.1 hd)
  subst hpc; exact ⟨T', X', e', f⟩
theorem g_putfield (C : Ctx B l rm bytes own nm maxL ret Z) {i kk : Nat} {R0 O fn d host K : String} {ty : FieldType} {a : Addr} {v old : Value} (w : (Jvm.Cond.fieldLink own i R0 fn d).before a0 Z = true ∨ (Jvm.Cond.fieldLinkNest own i R0 fn d host).before a0 Z = true) (via : Via Z R0 O fn d) (F : Fld Z h a O fn d old) (E : Exa Z h a K) (Ly : (Jvm.Cond.lays K O fn d).before a0 Z = true ∨ ((Jvm.Cond.laysFinal K O fn d).before a0 Z = true ∧ own = O ∧ nm = "<init>")) (wi : (Jvm.Cond.instantiable K kk).before a0 Z = true) (hty : parseFieldDescriptor d = some ty) (hn : narrow ty v = v) (hf : fits ty v = true) (ge : n0 ≤ a) (hd : decode bytes pc = .ok (.putfield i, 3)) (hpc : pc + 3 = pc') (go : ∀ h', Wr h h' a (Jvm.RoadKit.slotOf Z O fn d) v → Go B n0 Q h' k n pc' L st) : Go B n0 Q h k n pc L (v :: .ref a :: st) := fun T locs X N eT => by
  obtain ⟨T', h', X', e', W, f⟩ := putF X C.2.2.1 C.2.2.2.2.1 C.2.2.2.2.2.1 w via eT F E (Ly.imp id fun q => ⟨q.1, q.2.1, by rw [C.2.2.2.2.2.2.1]; exact q.2.2⟩) wi hty hn hf (g := mkF B.m pc L (v :: .ref a :: st)) rfl rfl (hb C.2.2.2.1 hd)
  obtain ⟨t, o, q, r⟩ := go h' W T' _ X' (Fr.snoc X' N ge) e'
  subst hpc
  exact ⟨t, o, f t q, r⟩
theorem g_new (C : Ctx B l rm bytes own nm maxL ret Z) {i nn : Nat} {K : String} (w : (Jvm.Cond.classLink own i K).before a0 Z = true) (wi : (Jvm.Cond.instantiable K nn).before a0 Z = true) (wz : (Jvm.Cond.initialized K).before a0 Z = true) (hc : k + 1 ≤ rm.cells) (hl : n + nn ≤ rm.slots) (hd : decode bytes pc = .ok (.new i, 3)) (hpc : pc + 3 = pc') (go : ∀ h' a, a = h.size → Ext h h' → Exa Z h' a K → (∀ {O fn d : String} {ty : FieldType}, Laid Z a0 K O fn d → parseFieldDescriptor d = some ty → Fld Z h' a O fn d (defaultValue ty)) → Go B n0 Q h' (k + 1) (n + nn) pc' L (.ref a :: st)) : Go B n0 Q h k n pc L st := fun T locs X N eT => by
  obtain ⟨T', h', X', e', E, A, D, -, f⟩ := newO X C.2.2.1 C.2.2.2.2.1 C.2.2.2.2.2.1 w wi wz eT (g := mkF B.m pc L st) rfl (hb C.2.2.2.1 hd) (by rw [C.2.1]; exact hc) (by rw [C.2.1]; exact hl)
  obtain ⟨t, o, q, r⟩ := go h' _ rfl E A D T' _ X' N e'
  subst hpc
  exact ⟨t, o, f t q, r⟩
theorem g_initObj (C : Ctx B l rm bytes own nm maxL ret Z) {i : Nat} {a : Addr} (w1 : (Jvm.Cond.methodLink own i Lib.objectInit).before a0 Z = true) (w2 : (Jvm.Cond.instanceMethod Lib.objectInit).before a0 Z = true) (w3 : (Jvm.Cond.code Lib.objectInit ⟨#[0xb1]⟩ 1 none).before a0 Z = true) (hsz : L.size = maxL) (hf : 1 ≤ rm.frames) {W : Nat} (hW : (st.map fun v => v.category).sum ≤ W) (hl : W + 12 ≤ rm.locals) (hd : decode bytes pc = .ok (.invokespecial i, 3)) (hpc : pc + 3 = pc') (go : Go B n0 Q h k n pc' L st) : Go B n0 Q h k n pc L (.ref a :: st) := fun T locs X N eT => by
  obtain ⟨T', X', e', f⟩ := initO X C.2.2.1 C.2.2.2.2.1 C.2.2.2.2.2.1 w1 w2 w3 eT (g := mkF B.m pc L (.ref a :: st)) rfl (by rw [C.2.2.2.2.2.2.2.1]; exact hsz) rfl (hb C.2.2.2.1 hd) (by rw [C.2.1]; exact hf) (W := W) (by show 2 * 0 + _ ≤ _; omega) (by rw [C.2.1]; exact hl)
  obtain ⟨t, o, q, r⟩ := go T' _ X' N e'
  subst hpc
  exact ⟨t, o, f t q, r⟩
theorem g_static (C : Ctx B l rm bytes own nm maxL ret Z) {i : Nat} {y : MethodName} {b' : ByteArray} {mx : Nat} {rt : Option FieldType} {rm' : Room} {as' : Array Value} {Q' : Option Value → Heap → Prop} (w1 : (Jvm.Cond.methodLink own i y).before a0 Z = true) (w2 : (Jvm.Cond.static y).before a0 Z = true) (wz : (Jvm.Cond.initialized y.cls).before a0 Z = true) (wc : (Jvm.Cond.code y b' mx rt).before a0 Z = true) (hy : y.cls ≠ "java/lang/invoke/MethodHandle" ∧ y.cls ≠ "java/lang/invoke/VarHandle") (K : Met1 l Z y b' mx rt rm' n0 as' h Q') (argsL : List Value) {stk : List Value} (hst : stk = argsL.reverse ++ st) (has : as' = argsL.toArray) {ps : List FieldType} {r' : Option FieldType} (pd : parseMethodDescriptor y.desc = some ⟨ps, r'⟩) (hlen : argsL.length = ps.length) (hsz : L.size = maxL) (hf : rm'.frames + 1 ≤ rm.frames) {W : Nat} (hW : (st.map fun v => v.category).sum ≤ W) (hlo : W + (mx + 11) + rm'.locals ≤ rm.locals) (hc : k + rm'.cells ≤ rm.cells) (hs : n + rm'.slots ≤ rm.slots) (hd : decode bytes pc = .ok (.invokestatic i, 3)) (hpc : pc + 3 = pc') (go : ∀ v h', Q' v h' → Go B n0 Q h' (k + rm'.cells) (n + rm'.slots) pc' L (v.toList ++ st)) : Go B n0 Q h k n pc L stk := fun T locs X N eT => by
  subst hst has
  obtain ⟨v, _, ⟨T', L1, k1, n1⟩, -, X', ⟨L2, ⟨N', hq⟩, l1, l2, l3⟩, f⟩ := Jvm.LawKit.callS X C.2.2.1 (y := y) C.2.2.2.2.2.1 (mvT C.2.2.2.2.1 w1) (mvT C.2.2.2.2.1 w2) (mvT C.2.2.2.2.1 wz) (mvT C.2.2.2.2.1 wc) hy (backOf (W := W) (Q := fun v h L => Fr n0 L ∧ Q' v h) (C.1 ▸ K []) C.2.2.2.2.1 wc wz (by rw [C.2.1]; exact hf) (by rw [C.2.1]; exact hlo)) (g := mkF B.m pc L (argsL.reverse ++ st)) rfl (by rw [C.2.2.2.2.2.2.2.1]; exact hsz) (argsL := argsL) (rest := st) (lenOf pd hlen) rfl (by show 2 * 0 + _ ≤ _; omega) (hb C.2.2.2.1 hd) (fun _ _ => ⟨rfl, eT, by rw [C.2.1]; exact hc, by rw [C.2.1]; exact hs⟩)
  dsimp only [Pt.U, Pt.locs, Pt.cells, Pt.slots] at X' l1 l2 l3 f hq
  subst l1 l2 l3
  obtain ⟨t, o, q, r⟩ := go v _ hq T' _ X' (Fr.app N N') rfl
  subst hpc
  exact ⟨t, o, f t q, r⟩
theorem g_special (C : Ctx B l rm bytes own nm maxL ret Z) {i : Nat} {y : MethodName} {b' : ByteArray} {mx : Nat} {rm' : Room} {as' : Array Value} {Q' : Option Value → Heap → Prop} {a : Addr} (hy1 : y.name = "<init>") (w1 : (Jvm.Cond.methodLink own i y).before a0 Z = true) (w2 : (Jvm.Cond.instanceMethod y).before a0 Z = true) (wz : (Jvm.Cond.initialized y.cls).before a0 Z = true) (wc : (Jvm.Cond.code y b' mx none).before a0 Z = true) (hy : y.cls ≠ "java/lang/invoke/MethodHandle" ∧ y.cls ≠ "java/lang/invoke/VarHandle") (K : Met1 l Z y b' mx none rm' n0 as' h Q') (argsL : List Value) {stk : List Value} (hst : stk = argsL.reverse ++ .ref a :: st) (has : as' = (Value.ref a :: argsL).toArray) {ps : List FieldType} {r' : Option FieldType} (pd : parseMethodDescriptor y.desc = some ⟨ps, r'⟩) (hlen : argsL.length = ps.length) (hsz : L.size = maxL) (hf : rm'.frames + 1 ≤ rm.frames) {W : Nat} (hW : (st.map fun v => v.category).sum ≤ W) (hlo : W + (mx + 11) + rm'.locals ≤ rm.locals) (hc : k + rm'.cells ≤ rm.cells) (hs : n + rm'.slots ≤ rm.slots) (hd : decode bytes pc = .ok (.invokespecial i, 3)) (hpc : pc + 3 = pc') (go : ∀ v h', Q' v h' → Go B n0 Q h' (k + rm'.cells) (n + rm'.slots) pc' L (v.toList ++ st)) : Go B n0 Q h k n pc L stk := fun T locs X N eT => by
  subst hst has
  obtain ⟨v, _, ⟨T', L1, k1, n1⟩, -, X', ⟨L2, ⟨N', hq⟩, l1, l2, l3⟩, f⟩ := X.specialBack C.2.2.1 (y := y) hy1 C.2.2.2.2.2.1 (mvT C.2.2.2.2.1 w1) (mvT C.2.2.2.2.1 w2) (mvT C.2.2.2.2.1 wc) hy (backOf (W := W) (Q := fun v h L => Fr n0 L ∧ Q' v h) (C.1 ▸ K []) C.2.2.2.2.1 wc wz (by rw [C.2.1]; exact hf) (by rw [C.2.1]; exact hlo)) (g := mkF B.m pc L (argsL.reverse ++ .ref a :: st)) rfl (by rw [C.2.2.2.2.2.2.2.1]; exact hsz) (Steps.refl _) (a := a) (argsL := argsL) (rest := st) (lenOf pd hlen) rfl (by show 2 * 0 + _ ≤ _; omega) (hb C.2.2.2.1 hd) (fun _ _ => ⟨rfl, eT, by rw [C.2.1]; exact hc, by rw [C.2.1]; exact hs⟩)
  dsimp only [Pt.U, Pt.locs, Pt.cells, Pt.slots] at X' l1 l2 l3 f hq
  subst l1 l2 l3
  obtain ⟨t, o, q, r⟩ := go v _ hq T' _ X' (Fr.app N N') rfl
  subst hpc
  exact ⟨t, o, f.trans q, r⟩
theorem g_virtual (C : Ctx B l rm bytes own nm maxL ret Z) {i : Nat} {y : MethodName} {b' : ByteArray} {mx : Nat} {rt : Option FieldType} {rm' : Room} {as' : Array Value} {Q' : Option Value → Heap → Prop} {a : Addr} {K' : String} {y0 : MethodName} (w1 : (Jvm.Cond.methodLink own i y0).before a0 Z = true) (w2 : (Jvm.Cond.declares y0).before a0 Z = true) (w3 : (Jvm.Cond.selects K' y0 y).before a0 Z = true) (w4 : (Jvm.Cond.instanceMethod y).before a0 Z = true) (wz : (Jvm.Cond.initialized y.cls).before a0 Z = true) (wc : (Jvm.Cond.code y b' mx rt).before a0 Z = true) (nf : NotFace B.s y0) (hy : y0.cls ≠ "java/lang/invoke/MethodHandle" ∧ y0.cls ≠ "java/lang/invoke/VarHandle") (E : Exa Z h a K') (K : Met1 l Z y b' mx rt rm' n0 as' h Q') (argsL : List Value) {stk : List Value} (hst : stk = argsL.reverse ++ .ref a :: st) (has : as' = (Value.ref a :: argsL).toArray) {ps : List FieldType} {r' : Option FieldType} (pd : parseMethodDescriptor y0.desc = some ⟨ps, r'⟩) (hlen : argsL.length = ps.length) (hsz : L.size = maxL) (hf : rm'.frames + 1 ≤ rm.frames) {W : Nat} (hW : (st.map fun v => v.category).sum ≤ W) (hlo : W + (mx + 11) + rm'.locals ≤ rm.locals) (hc : k + rm'.cells ≤ rm.cells) (hs : n + rm'.slots ≤ rm.slots) (hd : decode bytes pc = .ok (.invokevirtual i, 3)) (hpc : pc + 3 = pc') (go : ∀ v h', Q' v h' → Go B n0 Q h' (k + rm'.cells) (n + rm'.slots) pc' L (v.toList ++ st)) : Go B n0 Q h k n pc L stk := fun T locs X N eT => by
  subst hst has
  obtain ⟨cq, kq, qa, qb, qc⟩ := isOf C.2.2.2.2.1 eT E
  obtain ⟨v, _, ⟨T', L1, k1, n1⟩, -, X', ⟨L2, ⟨N', hq⟩, l1, l2, l3⟩, f⟩ := X.virtualBack C.2.2.1 (y := y0) (z := y) C.2.2.2.2.2.1 (mvT C.2.2.2.2.1 w1) (mvT C.2.2.2.2.1 w2) nf (mvT C.2.2.2.2.1 w3) (mvT C.2.2.2.2.1 w4) hy (backOf (W := W) (Q := fun v h L => Fr n0 L ∧ Q' v h) (C.1 ▸ K []) C.2.2.2.2.1 wc wz (by rw [C.2.1]; exact hf) (by rw [C.2.1]; exact hlo)) qa qc (g := mkF B.m pc L (argsL.reverse ++ .ref a :: st)) rfl (by rw [C.2.2.2.2.2.2.2.1]; exact hsz) (Steps.refl _) (argsL := argsL) (rest := st) (lenOf pd hlen) rfl (by show 2 * 0 + _ ≤ _; omega) (hb C.2.2.2.1 hd) (fun _ _ => ⟨rfl, eT, by rw [C.2.1]; exact hc, by rw [C.2.1]; exact hs⟩)
  dsimp only [Pt.U, Pt.locs, Pt.cells, Pt.slots] at X' l1 l2 l3 f hq
  subst l1 l2 l3
  obtain ⟨t, o, q, r⟩ := go v _ hq T' _ X' (Fr.app N N') rfl
  subst hpc
  exact ⟨t, o, f.trans q, r⟩
theorem g_ret (C : Ctx B l rm bytes own nm maxL ret Z) {v : Value} {ty : FieldType} {i : Instr} (hret : ret = some ty) (hn : narrow ty v = v)
    (hi : (i = .ireturn ∧ (ty = .int ∨ ty = .boolean ∨ ty = .byte ∨ ty = .char ∨ ty = .short) ∧ ∃ z, v = .int z) ∨ (i = .lreturn ∧ ty = .long ∧ ∃ z, v = .long z) ∨ (i = .dreturn ∧ ty = .double ∧ ∃ z, v = .double z) ∨ (i = .freturn ∧ ty = .float ∧ ∃ z, v = .float z) ∨ (i = .areturn ∧ ty.isReference = true ∧ v.isRef = true))
    (hd : decode bytes pc = .ok (i, 1)) (hk : k ≤ rm.cells) (hs : n ≤ rm.slots) (go : Q (some v) h) : Go B n0 Q h k n pc L (v :: st) := fun T locs X N eT => by
  have hr0 : B.meth.sig.returnType = some ty := C.2.2.2.2.2.2.2.2.1.trans hret
  obtain ⟨fs, hr, hrun, hended, hW, hsame⟩ := X.leave (v := some v) (fun q => by rw [hr0] at q; cases q) C.2.2.2.2.2.2.2.2.2
  exact ⟨_, _, retOut X C.2.2.1 hr0 hn hi (hb C.2.2.2.1 hd) hr, hrun, hended, _, _, rfl, ⟨N, by show Q _ T.heap; rw [eT]; exact go⟩, ⟨_, rfl⟩, hW, hsame.mono (by rw [C.2.1]; exact hk) (by rw [C.2.1]; exact hs)⟩
theorem g_return (C : Ctx B l rm bytes own nm maxL ret Z) (hret : ret = none) (hd : decode bytes pc = .ok (.return_, 1)) (hk : k ≤ rm.cells) (hs : n ≤ rm.slots) (go : Q none h) : Go B n0 Q h k n pc L [] := fun T locs X N eT => by
  have hr0 : B.meth.sig.returnType = none := C.2.2.2.2.2.2.2.2.1.trans hret
  obtain ⟨fs, hr, hrun, hended, hW, hsame⟩ := X.leave (v := none) (fun _ => rfl) C.2.2.2.2.2.2.2.2.2
  exact ⟨_, _, X.returnOut C.2.2.1 hr0 (hb C.2.2.2.1 hd) hr, hrun, hended, _, _, rfl, ⟨N, by show Q _ T.heap; rw [eT]; exact go⟩, ⟨_, rfl⟩, hW, hsame.mono (by rw [C.2.1]; exact hk) (by rw [C.2.1]; exact hs)⟩
end Base
/-! arrays made on the road -/
section Arrays
variable {Z : State} {h h' : Heap} {a b : Addr} {ty : FieldType} {vs : List Value} {ws : List Addr} {sl : Nat} {v : Value} {K : String}
def Ary (Z : State) (h : Heap) (a : Addr) (ty : FieldType) (vs : List Value) : Prop := ∃ c : Cell, Arr Z h a c ty ∧ c.slots.toList = vs ∧ vs.length < 2 ^ 31
def AryR (Z : State) (h : Heap) (a : Addr) (K : String) (vs : List Value) : Prop := ∃ c : Cell, Arr Z h a c (.object K) ∧ Ovr Z c.cls K ∧ c.slots.toList = vs ∧ vs.length < 2 ^ 31
theorem AryR.ary (F : AryR Z h a K vs) : Ary Z h a (.object K) vs := by obtain ⟨c, A, -, r⟩ := F; exact ⟨c, A, r⟩
theorem Ary.lt (F : Ary Z h a ty vs) : a < h.size := by obtain ⟨c, A, -⟩ := F; exact A.lt
theorem AryR.lt (F : AryR Z h a K vs) : a < h.size := F.ary.lt
theorem Ary.ext (F : Ary Z h a ty vs) (E : Ext h h') : Ary Z h' a ty vs := by obtain ⟨c, A, r⟩ := F; exact ⟨c, A.ext E, r⟩
theorem AryR.ext (F : AryR Z h a K vs) (E : Ext h h') : AryR Z h' a K vs := by obtain ⟨c, A, r⟩ := F; exact ⟨c, A.ext E, r⟩
theorem Ary.keep (F : Ary Z h a ty vs) (K : Keep h h' ws) (q : a ∉ ws) : Ary Z h' a ty vs := by obtain ⟨c, A, r⟩ := F; exact ⟨c, ⟨K.2.1 a c A.1 q, A.2⟩, r⟩
theorem AryR.keep (F : AryR Z h a K vs) (Kp : Keep h h' ws) (q : a ∉ ws) : AryR Z h' a K vs := by obtain ⟨c, A, r⟩ := F; exact ⟨c, ⟨Kp.2.1 a c A.1 q, A.2⟩, r⟩
theorem set_list (c : Cell) (i : Nat) (v : Value) : (c.setSlot i v).slots.toList = c.slots.toList.set i v := by simp [Cell.setSlot]
theorem keep_ext (E : Ext h h') : Keep h h' [] := (Keep.refl h []).ext E
theorem ne_new {c : Nat} (q : a < c) (e : b = c) : a ≠ b := fun z => absurd q (by rw [z, e]; exact Nat.lt_irrefl _)
theorem ne_newL {c : Nat} (q : a < c) (e : b = c) : b ≠ a := fun z => absurd q (by rw [← z, e]; exact Nat.lt_irrefl _)
theorem ne_ge {c : Nat} (q : a < c) (e : c ≤ b) : a ≠ b := fun z => absurd q (Nat.not_lt.mpr (z ▸ e))
theorem nin1 (q : a ≠ b) : a ∉ [b] := ninS q nin0
theorem in_b {j : Int32} {c : Cell} {i : Nat} (h0 : ¬ j < 0) (hj : j.toNatClampNeg = i) (hi : i < c.slots.size) : ¬ (j < 0 ∨ c.slots.size ≤ j.toNatClampNeg) := fun q => q.elim h0 fun q => by omega
end Arrays
section ArraySteps
variable {B : Bod} {l : Launch} {rm : Room} {bytes : ByteArray} {own nm : String} {maxL : Nat} {ret : Option FieldType} {Z : State} {n0 : Nat} {Q : Option Value → Heap → Prop} {h : Heap} {k n pc pc' : Nat} {L L' : Array Slot} {st st' : List Value} {a0 : Array Value}
theorem g_iaload (C : Ctx B l rm bytes own nm maxL ret Z) {a : Addr} {vs : List Value} {j : Int32} {i : Nat} {v : Int32} (F : Ary Z h a .int vs) (h0 : ¬ j < 0) (hj : j.toNatClampNeg = i) (hv : vs[i]? = some (.int v)) (hd : decode bytes pc = .ok (.iaload, 1)) (hpc : pc + 1 = pc') (go : Go B n0 Q h k n pc' L (.int v :: st)) : Go B n0 Q h k n pc L (.int j :: .ref a :: st) := go.step fun T locs X eT t q => by
  obtain ⟨c, A, rfl, hl⟩ := F
  have hi := (List.getElem?_eq_some_iff.mp hv).1
  rw [Array.length_toList] at hi
  rw [Array.getElem?_toList, ← hj] at hv
  exact X.iaload C.2.2.1 (by rw [eT]; exact A.1) (State.isArrayOf_alike C.2.2.2.2.1.alike A.2.1)  A.2.2 (in_b h0 hj hi) hv (g := mkF B.m pc L (.int j :: .ref a :: st)) rfl rfl (hb C.2.2.2.1 hd) t (by subst hpc; exact q)
theorem g_laload (C : Ctx B l rm bytes own nm maxL ret Z) {a : Addr} {vs : List Value} {j : Int32} {i : Nat} {v : Int64} (F : Ary Z h a .long vs) (h0 : ¬ j < 0) (hj : j.toNatClampNeg = i) (hv : vs[i]? = some (.long v)) (hd : decode bytes pc = .ok (.laload, 1)) (hpc : pc + 1 = pc') (go : Go B n0 Q h k n pc' L (.long v :: st)) : Go B n0 Q h k n pc L (.int j :: .ref a :: st) := go.step fun T locs X eT t q => by
  obtain ⟨c, A, rfl, hl⟩ := F
  have hi := (List.getElem?_eq_some_iff.mp hv).1
  rw [Array.length_toList] at hi
  rw [Array.getElem?_toList, ← hj] at hv
  exact X.laload C.2.2.1 (by rw [eT]; exact A.1) (State.isArrayOf_alike C.2.2.2.2.1.alike A.2.1)  A.2.2 (in_b h0 hj hi) hv (g := mkF B.m pc L (.int j :: .ref a :: st)) rfl rfl (hb C.2.2.2.1 hd) t (by subst hpc; exact q)
theorem g_caload (C : Ctx B l rm bytes own nm maxL ret Z) {a : Addr} {vs : List Value} {j : Int32} {i : Nat} {v : Int32} (F : Ary Z h a .char vs) (h0 : ¬ j < 0) (hj : j.toNatClampNeg = i) (hv : vs[i]? = some (.int v)) (hd : decode bytes pc = .ok (.caload, 1)) (hpc : pc + 1 = pc') (go : Go B n0 Q h k n pc' L (.int v :: st)) : Go B n0 Q h k n pc L (.int j :: .ref a :: st) := go.step fun T locs X eT t q => by
  obtain ⟨c, A, rfl, hl⟩ := F
  have hi := (List.getElem?_eq_some_iff.mp hv).1
  rw [Array.length_toList] at hi
  rw [Array.getElem?_toList, ← hj] at hv
  exact X.caload C.2.2.1 (by rw [eT]; exact A.1) (State.isArrayOf_alike C.2.2.2.2.1.alike A.2.1)  A.2.2 (in_b h0 hj hi) hv (g := mkF B.m pc L (.int j :: .ref a :: st)) rfl rfl (hb C.2.2.2.1 hd) t (by subst hpc; exact q)
theorem g_baloadB (C : Ctx B l rm bytes own nm maxL ret Z) {a : Addr} {vs : List Value} {j : Int32} {i : Nat} {v : Int32} (F : Ary Z h a .byte vs) (h0 : ¬ j < 0) (hj : j.toNatClampNeg = i) (hv : vs[i]? = some (.int v)) (hd : decode bytes pc = .ok (.baload, 1)) (hpc : pc + 1 = pc') (go : Go B n0 Q h k n pc' L (.int v :: st)) : Go B n0 Q h k n pc L (.int j :: .ref a :: st) := go.step fun T locs X eT t q => by
  obtain ⟨c, A, rfl, hl⟩ := F
  have hi := (List.getElem?_eq_some_iff.mp hv).1
  rw [Array.length_toList] at hi
  rw [Array.getElem?_toList, ← hj] at hv
  exact X.baloadBytes C.2.2.1 (by rw [eT]; exact A.1) (State.isArrayOf_alike C.2.2.2.2.1.alike A.2.1)  A.2.2 (in_b h0 hj hi) hv (g := mkF B.m pc L (.int j :: .ref a :: st)) rfl rfl (hb C.2.2.2.1 hd) t (by subst hpc; exact q)
theorem g_baloadZ (C : Ctx B l rm bytes own nm maxL ret Z) {a : Addr} {vs : List Value} {j : Int32} {i : Nat} {v : Int32} (F : Ary Z h a .boolean vs) (h0 : ¬ j < 0) (hj : j.toNatClampNeg = i) (hv : vs[i]? = some (.int v)) (hd : decode bytes pc = .ok (.baload, 1)) (hpc : pc + 1 = pc') (go : Go B n0 Q h k n pc' L (.int v :: st)) : Go B n0 Q h k n pc L (.int j :: .ref a :: st) := go.step fun T locs X eT t q => by
  obtain ⟨c, A, rfl, hl⟩ := F
  have hi := (List.getElem?_eq_some_iff.mp hv).1
  rw [Array.length_toList] at hi
  rw [Array.getElem?_toList, ← hj] at hv
  exact X.baloadBooleans C.2.2.1 (by rw [eT]; exact A.1) (State.isArrayOf_alike C.2.2.2.2.1.alike A.2.1)  A.2.2 (in_b h0 hj hi) hv (g := mkF B.m pc L (.int j :: .ref a :: st)) rfl rfl (hb C.2.2.2.1 hd) t (by subst hpc; exact q)
theorem g_aaload (C : Ctx B l rm bytes own nm maxL ret Z) {a : Addr} {vs : List Value} {j : Int32} {i : Nat} {v : Value} {ty : FieldType} (F : Ary Z h a ty vs) (hty : ty.isReference = true) (h0 : ¬ j < 0) (hj : j.toNatClampNeg = i) (hv : vs[i]? = some v) (hd : decode bytes pc = .ok (.aaload, 1)) (hpc : pc + 1 = pc') (go : Go B n0 Q h k n pc' L (v :: st)) : Go B n0 Q h k n pc L (.int j :: .ref a :: st) := go.step fun T locs X eT t q => by
  obtain ⟨c, A, rfl, hl⟩ := F
  have hi := (List.getElem?_eq_some_iff.mp hv).1
  rw [Array.length_toList] at hi
  rw [Array.getElem?_toList, ← hj] at hv
  exact X.aaload C.2.2.1 (by rw [eT]; exact A.1) (State.isArrayOf_alike C.2.2.2.2.1.alike A.2.1) hty A.2.2 (in_b h0 hj hi) hv (g := mkF B.m pc L (.int j :: .ref a :: st)) rfl rfl (hb C.2.2.2.1 hd) t (by subst hpc; exact q)
theorem g_arraylength (C : Ctx B l rm bytes own nm maxL ret Z) {a : Addr} {vs : List Value} {ty : FieldType} {z : Int32} (F : Ary Z h a ty vs) (hz : vs.length.toInt32 = z) (hd : decode bytes pc = .ok (.arraylength, 1)) (hpc : pc + 1 = pc') (go : Go B n0 Q h k n pc' L (.int z :: st)) : Go B n0 Q h k n pc L (.ref a :: st) := go.step fun T locs X eT t q => by
  obtain ⟨c, A, rfl, hl⟩ := F
  rw [Array.length_toList] at hz
  exact X.arraylength C.2.2.1 (by rw [eT]; exact A.1) (State.isArrayOf_alike C.2.2.2.2.1.alike A.2.1) (g := mkF B.m pc L (.ref a :: st)) rfl rfl (hb C.2.2.2.1 hd) t (by subst hpc hz; exact q)
theorem g_iastore (C : Ctx B l rm bytes own nm maxL ret Z) {a : Addr} {vs : List Value} {j : Int32} {i : Nat} {v : Int32} {w : Value} (F : Ary Z h a .int vs) (h0 : ¬ j < 0) (hj : j.toNatClampNeg = i) (hi : i < vs.length) (hw : Value.int v = w) (ge : n0 ≤ a) (hd : decode bytes pc = .ok (.iastore, 1)) (hpc : pc + 1 = pc') (go : ∀ h', Keep h h' [a] → Ary Z h' a .int (vs.set i w) → Go B n0 Q h' k n pc' L st) : Go B n0 Q h k n pc L (.int v :: .int j :: .ref a :: st) := fun T locs X N eT => by
  obtain ⟨c, A, rfl, hl⟩ := F
  have hi' := hi
  rw [Array.length_toList] at hi'
  obtain ⟨T', h', X', e', W, f⟩ := stI X C.2.2.1 C.2.2.2.2.1 eT A (in_b h0 hj hi') (g := mkF B.m pc L (.int v :: .int j :: .ref a :: st)) rfl rfl (hb C.2.2.2.1 hd)
  rw [hj, hw] at W
  obtain ⟨t, o, q, r⟩ := go h' (Keep.of_wr W) ⟨_, A.same W, set_list c i w, by rw [List.length_set]; exact hl⟩ T' _ X' (Fr.snoc X' N ge) e'
  subst hpc
  exact ⟨t, o, f t q, r⟩
theorem g_lastore (C : Ctx B l rm bytes own nm maxL ret Z) {a : Addr} {vs : List Value} {j : Int32} {i : Nat} {v : Int64} {w : Value} (F : Ary Z h a .long vs) (h0 : ¬ j < 0) (hj : j.toNatClampNeg = i) (hi : i < vs.length) (hw : Value.long v = w) (ge : n0 ≤ a) (hd : decode bytes pc = .ok (.lastore, 1)) (hpc : pc + 1 = pc') (go : ∀ h', Keep h h' [a] → Ary Z h' a .long (vs.set i w) → Go B n0 Q h' k n pc' L st) : Go B n0 Q h k n pc L (.long v :: .int j :: .ref a :: st) := fun T locs X N eT => by
  obtain ⟨c, A, rfl, hl⟩ := F
  have hi' := hi
  rw [Array.length_toList] at hi'
  obtain ⟨T', h', X', e', W, f⟩ := stJ X C.2.2.1 C.2.2.2.2.1 eT A (in_b h0 hj hi') (g := mkF B.m pc L (.long v :: .int j :: .ref a :: st)) rfl rfl (hb C.2.2.2.1 hd)
  rw [hj, hw] at W
  obtain ⟨t, o, q, r⟩ := go h' (Keep.of_wr W) ⟨_, A.same W, set_list c i w, by rw [List.length_set]; exact hl⟩ T' _ X' (Fr.snoc X' N ge) e'
  subst hpc
  exact ⟨t, o, f t q, r⟩
theorem g_castore (C : Ctx B l rm bytes own nm maxL ret Z) {a : Addr} {vs : List Value} {j : Int32} {i : Nat} {v : Int32} {w : Value} (F : Ary Z h a .char vs) (h0 : ¬ j < 0) (hj : j.toNatClampNeg = i) (hi : i < vs.length) (hw : Value.int (nar .char v) = w) (ge : n0 ≤ a) (hd : decode bytes pc = .ok (.castore, 1)) (hpc : pc + 1 = pc') (go : ∀ h', Keep h h' [a] → Ary Z h' a .char (vs.set i w) → Go B n0 Q h' k n pc' L st) : Go B n0 Q h k n pc L (.int v :: .int j :: .ref a :: st) := fun T locs X N eT => by
  obtain ⟨c, A, rfl, hl⟩ := F
  have hi' := hi
  rw [Array.length_toList] at hi'
  obtain ⟨T', h', X', e', W, f⟩ := stC X C.2.2.1 C.2.2.2.2.1 eT A (in_b h0 hj hi') (g := mkF B.m pc L (.int v :: .int j :: .ref a :: st)) rfl rfl (hb C.2.2.2.1 hd)
  rw [hj, hw] at W
  obtain ⟨t, o, q, r⟩ := go h' (Keep.of_wr W) ⟨_, A.same W, set_list c i w, by rw [List.length_set]; exact hl⟩ T' _ X' (Fr.snoc X' N ge) e'
  subst hpc
  exact ⟨t, o, f t q, r⟩
theorem g_bastoreB (C : Ctx B l rm bytes own nm maxL ret Z) {a : Addr} {vs : List Value} {j : Int32} {i : Nat} {v : Int32} {w : Value} (F : Ary Z h a .byte vs) (h0 : ¬ j < 0) (hj : j.toNatClampNeg = i) (hi : i < vs.length) (hw : Value.int (nar .byte v) = w) (ge : n0 ≤ a) (hd : decode bytes pc = .ok (.bastore, 1)) (hpc : pc + 1 = pc') (go : ∀ h', Keep h h' [a] → Ary Z h' a .byte (vs.set i w) → Go B n0 Q h' k n pc' L st) : Go B n0 Q h k n pc L (.int v :: .int j :: .ref a :: st) := fun T locs X N eT => by
  obtain ⟨c, A, rfl, hl⟩ := F
  have hi' := hi
  rw [Array.length_toList] at hi'
  obtain ⟨T', h', X', e', W, f⟩ := stB X C.2.2.1 C.2.2.2.2.1 eT A (in_b h0 hj hi') (g := mkF B.m pc L (.int v :: .int j :: .ref a :: st)) rfl rfl (hb C.2.2.2.1 hd)
  rw [hj, hw] at W
  obtain ⟨t, o, q, r⟩ := go h' (Keep.of_wr W) ⟨_, A.same W, set_list c i w, by rw [List.length_set]; exact hl⟩ T' _ X' (Fr.snoc X' N ge) e'
  subst hpc
  exact ⟨t, o, f t q, r⟩
theorem g_bastoreZ (C : Ctx B l rm bytes own nm maxL ret Z) {a : Addr} {vs : List Value} {j : Int32} {i : Nat} {v : Int32} {w : Value} (F : Ary Z h a .boolean vs) (h0 : ¬ j < 0) (hj : j.toNatClampNeg = i) (hi : i < vs.length) (hw : Value.int (nar .boolean v) = w) (ge : n0 ≤ a) (hd : decode bytes pc = .ok (.bastore, 1)) (hpc : pc + 1 = pc') (go : ∀ h', Keep h h' [a] → Ary Z h' a .boolean (vs.set i w) → Go B n0 Q h' k n pc' L st) : Go B n0 Q h k n pc L (.int v :: .int j :: .ref a :: st) := fun T locs X N eT => by
  obtain ⟨c, A, rfl, hl⟩ := F
  have hi' := hi
  rw [Array.length_toList] at hi'
  obtain ⟨T', h', X', e', W, f⟩ := stZ X C.2.2.1 C.2.2.2.2.1 eT A (in_b h0 hj hi') (g := mkF B.m pc L (.int v :: .int j :: .ref a :: st)) rfl rfl (hb C.2.2.2.1 hd)
  rw [hj, hw] at W
  obtain ⟨t, o, q, r⟩ := go h' (Keep.of_wr W) ⟨_, A.same W, set_list c i w, by rw [List.length_set]; exact hl⟩ T' _ X' (Fr.snoc X' N ge) e'
  subst hpc
  exact ⟨t, o, f t q, r⟩
theorem g_aastore (C : Ctx B l rm bytes own nm maxL ret Z) {a y : Addr} {K : String} {vs : List Value} {j : Int32} {i : Nat} (F : AryR Z h a K vs) (I : Ins Z h y K true) (h0 : ¬ j < 0) (hj : j.toNatClampNeg = i) (hi : i < vs.length) (ge : n0 ≤ a) (hd : decode bytes pc = .ok (.aastore, 1)) (hpc : pc + 1 = pc') (go : ∀ h', Keep h h' [a] → AryR Z h' a K (vs.set i (.ref y)) → Go B n0 Q h' k n pc' L st) : Go B n0 Q h k n pc L (.ref y :: .int j :: .ref a :: st) := fun T locs X N eT => by
  obtain ⟨c, A, O, rfl, hl⟩ := F
  have hi' := hi
  rw [Array.length_toList] at hi'
  obtain ⟨T', h', X', e', W, f⟩ := stR X C.2.2.1 C.2.2.2.2.1 eT A (in_b h0 hj hi') rfl (Sto.of A O I) (g := mkF B.m pc L (.ref y :: .int j :: .ref a :: st)) rfl rfl (hb C.2.2.2.1 hd)
  rw [hj] at W
  obtain ⟨t, o, q, r⟩ := go h' (Keep.of_wr W) ⟨_, A.same W, O, set_list c i _, by rw [List.length_set]; exact hl⟩ T' _ X' (Fr.snoc X' N ge) e'
  subst hpc
  exact ⟨t, o, f t q, r⟩
theorem g_newarray (C : Ctx B l rm bytes own nm maxL ret Z) {aty : ArrayType} {z : Int32} {cap : Nat} {ty : FieldType} (w : (Jvm.Cond.arrayClass (newarray.typeOf aty)).before a0 Z = true) (hty : newarray.typeOf aty = ty) (hz : ¬ z < 0) (hcap : z.toNatClampNeg = cap) (hcb : cap * 8 ≤ 536870912) (hc : k + 1 ≤ rm.cells) (hl : n + cap ≤ rm.slots) (hd : decode bytes pc = .ok (.newarray aty, 2)) (hpc : pc + 2 = pc') (go : ∀ h' a, a = h.size → Ext h h' → Ary Z h' a ty (List.replicate cap (defaultValue ty)) → Go B n0 Q h' (k + 1) (n + cap) pc' L (.ref a :: st)) : Go B n0 Q h k n pc L (.int z :: st) := fun T locs X N eT => by
  subst hty
  obtain ⟨T', h', cA, X', e', E, A, f⟩ := newP X C.2.2.1 C.2.2.2.2.1 w eT (g := mkF B.m pc L (.int z :: st)) rfl (hb C.2.2.2.1 hd) rfl hz (cap := cap) (Nat.le_of_eq hcap) hcb (by rw [C.2.1]; exact hc) (by rw [C.2.1]; exact hl)
  obtain ⟨t, o, q, r⟩ := go h' _ rfl E ⟨_, A, by rw [← hcap]; simp [newA], by rw [List.length_replicate]; omega⟩ T' _ X' N e'
  subst hpc
  exact ⟨t, o, f t q, r⟩
theorem g_newarrayUpTo (C : Ctx B l rm bytes own nm maxL ret Z) {aty : ArrayType} {z : Int32} {len cap : Nat} {ty : FieldType} (w : (Jvm.Cond.arrayClass (newarray.typeOf aty)).before a0 Z = true) (hty : newarray.typeOf aty = ty) (hz : ¬ z < 0) (hlen : z.toNatClampNeg = len) (hcap : len ≤ cap) (hcb : cap * 8 ≤ 536870912) (hc : k + 1 ≤ rm.cells) (hl : n + cap ≤ rm.slots) (hd : decode bytes pc = .ok (.newarray aty, 2)) (hpc : pc + 2 = pc') (go : ∀ h' a, a = h.size → Ext h h' → Ary Z h' a ty (List.replicate len (defaultValue ty)) → Go B n0 Q h' (k + 1) (n + cap) pc' L (.ref a :: st)) : Go B n0 Q h k n pc L (.int z :: st) := fun T locs X N eT => by
  subst hty
  obtain ⟨T', h', cA, X', e', E, A, f⟩ := newP X C.2.2.1 C.2.2.2.2.1 w eT (g := mkF B.m pc L (.int z :: st)) rfl (hb C.2.2.2.1 hd) rfl hz (cap := cap) (by rw [hlen]; exact hcap) hcb (by rw [C.2.1]; exact hc) (by rw [C.2.1]; exact hl)
  obtain ⟨t, o, q, r⟩ := go h' _ rfl E ⟨_, A, by rw [← hlen]; simp [newA], by rw [List.length_replicate]; omega⟩ T' _ X' N e'
  subst hpc
  exact ⟨t, o, f t q, r⟩
theorem g_anewarray (C : Ctx B l rm bytes own nm maxL ret Z) {i : Nat} {K : String} {z : Int32} {cap : Nat} (w : (Jvm.Cond.classLink own i K).before a0 Z = true) (w2 : (Jvm.Cond.arrayOver (.object K)).before a0 Z = true) (hz : ¬ z < 0) (hcap : z.toNatClampNeg = cap) (hcb : cap * 8 ≤ 536870912) (hc : k + 1 ≤ rm.cells) (hl : n + cap ≤ rm.slots) (hd : decode bytes pc = .ok (.anewarray i, 3)) (hpc : pc + 3 = pc') (go : ∀ h' a, a = h.size → Ext h h' → AryR Z h' a K (List.replicate cap .null) → Go B n0 Q h' (k + 1) (n + cap) pc' L (.ref a :: st)) : Go B n0 Q h k n pc L (.int z :: st) := fun T locs X N eT => by
  obtain ⟨T', h', cA, X', e', E, A, O, f⟩ := newR X C.2.2.1 C.2.2.2.2.1 C.2.2.2.2.2.1 w w2 eT (g := mkF B.m pc L (.int z :: st)) rfl (hb C.2.2.2.1 hd) rfl hz (cap := cap) (Nat.le_of_eq hcap) hcb (by rw [C.2.1]; exact hc) (by rw [C.2.1]; exact hl)
  obtain ⟨t, o, q, r⟩ := go h' _ rfl E ⟨_, A, O, by rw [← hcap]; simp [newA, defaultValue], by rw [List.length_replicate]; omega⟩ T' _ X' N e'
  subst hpc
  exact ⟨t, o, f t q, r⟩
end ArraySteps
end Jvm.OwnKit
namespace Jvm.OwnKit
open Jvm Jvm.ClassFile Sem Op Lib Jvm.Stand Jvm.Free Jvm.LawKit Jvm.RoadKit
section More
variable {B : Bod} {l : Launch} {rm : Room} {bytes : ByteArray} {own nm : String} {maxL : Nat} {ret : Option FieldType} {Z : State} {n0 : Nat} {Q : Option Value → Heap → Prop} {h h' : Heap} {k n pc pc' : Nat} {L L' : Array Slot} {st st' : List Value} {a0 : Array Value} {a b : Addr} {ty : FieldType} {vs vd : List Value}
theorem g_sipush (C : Ctx B l rm bytes own nm maxL ret Z) {z : Int} {v : Int32} (hd : decode bytes pc = .ok (.sipush z, 3)) (hv : (Int16.ofInt z).toInt32 = v) (hpc : pc + 3 = pc') (go : Go B n0 Q h k n pc' L (.int v :: st)) : Go B n0 Q h k n pc L st := go.step fun T locs X eT t q => Jvm.Free.XS.sipush X.here C.2.2.1 rfl (hb C.2.2.2.1 hd) (by subst hpc hv; exact q)
theorem g_instanceof_null (C : Ctx B l rm bytes own nm maxL ret Z) {i : Nat} (hd : decode bytes pc = .ok (.instanceof i, 3)) (hpc : pc + 3 = pc') (go : Go B n0 Q h k n pc' L (.int 0 :: st)) : Go B n0 Q h k n pc L (.null :: st) := go.step fun T locs X eT t q => X.instanceofNull C.2.2.1 (g := mkF B.m pc L (.null :: st)) rfl rfl (hb C.2.2.2.1 hd) t (by subst hpc; exact q)
theorem g_checkcast_null (C : Ctx B l rm bytes own nm maxL ret Z) {i : Nat} (hd : decode bytes pc = .ok (.checkcast i, 3)) (hpc : pc + 3 = pc') (go : Go B n0 Q h k n pc' L (.null :: st)) : Go B n0 Q h k n pc L (.null :: st) := go.step fun T locs X eT t q => X.checkcastNull C.2.2.1 (g := mkF B.m pc L (.null :: st)) rfl rfl (hb C.2.2.2.1 hd) t (by subst hpc; exact q)
theorem g_private (C : Ctx B l rm bytes own nm maxL ret Z) {i nn : Nat} {y : MethodName} {b' : ByteArray} {mx : Nat} {rt : Option FieldType} {rm' : Room} {as' : Array Value} {Q' : Option Value → Heap → Prop} {K' : String} (w1 : (Jvm.Cond.methodLink own i y).before a0 Z = true) (w4 : (Jvm.Cond.instanceMethod y).before a0 Z = true) (wp : (Jvm.Cond.privateMethod y).before a0 Z = true) (wi : (Jvm.Cond.instantiable y.cls nn).before a0 Z = true) (wz : (Jvm.Cond.initialized y.cls).before a0 Z = true) (wc : (Jvm.Cond.code y b' mx rt).before a0 Z = true) (hy : y.cls ≠ "java/lang/invoke/MethodHandle" ∧ y.cls ≠ "java/lang/invoke/VarHandle") (E : Exa Z h a K') (K : Met1 l Z y b' mx rt rm' n0 as' h Q') (argsL : List Value) {stk : List Value} (hst : stk = argsL.reverse ++ .ref a :: st) (has : as' = (Value.ref a :: argsL).toArray) {ps : List FieldType} {r' : Option FieldType} (pd : parseMethodDescriptor y.desc = some ⟨ps, r'⟩) (hlen : argsL.length = ps.length) (hsz : L.size = maxL) (hf : rm'.frames + 1 ≤ rm.frames) {W : Nat} (hW : (st.map fun v => v.category).sum ≤ W) (hlo : W + (mx + 11) + rm'.locals ≤ rm.locals) (hc : k + rm'.cells ≤ rm.cells) (hs : n + rm'.slots ≤ rm.slots) (hd : decode bytes pc = .ok (.invokevirtual i, 3)) (hpc : pc + 3 = pc') (go : ∀ v h', Q' v h' → Go B n0 Q h' (k + rm'.cells) (n + rm'.slots) pc' L (v.toList ++ st)) : Go B n0 Q h k n pc L stk := fun T locs X N eT => by
  subst hst has
  obtain ⟨cq, kq, qa, qb, cellq, qc, qd, qe⟩ := isOf C.2.2.2.2.1 eT E
  obtain ⟨c9, k9, u1, u2, u3, u4, -⟩ := Cond.instantiable_spec (mvT (args := B.args) C.2.2.2.2.1 wi)
  have hni : k9.isInterface = false := by simp only [Bool.or_eq_false_iff] at u4; exact u4.1
  have hpr := Cond.privateMethod_at (mvP C.2.2.2.2.1 wp (args := B.args))
  have hsel := selects_self_of_private (args := B.args) u1 u2 hni hpr (mvT C.2.2.2.2.1 w4) hy
  obtain ⟨v, _, ⟨T', L1, k1, n1⟩, -, X', ⟨L2, ⟨N', hq⟩, l1, l2, l3⟩, f⟩ := X.privateBack C.2.2.1 (y := y) C.2.2.2.2.2.1 (mvT C.2.2.2.2.1 w1) (mvT C.2.2.2.2.1 w4) hsel hpr (mvT C.2.2.2.2.1 wc) hy (backOf (W := W) (Q := fun v h L => Fr n0 L ∧ Q' v h) (C.1 ▸ K []) C.2.2.2.2.1 wc wz (by rw [C.2.1]; exact hf) (by rw [C.2.1]; exact hlo)) (g := mkF B.m pc L (argsL.reverse ++ .ref a :: st)) rfl (by rw [C.2.2.2.2.2.2.2.1]; exact hsz) (Steps.refl _) (a := a) qc (fun z e => by rw [e] at qe; cases qe) (argsL := argsL) (rest := st) (lenOf pd hlen) rfl (by show 2 * 0 + _ ≤ _; omega) (hb C.2.2.2.1 hd) (fun _ _ => ⟨rfl, eT, by rw [C.2.1]; exact hc, by rw [C.2.1]; exact hs⟩)
  dsimp only [Pt.U, Pt.locs, Pt.cells, Pt.slots] at X' l1 l2 l3 f hq
  subst l1 l2 l3
  obtain ⟨t, o, q, r⟩ := go v _ hq T' _ X' (Fr.app N N') rfl
  subst hpc
  exact ⟨t, o, f.trans q, r⟩
theorem nat32 {m : Nat} (q : m < 2 ^ 31) : m.toInt32.toNatClampNeg = m := Int32.toNatClampNeg_ofNat_of_lt q
theorem nneg32 {m : Nat} (q : m < 2 ^ 31) : ¬ m.toInt32 < 0 := by
  have e := len_toInt q
  rw [Int32.lt_iff_toInt_lt, e]
  show ¬ (m : Int) < 0
  omega
theorem Ary.arv (F : Ary Z h a ty vs) (hf : ∀ v ∈ vs, fits ty v = true) (dv : Value) : ∃ kk, Arv Z h a kk ty vs.length.toInt32 vs dv := by
  obtain ⟨c, A, rfl, hl⟩ := F
  have hs : c.slots.toList.length = c.slots.size := Array.length_toList
  refine ⟨c.cls, c, A, rfl, ?_, nneg32 hl, fun i hi => ?_, fun i hi => ?_⟩
  · rw [nat32 hl, hs]
  · rw [List.getD_eq_getElem?_getD, Array.getElem?_toList, Array.getElem?_eq_getElem hi]; rfl
  · apply hf
    rw [List.getD_eq_getElem?_getD, Array.getElem?_toList, Array.getElem?_eq_getElem hi]
    exact Array.mem_toList_iff.mpr (Array.getElem_mem hi)
theorem Arv.ary {kk : ClassId} {z : Int32} {dv : Value} (F : Arv Z h a kk ty z vs dv) (hz : z.toNatClampNeg = vs.length) (hl : vs.length < 2 ^ 31) : Ary Z h a ty vs := by
  obtain ⟨c, A, -, S, -, H, -⟩ := F
  refine ⟨c, A, ?_, hl⟩
  apply List.ext_getElem?
  intro i
  by_cases hi : i < c.slots.size
  · rw [Array.getElem?_toList, H i hi, List.getD_eq_getElem?_getD, List.getElem?_eq_getElem (by omega)]; rfl
  · rw [List.getElem?_eq_none (by rw [Array.length_toList]; omega), List.getElem?_eq_none (by omega)]
theorem g_arraycopy (C : Ctx B l rm bytes own nm maxL ret Z) {i : Nat} {sp dp nn : Int32} {spN dpN nnN : Nat} (w1 : (Jvm.Cond.methodLink own i Jvm.Stand.acN).before a0 Z = true) (w2 : (Jvm.Cond.native Jvm.Stand.acN).before a0 Z = true) (w3 : (Jvm.Cond.static Jvm.Stand.acN).before a0 Z = true) (w4 : (Jvm.Cond.initialized "java/lang/System").before a0 Z = true) (F : Ary Z h a ty vs) (G : Ary Z h b ty vd) (hp : refKind ty = false) (hfa : ∀ v ∈ vs, fits ty v = true) (hfb : ∀ v ∈ vd, fits ty v = true) (h1 : ¬ sp < 0) (h2 : ¬ dp < 0) (h3 : ¬ nn < 0) (e1 : sp.toNatClampNeg = spN) (e2 : dp.toNatClampNeg = dpN) (e3 : nn.toNatClampNeg = nnN) (h4 : spN + nnN ≤ vs.length) (h5 : dpN + nnN ≤ vd.length) {out : List Value} (ho : vd.take dpN ++ (List.range nnN).map (fun j => vs.getD (spN + j) .null) ++ vd.drop (dpN + nnN) = out) (ge : n0 ≤ b) (hsz : L.size = maxL) (hf : 1 ≤ rm.frames) {W : Nat} (hW : (st.map fun v => v.category).sum ≤ W) (hlo : W + (nativeFrameWords "java/lang/System" "arraycopy" 5 + 11) ≤ rm.locals) (hd : decode bytes pc = .ok (.invokestatic i, 3)) (hpc : pc + 3 = pc') (go : ∀ h', Keep h h' [b] → Ary Z h' b ty out → Go B n0 Q h' k n pc' L st) : Go B n0 Q h k n pc L (.int nn :: .int dp :: .ref b :: .int sp :: .ref a :: st) := fun T locs X N eT => by
  obtain ⟨ka, A⟩ := F.arv hfa .null
  obtain ⟨kb, A'⟩ := G.arv hfb .null
  obtain ⟨-, -, -, hla⟩ := F
  have hlb : vd.length < 2 ^ 31 := by obtain ⟨-, -, -, q⟩ := G; exact q
  subst e1 e2 e3
  obtain ⟨T', h', L', X', e', N', Kp, R', f⟩ := cpA X C.2.2.1 C.2.2.2.2.1 C.2.2.2.2.2.1 w1 w2 w3 w4 eT A A' (us := (List.range nn.toNatClampNeg).map fun j => vs.getD (sp.toNatClampNeg + j) .null) (Or.inl ⟨rfl, hp⟩) h1 h2 h3 (by rw [nat32 hla]; exact h4) (by rw [nat32 hlb]; exact h5) rfl h5 N ge (g := mkF B.m pc L (.int nn :: .int dp :: .ref b :: .int sp :: .ref a :: st)) rfl (by rw [C.2.2.2.2.2.2.2.1]; exact hsz) rfl (hb C.2.2.2.1 hd) (by rw [C.2.1]; exact hf) (W := W) (by show 2 * 0 + _ ≤ _; omega) (by rw [C.2.1]; exact hlo)
  have ol : (vd.take dp.toNatClampNeg ++ (List.range nn.toNatClampNeg).map (fun j => vs.getD (sp.toNatClampNeg + j) .null) ++ vd.drop (dp.toNatClampNeg + nn.toNatClampNeg)).length = vd.length := by simp; omega
  obtain ⟨t, o, q, r⟩ := go h' Kp (ho ▸ Arv.ary R' (by rw [nat32 hlb, ol]) (by rw [ol]; exact hlb)) T' _ X' N' e'
  subst hpc
  exact ⟨t, o, f t q, r⟩
theorem g_newarrayE (C : Ctx B l rm bytes own nm maxL ret Z) {aty : ArrayType} {z : Int32} {cap : Nat} {ty : FieldType} {ad : String} (w : (Jvm.Cond.arrayClass (newarray.typeOf aty)).before a0 Z = true) (hty : newarray.typeOf aty = ty) (had : "[" ++ (newarray.typeOf aty).toString = ad) (hz : ¬ z < 0) (hcap : z.toNatClampNeg = cap) (hcb : cap * 8 ≤ 536870912) (hc : k + 1 ≤ rm.cells) (hl : n + cap ≤ rm.slots) (hd : decode bytes pc = .ok (.newarray aty, 2)) (hpc : pc + 2 = pc') (go : ∀ h' a, a = h.size → Ext h h' → Ary Z h' a ty (List.replicate cap (defaultValue ty)) → Exa Z h' a ad → Go B n0 Q h' (k + 1) (n + cap) pc' L (.ref a :: st)) : Go B n0 Q h k n pc L (.int z :: st) := fun T locs X N eT => by
  subst hty
  obtain ⟨T', h', cA, X', e', E, A, Ex, f⟩ := newPE X C.2.2.1 C.2.2.2.2.1 w eT (g := mkF B.m pc L (.int z :: st)) rfl (hb C.2.2.2.1 hd) rfl hz (cap := cap) (Nat.le_of_eq hcap) hcb (by rw [C.2.1]; exact hc) (by rw [C.2.1]; exact hl) had
  obtain ⟨t, o, q, r⟩ := go h' _ rfl E ⟨_, A, by rw [← hcap]; simp [newA], by rw [List.length_replicate]; omega⟩ Ex T' _ X' N e'
  subst hpc
  exact ⟨t, o, f t q, r⟩
theorem g_clone (C : Ctx B l rm bytes own nm maxL ret Z) {i cap : Nat} {ad : String} (w1 : (Jvm.Cond.methodLink own i ⟨ad, "clone", "()Ljava/lang/Object;"⟩).before a0 Z = true) (w2 : (Jvm.Cond.sameMethod ad "java/lang/Object" "clone" "()Ljava/lang/Object;").before a0 Z = true) (w3 : (Jvm.Cond.native ⟨"java/lang/Object", "clone", "()Ljava/lang/Object;"⟩).before a0 Z = true)
    (w4 : (Jvm.Cond.instanceMethod ⟨"java/lang/Object", "clone", "()Ljava/lang/Object;"⟩).before a0 Z = true) (w5 : (Jvm.Cond.selects ad ⟨ad, "clone", "()Ljava/lang/Object;"⟩ ⟨"java/lang/Object", "clone", "()Ljava/lang/Object;"⟩).before a0 Z = true) (w6 : (Jvm.Cond.castable ad "java/lang/Cloneable").before a0 Z = true)
    (F : Ary Z h a ty vs) (E : Exa Z h a ad) (hfa : ∀ v ∈ vs, fits ty v = true) (hsz : L.size = maxL) (hf : 1 ≤ rm.frames) {W : Nat} (hW : (st.map fun v => v.category).sum ≤ W) (hlo : W + 14 ≤ rm.locals) (hcap : vs.length ≤ cap) (hc : k + 1 ≤ rm.cells) (hl : n + cap ≤ rm.slots) (hd : decode bytes pc = .ok (.invokevirtual i, 3)) (hpc : pc + 3 = pc') (go : ∀ h' b, b = h.size → Ext h h' → Ary Z h' b ty vs → Exa Z h' b ad → Go B n0 Q h' (k + 1) (n + cap) pc' L (.ref b :: st)) : Go B n0 Q h k n pc L (.ref a :: st) := fun T locs X N eT => by
  obtain ⟨c, A, rfl, hlv⟩ := F
  have FC : FitC Z c := fitC_of A fun j hj v hv => hfa v (by rw [Array.mem_toList_iff]; exact Array.mem_of_getElem? hv)
  obtain ⟨T', h', X', e', Ex, A', E', f⟩ := cloneA X C.2.2.1 C.2.2.2.2.1 C.2.2.2.2.2.1 w1 w2 w3 w4 w5 w6 eT A E FC (g := mkF B.m pc L (.ref a :: st)) rfl (by rw [C.2.2.2.2.2.2.2.1]; exact hsz) rfl (hb C.2.2.2.1 hd) (by rw [C.2.1]; exact hf) (W := W) (cap := cap) (by show 2 * 0 + _ ≤ _; omega) (by rw [C.2.1]; exact hlo) (by rw [← Array.length_toList]; exact hcap) (by rw [C.2.1]; exact hc) (by rw [C.2.1]; exact hl)
  obtain ⟨t, o, q, r⟩ := go h' _ rfl Ex ⟨_, A', rfl, hlv⟩ E' T' _ X' N e'
  subst hpc
  exact ⟨t, o, f t q, r⟩
end More
end Jvm.OwnKit
namespace Jvm.Pilot.@@N@@
open Jvm Jvm.ClassFile Sem Op Lib Jvm.Free Jvm.Stand Jvm.LawKit Jvm.RoadKit Jvm.OwnKit Bundle Jvm.Pilot.@@N@@.Jvm.D
set_option maxRecDepth 65536
set_option maxHeartbeats 40000000
theorem own_w {a0 : Array Value} {Z : State} (hw : ∀ d ∈ tables_1, d.before a0 Z = true) (k : Nat) {d : Jvm.Cond} (e : tables_1[k]? = some d) : d.before a0 Z = true := hw _ (List.mem_of_getElem? e)
abbrev HW (a0 : Array Value) (Z : State) : Prop := ∀ d ∈ tables_1, d.before a0 Z = true
theorem oW {a0 : Array Value} {Z : State} (hw : HW a0 Z) (k : Nat) {d : Jvm.Cond} (e : tables_1[k]? = some d) : d.before a0 Z = true := hw _ (List.mem_of_getElem? e)
abbrev iV (x : Int32) : Slot := .val (.int x)
abbrev aV (a : Addr) : Slot := .val (.ref a)
abbrev uV : Slot := .unset
abbrev bY (x : Int32) : Int32 := Int8.toInt32 (Int32.toInt8 x)
theorem lT {a b c : Nat} (p : a ≤ b) (q : b ≤ c) : a ≤ c := Nat.le_trans p q
theorem lE {a b : Nat} (p : a = b) : a ≤ b := Nat.le_of_eq p
section Short
variable {B : Bod} {l : Launch} {rm : Room} {bytes : ByteArray} {own nm : String} {maxL : Nat} {ret : Option FieldType} {Z : State} {n0 : Nat} {Q : Option Value → Heap → Prop} {h : Heap} {k n pc p : Nat} {L : Array Slot} {st : List Value} {a0 : Array Value}
theorem iC (C : Ctx B l rm bytes own nm maxL ret Z) {z : Int} (v : Int32) (hd : decode bytes pc = .ok (.iconst z, 1)) (hv : Int32.ofInt z = v) (go : Go B n0 Q h k n (pc + 1) L (.int v :: st)) : Go B n0 Q h k n pc L st := g_iconst C hd hv rfl go
theorem iS (C : Ctx B l rm bytes own nm maxL ret Z) {i : Nat} {v : Int32} (hd : decode bytes pc = .ok (.istore i, 2)) (L' : Array Slot) (hl : storeLocals L i (.int v) = some L') (go : Go B n0 Q h k n (pc + 2) L' st) : Go B n0 Q h k n pc L (.int v :: st) := g_istore C hd hl rfl go
theorem iL (C : Ctx B l rm bytes own nm maxL ret Z) {i : Nat} (v : Int32) (hd : decode bytes pc = .ok (.iload i, 2)) (hl : L[i]? = some (.val (.int v))) (go : Go B n0 Q h k n (pc + 2) L (.int v :: st)) : Go B n0 Q h k n pc L st := g_iload C hd hl rfl go
theorem yicmp_n (C : Ctx B l rm bytes own nm maxL ret Z) {cd : ClassFile.Cond} {x : Int32} {y : Int32} {o : Int} (hd : decode bytes pc = .ok (.if_icmp cd o, 3)) (hc : if_icmp.holds cd x y = false) (go : Go B n0 Q h k n (pc + 3) L st) : Go B n0 Q h k n pc L (.int y :: .int x :: st) := g_icmp_n C hd hc rfl go
theorem aN (C : Ctx B l rm bytes own nm maxL ret Z) {i : Fin 4} (v : Value) (hd : decode bytes pc = .ok (.aload_n i, 1)) (hl : L[i.val]? = some (.val v)) (hv : v.isRef = true) (go : Go B n0 Q h k n (pc + 1) L (v :: st)) : Go B n0 Q h k n pc L st := g_aload_n C hd hl hv rfl go
theorem iN (C : Ctx B l rm bytes own nm maxL ret Z) {i : Fin 4} (v : Int32) (hd : decode bytes pc = .ok (.iload_n i, 1)) (hl : L[i.val]? = some (.val (.int v))) (go : Go B n0 Q h k n (pc + 1) L (.int v :: st)) : Go B n0 Q h k n pc L st := g_iload_n C hd hl rfl go
theorem ycaload (C : Ctx B l rm bytes own nm maxL ret Z) {a : Addr} {vs : List Value} {j : Int32} {i : Nat} {v : Int32} (F : Ary Z h a .char vs) (h0 : ¬ j < 0) (hj : j.toNatClampNeg = i) (hv : vs[i]? = some (.int v)) (hd : decode bytes pc = .ok (.caload, 1)) (go : Go B n0 Q h k n (pc + 1) L (.int v :: st)) : Go B n0 Q h k n pc L (.int j :: .ref a :: st) := g_caload C F h0 hj hv hd rfl go
theorem iP (C : Ctx B l rm bytes own nm maxL ret Z) {z : Int} (v : Int32) (hd : decode bytes pc = .ok (.sipush z, 3)) (hv : (Int16.ofInt z).toInt32 = v) (go : Go B n0 Q h k n (pc + 3) L (.int v :: st)) : Go B n0 Q h k n pc L st := g_sipush C hd hv rfl go
theorem yi2b (C : Ctx B l rm bytes own nm maxL ret Z) {x : Int32} (hd : decode bytes pc = .ok (.i2b, 1)) (go : Go B n0 Q h k n (pc + 1) L (.int (x.toInt8.toInt32) :: st)) : Go B n0 Q h k n pc L (.int x :: st) := g_i2b C hd rfl go
theorem ybastoreB (C : Ctx B l rm bytes own nm maxL ret Z) {a : Addr} {vs : List Value} {j : Int32} {i : Nat} {v : Int32} {w : Value} (F : Ary Z h a .byte vs) (h0 : ¬ j < 0) (hj : j.toNatClampNeg = i) (hi : i < vs.length) (hw : Value.int (nar .byte v) = w) (ge : n0 ≤ a) (hd : decode bytes pc = .ok (.bastore, 1)) (go : ∀ h', Keep h h' [a] → Ary Z h' a .byte (vs.set i w) → Go B n0 Q h' k n (pc + 1) L st) : Go B n0 Q h k n pc L (.int v :: .int j :: .ref a :: st) := g_bastoreB C F h0 hj hi hw ge hd rfl go
theorem nC (C : Ctx B l rm bytes own nm maxL ret Z) {i : Nat} {z : Int} (v : Int32) (w : Int32) (hd : decode bytes pc = .ok (.iinc i z, 3)) (hl : L[i]? = some (.val (.int v))) (hw : v + Int32.ofInt z = w) (L' : Array Slot) (hl' : storeLocals L i (.int w) = some L') (go : Go B n0 Q h k n (pc + 3) L' st) : Go B n0 Q h k n pc L st := g_iinc C hd hl hw hl' rfl go
theorem ynewarray (C : Ctx B l rm bytes own nm maxL ret Z) {aty : ArrayType} {z : Int32} {cap : Nat} {ty : FieldType} (w : (Jvm.Cond.arrayClass (newarray.typeOf aty)).before a0 Z = true) (hty : newarray.typeOf aty = ty) (hz : ¬ z < 0) (hcap : z.toNatClampNeg = cap) (hcb : cap * 8 ≤ 536870912) (hc : k + 1 ≤ rm.cells) (hl : n + cap ≤ rm.slots) (hd : decode bytes pc = .ok (.newarray aty, 2)) (go : ∀ h' a, a = h.size → Ext h h' → Ary Z h' a ty (List.replicate cap (defaultValue ty)) → Go B n0 Q h' (k + 1) (n + cap) (pc + 2) L (.ref a :: st)) : Go B n0 Q h k n pc L (.int z :: st) := g_newarray C w hty hz hcap hcb hc hl hd rfl go
theorem aT (C : Ctx B l rm bytes own nm maxL ret Z) {i : Fin 4} {v : Value} (hd : decode bytes pc = .ok (.astore_n i, 1)) (L' : Array Slot) (hl : storeLocals L i.val v = some L') (hv : v.isRef = true) (go : Go B n0 Q h k n (pc + 1) L' st) : Go B n0 Q h k n pc L (v :: st) := g_astore_n C hd hl hv rfl go
theorem yarraylength (C : Ctx B l rm bytes own nm maxL ret Z) {a : Addr} {vs : List Value} {ty : FieldType} {z : Int32} (F : Ary Z h a ty vs) (hz : vs.length.toInt32 = z) (hd : decode bytes pc = .ok (.arraylength, 1)) (go : Go B n0 Q h k n (pc + 1) L (.int z :: st)) : Go B n0 Q h k n pc L (.ref a :: st) := g_arraylength C F hz hd rfl go
theorem yisub (C : Ctx B l rm bytes own nm maxL ret Z) {x : Int32} {y : Int32} (hd : decode bytes pc = .ok (.isub, 1)) (go : Go B n0 Q h k n (pc + 1) L (.int (x - y) :: st)) : Go B n0 Q h k n pc L (.int y :: .int x :: st) := g_isub C hd rfl go
theorem iB (C : Ctx B l rm bytes own nm maxL ret Z) {z : Int} (v : Int32) (hd : decode bytes pc = .ok (.bipush z, 2)) (hv : (Int8.ofInt z).toInt32 = v) (go : Go B n0 Q h k n (pc + 2) L (.int v :: st)) : Go B n0 Q h k n pc L st := g_bipush C hd hv rfl go
theorem yiushr (C : Ctx B l rm bytes own nm maxL ret Z) {x : Int32} {y : Int32} (hd : decode bytes pc = .ok (.iushr, 1)) (go : Go B n0 Q h k n (pc + 1) L (.int (Jvm.Free.XT.ushr x y) :: st)) : Go B n0 Q h k n pc L (.int y :: .int x :: st) := g_iushr C hd rfl go
theorem yinitObj (C : Ctx B l rm bytes own nm maxL ret Z) {i : Nat} {a : Addr} (w1 : (Jvm.Cond.methodLink own i Lib.objectInit).before a0 Z = true) (w2 : (Jvm.Cond.instanceMethod Lib.objectInit).before a0 Z = true) (w3 : (Jvm.Cond.code Lib.objectInit ⟨#[0xb1]⟩ 1 none).before a0 Z = true) (hsz : L.size = maxL) (hf : 1 ≤ rm.frames) {W : Nat} (hW : (st.map fun v => v.category).sum ≤ W) (hl : W + 12 ≤ rm.locals) (hd : decode bytes pc = .ok (.invokespecial i, 3)) (go : Go B n0 Q h k n (pc + 3) L st) : Go B n0 Q h k n pc L (.ref a :: st) := g_initObj C w1 w2 w3 hsz hf hW hl hd rfl go
theorem ygetstatic (C : Ctx B l rm bytes own nm maxL ret Z) {i : Nat} {R0 : String} {O : String} {fn : String} {d : String} {host : String} {v : Value} (w : (Jvm.Cond.fieldLink own i R0 fn d).before a0 Z = true ∨ (Jvm.Cond.fieldLinkNest own i R0 fn d host).before a0 Z = true) (via : Via Z R0 O fn d) (F : Sta Z h O fn d v) (hd : decode bytes pc = .ok (.getstatic i, 3)) (go : Go B n0 Q h k n (pc + 3) L (v :: st)) : Go B n0 Q h k n pc L st := g_getstatic C w via F hd rfl go
theorem yif_n (C : Ctx B l rm bytes own nm maxL ret Z) {cd : ClassFile.Cond} {x : Int32} {o : Int} (hd : decode bytes pc = .ok (.ifCond cd o, 3)) (hc : ifCond.holds cd x = false) (go : Go B n0 Q h k n (pc + 3) L st) : Go B n0 Q h k n pc L (.int x :: st) := g_if_n C hd hc rfl go
theorem aS (C : Ctx B l rm bytes own nm maxL ret Z) {i : Nat} {v : Value} (hd : decode bytes pc = .ok (.astore i, 2)) (L' : Array Slot) (hl : storeLocals L i v = some L') (hv : v.isRef = true) (go : Go B n0 Q h k n (pc + 2) L' st) : Go B n0 Q h k n pc L (v :: st) := g_astore C hd hl hv rfl go
theorem aL (C : Ctx B l rm bytes own nm maxL ret Z) {i : Nat} (v : Value) (hd : decode bytes pc = .ok (.aload i, 2)) (hl : L[i]? = some (.val v)) (hv : v.isRef = true) (go : Go B n0 Q h k n (pc + 2) L (v :: st)) : Go B n0 Q h k n pc L st := g_aload C hd hl hv rfl go
theorem yputfield (C : Ctx B l rm bytes own nm maxL ret Z) {i : Nat} {kk : Nat} {R0 : String} {O : String} {fn : String} {d : String} {host : String} {K : String} {ty : FieldType} {a : Addr} {v : Value} {old : Value} (w : (Jvm.Cond.fieldLink own i R0 fn d).before a0 Z = true ∨ (Jvm.Cond.fieldLinkNest own i R0 fn d host).before a0 Z = true) (via : Via Z R0 O fn d) (F : Fld Z h a O fn d old) (E : Exa Z h a K) (Ly : (Jvm.Cond.lays K O fn d).before a0 Z = true ∨ ((Jvm.Cond.laysFinal K O fn d).before a0 Z = true ∧ own = O ∧ nm = "<init>")) (wi : (Jvm.Cond.instantiable K kk).before a0 Z = true) (hty : parseFieldDescriptor d = some ty) (hn : narrow ty v = v) (hf : fits ty v = true) (ge : n0 ≤ a) (hd : decode bytes pc = .ok (.putfield i, 3)) (go : ∀ h', Wr h h' a (Jvm.RoadKit.slotOf Z O fn d) v → Go B n0 Q h' k n (pc + 3) L st) : Go B n0 Q h k n pc L (v :: .ref a :: st) := g_putfield C w via F E Ly wi hty hn hf ge hd rfl go
theorem yaconst_null (C : Ctx B l rm bytes own nm maxL ret Z) (hd : decode bytes pc = .ok (.aconst_null, 1)) (go : Go B n0 Q h k n (pc + 1) L (.null :: st)) : Go B n0 Q h k n pc L st := g_aconst_null C hd rfl go
theorem yldc (C : Ctx B l rm bytes own nm maxL ret Z) {i : Nat} {v : Int32} (w : (Jvm.Cond.constant own i v).before a0 Z = true) (hd : decode bytes pc = .ok (.ldc i, 2)) (go : Go B n0 Q h k n (pc + 2) L (.int v :: st)) : Go B n0 Q h k n pc L st := g_ldc C w hd rfl go
theorem yishl (C : Ctx B l rm bytes own nm maxL ret Z) {x : Int32} {y : Int32} (hd : decode bytes pc = .ok (.ishl, 1)) (go : Go B n0 Q h k n (pc + 1) L (.int (x <<< (y &&& 31)) :: st)) : Go B n0 Q h k n pc L (.int y :: .int x :: st) := g_ishl C hd rfl go
theorem iT (C : Ctx B l rm bytes own nm maxL ret Z) {i : Fin 4} {v : Int32} (hd : decode bytes pc = .ok (.istore_n i, 1)) (L' : Array Slot) (hl : storeLocals L i.val (.int v) = some L') (go : Go B n0 Q h k n (pc + 1) L' st) : Go B n0 Q h k n pc L (.int v :: st) := g_istore_n C hd hl rfl go
theorem yishr (C : Ctx B l rm bytes own nm maxL ret Z) {x : Int32} {y : Int32} (hd : decode bytes pc = .ok (.ishr, 1)) (go : Go B n0 Q h k n (pc + 1) L (.int (x >>> (y &&& 31)) :: st)) : Go B n0 Q h k n pc L (.int y :: .int x :: st) := g_ishr C hd rfl go
theorem ybaloadB (C : Ctx B l rm bytes own nm maxL ret Z) {a : Addr} {vs : List Value} {j : Int32} {i : Nat} {v : Int32} (F : Ary Z h a .byte vs) (h0 : ¬ j < 0) (hj : j.toNatClampNeg = i) (hv : vs[i]? = some (.int v)) (hd : decode bytes pc = .ok (.baload, 1)) (go : Go B n0 Q h k n (pc + 1) L (.int v :: st)) : Go B n0 Q h k n pc L (.int j :: .ref a :: st) := g_baloadB C F h0 hj hv hd rfl go
theorem yiand (C : Ctx B l rm bytes own nm maxL ret Z) {x : Int32} {y : Int32} (hd : decode bytes pc = .ok (.iand, 1)) (go : Go B n0 Q h k n (pc + 1) L (.int (x &&& y) :: st)) : Go B n0 Q h k n pc L (.int y :: .int x :: st) := g_iand C hd rfl go
theorem yior (C : Ctx B l rm bytes own nm maxL ret Z) {x : Int32} {y : Int32} (hd : decode bytes pc = .ok (.ior, 1)) (go : Go B n0 Q h k n (pc + 1) L (.int (x ||| y) :: st)) : Go B n0 Q h k n pc L (.int y :: .int x :: st) := g_ior C hd rfl go
theorem yi2c (C : Ctx B l rm bytes own nm maxL ret Z) {x : Int32} (hd : decode bytes pc = .ok (.i2c, 1)) (go : Go B n0 Q h k n (pc + 1) L (.int (x.toUInt32.toUInt16.toUInt32.toInt32) :: st)) : Go B n0 Q h k n pc L (.int x :: st) := g_i2c C hd rfl go
theorem ypop (C : Ctx B l rm bytes own nm maxL ret Z) {x : Value} (hd : decode bytes pc = .ok (.pop, 1)) (hc : x.category = 1) (go : Go B n0 Q h k n (pc + 1) L st) : Go B n0 Q h k n pc L (x :: st) := g_pop C hd hc rfl go
theorem ygetfield (C : Ctx B l rm bytes own nm maxL ret Z) {i : Nat} {R0 : String} {O : String} {fn : String} {d : String} {host : String} {a : Addr} {v : Value} (w : (Jvm.Cond.fieldLink own i R0 fn d).before a0 Z = true ∨ (Jvm.Cond.fieldLinkNest own i R0 fn d host).before a0 Z = true) (via : Via Z R0 O fn d) (F : Fld Z h a O fn d v) (hd : decode bytes pc = .ok (.getfield i, 3)) (go : Go B n0 Q h k n (pc + 3) L (v :: st)) : Go B n0 Q h k n pc L (.ref a :: st) := g_getfield C w via F hd rfl go
theorem yiadd (C : Ctx B l rm bytes own nm maxL ret Z) {x : Int32} {y : Int32} (hd : decode bytes pc = .ok (.iadd, 1)) (go : Go B n0 Q h k n (pc + 1) L (.int (x + y) :: st)) : Go B n0 Q h k n pc L (.int y :: .int x :: st) := g_iadd C hd rfl go
theorem ynew (C : Ctx B l rm bytes own nm maxL ret Z) {i : Nat} {nn : Nat} {K : String} (w : (Jvm.Cond.classLink own i K).before a0 Z = true) (wi : (Jvm.Cond.instantiable K nn).before a0 Z = true) (wz : (Jvm.Cond.initialized K).before a0 Z = true) (hc : k + 1 ≤ rm.cells) (hl : n + nn ≤ rm.slots) (hd : decode bytes pc = .ok (.new i, 3)) (go : ∀ h' a, a = h.size → Ext h h' → Exa Z h' a K → (∀ {O fn d : String} {ty : FieldType}, Laid Z a0 K O fn d → parseFieldDescriptor d = some ty → Fld Z h' a O fn d (defaultValue ty)) → Go B n0 Q h' (k + 1) (n + nn) (pc + 3) L (.ref a :: st)) : Go B n0 Q h k n pc L st := g_new C w wi wz hc hl hd rfl go
theorem ydup (C : Ctx B l rm bytes own nm maxL ret Z) {x : Value} (hd : decode bytes pc = .ok (.dup, 1)) (hc : x.category = 1) (go : Go B n0 Q h k n (pc + 1) L (x :: x :: st)) : Go B n0 Q h k n pc L (x :: st) := g_dup C hd hc rfl go
theorem yirem (C : Ctx B l rm bytes own nm maxL ret Z) {x : Int32} {y : Int32} (hd : decode bytes pc = .ok (.irem, 1)) (hy : y ≠ 0) (go : Go B n0 Q h k n (pc + 1) L (.int (x - (x / y) * y) :: st)) : Go B n0 Q h k n pc L (.int y :: .int x :: st) := g_irem C hd hy rfl go
theorem ycastore (C : Ctx B l rm bytes own nm maxL ret Z) {a : Addr} {vs : List Value} {j : Int32} {i : Nat} {v : Int32} {w : Value} (F : Ary Z h a .char vs) (h0 : ¬ j < 0) (hj : j.toNatClampNeg = i) (hi : i < vs.length) (hw : Value.int (nar .char v) = w) (ge : n0 ≤ a) (hd : decode bytes pc = .ok (.castore, 1)) (go : ∀ h', Keep h h' [a] → Ary Z h' a .char (vs.set i w) → Go B n0 Q h' k n (pc + 1) L st) : Go B n0 Q h k n pc L (.int v :: .int j :: .ref a :: st) := g_castore C F h0 hj hi hw ge hd rfl go
theorem cS (C : Ctx B l rm bytes own nm maxL ret Z) {i : Nat} {y : MethodName} {b' : ByteArray} {mx : Nat} {rm' : Room} {as' : Array Value} {Q' : Option Value → Heap → Prop} {rt : Option FieldType} (hw : HW a0 Z) (j1 j2 j3 j4 : Nat) (e1 : tables_1[j1]? = some (.methodLink own i y)) (e2 : tables_1[j2]? = some (.static y)) (e3 : tables_1[j3]? = some (.initialized y.cls)) (e4 : tables_1[j4]? = some (.code y b' mx rt)) (K : Met1 l Z y b' mx rt rm' n0 as' h Q') (st : List Value) (argsL : List Value) {stk : List Value} {ps : List FieldType} {r' : Option FieldType} (pd : parseMethodDescriptor y.desc = some ⟨ps, r'⟩) (W : Nat) (hd : decode bytes pc = .ok (.invokestatic i, 3)) (e : stk = argsL.reverse ++ st ∧ as' = argsL.toArray ∧ argsL.length = ps.length ∧ L.size = maxL ∧ (st.map fun v => v.category).sum = W) (f : (y.cls ≠ "java/lang/invoke/MethodHandle" ∧ y.cls ≠ "java/lang/invoke/VarHandle") ∧ rm'.frames + 1 ≤ rm.frames ∧ W + (mx + 11) + rm'.locals ≤ rm.locals ∧ k + rm'.cells ≤ rm.cells ∧ n + rm'.slots ≤ rm.slots) (go : ∀ v h', Q' v h' → Go B n0 Q h' (k + rm'.cells) (n + rm'.slots) (pc + 3) L (v.toList ++ st)) : Go B n0 Q h k n pc L stk := g_static C (oW hw j1 e1) (oW hw j2 e2) (oW hw j3 e3) (oW hw j4 e4) f.1 K argsL e.1 e.2.1 pd e.2.2.1 e.2.2.2.1 f.2.1 (W := W) (Nat.le_of_eq e.2.2.2.2) f.2.2.1 f.2.2.2.1 f.2.2.2.2 hd rfl go
theorem cP (C : Ctx B l rm bytes own nm maxL ret Z) {i : Nat} {y : MethodName} {b' : ByteArray} {mx : Nat} {rm' : Room} {as' : Array Value} {Q' : Option Value → Heap → Prop} {a : Addr} (hw : HW a0 Z) (j1 j2 j3 j4 : Nat) (e1 : tables_1[j1]? = some (.methodLink own i y)) (e2 : tables_1[j2]? = some (.instanceMethod y)) (e3 : tables_1[j3]? = some (.initialized y.cls)) (e4 : tables_1[j4]? = some (.code y b' mx none)) (hy1 : y.name = "<init>") (K : Met1 l Z y b' mx none rm' n0 as' h Q') (st : List Value) (argsL : List Value) {stk : List Value} {ps : List FieldType} {r' : Option FieldType} (pd : parseMethodDescriptor y.desc = some ⟨ps, r'⟩) (W : Nat) (hd : decode bytes pc = .ok (.invokespecial i, 3)) (e : stk = argsL.reverse ++ .ref a :: st ∧ as' = (Value.ref a :: argsL).toArray ∧ argsL.length = ps.length ∧ L.size = maxL ∧ (st.map fun v => v.category).sum = W) (f : (y.cls ≠ "java/lang/invoke/MethodHandle" ∧ y.cls ≠ "java/lang/invoke/VarHandle") ∧ rm'.frames + 1 ≤ rm.frames ∧ W + (mx + 11) + rm'.locals ≤ rm.locals ∧ k + rm'.cells ≤ rm.cells ∧ n + rm'.slots ≤ rm.slots) (go : ∀ v h', Q' v h' → Go B n0 Q h' (k + rm'.cells) (n + rm'.slots) (pc + 3) L (v.toList ++ st)) : Go B n0 Q h k n pc L stk := g_special C hy1 (oW hw j1 e1) (oW hw j2 e2) (oW hw j3 e3) (oW hw j4 e4) f.1 K argsL e.1 e.2.1 pd e.2.2.1 e.2.2.2.1 f.2.1 (W := W) (Nat.le_of_eq e.2.2.2.2) f.2.2.1 f.2.2.2.1 f.2.2.2.2 hd rfl go
theorem cV (C : Ctx B l rm bytes own nm maxL ret Z) {i : Nat} {y : MethodName} {b' : ByteArray} {mx : Nat} {rm' : Room} {as' : Array Value} {Q' : Option Value → Heap → Prop} {a : Addr} {K' : String} {rt : Option FieldType} (hw : HW a0 Z) (j1 j2 j3 j4 j5 j6 : Nat) (e1 : tables_1[j1]? = some (.methodLink own i y)) (e2 : tables_1[j2]? = some (.declares y)) (e3 : tables_1[j3]? = some (.selects K' y y)) (e4 : tables_1[j4]? = some (.instanceMethod y)) (e5 : tables_1[j5]? = some (.initialized y.cls)) (e6 : tables_1[j6]? = some (.code y b' mx rt)) (E : Exa Z h a K') (K : Met1 l Z y b' mx rt rm' n0 as' h Q') (st : List Value) (argsL : List Value) {stk : List Value} {ps : List FieldType} {r' : Option FieldType} (pd : parseMethodDescriptor y.desc = some ⟨ps, r'⟩) (W : Nat) (hd : decode bytes pc = .ok (.invokevirtual i, 3)) (e : stk = argsL.reverse ++ .ref a :: st ∧ as' = (Value.ref a :: argsL).toArray ∧ argsL.length = ps.length ∧ L.size = maxL ∧ (st.map fun v => v.category).sum = W) (f : (y.cls ≠ "java/lang/invoke/MethodHandle" ∧ y.cls ≠ "java/lang/invoke/VarHandle") ∧ rm'.frames + 1 ≤ rm.frames ∧ W + (mx + 11) + rm'.locals ≤ rm.locals ∧ k + rm'.cells ≤ rm.cells ∧ n + rm'.slots ≤ rm.slots) (go : ∀ v h', Q' v h' → Go B n0 Q h' (k + rm'.cells) (n + rm'.slots) (pc + 3) L (v.toList ++ st)) : Go B n0 Q h k n pc L stk := g_virtual C (oW hw j1 e1) (oW hw j2 e2) (oW hw j3 e3) (oW hw j4 e4) (oW hw j5 e5) (oW hw j6 e6) (notFace_of_selects (args := #[]) (mvT C.2.2.2.2.1 (oW hw j3 e3))) f.1 E K argsL e.1 e.2.1 pd e.2.2.1 e.2.2.2.1 f.2.1 (W := W) (Nat.le_of_eq e.2.2.2.2) f.2.2.1 f.2.2.2.1 f.2.2.2.2 hd rfl go
theorem r_int (C : Ctx B l rm bytes own nm maxL ret Z) {z : Int32} (hret : ret = some .int) (hn : narrow .int (.int z) = .int z) (hd : decode bytes pc = .ok (.ireturn, 1)) (f : k ≤ rm.cells ∧ n ≤ rm.slots) (go : Q (some (.int z)) h) : Go B n0 Q h k n pc L (.int z :: st) := g_ret C hret hn (Or.inl ⟨rfl, Or.inl rfl, _, rfl⟩) hd f.1 f.2 go
theorem r_boolean (C : Ctx B l rm bytes own nm maxL ret Z) {z : Int32} (hret : ret = some .boolean) (hn : narrow .boolean (.int z) = .int z) (hd : decode bytes pc = .ok (.ireturn, 1)) (f : k ≤ rm.cells ∧ n ≤ rm.slots) (go : Q (some (.int z)) h) : Go B n0 Q h k n pc L (.int z :: st) := g_ret C hret hn (Or.inl ⟨rfl, Or.inr (Or.inl rfl), _, rfl⟩) hd f.1 f.2 go
theorem r_byte (C : Ctx B l rm bytes own nm maxL ret Z) {z : Int32} (hret : ret = some .byte) (hn : narrow .byte (.int z) = .int z) (hd : decode bytes pc = .ok (.ireturn, 1)) (f : k ≤ rm.cells ∧ n ≤ rm.slots) (go : Q (some (.int z)) h) : Go B n0 Q h k n pc L (.int z :: st) := g_ret C hret hn (Or.inl ⟨rfl, Or.inr (Or.inr (Or.inl rfl)), _, rfl⟩) hd f.1 f.2 go
theorem r_char (C : Ctx B l rm bytes own nm maxL ret Z) {z : Int32} (hret : ret = some .char) (hn : narrow .char (.int z) = .int z) (hd : decode bytes pc = .ok (.ireturn, 1)) (f : k ≤ rm.cells ∧ n ≤ rm.slots) (go : Q (some (.int z)) h) : Go B n0 Q h k n pc L (.int z :: st) := g_ret C hret hn (Or.inl ⟨rfl, Or.inr (Or.inr (Or.inr (Or.inl rfl))), _, rfl⟩) hd f.1 f.2 go
theorem gT (C : Ctx B l rm bytes own nm maxL ret Z) {o : Int} (hd : decode bytes pc = .ok (.goto o, 3)) (p : Nat) (f : 0 ≤ (pc : Int) + o ∧ ((pc : Int) + o).toNat = p) (go : Go B n0 Q h k n p L st) : Go B n0 Q h k n pc L st := g_goto C hd f.1 f.2 go
theorem fY (C : Ctx B l rm bytes own nm maxL ret Z) {cd : ClassFile.Cond} {x : Int32} {o : Int} (hd : decode bytes pc = .ok (.ifCond cd o, 3)) (hc : ifCond.holds cd x = true) (p : Nat) (f : 0 ≤ (pc : Int) + o ∧ ((pc : Int) + o).toNat = p) (go : Go B n0 Q h k n p L st) : Go B n0 Q h k n pc L (.int x :: st) := g_if_y C hd hc f.1 f.2 go
theorem cY (C : Ctx B l rm bytes own nm maxL ret Z) {cd : ClassFile.Cond} {x y : Int32} {o : Int} (hd : decode bytes pc = .ok (.if_icmp cd o, 3)) (hc : if_icmp.holds cd x y = true) (p : Nat) (f : 0 ≤ (pc : Int) + o ∧ ((pc : Int) + o).toNat = p) (go : Go B n0 Q h k n p L st) : Go B n0 Q h k n pc L (.int y :: .int x :: st) := g_icmp_y C hd hc f.1 f.2 go
theorem eS (st2 : List Value) (e : st = st2) (go : Go B n0 Q h k n pc L st2) : Go B n0 Q h k n pc L st := e ▸ go
end Short
section Rm
variable {l : Launch} {Z : State} {a0 : Array Value} {n0 : Nat}
theorem own_narb (x : Int32) : nar .byte (Int8.toInt32 (Int32.toInt8 x)) = (Int8.toInt32 (Int32.toInt8 x)) := by
  show (Int8.toInt32 (Int32.toInt8 (Int8.toInt32 (Int32.toInt8 x)))) = _
  rw [Int8.toInt8_toInt32]
/-- a char that one byte holds -/
def Ch (c : Int32) : Prop := nar .char c = c ∧ ¬ (255 : Int32) < c ∧ ¬ c < (0 : Int32)
theorem own_nch {c : Int32} (h : nar .char c = c) : narrow .char (.int c) = .int c := congrArg Value.int h
theorem own_chM (x : Int32) : Ch (x &&& (255 : Int32)) := by
  refine ⟨i2c_mask x, ?_, ?_⟩
  · have h := c_mask x (255 : Int32) 8 (by decide) (by decide)
    have e : (255 : Int32).toInt = 255 := rfl
    rw [Int32.lt_iff_toInt_lt]; omega
  · have h := c_mask x (255 : Int32) 8 (by decide) (by decide)
    have e : (0 : Int32).toInt = 0 := rfl
    rw [Int32.lt_iff_toInt_lt]; omega
/-- compact Strings are on -/
def Cmp (Z : State) : Prop := ∃ z : Int32, Sta Z Z.heap "java/lang/String" "COMPACT_STRINGS" "Z" (.int z) ∧ ¬ z = (0 : Int32)
theorem own_cmp {args : Array Value} {s : State} (w0 : (Jvm.Cond.initializedFor "java/lang/String" "COMPACT_STRINGS" "Z").before args s = true) (w1 : (Jvm.Cond.isInt (.static "java/lang/String" "COMPACT_STRINGS" "Z")).before args s = true) (w2 : (Jvm.Cond.not (.eq (.static "java/lang/String" "COMPACT_STRINGS" "Z") (.int 0))).before args s = true) : Cmp s := by
  obtain ⟨z, e⟩ := is_v (Cond.before_iff.mp w1)
  refine ⟨z, Sta.start e (Or.inl w0), fun q => ?_⟩
  have h := not_v (Cond.before_iff.mp w2)
  subst q
  simp only [Jvm.Cond.value, e, Jvm.Term.int_eval] at h
  simp at h
theorem own_cn {c : Int32} (h : nar .char c = c) : c.toBitVec.toNat < 65536 := by
  have e : (nar .char c).toBitVec.toNat = c.toBitVec.toNat % 65536 := by
    show (BitVec.setWidth 32 (BitVec.setWidth 16 c.toBitVec)).toNat = _
    rw [BitVec.toNat_setWidth, BitVec.toNat_setWidth]; omega
  rw [h] at e; omega
theorem own_gcbv (b : BitVec 32) (h : b.toNat < 65536) :
   BitVec.setWidth 32 (BitVec.setWidth 16 (((BitVec.signExtend 32 (BitVec.signExtend 8 (b.sshiftRight 0)) &&& 255#32) <<< 0) ||| ((BitVec.signExtend 32 (BitVec.signExtend 8 (b.sshiftRight 8)) &&& 255#32) <<< 8))) = b := by
  apply BitVec.eq_of_getLsbD_eq
  intro i hi
  have hm : (255#32) = BitVec.setWidth 32 (BitVec.allOnes 8) := by decide
  rw [hm]
  by_cases h16 : i < 16
  · simp only [BitVec.getLsbD_setWidth, BitVec.getLsbD_or, BitVec.getLsbD_shiftLeft, BitVec.getLsbD_and, BitVec.getLsbD_signExtend, BitVec.getLsbD_sshiftRight, BitVec.getLsbD_allOnes]
    by_cases h8 : i < 8
    · simp [hi, h16, h8, show ¬ 32 ≤ i by omega]
    · simp [hi, h16, h8, show ¬ 32 ≤ i by omega, show i - 8 < 8 by omega, show i - 8 < 32 by omega, show 8 + (i - 8) = i by omega, show ¬ 32 ≤ i - 8 by omega]
  · have e : b.getLsbD i = false := by
      rw [BitVec.getLsbD, Nat.testBit_lt_two_pow]
      exact Nat.lt_of_lt_of_le h (Nat.pow_le_pow_right (n := 2) (by decide) (show 16 ≤ i by omega))
    rw [e]; simp [h16]
theorem own_gc {c : Int32} (h : nar .char c = c) : (UInt32.toInt32 (UInt16.toUInt32 (UInt32.toUInt16 (Int32.toUInt32 ((((Int8.toInt32 (Int32.toInt8 (c >>> ((0 : Int32) &&& 31)))) &&& (255 : Int32)) <<< ((0 : Int32) &&& 31)) ||| (((Int8.toInt32 (Int32.toInt8 (c >>> ((8 : Int32) &&& 31)))) &&& (255 : Int32)) <<< ((8 : Int32) &&& 31))))))) = c := by
  apply Int32.toBitVec_inj.mp
  refine Eq.trans (b := BitVec.setWidth 32 (BitVec.setWidth 16 (((((Int8.toInt32 (Int32.toInt8 (c >>> ((0 : Int32) &&& 31)))) &&& (255 : Int32)) <<< ((0 : Int32) &&& 31)) ||| (((Int8.toInt32 (Int32.toInt8 (c >>> ((8 : Int32) &&& 31)))) &&& (255 : Int32)) <<< ((8 : Int32) &&& 31))).toBitVec))) rfl ?_
  refine Eq.trans ?_ (own_gcbv c.toBitVec (own_cn h))
  congr 2
theorem own_l1 {c : Int32} (h : nar .char c = c) (hb : ¬ (255 : Int32) < c) : (UInt32.toInt32 (UInt16.toUInt32 (UInt32.toUInt16 (Int32.toUInt32 ((Int8.toInt32 (Int32.toInt8 c)) &&& (255 : Int32)))))) = c := by
  rw [i2c_mask]
  have hn := own_cn h
  have hc : c.toInt = c.toBitVec.toNat := by
    show c.toBitVec.toInt = _
    rw [BitVec.toInt_eq_toNat_of_lt (by omega)]
  have e : (255 : Int32).toInt = 255 := rfl
  rw [Int32.lt_iff_toInt_lt, e] at hb
  apply Int32.toBitVec_inj.mp
  refine Eq.trans (b := (BitVec.signExtend 32 (BitVec.signExtend 8 c.toBitVec)) &&& 255#32) (by simp) ?_
  apply BitVec.eq_of_getLsbD_eq
  intro i hi
  have hm : (255#32) = BitVec.setWidth 32 (BitVec.allOnes 8) := by decide
  rw [hm]
  simp only [BitVec.getLsbD_setWidth, BitVec.getLsbD_and, BitVec.getLsbD_signExtend, BitVec.getLsbD_allOnes]
  by_cases h8 : i < 8
  · simp [hi, h8]
  · have e : c.toBitVec.getLsbD i = false := by
      rw [BitVec.getLsbD, Nat.testBit_lt_two_pow]
      exact Nat.lt_of_lt_of_le (show c.toBitVec.toNat < 2 ^ 8 by omega) (Nat.pow_le_pow_right (n := 2) (by decide) (show 8 ≤ i by omega))
    rw [e]; simp [h8]
theorem own_chof {c : Int32} (h : nar .char c = c) : ¬ c < (0 : Int32) := by
  have hn := own_cn h
  have hc : c.toInt = c.toBitVec.toNat := by
    show c.toBitVec.toInt = _
    rw [BitVec.toInt_eq_toNat_of_lt (by omega)]
  have e : (0 : Int32).toInt = 0 := rfl
  rw [Int32.lt_iff_toInt_lt, e, hc]; omega
theorem own_nari2c (x : Int32) : nar .char (UInt32.toInt32 (UInt16.toUInt32 (UInt32.toUInt16 (Int32.toUInt32 x)))) = (UInt32.toInt32 (UInt16.toUInt32 (UInt32.toUInt16 (Int32.toUInt32 x)))) := by
  apply Int32.toBitVec_inj.mp
  show BitVec.setWidth 32 (BitVec.setWidth 16 (BitVec.setWidth 32 (BitVec.setWidth 16 x.toBitVec))) = BitVec.setWidth 32 (BitVec.setWidth 16 x.toBitVec)
  apply BitVec.eq_of_toNat_eq
  simp only [BitVec.toNat_setWidth]; omega
def Bg (c : Int32) : Prop := nar .char c = c ∧ (255 : Int32) < c
/-- the statics that the UTF-16 road reads -/
def Um (Z : State) : Prop := Cmp Z ∧ Sta Z Z.heap "java/lang/StringUTF16" "$assertionsDisabled" "Z" (.int (1 : Int32)) ∧ Sta Z Z.heap "java/lang/StringUTF16" "HI_BYTE_SHIFT" "I" (.int (0 : Int32)) ∧ Sta Z Z.heap "java/lang/StringUTF16" "LO_BYTE_SHIFT" "I" (.int (8 : Int32)) ∧ ((∃ a : Addr, Sta Z Z.heap "jdk/internal/util/Preconditions" "SIOOBE_FORMATTER" "Ljava/util/function/BiFunction;" (.ref a)) ∨ Sta Z Z.heap "jdk/internal/util/Preconditions" "SIOOBE_FORMATTER" "Ljava/util/function/BiFunction;" .null)
theorem own_steq {args : Array Value} {s : State} {K nm d : String} {z : Int32} (w0 : (Jvm.Cond.initializedFor K nm d).before args s = true) (w1 : (Jvm.Cond.eq (.static K nm d) (.int z)).before args s = true) : Sta s s.heap K nm d (.int z) := by
  have h := Cond.before_iff.mp w1
  obtain ⟨x, y, e1, e2, k1, k2⟩ := cmp_v (Or.inl h)
  cases e2
  obtain ⟨x', rfl⟩ := k2
  simp only [Jvm.Cond.value, e1, Jvm.Term.int_eval] at h
  have hx : x' = z := by simpa using h
  subst hx
  exact Sta.start e1 (Or.inl w0)
theorem own_stref {args : Array Value} {s : State} {K nm d : String} (w0 : (Jvm.Cond.initializedFor K nm d).before args s = true) (w1 : (Jvm.Cond.isRef (.static K nm d)).before args s = true) : (∃ a : Addr, Sta s s.heap K nm d (.ref a)) ∨ Sta s s.heap K nm d .null := by
  obtain ⟨x, e1, hx⟩ := isR_v (Cond.before_iff.mp w1)
  cases x with
  | ref a => exact Or.inl ⟨a, Sta.start e1 (Or.inl w0)⟩
  | null => exact Or.inr (Sta.start e1 (Or.inl w0))
  | int a => cases hx
  | long a => cases hx
  | float a => cases hx
  | double a => cases hx
  | retAddr a => cases hx
theorem own_nn (x : Int32) : 0 ≤ (x &&& (2147483647 : Int32)).toInt := by
  have h := c_mask x (2147483647 : Int32) 31 (by decide) (by decide)
  rw [h]; exact Int.emod_nonneg _ (by decide)
theorem own_rem1 {x : Int32} (hx : 0 ≤ x.toInt) : 0 ≤ (x - (x / (1 : Int32)) * (1 : Int32)).toInt ∧ (x - (x / (1 : Int32)) * (1 : Int32)).toInt < 1 := by
  have e : (1 : Int32).toInt = 1 := rfl
  have h1 := (c_idiv x (1 : Int32) 1 rfl (by decide)).1 hx
  have h2 := c_imul (x / (1 : Int32)) (1 : Int32)
  have h3 := c_isub x (x / (1 : Int32) * (1 : Int32))
  have r1 := rng32 x
  have r2 := rng32 (x - x / (1 : Int32) * (1 : Int32))
  rw [h1, e] at h2
  omega
theorem own_rem2 {x : Int32} (hx : 0 ≤ x.toInt) : 0 ≤ (x - (x / (2 : Int32)) * (2 : Int32)).toInt ∧ (x - (x / (2 : Int32)) * (2 : Int32)).toInt < 2 := by
  have e : (2 : Int32).toInt = 2 := rfl
  have h1 := (c_idiv x (2 : Int32) 2 rfl (by decide)).1 hx
  have h2 := c_imul (x / (2 : Int32)) (2 : Int32)
  have h3 := c_isub x (x / (2 : Int32) * (2 : Int32))
  have r1 := rng32 x
  have r2 := rng32 (x - x / (2 : Int32) * (2 : Int32))
  rw [h1, e] at h2
  omega
theorem own_rem3 {x : Int32} (hx : 0 ≤ x.toInt) : 0 ≤ (x - (x / (3 : Int32)) * (3 : Int32)).toInt ∧ (x - (x / (3 : Int32)) * (3 : Int32)).toInt < 3 := by
  have e : (3 : Int32).toInt = 3 := rfl
  have h1 := (c_idiv x (3 : Int32) 3 rfl (by decide)).1 hx
  have h2 := c_imul (x / (3 : Int32)) (3 : Int32)
  have h3 := c_isub x (x / (3 : Int32) * (3 : Int32))
  have r1 := rng32 x
  have r2 := rng32 (x - x / (3 : Int32) * (3 : Int32))
  rw [h1, e] at h2
  omega
theorem own_rem4 {x : Int32} (hx : 0 ≤ x.toInt) : 0 ≤ (x - (x / (4 : Int32)) * (4 : Int32)).toInt ∧ (x - (x / (4 : Int32)) * (4 : Int32)).toInt < 4 := by
  have e : (4 : Int32).toInt = 4 := rfl
  have h1 := (c_idiv x (4 : Int32) 4 rfl (by decide)).1 hx
  have h2 := c_imul (x / (4 : Int32)) (4 : Int32)
  have h3 := c_isub x (x / (4 : Int32) * (4 : Int32))
  have r1 := rng32 x
  have r2 := rng32 (x - x / (4 : Int32) * (4 : Int32))
  rw [h1, e] at h2
  omega
theorem own_m3 (x : Int32) : 0 ≤ (x &&& (3 : Int32)).toInt ∧ (x &&& (3 : Int32)).toInt < 4 := by
  have h := c_mask x (3 : Int32) 2 (by decide) (by decide)
  omega
theorem d5_0 : decode jdk_52_method_21_code 0 = .ok (.iconst 0, 1) := by decide +kernel
theorem d5_1 : decode jdk_52_method_21_code 1 = .ok (.istore 5, 2) := by decide +kernel
theorem d5_3 : decode jdk_52_method_21_code 3 = .ok (.iload 5, 2) := by decide +kernel
theorem d5_5 : decode jdk_52_method_21_code 5 = .ok (.iload 4, 2) := by decide +kernel
theorem d5_7 : decode jdk_52_method_21_code 7 = .ok (.if_icmp .ge 37, 3) := by decide +kernel
theorem d5_10 : decode jdk_52_method_21_code 10 = .ok (.aload_n 0, 1) := by decide +kernel
theorem d5_11 : decode jdk_52_method_21_code 11 = .ok (.iload_n 1, 1) := by decide +kernel
theorem d5_12 : decode jdk_52_method_21_code 12 = .ok (.caload, 1) := by decide +kernel
theorem d5_13 : decode jdk_52_method_21_code 13 = .ok (.istore 6, 2) := by decide +kernel
theorem d5_15 : decode jdk_52_method_21_code 15 = .ok (.iload 6, 2) := by decide +kernel
theorem d5_17 : decode jdk_52_method_21_code 17 = .ok (.sipush 255, 3) := by decide +kernel
theorem d5_20 : decode jdk_52_method_21_code 20 = .ok (.if_icmp .le 6, 3) := by decide +kernel
theorem d5_26 : decode jdk_52_method_21_code 26 = .ok (.aload_n 2, 1) := by decide +kernel
theorem d5_27 : decode jdk_52_method_21_code 27 = .ok (.iload_n 3, 1) := by decide +kernel
theorem d5_28 : decode jdk_52_method_21_code 28 = .ok (.iload 6, 2) := by decide +kernel
theorem d5_30 : decode jdk_52_method_21_code 30 = .ok (.i2b, 1) := by decide +kernel
theorem d5_31 : decode jdk_52_method_21_code 31 = .ok (.bastore, 1) := by decide +kernel
theorem d5_32 : decode jdk_52_method_21_code 32 = .ok (.iinc 1 1, 3) := by decide +kernel
theorem d5_35 : decode jdk_52_method_21_code 35 = .ok (.iinc 3 1, 3) := by decide +kernel
theorem d5_38 : decode jdk_52_method_21_code 38 = .ok (.iinc 5 1, 3) := by decide +kernel
theorem d5_41 : decode jdk_52_method_21_code 41 = .ok (.goto (-38), 3) := by decide +kernel
theorem d5_44 : decode jdk_52_method_21_code 44 = .ok (.iload 4, 2) := by decide +kernel
theorem d5_46 : decode jdk_52_method_21_code 46 = .ok (.ireturn, 1) := by decide +kernel
theorem pn_4 : plainName "java/lang/StringUTF16" = true := by first | (simp [plainName, overriddenIn]; done) | decide +kernel
theorem rm_comp1_2 (hw : HW a0 Z) (a1 a2 : Addr) (c0 c1 : Int32) (h0 : Heap) (Z0 : n0 ≤ h0.size) (A1 : Ary Z h0 a1 .char [.int c0, .int c1]) (A2 : Ary Z h0 a2 .byte [.int 0, .int 0]) (g2 : n0 ≤ a2) (n12 : a1 ≠ a2) (k0 : Ch c0) (k1 : Ch c1) :
    Met1 l Z ⟨"java/lang/StringUTF16", "compress", "([CI[BII)I"⟩ jdk_52_method_21_code 7 (some .int) ⟨0, 0, 0, 0⟩ n0 #[(.ref a1), (.int 0), (.ref a2), (.int 0), (.int 2)] h0 (fun v h => v = some (.int 2) ∧ Keep h0 h [a2] ∧ Ary Z h a2 .byte [.int (bY c0), .int (bY c1)]) := by
  refine met_of (plainFor_of_name pn_4) (L0 := #[.val (.ref a1), .val (.int 0), .val (.ref a2), .val (.int 0), .val (.int 2), .unset, .unset]) (by first | (simp [argsToLocals, Value.category]; done) | rfl) ?_
  intro B C
  change Ctx B l _ _ "java/lang/StringUTF16" "compress" _ _ Z at C
  refine iC C 0 d5_0 rfl <| iS C d5_1 (#[aV a1, iV 0, aV a2, iV 0, iV 2, iV 0, uV]) rfl <| iL C 0 d5_3 rfl <| iL C 2 d5_5 rfl <| yicmp_n C d5_7 (XT.ii_ge_f (by decide)) <| aN C ((.ref a1)) d5_10 rfl rfl <| iN C 0 d5_11 rfl <| ycaload C A1 (by decide) (i := 0) (by decide) (v := c0) rfl d5_12 <| iS C d5_13 (#[aV a1, iV 0, aV a2, iV 0, iV 2, iV 0, iV c0]) rfl <| iL C c0 d5_15 rfl <| iP C 255 d5_17 rfl <| cY C d5_20 (XT.ii_le_t k0.2.1) 26 (by decide) <| aN C ((.ref a2)) d5_26 rfl rfl <| iN C 0 d5_27 rfl <| iL C c0 d5_28 rfl <| yi2b C d5_30 <| ybastoreB C A2 (by decide) (i := 0) (by decide) (show 0 < 2 by decide) (w := (.int (bY c0))) (congrArg Value.int (own_narb _)) g2 d5_31 ?_
  intro h_1 K_2 A_3
  have f_4 : Ary Z h_1 a2 .byte [(.int (bY c0)), (.int 0)] := A_3
  refine nC C 0 1 d5_32 rfl rfl (#[aV a1, iV 1, aV a2, iV 0, iV 2, iV 0, iV c0]) rfl <| nC C 0 1 d5_35 rfl rfl (#[aV a1, iV 1, aV a2, iV 1, iV 2, iV 0, iV c0]) rfl <| nC C 0 1 d5_38 rfl rfl (#[aV a1, iV 1, aV a2, iV 1, iV 2, iV 1, iV c0]) rfl <| gT C d5_41 3 (by decide) <| iL C 1 d5_3 rfl <| iL C 2 d5_5 rfl <| yicmp_n C d5_7 (XT.ii_ge_f (by decide)) <| aN C ((.ref a1)) d5_10 rfl rfl <| iN C 1 d5_11 rfl ?_
  have f_5 := (A1.keep K_2 (ninS n12 nin0))
  refine ycaload C f_5 (by decide) (i := 1) (by decide) (v := c1) rfl d5_12 <| iS C d5_13 (#[aV a1, iV 1, aV a2, iV 1, iV 2, iV 1, iV c1]) rfl <| iL C c1 d5_15 rfl <| iP C 255 d5_17 rfl <| cY C d5_20 (XT.ii_le_t k1.2.1) 26 (by decide) <| aN C ((.ref a2)) d5_26 rfl rfl <| iN C 1 d5_27 rfl <| iL C c1 d5_28 rfl <| yi2b C d5_30 <| ybastoreB C f_4 (by decide) (i := 1) (by decide) (show 1 < 2 by decide) (w := (.int (bY c1))) (congrArg Value.int (own_narb _)) g2 d5_31 ?_
  intro h_6 K_7 A_8
  have f_9 : Ary Z h_6 a2 .byte [(.int (bY c0)), (.int (bY c1))] := A_8
  refine nC C 1 2 d5_32 rfl rfl (#[aV a1, iV 2, aV a2, iV 1, iV 2, iV 1, iV c1]) rfl <| nC C 1 2 d5_35 rfl rfl (#[aV a1, iV 2, aV a2, iV 2, iV 2, iV 1, iV c1]) rfl <| nC C 1 2 d5_38 rfl rfl (#[aV a1, iV 2, aV a2, iV 2, iV 2, iV 2, iV c1]) rfl <| gT C d5_41 3 (by decide) <| iL C 2 d5_3 rfl <| iL C 2 d5_5 rfl <| cY C d5_7 (XT.ii_ge_t (by decide)) 44 (by decide) <| iL C 2 d5_44 rfl ?_
  refine g_ret C (v := (.int 2)) (ty := .int) rfl rfl (Or.inl ⟨rfl, Or.inl rfl, _, rfl⟩) d5_46 (by decide) (by decide) ?_
  exact ⟨rfl, (((Keep.refl h0 [a2]).trans K_2 (allS (Or.inl (List.mem_of_getElem? (i := 0) rfl)) all0)).trans K_7 (allS (Or.inl (List.mem_of_getElem? (i := 0) rfl)) all0)), f_9⟩
theorem pd_13 : parseMethodDescriptor "([CI[BII)I" = some ⟨[(.array .char), .int, (.array .byte), .int, .int], (some .int)⟩ := by decide +kernel
theorem d4_0 : decode jdk_52_method_16_code 0 = .ok (.iload_n 2, 1) := by decide +kernel
theorem d4_1 : decode jdk_52_method_16_code 1 = .ok (.newarray .byte, 2) := by decide +kernel
theorem d4_3 : decode jdk_52_method_16_code 3 = .ok (.astore_n 3, 1) := by decide +kernel
theorem d4_4 : decode jdk_52_method_16_code 4 = .ok (.aload_n 0, 1) := by decide +kernel
theorem d4_5 : decode jdk_52_method_16_code 5 = .ok (.iload_n 1, 1) := by decide +kernel
theorem d4_6 : decode jdk_52_method_16_code 6 = .ok (.aload_n 3, 1) := by decide +kernel
theorem d4_7 : decode jdk_52_method_16_code 7 = .ok (.iconst 0, 1) := by decide +kernel
theorem d4_8 : decode jdk_52_method_16_code 8 = .ok (.iload_n 2, 1) := by decide +kernel
theorem d4_9 : decode jdk_52_method_16_code 9 = .ok (.invokestatic 115, 3) := by decide +kernel
theorem d4_12 : decode jdk_52_method_16_code 12 = .ok (.istore 4, 2) := by decide +kernel
theorem d4_14 : decode jdk_52_method_16_code 14 = .ok (.iload 4, 2) := by decide +kernel
theorem d4_16 : decode jdk_52_method_16_code 16 = .ok (.iload_n 2, 1) := by decide +kernel
theorem d4_17 : decode jdk_52_method_16_code 17 = .ok (.if_icmp .eq 40, 3) := by decide +kernel
theorem d4_57 : decode jdk_52_method_16_code 57 = .ok (.aload_n 3, 1) := by decide +kernel
theorem d4_58 : decode jdk_52_method_16_code 58 = .ok (.areturn, 1) := by decide +kernel
theorem rm_comp2_2 (hw : HW a0 Z) (a1 : Addr) (c0 c1 : Int32) (h0 : Heap) (Z0 : n0 ≤ h0.size) (A1 : Ary Z h0 a1 .char [.int c0, .int c1]) (k0 : Ch c0) (k1 : Ch c1) :
    Met1 l Z ⟨"java/lang/StringUTF16", "compress", "([CII)[B"⟩ jdk_52_method_16_code 6 (some (.array .byte)) ⟨1, 1, 2, 18⟩ n0 #[(.ref a1), (.int 0), (.int 2)] h0 (fun v h => ∃ b : Addr, v = some (.ref b) ∧ h0.size ≤ b ∧ Keep h0 h [] ∧ Ary Z h b .byte [.int (bY c0), .int (bY c1)]) := by
  refine met_of (plainFor_of_name pn_4) (L0 := #[.val (.ref a1), .val (.int 0), .val (.int 2), .unset, .unset, .unset]) (by first | (simp [argsToLocals, Value.category]; done) | rfl) ?_
  intro B C
  change Ctx B l _ _ "java/lang/StringUTF16" "compress" _ _ Z at C
  refine iN C 2 d4_0 rfl <| ynewarray C (oW hw 20 rfl) (ty := .byte) rfl (by decide) (cap := 2) (by decide) (by decide) (by decide) (by decide) d4_1 ?_
  intro h_1 a_2 g_3 E_4 A_5
  have ne_6 : a1 ≠ a_2 := ne_new A1.lt g_3
  have ge_a_2 : n0 ≤ a_2 := lT Z0 (lE g_3.symm)
  have gs_a_2 : h0.size ≤ a_2 := lT (Nat.le_refl h0.size) (lE g_3.symm)
  have f_7 : Ary Z h_1 a_2 .byte [(.int 0), (.int 0)] := A_5
  show Go _ _ _ _ 1 2 3 _ [(.ref a_2)]
  refine aT C d4_3 (#[aV a1, iV 0, iV 2, aV a_2, uV, uV]) rfl rfl <| aN C ((.ref a1)) d4_4 rfl rfl <| iN C 0 d4_5 rfl <| aN C ((.ref a_2)) d4_6 rfl rfl <| iC C 0 d4_7 rfl <| iN C 2 d4_8 rfl ?_
  have f_8 := (A1.ext E_4)
  have f_9 := (lT Z0 E_4.1)
  refine cS C hw 21 22 18 23 rfl rfl rfl rfl (rm_comp1_2 hw a1 a_2 c0 c1 h_1 f_9 f_8 f_7 ge_a_2 ne_6 k0 k1) [] [(.ref a1), (.int 0), (.ref a_2), (.int 0), (.int 2)] pd_13 0 d4_9 ⟨rfl, rfl, rfl, rfl, rfl⟩ (by decide) ?_
  intro v_12 h_10 q_11
  obtain ⟨rfl, K_14, f_15⟩ := q_11
  show Go _ _ _ _ 1 2 12 _ [(.int 2)]
  refine iS C d4_12 (#[aV a1, iV 0, iV 2, aV a_2, iV 2, uV]) rfl <| iL C 2 d4_14 rfl <| iN C 2 d4_16 rfl <| cY C d4_17 (XT.ii_eq_t (by decide)) 57 (by decide) <| aN C ((.ref a_2)) d4_57 rfl rfl ?_
  refine g_ret C (v := (.ref a_2)) (ty := (.array .byte)) rfl rfl (Or.inr (Or.inr (Or.inr (Or.inr ⟨rfl, rfl, rfl⟩)))) d4_58 (by decide) (by decide) ?_
  exact ⟨a_2, rfl, gs_a_2, (((Keep.refl h0 []).ext E_4).trans K_14 (allS (Or.inr gs_a_2) all0)), f_15⟩
theorem d6_0 : decode jdk_52_method_15_code 0 = .ok (.iload_n 1, 1) := by decide +kernel
theorem d6_1 : decode jdk_52_method_15_code 1 = .ok (.aload_n 0, 1) := by decide +kernel
theorem d6_2 : decode jdk_52_method_15_code 2 = .ok (.arraylength, 1) := by decide +kernel
theorem d6_3 : decode jdk_52_method_15_code 3 = .ok (.isub, 1) := by decide +kernel
theorem d6_4 : decode jdk_52_method_15_code 4 = .ok (.bipush 31, 2) := by decide +kernel
theorem d6_6 : decode jdk_52_method_15_code 6 = .ok (.iushr, 1) := by decide +kernel
theorem d6_7 : decode jdk_52_method_15_code 7 = .ok (.i2b, 1) := by decide +kernel
theorem d6_8 : decode jdk_52_method_15_code 8 = .ok (.ireturn, 1) := by decide +kernel
theorem rm_coderF_2 (hw : HW a0 Z) (a1 : Addr) (x0 x1 : Int32) (h0 : Heap) (Z0 : n0 ≤ h0.size) (A1 : Ary Z h0 a1 .byte [.int x0, .int x1]) :
    Met1 l Z ⟨"java/lang/StringUTF16", "coderFromArrayLen", "([BI)B"⟩ jdk_52_method_15_code 2 (some .byte) ⟨0, 0, 0, 0⟩ n0 #[(.ref a1), (.int 2)] h0 (fun v h => v = some (.int 0) ∧ h0 = h) := by
  refine met_of (plainFor_of_name pn_4) (L0 := #[.val (.ref a1), .val (.int 2)]) (by first | (simp [argsToLocals, Value.category]; done) | rfl) ?_
  intro B C
  change Ctx B l _ _ "java/lang/StringUTF16" "coderFromArrayLen" _ _ Z at C
  refine iN C 2 d6_0 rfl <| aN C ((.ref a1)) d6_1 rfl rfl <| yarraylength C A1 (z := 2) rfl d6_2 <| yisub C d6_3 <| eS [(.int 0)] rfl <| iB C 31 d6_4 rfl <| yiushr C d6_6 <| eS [(.int 0)] rfl <| yi2b C d6_7 <| eS [(.int 0)] rfl ?_
  refine g_ret C (v := (.int 0)) (ty := .byte) rfl rfl (Or.inl ⟨rfl, Or.inr (Or.inr (Or.inl rfl)), _, rfl⟩) d6_8 (by decide) (by decide) ?_
  exact ⟨rfl, rfl⟩
theorem pd_14 : parseMethodDescriptor "([CII)[B" = some ⟨[(.array .char), .int, .int], (some (.array .byte))⟩ := by decide +kernel
theorem pd_6 : parseMethodDescriptor "([BI)B" = some ⟨[(.array .byte), .int], (some .byte)⟩ := by decide +kernel
theorem d2_0 : decode jdk_42_method_149_code 0 = .ok (.aload_n 0, 1) := by decide +kernel
theorem d2_1 : decode jdk_42_method_149_code 1 = .ok (.invokespecial 1, 3) := by decide +kernel
theorem d2_4 : decode jdk_42_method_149_code 4 = .ok (.iload_n 3, 1) := by decide +kernel
theorem d2_5 : decode jdk_42_method_149_code 5 = .ok (.ifCond .ne 22, 3) := by decide +kernel
theorem d2_27 : decode jdk_42_method_149_code 27 = .ok (.getstatic 38, 3) := by decide +kernel
theorem d2_30 : decode jdk_42_method_149_code 30 = .ok (.ifCond .eq 28, 3) := by decide +kernel
theorem d2_33 : decode jdk_42_method_149_code 33 = .ok (.aload_n 1, 1) := by decide +kernel
theorem d2_34 : decode jdk_42_method_149_code 34 = .ok (.iload_n 2, 1) := by decide +kernel
theorem d2_35 : decode jdk_42_method_149_code 35 = .ok (.iload_n 3, 1) := by decide +kernel
theorem d2_36 : decode jdk_42_method_149_code 36 = .ok (.invokestatic 177, 3) := by decide +kernel
theorem d2_39 : decode jdk_42_method_149_code 39 = .ok (.astore 5, 2) := by decide +kernel
theorem d2_41 : decode jdk_42_method_149_code 41 = .ok (.aload_n 0, 1) := by decide +kernel
theorem d2_42 : decode jdk_42_method_149_code 42 = .ok (.aload 5, 2) := by decide +kernel
theorem d2_44 : decode jdk_42_method_149_code 44 = .ok (.iload_n 3, 1) := by decide +kernel
theorem d2_45 : decode jdk_42_method_149_code 45 = .ok (.invokestatic 47, 3) := by decide +kernel
theorem d2_48 : decode jdk_42_method_149_code 48 = .ok (.putfield 15, 3) := by decide +kernel
theorem d2_51 : decode jdk_42_method_149_code 51 = .ok (.aload_n 0, 1) := by decide +kernel
theorem d2_52 : decode jdk_42_method_149_code 52 = .ok (.aload 5, 2) := by decide +kernel
theorem d2_54 : decode jdk_42_method_149_code 54 = .ok (.putfield 9, 3) := by decide +kernel
theorem d2_57 : decode jdk_42_method_149_code 57 = .ok (.return_, 1) := by decide +kernel
theorem pn_5 : plainName "java/lang/String" = true := by first | (simp [plainName, overriddenIn]; done) | decide +kernel
theorem rm_init4_2 (hw : HW a0 Z) (a1 a2 : Addr) (c0 c1 : Int32) (h0 : Heap) (Z0 : n0 ≤ h0.size) (cm : Um Z) (O : Old Z n0 h0) (E0 : Exa Z h0 a1 "java/lang/String") (F0 : Fld Z h0 a1 "java/lang/String" "value" "[B" .null) (F1 : Fld Z h0 a1 "java/lang/String" "coder" "B" (.int 0)) (g1 : n0 ≤ a1) (A2 : Ary Z h0 a2 .char [.int c0, .int c1]) (n12 : a1 ≠ a2) (k0 : Ch c0) (k1 : Ch c1) :
    Met1 l Z ⟨"java/lang/String", "<init>", "([CIILjava/lang/Void;)V"⟩ jdk_42_method_149_code 6 none ⟨2, 1, 2, 35⟩ n0 #[(.ref a1), (.ref a2), (.int 0), (.int 2), .null] h0 (fun v h => v = none ∧ Keep h0 h [a1] ∧ ∃ b : Addr, h0.size ≤ b ∧ Fld Z h a1 "java/lang/String" "value" "[B" (.ref b) ∧ Fld Z h a1 "java/lang/String" "coder" "B" (.int 0) ∧ Ary Z h b .byte [.int (bY c0), .int (bY c1)]) := by
  refine met_of (plainFor_of_name pn_5) (L0 := #[.val (.ref a1), .val (.ref a2), .val (.int 0), .val (.int 2), .val .null, .unset]) (by first | (simp [argsToLocals, Value.category]; done) | rfl) ?_
  intro B C
  change Ctx B l _ _ "java/lang/String" "<init>" _ _ Z at C
  have cm' := cm
  obtain ⟨⟨cz, Scz, hcz⟩, Sas, Shi, Slo, Sfm⟩ := cm'
  refine aN C ((.ref a1)) d2_0 rfl rfl <| yinitObj C (oW hw 12 rfl) (oW hw 13 rfl) (oW hw 14 rfl) rfl (by decide) (W := 0) (lE rfl) (by decide) d2_1 <| iN C 2 d2_4 rfl <| fY C d2_5 (XT.i0_ne_t (by decide)) 27 (by decide) <| ygetstatic C (host := "") (v := (.int cz)) (Or.inl (oW hw 15 rfl)) Via.refl (Scz.ext O.2) d2_27 <| yif_n C d2_30 (XT.i0_eq_f hcz) <| aN C ((.ref a2)) d2_33 rfl rfl <| iN C 0 d2_34 rfl <| iN C 2 d2_35 rfl <| cS C hw 16 17 18 19 rfl rfl rfl rfl (rm_comp2_2 hw a2 c0 c1 h0 Z0 A2 k0 k1) [] [(.ref a2), (.int 0), (.int 2)] pd_14 0 d2_36 ⟨rfl, rfl, rfl, rfl, rfl⟩ (by decide) ?_
  intro v_3 h_1 q_2
  obtain ⟨b_5, rfl, le_6, K_7, f_8⟩ := q_2
  have ne_9 : a1 ≠ b_5 := ne_ge E0.lt le_6
  have ne_10 : a2 ≠ b_5 := ne_ge A2.lt le_6
  have ge_b_5 : n0 ≤ b_5 := lT Z0 le_6
  have gs_b_5 : h0.size ≤ b_5 := lT (Nat.le_refl h0.size) le_6
  show Go _ _ _ _ 1 2 39 _ [(.ref b_5)]
  refine aS C d2_39 (#[aV a1, aV a2, iV 0, iV 2, .val .null, aV b_5]) rfl rfl <| aN C ((.ref a1)) d2_41 rfl rfl <| aL C ((.ref b_5)) d2_42 rfl rfl <| iN C 2 d2_44 rfl ?_
  have f_11 := (lT Z0 K_7.1)
  refine cS C hw 24 25 18 26 rfl rfl rfl rfl (rm_coderF_2 hw b_5 (bY c0) (bY c1) h_1 f_11 f_8) [(.ref a1)] [(.ref b_5), (.int 2)] pd_6 1 d2_45 ⟨rfl, rfl, rfl, rfl, rfl⟩ (by decide) ?_
  intro v_14 h_12 q_13
  obtain ⟨rfl, rfl⟩ := q_13
  show Go _ _ _ _ 1 2 48 _ [(.int 0), (.ref a1)]
  have f_16 := (F1.keep K_7 nin0)
  have f_17 := (E0.keep K_7)
  refine yputfield C (host := "") (v := (.int 0)) (Or.inl (oW hw 27 rfl)) Via.refl f_16 f_17 (Or.inr ⟨(oW hw 28 rfl), rfl, rfl⟩) (oW hw 3 rfl) (ty := .byte) (by decide) rfl rfl g1 d2_48 ?_
  intro h_18 W_19
  have f_20 := f_16.same W_19
  refine aN C ((.ref a1)) d2_51 rfl rfl <| aL C ((.ref b_5)) d2_52 rfl rfl ?_
  have f_21 := ((F0.keep K_7 nin0).other W_19 (Or.inr (slot_ne (Or.inr (oW hw 30 rfl)) (Or.inr (oW hw 28 rfl)) (by decide) (t := (.array .byte)) (t' := .byte) (by decide) (by decide))))
  have f_22 := (f_17.wr W_19)
  refine yputfield C (host := "") (v := (.ref b_5)) (Or.inl (oW hw 29 rfl)) Via.refl f_21 f_22 (Or.inr ⟨(oW hw 30 rfl), rfl, rfl⟩) (oW hw 3 rfl) (ty := (.array .byte)) (by decide) rfl rfl g1 d2_54 ?_
  intro h_23 W_24
  have f_25 := f_21.same W_24
  refine g_return C rfl d2_57 (by decide) (by decide) ?_
  have f_26 := (f_20.other W_24 (Or.inr (slot_ne (Or.inr (oW hw 28 rfl)) (Or.inr (oW hw 30 rfl)) (by decide) (t := .byte) (t' := (.array .byte)) (by decide) (by decide))))
  have f_27 := ((f_8.keep (Keep.of_wr W_19) (nin1 (Ne.symm ne_9))).keep (Keep.of_wr W_24) (nin1 (Ne.symm ne_9)))
  exact ⟨rfl, ((((Keep.refl h0 [a1]).trans K_7 all0).wr W_19 (Or.inl (List.mem_of_getElem? (i := 0) rfl))).wr W_24 (Or.inl (List.mem_of_getElem? (i := 0) rfl))), b_5, gs_b_5, f_25, f_26, f_27⟩
theorem pd_24 : parseMethodDescriptor "([CIILjava/lang/Void;)V" = some ⟨[(.array .char), .int, .int, (.object "java/lang/Void")], none⟩ := by decide +kernel
theorem d1_0 : decode jdk_42_method_3_code 0 = .ok (.aload_n 0, 1) := by decide +kernel
theorem d1_1 : decode jdk_42_method_3_code 1 = .ok (.aload_n 1, 1) := by decide +kernel
theorem d1_2 : decode jdk_42_method_3_code 2 = .ok (.iconst 0, 1) := by decide +kernel
theorem d1_3 : decode jdk_42_method_3_code 3 = .ok (.aload_n 1, 1) := by decide +kernel
theorem d1_4 : decode jdk_42_method_3_code 4 = .ok (.arraylength, 1) := by decide +kernel
theorem d1_5 : decode jdk_42_method_3_code 5 = .ok (.aconst_null, 1) := by decide +kernel
theorem d1_6 : decode jdk_42_method_3_code 6 = .ok (.invokespecial 27, 3) := by decide +kernel
theorem d1_9 : decode jdk_42_method_3_code 9 = .ok (.return_, 1) := by decide +kernel
theorem rm_init1_2 (hw : HW a0 Z) (a1 a2 : Addr) (c0 c1 : Int32) (h0 : Heap) (Z0 : n0 ≤ h0.size) (cm : Um Z) (O : Old Z n0 h0) (E0 : Exa Z h0 a1 "java/lang/String") (F0 : Fld Z h0 a1 "java/lang/String" "value" "[B" .null) (F1 : Fld Z h0 a1 "java/lang/String" "coder" "B" (.int 0)) (g1 : n0 ≤ a1) (A2 : Ary Z h0 a2 .char [.int c0, .int c1]) (n12 : a1 ≠ a2) (k0 : Ch c0) (k1 : Ch c1) :
    Met1 l Z ⟨"java/lang/String", "<init>", "([C)V"⟩ jdk_42_method_3_code 2 none ⟨3, 1, 2, 52⟩ n0 #[(.ref a1), (.ref a2)] h0 (fun v h => v = none ∧ Keep h0 h [a1] ∧ ∃ b : Addr, h0.size ≤ b ∧ Fld Z h a1 "java/lang/String" "value" "[B" (.ref b) ∧ Fld Z h a1 "java/lang/String" "coder" "B" (.int 0) ∧ Ary Z h b .byte [.int (bY c0), .int (bY c1)]) := by
  refine met_of (plainFor_of_name pn_5) (L0 := #[.val (.ref a1), .val (.ref a2)]) (by first | (simp [argsToLocals, Value.category]; done) | rfl) ?_
  intro B C
  change Ctx B l _ _ "java/lang/String" "<init>" _ _ Z at C
  have cm' := cm
  obtain ⟨⟨cz, Scz, hcz⟩, Sas, Shi, Slo, Sfm⟩ := cm'
  refine aN C ((.ref a1)) d1_0 rfl rfl <| aN C ((.ref a2)) d1_1 rfl rfl <| iC C 0 d1_2 rfl <| aN C ((.ref a2)) d1_3 rfl rfl <| yarraylength C A2 (z := 2) rfl d1_4 <| yaconst_null C d1_5 <| cP C hw 8 9 4 11 rfl rfl rfl rfl rfl (rm_init4_2 hw a1 a2 c0 c1 h0 Z0 cm O E0 F0 F1 g1 A2 n12 k0 k1) [] [(.ref a2), (.int 0), (.int 2), .null] pd_24 0 d1_6 ⟨rfl, rfl, rfl, rfl, rfl⟩ (by decide) ?_
  intro v_3 h_1 q_2
  obtain ⟨rfl, K_5, b_6, le_7, f_8, f_9, f_10⟩ := q_2
  have ne_11 : a1 ≠ b_6 := ne_ge E0.lt le_7
  have ne_12 : a2 ≠ b_6 := ne_ge A2.lt le_7
  have ge_b_6 : n0 ≤ b_6 := lT Z0 le_7
  have gs_b_6 : h0.size ≤ b_6 := lT (Nat.le_refl h0.size) le_7
  show Go _ _ _ _ 1 2 9 _ []
  refine g_return C rfl d1_9 (by decide) (by decide) ?_
  exact ⟨rfl, ((Keep.refl h0 [a1]).trans K_5 (allS (Or.inl (List.mem_of_getElem? (i := 0) rfl)) all0)), b_6, gs_b_6, f_8, f_9, f_10⟩
theorem d18_0 : decode jdk_52_method_3_code 0 = .ok (.iload_n 0, 1) := by decide +kernel
theorem d18_1 : decode jdk_52_method_3_code 1 = .ok (.ifCond .ge 11, 3) := by decide +kernel
theorem d18_12 : decode jdk_52_method_3_code 12 = .ok (.iload_n 0, 1) := by decide +kernel
theorem d18_13 : decode jdk_52_method_3_code 13 = .ok (.ldc 20, 2) := by decide +kernel
theorem d18_15 : decode jdk_52_method_3_code 15 = .ok (.if_icmp .lt 40, 3) := by decide +kernel
theorem d18_55 : decode jdk_52_method_3_code 55 = .ok (.iload_n 0, 1) := by decide +kernel
theorem d18_56 : decode jdk_52_method_3_code 56 = .ok (.iconst 1, 1) := by decide +kernel
theorem d18_57 : decode jdk_52_method_3_code 57 = .ok (.ishl, 1) := by decide +kernel
theorem d18_58 : decode jdk_52_method_3_code 58 = .ok (.ireturn, 1) := by decide +kernel
theorem rm_nbl_2 (hw : HW a0 Z)  (h0 : Heap) (Z0 : n0 ≤ h0.size)  :
    Met1 l Z ⟨"java/lang/StringUTF16", "newBytesLength", "(I)I"⟩ jdk_52_method_3_code 1 (some .int) ⟨0, 0, 0, 0⟩ n0 #[(.int 2)] h0 (fun v h => v = some (.int 4) ∧ h0 = h) := by
  refine met_of (plainFor_of_name pn_4) (L0 := #[.val (.int 2)]) (by first | (simp [argsToLocals, Value.category]; done) | rfl) ?_
  intro B C
  change Ctx B l _ _ "java/lang/StringUTF16" "newBytesLength" _ _ Z at C
  refine iN C 2 d18_0 rfl <| fY C d18_1 (XT.i0_ge_t (by decide)) 12 (by decide) <| iN C 2 d18_12 rfl <| yldc C (v := 1073741823) (oW hw 80 rfl) d18_13 <| cY C d18_15 (XT.ii_lt_t (by decide)) 55 (by decide) <| iN C 2 d18_55 rfl <| iC C 1 d18_56 rfl <| yishl C d18_57 <| eS [(.int 4)] rfl ?_
  refine g_ret C (v := (.int 4)) (ty := .int) rfl rfl (Or.inl ⟨rfl, Or.inl rfl, _, rfl⟩) d18_58 (by decide) (by decide) ?_
  exact ⟨rfl, rfl⟩
theorem pd_7 : parseMethodDescriptor "(I)I" = some ⟨[.int], (some .int)⟩ := by decide +kernel
theorem d17_0 : decode jdk_52_method_2_code 0 = .ok (.iload_n 0, 1) := by decide +kernel
theorem d17_1 : decode jdk_52_method_2_code 1 = .ok (.invokestatic 11, 3) := by decide +kernel
theorem d17_4 : decode jdk_52_method_2_code 4 = .ok (.newarray .byte, 2) := by decide +kernel
theorem d17_6 : decode jdk_52_method_2_code 6 = .ok (.areturn, 1) := by decide +kernel
theorem rm_nbf_2 (hw : HW a0 Z)  (h0 : Heap) (Z0 : n0 ≤ h0.size)  :
    Met1 l Z ⟨"java/lang/StringUTF16", "newBytesFor", "(I)[B"⟩ jdk_52_method_2_code 1 (some (.array .byte)) ⟨1, 1, 4, 12⟩ n0 #[(.int 2)] h0 (fun v h => ∃ b : Addr, v = some (.ref b) ∧ h0.size ≤ b ∧ Keep h0 h [] ∧ Ary Z h b .byte [.int 0, .int 0, .int 0, .int 0]) := by
  refine met_of (plainFor_of_name pn_4) (L0 := #[.val (.int 2)]) (by first | (simp [argsToLocals, Value.category]; done) | rfl) ?_
  intro B C
  change Ctx B l _ _ "java/lang/StringUTF16" "newBytesFor" _ _ Z at C
  refine iN C 2 d17_0 rfl <| cS C hw 77 78 18 79 rfl rfl rfl rfl (rm_nbl_2 hw  h0 Z0 ) [] [(.int 2)] pd_7 0 d17_1 ⟨rfl, rfl, rfl, rfl, rfl⟩ (by decide) ?_
  intro v_3 h_1 q_2
  obtain ⟨rfl, rfl⟩ := q_2
  show Go _ _ _ _ 0 0 4 _ [(.int 4)]
  refine ynewarray C (oW hw 20 rfl) (ty := .byte) rfl (by decide) (cap := 4) (by decide) (by decide) (by decide) (by decide) d17_4 ?_
  intro h_5 a_6 g_7 E_8 A_9
  have ge_a_6 : n0 ≤ a_6 := lT Z0 (lE g_7.symm)
  have gs_a_6 : h0.size ≤ a_6 := lT (Nat.le_refl h0.size) (lE g_7.symm)
  have f_10 : Ary Z h_5 a_6 .byte [(.int 0), (.int 0), (.int 0), (.int 0)] := A_9
  show Go _ _ _ _ 1 4 6 _ [(.ref a_6)]
  refine g_ret C (v := (.ref a_6)) (ty := (.array .byte)) rfl rfl (Or.inr (Or.inr (Or.inr (Or.inr ⟨rfl, rfl, rfl⟩)))) d17_6 (by decide) (by decide) ?_
  exact ⟨a_6, rfl, gs_a_6, ((Keep.refl h0 []).ext E_8), f_10⟩
theorem d19_0 : decode jdk_52_method_4_code 0 = .ok (.getstatic 44, 3) := by decide +kernel
theorem d19_3 : decode jdk_52_method_4_code 3 = .ok (.ifCond .ne 25, 3) := by decide +kernel
theorem d19_28 : decode jdk_52_method_4_code 28 = .ok (.iload_n 1, 1) := by decide +kernel
theorem d19_29 : decode jdk_52_method_4_code 29 = .ok (.iconst 1, 1) := by decide +kernel
theorem d19_30 : decode jdk_52_method_4_code 30 = .ok (.ishl, 1) := by decide +kernel
theorem d19_31 : decode jdk_52_method_4_code 31 = .ok (.istore_n 1, 1) := by decide +kernel
theorem d19_32 : decode jdk_52_method_4_code 32 = .ok (.aload_n 0, 1) := by decide +kernel
theorem d19_33 : decode jdk_52_method_4_code 33 = .ok (.iload_n 1, 1) := by decide +kernel
theorem d19_34 : decode jdk_52_method_4_code 34 = .ok (.iinc 1 1, 3) := by decide +kernel
theorem d19_37 : decode jdk_52_method_4_code 37 = .ok (.iload_n 2, 1) := by decide +kernel
theorem d19_38 : decode jdk_52_method_4_code 38 = .ok (.getstatic 59, 3) := by decide +kernel
theorem d19_41 : decode jdk_52_method_4_code 41 = .ok (.ishr, 1) := by decide +kernel
theorem d19_42 : decode jdk_52_method_4_code 42 = .ok (.i2b, 1) := by decide +kernel
theorem d19_43 : decode jdk_52_method_4_code 43 = .ok (.bastore, 1) := by decide +kernel
theorem d19_44 : decode jdk_52_method_4_code 44 = .ok (.aload_n 0, 1) := by decide +kernel
theorem d19_45 : decode jdk_52_method_4_code 45 = .ok (.iload_n 1, 1) := by decide +kernel
theorem d19_46 : decode jdk_52_method_4_code 46 = .ok (.iload_n 2, 1) := by decide +kernel
theorem d19_47 : decode jdk_52_method_4_code 47 = .ok (.getstatic 63, 3) := by decide +kernel
theorem d19_50 : decode jdk_52_method_4_code 50 = .ok (.ishr, 1) := by decide +kernel
theorem d19_51 : decode jdk_52_method_4_code 51 = .ok (.i2b, 1) := by decide +kernel
theorem d19_52 : decode jdk_52_method_4_code 52 = .ok (.bastore, 1) := by decide +kernel
theorem d19_53 : decode jdk_52_method_4_code 53 = .ok (.return_, 1) := by decide +kernel
theorem rm_put_2_0 (hw : HW a0 Z) (a1 : Addr) (x0 x1 x2 x3 c : Int32) (h0 : Heap) (Z0 : n0 ≤ h0.size) (cm : Um Z) (O : Old Z n0 h0) (A1 : Ary Z h0 a1 .byte [.int x0, .int x1, .int x2, .int x3]) (g1 : n0 ≤ a1) :
    Met1 l Z ⟨"java/lang/StringUTF16", "putChar", "([BII)V"⟩ jdk_52_method_4_code 3 none ⟨0, 0, 0, 0⟩ n0 #[(.ref a1), (.int 0), (.int c)] h0 (fun v h => v = none ∧ Keep h0 h [a1] ∧ Ary Z h a1 .byte [.int (bY (c >>> (0 &&& 31))), .int (bY (c >>> (8 &&& 31))), .int x2, .int x3]) := by
  refine met_of (plainFor_of_name pn_4) (L0 := #[.val (.ref a1), .val (.int 0), .val (.int c)]) (by first | (simp [argsToLocals, Value.category]; done) | rfl) ?_
  intro B C
  change Ctx B l _ _ "java/lang/StringUTF16" "putChar" _ _ Z at C
  have cm' := cm
  obtain ⟨⟨cz, Scz, hcz⟩, Sas, Shi, Slo, Sfm⟩ := cm'
  refine ygetstatic C (host := "") (v := (.int 1)) (Or.inl (oW hw 84 rfl)) Via.refl (Sas.ext O.2) d19_0 <| fY C d19_3 (XT.i0_ne_t (by decide)) 28 (by decide) <| iN C 0 d19_28 rfl <| iC C 1 d19_29 rfl <| yishl C d19_30 <| eS [(.int 0)] rfl <| iT C d19_31 (#[aV a1, iV 0, iV c]) rfl <| aN C ((.ref a1)) d19_32 rfl rfl <| iN C 0 d19_33 rfl <| nC C 0 1 d19_34 rfl rfl (#[aV a1, iV 1, iV c]) rfl <| iN C c d19_37 rfl <| ygetstatic C (host := "") (v := (.int 0)) (Or.inl (oW hw 85 rfl)) Via.refl (Shi.ext O.2) d19_38 <| yishr C d19_41 <| yi2b C d19_42 <| ybastoreB C A1 (by decide) (i := 0) (by decide) (show 0 < 4 by decide) (w := (.int (bY (c >>> (0 &&& 31))))) (congrArg Value.int (own_narb _)) g1 d19_43 ?_
  intro h_1 K_2 A_3
  have f_4 : Ary Z h_1 a1 .byte [(.int (bY (c >>> (0 &&& 31)))), (.int x1), (.int x2), (.int x3)] := A_3
  refine aN C ((.ref a1)) d19_44 rfl rfl <| iN C 1 d19_45 rfl <| iN C c d19_46 rfl ?_
  have f_5 := (O.keep K_2 (allS g1 all0))
  refine ygetstatic C (host := "") (v := (.int 8)) (Or.inl (oW hw 86 rfl)) Via.refl (Slo.ext f_5.2) d19_47 <| yishr C d19_50 <| yi2b C d19_51 <| ybastoreB C f_4 (by decide) (i := 1) (by decide) (show 1 < 4 by decide) (w := (.int (bY (c >>> (8 &&& 31))))) (congrArg Value.int (own_narb _)) g1 d19_52 ?_
  intro h_6 K_7 A_8
  have f_9 : Ary Z h_6 a1 .byte [(.int (bY (c >>> (0 &&& 31)))), (.int (bY (c >>> (8 &&& 31)))), (.int x2), (.int x3)] := A_8
  refine g_return C rfl d19_53 (by decide) (by decide) ?_
  exact ⟨rfl, (((Keep.refl h0 [a1]).trans K_2 (allS (Or.inl (List.mem_of_getElem? (i := 0) rfl)) all0)).trans K_7 (allS (Or.inl (List.mem_of_getElem? (i := 0) rfl)) all0)), f_9⟩
theorem rm_put_2_1 (hw : HW a0 Z) (a1 : Addr) (x0 x1 x2 x3 c : Int32) (h0 : Heap) (Z0 : n0 ≤ h0.size) (cm : Um Z) (O : Old Z n0 h0) (A1 : Ary Z h0 a1 .byte [.int x0, .int x1, .int x2, .int x3]) (g1 : n0 ≤ a1) :
    Met1 l Z ⟨"java/lang/StringUTF16", "putChar", "([BII)V"⟩ jdk_52_method_4_code 3 none ⟨0, 0, 0, 0⟩ n0 #[(.ref a1), (.int 1), (.int c)] h0 (fun v h => v = none ∧ Keep h0 h [a1] ∧ Ary Z h a1 .byte [.int x0, .int x1, .int (bY (c >>> (0 &&& 31))), .int (bY (c >>> (8 &&& 31)))]) := by
  refine met_of (plainFor_of_name pn_4) (L0 := #[.val (.ref a1), .val (.int 1), .val (.int c)]) (by first | (simp [argsToLocals, Value.category]; done) | rfl) ?_
  intro B C
  change Ctx B l _ _ "java/lang/StringUTF16" "putChar" _ _ Z at C
  have cm' := cm
  obtain ⟨⟨cz, Scz, hcz⟩, Sas, Shi, Slo, Sfm⟩ := cm'
  refine ygetstatic C (host := "") (v := (.int 1)) (Or.inl (oW hw 84 rfl)) Via.refl (Sas.ext O.2) d19_0 <| fY C d19_3 (XT.i0_ne_t (by decide)) 28 (by decide) <| iN C 1 d19_28 rfl <| iC C 1 d19_29 rfl <| yishl C d19_30 <| eS [(.int 2)] rfl <| iT C d19_31 (#[aV a1, iV 2, iV c]) rfl <| aN C ((.ref a1)) d19_32 rfl rfl <| iN C 2 d19_33 rfl <| nC C 2 3 d19_34 rfl rfl (#[aV a1, iV 3, iV c]) rfl <| iN C c d19_37 rfl <| ygetstatic C (host := "") (v := (.int 0)) (Or.inl (oW hw 85 rfl)) Via.refl (Shi.ext O.2) d19_38 <| yishr C d19_41 <| yi2b C d19_42 <| ybastoreB C A1 (by decide) (i := 2) (by decide) (show 2 < 4 by decide) (w := (.int (bY (c >>> (0 &&& 31))))) (congrArg Value.int (own_narb _)) g1 d19_43 ?_
  intro h_1 K_2 A_3
  have f_4 : Ary Z h_1 a1 .byte [(.int x0), (.int x1), (.int (bY (c >>> (0 &&& 31)))), (.int x3)] := A_3
  refine aN C ((.ref a1)) d19_44 rfl rfl <| iN C 3 d19_45 rfl <| iN C c d19_46 rfl ?_
  have f_5 := (O.keep K_2 (allS g1 all0))
  refine ygetstatic C (host := "") (v := (.int 8)) (Or.inl (oW hw 86 rfl)) Via.refl (Slo.ext f_5.2) d19_47 <| yishr C d19_50 <| yi2b C d19_51 <| ybastoreB C f_4 (by decide) (i := 3) (by decide) (show 3 < 4 by decide) (w := (.int (bY (c >>> (8 &&& 31))))) (congrArg Value.int (own_narb _)) g1 d19_52 ?_
  intro h_6 K_7 A_8
  have f_9 : Ary Z h_6 a1 .byte [(.int x0), (.int x1), (.int (bY (c >>> (0 &&& 31)))), (.int (bY (c >>> (8 &&& 31))))] := A_8
  refine g_return C rfl d19_53 (by decide) (by decide) ?_
  exact ⟨rfl, (((Keep.refl h0 [a1]).trans K_2 (allS (Or.inl (List.mem_of_getElem? (i := 0) rfl)) all0)).trans K_7 (allS (Or.inl (List.mem_of_getElem? (i := 0) rfl)) all0)), f_9⟩
theorem pd_8 : parseMethodDescriptor "(I)[B" = some ⟨[.int], (some (.array .byte))⟩ := by decide +kernel
theorem pd_17 : parseMethodDescriptor "([BII)V" = some ⟨[(.array .byte), .int, .int], none⟩ := by decide +kernel
theorem d16_0 : decode jdk_52_method_14_code 0 = .ok (.iload_n 2, 1) := by decide +kernel
theorem d16_1 : decode jdk_52_method_14_code 1 = .ok (.invokestatic 107, 3) := by decide +kernel
theorem d16_4 : decode jdk_52_method_14_code 4 = .ok (.astore_n 3, 1) := by decide +kernel
theorem d16_5 : decode jdk_52_method_14_code 5 = .ok (.iconst 0, 1) := by decide +kernel
theorem d16_6 : decode jdk_52_method_14_code 6 = .ok (.istore 4, 2) := by decide +kernel
theorem d16_8 : decode jdk_52_method_14_code 8 = .ok (.iload 4, 2) := by decide +kernel
theorem d16_10 : decode jdk_52_method_14_code 10 = .ok (.iload_n 2, 1) := by decide +kernel
theorem d16_11 : decode jdk_52_method_14_code 11 = .ok (.if_icmp .ge 21, 3) := by decide +kernel
theorem d16_14 : decode jdk_52_method_14_code 14 = .ok (.aload_n 3, 1) := by decide +kernel
theorem d16_15 : decode jdk_52_method_14_code 15 = .ok (.iload 4, 2) := by decide +kernel
theorem d16_17 : decode jdk_52_method_14_code 17 = .ok (.aload_n 0, 1) := by decide +kernel
theorem d16_18 : decode jdk_52_method_14_code 18 = .ok (.iload_n 1, 1) := by decide +kernel
theorem d16_19 : decode jdk_52_method_14_code 19 = .ok (.caload, 1) := by decide +kernel
theorem d16_20 : decode jdk_52_method_14_code 20 = .ok (.invokestatic 111, 3) := by decide +kernel
theorem d16_23 : decode jdk_52_method_14_code 23 = .ok (.iinc 1 1, 3) := by decide +kernel
theorem d16_26 : decode jdk_52_method_14_code 26 = .ok (.iinc 4 1, 3) := by decide +kernel
theorem d16_29 : decode jdk_52_method_14_code 29 = .ok (.goto (-21), 3) := by decide +kernel
theorem d16_32 : decode jdk_52_method_14_code 32 = .ok (.aload_n 3, 1) := by decide +kernel
theorem d16_33 : decode jdk_52_method_14_code 33 = .ok (.areturn, 1) := by decide +kernel
theorem rm_toB_2 (hw : HW a0 Z) (a1 : Addr) (c0 c1 : Int32) (h0 : Heap) (Z0 : n0 ≤ h0.size) (cm : Um Z) (O : Old Z n0 h0) (A1 : Ary Z h0 a1 .char [.int c0, .int c1]) :
    Met1 l Z ⟨"java/lang/StringUTF16", "toBytes", "([CII)[B"⟩ jdk_52_method_14_code 5 (some (.array .byte)) ⟨2, 1, 4, 24⟩ n0 #[(.ref a1), (.int 0), (.int 2)] h0 (fun v h => ∃ b : Addr, v = some (.ref b) ∧ h0.size ≤ b ∧ Keep h0 h [] ∧ Ary Z h b .byte [.int (bY (c0 >>> (0 &&& 31))), .int (bY (c0 >>> (8 &&& 31))), .int (bY (c1 >>> (0 &&& 31))), .int (bY (c1 >>> (8 &&& 31)))]) := by
  refine met_of (plainFor_of_name pn_4) (L0 := #[.val (.ref a1), .val (.int 0), .val (.int 2), .unset, .unset]) (by first | (simp [argsToLocals, Value.category]; done) | rfl) ?_
  intro B C
  change Ctx B l _ _ "java/lang/StringUTF16" "toBytes" _ _ Z at C
  have cm' := cm
  obtain ⟨⟨cz, Scz, hcz⟩, Sas, Shi, Slo, Sfm⟩ := cm'
  refine iN C 2 d16_0 rfl <| cS C hw 74 75 18 76 rfl rfl rfl rfl (rm_nbf_2 hw  h0 Z0 ) [] [(.int 2)] pd_8 0 d16_1 ⟨rfl, rfl, rfl, rfl, rfl⟩ (by decide) ?_
  intro v_3 h_1 q_2
  obtain ⟨b_5, rfl, le_6, K_7, f_8⟩ := q_2
  have ne_9 : a1 ≠ b_5 := ne_ge A1.lt le_6
  have ge_b_5 : n0 ≤ b_5 := lT Z0 le_6
  have gs_b_5 : h0.size ≤ b_5 := lT (Nat.le_refl h0.size) le_6
  show Go _ _ _ _ 1 4 4 _ [(.ref b_5)]
  refine aT C d16_4 (#[aV a1, iV 0, iV 2, aV b_5, uV]) rfl rfl <| iC C 0 d16_5 rfl <| iS C d16_6 (#[aV a1, iV 0, iV 2, aV b_5, iV 0]) rfl <| iL C 0 d16_8 rfl <| iN C 2 d16_10 rfl <| yicmp_n C d16_11 (XT.ii_ge_f (by decide)) <| aN C ((.ref b_5)) d16_14 rfl rfl <| iL C 0 d16_15 rfl <| aN C ((.ref a1)) d16_17 rfl rfl <| iN C 0 d16_18 rfl ?_
  have f_10 := (A1.keep K_7 nin0)
  refine ycaload C f_10 (by decide) (i := 0) (by decide) (v := c0) rfl d16_19 ?_
  have f_11 := (O.keep K_7 all0)
  have f_12 := (lT Z0 K_7.1)
  refine cS C hw 81 82 18 83 rfl rfl rfl rfl (rm_put_2_0 hw b_5 0 0 0 0 c0 h_1 f_12 cm f_11 f_8 ge_b_5) [] [(.ref b_5), (.int 0), (.int c0)] pd_17 0 d16_20 ⟨rfl, rfl, rfl, rfl, rfl⟩ (by decide) ?_
  intro v_15 h_13 q_14
  obtain ⟨rfl, K_17, f_18⟩ := q_14
  show Go _ _ _ _ 1 4 23 _ []
  refine nC C 0 1 d16_23 rfl rfl (#[aV a1, iV 1, iV 2, aV b_5, iV 0]) rfl <| nC C 0 1 d16_26 rfl rfl (#[aV a1, iV 1, iV 2, aV b_5, iV 1]) rfl <| gT C d16_29 8 (by decide) <| iL C 1 d16_8 rfl <| iN C 2 d16_10 rfl <| yicmp_n C d16_11 (XT.ii_ge_f (by decide)) <| aN C ((.ref b_5)) d16_14 rfl rfl <| iL C 1 d16_15 rfl <| aN C ((.ref a1)) d16_17 rfl rfl <| iN C 1 d16_18 rfl ?_
  have f_19 := (f_10.keep K_17 (ninS ne_9 nin0))
  refine ycaload C f_19 (by decide) (i := 1) (by decide) (v := c1) rfl d16_19 ?_
  have f_20 := (f_11.keep K_17 (allS ge_b_5 all0))
  have f_21 := (lT f_12 K_17.1)
  refine cS C hw 81 82 18 83 rfl rfl rfl rfl (rm_put_2_1 hw b_5 (bY (c0 >>> (0 &&& 31))) (bY (c0 >>> (8 &&& 31))) 0 0 c1 h_13 f_21 cm f_20 f_18 ge_b_5) [] [(.ref b_5), (.int 1), (.int c1)] pd_17 0 d16_20 ⟨rfl, rfl, rfl, rfl, rfl⟩ (by decide) ?_
  intro v_24 h_22 q_23
  obtain ⟨rfl, K_26, f_27⟩ := q_23
  show Go _ _ _ _ 1 4 23 _ []
  refine nC C 1 2 d16_23 rfl rfl (#[aV a1, iV 2, iV 2, aV b_5, iV 1]) rfl <| nC C 1 2 d16_26 rfl rfl (#[aV a1, iV 2, iV 2, aV b_5, iV 2]) rfl <| gT C d16_29 8 (by decide) <| iL C 2 d16_8 rfl <| iN C 2 d16_10 rfl <| cY C d16_11 (XT.ii_ge_t (by decide)) 32 (by decide) <| aN C ((.ref b_5)) d16_32 rfl rfl ?_
  refine g_ret C (v := (.ref b_5)) (ty := (.array .byte)) rfl rfl (Or.inr (Or.inr (Or.inr (Or.inr ⟨rfl, rfl, rfl⟩)))) d16_33 (by decide) (by decide) ?_
  exact ⟨b_5, rfl, gs_b_5, ((((Keep.refl h0 []).trans K_7 all0).trans K_17 (allS (Or.inr gs_b_5) all0)).trans K_26 (allS (Or.inr gs_b_5) all0)), f_27⟩
theorem d20_0 : decode jdk_52_method_5_code 0 = .ok (.getstatic 44, 3) := by decide +kernel
theorem d20_3 : decode jdk_52_method_5_code 3 = .ok (.ifCond .ne 25, 3) := by decide +kernel
theorem d20_28 : decode jdk_52_method_5_code 28 = .ok (.iload_n 1, 1) := by decide +kernel
theorem d20_29 : decode jdk_52_method_5_code 29 = .ok (.iconst 1, 1) := by decide +kernel
theorem d20_30 : decode jdk_52_method_5_code 30 = .ok (.ishl, 1) := by decide +kernel
theorem d20_31 : decode jdk_52_method_5_code 31 = .ok (.istore_n 1, 1) := by decide +kernel
theorem d20_32 : decode jdk_52_method_5_code 32 = .ok (.aload_n 0, 1) := by decide +kernel
theorem d20_33 : decode jdk_52_method_5_code 33 = .ok (.iload_n 1, 1) := by decide +kernel
theorem d20_34 : decode jdk_52_method_5_code 34 = .ok (.iinc 1 1, 3) := by decide +kernel
theorem d20_37 : decode jdk_52_method_5_code 37 = .ok (.baload, 1) := by decide +kernel
theorem d20_38 : decode jdk_52_method_5_code 38 = .ok (.sipush 255, 3) := by decide +kernel
theorem d20_41 : decode jdk_52_method_5_code 41 = .ok (.iand, 1) := by decide +kernel
theorem d20_42 : decode jdk_52_method_5_code 42 = .ok (.getstatic 59, 3) := by decide +kernel
theorem d20_45 : decode jdk_52_method_5_code 45 = .ok (.ishl, 1) := by decide +kernel
theorem d20_46 : decode jdk_52_method_5_code 46 = .ok (.aload_n 0, 1) := by decide +kernel
theorem d20_47 : decode jdk_52_method_5_code 47 = .ok (.iload_n 1, 1) := by decide +kernel
theorem d20_48 : decode jdk_52_method_5_code 48 = .ok (.baload, 1) := by decide +kernel
theorem d20_49 : decode jdk_52_method_5_code 49 = .ok (.sipush 255, 3) := by decide +kernel
theorem d20_52 : decode jdk_52_method_5_code 52 = .ok (.iand, 1) := by decide +kernel
theorem d20_53 : decode jdk_52_method_5_code 53 = .ok (.getstatic 63, 3) := by decide +kernel
theorem d20_56 : decode jdk_52_method_5_code 56 = .ok (.ishl, 1) := by decide +kernel
theorem d20_57 : decode jdk_52_method_5_code 57 = .ok (.ior, 1) := by decide +kernel
theorem d20_58 : decode jdk_52_method_5_code 58 = .ok (.i2c, 1) := by decide +kernel
theorem d20_59 : decode jdk_52_method_5_code 59 = .ok (.ireturn, 1) := by decide +kernel
theorem rm_getC_2_1 (hw : HW a0 Z) (a1 : Addr) (x0 x1 x2 x3 c : Int32) (h0 : Heap) (Z0 : n0 ≤ h0.size) (cm : Um Z) (O : Old Z n0 h0) (A1 : Ary Z h0 a1 .byte [.int x0, .int x1, .int x2, .int x3]) (ec : (UInt32.toInt32 (UInt16.toUInt32 (UInt32.toUInt16 (Int32.toUInt32 (((x2 &&& 255) <<< (0 &&& 31)) ||| ((x3 &&& 255) <<< (8 &&& 31))))))) = c) (kc : nar .char c = c) :
    Met1 l Z ⟨"java/lang/StringUTF16", "getChar", "([BI)C"⟩ jdk_52_method_5_code 2 (some .char) ⟨0, 0, 0, 0⟩ n0 #[(.ref a1), (.int 1)] h0 (fun v h => v = some (.int c) ∧ h0 = h) := by
  refine met_of (plainFor_of_name pn_4) (L0 := #[.val (.ref a1), .val (.int 1)]) (by first | (simp [argsToLocals, Value.category]; done) | rfl) ?_
  intro B C
  change Ctx B l _ _ "java/lang/StringUTF16" "getChar" _ _ Z at C
  have cm' := cm
  obtain ⟨⟨cz, Scz, hcz⟩, Sas, Shi, Slo, Sfm⟩ := cm'
  refine ygetstatic C (host := "") (v := (.int 1)) (Or.inl (oW hw 84 rfl)) Via.refl (Sas.ext O.2) d20_0 <| fY C d20_3 (XT.i0_ne_t (by decide)) 28 (by decide) <| iN C 1 d20_28 rfl <| iC C 1 d20_29 rfl <| yishl C d20_30 <| eS [(.int 2)] rfl <| iT C d20_31 (#[aV a1, iV 2]) rfl <| aN C ((.ref a1)) d20_32 rfl rfl <| iN C 2 d20_33 rfl <| nC C 2 3 d20_34 rfl rfl (#[aV a1, iV 3]) rfl <| ybaloadB C A1 (by decide) (i := 2) (by decide) (v := x2) rfl d20_37 <| iP C 255 d20_38 rfl <| yiand C d20_41 <| ygetstatic C (host := "") (v := (.int 0)) (Or.inl (oW hw 85 rfl)) Via.refl (Shi.ext O.2) d20_42 <| yishl C d20_45 <| aN C ((.ref a1)) d20_46 rfl rfl <| iN C 3 d20_47 rfl <| ybaloadB C A1 (by decide) (i := 3) (by decide) (v := x3) rfl d20_48 <| iP C 255 d20_49 rfl <| yiand C d20_52 <| ygetstatic C (host := "") (v := (.int 8)) (Or.inl (oW hw 86 rfl)) Via.refl (Slo.ext O.2) d20_53 <| yishl C d20_56 <| yior C d20_57 <| yi2c C d20_58 ?_
  rw [ec]
  refine g_ret C (v := (.int c)) (ty := .char) rfl (own_nch kc) (Or.inl ⟨rfl, Or.inr (Or.inr (Or.inr (Or.inl rfl))), _, rfl⟩) d20_59 (by decide) (by decide) ?_
  exact ⟨rfl, rfl⟩
theorem d5_23 : decode jdk_52_method_21_code 23 = .ok (.iload 5, 2) := by decide +kernel
theorem d5_25 : decode jdk_52_method_21_code 25 = .ok (.ireturn, 1) := by decide +kernel
theorem rm_comp1B_2_1 (hw : HW a0 Z) (a1 a2 : Addr) (c0 c1 : Int32) (h0 : Heap) (Z0 : n0 ≤ h0.size) (A1 : Ary Z h0 a1 .char [.int c0, .int c1]) (A2 : Ary Z h0 a2 .byte [.int 0, .int 0]) (g2 : n0 ≤ a2) (n12 : a1 ≠ a2) (k0 : Ch c0) (k1 : Bg c1) :
    Met1 l Z ⟨"java/lang/StringUTF16", "compress", "([CI[BII)I"⟩ jdk_52_method_21_code 7 (some .int) ⟨0, 0, 0, 0⟩ n0 #[(.ref a1), (.int 0), (.ref a2), (.int 0), (.int 2)] h0 (fun v h => v = some (.int 1) ∧ Keep h0 h [a2]) := by
  refine met_of (plainFor_of_name pn_4) (L0 := #[.val (.ref a1), .val (.int 0), .val (.ref a2), .val (.int 0), .val (.int 2), .unset, .unset]) (by first | (simp [argsToLocals, Value.category]; done) | rfl) ?_
  intro B C
  change Ctx B l _ _ "java/lang/StringUTF16" "compress" _ _ Z at C
  refine iC C 0 d5_0 rfl <| iS C d5_1 (#[aV a1, iV 0, aV a2, iV 0, iV 2, iV 0, uV]) rfl <| iL C 0 d5_3 rfl <| iL C 2 d5_5 rfl <| yicmp_n C d5_7 (XT.ii_ge_f (by decide)) <| aN C ((.ref a1)) d5_10 rfl rfl <| iN C 0 d5_11 rfl <| ycaload C A1 (by decide) (i := 0) (by decide) (v := c0) rfl d5_12 <| iS C d5_13 (#[aV a1, iV 0, aV a2, iV 0, iV 2, iV 0, iV c0]) rfl <| iL C c0 d5_15 rfl <| iP C 255 d5_17 rfl <| cY C d5_20 (XT.ii_le_t k0.2.1) 26 (by decide) <| aN C ((.ref a2)) d5_26 rfl rfl <| iN C 0 d5_27 rfl <| iL C c0 d5_28 rfl <| yi2b C d5_30 <| ybastoreB C A2 (by decide) (i := 0) (by decide) (show 0 < 2 by decide) (w := (.int (bY c0))) (congrArg Value.int (own_narb _)) g2 d5_31 ?_
  intro h_1 K_2 A_3
  have f_4 : Ary Z h_1 a2 .byte [(.int (bY c0)), (.int 0)] := A_3
  refine nC C 0 1 d5_32 rfl rfl (#[aV a1, iV 1, aV a2, iV 0, iV 2, iV 0, iV c0]) rfl <| nC C 0 1 d5_35 rfl rfl (#[aV a1, iV 1, aV a2, iV 1, iV 2, iV 0, iV c0]) rfl <| nC C 0 1 d5_38 rfl rfl (#[aV a1, iV 1, aV a2, iV 1, iV 2, iV 1, iV c0]) rfl <| gT C d5_41 3 (by decide) <| iL C 1 d5_3 rfl <| iL C 2 d5_5 rfl <| yicmp_n C d5_7 (XT.ii_ge_f (by decide)) <| aN C ((.ref a1)) d5_10 rfl rfl <| iN C 1 d5_11 rfl ?_
  have f_5 := (A1.keep K_2 (ninS n12 nin0))
  refine ycaload C f_5 (by decide) (i := 1) (by decide) (v := c1) rfl d5_12 <| iS C d5_13 (#[aV a1, iV 1, aV a2, iV 1, iV 2, iV 1, iV c1]) rfl <| iL C c1 d5_15 rfl <| iP C 255 d5_17 rfl <| yicmp_n C d5_20 (XT.ii_le_f k1.2) <| iL C 1 d5_23 rfl ?_
  refine g_ret C (v := (.int 1)) (ty := .int) rfl rfl (Or.inl ⟨rfl, Or.inl rfl, _, rfl⟩) d5_25 (by decide) (by decide) ?_
  exact ⟨rfl, ((Keep.refl h0 [a2]).trans K_2 (allS (Or.inl (List.mem_of_getElem? (i := 0) rfl)) all0))⟩
theorem pd_18 : parseMethodDescriptor "([CII)[B" = some ⟨[(.array .char), .int, .int], (some (.array .byte))⟩ := by decide +kernel
theorem pd_15 : parseMethodDescriptor "([BI)C" = some ⟨[(.array .byte), .int], (some .char)⟩ := by decide +kernel
theorem d4_20 : decode jdk_52_method_16_code 20 = .ok (.aload_n 0, 1) := by decide +kernel
theorem d4_21 : decode jdk_52_method_16_code 21 = .ok (.iload_n 1, 1) := by decide +kernel
theorem d4_22 : decode jdk_52_method_16_code 22 = .ok (.iload_n 2, 1) := by decide +kernel
theorem d4_23 : decode jdk_52_method_16_code 23 = .ok (.invokestatic 119, 3) := by decide +kernel
theorem d4_26 : decode jdk_52_method_16_code 26 = .ok (.astore 5, 2) := by decide +kernel
theorem d4_28 : decode jdk_52_method_16_code 28 = .ok (.aload 5, 2) := by decide +kernel
theorem d4_30 : decode jdk_52_method_16_code 30 = .ok (.iload 4, 2) := by decide +kernel
theorem d4_32 : decode jdk_52_method_16_code 32 = .ok (.invokestatic 71, 3) := by decide +kernel
theorem d4_35 : decode jdk_52_method_16_code 35 = .ok (.sipush 255, 3) := by decide +kernel
theorem d4_38 : decode jdk_52_method_16_code 38 = .ok (.if_icmp .gt 16, 3) := by decide +kernel
theorem d4_54 : decode jdk_52_method_16_code 54 = .ok (.aload 5, 2) := by decide +kernel
theorem d4_56 : decode jdk_52_method_16_code 56 = .ok (.areturn, 1) := by decide +kernel
theorem rm_comp2B_2_1 (hw : HW a0 Z) (a1 : Addr) (c0 c1 : Int32) (h0 : Heap) (Z0 : n0 ≤ h0.size) (cm : Um Z) (O : Old Z n0 h0) (A1 : Ary Z h0 a1 .char [.int c0, .int c1]) (k0 : Ch c0) (k1 : Bg c1) :
    Met1 l Z ⟨"java/lang/StringUTF16", "compress", "([CII)[B"⟩ jdk_52_method_16_code 6 (some (.array .byte)) ⟨3, 2, 6, 40⟩ n0 #[(.ref a1), (.int 0), (.int 2)] h0 (fun v h => ∃ b : Addr, v = some (.ref b) ∧ h0.size ≤ b ∧ Keep h0 h [] ∧ Ary Z h b .byte [.int (bY (c0 >>> (0 &&& 31))), .int (bY (c0 >>> (8 &&& 31))), .int (bY (c1 >>> (0 &&& 31))), .int (bY (c1 >>> (8 &&& 31)))]) := by
  refine met_of (plainFor_of_name pn_4) (L0 := #[.val (.ref a1), .val (.int 0), .val (.int 2), .unset, .unset, .unset]) (by first | (simp [argsToLocals, Value.category]; done) | rfl) ?_
  intro B C
  change Ctx B l _ _ "java/lang/StringUTF16" "compress" _ _ Z at C
  have cm' := cm
  obtain ⟨⟨cz, Scz, hcz⟩, Sas, Shi, Slo, Sfm⟩ := cm'
  refine iN C 2 d4_0 rfl <| ynewarray C (oW hw 20 rfl) (ty := .byte) rfl (by decide) (cap := 2) (by decide) (by decide) (by decide) (by decide) d4_1 ?_
  intro h_1 a_2 g_3 E_4 A_5
  have ne_6 : a1 ≠ a_2 := ne_new A1.lt g_3
  have ge_a_2 : n0 ≤ a_2 := lT Z0 (lE g_3.symm)
  have gs_a_2 : h0.size ≤ a_2 := lT (Nat.le_refl h0.size) (lE g_3.symm)
  have f_7 : Ary Z h_1 a_2 .byte [(.int 0), (.int 0)] := A_5
  show Go _ _ _ _ 1 2 3 _ [(.ref a_2)]
  refine aT C d4_3 (#[aV a1, iV 0, iV 2, aV a_2, uV, uV]) rfl rfl <| aN C ((.ref a1)) d4_4 rfl rfl <| iN C 0 d4_5 rfl <| aN C ((.ref a_2)) d4_6 rfl rfl <| iC C 0 d4_7 rfl <| iN C 2 d4_8 rfl ?_
  have f_8 := (A1.ext E_4)
  have f_9 := (lT Z0 E_4.1)
  refine cS C hw 21 22 18 23 rfl rfl rfl rfl (rm_comp1B_2_1 hw a1 a_2 c0 c1 h_1 f_9 f_8 f_7 ge_a_2 ne_6 k0 k1) [] [(.ref a1), (.int 0), (.ref a_2), (.int 0), (.int 2)] pd_13 0 d4_9 ⟨rfl, rfl, rfl, rfl, rfl⟩ (by decide) ?_
  intro v_12 h_10 q_11
  obtain ⟨rfl, K_14⟩ := q_11
  show Go _ _ _ _ 1 2 12 _ [(.int 1)]
  refine iS C d4_12 (#[aV a1, iV 0, iV 2, aV a_2, iV 1, uV]) rfl <| iL C 1 d4_14 rfl <| iN C 2 d4_16 rfl <| yicmp_n C d4_17 (XT.ii_eq_f (by decide)) <| aN C ((.ref a1)) d4_20 rfl rfl <| iN C 0 d4_21 rfl <| iN C 2 d4_22 rfl ?_
  have f_15 := ((O.ext E_4).keep K_14 (allS ge_a_2 all0))
  have f_16 := (f_8.keep K_14 (ninS ne_6 nin0))
  have f_17 := (lT f_9 K_14.1)
  have f_18 := (lT (lT (Nat.le_refl h0.size) E_4.1) K_14.1)
  refine cS C hw 71 72 18 73 rfl rfl rfl rfl (rm_toB_2 hw a1 c0 c1 h_10 f_17 cm f_15 f_16) [] [(.ref a1), (.int 0), (.int 2)] pd_18 0 d4_23 ⟨rfl, rfl, rfl, rfl, rfl⟩ (by decide) ?_
  intro v_21 h_19 q_20
  obtain ⟨b_23, rfl, le_24, K_25, f_26⟩ := q_20
  have ne_27 : a1 ≠ b_23 := ne_ge f_16.lt le_24
  have ge_b_23 : n0 ≤ b_23 := lT f_17 le_24
  have gs_b_23 : h0.size ≤ b_23 := lT f_18 le_24
  show Go _ _ _ _ 2 6 26 _ [(.ref b_23)]
  refine aS C d4_26 (#[aV a1, iV 0, iV 2, aV a_2, iV 1, aV b_23]) rfl rfl <| aL C ((.ref b_23)) d4_28 rfl rfl <| iL C 1 d4_30 rfl ?_
  have f_28 := (f_15.keep K_25 all0)
  have f_29 := (lT f_17 K_25.1)
  refine cS C hw 87 88 18 89 rfl rfl rfl rfl (rm_getC_2_1 hw b_23 (bY (c0 >>> (0 &&& 31))) (bY (c0 >>> (8 &&& 31))) (bY (c1 >>> (0 &&& 31))) (bY (c1 >>> (8 &&& 31))) c1 h_19 f_29 cm f_28 f_26 (own_gc k1.1) k1.1) [] [(.ref b_23), (.int 1)] pd_15 0 d4_32 ⟨rfl, rfl, rfl, rfl, rfl⟩ (by decide) ?_
  intro v_32 h_30 q_31
  obtain ⟨rfl, rfl⟩ := q_31
  show Go _ _ _ _ 2 6 35 _ [(.int c1)]
  refine iP C 255 d4_35 rfl <| cY C d4_38 (XT.ii_gt_t k1.2) 54 (by decide) <| aL C ((.ref b_23)) d4_54 rfl rfl ?_
  refine g_ret C (v := (.ref b_23)) (ty := (.array .byte)) rfl rfl (Or.inr (Or.inr (Or.inr (Or.inr ⟨rfl, rfl, rfl⟩)))) d4_56 (by decide) (by decide) ?_
  exact ⟨b_23, rfl, gs_b_23, ((((Keep.refl h0 []).ext E_4).trans K_14 (allS (Or.inr gs_a_2) all0)).trans K_25 all0), f_26⟩
theorem rm_coderB_2 (hw : HW a0 Z) (a1 : Addr) (x0 x1 x2 x3 : Int32) (h0 : Heap) (Z0 : n0 ≤ h0.size) (A1 : Ary Z h0 a1 .byte [.int x0, .int x1, .int x2, .int x3]) :
    Met1 l Z ⟨"java/lang/StringUTF16", "coderFromArrayLen", "([BI)B"⟩ jdk_52_method_15_code 2 (some .byte) ⟨0, 0, 0, 0⟩ n0 #[(.ref a1), (.int 2)] h0 (fun v h => v = some (.int 1) ∧ h0 = h) := by
  refine met_of (plainFor_of_name pn_4) (L0 := #[.val (.ref a1), .val (.int 2)]) (by first | (simp [argsToLocals, Value.category]; done) | rfl) ?_
  intro B C
  change Ctx B l _ _ "java/lang/StringUTF16" "coderFromArrayLen" _ _ Z at C
  refine iN C 2 d6_0 rfl <| aN C ((.ref a1)) d6_1 rfl rfl <| yarraylength C A1 (z := 4) rfl d6_2 <| yisub C d6_3 <| eS [(.int (-2 : Int32))] rfl <| iB C 31 d6_4 rfl <| yiushr C d6_6 <| eS [(.int 1)] rfl <| yi2b C d6_7 <| eS [(.int 1)] rfl ?_
  refine g_ret C (v := (.int 1)) (ty := .byte) rfl rfl (Or.inl ⟨rfl, Or.inr (Or.inr (Or.inl rfl)), _, rfl⟩) d6_8 (by decide) (by decide) ?_
  exact ⟨rfl, rfl⟩
theorem rm_init4B_2_1 (hw : HW a0 Z) (a1 a2 : Addr) (c0 c1 : Int32) (h0 : Heap) (Z0 : n0 ≤ h0.size) (cm : Um Z) (O : Old Z n0 h0) (E0 : Exa Z h0 a1 "java/lang/String") (F0 : Fld Z h0 a1 "java/lang/String" "value" "[B" .null) (F1 : Fld Z h0 a1 "java/lang/String" "coder" "B" (.int 0)) (g1 : n0 ≤ a1) (A2 : Ary Z h0 a2 .char [.int c0, .int c1]) (n12 : a1 ≠ a2) (k0 : Ch c0) (k1 : Bg c1) :
    Met1 l Z ⟨"java/lang/String", "<init>", "([CIILjava/lang/Void;)V"⟩ jdk_42_method_149_code 6 none ⟨4, 2, 6, 57⟩ n0 #[(.ref a1), (.ref a2), (.int 0), (.int 2), .null] h0 (fun v h => v = none ∧ Keep h0 h [a1] ∧ ∃ b : Addr, h0.size ≤ b ∧ Fld Z h a1 "java/lang/String" "value" "[B" (.ref b) ∧ Fld Z h a1 "java/lang/String" "coder" "B" (.int 1) ∧ Ary Z h b .byte [.int (bY (c0 >>> (0 &&& 31))), .int (bY (c0 >>> (8 &&& 31))), .int (bY (c1 >>> (0 &&& 31))), .int (bY (c1 >>> (8 &&& 31)))]) := by
  refine met_of (plainFor_of_name pn_5) (L0 := #[.val (.ref a1), .val (.ref a2), .val (.int 0), .val (.int 2), .val .null, .unset]) (by first | (simp [argsToLocals, Value.category]; done) | rfl) ?_
  intro B C
  change Ctx B l _ _ "java/lang/String" "<init>" _ _ Z at C
  have cm' := cm
  obtain ⟨⟨cz, Scz, hcz⟩, Sas, Shi, Slo, Sfm⟩ := cm'
  refine aN C ((.ref a1)) d2_0 rfl rfl <| yinitObj C (oW hw 12 rfl) (oW hw 13 rfl) (oW hw 14 rfl) rfl (by decide) (W := 0) (lE rfl) (by decide) d2_1 <| iN C 2 d2_4 rfl <| fY C d2_5 (XT.i0_ne_t (by decide)) 27 (by decide) <| ygetstatic C (host := "") (v := (.int cz)) (Or.inl (oW hw 15 rfl)) Via.refl (Scz.ext O.2) d2_27 <| yif_n C d2_30 (XT.i0_eq_f hcz) <| aN C ((.ref a2)) d2_33 rfl rfl <| iN C 0 d2_34 rfl <| iN C 2 d2_35 rfl <| cS C hw 16 17 18 19 rfl rfl rfl rfl (rm_comp2B_2_1 hw a2 c0 c1 h0 Z0 cm O A2 k0 k1) [] [(.ref a2), (.int 0), (.int 2)] pd_14 0 d2_36 ⟨rfl, rfl, rfl, rfl, rfl⟩ (by decide) ?_
  intro v_3 h_1 q_2
  obtain ⟨b_5, rfl, le_6, K_7, f_8⟩ := q_2
  have ne_9 : a1 ≠ b_5 := ne_ge E0.lt le_6
  have ne_10 : a2 ≠ b_5 := ne_ge A2.lt le_6
  have ge_b_5 : n0 ≤ b_5 := lT Z0 le_6
  have gs_b_5 : h0.size ≤ b_5 := lT (Nat.le_refl h0.size) le_6
  show Go _ _ _ _ 2 6 39 _ [(.ref b_5)]
  refine aS C d2_39 (#[aV a1, aV a2, iV 0, iV 2, .val .null, aV b_5]) rfl rfl <| aN C ((.ref a1)) d2_41 rfl rfl <| aL C ((.ref b_5)) d2_42 rfl rfl <| iN C 2 d2_44 rfl ?_
  have f_11 := (lT Z0 K_7.1)
  refine cS C hw 24 25 18 26 rfl rfl rfl rfl (rm_coderB_2 hw b_5 (bY (c0 >>> (0 &&& 31))) (bY (c0 >>> (8 &&& 31))) (bY (c1 >>> (0 &&& 31))) (bY (c1 >>> (8 &&& 31))) h_1 f_11 f_8) [(.ref a1)] [(.ref b_5), (.int 2)] pd_6 1 d2_45 ⟨rfl, rfl, rfl, rfl, rfl⟩ (by decide) ?_
  intro v_14 h_12 q_13
  obtain ⟨rfl, rfl⟩ := q_13
  show Go _ _ _ _ 2 6 48 _ [(.int 1), (.ref a1)]
  have f_16 := (F1.keep K_7 nin0)
  have f_17 := (E0.keep K_7)
  refine yputfield C (host := "") (v := (.int 1)) (Or.inl (oW hw 27 rfl)) Via.refl f_16 f_17 (Or.inr ⟨(oW hw 28 rfl), rfl, rfl⟩) (oW hw 3 rfl) (ty := .byte) (by decide) rfl rfl g1 d2_48 ?_
  intro h_18 W_19
  have f_20 := f_16.same W_19
  refine aN C ((.ref a1)) d2_51 rfl rfl <| aL C ((.ref b_5)) d2_52 rfl rfl ?_
  have f_21 := ((F0.keep K_7 nin0).other W_19 (Or.inr (slot_ne (Or.inr (oW hw 30 rfl)) (Or.inr (oW hw 28 rfl)) (by decide) (t := (.array .byte)) (t' := .byte) (by decide) (by decide))))
  have f_22 := (f_17.wr W_19)
  refine yputfield C (host := "") (v := (.ref b_5)) (Or.inl (oW hw 29 rfl)) Via.refl f_21 f_22 (Or.inr ⟨(oW hw 30 rfl), rfl, rfl⟩) (oW hw 3 rfl) (ty := (.array .byte)) (by decide) rfl rfl g1 d2_54 ?_
  intro h_23 W_24
  have f_25 := f_21.same W_24
  refine g_return C rfl d2_57 (by decide) (by decide) ?_
  have f_26 := (f_20.other W_24 (Or.inr (slot_ne (Or.inr (oW hw 28 rfl)) (Or.inr (oW hw 30 rfl)) (by decide) (t := .byte) (t' := (.array .byte)) (by decide) (by decide))))
  have f_27 := ((f_8.keep (Keep.of_wr W_19) (nin1 (Ne.symm ne_9))).keep (Keep.of_wr W_24) (nin1 (Ne.symm ne_9)))
  exact ⟨rfl, ((((Keep.refl h0 [a1]).trans K_7 all0).wr W_19 (Or.inl (List.mem_of_getElem? (i := 0) rfl))).wr W_24 (Or.inl (List.mem_of_getElem? (i := 0) rfl))), b_5, gs_b_5, f_25, f_26, f_27⟩
theorem rm_initB_2_1 (hw : HW a0 Z) (a1 a2 : Addr) (c0 c1 : Int32) (h0 : Heap) (Z0 : n0 ≤ h0.size) (cm : Um Z) (O : Old Z n0 h0) (E0 : Exa Z h0 a1 "java/lang/String") (F0 : Fld Z h0 a1 "java/lang/String" "value" "[B" .null) (F1 : Fld Z h0 a1 "java/lang/String" "coder" "B" (.int 0)) (g1 : n0 ≤ a1) (A2 : Ary Z h0 a2 .char [.int c0, .int c1]) (n12 : a1 ≠ a2) (k0 : Ch c0) (k1 : Bg c1) :
    Met1 l Z ⟨"java/lang/String", "<init>", "([C)V"⟩ jdk_42_method_3_code 2 none ⟨5, 2, 6, 74⟩ n0 #[(.ref a1), (.ref a2)] h0 (fun v h => v = none ∧ Keep h0 h [a1] ∧ ∃ b : Addr, h0.size ≤ b ∧ Fld Z h a1 "java/lang/String" "value" "[B" (.ref b) ∧ Fld Z h a1 "java/lang/String" "coder" "B" (.int 1) ∧ Ary Z h b .byte [.int (bY (c0 >>> (0 &&& 31))), .int (bY (c0 >>> (8 &&& 31))), .int (bY (c1 >>> (0 &&& 31))), .int (bY (c1 >>> (8 &&& 31)))]) := by
  refine met_of (plainFor_of_name pn_5) (L0 := #[.val (.ref a1), .val (.ref a2)]) (by first | (simp [argsToLocals, Value.category]; done) | rfl) ?_
  intro B C
  change Ctx B l _ _ "java/lang/String" "<init>" _ _ Z at C
  have cm' := cm
  obtain ⟨⟨cz, Scz, hcz⟩, Sas, Shi, Slo, Sfm⟩ := cm'
  refine aN C ((.ref a1)) d1_0 rfl rfl <| aN C ((.ref a2)) d1_1 rfl rfl <| iC C 0 d1_2 rfl <| aN C ((.ref a2)) d1_3 rfl rfl <| yarraylength C A2 (z := 2) rfl d1_4 <| yaconst_null C d1_5 <| cP C hw 8 9 4 11 rfl rfl rfl rfl rfl (rm_init4B_2_1 hw a1 a2 c0 c1 h0 Z0 cm O E0 F0 F1 g1 A2 n12 k0 k1) [] [(.ref a2), (.int 0), (.int 2), .null] pd_24 0 d1_6 ⟨rfl, rfl, rfl, rfl, rfl⟩ (by decide) ?_
  intro v_3 h_1 q_2
  obtain ⟨rfl, K_5, b_6, le_7, f_8, f_9, f_10⟩ := q_2
  have ne_11 : a1 ≠ b_6 := ne_ge E0.lt le_7
  have ne_12 : a2 ≠ b_6 := ne_ge A2.lt le_7
  have ge_b_6 : n0 ≤ b_6 := lT Z0 le_7
  have gs_b_6 : h0.size ≤ b_6 := lT (Nat.le_refl h0.size) le_7
  show Go _ _ _ _ 2 6 9 _ []
  refine g_return C rfl d1_9 (by decide) (by decide) ?_
  exact ⟨rfl, ((Keep.refl h0 [a1]).trans K_5 (allS (Or.inl (List.mem_of_getElem? (i := 0) rfl)) all0)), b_6, gs_b_6, f_8, f_9, f_10⟩
theorem rm_comp1_3 (hw : HW a0 Z) (a1 a2 : Addr) (c0 c1 c2 : Int32) (h0 : Heap) (Z0 : n0 ≤ h0.size) (A1 : Ary Z h0 a1 .char [.int c0, .int c1, .int c2]) (A2 : Ary Z h0 a2 .byte [.int 0, .int 0, .int 0]) (g2 : n0 ≤ a2) (n12 : a1 ≠ a2) (k0 : Ch c0) (k1 : Ch c1) (k2 : Ch c2) :
    Met1 l Z ⟨"java/lang/StringUTF16", "compress", "([CI[BII)I"⟩ jdk_52_method_21_code 7 (some .int) ⟨0, 0, 0, 0⟩ n0 #[(.ref a1), (.int 0), (.ref a2), (.int 0), (.int 3)] h0 (fun v h => v = some (.int 3) ∧ Keep h0 h [a2] ∧ Ary Z h a2 .byte [.int (bY c0), .int (bY c1), .int (bY c2)]) := by
  refine met_of (plainFor_of_name pn_4) (L0 := #[.val (.ref a1), .val (.int 0), .val (.ref a2), .val (.int 0), .val (.int 3), .unset, .unset]) (by first | (simp [argsToLocals, Value.category]; done) | rfl) ?_
  intro B C
  change Ctx B l _ _ "java/lang/StringUTF16" "compress" _ _ Z at C
  refine iC C 0 d5_0 rfl <| iS C d5_1 (#[aV a1, iV 0, aV a2, iV 0, iV 3, iV 0, uV]) rfl <| iL C 0 d5_3 rfl <| iL C 3 d5_5 rfl <| yicmp_n C d5_7 (XT.ii_ge_f (by decide)) <| aN C ((.ref a1)) d5_10 rfl rfl <| iN C 0 d5_11 rfl <| ycaload C A1 (by decide) (i := 0) (by decide) (v := c0) rfl d5_12 <| iS C d5_13 (#[aV a1, iV 0, aV a2, iV 0, iV 3, iV 0, iV c0]) rfl <| iL C c0 d5_15 rfl <| iP C 255 d5_17 rfl <| cY C d5_20 (XT.ii_le_t k0.2.1) 26 (by decide) <| aN C ((.ref a2)) d5_26 rfl rfl <| iN C 0 d5_27 rfl <| iL C c0 d5_28 rfl <| yi2b C d5_30 <| ybastoreB C A2 (by decide) (i := 0) (by decide) (show 0 < 3 by decide) (w := (.int (bY c0))) (congrArg Value.int (own_narb _)) g2 d5_31 ?_
  intro h_1 K_2 A_3
  have f_4 : Ary Z h_1 a2 .byte [(.int (bY c0)), (.int 0), (.int 0)] := A_3
  refine nC C 0 1 d5_32 rfl rfl (#[aV a1, iV 1, aV a2, iV 0, iV 3, iV 0, iV c0]) rfl <| nC C 0 1 d5_35 rfl rfl (#[aV a1, iV 1, aV a2, iV 1, iV 3, iV 0, iV c0]) rfl <| nC C 0 1 d5_38 rfl rfl (#[aV a1, iV 1, aV a2, iV 1, iV 3, iV 1, iV c0]) rfl <| gT C d5_41 3 (by decide) <| iL C 1 d5_3 rfl <| iL C 3 d5_5 rfl <| yicmp_n C d5_7 (XT.ii_ge_f (by decide)) <| aN C ((.ref a1)) d5_10 rfl rfl <| iN C 1 d5_11 rfl ?_
  have f_5 := (A1.keep K_2 (ninS n12 nin0))
  refine ycaload C f_5 (by decide) (i := 1) (by decide) (v := c1) rfl d5_12 <| iS C d5_13 (#[aV a1, iV 1, aV a2, iV 1, iV 3, iV 1, iV c1]) rfl <| iL C c1 d5_15 rfl <| iP C 255 d5_17 rfl <| cY C d5_20 (XT.ii_le_t k1.2.1) 26 (by decide) <| aN C ((.ref a2)) d5_26 rfl rfl <| iN C 1 d5_27 rfl <| iL C c1 d5_28 rfl <| yi2b C d5_30 <| ybastoreB C f_4 (by decide) (i := 1) (by decide) (show 1 < 3 by decide) (w := (.int (bY c1))) (congrArg Value.int (own_narb _)) g2 d5_31 ?_
  intro h_6 K_7 A_8
  have f_9 : Ary Z h_6 a2 .byte [(.int (bY c0)), (.int (bY c1)), (.int 0)] := A_8
  refine nC C 1 2 d5_32 rfl rfl (#[aV a1, iV 2, aV a2, iV 1, iV 3, iV 1, iV c1]) rfl <| nC C 1 2 d5_35 rfl rfl (#[aV a1, iV 2, aV a2, iV 2, iV 3, iV 1, iV c1]) rfl <| nC C 1 2 d5_38 rfl rfl (#[aV a1, iV 2, aV a2, iV 2, iV 3, iV 2, iV c1]) rfl <| gT C d5_41 3 (by decide) <| iL C 2 d5_3 rfl <| iL C 3 d5_5 rfl <| yicmp_n C d5_7 (XT.ii_ge_f (by decide)) <| aN C ((.ref a1)) d5_10 rfl rfl <| iN C 2 d5_11 rfl ?_
  have f_10 := (f_5.keep K_7 (ninS n12 nin0))
  refine ycaload C f_10 (by decide) (i := 2) (by decide) (v := c2) rfl d5_12 <| iS C d5_13 (#[aV a1, iV 2, aV a2, iV 2, iV 3, iV 2, iV c2]) rfl <| iL C c2 d5_15 rfl <| iP C 255 d5_17 rfl <| cY C d5_20 (XT.ii_le_t k2.2.1) 26 (by decide) <| aN C ((.ref a2)) d5_26 rfl rfl <| iN C 2 d5_27 rfl <| iL C c2 d5_28 rfl <| yi2b C d5_30 <| ybastoreB C f_9 (by decide) (i := 2) (by decide) (show 2 < 3 by decide) (w := (.int (bY c2))) (congrArg Value.int (own_narb _)) g2 d5_31 ?_
  intro h_11 K_12 A_13
  have f_14 : Ary Z h_11 a2 .byte [(.int (bY c0)), (.int (bY c1)), (.int (bY c2))] := A_13
  refine nC C 2 3 d5_32 rfl rfl (#[aV a1, iV 3, aV a2, iV 2, iV 3, iV 2, iV c2]) rfl <| nC C 2 3 d5_35 rfl rfl (#[aV a1, iV 3, aV a2, iV 3, iV 3, iV 2, iV c2]) rfl <| nC C 2 3 d5_38 rfl rfl (#[aV a1, iV 3, aV a2, iV 3, iV 3, iV 3, iV c2]) rfl <| gT C d5_41 3 (by decide) <| iL C 3 d5_3 rfl <| iL C 3 d5_5 rfl <| cY C d5_7 (XT.ii_ge_t (by decide)) 44 (by decide) <| iL C 3 d5_44 rfl ?_
  refine g_ret C (v := (.int 3)) (ty := .int) rfl rfl (Or.inl ⟨rfl, Or.inl rfl, _, rfl⟩) d5_46 (by decide) (by decide) ?_
  exact ⟨rfl, ((((Keep.refl h0 [a2]).trans K_2 (allS (Or.inl (List.mem_of_getElem? (i := 0) rfl)) all0)).trans K_7 (allS (Or.inl (List.mem_of_getElem? (i := 0) rfl)) all0)).trans K_12 (allS (Or.inl (List.mem_of_getElem? (i := 0) rfl)) all0)), f_14⟩
theorem rm_comp2_3 (hw : HW a0 Z) (a1 : Addr) (c0 c1 c2 : Int32) (h0 : Heap) (Z0 : n0 ≤ h0.size) (A1 : Ary Z h0 a1 .char [.int c0, .int c1, .int c2]) (k0 : Ch c0) (k1 : Ch c1) (k2 : Ch c2) :
    Met1 l Z ⟨"java/lang/StringUTF16", "compress", "([CII)[B"⟩ jdk_52_method_16_code 6 (some (.array .byte)) ⟨1, 1, 3, 18⟩ n0 #[(.ref a1), (.int 0), (.int 3)] h0 (fun v h => ∃ b : Addr, v = some (.ref b) ∧ h0.size ≤ b ∧ Keep h0 h [] ∧ Ary Z h b .byte [.int (bY c0), .int (bY c1), .int (bY c2)]) := by
  refine met_of (plainFor_of_name pn_4) (L0 := #[.val (.ref a1), .val (.int 0), .val (.int 3), .unset, .unset, .unset]) (by first | (simp [argsToLocals, Value.category]; done) | rfl) ?_
  intro B C
  change Ctx B l _ _ "java/lang/StringUTF16" "compress" _ _ Z at C
  refine iN C 3 d4_0 rfl <| ynewarray C (oW hw 20 rfl) (ty := .byte) rfl (by decide) (cap := 3) (by decide) (by decide) (by decide) (by decide) d4_1 ?_
  intro h_1 a_2 g_3 E_4 A_5
  have ne_6 : a1 ≠ a_2 := ne_new A1.lt g_3
  have ge_a_2 : n0 ≤ a_2 := lT Z0 (lE g_3.symm)
  have gs_a_2 : h0.size ≤ a_2 := lT (Nat.le_refl h0.size) (lE g_3.symm)
  have f_7 : Ary Z h_1 a_2 .byte [(.int 0), (.int 0), (.int 0)] := A_5
  show Go _ _ _ _ 1 3 3 _ [(.ref a_2)]
  refine aT C d4_3 (#[aV a1, iV 0, iV 3, aV a_2, uV, uV]) rfl rfl <| aN C ((.ref a1)) d4_4 rfl rfl <| iN C 0 d4_5 rfl <| aN C ((.ref a_2)) d4_6 rfl rfl <| iC C 0 d4_7 rfl <| iN C 3 d4_8 rfl ?_
  have f_8 := (A1.ext E_4)
  have f_9 := (lT Z0 E_4.1)
  refine cS C hw 21 22 18 23 rfl rfl rfl rfl (rm_comp1_3 hw a1 a_2 c0 c1 c2 h_1 f_9 f_8 f_7 ge_a_2 ne_6 k0 k1 k2) [] [(.ref a1), (.int 0), (.ref a_2), (.int 0), (.int 3)] pd_13 0 d4_9 ⟨rfl, rfl, rfl, rfl, rfl⟩ (by decide) ?_
  intro v_12 h_10 q_11
  obtain ⟨rfl, K_14, f_15⟩ := q_11
  show Go _ _ _ _ 1 3 12 _ [(.int 3)]
  refine iS C d4_12 (#[aV a1, iV 0, iV 3, aV a_2, iV 3, uV]) rfl <| iL C 3 d4_14 rfl <| iN C 3 d4_16 rfl <| cY C d4_17 (XT.ii_eq_t (by decide)) 57 (by decide) <| aN C ((.ref a_2)) d4_57 rfl rfl ?_
  refine g_ret C (v := (.ref a_2)) (ty := (.array .byte)) rfl rfl (Or.inr (Or.inr (Or.inr (Or.inr ⟨rfl, rfl, rfl⟩)))) d4_58 (by decide) (by decide) ?_
  exact ⟨a_2, rfl, gs_a_2, (((Keep.refl h0 []).ext E_4).trans K_14 (allS (Or.inr gs_a_2) all0)), f_15⟩
theorem rm_coderF_3 (hw : HW a0 Z) (a1 : Addr) (x0 x1 x2 : Int32) (h0 : Heap) (Z0 : n0 ≤ h0.size) (A1 : Ary Z h0 a1 .byte [.int x0, .int x1, .int x2]) :
    Met1 l Z ⟨"java/lang/StringUTF16", "coderFromArrayLen", "([BI)B"⟩ jdk_52_method_15_code 2 (some .byte) ⟨0, 0, 0, 0⟩ n0 #[(.ref a1), (.int 3)] h0 (fun v h => v = some (.int 0) ∧ h0 = h) := by
  refine met_of (plainFor_of_name pn_4) (L0 := #[.val (.ref a1), .val (.int 3)]) (by first | (simp [argsToLocals, Value.category]; done) | rfl) ?_
  intro B C
  change Ctx B l _ _ "java/lang/StringUTF16" "coderFromArrayLen" _ _ Z at C
  refine iN C 3 d6_0 rfl <| aN C ((.ref a1)) d6_1 rfl rfl <| yarraylength C A1 (z := 3) rfl d6_2 <| yisub C d6_3 <| eS [(.int 0)] rfl <| iB C 31 d6_4 rfl <| yiushr C d6_6 <| eS [(.int 0)] rfl <| yi2b C d6_7 <| eS [(.int 0)] rfl ?_
  refine g_ret C (v := (.int 0)) (ty := .byte) rfl rfl (Or.inl ⟨rfl, Or.inr (Or.inr (Or.inl rfl)), _, rfl⟩) d6_8 (by decide) (by decide) ?_
  exact ⟨rfl, rfl⟩
theorem rm_init4_3 (hw : HW a0 Z) (a1 a2 : Addr) (c0 c1 c2 : Int32) (h0 : Heap) (Z0 : n0 ≤ h0.size) (cm : Um Z) (O : Old Z n0 h0) (E0 : Exa Z h0 a1 "java/lang/String") (F0 : Fld Z h0 a1 "java/lang/String" "value" "[B" .null) (F1 : Fld Z h0 a1 "java/lang/String" "coder" "B" (.int 0)) (g1 : n0 ≤ a1) (A2 : Ary Z h0 a2 .char [.int c0, .int c1, .int c2]) (n12 : a1 ≠ a2) (k0 : Ch c0) (k1 : Ch c1) (k2 : Ch c2) :
    Met1 l Z ⟨"java/lang/String", "<init>", "([CIILjava/lang/Void;)V"⟩ jdk_42_method_149_code 6 none ⟨2, 1, 3, 35⟩ n0 #[(.ref a1), (.ref a2), (.int 0), (.int 3), .null] h0 (fun v h => v = none ∧ Keep h0 h [a1] ∧ ∃ b : Addr, h0.size ≤ b ∧ Fld Z h a1 "java/lang/String" "value" "[B" (.ref b) ∧ Fld Z h a1 "java/lang/String" "coder" "B" (.int 0) ∧ Ary Z h b .byte [.int (bY c0), .int (bY c1), .int (bY c2)]) := by
  refine met_of (plainFor_of_name pn_5) (L0 := #[.val (.ref a1), .val (.ref a2), .val (.int 0), .val (.int 3), .val .null, .unset]) (by first | (simp [argsToLocals, Value.category]; done) | rfl) ?_
  intro B C
  change Ctx B l _ _ "java/lang/String" "<init>" _ _ Z at C
  have cm' := cm
  obtain ⟨⟨cz, Scz, hcz⟩, Sas, Shi, Slo, Sfm⟩ := cm'
  refine aN C ((.ref a1)) d2_0 rfl rfl <| yinitObj C (oW hw 12 rfl) (oW hw 13 rfl) (oW hw 14 rfl) rfl (by decide) (W := 0) (lE rfl) (by decide) d2_1 <| iN C 3 d2_4 rfl <| fY C d2_5 (XT.i0_ne_t (by decide)) 27 (by decide) <| ygetstatic C (host := "") (v := (.int cz)) (Or.inl (oW hw 15 rfl)) Via.refl (Scz.ext O.2) d2_27 <| yif_n C d2_30 (XT.i0_eq_f hcz) <| aN C ((.ref a2)) d2_33 rfl rfl <| iN C 0 d2_34 rfl <| iN C 3 d2_35 rfl <| cS C hw 16 17 18 19 rfl rfl rfl rfl (rm_comp2_3 hw a2 c0 c1 c2 h0 Z0 A2 k0 k1 k2) [] [(.ref a2), (.int 0), (.int 3)] pd_14 0 d2_36 ⟨rfl, rfl, rfl, rfl, rfl⟩ (by decide) ?_
  intro v_3 h_1 q_2
  obtain ⟨b_5, rfl, le_6, K_7, f_8⟩ := q_2
  have ne_9 : a1 ≠ b_5 := ne_ge E0.lt le_6
  have ne_10 : a2 ≠ b_5 := ne_ge A2.lt le_6
  have ge_b_5 : n0 ≤ b_5 := lT Z0 le_6
  have gs_b_5 : h0.size ≤ b_5 := lT (Nat.le_refl h0.size) le_6
  show Go _ _ _ _ 1 3 39 _ [(.ref b_5)]
  refine aS C d2_39 (#[aV a1, aV a2, iV 0, iV 3, .val .null, aV b_5]) rfl rfl <| aN C ((.ref a1)) d2_41 rfl rfl <| aL C ((.ref b_5)) d2_42 rfl rfl <| iN C 3 d2_44 rfl ?_
  have f_11 := (lT Z0 K_7.1)
  refine cS C hw 24 25 18 26 rfl rfl rfl rfl (rm_coderF_3 hw b_5 (bY c0) (bY c1) (bY c2) h_1 f_11 f_8) [(.ref a1)] [(.ref b_5), (.int 3)] pd_6 1 d2_45 ⟨rfl, rfl, rfl, rfl, rfl⟩ (by decide) ?_
  intro v_14 h_12 q_13
  obtain ⟨rfl, rfl⟩ := q_13
  show Go _ _ _ _ 1 3 48 _ [(.int 0), (.ref a1)]
  have f_16 := (F1.keep K_7 nin0)
  have f_17 := (E0.keep K_7)
  refine yputfield C (host := "") (v := (.int 0)) (Or.inl (oW hw 27 rfl)) Via.refl f_16 f_17 (Or.inr ⟨(oW hw 28 rfl), rfl, rfl⟩) (oW hw 3 rfl) (ty := .byte) (by decide) rfl rfl g1 d2_48 ?_
  intro h_18 W_19
  have f_20 := f_16.same W_19
  refine aN C ((.ref a1)) d2_51 rfl rfl <| aL C ((.ref b_5)) d2_52 rfl rfl ?_
  have f_21 := ((F0.keep K_7 nin0).other W_19 (Or.inr (slot_ne (Or.inr (oW hw 30 rfl)) (Or.inr (oW hw 28 rfl)) (by decide) (t := (.array .byte)) (t' := .byte) (by decide) (by decide))))
  have f_22 := (f_17.wr W_19)
  refine yputfield C (host := "") (v := (.ref b_5)) (Or.inl (oW hw 29 rfl)) Via.refl f_21 f_22 (Or.inr ⟨(oW hw 30 rfl), rfl, rfl⟩) (oW hw 3 rfl) (ty := (.array .byte)) (by decide) rfl rfl g1 d2_54 ?_
  intro h_23 W_24
  have f_25 := f_21.same W_24
  refine g_return C rfl d2_57 (by decide) (by decide) ?_
  have f_26 := (f_20.other W_24 (Or.inr (slot_ne (Or.inr (oW hw 28 rfl)) (Or.inr (oW hw 30 rfl)) (by decide) (t := .byte) (t' := (.array .byte)) (by decide) (by decide))))
  have f_27 := ((f_8.keep (Keep.of_wr W_19) (nin1 (Ne.symm ne_9))).keep (Keep.of_wr W_24) (nin1 (Ne.symm ne_9)))
  exact ⟨rfl, ((((Keep.refl h0 [a1]).trans K_7 all0).wr W_19 (Or.inl (List.mem_of_getElem? (i := 0) rfl))).wr W_24 (Or.inl (List.mem_of_getElem? (i := 0) rfl))), b_5, gs_b_5, f_25, f_26, f_27⟩
theorem rm_init1_3 (hw : HW a0 Z) (a1 a2 : Addr) (c0 c1 c2 : Int32) (h0 : Heap) (Z0 : n0 ≤ h0.size) (cm : Um Z) (O : Old Z n0 h0) (E0 : Exa Z h0 a1 "java/lang/String") (F0 : Fld Z h0 a1 "java/lang/String" "value" "[B" .null) (F1 : Fld Z h0 a1 "java/lang/String" "coder" "B" (.int 0)) (g1 : n0 ≤ a1) (A2 : Ary Z h0 a2 .char [.int c0, .int c1, .int c2]) (n12 : a1 ≠ a2) (k0 : Ch c0) (k1 : Ch c1) (k2 : Ch c2) :
    Met1 l Z ⟨"java/lang/String", "<init>", "([C)V"⟩ jdk_42_method_3_code 2 none ⟨3, 1, 3, 52⟩ n0 #[(.ref a1), (.ref a2)] h0 (fun v h => v = none ∧ Keep h0 h [a1] ∧ ∃ b : Addr, h0.size ≤ b ∧ Fld Z h a1 "java/lang/String" "value" "[B" (.ref b) ∧ Fld Z h a1 "java/lang/String" "coder" "B" (.int 0) ∧ Ary Z h b .byte [.int (bY c0), .int (bY c1), .int (bY c2)]) := by
  refine met_of (plainFor_of_name pn_5) (L0 := #[.val (.ref a1), .val (.ref a2)]) (by first | (simp [argsToLocals, Value.category]; done) | rfl) ?_
  intro B C
  change Ctx B l _ _ "java/lang/String" "<init>" _ _ Z at C
  have cm' := cm
  obtain ⟨⟨cz, Scz, hcz⟩, Sas, Shi, Slo, Sfm⟩ := cm'
  refine aN C ((.ref a1)) d1_0 rfl rfl <| aN C ((.ref a2)) d1_1 rfl rfl <| iC C 0 d1_2 rfl <| aN C ((.ref a2)) d1_3 rfl rfl <| yarraylength C A2 (z := 3) rfl d1_4 <| yaconst_null C d1_5 <| cP C hw 8 9 4 11 rfl rfl rfl rfl rfl (rm_init4_3 hw a1 a2 c0 c1 c2 h0 Z0 cm O E0 F0 F1 g1 A2 n12 k0 k1 k2) [] [(.ref a2), (.int 0), (.int 3), .null] pd_24 0 d1_6 ⟨rfl, rfl, rfl, rfl, rfl⟩ (by decide) ?_
  intro v_3 h_1 q_2
  obtain ⟨rfl, K_5, b_6, le_7, f_8, f_9, f_10⟩ := q_2
  have ne_11 : a1 ≠ b_6 := ne_ge E0.lt le_7
  have ne_12 : a2 ≠ b_6 := ne_ge A2.lt le_7
  have ge_b_6 : n0 ≤ b_6 := lT Z0 le_7
  have gs_b_6 : h0.size ≤ b_6 := lT (Nat.le_refl h0.size) le_7
  show Go _ _ _ _ 1 3 9 _ []
  refine g_return C rfl d1_9 (by decide) (by decide) ?_
  exact ⟨rfl, ((Keep.refl h0 [a1]).trans K_5 (allS (Or.inl (List.mem_of_getElem? (i := 0) rfl)) all0)), b_6, gs_b_6, f_8, f_9, f_10⟩
theorem rm_nbl_3 (hw : HW a0 Z)  (h0 : Heap) (Z0 : n0 ≤ h0.size)  :
    Met1 l Z ⟨"java/lang/StringUTF16", "newBytesLength", "(I)I"⟩ jdk_52_method_3_code 1 (some .int) ⟨0, 0, 0, 0⟩ n0 #[(.int 3)] h0 (fun v h => v = some (.int 6) ∧ h0 = h) := by
  refine met_of (plainFor_of_name pn_4) (L0 := #[.val (.int 3)]) (by first | (simp [argsToLocals, Value.category]; done) | rfl) ?_
  intro B C
  change Ctx B l _ _ "java/lang/StringUTF16" "newBytesLength" _ _ Z at C
  refine iN C 3 d18_0 rfl <| fY C d18_1 (XT.i0_ge_t (by decide)) 12 (by decide) <| iN C 3 d18_12 rfl <| yldc C (v := 1073741823) (oW hw 80 rfl) d18_13 <| cY C d18_15 (XT.ii_lt_t (by decide)) 55 (by decide) <| iN C 3 d18_55 rfl <| iC C 1 d18_56 rfl <| yishl C d18_57 <| eS [(.int 6)] rfl ?_
  refine g_ret C (v := (.int 6)) (ty := .int) rfl rfl (Or.inl ⟨rfl, Or.inl rfl, _, rfl⟩) d18_58 (by decide) (by decide) ?_
  exact ⟨rfl, rfl⟩
theorem rm_nbf_3 (hw : HW a0 Z)  (h0 : Heap) (Z0 : n0 ≤ h0.size)  :
    Met1 l Z ⟨"java/lang/StringUTF16", "newBytesFor", "(I)[B"⟩ jdk_52_method_2_code 1 (some (.array .byte)) ⟨1, 1, 6, 12⟩ n0 #[(.int 3)] h0 (fun v h => ∃ b : Addr, v = some (.ref b) ∧ h0.size ≤ b ∧ Keep h0 h [] ∧ Ary Z h b .byte [.int 0, .int 0, .int 0, .int 0, .int 0, .int 0]) := by
  refine met_of (plainFor_of_name pn_4) (L0 := #[.val (.int 3)]) (by first | (simp [argsToLocals, Value.category]; done) | rfl) ?_
  intro B C
  change Ctx B l _ _ "java/lang/StringUTF16" "newBytesFor" _ _ Z at C
  refine iN C 3 d17_0 rfl <| cS C hw 77 78 18 79 rfl rfl rfl rfl (rm_nbl_3 hw  h0 Z0 ) [] [(.int 3)] pd_7 0 d17_1 ⟨rfl, rfl, rfl, rfl, rfl⟩ (by decide) ?_
  intro v_3 h_1 q_2
  obtain ⟨rfl, rfl⟩ := q_2
  show Go _ _ _ _ 0 0 4 _ [(.int 6)]
  refine ynewarray C (oW hw 20 rfl) (ty := .byte) rfl (by decide) (cap := 6) (by decide) (by decide) (by decide) (by decide) d17_4 ?_
  intro h_5 a_6 g_7 E_8 A_9
  have ge_a_6 : n0 ≤ a_6 := lT Z0 (lE g_7.symm)
  have gs_a_6 : h0.size ≤ a_6 := lT (Nat.le_refl h0.size) (lE g_7.symm)
  have f_10 : Ary Z h_5 a_6 .byte [(.int 0), (.int 0), (.int 0), (.int 0), (.int 0), (.int 0)] := A_9
  show Go _ _ _ _ 1 6 6 _ [(.ref a_6)]
  refine g_ret C (v := (.ref a_6)) (ty := (.array .byte)) rfl rfl (Or.inr (Or.inr (Or.inr (Or.inr ⟨rfl, rfl, rfl⟩)))) d17_6 (by decide) (by decide) ?_
  exact ⟨a_6, rfl, gs_a_6, ((Keep.refl h0 []).ext E_8), f_10⟩
theorem rm_put_3_0 (hw : HW a0 Z) (a1 : Addr) (x0 x1 x2 x3 x4 x5 c : Int32) (h0 : Heap) (Z0 : n0 ≤ h0.size) (cm : Um Z) (O : Old Z n0 h0) (A1 : Ary Z h0 a1 .byte [.int x0, .int x1, .int x2, .int x3, .int x4, .int x5]) (g1 : n0 ≤ a1) :
    Met1 l Z ⟨"java/lang/StringUTF16", "putChar", "([BII)V"⟩ jdk_52_method_4_code 3 none ⟨0, 0, 0, 0⟩ n0 #[(.ref a1), (.int 0), (.int c)] h0 (fun v h => v = none ∧ Keep h0 h [a1] ∧ Ary Z h a1 .byte [.int (bY (c >>> (0 &&& 31))), .int (bY (c >>> (8 &&& 31))), .int x2, .int x3, .int x4, .int x5]) := by
  refine met_of (plainFor_of_name pn_4) (L0 := #[.val (.ref a1), .val (.int 0), .val (.int c)]) (by first | (simp [argsToLocals, Value.category]; done) | rfl) ?_
  intro B C
  change Ctx B l _ _ "java/lang/StringUTF16" "putChar" _ _ Z at C
  have cm' := cm
  obtain ⟨⟨cz, Scz, hcz⟩, Sas, Shi, Slo, Sfm⟩ := cm'
  refine ygetstatic C (host := "") (v := (.int 1)) (Or.inl (oW hw 84 rfl)) Via.refl (Sas.ext O.2) d19_0 <| fY C d19_3 (XT.i0_ne_t (by decide)) 28 (by decide) <| iN C 0 d19_28 rfl <| iC C 1 d19_29 rfl <| yishl C d19_30 <| eS [(.int 0)] rfl <| iT C d19_31 (#[aV a1, iV 0, iV c]) rfl <| aN C ((.ref a1)) d19_32 rfl rfl <| iN C 0 d19_33 rfl <| nC C 0 1 d19_34 rfl rfl (#[aV a1, iV 1, iV c]) rfl <| iN C c d19_37 rfl <| ygetstatic C (host := "") (v := (.int 0)) (Or.inl (oW hw 85 rfl)) Via.refl (Shi.ext O.2) d19_38 <| yishr C d19_41 <| yi2b C d19_42 <| ybastoreB C A1 (by decide) (i := 0) (by decide) (show 0 < 6 by decide) (w := (.int (bY (c >>> (0 &&& 31))))) (congrArg Value.int (own_narb _)) g1 d19_43 ?_
  intro h_1 K_2 A_3
  have f_4 : Ary Z h_1 a1 .byte [(.int (bY (c >>> (0 &&& 31)))), (.int x1), (.int x2), (.int x3), (.int x4), (.int x5)] := A_3
  refine aN C ((.ref a1)) d19_44 rfl rfl <| iN C 1 d19_45 rfl <| iN C c d19_46 rfl ?_
  have f_5 := (O.keep K_2 (allS g1 all0))
  refine ygetstatic C (host := "") (v := (.int 8)) (Or.inl (oW hw 86 rfl)) Via.refl (Slo.ext f_5.2) d19_47 <| yishr C d19_50 <| yi2b C d19_51 <| ybastoreB C f_4 (by decide) (i := 1) (by decide) (show 1 < 6 by decide) (w := (.int (bY (c >>> (8 &&& 31))))) (congrArg Value.int (own_narb _)) g1 d19_52 ?_
  intro h_6 K_7 A_8
  have f_9 : Ary Z h_6 a1 .byte [(.int (bY (c >>> (0 &&& 31)))), (.int (bY (c >>> (8 &&& 31)))), (.int x2), (.int x3), (.int x4), (.int x5)] := A_8
  refine g_return C rfl d19_53 (by decide) (by decide) ?_
  exact ⟨rfl, (((Keep.refl h0 [a1]).trans K_2 (allS (Or.inl (List.mem_of_getElem? (i := 0) rfl)) all0)).trans K_7 (allS (Or.inl (List.mem_of_getElem? (i := 0) rfl)) all0)), f_9⟩
theorem rm_put_3_1 (hw : HW a0 Z) (a1 : Addr) (x0 x1 x2 x3 x4 x5 c : Int32) (h0 : Heap) (Z0 : n0 ≤ h0.size) (cm : Um Z) (O : Old Z n0 h0) (A1 : Ary Z h0 a1 .byte [.int x0, .int x1, .int x2, .int x3, .int x4, .int x5]) (g1 : n0 ≤ a1) :
    Met1 l Z ⟨"java/lang/StringUTF16", "putChar", "([BII)V"⟩ jdk_52_method_4_code 3 none ⟨0, 0, 0, 0⟩ n0 #[(.ref a1), (.int 1), (.int c)] h0 (fun v h => v = none ∧ Keep h0 h [a1] ∧ Ary Z h a1 .byte [.int x0, .int x1, .int (bY (c >>> (0 &&& 31))), .int (bY (c >>> (8 &&& 31))), .int x4, .int x5]) := by
  refine met_of (plainFor_of_name pn_4) (L0 := #[.val (.ref a1), .val (.int 1), .val (.int c)]) (by first | (simp [argsToLocals, Value.category]; done) | rfl) ?_
  intro B C
  change Ctx B l _ _ "java/lang/StringUTF16" "putChar" _ _ Z at C
  have cm' := cm
  obtain ⟨⟨cz, Scz, hcz⟩, Sas, Shi, Slo, Sfm⟩ := cm'
  refine ygetstatic C (host := "") (v := (.int 1)) (Or.inl (oW hw 84 rfl)) Via.refl (Sas.ext O.2) d19_0 <| fY C d19_3 (XT.i0_ne_t (by decide)) 28 (by decide) <| iN C 1 d19_28 rfl <| iC C 1 d19_29 rfl <| yishl C d19_30 <| eS [(.int 2)] rfl <| iT C d19_31 (#[aV a1, iV 2, iV c]) rfl <| aN C ((.ref a1)) d19_32 rfl rfl <| iN C 2 d19_33 rfl <| nC C 2 3 d19_34 rfl rfl (#[aV a1, iV 3, iV c]) rfl <| iN C c d19_37 rfl <| ygetstatic C (host := "") (v := (.int 0)) (Or.inl (oW hw 85 rfl)) Via.refl (Shi.ext O.2) d19_38 <| yishr C d19_41 <| yi2b C d19_42 <| ybastoreB C A1 (by decide) (i := 2) (by decide) (show 2 < 6 by decide) (w := (.int (bY (c >>> (0 &&& 31))))) (congrArg Value.int (own_narb _)) g1 d19_43 ?_
  intro h_1 K_2 A_3
  have f_4 : Ary Z h_1 a1 .byte [(.int x0), (.int x1), (.int (bY (c >>> (0 &&& 31)))), (.int x3), (.int x4), (.int x5)] := A_3
  refine aN C ((.ref a1)) d19_44 rfl rfl <| iN C 3 d19_45 rfl <| iN C c d19_46 rfl ?_
  have f_5 := (O.keep K_2 (allS g1 all0))
  refine ygetstatic C (host := "") (v := (.int 8)) (Or.inl (oW hw 86 rfl)) Via.refl (Slo.ext f_5.2) d19_47 <| yishr C d19_50 <| yi2b C d19_51 <| ybastoreB C f_4 (by decide) (i := 3) (by decide) (show 3 < 6 by decide) (w := (.int (bY (c >>> (8 &&& 31))))) (congrArg Value.int (own_narb _)) g1 d19_52 ?_
  intro h_6 K_7 A_8
  have f_9 : Ary Z h_6 a1 .byte [(.int x0), (.int x1), (.int (bY (c >>> (0 &&& 31)))), (.int (bY (c >>> (8 &&& 31)))), (.int x4), (.int x5)] := A_8
  refine g_return C rfl d19_53 (by decide) (by decide) ?_
  exact ⟨rfl, (((Keep.refl h0 [a1]).trans K_2 (allS (Or.inl (List.mem_of_getElem? (i := 0) rfl)) all0)).trans K_7 (allS (Or.inl (List.mem_of_getElem? (i := 0) rfl)) all0)), f_9⟩
theorem rm_put_3_2 (hw : HW a0 Z) (a1 : Addr) (x0 x1 x2 x3 x4 x5 c : Int32) (h0 : Heap) (Z0 : n0 ≤ h0.size) (cm : Um Z) (O : Old Z n0 h0) (A1 : Ary Z h0 a1 .byte [.int x0, .int x1, .int x2, .int x3, .int x4, .int x5]) (g1 : n0 ≤ a1) :
    Met1 l Z ⟨"java/lang/StringUTF16", "putChar", "([BII)V"⟩ jdk_52_method_4_code 3 none ⟨0, 0, 0, 0⟩ n0 #[(.ref a1), (.int 2), (.int c)] h0 (fun v h => v = none ∧ Keep h0 h [a1] ∧ Ary Z h a1 .byte [.int x0, .int x1, .int x2, .int x3, .int (bY (c >>> (0 &&& 31))), .int (bY (c >>> (8 &&& 31)))]) := by
  refine met_of (plainFor_of_name pn_4) (L0 := #[.val (.ref a1), .val (.int 2), .val (.int c)]) (by first | (simp [argsToLocals, Value.category]; done) | rfl) ?_
  intro B C
  change Ctx B l _ _ "java/lang/StringUTF16" "putChar" _ _ Z at C
  have cm' := cm
  obtain ⟨⟨cz, Scz, hcz⟩, Sas, Shi, Slo, Sfm⟩ := cm'
  refine ygetstatic C (host := "") (v := (.int 1)) (Or.inl (oW hw 84 rfl)) Via.refl (Sas.ext O.2) d19_0 <| fY C d19_3 (XT.i0_ne_t (by decide)) 28 (by decide) <| iN C 2 d19_28 rfl <| iC C 1 d19_29 rfl <| yishl C d19_30 <| eS [(.int 4)] rfl <| iT C d19_31 (#[aV a1, iV 4, iV c]) rfl <| aN C ((.ref a1)) d19_32 rfl rfl <| iN C 4 d19_33 rfl <| nC C 4 5 d19_34 rfl rfl (#[aV a1, iV 5, iV c]) rfl <| iN C c d19_37 rfl <| ygetstatic C (host := "") (v := (.int 0)) (Or.inl (oW hw 85 rfl)) Via.refl (Shi.ext O.2) d19_38 <| yishr C d19_41 <| yi2b C d19_42 <| ybastoreB C A1 (by decide) (i := 4) (by decide) (show 4 < 6 by decide) (w := (.int (bY (c >>> (0 &&& 31))))) (congrArg Value.int (own_narb _)) g1 d19_43 ?_
  intro h_1 K_2 A_3
  have f_4 : Ary Z h_1 a1 .byte [(.int x0), (.int x1), (.int x2), (.int x3), (.int (bY (c >>> (0 &&& 31)))), (.int x5)] := A_3
  refine aN C ((.ref a1)) d19_44 rfl rfl <| iN C 5 d19_45 rfl <| iN C c d19_46 rfl ?_
  have f_5 := (O.keep K_2 (allS g1 all0))
  refine ygetstatic C (host := "") (v := (.int 8)) (Or.inl (oW hw 86 rfl)) Via.refl (Slo.ext f_5.2) d19_47 <| yishr C d19_50 <| yi2b C d19_51 <| ybastoreB C f_4 (by decide) (i := 5) (by decide) (show 5 < 6 by decide) (w := (.int (bY (c >>> (8 &&& 31))))) (congrArg Value.int (own_narb _)) g1 d19_52 ?_
  intro h_6 K_7 A_8
  have f_9 : Ary Z h_6 a1 .byte [(.int x0), (.int x1), (.int x2), (.int x3), (.int (bY (c >>> (0 &&& 31)))), (.int (bY (c >>> (8 &&& 31))))] := A_8
  refine g_return C rfl d19_53 (by decide) (by decide) ?_
  exact ⟨rfl, (((Keep.refl h0 [a1]).trans K_2 (allS (Or.inl (List.mem_of_getElem? (i := 0) rfl)) all0)).trans K_7 (allS (Or.inl (List.mem_of_getElem? (i := 0) rfl)) all0)), f_9⟩
theorem rm_toB_3 (hw : HW a0 Z) (a1 : Addr) (c0 c1 c2 : Int32) (h0 : Heap) (Z0 : n0 ≤ h0.size) (cm : Um Z) (O : Old Z n0 h0) (A1 : Ary Z h0 a1 .char [.int c0, .int c1, .int c2]) :
    Met1 l Z ⟨"java/lang/StringUTF16", "toBytes", "([CII)[B"⟩ jdk_52_method_14_code 5 (some (.array .byte)) ⟨2, 1, 6, 24⟩ n0 #[(.ref a1), (.int 0), (.int 3)] h0 (fun v h => ∃ b : Addr, v = some (.ref b) ∧ h0.size ≤ b ∧ Keep h0 h [] ∧ Ary Z h b .byte [.int (bY (c0 >>> (0 &&& 31))), .int (bY (c0 >>> (8 &&& 31))), .int (bY (c1 >>> (0 &&& 31))), .int (bY (c1 >>> (8 &&& 31))), .int (bY (c2 >>> (0 &&& 31))), .int (bY (c2 >>> (8 &&& 31)))]) := by
  refine met_of (plainFor_of_name pn_4) (L0 := #[.val (.ref a1), .val (.int 0), .val (.int 3), .unset, .unset]) (by first | (simp [argsToLocals, Value.category]; done) | rfl) ?_
  intro B C
  change Ctx B l _ _ "java/lang/StringUTF16" "toBytes" _ _ Z at C
  have cm' := cm
  obtain ⟨⟨cz, Scz, hcz⟩, Sas, Shi, Slo, Sfm⟩ := cm'
  refine iN C 3 d16_0 rfl <| cS C hw 74 75 18 76 rfl rfl rfl rfl (rm_nbf_3 hw  h0 Z0 ) [] [(.int 3)] pd_8 0 d16_1 ⟨rfl, rfl, rfl, rfl, rfl⟩ (by decide) ?_
  intro v_3 h_1 q_2
  obtain ⟨b_5, rfl, le_6, K_7, f_8⟩ := q_2
  have ne_9 : a1 ≠ b_5 := ne_ge A1.lt le_6
  have ge_b_5 : n0 ≤ b_5 := lT Z0 le_6
  have gs_b_5 : h0.size ≤ b_5 := lT (Nat.le_refl h0.size) le_6
  show Go _ _ _ _ 1 6 4 _ [(.ref b_5)]
  refine aT C d16_4 (#[aV a1, iV 0, iV 3, aV b_5, uV]) rfl rfl <| iC C 0 d16_5 rfl <| iS C d16_6 (#[aV a1, iV 0, iV 3, aV b_5, iV 0]) rfl <| iL C 0 d16_8 rfl <| iN C 3 d16_10 rfl <| yicmp_n C d16_11 (XT.ii_ge_f (by decide)) <| aN C ((.ref b_5)) d16_14 rfl rfl <| iL C 0 d16_15 rfl <| aN C ((.ref a1)) d16_17 rfl rfl <| iN C 0 d16_18 rfl ?_
  have f_10 := (A1.keep K_7 nin0)
  refine ycaload C f_10 (by decide) (i := 0) (by decide) (v := c0) rfl d16_19 ?_
  have f_11 := (O.keep K_7 all0)
  have f_12 := (lT Z0 K_7.1)
  refine cS C hw 81 82 18 83 rfl rfl rfl rfl (rm_put_3_0 hw b_5 0 0 0 0 0 0 c0 h_1 f_12 cm f_11 f_8 ge_b_5) [] [(.ref b_5), (.int 0), (.int c0)] pd_17 0 d16_20 ⟨rfl, rfl, rfl, rfl, rfl⟩ (by decide) ?_
  intro v_15 h_13 q_14
  obtain ⟨rfl, K_17, f_18⟩ := q_14
  show Go _ _ _ _ 1 6 23 _ []
  refine nC C 0 1 d16_23 rfl rfl (#[aV a1, iV 1, iV 3, aV b_5, iV 0]) rfl <| nC C 0 1 d16_26 rfl rfl (#[aV a1, iV 1, iV 3, aV b_5, iV 1]) rfl <| gT C d16_29 8 (by decide) <| iL C 1 d16_8 rfl <| iN C 3 d16_10 rfl <| yicmp_n C d16_11 (XT.ii_ge_f (by decide)) <| aN C ((.ref b_5)) d16_14 rfl rfl <| iL C 1 d16_15 rfl <| aN C ((.ref a1)) d16_17 rfl rfl <| iN C 1 d16_18 rfl ?_
  have f_19 := (f_10.keep K_17 (ninS ne_9 nin0))
  refine ycaload C f_19 (by decide) (i := 1) (by decide) (v := c1) rfl d16_19 ?_
  have f_20 := (f_11.keep K_17 (allS ge_b_5 all0))
  have f_21 := (lT f_12 K_17.1)
  refine cS C hw 81 82 18 83 rfl rfl rfl rfl (rm_put_3_1 hw b_5 (bY (c0 >>> (0 &&& 31))) (bY (c0 >>> (8 &&& 31))) 0 0 0 0 c1 h_13 f_21 cm f_20 f_18 ge_b_5) [] [(.ref b_5), (.int 1), (.int c1)] pd_17 0 d16_20 ⟨rfl, rfl, rfl, rfl, rfl⟩ (by decide) ?_
  intro v_24 h_22 q_23
  obtain ⟨rfl, K_26, f_27⟩ := q_23
  show Go _ _ _ _ 1 6 23 _ []
  refine nC C 1 2 d16_23 rfl rfl (#[aV a1, iV 2, iV 3, aV b_5, iV 1]) rfl <| nC C 1 2 d16_26 rfl rfl (#[aV a1, iV 2, iV 3, aV b_5, iV 2]) rfl <| gT C d16_29 8 (by decide) <| iL C 2 d16_8 rfl <| iN C 3 d16_10 rfl <| yicmp_n C d16_11 (XT.ii_ge_f (by decide)) <| aN C ((.ref b_5)) d16_14 rfl rfl <| iL C 2 d16_15 rfl <| aN C ((.ref a1)) d16_17 rfl rfl <| iN C 2 d16_18 rfl ?_
  have f_28 := (f_19.keep K_26 (ninS ne_9 nin0))
  refine ycaload C f_28 (by decide) (i := 2) (by decide) (v := c2) rfl d16_19 ?_
  have f_29 := (f_20.keep K_26 (allS ge_b_5 all0))
  have f_30 := (lT f_21 K_26.1)
  refine cS C hw 81 82 18 83 rfl rfl rfl rfl (rm_put_3_2 hw b_5 (bY (c0 >>> (0 &&& 31))) (bY (c0 >>> (8 &&& 31))) (bY (c1 >>> (0 &&& 31))) (bY (c1 >>> (8 &&& 31))) 0 0 c2 h_22 f_30 cm f_29 f_27 ge_b_5) [] [(.ref b_5), (.int 2), (.int c2)] pd_17 0 d16_20 ⟨rfl, rfl, rfl, rfl, rfl⟩ (by decide) ?_
  intro v_33 h_31 q_32
  obtain ⟨rfl, K_35, f_36⟩ := q_32
  show Go _ _ _ _ 1 6 23 _ []
  refine nC C 2 3 d16_23 rfl rfl (#[aV a1, iV 3, iV 3, aV b_5, iV 2]) rfl <| nC C 2 3 d16_26 rfl rfl (#[aV a1, iV 3, iV 3, aV b_5, iV 3]) rfl <| gT C d16_29 8 (by decide) <| iL C 3 d16_8 rfl <| iN C 3 d16_10 rfl <| cY C d16_11 (XT.ii_ge_t (by decide)) 32 (by decide) <| aN C ((.ref b_5)) d16_32 rfl rfl ?_
  refine g_ret C (v := (.ref b_5)) (ty := (.array .byte)) rfl rfl (Or.inr (Or.inr (Or.inr (Or.inr ⟨rfl, rfl, rfl⟩)))) d16_33 (by decide) (by decide) ?_
  exact ⟨b_5, rfl, gs_b_5, (((((Keep.refl h0 []).trans K_7 all0).trans K_17 (allS (Or.inr gs_b_5) all0)).trans K_26 (allS (Or.inr gs_b_5) all0)).trans K_35 (allS (Or.inr gs_b_5) all0)), f_36⟩
theorem rm_getC_3_1 (hw : HW a0 Z) (a1 : Addr) (x0 x1 x2 x3 x4 x5 c : Int32) (h0 : Heap) (Z0 : n0 ≤ h0.size) (cm : Um Z) (O : Old Z n0 h0) (A1 : Ary Z h0 a1 .byte [.int x0, .int x1, .int x2, .int x3, .int x4, .int x5]) (ec : (UInt32.toInt32 (UInt16.toUInt32 (UInt32.toUInt16 (Int32.toUInt32 (((x2 &&& 255) <<< (0 &&& 31)) ||| ((x3 &&& 255) <<< (8 &&& 31))))))) = c) (kc : nar .char c = c) :
    Met1 l Z ⟨"java/lang/StringUTF16", "getChar", "([BI)C"⟩ jdk_52_method_5_code 2 (some .char) ⟨0, 0, 0, 0⟩ n0 #[(.ref a1), (.int 1)] h0 (fun v h => v = some (.int c) ∧ h0 = h) := by
  refine met_of (plainFor_of_name pn_4) (L0 := #[.val (.ref a1), .val (.int 1)]) (by first | (simp [argsToLocals, Value.category]; done) | rfl) ?_
  intro B C
  change Ctx B l _ _ "java/lang/StringUTF16" "getChar" _ _ Z at C
  have cm' := cm
  obtain ⟨⟨cz, Scz, hcz⟩, Sas, Shi, Slo, Sfm⟩ := cm'
  refine ygetstatic C (host := "") (v := (.int 1)) (Or.inl (oW hw 84 rfl)) Via.refl (Sas.ext O.2) d20_0 <| fY C d20_3 (XT.i0_ne_t (by decide)) 28 (by decide) <| iN C 1 d20_28 rfl <| iC C 1 d20_29 rfl <| yishl C d20_30 <| eS [(.int 2)] rfl <| iT C d20_31 (#[aV a1, iV 2]) rfl <| aN C ((.ref a1)) d20_32 rfl rfl <| iN C 2 d20_33 rfl <| nC C 2 3 d20_34 rfl rfl (#[aV a1, iV 3]) rfl <| ybaloadB C A1 (by decide) (i := 2) (by decide) (v := x2) rfl d20_37 <| iP C 255 d20_38 rfl <| yiand C d20_41 <| ygetstatic C (host := "") (v := (.int 0)) (Or.inl (oW hw 85 rfl)) Via.refl (Shi.ext O.2) d20_42 <| yishl C d20_45 <| aN C ((.ref a1)) d20_46 rfl rfl <| iN C 3 d20_47 rfl <| ybaloadB C A1 (by decide) (i := 3) (by decide) (v := x3) rfl d20_48 <| iP C 255 d20_49 rfl <| yiand C d20_52 <| ygetstatic C (host := "") (v := (.int 8)) (Or.inl (oW hw 86 rfl)) Via.refl (Slo.ext O.2) d20_53 <| yishl C d20_56 <| yior C d20_57 <| yi2c C d20_58 ?_
  rw [ec]
  refine g_ret C (v := (.int c)) (ty := .char) rfl (own_nch kc) (Or.inl ⟨rfl, Or.inr (Or.inr (Or.inr (Or.inl rfl))), _, rfl⟩) d20_59 (by decide) (by decide) ?_
  exact ⟨rfl, rfl⟩
theorem rm_comp1B_3_1 (hw : HW a0 Z) (a1 a2 : Addr) (c0 c1 c2 : Int32) (h0 : Heap) (Z0 : n0 ≤ h0.size) (A1 : Ary Z h0 a1 .char [.int c0, .int c1, .int c2]) (A2 : Ary Z h0 a2 .byte [.int 0, .int 0, .int 0]) (g2 : n0 ≤ a2) (n12 : a1 ≠ a2) (k0 : Ch c0) (k1 : Bg c1) (k2 : Ch c2) :
    Met1 l Z ⟨"java/lang/StringUTF16", "compress", "([CI[BII)I"⟩ jdk_52_method_21_code 7 (some .int) ⟨0, 0, 0, 0⟩ n0 #[(.ref a1), (.int 0), (.ref a2), (.int 0), (.int 3)] h0 (fun v h => v = some (.int 1) ∧ Keep h0 h [a2]) := by
  refine met_of (plainFor_of_name pn_4) (L0 := #[.val (.ref a1), .val (.int 0), .val (.ref a2), .val (.int 0), .val (.int 3), .unset, .unset]) (by first | (simp [argsToLocals, Value.category]; done) | rfl) ?_
  intro B C
  change Ctx B l _ _ "java/lang/StringUTF16" "compress" _ _ Z at C
  refine iC C 0 d5_0 rfl <| iS C d5_1 (#[aV a1, iV 0, aV a2, iV 0, iV 3, iV 0, uV]) rfl <| iL C 0 d5_3 rfl <| iL C 3 d5_5 rfl <| yicmp_n C d5_7 (XT.ii_ge_f (by decide)) <| aN C ((.ref a1)) d5_10 rfl rfl <| iN C 0 d5_11 rfl <| ycaload C A1 (by decide) (i := 0) (by decide) (v := c0) rfl d5_12 <| iS C d5_13 (#[aV a1, iV 0, aV a2, iV 0, iV 3, iV 0, iV c0]) rfl <| iL C c0 d5_15 rfl <| iP C 255 d5_17 rfl <| cY C d5_20 (XT.ii_le_t k0.2.1) 26 (by decide) <| aN C ((.ref a2)) d5_26 rfl rfl <| iN C 0 d5_27 rfl <| iL C c0 d5_28 rfl <| yi2b C d5_30 <| ybastoreB C A2 (by decide) (i := 0) (by decide) (show 0 < 3 by decide) (w := (.int (bY c0))) (congrArg Value.int (own_narb _)) g2 d5_31 ?_
  intro h_1 K_2 A_3
  have f_4 : Ary Z h_1 a2 .byte [(.int (bY c0)), (.int 0), (.int 0)] := A_3
  refine nC C 0 1 d5_32 rfl rfl (#[aV a1, iV 1, aV a2, iV 0, iV 3, iV 0, iV c0]) rfl <| nC C 0 1 d5_35 rfl rfl (#[aV a1, iV 1, aV a2, iV 1, iV 3, iV 0, iV c0]) rfl <| nC C 0 1 d5_38 rfl rfl (#[aV a1, iV 1, aV a2, iV 1, iV 3, iV 1, iV c0]) rfl <| gT C d5_41 3 (by decide) <| iL C 1 d5_3 rfl <| iL C 3 d5_5 rfl <| yicmp_n C d5_7 (XT.ii_ge_f (by decide)) <| aN C ((.ref a1)) d5_10 rfl rfl <| iN C 1 d5_11 rfl ?_
  have f_5 := (A1.keep K_2 (ninS n12 nin0))
  refine ycaload C f_5 (by decide) (i := 1) (by decide) (v := c1) rfl d5_12 <| iS C d5_13 (#[aV a1, iV 1, aV a2, iV 1, iV 3, iV 1, iV c1]) rfl <| iL C c1 d5_15 rfl <| iP C 255 d5_17 rfl <| yicmp_n C d5_20 (XT.ii_le_f k1.2) <| iL C 1 d5_23 rfl ?_
  refine g_ret C (v := (.int 1)) (ty := .int) rfl rfl (Or.inl ⟨rfl, Or.inl rfl, _, rfl⟩) d5_25 (by decide) (by decide) ?_
  exact ⟨rfl, ((Keep.refl h0 [a2]).trans K_2 (allS (Or.inl (List.mem_of_getElem? (i := 0) rfl)) all0))⟩
theorem rm_comp2B_3_1 (hw : HW a0 Z) (a1 : Addr) (c0 c1 c2 : Int32) (h0 : Heap) (Z0 : n0 ≤ h0.size) (cm : Um Z) (O : Old Z n0 h0) (A1 : Ary Z h0 a1 .char [.int c0, .int c1, .int c2]) (k0 : Ch c0) (k1 : Bg c1) (k2 : Ch c2) :
    Met1 l Z ⟨"java/lang/StringUTF16", "compress", "([CII)[B"⟩ jdk_52_method_16_code 6 (some (.array .byte)) ⟨3, 2, 9, 40⟩ n0 #[(.ref a1), (.int 0), (.int 3)] h0 (fun v h => ∃ b : Addr, v = some (.ref b) ∧ h0.size ≤ b ∧ Keep h0 h [] ∧ Ary Z h b .byte [.int (bY (c0 >>> (0 &&& 31))), .int (bY (c0 >>> (8 &&& 31))), .int (bY (c1 >>> (0 &&& 31))), .int (bY (c1 >>> (8 &&& 31))), .int (bY (c2 >>> (0 &&& 31))), .int (bY (c2 >>> (8 &&& 31)))]) := by
  refine met_of (plainFor_of_name pn_4) (L0 := #[.val (.ref a1), .val (.int 0), .val (.int 3), .unset, .unset, .unset]) (by first | (simp [argsToLocals, Value.category]; done) | rfl) ?_
  intro B C
  change Ctx B l _ _ "java/lang/StringUTF16" "compress" _ _ Z at C
  have cm' := cm
  obtain ⟨⟨cz, Scz, hcz⟩, Sas, Shi, Slo, Sfm⟩ := cm'
  refine iN C 3 d4_0 rfl <| ynewarray C (oW hw 20 rfl) (ty := .byte) rfl (by decide) (cap := 3) (by decide) (by decide) (by decide) (by decide) d4_1 ?_
  intro h_1 a_2 g_3 E_4 A_5
  have ne_6 : a1 ≠ a_2 := ne_new A1.lt g_3
  have ge_a_2 : n0 ≤ a_2 := lT Z0 (lE g_3.symm)
  have gs_a_2 : h0.size ≤ a_2 := lT (Nat.le_refl h0.size) (lE g_3.symm)
  have f_7 : Ary Z h_1 a_2 .byte [(.int 0), (.int 0), (.int 0)] := A_5
  show Go _ _ _ _ 1 3 3 _ [(.ref a_2)]
  refine aT C d4_3 (#[aV a1, iV 0, iV 3, aV a_2, uV, uV]) rfl rfl <| aN C ((.ref a1)) d4_4 rfl rfl <| iN C 0 d4_5 rfl <| aN C ((.ref a_2)) d4_6 rfl rfl <| iC C 0 d4_7 rfl <| iN C 3 d4_8 rfl ?_
  have f_8 := (A1.ext E_4)
  have f_9 := (lT Z0 E_4.1)
  refine cS C hw 21 22 18 23 rfl rfl rfl rfl (rm_comp1B_3_1 hw a1 a_2 c0 c1 c2 h_1 f_9 f_8 f_7 ge_a_2 ne_6 k0 k1 k2) [] [(.ref a1), (.int 0), (.ref a_2), (.int 0), (.int 3)] pd_13 0 d4_9 ⟨rfl, rfl, rfl, rfl, rfl⟩ (by decide) ?_
  intro v_12 h_10 q_11
  obtain ⟨rfl, K_14⟩ := q_11
  show Go _ _ _ _ 1 3 12 _ [(.int 1)]
  refine iS C d4_12 (#[aV a1, iV 0, iV 3, aV a_2, iV 1, uV]) rfl <| iL C 1 d4_14 rfl <| iN C 3 d4_16 rfl <| yicmp_n C d4_17 (XT.ii_eq_f (by decide)) <| aN C ((.ref a1)) d4_20 rfl rfl <| iN C 0 d4_21 rfl <| iN C 3 d4_22 rfl ?_
  have f_15 := ((O.ext E_4).keep K_14 (allS ge_a_2 all0))
  have f_16 := (f_8.keep K_14 (ninS ne_6 nin0))
  have f_17 := (lT f_9 K_14.1)
  have f_18 := (lT (lT (Nat.le_refl h0.size) E_4.1) K_14.1)
  refine cS C hw 71 72 18 73 rfl rfl rfl rfl (rm_toB_3 hw a1 c0 c1 c2 h_10 f_17 cm f_15 f_16) [] [(.ref a1), (.int 0), (.int 3)] pd_18 0 d4_23 ⟨rfl, rfl, rfl, rfl, rfl⟩ (by decide) ?_
  intro v_21 h_19 q_20
  obtain ⟨b_23, rfl, le_24, K_25, f_26⟩ := q_20
  have ne_27 : a1 ≠ b_23 := ne_ge f_16.lt le_24
  have ge_b_23 : n0 ≤ b_23 := lT f_17 le_24
  have gs_b_23 : h0.size ≤ b_23 := lT f_18 le_24
  show Go _ _ _ _ 2 9 26 _ [(.ref b_23)]
  refine aS C d4_26 (#[aV a1, iV 0, iV 3, aV a_2, iV 1, aV b_23]) rfl rfl <| aL C ((.ref b_23)) d4_28 rfl rfl <| iL C 1 d4_30 rfl ?_
  have f_28 := (f_15.keep K_25 all0)
  have f_29 := (lT f_17 K_25.1)
  refine cS C hw 87 88 18 89 rfl rfl rfl rfl (rm_getC_3_1 hw b_23 (bY (c0 >>> (0 &&& 31))) (bY (c0 >>> (8 &&& 31))) (bY (c1 >>> (0 &&& 31))) (bY (c1 >>> (8 &&& 31))) (bY (c2 >>> (0 &&& 31))) (bY (c2 >>> (8 &&& 31))) c1 h_19 f_29 cm f_28 f_26 (own_gc k1.1) k1.1) [] [(.ref b_23), (.int 1)] pd_15 0 d4_32 ⟨rfl, rfl, rfl, rfl, rfl⟩ (by decide) ?_
  intro v_32 h_30 q_31
  obtain ⟨rfl, rfl⟩ := q_31
  show Go _ _ _ _ 2 9 35 _ [(.int c1)]
  refine iP C 255 d4_35 rfl <| cY C d4_38 (XT.ii_gt_t k1.2) 54 (by decide) <| aL C ((.ref b_23)) d4_54 rfl rfl ?_
  refine g_ret C (v := (.ref b_23)) (ty := (.array .byte)) rfl rfl (Or.inr (Or.inr (Or.inr (Or.inr ⟨rfl, rfl, rfl⟩)))) d4_56 (by decide) (by decide) ?_
  exact ⟨b_23, rfl, gs_b_23, ((((Keep.refl h0 []).ext E_4).trans K_14 (allS (Or.inr gs_a_2) all0)).trans K_25 all0), f_26⟩
theorem rm_coderB_3 (hw : HW a0 Z) (a1 : Addr) (x0 x1 x2 x3 x4 x5 : Int32) (h0 : Heap) (Z0 : n0 ≤ h0.size) (A1 : Ary Z h0 a1 .byte [.int x0, .int x1, .int x2, .int x3, .int x4, .int x5]) :
    Met1 l Z ⟨"java/lang/StringUTF16", "coderFromArrayLen", "([BI)B"⟩ jdk_52_method_15_code 2 (some .byte) ⟨0, 0, 0, 0⟩ n0 #[(.ref a1), (.int 3)] h0 (fun v h => v = some (.int 1) ∧ h0 = h) := by
  refine met_of (plainFor_of_name pn_4) (L0 := #[.val (.ref a1), .val (.int 3)]) (by first | (simp [argsToLocals, Value.category]; done) | rfl) ?_
  intro B C
  change Ctx B l _ _ "java/lang/StringUTF16" "coderFromArrayLen" _ _ Z at C
  refine iN C 3 d6_0 rfl <| aN C ((.ref a1)) d6_1 rfl rfl <| yarraylength C A1 (z := 6) rfl d6_2 <| yisub C d6_3 <| eS [(.int (-3 : Int32))] rfl <| iB C 31 d6_4 rfl <| yiushr C d6_6 <| eS [(.int 1)] rfl <| yi2b C d6_7 <| eS [(.int 1)] rfl ?_
  refine g_ret C (v := (.int 1)) (ty := .byte) rfl rfl (Or.inl ⟨rfl, Or.inr (Or.inr (Or.inl rfl)), _, rfl⟩) d6_8 (by decide) (by decide) ?_
  exact ⟨rfl, rfl⟩
theorem rm_init4B_3_1 (hw : HW a0 Z) (a1 a2 : Addr) (c0 c1 c2 : Int32) (h0 : Heap) (Z0 : n0 ≤ h0.size) (cm : Um Z) (O : Old Z n0 h0) (E0 : Exa Z h0 a1 "java/lang/String") (F0 : Fld Z h0 a1 "java/lang/String" "value" "[B" .null) (F1 : Fld Z h0 a1 "java/lang/String" "coder" "B" (.int 0)) (g1 : n0 ≤ a1) (A2 : Ary Z h0 a2 .char [.int c0, .int c1, .int c2]) (n12 : a1 ≠ a2) (k0 : Ch c0) (k1 : Bg c1) (k2 : Ch c2) :
    Met1 l Z ⟨"java/lang/String", "<init>", "([CIILjava/lang/Void;)V"⟩ jdk_42_method_149_code 6 none ⟨4, 2, 9, 57⟩ n0 #[(.ref a1), (.ref a2), (.int 0), (.int 3), .null] h0 (fun v h => v = none ∧ Keep h0 h [a1] ∧ ∃ b : Addr, h0.size ≤ b ∧ Fld Z h a1 "java/lang/String" "value" "[B" (.ref b) ∧ Fld Z h a1 "java/lang/String" "coder" "B" (.int 1) ∧ Ary Z h b .byte [.int (bY (c0 >>> (0 &&& 31))), .int (bY (c0 >>> (8 &&& 31))), .int (bY (c1 >>> (0 &&& 31))), .int (bY (c1 >>> (8 &&& 31))), .int (bY (c2 >>> (0 &&& 31))), .int (bY (c2 >>> (8 &&& 31)))]) := by
  refine met_of (plainFor_of_name pn_5) (L0 := #[.val (.ref a1), .val (.ref a2), .val (.int 0), .val (.int 3), .val .null, .unset]) (by first | (simp [argsToLocals, Value.category]; done) | rfl) ?_
  intro B C
  change Ctx B l _ _ "java/lang/String" "<init>" _ _ Z at C
  have cm' := cm
  obtain ⟨⟨cz, Scz, hcz⟩, Sas, Shi, Slo, Sfm⟩ := cm'
  refine aN C ((.ref a1)) d2_0 rfl rfl <| yinitObj C (oW hw 12 rfl) (oW hw 13 rfl) (oW hw 14 rfl) rfl (by decide) (W := 0) (lE rfl) (by decide) d2_1 <| iN C 3 d2_4 rfl <| fY C d2_5 (XT.i0_ne_t (by decide)) 27 (by decide) <| ygetstatic C (host := "") (v := (.int cz)) (Or.inl (oW hw 15 rfl)) Via.refl (Scz.ext O.2) d2_27 <| yif_n C d2_30 (XT.i0_eq_f hcz) <| aN C ((.ref a2)) d2_33 rfl rfl <| iN C 0 d2_34 rfl <| iN C 3 d2_35 rfl <| cS C hw 16 17 18 19 rfl rfl rfl rfl (rm_comp2B_3_1 hw a2 c0 c1 c2 h0 Z0 cm O A2 k0 k1 k2) [] [(.ref a2), (.int 0), (.int 3)] pd_14 0 d2_36 ⟨rfl, rfl, rfl, rfl, rfl⟩ (by decide) ?_
  intro v_3 h_1 q_2
  obtain ⟨b_5, rfl, le_6, K_7, f_8⟩ := q_2
  have ne_9 : a1 ≠ b_5 := ne_ge E0.lt le_6
  have ne_10 : a2 ≠ b_5 := ne_ge A2.lt le_6
  have ge_b_5 : n0 ≤ b_5 := lT Z0 le_6
  have gs_b_5 : h0.size ≤ b_5 := lT (Nat.le_refl h0.size) le_6
  show Go _ _ _ _ 2 9 39 _ [(.ref b_5)]
  refine aS C d2_39 (#[aV a1, aV a2, iV 0, iV 3, .val .null, aV b_5]) rfl rfl <| aN C ((.ref a1)) d2_41 rfl rfl <| aL C ((.ref b_5)) d2_42 rfl rfl <| iN C 3 d2_44 rfl ?_
  have f_11 := (lT Z0 K_7.1)
  refine cS C hw 24 25 18 26 rfl rfl rfl rfl (rm_coderB_3 hw b_5 (bY (c0 >>> (0 &&& 31))) (bY (c0 >>> (8 &&& 31))) (bY (c1 >>> (0 &&& 31))) (bY (c1 >>> (8 &&& 31))) (bY (c2 >>> (0 &&& 31))) (bY (c2 >>> (8 &&& 31))) h_1 f_11 f_8) [(.ref a1)] [(.ref b_5), (.int 3)] pd_6 1 d2_45 ⟨rfl, rfl, rfl, rfl, rfl⟩ (by decide) ?_
  intro v_14 h_12 q_13
  obtain ⟨rfl, rfl⟩ := q_13
  show Go _ _ _ _ 2 9 48 _ [(.int 1), (.ref a1)]
  have f_16 := (F1.keep K_7 nin0)
  have f_17 := (E0.keep K_7)
  refine yputfield C (host := "") (v := (.int 1)) (Or.inl (oW hw 27 rfl)) Via.refl f_16 f_17 (Or.inr ⟨(oW hw 28 rfl), rfl, rfl⟩) (oW hw 3 rfl) (ty := .byte) (by decide) rfl rfl g1 d2_48 ?_
  intro h_18 W_19
  have f_20 := f_16.same W_19
  refine aN C ((.ref a1)) d2_51 rfl rfl <| aL C ((.ref b_5)) d2_52 rfl rfl ?_
  have f_21 := ((F0.keep K_7 nin0).other W_19 (Or.inr (slot_ne (Or.inr (oW hw 30 rfl)) (Or.inr (oW hw 28 rfl)) (by decide) (t := (.array .byte)) (t' := .byte) (by decide) (by decide))))
  have f_22 := (f_17.wr W_19)
  refine yputfield C (host := "") (v := (.ref b_5)) (Or.inl (oW hw 29 rfl)) Via.refl f_21 f_22 (Or.inr ⟨(oW hw 30 rfl), rfl, rfl⟩) (oW hw 3 rfl) (ty := (.array .byte)) (by decide) rfl rfl g1 d2_54 ?_
  intro h_23 W_24
  have f_25 := f_21.same W_24
  refine g_return C rfl d2_57 (by decide) (by decide) ?_
  have f_26 := (f_20.other W_24 (Or.inr (slot_ne (Or.inr (oW hw 28 rfl)) (Or.inr (oW hw 30 rfl)) (by decide) (t := .byte) (t' := (.array .byte)) (by decide) (by decide))))
  have f_27 := ((f_8.keep (Keep.of_wr W_19) (nin1 (Ne.symm ne_9))).keep (Keep.of_wr W_24) (nin1 (Ne.symm ne_9)))
  exact ⟨rfl, ((((Keep.refl h0 [a1]).trans K_7 all0).wr W_19 (Or.inl (List.mem_of_getElem? (i := 0) rfl))).wr W_24 (Or.inl (List.mem_of_getElem? (i := 0) rfl))), b_5, gs_b_5, f_25, f_26, f_27⟩
theorem rm_initB_3_1 (hw : HW a0 Z) (a1 a2 : Addr) (c0 c1 c2 : Int32) (h0 : Heap) (Z0 : n0 ≤ h0.size) (cm : Um Z) (O : Old Z n0 h0) (E0 : Exa Z h0 a1 "java/lang/String") (F0 : Fld Z h0 a1 "java/lang/String" "value" "[B" .null) (F1 : Fld Z h0 a1 "java/lang/String" "coder" "B" (.int 0)) (g1 : n0 ≤ a1) (A2 : Ary Z h0 a2 .char [.int c0, .int c1, .int c2]) (n12 : a1 ≠ a2) (k0 : Ch c0) (k1 : Bg c1) (k2 : Ch c2) :
    Met1 l Z ⟨"java/lang/String", "<init>", "([C)V"⟩ jdk_42_method_3_code 2 none ⟨5, 2, 9, 74⟩ n0 #[(.ref a1), (.ref a2)] h0 (fun v h => v = none ∧ Keep h0 h [a1] ∧ ∃ b : Addr, h0.size ≤ b ∧ Fld Z h a1 "java/lang/String" "value" "[B" (.ref b) ∧ Fld Z h a1 "java/lang/String" "coder" "B" (.int 1) ∧ Ary Z h b .byte [.int (bY (c0 >>> (0 &&& 31))), .int (bY (c0 >>> (8 &&& 31))), .int (bY (c1 >>> (0 &&& 31))), .int (bY (c1 >>> (8 &&& 31))), .int (bY (c2 >>> (0 &&& 31))), .int (bY (c2 >>> (8 &&& 31)))]) := by
  refine met_of (plainFor_of_name pn_5) (L0 := #[.val (.ref a1), .val (.ref a2)]) (by first | (simp [argsToLocals, Value.category]; done) | rfl) ?_
  intro B C
  change Ctx B l _ _ "java/lang/String" "<init>" _ _ Z at C
  have cm' := cm
  obtain ⟨⟨cz, Scz, hcz⟩, Sas, Shi, Slo, Sfm⟩ := cm'
  refine aN C ((.ref a1)) d1_0 rfl rfl <| aN C ((.ref a2)) d1_1 rfl rfl <| iC C 0 d1_2 rfl <| aN C ((.ref a2)) d1_3 rfl rfl <| yarraylength C A2 (z := 3) rfl d1_4 <| yaconst_null C d1_5 <| cP C hw 8 9 4 11 rfl rfl rfl rfl rfl (rm_init4B_3_1 hw a1 a2 c0 c1 c2 h0 Z0 cm O E0 F0 F1 g1 A2 n12 k0 k1 k2) [] [(.ref a2), (.int 0), (.int 3), .null] pd_24 0 d1_6 ⟨rfl, rfl, rfl, rfl, rfl⟩ (by decide) ?_
  intro v_3 h_1 q_2
  obtain ⟨rfl, K_5, b_6, le_7, f_8, f_9, f_10⟩ := q_2
  have ne_11 : a1 ≠ b_6 := ne_ge E0.lt le_7
  have ne_12 : a2 ≠ b_6 := ne_ge A2.lt le_7
  have ge_b_6 : n0 ≤ b_6 := lT Z0 le_7
  have gs_b_6 : h0.size ≤ b_6 := lT (Nat.le_refl h0.size) le_7
  show Go _ _ _ _ 2 9 9 _ []
  refine g_return C rfl d1_9 (by decide) (by decide) ?_
  exact ⟨rfl, ((Keep.refl h0 [a1]).trans K_5 (allS (Or.inl (List.mem_of_getElem? (i := 0) rfl)) all0)), b_6, gs_b_6, f_8, f_9, f_10⟩
theorem rm_getC_3_2 (hw : HW a0 Z) (a1 : Addr) (x0 x1 x2 x3 x4 x5 c : Int32) (h0 : Heap) (Z0 : n0 ≤ h0.size) (cm : Um Z) (O : Old Z n0 h0) (A1 : Ary Z h0 a1 .byte [.int x0, .int x1, .int x2, .int x3, .int x4, .int x5]) (ec : (UInt32.toInt32 (UInt16.toUInt32 (UInt32.toUInt16 (Int32.toUInt32 (((x4 &&& 255) <<< (0 &&& 31)) ||| ((x5 &&& 255) <<< (8 &&& 31))))))) = c) (kc : nar .char c = c) :
    Met1 l Z ⟨"java/lang/StringUTF16", "getChar", "([BI)C"⟩ jdk_52_method_5_code 2 (some .char) ⟨0, 0, 0, 0⟩ n0 #[(.ref a1), (.int 2)] h0 (fun v h => v = some (.int c) ∧ h0 = h) := by
  refine met_of (plainFor_of_name pn_4) (L0 := #[.val (.ref a1), .val (.int 2)]) (by first | (simp [argsToLocals, Value.category]; done) | rfl) ?_
  intro B C
  change Ctx B l _ _ "java/lang/StringUTF16" "getChar" _ _ Z at C
  have cm' := cm
  obtain ⟨⟨cz, Scz, hcz⟩, Sas, Shi, Slo, Sfm⟩ := cm'
  refine ygetstatic C (host := "") (v := (.int 1)) (Or.inl (oW hw 84 rfl)) Via.refl (Sas.ext O.2) d20_0 <| fY C d20_3 (XT.i0_ne_t (by decide)) 28 (by decide) <| iN C 2 d20_28 rfl <| iC C 1 d20_29 rfl <| yishl C d20_30 <| eS [(.int 4)] rfl <| iT C d20_31 (#[aV a1, iV 4]) rfl <| aN C ((.ref a1)) d20_32 rfl rfl <| iN C 4 d20_33 rfl <| nC C 4 5 d20_34 rfl rfl (#[aV a1, iV 5]) rfl <| ybaloadB C A1 (by decide) (i := 4) (by decide) (v := x4) rfl d20_37 <| iP C 255 d20_38 rfl <| yiand C d20_41 <| ygetstatic C (host := "") (v := (.int 0)) (Or.inl (oW hw 85 rfl)) Via.refl (Shi.ext O.2) d20_42 <| yishl C d20_45 <| aN C ((.ref a1)) d20_46 rfl rfl <| iN C 5 d20_47 rfl <| ybaloadB C A1 (by decide) (i := 5) (by decide) (v := x5) rfl d20_48 <| iP C 255 d20_49 rfl <| yiand C d20_52 <| ygetstatic C (host := "") (v := (.int 8)) (Or.inl (oW hw 86 rfl)) Via.refl (Slo.ext O.2) d20_53 <| yishl C d20_56 <| yior C d20_57 <| yi2c C d20_58 ?_
  rw [ec]
  refine g_ret C (v := (.int c)) (ty := .char) rfl (own_nch kc) (Or.inl ⟨rfl, Or.inr (Or.inr (Or.inr (Or.inl rfl))), _, rfl⟩) d20_59 (by decide) (by decide) ?_
  exact ⟨rfl, rfl⟩
theorem rm_comp1B_3_2 (hw : HW a0 Z) (a1 a2 : Addr) (c0 c1 c2 : Int32) (h0 : Heap) (Z0 : n0 ≤ h0.size) (A1 : Ary Z h0 a1 .char [.int c0, .int c1, .int c2]) (A2 : Ary Z h0 a2 .byte [.int 0, .int 0, .int 0]) (g2 : n0 ≤ a2) (n12 : a1 ≠ a2) (k0 : Ch c0) (k1 : Ch c1) (k2 : Bg c2) :
    Met1 l Z ⟨"java/lang/StringUTF16", "compress", "([CI[BII)I"⟩ jdk_52_method_21_code 7 (some .int) ⟨0, 0, 0, 0⟩ n0 #[(.ref a1), (.int 0), (.ref a2), (.int 0), (.int 3)] h0 (fun v h => v = some (.int 2) ∧ Keep h0 h [a2]) := by
  refine met_of (plainFor_of_name pn_4) (L0 := #[.val (.ref a1), .val (.int 0), .val (.ref a2), .val (.int 0), .val (.int 3), .unset, .unset]) (by first | (simp [argsToLocals, Value.category]; done) | rfl) ?_
  intro B C
  change Ctx B l _ _ "java/lang/StringUTF16" "compress" _ _ Z at C
  refine iC C 0 d5_0 rfl <| iS C d5_1 (#[aV a1, iV 0, aV a2, iV 0, iV 3, iV 0, uV]) rfl <| iL C 0 d5_3 rfl <| iL C 3 d5_5 rfl <| yicmp_n C d5_7 (XT.ii_ge_f (by decide)) <| aN C ((.ref a1)) d5_10 rfl rfl <| iN C 0 d5_11 rfl <| ycaload C A1 (by decide) (i := 0) (by decide) (v := c0) rfl d5_12 <| iS C d5_13 (#[aV a1, iV 0, aV a2, iV 0, iV 3, iV 0, iV c0]) rfl <| iL C c0 d5_15 rfl <| iP C 255 d5_17 rfl <| cY C d5_20 (XT.ii_le_t k0.2.1) 26 (by decide) <| aN C ((.ref a2)) d5_26 rfl rfl <| iN C 0 d5_27 rfl <| iL C c0 d5_28 rfl <| yi2b C d5_30 <| ybastoreB C A2 (by decide) (i := 0) (by decide) (show 0 < 3 by decide) (w := (.int (bY c0))) (congrArg Value.int (own_narb _)) g2 d5_31 ?_
  intro h_1 K_2 A_3
  have f_4 : Ary Z h_1 a2 .byte [(.int (bY c0)), (.int 0), (.int 0)] := A_3
  refine nC C 0 1 d5_32 rfl rfl (#[aV a1, iV 1, aV a2, iV 0, iV 3, iV 0, iV c0]) rfl <| nC C 0 1 d5_35 rfl rfl (#[aV a1, iV 1, aV a2, iV 1, iV 3, iV 0, iV c0]) rfl <| nC C 0 1 d5_38 rfl rfl (#[aV a1, iV 1, aV a2, iV 1, iV 3, iV 1, iV c0]) rfl <| gT C d5_41 3 (by decide) <| iL C 1 d5_3 rfl <| iL C 3 d5_5 rfl <| yicmp_n C d5_7 (XT.ii_ge_f (by decide)) <| aN C ((.ref a1)) d5_10 rfl rfl <| iN C 1 d5_11 rfl ?_
  have f_5 := (A1.keep K_2 (ninS n12 nin0))
  refine ycaload C f_5 (by decide) (i := 1) (by decide) (v := c1) rfl d5_12 <| iS C d5_13 (#[aV a1, iV 1, aV a2, iV 1, iV 3, iV 1, iV c1]) rfl <| iL C c1 d5_15 rfl <| iP C 255 d5_17 rfl <| cY C d5_20 (XT.ii_le_t k1.2.1) 26 (by decide) <| aN C ((.ref a2)) d5_26 rfl rfl <| iN C 1 d5_27 rfl <| iL C c1 d5_28 rfl <| yi2b C d5_30 <| ybastoreB C f_4 (by decide) (i := 1) (by decide) (show 1 < 3 by decide) (w := (.int (bY c1))) (congrArg Value.int (own_narb _)) g2 d5_31 ?_
  intro h_6 K_7 A_8
  have f_9 : Ary Z h_6 a2 .byte [(.int (bY c0)), (.int (bY c1)), (.int 0)] := A_8
  refine nC C 1 2 d5_32 rfl rfl (#[aV a1, iV 2, aV a2, iV 1, iV 3, iV 1, iV c1]) rfl <| nC C 1 2 d5_35 rfl rfl (#[aV a1, iV 2, aV a2, iV 2, iV 3, iV 1, iV c1]) rfl <| nC C 1 2 d5_38 rfl rfl (#[aV a1, iV 2, aV a2, iV 2, iV 3, iV 2, iV c1]) rfl <| gT C d5_41 3 (by decide) <| iL C 2 d5_3 rfl <| iL C 3 d5_5 rfl <| yicmp_n C d5_7 (XT.ii_ge_f (by decide)) <| aN C ((.ref a1)) d5_10 rfl rfl <| iN C 2 d5_11 rfl ?_
  have f_10 := (f_5.keep K_7 (ninS n12 nin0))
  refine ycaload C f_10 (by decide) (i := 2) (by decide) (v := c2) rfl d5_12 <| iS C d5_13 (#[aV a1, iV 2, aV a2, iV 2, iV 3, iV 2, iV c2]) rfl <| iL C c2 d5_15 rfl <| iP C 255 d5_17 rfl <| yicmp_n C d5_20 (XT.ii_le_f k2.2) <| iL C 2 d5_23 rfl ?_
  refine g_ret C (v := (.int 2)) (ty := .int) rfl rfl (Or.inl ⟨rfl, Or.inl rfl, _, rfl⟩) d5_25 (by decide) (by decide) ?_
  exact ⟨rfl, (((Keep.refl h0 [a2]).trans K_2 (allS (Or.inl (List.mem_of_getElem? (i := 0) rfl)) all0)).trans K_7 (allS (Or.inl (List.mem_of_getElem? (i := 0) rfl)) all0))⟩
theorem rm_comp2B_3_2 (hw : HW a0 Z) (a1 : Addr) (c0 c1 c2 : Int32) (h0 : Heap) (Z0 : n0 ≤ h0.size) (cm : Um Z) (O : Old Z n0 h0) (A1 : Ary Z h0 a1 .char [.int c0, .int c1, .int c2]) (k0 : Ch c0) (k1 : Ch c1) (k2 : Bg c2) :
    Met1 l Z ⟨"java/lang/StringUTF16", "compress", "([CII)[B"⟩ jdk_52_method_16_code 6 (some (.array .byte)) ⟨3, 2, 9, 40⟩ n0 #[(.ref a1), (.int 0), (.int 3)] h0 (fun v h => ∃ b : Addr, v = some (.ref b) ∧ h0.size ≤ b ∧ Keep h0 h [] ∧ Ary Z h b .byte [.int (bY (c0 >>> (0 &&& 31))), .int (bY (c0 >>> (8 &&& 31))), .int (bY (c1 >>> (0 &&& 31))), .int (bY (c1 >>> (8 &&& 31))), .int (bY (c2 >>> (0 &&& 31))), .int (bY (c2 >>> (8 &&& 31)))]) := by
  refine met_of (plainFor_of_name pn_4) (L0 := #[.val (.ref a1), .val (.int 0), .val (.int 3), .unset, .unset, .unset]) (by first | (simp [argsToLocals, Value.category]; done) | rfl) ?_
  intro B C
  change Ctx B l _ _ "java/lang/StringUTF16" "compress" _ _ Z at C
  have cm' := cm
  obtain ⟨⟨cz, Scz, hcz⟩, Sas, Shi, Slo, Sfm⟩ := cm'
  refine iN C 3 d4_0 rfl <| ynewarray C (oW hw 20 rfl) (ty := .byte) rfl (by decide) (cap := 3) (by decide) (by decide) (by decide) (by decide) d4_1 ?_
  intro h_1 a_2 g_3 E_4 A_5
  have ne_6 : a1 ≠ a_2 := ne_new A1.lt g_3
  have ge_a_2 : n0 ≤ a_2 := lT Z0 (lE g_3.symm)
  have gs_a_2 : h0.size ≤ a_2 := lT (Nat.le_refl h0.size) (lE g_3.symm)
  have f_7 : Ary Z h_1 a_2 .byte [(.int 0), (.int 0), (.int 0)] := A_5
  show Go _ _ _ _ 1 3 3 _ [(.ref a_2)]
  refine aT C d4_3 (#[aV a1, iV 0, iV 3, aV a_2, uV, uV]) rfl rfl <| aN C ((.ref a1)) d4_4 rfl rfl <| iN C 0 d4_5 rfl <| aN C ((.ref a_2)) d4_6 rfl rfl <| iC C 0 d4_7 rfl <| iN C 3 d4_8 rfl ?_
  have f_8 := (A1.ext E_4)
  have f_9 := (lT Z0 E_4.1)
  refine cS C hw 21 22 18 23 rfl rfl rfl rfl (rm_comp1B_3_2 hw a1 a_2 c0 c1 c2 h_1 f_9 f_8 f_7 ge_a_2 ne_6 k0 k1 k2) [] [(.ref a1), (.int 0), (.ref a_2), (.int 0), (.int 3)] pd_13 0 d4_9 ⟨rfl, rfl, rfl, rfl, rfl⟩ (by decide) ?_
  intro v_12 h_10 q_11
  obtain ⟨rfl, K_14⟩ := q_11
  show Go _ _ _ _ 1 3 12 _ [(.int 2)]
  refine iS C d4_12 (#[aV a1, iV 0, iV 3, aV a_2, iV 2, uV]) rfl <| iL C 2 d4_14 rfl <| iN C 3 d4_16 rfl <| yicmp_n C d4_17 (XT.ii_eq_f (by decide)) <| aN C ((.ref a1)) d4_20 rfl rfl <| iN C 0 d4_21 rfl <| iN C 3 d4_22 rfl ?_
  have f_15 := ((O.ext E_4).keep K_14 (allS ge_a_2 all0))
  have f_16 := (f_8.keep K_14 (ninS ne_6 nin0))
  have f_17 := (lT f_9 K_14.1)
  have f_18 := (lT (lT (Nat.le_refl h0.size) E_4.1) K_14.1)
  refine cS C hw 71 72 18 73 rfl rfl rfl rfl (rm_toB_3 hw a1 c0 c1 c2 h_10 f_17 cm f_15 f_16) [] [(.ref a1), (.int 0), (.int 3)] pd_18 0 d4_23 ⟨rfl, rfl, rfl, rfl, rfl⟩ (by decide) ?_
  intro v_21 h_19 q_20
  obtain ⟨b_23, rfl, le_24, K_25, f_26⟩ := q_20
  have ne_27 : a1 ≠ b_23 := ne_ge f_16.lt le_24
  have ge_b_23 : n0 ≤ b_23 := lT f_17 le_24
  have gs_b_23 : h0.size ≤ b_23 := lT f_18 le_24
  show Go _ _ _ _ 2 9 26 _ [(.ref b_23)]
  refine aS C d4_26 (#[aV a1, iV 0, iV 3, aV a_2, iV 2, aV b_23]) rfl rfl <| aL C ((.ref b_23)) d4_28 rfl rfl <| iL C 2 d4_30 rfl ?_
  have f_28 := (f_15.keep K_25 all0)
  have f_29 := (lT f_17 K_25.1)
  refine cS C hw 87 88 18 89 rfl rfl rfl rfl (rm_getC_3_2 hw b_23 (bY (c0 >>> (0 &&& 31))) (bY (c0 >>> (8 &&& 31))) (bY (c1 >>> (0 &&& 31))) (bY (c1 >>> (8 &&& 31))) (bY (c2 >>> (0 &&& 31))) (bY (c2 >>> (8 &&& 31))) c2 h_19 f_29 cm f_28 f_26 (own_gc k2.1) k2.1) [] [(.ref b_23), (.int 2)] pd_15 0 d4_32 ⟨rfl, rfl, rfl, rfl, rfl⟩ (by decide) ?_
  intro v_32 h_30 q_31
  obtain ⟨rfl, rfl⟩ := q_31
  show Go _ _ _ _ 2 9 35 _ [(.int c2)]
  refine iP C 255 d4_35 rfl <| cY C d4_38 (XT.ii_gt_t k2.2) 54 (by decide) <| aL C ((.ref b_23)) d4_54 rfl rfl ?_
  refine g_ret C (v := (.ref b_23)) (ty := (.array .byte)) rfl rfl (Or.inr (Or.inr (Or.inr (Or.inr ⟨rfl, rfl, rfl⟩)))) d4_56 (by decide) (by decide) ?_
  exact ⟨b_23, rfl, gs_b_23, ((((Keep.refl h0 []).ext E_4).trans K_14 (allS (Or.inr gs_a_2) all0)).trans K_25 all0), f_26⟩
theorem rm_init4B_3_2 (hw : HW a0 Z) (a1 a2 : Addr) (c0 c1 c2 : Int32) (h0 : Heap) (Z0 : n0 ≤ h0.size) (cm : Um Z) (O : Old Z n0 h0) (E0 : Exa Z h0 a1 "java/lang/String") (F0 : Fld Z h0 a1 "java/lang/String" "value" "[B" .null) (F1 : Fld Z h0 a1 "java/lang/String" "coder" "B" (.int 0)) (g1 : n0 ≤ a1) (A2 : Ary Z h0 a2 .char [.int c0, .int c1, .int c2]) (n12 : a1 ≠ a2) (k0 : Ch c0) (k1 : Ch c1) (k2 : Bg c2) :
    Met1 l Z ⟨"java/lang/String", "<init>", "([CIILjava/lang/Void;)V"⟩ jdk_42_method_149_code 6 none ⟨4, 2, 9, 57⟩ n0 #[(.ref a1), (.ref a2), (.int 0), (.int 3), .null] h0 (fun v h => v = none ∧ Keep h0 h [a1] ∧ ∃ b : Addr, h0.size ≤ b ∧ Fld Z h a1 "java/lang/String" "value" "[B" (.ref b) ∧ Fld Z h a1 "java/lang/String" "coder" "B" (.int 1) ∧ Ary Z h b .byte [.int (bY (c0 >>> (0 &&& 31))), .int (bY (c0 >>> (8 &&& 31))), .int (bY (c1 >>> (0 &&& 31))), .int (bY (c1 >>> (8 &&& 31))), .int (bY (c2 >>> (0 &&& 31))), .int (bY (c2 >>> (8 &&& 31)))]) := by
  refine met_of (plainFor_of_name pn_5) (L0 := #[.val (.ref a1), .val (.ref a2), .val (.int 0), .val (.int 3), .val .null, .unset]) (by first | (simp [argsToLocals, Value.category]; done) | rfl) ?_
  intro B C
  change Ctx B l _ _ "java/lang/String" "<init>" _ _ Z at C
  have cm' := cm
  obtain ⟨⟨cz, Scz, hcz⟩, Sas, Shi, Slo, Sfm⟩ := cm'
  refine aN C ((.ref a1)) d2_0 rfl rfl <| yinitObj C (oW hw 12 rfl) (oW hw 13 rfl) (oW hw 14 rfl) rfl (by decide) (W := 0) (lE rfl) (by decide) d2_1 <| iN C 3 d2_4 rfl <| fY C d2_5 (XT.i0_ne_t (by decide)) 27 (by decide) <| ygetstatic C (host := "") (v := (.int cz)) (Or.inl (oW hw 15 rfl)) Via.refl (Scz.ext O.2) d2_27 <| yif_n C d2_30 (XT.i0_eq_f hcz) <| aN C ((.ref a2)) d2_33 rfl rfl <| iN C 0 d2_34 rfl <| iN C 3 d2_35 rfl <| cS C hw 16 17 18 19 rfl rfl rfl rfl (rm_comp2B_3_2 hw a2 c0 c1 c2 h0 Z0 cm O A2 k0 k1 k2) [] [(.ref a2), (.int 0), (.int 3)] pd_14 0 d2_36 ⟨rfl, rfl, rfl, rfl, rfl⟩ (by decide) ?_
  intro v_3 h_1 q_2
  obtain ⟨b_5, rfl, le_6, K_7, f_8⟩ := q_2
  have ne_9 : a1 ≠ b_5 := ne_ge E0.lt le_6
  have ne_10 : a2 ≠ b_5 := ne_ge A2.lt le_6
  have ge_b_5 : n0 ≤ b_5 := lT Z0 le_6
  have gs_b_5 : h0.size ≤ b_5 := lT (Nat.le_refl h0.size) le_6
  show Go _ _ _ _ 2 9 39 _ [(.ref b_5)]
  refine aS C d2_39 (#[aV a1, aV a2, iV 0, iV 3, .val .null, aV b_5]) rfl rfl <| aN C ((.ref a1)) d2_41 rfl rfl <| aL C ((.ref b_5)) d2_42 rfl rfl <| iN C 3 d2_44 rfl ?_
  have f_11 := (lT Z0 K_7.1)
  refine cS C hw 24 25 18 26 rfl rfl rfl rfl (rm_coderB_3 hw b_5 (bY (c0 >>> (0 &&& 31))) (bY (c0 >>> (8 &&& 31))) (bY (c1 >>> (0 &&& 31))) (bY (c1 >>> (8 &&& 31))) (bY (c2 >>> (0 &&& 31))) (bY (c2 >>> (8 &&& 31))) h_1 f_11 f_8) [(.ref a1)] [(.ref b_5), (.int 3)] pd_6 1 d2_45 ⟨rfl, rfl, rfl, rfl, rfl⟩ (by decide) ?_
  intro v_14 h_12 q_13
  obtain ⟨rfl, rfl⟩ := q_13
  show Go _ _ _ _ 2 9 48 _ [(.int 1), (.ref a1)]
  have f_16 := (F1.keep K_7 nin0)
  have f_17 := (E0.keep K_7)
  refine yputfield C (host := "") (v := (.int 1)) (Or.inl (oW hw 27 rfl)) Via.refl f_16 f_17 (Or.inr ⟨(oW hw 28 rfl), rfl, rfl⟩) (oW hw 3 rfl) (ty := .byte) (by decide) rfl rfl g1 d2_48 ?_
  intro h_18 W_19
  have f_20 := f_16.same W_19
  refine aN C ((.ref a1)) d2_51 rfl rfl <| aL C ((.ref b_5)) d2_52 rfl rfl ?_
  have f_21 := ((F0.keep K_7 nin0).other W_19 (Or.inr (slot_ne (Or.inr (oW hw 30 rfl)) (Or.inr (oW hw 28 rfl)) (by decide) (t := (.array .byte)) (t' := .byte) (by decide) (by decide))))
  have f_22 := (f_17.wr W_19)
  refine yputfield C (host := "") (v := (.ref b_5)) (Or.inl (oW hw 29 rfl)) Via.refl f_21 f_22 (Or.inr ⟨(oW hw 30 rfl), rfl, rfl⟩) (oW hw 3 rfl) (ty := (.array .byte)) (by decide) rfl rfl g1 d2_54 ?_
  intro h_23 W_24
  have f_25 := f_21.same W_24
  refine g_return C rfl d2_57 (by decide) (by decide) ?_
  have f_26 := (f_20.other W_24 (Or.inr (slot_ne (Or.inr (oW hw 28 rfl)) (Or.inr (oW hw 30 rfl)) (by decide) (t := .byte) (t' := (.array .byte)) (by decide) (by decide))))
  have f_27 := ((f_8.keep (Keep.of_wr W_19) (nin1 (Ne.symm ne_9))).keep (Keep.of_wr W_24) (nin1 (Ne.symm ne_9)))
  exact ⟨rfl, ((((Keep.refl h0 [a1]).trans K_7 all0).wr W_19 (Or.inl (List.mem_of_getElem? (i := 0) rfl))).wr W_24 (Or.inl (List.mem_of_getElem? (i := 0) rfl))), b_5, gs_b_5, f_25, f_26, f_27⟩
theorem rm_initB_3_2 (hw : HW a0 Z) (a1 a2 : Addr) (c0 c1 c2 : Int32) (h0 : Heap) (Z0 : n0 ≤ h0.size) (cm : Um Z) (O : Old Z n0 h0) (E0 : Exa Z h0 a1 "java/lang/String") (F0 : Fld Z h0 a1 "java/lang/String" "value" "[B" .null) (F1 : Fld Z h0 a1 "java/lang/String" "coder" "B" (.int 0)) (g1 : n0 ≤ a1) (A2 : Ary Z h0 a2 .char [.int c0, .int c1, .int c2]) (n12 : a1 ≠ a2) (k0 : Ch c0) (k1 : Ch c1) (k2 : Bg c2) :
    Met1 l Z ⟨"java/lang/String", "<init>", "([C)V"⟩ jdk_42_method_3_code 2 none ⟨5, 2, 9, 74⟩ n0 #[(.ref a1), (.ref a2)] h0 (fun v h => v = none ∧ Keep h0 h [a1] ∧ ∃ b : Addr, h0.size ≤ b ∧ Fld Z h a1 "java/lang/String" "value" "[B" (.ref b) ∧ Fld Z h a1 "java/lang/String" "coder" "B" (.int 1) ∧ Ary Z h b .byte [.int (bY (c0 >>> (0 &&& 31))), .int (bY (c0 >>> (8 &&& 31))), .int (bY (c1 >>> (0 &&& 31))), .int (bY (c1 >>> (8 &&& 31))), .int (bY (c2 >>> (0 &&& 31))), .int (bY (c2 >>> (8 &&& 31)))]) := by
  refine met_of (plainFor_of_name pn_5) (L0 := #[.val (.ref a1), .val (.ref a2)]) (by first | (simp [argsToLocals, Value.category]; done) | rfl) ?_
  intro B C
  change Ctx B l _ _ "java/lang/String" "<init>" _ _ Z at C
  have cm' := cm
  obtain ⟨⟨cz, Scz, hcz⟩, Sas, Shi, Slo, Sfm⟩ := cm'
  refine aN C ((.ref a1)) d1_0 rfl rfl <| aN C ((.ref a2)) d1_1 rfl rfl <| iC C 0 d1_2 rfl <| aN C ((.ref a2)) d1_3 rfl rfl <| yarraylength C A2 (z := 3) rfl d1_4 <| yaconst_null C d1_5 <| cP C hw 8 9 4 11 rfl rfl rfl rfl rfl (rm_init4B_3_2 hw a1 a2 c0 c1 c2 h0 Z0 cm O E0 F0 F1 g1 A2 n12 k0 k1 k2) [] [(.ref a2), (.int 0), (.int 3), .null] pd_24 0 d1_6 ⟨rfl, rfl, rfl, rfl, rfl⟩ (by decide) ?_
  intro v_3 h_1 q_2
  obtain ⟨rfl, K_5, b_6, le_7, f_8, f_9, f_10⟩ := q_2
  have ne_11 : a1 ≠ b_6 := ne_ge E0.lt le_7
  have ne_12 : a2 ≠ b_6 := ne_ge A2.lt le_7
  have ge_b_6 : n0 ≤ b_6 := lT Z0 le_7
  have gs_b_6 : h0.size ≤ b_6 := lT (Nat.le_refl h0.size) le_7
  show Go _ _ _ _ 2 9 9 _ []
  refine g_return C rfl d1_9 (by decide) (by decide) ?_
  exact ⟨rfl, ((Keep.refl h0 [a1]).trans K_5 (allS (Or.inl (List.mem_of_getElem? (i := 0) rfl)) all0)), b_6, gs_b_6, f_8, f_9, f_10⟩
theorem rm_comp1_4 (hw : HW a0 Z) (a1 a2 : Addr) (c0 c1 c2 c3 : Int32) (h0 : Heap) (Z0 : n0 ≤ h0.size) (A1 : Ary Z h0 a1 .char [.int c0, .int c1, .int c2, .int c3]) (A2 : Ary Z h0 a2 .byte [.int 0, .int 0, .int 0, .int 0]) (g2 : n0 ≤ a2) (n12 : a1 ≠ a2) (k0 : Ch c0) (k1 : Ch c1) (k2 : Ch c2) (k3 : Ch c3) :
    Met1 l Z ⟨"java/lang/StringUTF16", "compress", "([CI[BII)I"⟩ jdk_52_method_21_code 7 (some .int) ⟨0, 0, 0, 0⟩ n0 #[(.ref a1), (.int 0), (.ref a2), (.int 0), (.int 4)] h0 (fun v h => v = some (.int 4) ∧ Keep h0 h [a2] ∧ Ary Z h a2 .byte [.int (bY c0), .int (bY c1), .int (bY c2), .int (bY c3)]) := by
  refine met_of (plainFor_of_name pn_4) (L0 := #[.val (.ref a1), .val (.int 0), .val (.ref a2), .val (.int 0), .val (.int 4), .unset, .unset]) (by first | (simp [argsToLocals, Value.category]; done) | rfl) ?_
  intro B C
  change Ctx B l _ _ "java/lang/StringUTF16" "compress" _ _ Z at C
  refine iC C 0 d5_0 rfl <| iS C d5_1 (#[aV a1, iV 0, aV a2, iV 0, iV 4, iV 0, uV]) rfl <| iL C 0 d5_3 rfl <| iL C 4 d5_5 rfl <| yicmp_n C d5_7 (XT.ii_ge_f (by decide)) <| aN C ((.ref a1)) d5_10 rfl rfl <| iN C 0 d5_11 rfl <| ycaload C A1 (by decide) (i := 0) (by decide) (v := c0) rfl d5_12 <| iS C d5_13 (#[aV a1, iV 0, aV a2, iV 0, iV 4, iV 0, iV c0]) rfl <| iL C c0 d5_15 rfl <| iP C 255 d5_17 rfl <| cY C d5_20 (XT.ii_le_t k0.2.1) 26 (by decide) <| aN C ((.ref a2)) d5_26 rfl rfl <| iN C 0 d5_27 rfl <| iL C c0 d5_28 rfl <| yi2b C d5_30 <| ybastoreB C A2 (by decide) (i := 0) (by decide) (show 0 < 4 by decide) (w := (.int (bY c0))) (congrArg Value.int (own_narb _)) g2 d5_31 ?_
  intro h_1 K_2 A_3
  have f_4 : Ary Z h_1 a2 .byte [(.int (bY c0)), (.int 0), (.int 0), (.int 0)] := A_3
  refine nC C 0 1 d5_32 rfl rfl (#[aV a1, iV 1, aV a2, iV 0, iV 4, iV 0, iV c0]) rfl <| nC C 0 1 d5_35 rfl rfl (#[aV a1, iV 1, aV a2, iV 1, iV 4, iV 0, iV c0]) rfl <| nC C 0 1 d5_38 rfl rfl (#[aV a1, iV 1, aV a2, iV 1, iV 4, iV 1, iV c0]) rfl <| gT C d5_41 3 (by decide) <| iL C 1 d5_3 rfl <| iL C 4 d5_5 rfl <| yicmp_n C d5_7 (XT.ii_ge_f (by decide)) <| aN C ((.ref a1)) d5_10 rfl rfl <| iN C 1 d5_11 rfl ?_
  have f_5 := (A1.keep K_2 (ninS n12 nin0))
  refine ycaload C f_5 (by decide) (i := 1) (by decide) (v := c1) rfl d5_12 <| iS C d5_13 (#[aV a1, iV 1, aV a2, iV 1, iV 4, iV 1, iV c1]) rfl <| iL C c1 d5_15 rfl <| iP C 255 d5_17 rfl <| cY C d5_20 (XT.ii_le_t k1.2.1) 26 (by decide) <| aN C ((.ref a2)) d5_26 rfl rfl <| iN C 1 d5_27 rfl <| iL C c1 d5_28 rfl <| yi2b C d5_30 <| ybastoreB C f_4 (by decide) (i := 1) (by decide) (show 1 < 4 by decide) (w := (.int (bY c1))) (congrArg Value.int (own_narb _)) g2 d5_31 ?_
  intro h_6 K_7 A_8
  have f_9 : Ary Z h_6 a2 .byte [(.int (bY c0)), (.int (bY c1)), (.int 0), (.int 0)] := A_8
  refine nC C 1 2 d5_32 rfl rfl (#[aV a1, iV 2, aV a2, iV 1, iV 4, iV 1, iV c1]) rfl <| nC C 1 2 d5_35 rfl rfl (#[aV a1, iV 2, aV a2, iV 2, iV 4, iV 1, iV c1]) rfl <| nC C 1 2 d5_38 rfl rfl (#[aV a1, iV 2, aV a2, iV 2, iV 4, iV 2, iV c1]) rfl <| gT C d5_41 3 (by decide) <| iL C 2 d5_3 rfl <| iL C 4 d5_5 rfl <| yicmp_n C d5_7 (XT.ii_ge_f (by decide)) <| aN C ((.ref a1)) d5_10 rfl rfl <| iN C 2 d5_11 rfl ?_
  have f_10 := (f_5.keep K_7 (ninS n12 nin0))
  refine ycaload C f_10 (by decide) (i := 2) (by decide) (v := c2) rfl d5_12 <| iS C d5_13 (#[aV a1, iV 2, aV a2, iV 2, iV 4, iV 2, iV c2]) rfl <| iL C c2 d5_15 rfl <| iP C 255 d5_17 rfl <| cY C d5_20 (XT.ii_le_t k2.2.1) 26 (by decide) <| aN C ((.ref a2)) d5_26 rfl rfl <| iN C 2 d5_27 rfl <| iL C c2 d5_28 rfl <| yi2b C d5_30 <| ybastoreB C f_9 (by decide) (i := 2) (by decide) (show 2 < 4 by decide) (w := (.int (bY c2))) (congrArg Value.int (own_narb _)) g2 d5_31 ?_
  intro h_11 K_12 A_13
  have f_14 : Ary Z h_11 a2 .byte [(.int (bY c0)), (.int (bY c1)), (.int (bY c2)), (.int 0)] := A_13
  refine nC C 2 3 d5_32 rfl rfl (#[aV a1, iV 3, aV a2, iV 2, iV 4, iV 2, iV c2]) rfl <| nC C 2 3 d5_35 rfl rfl (#[aV a1, iV 3, aV a2, iV 3, iV 4, iV 2, iV c2]) rfl <| nC C 2 3 d5_38 rfl rfl (#[aV a1, iV 3, aV a2, iV 3, iV 4, iV 3, iV c2]) rfl <| gT C d5_41 3 (by decide) <| iL C 3 d5_3 rfl <| iL C 4 d5_5 rfl <| yicmp_n C d5_7 (XT.ii_ge_f (by decide)) <| aN C ((.ref a1)) d5_10 rfl rfl <| iN C 3 d5_11 rfl ?_
  have f_15 := (f_10.keep K_12 (ninS n12 nin0))
  refine ycaload C f_15 (by decide) (i := 3) (by decide) (v := c3) rfl d5_12 <| iS C d5_13 (#[aV a1, iV 3, aV a2, iV 3, iV 4, iV 3, iV c3]) rfl <| iL C c3 d5_15 rfl <| iP C 255 d5_17 rfl <| cY C d5_20 (XT.ii_le_t k3.2.1) 26 (by decide) <| aN C ((.ref a2)) d5_26 rfl rfl <| iN C 3 d5_27 rfl <| iL C c3 d5_28 rfl <| yi2b C d5_30 <| ybastoreB C f_14 (by decide) (i := 3) (by decide) (show 3 < 4 by decide) (w := (.int (bY c3))) (congrArg Value.int (own_narb _)) g2 d5_31 ?_
  intro h_16 K_17 A_18
  have f_19 : Ary Z h_16 a2 .byte [(.int (bY c0)), (.int (bY c1)), (.int (bY c2)), (.int (bY c3))] := A_18
  refine nC C 3 4 d5_32 rfl rfl (#[aV a1, iV 4, aV a2, iV 3, iV 4, iV 3, iV c3]) rfl <| nC C 3 4 d5_35 rfl rfl (#[aV a1, iV 4, aV a2, iV 4, iV 4, iV 3, iV c3]) rfl <| nC C 3 4 d5_38 rfl rfl (#[aV a1, iV 4, aV a2, iV 4, iV 4, iV 4, iV c3]) rfl <| gT C d5_41 3 (by decide) <| iL C 4 d5_3 rfl <| iL C 4 d5_5 rfl <| cY C d5_7 (XT.ii_ge_t (by decide)) 44 (by decide) <| iL C 4 d5_44 rfl ?_
  refine g_ret C (v := (.int 4)) (ty := .int) rfl rfl (Or.inl ⟨rfl, Or.inl rfl, _, rfl⟩) d5_46 (by decide) (by decide) ?_
  exact ⟨rfl, (((((Keep.refl h0 [a2]).trans K_2 (allS (Or.inl (List.mem_of_getElem? (i := 0) rfl)) all0)).trans K_7 (allS (Or.inl (List.mem_of_getElem? (i := 0) rfl)) all0)).trans K_12 (allS (Or.inl (List.mem_of_getElem? (i := 0) rfl)) all0)).trans K_17 (allS (Or.inl (List.mem_of_getElem? (i := 0) rfl)) all0)), f_19⟩
theorem rm_comp2_4 (hw : HW a0 Z) (a1 : Addr) (c0 c1 c2 c3 : Int32) (h0 : Heap) (Z0 : n0 ≤ h0.size) (A1 : Ary Z h0 a1 .char [.int c0, .int c1, .int c2, .int c3]) (k0 : Ch c0) (k1 : Ch c1) (k2 : Ch c2) (k3 : Ch c3) :
    Met1 l Z ⟨"java/lang/StringUTF16", "compress", "([CII)[B"⟩ jdk_52_method_16_code 6 (some (.array .byte)) ⟨1, 1, 4, 18⟩ n0 #[(.ref a1), (.int 0), (.int 4)] h0 (fun v h => ∃ b : Addr, v = some (.ref b) ∧ h0.size ≤ b ∧ Keep h0 h [] ∧ Ary Z h b .byte [.int (bY c0), .int (bY c1), .int (bY c2), .int (bY c3)]) := by
  refine met_of (plainFor_of_name pn_4) (L0 := #[.val (.ref a1), .val (.int 0), .val (.int 4), .unset, .unset, .unset]) (by first | (simp [argsToLocals, Value.category]; done) | rfl) ?_
  intro B C
  change Ctx B l _ _ "java/lang/StringUTF16" "compress" _ _ Z at C
  refine iN C 4 d4_0 rfl <| ynewarray C (oW hw 20 rfl) (ty := .byte) rfl (by decide) (cap := 4) (by decide) (by decide) (by decide) (by decide) d4_1 ?_
  intro h_1 a_2 g_3 E_4 A_5
  have ne_6 : a1 ≠ a_2 := ne_new A1.lt g_3
  have ge_a_2 : n0 ≤ a_2 := lT Z0 (lE g_3.symm)
  have gs_a_2 : h0.size ≤ a_2 := lT (Nat.le_refl h0.size) (lE g_3.symm)
  have f_7 : Ary Z h_1 a_2 .byte [(.int 0), (.int 0), (.int 0), (.int 0)] := A_5
  show Go _ _ _ _ 1 4 3 _ [(.ref a_2)]
  refine aT C d4_3 (#[aV a1, iV 0, iV 4, aV a_2, uV, uV]) rfl rfl <| aN C ((.ref a1)) d4_4 rfl rfl <| iN C 0 d4_5 rfl <| aN C ((.ref a_2)) d4_6 rfl rfl <| iC C 0 d4_7 rfl <| iN C 4 d4_8 rfl ?_
  have f_8 := (A1.ext E_4)
  have f_9 := (lT Z0 E_4.1)
  refine cS C hw 21 22 18 23 rfl rfl rfl rfl (rm_comp1_4 hw a1 a_2 c0 c1 c2 c3 h_1 f_9 f_8 f_7 ge_a_2 ne_6 k0 k1 k2 k3) [] [(.ref a1), (.int 0), (.ref a_2), (.int 0), (.int 4)] pd_13 0 d4_9 ⟨rfl, rfl, rfl, rfl, rfl⟩ (by decide) ?_
  intro v_12 h_10 q_11
  obtain ⟨rfl, K_14, f_15⟩ := q_11
  show Go _ _ _ _ 1 4 12 _ [(.int 4)]
  refine iS C d4_12 (#[aV a1, iV 0, iV 4, aV a_2, iV 4, uV]) rfl <| iL C 4 d4_14 rfl <| iN C 4 d4_16 rfl <| cY C d4_17 (XT.ii_eq_t (by decide)) 57 (by decide) <| aN C ((.ref a_2)) d4_57 rfl rfl ?_
  refine g_ret C (v := (.ref a_2)) (ty := (.array .byte)) rfl rfl (Or.inr (Or.inr (Or.inr (Or.inr ⟨rfl, rfl, rfl⟩)))) d4_58 (by decide) (by decide) ?_
  exact ⟨a_2, rfl, gs_a_2, (((Keep.refl h0 []).ext E_4).trans K_14 (allS (Or.inr gs_a_2) all0)), f_15⟩
theorem rm_coderF_4 (hw : HW a0 Z) (a1 : Addr) (x0 x1 x2 x3 : Int32) (h0 : Heap) (Z0 : n0 ≤ h0.size) (A1 : Ary Z h0 a1 .byte [.int x0, .int x1, .int x2, .int x3]) :
    Met1 l Z ⟨"java/lang/StringUTF16", "coderFromArrayLen", "([BI)B"⟩ jdk_52_method_15_code 2 (some .byte) ⟨0, 0, 0, 0⟩ n0 #[(.ref a1), (.int 4)] h0 (fun v h => v = some (.int 0) ∧ h0 = h) := by
  refine met_of (plainFor_of_name pn_4) (L0 := #[.val (.ref a1), .val (.int 4)]) (by first | (simp [argsToLocals, Value.category]; done) | rfl) ?_
  intro B C
  change Ctx B l _ _ "java/lang/StringUTF16" "coderFromArrayLen" _ _ Z at C
  refine iN C 4 d6_0 rfl <| aN C ((.ref a1)) d6_1 rfl rfl <| yarraylength C A1 (z := 4) rfl d6_2 <| yisub C d6_3 <| eS [(.int 0)] rfl <| iB C 31 d6_4 rfl <| yiushr C d6_6 <| eS [(.int 0)] rfl <| yi2b C d6_7 <| eS [(.int 0)] rfl ?_
  refine g_ret C (v := (.int 0)) (ty := .byte) rfl rfl (Or.inl ⟨rfl, Or.inr (Or.inr (Or.inl rfl)), _, rfl⟩) d6_8 (by decide) (by decide) ?_
  exact ⟨rfl, rfl⟩
theorem rm_init4_4 (hw : HW a0 Z) (a1 a2 : Addr) (c0 c1 c2 c3 : Int32) (h0 : Heap) (Z0 : n0 ≤ h0.size) (cm : Um Z) (O : Old Z n0 h0) (E0 : Exa Z h0 a1 "java/lang/String") (F0 : Fld Z h0 a1 "java/lang/String" "value" "[B" .null) (F1 : Fld Z h0 a1 "java/lang/String" "coder" "B" (.int 0)) (g1 : n0 ≤ a1) (A2 : Ary Z h0 a2 .char [.int c0, .int c1, .int c2, .int c3]) (n12 : a1 ≠ a2) (k0 : Ch c0) (k1 : Ch c1) (k2 : Ch c2) (k3 : Ch c3) :
    Met1 l Z ⟨"java/lang/String", "<init>", "([CIILjava/lang/Void;)V"⟩ jdk_42_method_149_code 6 none ⟨2, 1, 4, 35⟩ n0 #[(.ref a1), (.ref a2), (.int 0), (.int 4), .null] h0 (fun v h => v = none ∧ Keep h0 h [a1] ∧ ∃ b : Addr, h0.size ≤ b ∧ Fld Z h a1 "java/lang/String" "value" "[B" (.ref b) ∧ Fld Z h a1 "java/lang/String" "coder" "B" (.int 0) ∧ Ary Z h b .byte [.int (bY c0), .int (bY c1), .int (bY c2), .int (bY c3)]) := by
  refine met_of (plainFor_of_name pn_5) (L0 := #[.val (.ref a1), .val (.ref a2), .val (.int 0), .val (.int 4), .val .null, .unset]) (by first | (simp [argsToLocals, Value.category]; done) | rfl) ?_
  intro B C
  change Ctx B l _ _ "java/lang/String" "<init>" _ _ Z at C
  have cm' := cm
  obtain ⟨⟨cz, Scz, hcz⟩, Sas, Shi, Slo, Sfm⟩ := cm'
  refine aN C ((.ref a1)) d2_0 rfl rfl <| yinitObj C (oW hw 12 rfl) (oW hw 13 rfl) (oW hw 14 rfl) rfl (by decide) (W := 0) (lE rfl) (by decide) d2_1 <| iN C 4 d2_4 rfl <| fY C d2_5 (XT.i0_ne_t (by decide)) 27 (by decide) <| ygetstatic C (host := "") (v := (.int cz)) (Or.inl (oW hw 15 rfl)) Via.refl (Scz.ext O.2) d2_27 <| yif_n C d2_30 (XT.i0_eq_f hcz) <| aN C ((.ref a2)) d2_33 rfl rfl <| iN C 0 d2_34 rfl <| iN C 4 d2_35 rfl <| cS C hw 16 17 18 19 rfl rfl rfl rfl (rm_comp2_4 hw a2 c0 c1 c2 c3 h0 Z0 A2 k0 k1 k2 k3) [] [(.ref a2), (.int 0), (.int 4)] pd_14 0 d2_36 ⟨rfl, rfl, rfl, rfl, rfl⟩ (by decide) ?_
  intro v_3 h_1 q_2
  obtain ⟨b_5, rfl, le_6, K_7, f_8⟩ := q_2
  have ne_9 : a1 ≠ b_5 := ne_ge E0.lt le_6
  have ne_10 : a2 ≠ b_5 := ne_ge A2.lt le_6
  have ge_b_5 : n0 ≤ b_5 := lT Z0 le_6
  have gs_b_5 : h0.size ≤ b_5 := lT (Nat.le_refl h0.size) le_6
  show Go _ _ _ _ 1 4 39 _ [(.ref b_5)]
  refine aS C d2_39 (#[aV a1, aV a2, iV 0, iV 4, .val .null, aV b_5]) rfl rfl <| aN C ((.ref a1)) d2_41 rfl rfl <| aL C ((.ref b_5)) d2_42 rfl rfl <| iN C 4 d2_44 rfl ?_
  have f_11 := (lT Z0 K_7.1)
  refine cS C hw 24 25 18 26 rfl rfl rfl rfl (rm_coderF_4 hw b_5 (bY c0) (bY c1) (bY c2) (bY c3) h_1 f_11 f_8) [(.ref a1)] [(.ref b_5), (.int 4)] pd_6 1 d2_45 ⟨rfl, rfl, rfl, rfl, rfl⟩ (by decide) ?_
  intro v_14 h_12 q_13
  obtain ⟨rfl, rfl⟩ := q_13
  show Go _ _ _ _ 1 4 48 _ [(.int 0), (.ref a1)]
  have f_16 := (F1.keep K_7 nin0)
  have f_17 := (E0.keep K_7)
  refine yputfield C (host := "") (v := (.int 0)) (Or.inl (oW hw 27 rfl)) Via.refl f_16 f_17 (Or.inr ⟨(oW hw 28 rfl), rfl, rfl⟩) (oW hw 3 rfl) (ty := .byte) (by decide) rfl rfl g1 d2_48 ?_
  intro h_18 W_19
  have f_20 := f_16.same W_19
  refine aN C ((.ref a1)) d2_51 rfl rfl <| aL C ((.ref b_5)) d2_52 rfl rfl ?_
  have f_21 := ((F0.keep K_7 nin0).other W_19 (Or.inr (slot_ne (Or.inr (oW hw 30 rfl)) (Or.inr (oW hw 28 rfl)) (by decide) (t := (.array .byte)) (t' := .byte) (by decide) (by decide))))
  have f_22 := (f_17.wr W_19)
  refine yputfield C (host := "") (v := (.ref b_5)) (Or.inl (oW hw 29 rfl)) Via.refl f_21 f_22 (Or.inr ⟨(oW hw 30 rfl), rfl, rfl⟩) (oW hw 3 rfl) (ty := (.array .byte)) (by decide) rfl rfl g1 d2_54 ?_
  intro h_23 W_24
  have f_25 := f_21.same W_24
  refine g_return C rfl d2_57 (by decide) (by decide) ?_
  have f_26 := (f_20.other W_24 (Or.inr (slot_ne (Or.inr (oW hw 28 rfl)) (Or.inr (oW hw 30 rfl)) (by decide) (t := .byte) (t' := (.array .byte)) (by decide) (by decide))))
  have f_27 := ((f_8.keep (Keep.of_wr W_19) (nin1 (Ne.symm ne_9))).keep (Keep.of_wr W_24) (nin1 (Ne.symm ne_9)))
  exact ⟨rfl, ((((Keep.refl h0 [a1]).trans K_7 all0).wr W_19 (Or.inl (List.mem_of_getElem? (i := 0) rfl))).wr W_24 (Or.inl (List.mem_of_getElem? (i := 0) rfl))), b_5, gs_b_5, f_25, f_26, f_27⟩
theorem rm_init1_4 (hw : HW a0 Z) (a1 a2 : Addr) (c0 c1 c2 c3 : Int32) (h0 : Heap) (Z0 : n0 ≤ h0.size) (cm : Um Z) (O : Old Z n0 h0) (E0 : Exa Z h0 a1 "java/lang/String") (F0 : Fld Z h0 a1 "java/lang/String" "value" "[B" .null) (F1 : Fld Z h0 a1 "java/lang/String" "coder" "B" (.int 0)) (g1 : n0 ≤ a1) (A2 : Ary Z h0 a2 .char [.int c0, .int c1, .int c2, .int c3]) (n12 : a1 ≠ a2) (k0 : Ch c0) (k1 : Ch c1) (k2 : Ch c2) (k3 : Ch c3) :
    Met1 l Z ⟨"java/lang/String", "<init>", "([C)V"⟩ jdk_42_method_3_code 2 none ⟨3, 1, 4, 52⟩ n0 #[(.ref a1), (.ref a2)] h0 (fun v h => v = none ∧ Keep h0 h [a1] ∧ ∃ b : Addr, h0.size ≤ b ∧ Fld Z h a1 "java/lang/String" "value" "[B" (.ref b) ∧ Fld Z h a1 "java/lang/String" "coder" "B" (.int 0) ∧ Ary Z h b .byte [.int (bY c0), .int (bY c1), .int (bY c2), .int (bY c3)]) := by
  refine met_of (plainFor_of_name pn_5) (L0 := #[.val (.ref a1), .val (.ref a2)]) (by first | (simp [argsToLocals, Value.category]; done) | rfl) ?_
  intro B C
  change Ctx B l _ _ "java/lang/String" "<init>" _ _ Z at C
  have cm' := cm
  obtain ⟨⟨cz, Scz, hcz⟩, Sas, Shi, Slo, Sfm⟩ := cm'
  refine aN C ((.ref a1)) d1_0 rfl rfl <| aN C ((.ref a2)) d1_1 rfl rfl <| iC C 0 d1_2 rfl <| aN C ((.ref a2)) d1_3 rfl rfl <| yarraylength C A2 (z := 4) rfl d1_4 <| yaconst_null C d1_5 <| cP C hw 8 9 4 11 rfl rfl rfl rfl rfl (rm_init4_4 hw a1 a2 c0 c1 c2 c3 h0 Z0 cm O E0 F0 F1 g1 A2 n12 k0 k1 k2 k3) [] [(.ref a2), (.int 0), (.int 4), .null] pd_24 0 d1_6 ⟨rfl, rfl, rfl, rfl, rfl⟩ (by decide) ?_
  intro v_3 h_1 q_2
  obtain ⟨rfl, K_5, b_6, le_7, f_8, f_9, f_10⟩ := q_2
  have ne_11 : a1 ≠ b_6 := ne_ge E0.lt le_7
  have ne_12 : a2 ≠ b_6 := ne_ge A2.lt le_7
  have ge_b_6 : n0 ≤ b_6 := lT Z0 le_7
  have gs_b_6 : h0.size ≤ b_6 := lT (Nat.le_refl h0.size) le_7
  show Go _ _ _ _ 1 4 9 _ []
  refine g_return C rfl d1_9 (by decide) (by decide) ?_
  exact ⟨rfl, ((Keep.refl h0 [a1]).trans K_5 (allS (Or.inl (List.mem_of_getElem? (i := 0) rfl)) all0)), b_6, gs_b_6, f_8, f_9, f_10⟩
theorem rm_nbl_4 (hw : HW a0 Z)  (h0 : Heap) (Z0 : n0 ≤ h0.size)  :
    Met1 l Z ⟨"java/lang/StringUTF16", "newBytesLength", "(I)I"⟩ jdk_52_method_3_code 1 (some .int) ⟨0, 0, 0, 0⟩ n0 #[(.int 4)] h0 (fun v h => v = some (.int 8) ∧ h0 = h) := by
  refine met_of (plainFor_of_name pn_4) (L0 := #[.val (.int 4)]) (by first | (simp [argsToLocals, Value.category]; done) | rfl) ?_
  intro B C
  change Ctx B l _ _ "java/lang/StringUTF16" "newBytesLength" _ _ Z at C
  refine iN C 4 d18_0 rfl <| fY C d18_1 (XT.i0_ge_t (by decide)) 12 (by decide) <| iN C 4 d18_12 rfl <| yldc C (v := 1073741823) (oW hw 80 rfl) d18_13 <| cY C d18_15 (XT.ii_lt_t (by decide)) 55 (by decide) <| iN C 4 d18_55 rfl <| iC C 1 d18_56 rfl <| yishl C d18_57 <| eS [(.int 8)] rfl ?_
  refine g_ret C (v := (.int 8)) (ty := .int) rfl rfl (Or.inl ⟨rfl, Or.inl rfl, _, rfl⟩) d18_58 (by decide) (by decide) ?_
  exact ⟨rfl, rfl⟩
theorem rm_nbf_4 (hw : HW a0 Z)  (h0 : Heap) (Z0 : n0 ≤ h0.size)  :
    Met1 l Z ⟨"java/lang/StringUTF16", "newBytesFor", "(I)[B"⟩ jdk_52_method_2_code 1 (some (.array .byte)) ⟨1, 1, 8, 12⟩ n0 #[(.int 4)] h0 (fun v h => ∃ b : Addr, v = some (.ref b) ∧ h0.size ≤ b ∧ Keep h0 h [] ∧ Ary Z h b .byte [.int 0, .int 0, .int 0, .int 0, .int 0, .int 0, .int 0, .int 0]) := by
  refine met_of (plainFor_of_name pn_4) (L0 := #[.val (.int 4)]) (by first | (simp [argsToLocals, Value.category]; done) | rfl) ?_
  intro B C
  change Ctx B l _ _ "java/lang/StringUTF16" "newBytesFor" _ _ Z at C
  refine iN C 4 d17_0 rfl <| cS C hw 77 78 18 79 rfl rfl rfl rfl (rm_nbl_4 hw  h0 Z0 ) [] [(.int 4)] pd_7 0 d17_1 ⟨rfl, rfl, rfl, rfl, rfl⟩ (by decide) ?_
  intro v_3 h_1 q_2
  obtain ⟨rfl, rfl⟩ := q_2
  show Go _ _ _ _ 0 0 4 _ [(.int 8)]
  refine ynewarray C (oW hw 20 rfl) (ty := .byte) rfl (by decide) (cap := 8) (by decide) (by decide) (by decide) (by decide) d17_4 ?_
  intro h_5 a_6 g_7 E_8 A_9
  have ge_a_6 : n0 ≤ a_6 := lT Z0 (lE g_7.symm)
  have gs_a_6 : h0.size ≤ a_6 := lT (Nat.le_refl h0.size) (lE g_7.symm)
  have f_10 : Ary Z h_5 a_6 .byte [(.int 0), (.int 0), (.int 0), (.int 0), (.int 0), (.int 0), (.int 0), (.int 0)] := A_9
  show Go _ _ _ _ 1 8 6 _ [(.ref a_6)]
  refine g_ret C (v := (.ref a_6)) (ty := (.array .byte)) rfl rfl (Or.inr (Or.inr (Or.inr (Or.inr ⟨rfl, rfl, rfl⟩)))) d17_6 (by decide) (by decide) ?_
  exact ⟨a_6, rfl, gs_a_6, ((Keep.refl h0 []).ext E_8), f_10⟩
theorem rm_put_4_0 (hw : HW a0 Z) (a1 : Addr) (x0 x1 x2 x3 x4 x5 x6 x7 c : Int32) (h0 : Heap) (Z0 : n0 ≤ h0.size) (cm : Um Z) (O : Old Z n0 h0) (A1 : Ary Z h0 a1 .byte [.int x0, .int x1, .int x2, .int x3, .int x4, .int x5, .int x6, .int x7]) (g1 : n0 ≤ a1) :
    Met1 l Z ⟨"java/lang/StringUTF16", "putChar", "([BII)V"⟩ jdk_52_method_4_code 3 none ⟨0, 0, 0, 0⟩ n0 #[(.ref a1), (.int 0), (.int c)] h0 (fun v h => v = none ∧ Keep h0 h [a1] ∧ Ary Z h a1 .byte [.int (bY (c >>> (0 &&& 31))), .int (bY (c >>> (8 &&& 31))), .int x2, .int x3, .int x4, .int x5, .int x6, .int x7]) := by
  refine met_of (plainFor_of_name pn_4) (L0 := #[.val (.ref a1), .val (.int 0), .val (.int c)]) (by first | (simp [argsToLocals, Value.category]; done) | rfl) ?_
  intro B C
  change Ctx B l _ _ "java/lang/StringUTF16" "putChar" _ _ Z at C
  have cm' := cm
  obtain ⟨⟨cz, Scz, hcz⟩, Sas, Shi, Slo, Sfm⟩ := cm'
  refine ygetstatic C (host := "") (v := (.int 1)) (Or.inl (oW hw 84 rfl)) Via.refl (Sas.ext O.2) d19_0 <| fY C d19_3 (XT.i0_ne_t (by decide)) 28 (by decide) <| iN C 0 d19_28 rfl <| iC C 1 d19_29 rfl <| yishl C d19_30 <| eS [(.int 0)] rfl <| iT C d19_31 (#[aV a1, iV 0, iV c]) rfl <| aN C ((.ref a1)) d19_32 rfl rfl <| iN C 0 d19_33 rfl <| nC C 0 1 d19_34 rfl rfl (#[aV a1, iV 1, iV c]) rfl <| iN C c d19_37 rfl <| ygetstatic C (host := "") (v := (.int 0)) (Or.inl (oW hw 85 rfl)) Via.refl (Shi.ext O.2) d19_38 <| yishr C d19_41 <| yi2b C d19_42 <| ybastoreB C A1 (by decide) (i := 0) (by decide) (show 0 < 8 by decide) (w := (.int (bY (c >>> (0 &&& 31))))) (congrArg Value.int (own_narb _)) g1 d19_43 ?_
  intro h_1 K_2 A_3
  have f_4 : Ary Z h_1 a1 .byte [(.int (bY (c >>> (0 &&& 31)))), (.int x1), (.int x2), (.int x3), (.int x4), (.int x5), (.int x6), (.int x7)] := A_3
  refine aN C ((.ref a1)) d19_44 rfl rfl <| iN C 1 d19_45 rfl <| iN C c d19_46 rfl ?_
  have f_5 := (O.keep K_2 (allS g1 all0))
  refine ygetstatic C (host := "") (v := (.int 8)) (Or.inl (oW hw 86 rfl)) Via.refl (Slo.ext f_5.2) d19_47 <| yishr C d19_50 <| yi2b C d19_51 <| ybastoreB C f_4 (by decide) (i := 1) (by decide) (show 1 < 8 by decide) (w := (.int (bY (c >>> (8 &&& 31))))) (congrArg Value.int (own_narb _)) g1 d19_52 ?_
  intro h_6 K_7 A_8
  have f_9 : Ary Z h_6 a1 .byte [(.int (bY (c >>> (0 &&& 31)))), (.int (bY (c >>> (8 &&& 31)))), (.int x2), (.int x3), (.int x4), (.int x5), (.int x6), (.int x7)] := A_8
  refine g_return C rfl d19_53 (by decide) (by decide) ?_
  exact ⟨rfl, (((Keep.refl h0 [a1]).trans K_2 (allS (Or.inl (List.mem_of_getElem? (i := 0) rfl)) all0)).trans K_7 (allS (Or.inl (List.mem_of_getElem? (i := 0) rfl)) all0)), f_9⟩
theorem rm_put_4_1 (hw : HW a0 Z) (a1 : Addr) (x0 x1 x2 x3 x4 x5 x6 x7 c : Int32) (h0 : Heap) (Z0 : n0 ≤ h0.size) (cm : Um Z) (O : Old Z n0 h0) (A1 : Ary Z h0 a1 .byte [.int x0, .int x1, .int x2, .int x3, .int x4, .int x5, .int x6, .int x7]) (g1 : n0 ≤ a1) :
    Met1 l Z ⟨"java/lang/StringUTF16", "putChar", "([BII)V"⟩ jdk_52_method_4_code 3 none ⟨0, 0, 0, 0⟩ n0 #[(.ref a1), (.int 1), (.int c)] h0 (fun v h => v = none ∧ Keep h0 h [a1] ∧ Ary Z h a1 .byte [.int x0, .int x1, .int (bY (c >>> (0 &&& 31))), .int (bY (c >>> (8 &&& 31))), .int x4, .int x5, .int x6, .int x7]) := by
  refine met_of (plainFor_of_name pn_4) (L0 := #[.val (.ref a1), .val (.int 1), .val (.int c)]) (by first | (simp [argsToLocals, Value.category]; done) | rfl) ?_
  intro B C
  change Ctx B l _ _ "java/lang/StringUTF16" "putChar" _ _ Z at C
  have cm' := cm
  obtain ⟨⟨cz, Scz, hcz⟩, Sas, Shi, Slo, Sfm⟩ := cm'
  refine ygetstatic C (host := "") (v := (.int 1)) (Or.inl (oW hw 84 rfl)) Via.refl (Sas.ext O.2) d19_0 <| fY C d19_3 (XT.i0_ne_t (by decide)) 28 (by decide) <| iN C 1 d19_28 rfl <| iC C 1 d19_29 rfl <| yishl C d19_30 <| eS [(.int 2)] rfl <| iT C d19_31 (#[aV a1, iV 2, iV c]) rfl <| aN C ((.ref a1)) d19_32 rfl rfl <| iN C 2 d19_33 rfl <| nC C 2 3 d19_34 rfl rfl (#[aV a1, iV 3, iV c]) rfl <| iN C c d19_37 rfl <| ygetstatic C (host := "") (v := (.int 0)) (Or.inl (oW hw 85 rfl)) Via.refl (Shi.ext O.2) d19_38 <| yishr C d19_41 <| yi2b C d19_42 <| ybastoreB C A1 (by decide) (i := 2) (by decide) (show 2 < 8 by decide) (w := (.int (bY (c >>> (0 &&& 31))))) (congrArg Value.int (own_narb _)) g1 d19_43 ?_
  intro h_1 K_2 A_3
  have f_4 : Ary Z h_1 a1 .byte [(.int x0), (.int x1), (.int (bY (c >>> (0 &&& 31)))), (.int x3), (.int x4), (.int x5), (.int x6), (.int x7)] := A_3
  refine aN C ((.ref a1)) d19_44 rfl rfl <| iN C 3 d19_45 rfl <| iN C c d19_46 rfl ?_
  have f_5 := (O.keep K_2 (allS g1 all0))
  refine ygetstatic C (host := "") (v := (.int 8)) (Or.inl (oW hw 86 rfl)) Via.refl (Slo.ext f_5.2) d19_47 <| yishr C d19_50 <| yi2b C d19_51 <| ybastoreB C f_4 (by decide) (i := 3) (by decide) (show 3 < 8 by decide) (w := (.int (bY (c >>> (8 &&& 31))))) (congrArg Value.int (own_narb _)) g1 d19_52 ?_
  intro h_6 K_7 A_8
  have f_9 : Ary Z h_6 a1 .byte [(.int x0), (.int x1), (.int (bY (c >>> (0 &&& 31)))), (.int (bY (c >>> (8 &&& 31)))), (.int x4), (.int x5), (.int x6), (.int x7)] := A_8
  refine g_return C rfl d19_53 (by decide) (by decide) ?_
  exact ⟨rfl, (((Keep.refl h0 [a1]).trans K_2 (allS (Or.inl (List.mem_of_getElem? (i := 0) rfl)) all0)).trans K_7 (allS (Or.inl (List.mem_of_getElem? (i := 0) rfl)) all0)), f_9⟩
theorem rm_put_4_2 (hw : HW a0 Z) (a1 : Addr) (x0 x1 x2 x3 x4 x5 x6 x7 c : Int32) (h0 : Heap) (Z0 : n0 ≤ h0.size) (cm : Um Z) (O : Old Z n0 h0) (A1 : Ary Z h0 a1 .byte [.int x0, .int x1, .int x2, .int x3, .int x4, .int x5, .int x6, .int x7]) (g1 : n0 ≤ a1) :
    Met1 l Z ⟨"java/lang/StringUTF16", "putChar", "([BII)V"⟩ jdk_52_method_4_code 3 none ⟨0, 0, 0, 0⟩ n0 #[(.ref a1), (.int 2), (.int c)] h0 (fun v h => v = none ∧ Keep h0 h [a1] ∧ Ary Z h a1 .byte [.int x0, .int x1, .int x2, .int x3, .int (bY (c >>> (0 &&& 31))), .int (bY (c >>> (8 &&& 31))), .int x6, .int x7]) := by
  refine met_of (plainFor_of_name pn_4) (L0 := #[.val (.ref a1), .val (.int 2), .val (.int c)]) (by first | (simp [argsToLocals, Value.category]; done) | rfl) ?_
  intro B C
  change Ctx B l _ _ "java/lang/StringUTF16" "putChar" _ _ Z at C
  have cm' := cm
  obtain ⟨⟨cz, Scz, hcz⟩, Sas, Shi, Slo, Sfm⟩ := cm'
  refine ygetstatic C (host := "") (v := (.int 1)) (Or.inl (oW hw 84 rfl)) Via.refl (Sas.ext O.2) d19_0 <| fY C d19_3 (XT.i0_ne_t (by decide)) 28 (by decide) <| iN C 2 d19_28 rfl <| iC C 1 d19_29 rfl <| yishl C d19_30 <| eS [(.int 4)] rfl <| iT C d19_31 (#[aV a1, iV 4, iV c]) rfl <| aN C ((.ref a1)) d19_32 rfl rfl <| iN C 4 d19_33 rfl <| nC C 4 5 d19_34 rfl rfl (#[aV a1, iV 5, iV c]) rfl <| iN C c d19_37 rfl <| ygetstatic C (host := "") (v := (.int 0)) (Or.inl (oW hw 85 rfl)) Via.refl (Shi.ext O.2) d19_38 <| yishr C d19_41 <| yi2b C d19_42 <| ybastoreB C A1 (by decide) (i := 4) (by decide) (show 4 < 8 by decide) (w := (.int (bY (c >>> (0 &&& 31))))) (congrArg Value.int (own_narb _)) g1 d19_43 ?_
  intro h_1 K_2 A_3
  have f_4 : Ary Z h_1 a1 .byte [(.int x0), (.int x1), (.int x2), (.int x3), (.int (bY (c >>> (0 &&& 31)))), (.int x5), (.int x6), (.int x7)] := A_3
  refine aN C ((.ref a1)) d19_44 rfl rfl <| iN C 5 d19_45 rfl <| iN C c d19_46 rfl ?_
  have f_5 := (O.keep K_2 (allS g1 all0))
  refine ygetstatic C (host := "") (v := (.int 8)) (Or.inl (oW hw 86 rfl)) Via.refl (Slo.ext f_5.2) d19_47 <| yishr C d19_50 <| yi2b C d19_51 <| ybastoreB C f_4 (by decide) (i := 5) (by decide) (show 5 < 8 by decide) (w := (.int (bY (c >>> (8 &&& 31))))) (congrArg Value.int (own_narb _)) g1 d19_52 ?_
  intro h_6 K_7 A_8
  have f_9 : Ary Z h_6 a1 .byte [(.int x0), (.int x1), (.int x2), (.int x3), (.int (bY (c >>> (0 &&& 31)))), (.int (bY (c >>> (8 &&& 31)))), (.int x6), (.int x7)] := A_8
  refine g_return C rfl d19_53 (by decide) (by decide) ?_
  exact ⟨rfl, (((Keep.refl h0 [a1]).trans K_2 (allS (Or.inl (List.mem_of_getElem? (i := 0) rfl)) all0)).trans K_7 (allS (Or.inl (List.mem_of_getElem? (i := 0) rfl)) all0)), f_9⟩
theorem rm_put_4_3 (hw : HW a0 Z) (a1 : Addr) (x0 x1 x2 x3 x4 x5 x6 x7 c : Int32) (h0 : Heap) (Z0 : n0 ≤ h0.size) (cm : Um Z) (O : Old Z n0 h0) (A1 : Ary Z h0 a1 .byte [.int x0, .int x1, .int x2, .int x3, .int x4, .int x5, .int x6, .int x7]) (g1 : n0 ≤ a1) :
    Met1 l Z ⟨"java/lang/StringUTF16", "putChar", "([BII)V"⟩ jdk_52_method_4_code 3 none ⟨0, 0, 0, 0⟩ n0 #[(.ref a1), (.int 3), (.int c)] h0 (fun v h => v = none ∧ Keep h0 h [a1] ∧ Ary Z h a1 .byte [.int x0, .int x1, .int x2, .int x3, .int x4, .int x5, .int (bY (c >>> (0 &&& 31))), .int (bY (c >>> (8 &&& 31)))]) := by
  refine met_of (plainFor_of_name pn_4) (L0 := #[.val (.ref a1), .val (.int 3), .val (.int c)]) (by first | (simp [argsToLocals, Value.category]; done) | rfl) ?_
  intro B C
  change Ctx B l _ _ "java/lang/StringUTF16" "putChar" _ _ Z at C
  have cm' := cm
  obtain ⟨⟨cz, Scz, hcz⟩, Sas, Shi, Slo, Sfm⟩ := cm'
  refine ygetstatic C (host := "") (v := (.int 1)) (Or.inl (oW hw 84 rfl)) Via.refl (Sas.ext O.2) d19_0 <| fY C d19_3 (XT.i0_ne_t (by decide)) 28 (by decide) <| iN C 3 d19_28 rfl <| iC C 1 d19_29 rfl <| yishl C d19_30 <| eS [(.int 6)] rfl <| iT C d19_31 (#[aV a1, iV 6, iV c]) rfl <| aN C ((.ref a1)) d19_32 rfl rfl <| iN C 6 d19_33 rfl <| nC C 6 7 d19_34 rfl rfl (#[aV a1, iV 7, iV c]) rfl <| iN C c d19_37 rfl <| ygetstatic C (host := "") (v := (.int 0)) (Or.inl (oW hw 85 rfl)) Via.refl (Shi.ext O.2) d19_38 <| yishr C d19_41 <| yi2b C d19_42 <| ybastoreB C A1 (by decide) (i := 6) (by decide) (show 6 < 8 by decide) (w := (.int (bY (c >>> (0 &&& 31))))) (congrArg Value.int (own_narb _)) g1 d19_43 ?_
  intro h_1 K_2 A_3
  have f_4 : Ary Z h_1 a1 .byte [(.int x0), (.int x1), (.int x2), (.int x3), (.int x4), (.int x5), (.int (bY (c >>> (0 &&& 31)))), (.int x7)] := A_3
  refine aN C ((.ref a1)) d19_44 rfl rfl <| iN C 7 d19_45 rfl <| iN C c d19_46 rfl ?_
  have f_5 := (O.keep K_2 (allS g1 all0))
  refine ygetstatic C (host := "") (v := (.int 8)) (Or.inl (oW hw 86 rfl)) Via.refl (Slo.ext f_5.2) d19_47 <| yishr C d19_50 <| yi2b C d19_51 <| ybastoreB C f_4 (by decide) (i := 7) (by decide) (show 7 < 8 by decide) (w := (.int (bY (c >>> (8 &&& 31))))) (congrArg Value.int (own_narb _)) g1 d19_52 ?_
  intro h_6 K_7 A_8
  have f_9 : Ary Z h_6 a1 .byte [(.int x0), (.int x1), (.int x2), (.int x3), (.int x4), (.int x5), (.int (bY (c >>> (0 &&& 31)))), (.int (bY (c >>> (8 &&& 31))))] := A_8
  refine g_return C rfl d19_53 (by decide) (by decide) ?_
  exact ⟨rfl, (((Keep.refl h0 [a1]).trans K_2 (allS (Or.inl (List.mem_of_getElem? (i := 0) rfl)) all0)).trans K_7 (allS (Or.inl (List.mem_of_getElem? (i := 0) rfl)) all0)), f_9⟩
theorem rm_toB_4 (hw : HW a0 Z) (a1 : Addr) (c0 c1 c2 c3 : Int32) (h0 : Heap) (Z0 : n0 ≤ h0.size) (cm : Um Z) (O : Old Z n0 h0) (A1 : Ary Z h0 a1 .char [.int c0, .int c1, .int c2, .int c3]) :
    Met1 l Z ⟨"java/lang/StringUTF16", "toBytes", "([CII)[B"⟩ jdk_52_method_14_code 5 (some (.array .byte)) ⟨2, 1, 8, 24⟩ n0 #[(.ref a1), (.int 0), (.int 4)] h0 (fun v h => ∃ b : Addr, v = some (.ref b) ∧ h0.size ≤ b ∧ Keep h0 h [] ∧ Ary Z h b .byte [.int (bY (c0 >>> (0 &&& 31))), .int (bY (c0 >>> (8 &&& 31))), .int (bY (c1 >>> (0 &&& 31))), .int (bY (c1 >>> (8 &&& 31))), .int (bY (c2 >>> (0 &&& 31))), .int (bY (c2 >>> (8 &&& 31))), .int (bY (c3 >>> (0 &&& 31))), .int (bY (c3 >>> (8 &&& 31)))]) := by
  refine met_of (plainFor_of_name pn_4) (L0 := #[.val (.ref a1), .val (.int 0), .val (.int 4), .unset, .unset]) (by first | (simp [argsToLocals, Value.category]; done) | rfl) ?_
  intro B C
  change Ctx B l _ _ "java/lang/StringUTF16" "toBytes" _ _ Z at C
  have cm' := cm
  obtain ⟨⟨cz, Scz, hcz⟩, Sas, Shi, Slo, Sfm⟩ := cm'
  refine iN C 4 d16_0 rfl <| cS C hw 74 75 18 76 rfl rfl rfl rfl (rm_nbf_4 hw  h0 Z0 ) [] [(.int 4)] pd_8 0 d16_1 ⟨rfl, rfl, rfl, rfl, rfl⟩ (by decide) ?_
  intro v_3 h_1 q_2
  obtain ⟨b_5, rfl, le_6, K_7, f_8⟩ := q_2
  have ne_9 : a1 ≠ b_5 := ne_ge A1.lt le_6
  have ge_b_5 : n0 ≤ b_5 := lT Z0 le_6
  have gs_b_5 : h0.size ≤ b_5 := lT (Nat.le_refl h0.size) le_6
  show Go _ _ _ _ 1 8 4 _ [(.ref b_5)]
  refine aT C d16_4 (#[aV a1, iV 0, iV 4, aV b_5, uV]) rfl rfl <| iC C 0 d16_5 rfl <| iS C d16_6 (#[aV a1, iV 0, iV 4, aV b_5, iV 0]) rfl <| iL C 0 d16_8 rfl <| iN C 4 d16_10 rfl <| yicmp_n C d16_11 (XT.ii_ge_f (by decide)) <| aN C ((.ref b_5)) d16_14 rfl rfl <| iL C 0 d16_15 rfl <| aN C ((.ref a1)) d16_17 rfl rfl <| iN C 0 d16_18 rfl ?_
  have f_10 := (A1.keep K_7 nin0)
  refine ycaload C f_10 (by decide) (i := 0) (by decide) (v := c0) rfl d16_19 ?_
  have f_11 := (O.keep K_7 all0)
  have f_12 := (lT Z0 K_7.1)
  refine cS C hw 81 82 18 83 rfl rfl rfl rfl (rm_put_4_0 hw b_5 0 0 0 0 0 0 0 0 c0 h_1 f_12 cm f_11 f_8 ge_b_5) [] [(.ref b_5), (.int 0), (.int c0)] pd_17 0 d16_20 ⟨rfl, rfl, rfl, rfl, rfl⟩ (by decide) ?_
  intro v_15 h_13 q_14
  obtain ⟨rfl, K_17, f_18⟩ := q_14
  show Go _ _ _ _ 1 8 23 _ []
  refine nC C 0 1 d16_23 rfl rfl (#[aV a1, iV 1, iV 4, aV b_5, iV 0]) rfl <| nC C 0 1 d16_26 rfl rfl (#[aV a1, iV 1, iV 4, aV b_5, iV 1]) rfl <| gT C d16_29 8 (by decide) <| iL C 1 d16_8 rfl <| iN C 4 d16_10 rfl <| yicmp_n C d16_11 (XT.ii_ge_f (by decide)) <| aN C ((.ref b_5)) d16_14 rfl rfl <| iL C 1 d16_15 rfl <| aN C ((.ref a1)) d16_17 rfl rfl <| iN C 1 d16_18 rfl ?_
  have f_19 := (f_10.keep K_17 (ninS ne_9 nin0))
  refine ycaload C f_19 (by decide) (i := 1) (by decide) (v := c1) rfl d16_19 ?_
  have f_20 := (f_11.keep K_17 (allS ge_b_5 all0))
  have f_21 := (lT f_12 K_17.1)
  refine cS C hw 81 82 18 83 rfl rfl rfl rfl (rm_put_4_1 hw b_5 (bY (c0 >>> (0 &&& 31))) (bY (c0 >>> (8 &&& 31))) 0 0 0 0 0 0 c1 h_13 f_21 cm f_20 f_18 ge_b_5) [] [(.ref b_5), (.int 1), (.int c1)] pd_17 0 d16_20 ⟨rfl, rfl, rfl, rfl, rfl⟩ (by decide) ?_
  intro v_24 h_22 q_23
  obtain ⟨rfl, K_26, f_27⟩ := q_23
  show Go _ _ _ _ 1 8 23 _ []
  refine nC C 1 2 d16_23 rfl rfl (#[aV a1, iV 2, iV 4, aV b_5, iV 1]) rfl <| nC C 1 2 d16_26 rfl rfl (#[aV a1, iV 2, iV 4, aV b_5, iV 2]) rfl <| gT C d16_29 8 (by decide) <| iL C 2 d16_8 rfl <| iN C 4 d16_10 rfl <| yicmp_n C d16_11 (XT.ii_ge_f (by decide)) <| aN C ((.ref b_5)) d16_14 rfl rfl <| iL C 2 d16_15 rfl <| aN C ((.ref a1)) d16_17 rfl rfl <| iN C 2 d16_18 rfl ?_
  have f_28 := (f_19.keep K_26 (ninS ne_9 nin0))
  refine ycaload C f_28 (by decide) (i := 2) (by decide) (v := c2) rfl d16_19 ?_
  have f_29 := (f_20.keep K_26 (allS ge_b_5 all0))
  have f_30 := (lT f_21 K_26.1)
  refine cS C hw 81 82 18 83 rfl rfl rfl rfl (rm_put_4_2 hw b_5 (bY (c0 >>> (0 &&& 31))) (bY (c0 >>> (8 &&& 31))) (bY (c1 >>> (0 &&& 31))) (bY (c1 >>> (8 &&& 31))) 0 0 0 0 c2 h_22 f_30 cm f_29 f_27 ge_b_5) [] [(.ref b_5), (.int 2), (.int c2)] pd_17 0 d16_20 ⟨rfl, rfl, rfl, rfl, rfl⟩ (by decide) ?_
  intro v_33 h_31 q_32
  obtain ⟨rfl, K_35, f_36⟩ := q_32
  show Go _ _ _ _ 1 8 23 _ []
  refine nC C 2 3 d16_23 rfl rfl (#[aV a1, iV 3, iV 4, aV b_5, iV 2]) rfl <| nC C 2 3 d16_26 rfl rfl (#[aV a1, iV 3, iV 4, aV b_5, iV 3]) rfl <| gT C d16_29 8 (by decide) <| iL C 3 d16_8 rfl <| iN C 4 d16_10 rfl <| yicmp_n C d16_11 (XT.ii_ge_f (by decide)) <| aN C ((.ref b_5)) d16_14 rfl rfl <| iL C 3 d16_15 rfl <| aN C ((.ref a1)) d16_17 rfl rfl <| iN C 3 d16_18 rfl ?_
  have f_37 := (f_28.keep K_35 (ninS ne_9 nin0))
  refine ycaload C f_37 (by decide) (i := 3) (by decide) (v := c3) rfl d16_19 ?_
  have f_38 := (f_29.keep K_35 (allS ge_b_5 all0))
  have f_39 := (lT f_30 K_35.1)
  refine cS C hw 81 82 18 83 rfl rfl rfl rfl (rm_put_4_3 hw b_5 (bY (c0 >>> (0 &&& 31))) (bY (c0 >>> (8 &&& 31))) (bY (c1 >>> (0 &&& 31))) (bY (c1 >>> (8 &&& 31))) (bY (c2 >>> (0 &&& 31))) (bY (c2 >>> (8 &&& 31))) 0 0 c3 h_31 f_39 cm f_38 f_36 ge_b_5) [] [(.ref b_5), (.int 3), (.int c3)] pd_17 0 d16_20 ⟨rfl, rfl, rfl, rfl, rfl⟩ (by decide) ?_
  intro v_42 h_40 q_41
  obtain ⟨rfl, K_44, f_45⟩ := q_41
  show Go _ _ _ _ 1 8 23 _ []
  refine nC C 3 4 d16_23 rfl rfl (#[aV a1, iV 4, iV 4, aV b_5, iV 3]) rfl <| nC C 3 4 d16_26 rfl rfl (#[aV a1, iV 4, iV 4, aV b_5, iV 4]) rfl <| gT C d16_29 8 (by decide) <| iL C 4 d16_8 rfl <| iN C 4 d16_10 rfl <| cY C d16_11 (XT.ii_ge_t (by decide)) 32 (by decide) <| aN C ((.ref b_5)) d16_32 rfl rfl ?_
  refine g_ret C (v := (.ref b_5)) (ty := (.array .byte)) rfl rfl (Or.inr (Or.inr (Or.inr (Or.inr ⟨rfl, rfl, rfl⟩)))) d16_33 (by decide) (by decide) ?_
  exact ⟨b_5, rfl, gs_b_5, ((((((Keep.refl h0 []).trans K_7 all0).trans K_17 (allS (Or.inr gs_b_5) all0)).trans K_26 (allS (Or.inr gs_b_5) all0)).trans K_35 (allS (Or.inr gs_b_5) all0)).trans K_44 (allS (Or.inr gs_b_5) all0)), f_45⟩
theorem rm_getC_4_1 (hw : HW a0 Z) (a1 : Addr) (x0 x1 x2 x3 x4 x5 x6 x7 c : Int32) (h0 : Heap) (Z0 : n0 ≤ h0.size) (cm : Um Z) (O : Old Z n0 h0) (A1 : Ary Z h0 a1 .byte [.int x0, .int x1, .int x2, .int x3, .int x4, .int x5, .int x6, .int x7]) (ec : (UInt32.toInt32 (UInt16.toUInt32 (UInt32.toUInt16 (Int32.toUInt32 (((x2 &&& 255) <<< (0 &&& 31)) ||| ((x3 &&& 255) <<< (8 &&& 31))))))) = c) (kc : nar .char c = c) :
    Met1 l Z ⟨"java/lang/StringUTF16", "getChar", "([BI)C"⟩ jdk_52_method_5_code 2 (some .char) ⟨0, 0, 0, 0⟩ n0 #[(.ref a1), (.int 1)] h0 (fun v h => v = some (.int c) ∧ h0 = h) := by
  refine met_of (plainFor_of_name pn_4) (L0 := #[.val (.ref a1), .val (.int 1)]) (by first | (simp [argsToLocals, Value.category]; done) | rfl) ?_
  intro B C
  change Ctx B l _ _ "java/lang/StringUTF16" "getChar" _ _ Z at C
  have cm' := cm
  obtain ⟨⟨cz, Scz, hcz⟩, Sas, Shi, Slo, Sfm⟩ := cm'
  refine ygetstatic C (host := "") (v := (.int 1)) (Or.inl (oW hw 84 rfl)) Via.refl (Sas.ext O.2) d20_0 <| fY C d20_3 (XT.i0_ne_t (by decide)) 28 (by decide) <| iN C 1 d20_28 rfl <| iC C 1 d20_29 rfl <| yishl C d20_30 <| eS [(.int 2)] rfl <| iT C d20_31 (#[aV a1, iV 2]) rfl <| aN C ((.ref a1)) d20_32 rfl rfl <| iN C 2 d20_33 rfl <| nC C 2 3 d20_34 rfl rfl (#[aV a1, iV 3]) rfl <| ybaloadB C A1 (by decide) (i := 2) (by decide) (v := x2) rfl d20_37 <| iP C 255 d20_38 rfl <| yiand C d20_41 <| ygetstatic C (host := "") (v := (.int 0)) (Or.inl (oW hw 85 rfl)) Via.refl (Shi.ext O.2) d20_42 <| yishl C d20_45 <| aN C ((.ref a1)) d20_46 rfl rfl <| iN C 3 d20_47 rfl <| ybaloadB C A1 (by decide) (i := 3) (by decide) (v := x3) rfl d20_48 <| iP C 255 d20_49 rfl <| yiand C d20_52 <| ygetstatic C (host := "") (v := (.int 8)) (Or.inl (oW hw 86 rfl)) Via.refl (Slo.ext O.2) d20_53 <| yishl C d20_56 <| yior C d20_57 <| yi2c C d20_58 ?_
  rw [ec]
  refine g_ret C (v := (.int c)) (ty := .char) rfl (own_nch kc) (Or.inl ⟨rfl, Or.inr (Or.inr (Or.inr (Or.inl rfl))), _, rfl⟩) d20_59 (by decide) (by decide) ?_
  exact ⟨rfl, rfl⟩
theorem rm_comp1B_4_1 (hw : HW a0 Z) (a1 a2 : Addr) (c0 c1 c2 c3 : Int32) (h0 : Heap) (Z0 : n0 ≤ h0.size) (A1 : Ary Z h0 a1 .char [.int c0, .int c1, .int c2, .int c3]) (A2 : Ary Z h0 a2 .byte [.int 0, .int 0, .int 0, .int 0]) (g2 : n0 ≤ a2) (n12 : a1 ≠ a2) (k0 : Ch c0) (k1 : Bg c1) (k2 : Ch c2) (k3 : Ch c3) :
    Met1 l Z ⟨"java/lang/StringUTF16", "compress", "([CI[BII)I"⟩ jdk_52_method_21_code 7 (some .int) ⟨0, 0, 0, 0⟩ n0 #[(.ref a1), (.int 0), (.ref a2), (.int 0), (.int 4)] h0 (fun v h => v = some (.int 1) ∧ Keep h0 h [a2]) := by
  refine met_of (plainFor_of_name pn_4) (L0 := #[.val (.ref a1), .val (.int 0), .val (.ref a2), .val (.int 0), .val (.int 4), .unset, .unset]) (by first | (simp [argsToLocals, Value.category]; done) | rfl) ?_
  intro B C
  change Ctx B l _ _ "java/lang/StringUTF16" "compress" _ _ Z at C
  refine iC C 0 d5_0 rfl <| iS C d5_1 (#[aV a1, iV 0, aV a2, iV 0, iV 4, iV 0, uV]) rfl <| iL C 0 d5_3 rfl <| iL C 4 d5_5 rfl <| yicmp_n C d5_7 (XT.ii_ge_f (by decide)) <| aN C ((.ref a1)) d5_10 rfl rfl <| iN C 0 d5_11 rfl <| ycaload C A1 (by decide) (i := 0) (by decide) (v := c0) rfl d5_12 <| iS C d5_13 (#[aV a1, iV 0, aV a2, iV 0, iV 4, iV 0, iV c0]) rfl <| iL C c0 d5_15 rfl <| iP C 255 d5_17 rfl <| cY C d5_20 (XT.ii_le_t k0.2.1) 26 (by decide) <| aN C ((.ref a2)) d5_26 rfl rfl <| iN C 0 d5_27 rfl <| iL C c0 d5_28 rfl <| yi2b C d5_30 <| ybastoreB C A2 (by decide) (i := 0) (by decide) (show 0 < 4 by decide) (w := (.int (bY c0))) (congrArg Value.int (own_narb _)) g2 d5_31 ?_
  intro h_1 K_2 A_3
  have f_4 : Ary Z h_1 a2 .byte [(.int (bY c0)), (.int 0), (.int 0), (.int 0)] := A_3
  refine nC C 0 1 d5_32 rfl rfl (#[aV a1, iV 1, aV a2, iV 0, iV 4, iV 0, iV c0]) rfl <| nC C 0 1 d5_35 rfl rfl (#[aV a1, iV 1, aV a2, iV 1, iV 4, iV 0, iV c0]) rfl <| nC C 0 1 d5_38 rfl rfl (#[aV a1, iV 1, aV a2, iV 1, iV 4, iV 1, iV c0]) rfl <| gT C d5_41 3 (by decide) <| iL C 1 d5_3 rfl <| iL C 4 d5_5 rfl <| yicmp_n C d5_7 (XT.ii_ge_f (by decide)) <| aN C ((.ref a1)) d5_10 rfl rfl <| iN C 1 d5_11 rfl ?_
  have f_5 := (A1.keep K_2 (ninS n12 nin0))
  refine ycaload C f_5 (by decide) (i := 1) (by decide) (v := c1) rfl d5_12 <| iS C d5_13 (#[aV a1, iV 1, aV a2, iV 1, iV 4, iV 1, iV c1]) rfl <| iL C c1 d5_15 rfl <| iP C 255 d5_17 rfl <| yicmp_n C d5_20 (XT.ii_le_f k1.2) <| iL C 1 d5_23 rfl ?_
  refine g_ret C (v := (.int 1)) (ty := .int) rfl rfl (Or.inl ⟨rfl, Or.inl rfl, _, rfl⟩) d5_25 (by decide) (by decide) ?_
  exact ⟨rfl, ((Keep.refl h0 [a2]).trans K_2 (allS (Or.inl (List.mem_of_getElem? (i := 0) rfl)) all0))⟩
theorem rm_comp2B_4_1 (hw : HW a0 Z) (a1 : Addr) (c0 c1 c2 c3 : Int32) (h0 : Heap) (Z0 : n0 ≤ h0.size) (cm : Um Z) (O : Old Z n0 h0) (A1 : Ary Z h0 a1 .char [.int c0, .int c1, .int c2, .int c3]) (k0 : Ch c0) (k1 : Bg c1) (k2 : Ch c2) (k3 : Ch c3) :
    Met1 l Z ⟨"java/lang/StringUTF16", "compress", "([CII)[B"⟩ jdk_52_method_16_code 6 (some (.array .byte)) ⟨3, 2, 12, 40⟩ n0 #[(.ref a1), (.int 0), (.int 4)] h0 (fun v h => ∃ b : Addr, v = some (.ref b) ∧ h0.size ≤ b ∧ Keep h0 h [] ∧ Ary Z h b .byte [.int (bY (c0 >>> (0 &&& 31))), .int (bY (c0 >>> (8 &&& 31))), .int (bY (c1 >>> (0 &&& 31))), .int (bY (c1 >>> (8 &&& 31))), .int (bY (c2 >>> (0 &&& 31))), .int (bY (c2 >>> (8 &&& 31))), .int (bY (c3 >>> (0 &&& 31))), .int (bY (c3 >>> (8 &&& 31)))]) := by
  refine met_of (plainFor_of_name pn_4) (L0 := #[.val (.ref a1), .val (.int 0), .val (.int 4), .unset, .unset, .unset]) (by first | (simp [argsToLocals, Value.category]; done) | rfl) ?_
  intro B C
  change Ctx B l _ _ "java/lang/StringUTF16" "compress" _ _ Z at C
  have cm' := cm
  obtain ⟨⟨cz, Scz, hcz⟩, Sas, Shi, Slo, Sfm⟩ := cm'
  refine iN C 4 d4_0 rfl <| ynewarray C (oW hw 20 rfl) (ty := .byte) rfl (by decide) (cap := 4) (by decide) (by decide) (by decide) (by decide) d4_1 ?_
  intro h_1 a_2 g_3 E_4 A_5
  have ne_6 : a1 ≠ a_2 := ne_new A1.lt g_3
  have ge_a_2 : n0 ≤ a_2 := lT Z0 (lE g_3.symm)
  have gs_a_2 : h0.size ≤ a_2 := lT (Nat.le_refl h0.size) (lE g_3.symm)
  have f_7 : Ary Z h_1 a_2 .byte [(.int 0), (.int 0), (.int 0), (.int 0)] := A_5
  show Go _ _ _ _ 1 4 3 _ [(.ref a_2)]
  refine aT C d4_3 (#[aV a1, iV 0, iV 4, aV a_2, uV, uV]) rfl rfl <| aN C ((.ref a1)) d4_4 rfl rfl <| iN C 0 d4_5 rfl <| aN C ((.ref a_2)) d4_6 rfl rfl <| iC C 0 d4_7 rfl <| iN C 4 d4_8 rfl ?_
  have f_8 := (A1.ext E_4)
  have f_9 := (lT Z0 E_4.1)
  refine cS C hw 21 22 18 23 rfl rfl rfl rfl (rm_comp1B_4_1 hw a1 a_2 c0 c1 c2 c3 h_1 f_9 f_8 f_7 ge_a_2 ne_6 k0 k1 k2 k3) [] [(.ref a1), (.int 0), (.ref a_2), (.int 0), (.int 4)] pd_13 0 d4_9 ⟨rfl, rfl, rfl, rfl, rfl⟩ (by decide) ?_
  intro v_12 h_10 q_11
  obtain ⟨rfl, K_14⟩ := q_11
  show Go _ _ _ _ 1 4 12 _ [(.int 1)]
  refine iS C d4_12 (#[aV a1, iV 0, iV 4, aV a_2, iV 1, uV]) rfl <| iL C 1 d4_14 rfl <| iN C 4 d4_16 rfl <| yicmp_n C d4_17 (XT.ii_eq_f (by decide)) <| aN C ((.ref a1)) d4_20 rfl rfl <| iN C 0 d4_21 rfl <| iN C 4 d4_22 rfl ?_
  have f_15 := ((O.ext E_4).keep K_14 (allS ge_a_2 all0))
  have f_16 := (f_8.keep K_14 (ninS ne_6 nin0))
  have f_17 := (lT f_9 K_14.1)
  have f_18 := (lT (lT (Nat.le_refl h0.size) E_4.1) K_14.1)
  refine cS C hw 71 72 18 73 rfl rfl rfl rfl (rm_toB_4 hw a1 c0 c1 c2 c3 h_10 f_17 cm f_15 f_16) [] [(.ref a1), (.int 0), (.int 4)] pd_18 0 d4_23 ⟨rfl, rfl, rfl, rfl, rfl⟩ (by decide) ?_
  intro v_21 h_19 q_20
  obtain ⟨b_23, rfl, le_24, K_25, f_26⟩ := q_20
  have ne_27 : a1 ≠ b_23 := ne_ge f_16.lt le_24
  have ge_b_23 : n0 ≤ b_23 := lT f_17 le_24
  have gs_b_23 : h0.size ≤ b_23 := lT f_18 le_24
  show Go _ _ _ _ 2 12 26 _ [(.ref b_23)]
  refine aS C d4_26 (#[aV a1, iV 0, iV 4, aV a_2, iV 1, aV b_23]) rfl rfl <| aL C ((.ref b_23)) d4_28 rfl rfl <| iL C 1 d4_30 rfl ?_
  have f_28 := (f_15.keep K_25 all0)
  have f_29 := (lT f_17 K_25.1)
  refine cS C hw 87 88 18 89 rfl rfl rfl rfl (rm_getC_4_1 hw b_23 (bY (c0 >>> (0 &&& 31))) (bY (c0 >>> (8 &&& 31))) (bY (c1 >>> (0 &&& 31))) (bY (c1 >>> (8 &&& 31))) (bY (c2 >>> (0 &&& 31))) (bY (c2 >>> (8 &&& 31))) (bY (c3 >>> (0 &&& 31))) (bY (c3 >>> (8 &&& 31))) c1 h_19 f_29 cm f_28 f_26 (own_gc k1.1) k1.1) [] [(.ref b_23), (.int 1)] pd_15 0 d4_32 ⟨rfl, rfl, rfl, rfl, rfl⟩ (by decide) ?_
  intro v_32 h_30 q_31
  obtain ⟨rfl, rfl⟩ := q_31
  show Go _ _ _ _ 2 12 35 _ [(.int c1)]
  refine iP C 255 d4_35 rfl <| cY C d4_38 (XT.ii_gt_t k1.2) 54 (by decide) <| aL C ((.ref b_23)) d4_54 rfl rfl ?_
  refine g_ret C (v := (.ref b_23)) (ty := (.array .byte)) rfl rfl (Or.inr (Or.inr (Or.inr (Or.inr ⟨rfl, rfl, rfl⟩)))) d4_56 (by decide) (by decide) ?_
  exact ⟨b_23, rfl, gs_b_23, ((((Keep.refl h0 []).ext E_4).trans K_14 (allS (Or.inr gs_a_2) all0)).trans K_25 all0), f_26⟩
theorem rm_coderB_4 (hw : HW a0 Z) (a1 : Addr) (x0 x1 x2 x3 x4 x5 x6 x7 : Int32) (h0 : Heap) (Z0 : n0 ≤ h0.size) (A1 : Ary Z h0 a1 .byte [.int x0, .int x1, .int x2, .int x3, .int x4, .int x5, .int x6, .int x7]) :
    Met1 l Z ⟨"java/lang/StringUTF16", "coderFromArrayLen", "([BI)B"⟩ jdk_52_method_15_code 2 (some .byte) ⟨0, 0, 0, 0⟩ n0 #[(.ref a1), (.int 4)] h0 (fun v h => v = some (.int 1) ∧ h0 = h) := by
  refine met_of (plainFor_of_name pn_4) (L0 := #[.val (.ref a1), .val (.int 4)]) (by first | (simp [argsToLocals, Value.category]; done) | rfl) ?_
  intro B C
  change Ctx B l _ _ "java/lang/StringUTF16" "coderFromArrayLen" _ _ Z at C
  refine iN C 4 d6_0 rfl <| aN C ((.ref a1)) d6_1 rfl rfl <| yarraylength C A1 (z := 8) rfl d6_2 <| yisub C d6_3 <| eS [(.int (-4 : Int32))] rfl <| iB C 31 d6_4 rfl <| yiushr C d6_6 <| eS [(.int 1)] rfl <| yi2b C d6_7 <| eS [(.int 1)] rfl ?_
  refine g_ret C (v := (.int 1)) (ty := .byte) rfl rfl (Or.inl ⟨rfl, Or.inr (Or.inr (Or.inl rfl)), _, rfl⟩) d6_8 (by decide) (by decide) ?_
  exact ⟨rfl, rfl⟩
theorem rm_init4B_4_1 (hw : HW a0 Z) (a1 a2 : Addr) (c0 c1 c2 c3 : Int32) (h0 : Heap) (Z0 : n0 ≤ h0.size) (cm : Um Z) (O : Old Z n0 h0) (E0 : Exa Z h0 a1 "java/lang/String") (F0 : Fld Z h0 a1 "java/lang/String" "value" "[B" .null) (F1 : Fld Z h0 a1 "java/lang/String" "coder" "B" (.int 0)) (g1 : n0 ≤ a1) (A2 : Ary Z h0 a2 .char [.int c0, .int c1, .int c2, .int c3]) (n12 : a1 ≠ a2) (k0 : Ch c0) (k1 : Bg c1) (k2 : Ch c2) (k3 : Ch c3) :
    Met1 l Z ⟨"java/lang/String", "<init>", "([CIILjava/lang/Void;)V"⟩ jdk_42_method_149_code 6 none ⟨4, 2, 12, 57⟩ n0 #[(.ref a1), (.ref a2), (.int 0), (.int 4), .null] h0 (fun v h => v = none ∧ Keep h0 h [a1] ∧ ∃ b : Addr, h0.size ≤ b ∧ Fld Z h a1 "java/lang/String" "value" "[B" (.ref b) ∧ Fld Z h a1 "java/lang/String" "coder" "B" (.int 1) ∧ Ary Z h b .byte [.int (bY (c0 >>> (0 &&& 31))), .int (bY (c0 >>> (8 &&& 31))), .int (bY (c1 >>> (0 &&& 31))), .int (bY (c1 >>> (8 &&& 31))), .int (bY (c2 >>> (0 &&& 31))), .int (bY (c2 >>> (8 &&& 31))), .int (bY (c3 >>> (0 &&& 31))), .int (bY (c3 >>> (8 &&& 31)))]) := by
  refine met_of (plainFor_of_name pn_5) (L0 := #[.val (.ref a1), .val (.ref a2), .val (.int 0), .val (.int 4), .val .null, .unset]) (by first | (simp [argsToLocals, Value.category]; done) | rfl) ?_
  intro B C
  change Ctx B l _ _ "java/lang/String" "<init>" _ _ Z at C
  have cm' := cm
  obtain ⟨⟨cz, Scz, hcz⟩, Sas, Shi, Slo, Sfm⟩ := cm'
  refine aN C ((.ref a1)) d2_0 rfl rfl <| yinitObj C (oW hw 12 rfl) (oW hw 13 rfl) (oW hw 14 rfl) rfl (by decide) (W := 0) (lE rfl) (by decide) d2_1 <| iN C 4 d2_4 rfl <| fY C d2_5 (XT.i0_ne_t (by decide)) 27 (by decide) <| ygetstatic C (host := "") (v := (.int cz)) (Or.inl (oW hw 15 rfl)) Via.refl (Scz.ext O.2) d2_27 <| yif_n C d2_30 (XT.i0_eq_f hcz) <| aN C ((.ref a2)) d2_33 rfl rfl <| iN C 0 d2_34 rfl <| iN C 4 d2_35 rfl <| cS C hw 16 17 18 19 rfl rfl rfl rfl (rm_comp2B_4_1 hw a2 c0 c1 c2 c3 h0 Z0 cm O A2 k0 k1 k2 k3) [] [(.ref a2), (.int 0), (.int 4)] pd_14 0 d2_36 ⟨rfl, rfl, rfl, rfl, rfl⟩ (by decide) ?_
  intro v_3 h_1 q_2
  obtain ⟨b_5, rfl, le_6, K_7, f_8⟩ := q_2
  have ne_9 : a1 ≠ b_5 := ne_ge E0.lt le_6
  have ne_10 : a2 ≠ b_5 := ne_ge A2.lt le_6
  have ge_b_5 : n0 ≤ b_5 := lT Z0 le_6
  have gs_b_5 : h0.size ≤ b_5 := lT (Nat.le_refl h0.size) le_6
  show Go _ _ _ _ 2 12 39 _ [(.ref b_5)]
  refine aS C d2_39 (#[aV a1, aV a2, iV 0, iV 4, .val .null, aV b_5]) rfl rfl <| aN C ((.ref a1)) d2_41 rfl rfl <| aL C ((.ref b_5)) d2_42 rfl rfl <| iN C 4 d2_44 rfl ?_
  have f_11 := (lT Z0 K_7.1)
  refine cS C hw 24 25 18 26 rfl rfl rfl rfl (rm_coderB_4 hw b_5 (bY (c0 >>> (0 &&& 31))) (bY (c0 >>> (8 &&& 31))) (bY (c1 >>> (0 &&& 31))) (bY (c1 >>> (8 &&& 31))) (bY (c2 >>> (0 &&& 31))) (bY (c2 >>> (8 &&& 31))) (bY (c3 >>> (0 &&& 31))) (bY (c3 >>> (8 &&& 31))) h_1 f_11 f_8) [(.ref a1)] [(.ref b_5), (.int 4)] pd_6 1 d2_45 ⟨rfl, rfl, rfl, rfl, rfl⟩ (by decide) ?_
  intro v_14 h_12 q_13
  obtain ⟨rfl, rfl⟩ := q_13
  show Go _ _ _ _ 2 12 48 _ [(.int 1), (.ref a1)]
  have f_16 := (F1.keep K_7 nin0)
  have f_17 := (E0.keep K_7)
  refine yputfield C (host := "") (v := (.int 1)) (Or.inl (oW hw 27 rfl)) Via.refl f_16 f_17 (Or.inr ⟨(oW hw 28 rfl), rfl, rfl⟩) (oW hw 3 rfl) (ty := .byte) (by decide) rfl rfl g1 d2_48 ?_
  intro h_18 W_19
  have f_20 := f_16.same W_19
  refine aN C ((.ref a1)) d2_51 rfl rfl <| aL C ((.ref b_5)) d2_52 rfl rfl ?_
  have f_21 := ((F0.keep K_7 nin0).other W_19 (Or.inr (slot_ne (Or.inr (oW hw 30 rfl)) (Or.inr (oW hw 28 rfl)) (by decide) (t := (.array .byte)) (t' := .byte) (by decide) (by decide))))
  have f_22 := (f_17.wr W_19)
  refine yputfield C (host := "") (v := (.ref b_5)) (Or.inl (oW hw 29 rfl)) Via.refl f_21 f_22 (Or.inr ⟨(oW hw 30 rfl), rfl, rfl⟩) (oW hw 3 rfl) (ty := (.array .byte)) (by decide) rfl rfl g1 d2_54 ?_
  intro h_23 W_24
  have f_25 := f_21.same W_24
  refine g_return C rfl d2_57 (by decide) (by decide) ?_
  have f_26 := (f_20.other W_24 (Or.inr (slot_ne (Or.inr (oW hw 28 rfl)) (Or.inr (oW hw 30 rfl)) (by decide) (t := .byte) (t' := (.array .byte)) (by decide) (by decide))))
  have f_27 := ((f_8.keep (Keep.of_wr W_19) (nin1 (Ne.symm ne_9))).keep (Keep.of_wr W_24) (nin1 (Ne.symm ne_9)))
  exact ⟨rfl, ((((Keep.refl h0 [a1]).trans K_7 all0).wr W_19 (Or.inl (List.mem_of_getElem? (i := 0) rfl))).wr W_24 (Or.inl (List.mem_of_getElem? (i := 0) rfl))), b_5, gs_b_5, f_25, f_26, f_27⟩
theorem rm_initB_4_1 (hw : HW a0 Z) (a1 a2 : Addr) (c0 c1 c2 c3 : Int32) (h0 : Heap) (Z0 : n0 ≤ h0.size) (cm : Um Z) (O : Old Z n0 h0) (E0 : Exa Z h0 a1 "java/lang/String") (F0 : Fld Z h0 a1 "java/lang/String" "value" "[B" .null) (F1 : Fld Z h0 a1 "java/lang/String" "coder" "B" (.int 0)) (g1 : n0 ≤ a1) (A2 : Ary Z h0 a2 .char [.int c0, .int c1, .int c2, .int c3]) (n12 : a1 ≠ a2) (k0 : Ch c0) (k1 : Bg c1) (k2 : Ch c2) (k3 : Ch c3) :
    Met1 l Z ⟨"java/lang/String", "<init>", "([C)V"⟩ jdk_42_method_3_code 2 none ⟨5, 2, 12, 74⟩ n0 #[(.ref a1), (.ref a2)] h0 (fun v h => v = none ∧ Keep h0 h [a1] ∧ ∃ b : Addr, h0.size ≤ b ∧ Fld Z h a1 "java/lang/String" "value" "[B" (.ref b) ∧ Fld Z h a1 "java/lang/String" "coder" "B" (.int 1) ∧ Ary Z h b .byte [.int (bY (c0 >>> (0 &&& 31))), .int (bY (c0 >>> (8 &&& 31))), .int (bY (c1 >>> (0 &&& 31))), .int (bY (c1 >>> (8 &&& 31))), .int (bY (c2 >>> (0 &&& 31))), .int (bY (c2 >>> (8 &&& 31))), .int (bY (c3 >>> (0 &&& 31))), .int (bY (c3 >>> (8 &&& 31)))]) := by
  refine met_of (plainFor_of_name pn_5) (L0 := #[.val (.ref a1), .val (.ref a2)]) (by first | (simp [argsToLocals, Value.category]; done) | rfl) ?_
  intro B C
  change Ctx B l _ _ "java/lang/String" "<init>" _ _ Z at C
  have cm' := cm
  obtain ⟨⟨cz, Scz, hcz⟩, Sas, Shi, Slo, Sfm⟩ := cm'
  refine aN C ((.ref a1)) d1_0 rfl rfl <| aN C ((.ref a2)) d1_1 rfl rfl <| iC C 0 d1_2 rfl <| aN C ((.ref a2)) d1_3 rfl rfl <| yarraylength C A2 (z := 4) rfl d1_4 <| yaconst_null C d1_5 <| cP C hw 8 9 4 11 rfl rfl rfl rfl rfl (rm_init4B_4_1 hw a1 a2 c0 c1 c2 c3 h0 Z0 cm O E0 F0 F1 g1 A2 n12 k0 k1 k2 k3) [] [(.ref a2), (.int 0), (.int 4), .null] pd_24 0 d1_6 ⟨rfl, rfl, rfl, rfl, rfl⟩ (by decide) ?_
  intro v_3 h_1 q_2
  obtain ⟨rfl, K_5, b_6, le_7, f_8, f_9, f_10⟩ := q_2
  have ne_11 : a1 ≠ b_6 := ne_ge E0.lt le_7
  have ne_12 : a2 ≠ b_6 := ne_ge A2.lt le_7
  have ge_b_6 : n0 ≤ b_6 := lT Z0 le_7
  have gs_b_6 : h0.size ≤ b_6 := lT (Nat.le_refl h0.size) le_7
  show Go _ _ _ _ 2 12 9 _ []
  refine g_return C rfl d1_9 (by decide) (by decide) ?_
  exact ⟨rfl, ((Keep.refl h0 [a1]).trans K_5 (allS (Or.inl (List.mem_of_getElem? (i := 0) rfl)) all0)), b_6, gs_b_6, f_8, f_9, f_10⟩
theorem rm_getC_4_2 (hw : HW a0 Z) (a1 : Addr) (x0 x1 x2 x3 x4 x5 x6 x7 c : Int32) (h0 : Heap) (Z0 : n0 ≤ h0.size) (cm : Um Z) (O : Old Z n0 h0) (A1 : Ary Z h0 a1 .byte [.int x0, .int x1, .int x2, .int x3, .int x4, .int x5, .int x6, .int x7]) (ec : (UInt32.toInt32 (UInt16.toUInt32 (UInt32.toUInt16 (Int32.toUInt32 (((x4 &&& 255) <<< (0 &&& 31)) ||| ((x5 &&& 255) <<< (8 &&& 31))))))) = c) (kc : nar .char c = c) :
    Met1 l Z ⟨"java/lang/StringUTF16", "getChar", "([BI)C"⟩ jdk_52_method_5_code 2 (some .char) ⟨0, 0, 0, 0⟩ n0 #[(.ref a1), (.int 2)] h0 (fun v h => v = some (.int c) ∧ h0 = h) := by
  refine met_of (plainFor_of_name pn_4) (L0 := #[.val (.ref a1), .val (.int 2)]) (by first | (simp [argsToLocals, Value.category]; done) | rfl) ?_
  intro B C
  change Ctx B l _ _ "java/lang/StringUTF16" "getChar" _ _ Z at C
  have cm' := cm
  obtain ⟨⟨cz, Scz, hcz⟩, Sas, Shi, Slo, Sfm⟩ := cm'
  refine ygetstatic C (host := "") (v := (.int 1)) (Or.inl (oW hw 84 rfl)) Via.refl (Sas.ext O.2) d20_0 <| fY C d20_3 (XT.i0_ne_t (by decide)) 28 (by decide) <| iN C 2 d20_28 rfl <| iC C 1 d20_29 rfl <| yishl C d20_30 <| eS [(.int 4)] rfl <| iT C d20_31 (#[aV a1, iV 4]) rfl <| aN C ((.ref a1)) d20_32 rfl rfl <| iN C 4 d20_33 rfl <| nC C 4 5 d20_34 rfl rfl (#[aV a1, iV 5]) rfl <| ybaloadB C A1 (by decide) (i := 4) (by decide) (v := x4) rfl d20_37 <| iP C 255 d20_38 rfl <| yiand C d20_41 <| ygetstatic C (host := "") (v := (.int 0)) (Or.inl (oW hw 85 rfl)) Via.refl (Shi.ext O.2) d20_42 <| yishl C d20_45 <| aN C ((.ref a1)) d20_46 rfl rfl <| iN C 5 d20_47 rfl <| ybaloadB C A1 (by decide) (i := 5) (by decide) (v := x5) rfl d20_48 <| iP C 255 d20_49 rfl <| yiand C d20_52 <| ygetstatic C (host := "") (v := (.int 8)) (Or.inl (oW hw 86 rfl)) Via.refl (Slo.ext O.2) d20_53 <| yishl C d20_56 <| yior C d20_57 <| yi2c C d20_58 ?_
  rw [ec]
  refine g_ret C (v := (.int c)) (ty := .char) rfl (own_nch kc) (Or.inl ⟨rfl, Or.inr (Or.inr (Or.inr (Or.inl rfl))), _, rfl⟩) d20_59 (by decide) (by decide) ?_
  exact ⟨rfl, rfl⟩
theorem rm_comp1B_4_2 (hw : HW a0 Z) (a1 a2 : Addr) (c0 c1 c2 c3 : Int32) (h0 : Heap) (Z0 : n0 ≤ h0.size) (A1 : Ary Z h0 a1 .char [.int c0, .int c1, .int c2, .int c3]) (A2 : Ary Z h0 a2 .byte [.int 0, .int 0, .int 0, .int 0]) (g2 : n0 ≤ a2) (n12 : a1 ≠ a2) (k0 : Ch c0) (k1 : Ch c1) (k2 : Bg c2) (k3 : Ch c3) :
    Met1 l Z ⟨"java/lang/StringUTF16", "compress", "([CI[BII)I"⟩ jdk_52_method_21_code 7 (some .int) ⟨0, 0, 0, 0⟩ n0 #[(.ref a1), (.int 0), (.ref a2), (.int 0), (.int 4)] h0 (fun v h => v = some (.int 2) ∧ Keep h0 h [a2]) := by
  refine met_of (plainFor_of_name pn_4) (L0 := #[.val (.ref a1), .val (.int 0), .val (.ref a2), .val (.int 0), .val (.int 4), .unset, .unset]) (by first | (simp [argsToLocals, Value.category]; done) | rfl) ?_
  intro B C
  change Ctx B l _ _ "java/lang/StringUTF16" "compress" _ _ Z at C
  refine iC C 0 d5_0 rfl <| iS C d5_1 (#[aV a1, iV 0, aV a2, iV 0, iV 4, iV 0, uV]) rfl <| iL C 0 d5_3 rfl <| iL C 4 d5_5 rfl <| yicmp_n C d5_7 (XT.ii_ge_f (by decide)) <| aN C ((.ref a1)) d5_10 rfl rfl <| iN C 0 d5_11 rfl <| ycaload C A1 (by decide) (i := 0) (by decide) (v := c0) rfl d5_12 <| iS C d5_13 (#[aV a1, iV 0, aV a2, iV 0, iV 4, iV 0, iV c0]) rfl <| iL C c0 d5_15 rfl <| iP C 255 d5_17 rfl <| cY C d5_20 (XT.ii_le_t k0.2.1) 26 (by decide) <| aN C ((.ref a2)) d5_26 rfl rfl <| iN C 0 d5_27 rfl <| iL C c0 d5_28 rfl <| yi2b C d5_30 <| ybastoreB C A2 (by decide) (i := 0) (by decide) (show 0 < 4 by decide) (w := (.int (bY c0))) (congrArg Value.int (own_narb _)) g2 d5_31 ?_
  intro h_1 K_2 A_3
  have f_4 : Ary Z h_1 a2 .byte [(.int (bY c0)), (.int 0), (.int 0), (.int 0)] := A_3
  refine nC C 0 1 d5_32 rfl rfl (#[aV a1, iV 1, aV a2, iV 0, iV 4, iV 0, iV c0]) rfl <| nC C 0 1 d5_35 rfl rfl (#[aV a1, iV 1, aV a2, iV 1, iV 4, iV 0, iV c0]) rfl <| nC C 0 1 d5_38 rfl rfl (#[aV a1, iV 1, aV a2, iV 1, iV 4, iV 1, iV c0]) rfl <| gT C d5_41 3 (by decide) <| iL C 1 d5_3 rfl <| iL C 4 d5_5 rfl <| yicmp_n C d5_7 (XT.ii_ge_f (by decide)) <| aN C ((.ref a1)) d5_10 rfl rfl <| iN C 1 d5_11 rfl ?_
  have f_5 := (A1.keep K_2 (ninS n12 nin0))
  refine ycaload C f_5 (by decide) (i := 1) (by decide) (v := c1) rfl d5_12 <| iS C d5_13 (#[aV a1, iV 1, aV a2, iV 1, iV 4, iV 1, iV c1]) rfl <| iL C c1 d5_15 rfl <| iP C 255 d5_17 rfl <| cY C d5_20 (XT.ii_le_t k1.2.1) 26 (by decide) <| aN C ((.ref a2)) d5_26 rfl rfl <| iN C 1 d5_27 rfl <| iL C c1 d5_28 rfl <| yi2b C d5_30 <| ybastoreB C f_4 (by decide) (i := 1) (by decide) (show 1 < 4 by decide) (w := (.int (bY c1))) (congrArg Value.int (own_narb _)) g2 d5_31 ?_
  intro h_6 K_7 A_8
  have f_9 : Ary Z h_6 a2 .byte [(.int (bY c0)), (.int (bY c1)), (.int 0), (.int 0)] := A_8
  refine nC C 1 2 d5_32 rfl rfl (#[aV a1, iV 2, aV a2, iV 1, iV 4, iV 1, iV c1]) rfl <| nC C 1 2 d5_35 rfl rfl (#[aV a1, iV 2, aV a2, iV 2, iV 4, iV 1, iV c1]) rfl <| nC C 1 2 d5_38 rfl rfl (#[aV a1, iV 2, aV a2, iV 2, iV 4, iV 2, iV c1]) rfl <| gT C d5_41 3 (by decide) <| iL C 2 d5_3 rfl <| iL C 4 d5_5 rfl <| yicmp_n C d5_7 (XT.ii_ge_f (by decide)) <| aN C ((.ref a1)) d5_10 rfl rfl <| iN C 2 d5_11 rfl ?_
  have f_10 := (f_5.keep K_7 (ninS n12 nin0))
  refine ycaload C f_10 (by decide) (i := 2) (by decide) (v := c2) rfl d5_12 <| iS C d5_13 (#[aV a1, iV 2, aV a2, iV 2, iV 4, iV 2, iV c2]) rfl <| iL C c2 d5_15 rfl <| iP C 255 d5_17 rfl <| yicmp_n C d5_20 (XT.ii_le_f k2.2) <| iL C 2 d5_23 rfl ?_
  refine g_ret C (v := (.int 2)) (ty := .int) rfl rfl (Or.inl ⟨rfl, Or.inl rfl, _, rfl⟩) d5_25 (by decide) (by decide) ?_
  exact ⟨rfl, (((Keep.refl h0 [a2]).trans K_2 (allS (Or.inl (List.mem_of_getElem? (i := 0) rfl)) all0)).trans K_7 (allS (Or.inl (List.mem_of_getElem? (i := 0) rfl)) all0))⟩
theorem rm_comp2B_4_2 (hw : HW a0 Z) (a1 : Addr) (c0 c1 c2 c3 : Int32) (h0 : Heap) (Z0 : n0 ≤ h0.size) (cm : Um Z) (O : Old Z n0 h0) (A1 : Ary Z h0 a1 .char [.int c0, .int c1, .int c2, .int c3]) (k0 : Ch c0) (k1 : Ch c1) (k2 : Bg c2) (k3 : Ch c3) :
    Met1 l Z ⟨"java/lang/StringUTF16", "compress", "([CII)[B"⟩ jdk_52_method_16_code 6 (some (.array .byte)) ⟨3, 2, 12, 40⟩ n0 #[(.ref a1), (.int 0), (.int 4)] h0 (fun v h => ∃ b : Addr, v = some (.ref b) ∧ h0.size ≤ b ∧ Keep h0 h [] ∧ Ary Z h b .byte [.int (bY (c0 >>> (0 &&& 31))), .int (bY (c0 >>> (8 &&& 31))), .int (bY (c1 >>> (0 &&& 31))), .int (bY (c1 >>> (8 &&& 31))), .int (bY (c2 >>> (0 &&& 31))), .int (bY (c2 >>> (8 &&& 31))), .int (bY (c3 >>> (0 &&& 31))), .int (bY (c3 >>> (8 &&& 31)))]) := by
  refine met_of (plainFor_of_name pn_4) (L0 := #[.val (.ref a1), .val (.int 0), .val (.int 4), .unset, .unset, .unset]) (by first | (simp [argsToLocals, Value.category]; done) | rfl) ?_
  intro B C
  change Ctx B l _ _ "java/lang/StringUTF16" "compress" _ _ Z at C
  have cm' := cm
  obtain ⟨⟨cz, Scz, hcz⟩, Sas, Shi, Slo, Sfm⟩ := cm'
  refine iN C 4 d4_0 rfl <| ynewarray C (oW hw 20 rfl) (ty := .byte) rfl (by decide) (cap := 4) (by decide) (by decide) (by decide) (by decide) d4_1 ?_
  intro h_1 a_2 g_3 E_4 A_5
  have ne_6 : a1 ≠ a_2 := ne_new A1.lt g_3
  have ge_a_2 : n0 ≤ a_2 := lT Z0 (lE g_3.symm)
  have gs_a_2 : h0.size ≤ a_2 := lT (Nat.le_refl h0.size) (lE g_3.symm)
  have f_7 : Ary Z h_1 a_2 .byte [(.int 0), (.int 0), (.int 0), (.int 0)] := A_5
  show Go _ _ _ _ 1 4 3 _ [(.ref a_2)]
  refine aT C d4_3 (#[aV a1, iV 0, iV 4, aV a_2, uV, uV]) rfl rfl <| aN C ((.ref a1)) d4_4 rfl rfl <| iN C 0 d4_5 rfl <| aN C ((.ref a_2)) d4_6 rfl rfl <| iC C 0 d4_7 rfl <| iN C 4 d4_8 rfl ?_
  have f_8 := (A1.ext E_4)
  have f_9 := (lT Z0 E_4.1)
  refine cS C hw 21 22 18 23 rfl rfl rfl rfl (rm_comp1B_4_2 hw a1 a_2 c0 c1 c2 c3 h_1 f_9 f_8 f_7 ge_a_2 ne_6 k0 k1 k2 k3) [] [(.ref a1), (.int 0), (.ref a_2), (.int 0), (.int 4)] pd_13 0 d4_9 ⟨rfl, rfl, rfl, rfl, rfl⟩ (by decide) ?_
  intro v_12 h_10 q_11
  obtain ⟨rfl, K_14⟩ := q_11
  show Go _ _ _ _ 1 4 12 _ [(.int 2)]
  refine iS C d4_12 (#[aV a1, iV 0, iV 4, aV a_2, iV 2, uV]) rfl <| iL C 2 d4_14 rfl <| iN C 4 d4_16 rfl <| yicmp_n C d4_17 (XT.ii_eq_f (by decide)) <| aN C ((.ref a1)) d4_20 rfl rfl <| iN C 0 d4_21 rfl <| iN C 4 d4_22 rfl ?_
  have f_15 := ((O.ext E_4).keep K_14 (allS ge_a_2 all0))
  have f_16 := (f_8.keep K_14 (ninS ne_6 nin0))
  have f_17 := (lT f_9 K_14.1)
  have f_18 := (lT (lT (Nat.le_refl h0.size) E_4.1) K_14.1)
  refine cS C hw 71 72 18 73 rfl rfl rfl rfl (rm_toB_4 hw a1 c0 c1 c2 c3 h_10 f_17 cm f_15 f_16) [] [(.ref a1), (.int 0), (.int 4)] pd_18 0 d4_23 ⟨rfl, rfl, rfl, rfl, rfl⟩ (by decide) ?_
  intro v_21 h_19 q_20
  obtain ⟨b_23, rfl, le_24, K_25, f_26⟩ := q_20
  have ne_27 : a1 ≠ b_23 := ne_ge f_16.lt le_24
  have ge_b_23 : n0 ≤ b_23 := lT f_17 le_24
  have gs_b_23 : h0.size ≤ b_23 := lT f_18 le_24
  show Go _ _ _ _ 2 12 26 _ [(.ref b_23)]
  refine aS C d4_26 (#[aV a1, iV 0, iV 4, aV a_2, iV 2, aV b_23]) rfl rfl <| aL C ((.ref b_23)) d4_28 rfl rfl <| iL C 2 d4_30 rfl ?_
  have f_28 := (f_15.keep K_25 all0)
  have f_29 := (lT f_17 K_25.1)
  refine cS C hw 87 88 18 89 rfl rfl rfl rfl (rm_getC_4_2 hw b_23 (bY (c0 >>> (0 &&& 31))) (bY (c0 >>> (8 &&& 31))) (bY (c1 >>> (0 &&& 31))) (bY (c1 >>> (8 &&& 31))) (bY (c2 >>> (0 &&& 31))) (bY (c2 >>> (8 &&& 31))) (bY (c3 >>> (0 &&& 31))) (bY (c3 >>> (8 &&& 31))) c2 h_19 f_29 cm f_28 f_26 (own_gc k2.1) k2.1) [] [(.ref b_23), (.int 2)] pd_15 0 d4_32 ⟨rfl, rfl, rfl, rfl, rfl⟩ (by decide) ?_
  intro v_32 h_30 q_31
  obtain ⟨rfl, rfl⟩ := q_31
  show Go _ _ _ _ 2 12 35 _ [(.int c2)]
  refine iP C 255 d4_35 rfl <| cY C d4_38 (XT.ii_gt_t k2.2) 54 (by decide) <| aL C ((.ref b_23)) d4_54 rfl rfl ?_
  refine g_ret C (v := (.ref b_23)) (ty := (.array .byte)) rfl rfl (Or.inr (Or.inr (Or.inr (Or.inr ⟨rfl, rfl, rfl⟩)))) d4_56 (by decide) (by decide) ?_
  exact ⟨b_23, rfl, gs_b_23, ((((Keep.refl h0 []).ext E_4).trans K_14 (allS (Or.inr gs_a_2) all0)).trans K_25 all0), f_26⟩
theorem rm_init4B_4_2 (hw : HW a0 Z) (a1 a2 : Addr) (c0 c1 c2 c3 : Int32) (h0 : Heap) (Z0 : n0 ≤ h0.size) (cm : Um Z) (O : Old Z n0 h0) (E0 : Exa Z h0 a1 "java/lang/String") (F0 : Fld Z h0 a1 "java/lang/String" "value" "[B" .null) (F1 : Fld Z h0 a1 "java/lang/String" "coder" "B" (.int 0)) (g1 : n0 ≤ a1) (A2 : Ary Z h0 a2 .char [.int c0, .int c1, .int c2, .int c3]) (n12 : a1 ≠ a2) (k0 : Ch c0) (k1 : Ch c1) (k2 : Bg c2) (k3 : Ch c3) :
    Met1 l Z ⟨"java/lang/String", "<init>", "([CIILjava/lang/Void;)V"⟩ jdk_42_method_149_code 6 none ⟨4, 2, 12, 57⟩ n0 #[(.ref a1), (.ref a2), (.int 0), (.int 4), .null] h0 (fun v h => v = none ∧ Keep h0 h [a1] ∧ ∃ b : Addr, h0.size ≤ b ∧ Fld Z h a1 "java/lang/String" "value" "[B" (.ref b) ∧ Fld Z h a1 "java/lang/String" "coder" "B" (.int 1) ∧ Ary Z h b .byte [.int (bY (c0 >>> (0 &&& 31))), .int (bY (c0 >>> (8 &&& 31))), .int (bY (c1 >>> (0 &&& 31))), .int (bY (c1 >>> (8 &&& 31))), .int (bY (c2 >>> (0 &&& 31))), .int (bY (c2 >>> (8 &&& 31))), .int (bY (c3 >>> (0 &&& 31))), .int (bY (c3 >>> (8 &&& 31)))]) := by
  refine met_of (plainFor_of_name pn_5) (L0 := #[.val (.ref a1), .val (.ref a2), .val (.int 0), .val (.int 4), .val .null, .unset]) (by first | (simp [argsToLocals, Value.category]; done) | rfl) ?_
  intro B C
  change Ctx B l _ _ "java/lang/String" "<init>" _ _ Z at C
  have cm' := cm
  obtain ⟨⟨cz, Scz, hcz⟩, Sas, Shi, Slo, Sfm⟩ := cm'
  refine aN C ((.ref a1)) d2_0 rfl rfl <| yinitObj C (oW hw 12 rfl) (oW hw 13 rfl) (oW hw 14 rfl) rfl (by decide) (W := 0) (lE rfl) (by decide) d2_1 <| iN C 4 d2_4 rfl <| fY C d2_5 (XT.i0_ne_t (by decide)) 27 (by decide) <| ygetstatic C (host := "") (v := (.int cz)) (Or.inl (oW hw 15 rfl)) Via.refl (Scz.ext O.2) d2_27 <| yif_n C d2_30 (XT.i0_eq_f hcz) <| aN C ((.ref a2)) d2_33 rfl rfl <| iN C 0 d2_34 rfl <| iN C 4 d2_35 rfl <| cS C hw 16 17 18 19 rfl rfl rfl rfl (rm_comp2B_4_2 hw a2 c0 c1 c2 c3 h0 Z0 cm O A2 k0 k1 k2 k3) [] [(.ref a2), (.int 0), (.int 4)] pd_14 0 d2_36 ⟨rfl, rfl, rfl, rfl, rfl⟩ (by decide) ?_
  intro v_3 h_1 q_2
  obtain ⟨b_5, rfl, le_6, K_7, f_8⟩ := q_2
  have ne_9 : a1 ≠ b_5 := ne_ge E0.lt le_6
  have ne_10 : a2 ≠ b_5 := ne_ge A2.lt le_6
  have ge_b_5 : n0 ≤ b_5 := lT Z0 le_6
  have gs_b_5 : h0.size ≤ b_5 := lT (Nat.le_refl h0.size) le_6
  show Go _ _ _ _ 2 12 39 _ [(.ref b_5)]
  refine aS C d2_39 (#[aV a1, aV a2, iV 0, iV 4, .val .null, aV b_5]) rfl rfl <| aN C ((.ref a1)) d2_41 rfl rfl <| aL C ((.ref b_5)) d2_42 rfl rfl <| iN C 4 d2_44 rfl ?_
  have f_11 := (lT Z0 K_7.1)
  refine cS C hw 24 25 18 26 rfl rfl rfl rfl (rm_coderB_4 hw b_5 (bY (c0 >>> (0 &&& 31))) (bY (c0 >>> (8 &&& 31))) (bY (c1 >>> (0 &&& 31))) (bY (c1 >>> (8 &&& 31))) (bY (c2 >>> (0 &&& 31))) (bY (c2 >>> (8 &&& 31))) (bY (c3 >>> (0 &&& 31))) (bY (c3 >>> (8 &&& 31))) h_1 f_11 f_8) [(.ref a1)] [(.ref b_5), (.int 4)] pd_6 1 d2_45 ⟨rfl, rfl, rfl, rfl, rfl⟩ (by decide) ?_
  intro v_14 h_12 q_13
  obtain ⟨rfl, rfl⟩ := q_13
  show Go _ _ _ _ 2 12 48 _ [(.int 1), (.ref a1)]
  have f_16 := (F1.keep K_7 nin0)
  have f_17 := (E0.keep K_7)
  refine yputfield C (host := "") (v := (.int 1)) (Or.inl (oW hw 27 rfl)) Via.refl f_16 f_17 (Or.inr ⟨(oW hw 28 rfl), rfl, rfl⟩) (oW hw 3 rfl) (ty := .byte) (by decide) rfl rfl g1 d2_48 ?_
  intro h_18 W_19
  have f_20 := f_16.same W_19
  refine aN C ((.ref a1)) d2_51 rfl rfl <| aL C ((.ref b_5)) d2_52 rfl rfl ?_
  have f_21 := ((F0.keep K_7 nin0).other W_19 (Or.inr (slot_ne (Or.inr (oW hw 30 rfl)) (Or.inr (oW hw 28 rfl)) (by decide) (t := (.array .byte)) (t' := .byte) (by decide) (by decide))))
  have f_22 := (f_17.wr W_19)
  refine yputfield C (host := "") (v := (.ref b_5)) (Or.inl (oW hw 29 rfl)) Via.refl f_21 f_22 (Or.inr ⟨(oW hw 30 rfl), rfl, rfl⟩) (oW hw 3 rfl) (ty := (.array .byte)) (by decide) rfl rfl g1 d2_54 ?_
  intro h_23 W_24
  have f_25 := f_21.same W_24
  refine g_return C rfl d2_57 (by decide) (by decide) ?_
  have f_26 := (f_20.other W_24 (Or.inr (slot_ne (Or.inr (oW hw 28 rfl)) (Or.inr (oW hw 30 rfl)) (by decide) (t := .byte) (t' := (.array .byte)) (by decide) (by decide))))
  have f_27 := ((f_8.keep (Keep.of_wr W_19) (nin1 (Ne.symm ne_9))).keep (Keep.of_wr W_24) (nin1 (Ne.symm ne_9)))
  exact ⟨rfl, ((((Keep.refl h0 [a1]).trans K_7 all0).wr W_19 (Or.inl (List.mem_of_getElem? (i := 0) rfl))).wr W_24 (Or.inl (List.mem_of_getElem? (i := 0) rfl))), b_5, gs_b_5, f_25, f_26, f_27⟩
theorem rm_initB_4_2 (hw : HW a0 Z) (a1 a2 : Addr) (c0 c1 c2 c3 : Int32) (h0 : Heap) (Z0 : n0 ≤ h0.size) (cm : Um Z) (O : Old Z n0 h0) (E0 : Exa Z h0 a1 "java/lang/String") (F0 : Fld Z h0 a1 "java/lang/String" "value" "[B" .null) (F1 : Fld Z h0 a1 "java/lang/String" "coder" "B" (.int 0)) (g1 : n0 ≤ a1) (A2 : Ary Z h0 a2 .char [.int c0, .int c1, .int c2, .int c3]) (n12 : a1 ≠ a2) (k0 : Ch c0) (k1 : Ch c1) (k2 : Bg c2) (k3 : Ch c3) :
    Met1 l Z ⟨"java/lang/String", "<init>", "([C)V"⟩ jdk_42_method_3_code 2 none ⟨5, 2, 12, 74⟩ n0 #[(.ref a1), (.ref a2)] h0 (fun v h => v = none ∧ Keep h0 h [a1] ∧ ∃ b : Addr, h0.size ≤ b ∧ Fld Z h a1 "java/lang/String" "value" "[B" (.ref b) ∧ Fld Z h a1 "java/lang/String" "coder" "B" (.int 1) ∧ Ary Z h b .byte [.int (bY (c0 >>> (0 &&& 31))), .int (bY (c0 >>> (8 &&& 31))), .int (bY (c1 >>> (0 &&& 31))), .int (bY (c1 >>> (8 &&& 31))), .int (bY (c2 >>> (0 &&& 31))), .int (bY (c2 >>> (8 &&& 31))), .int (bY (c3 >>> (0 &&& 31))), .int (bY (c3 >>> (8 &&& 31)))]) := by
  refine met_of (plainFor_of_name pn_5) (L0 := #[.val (.ref a1), .val (.ref a2)]) (by first | (simp [argsToLocals, Value.category]; done) | rfl) ?_
  intro B C
  change Ctx B l _ _ "java/lang/String" "<init>" _ _ Z at C
  have cm' := cm
  obtain ⟨⟨cz, Scz, hcz⟩, Sas, Shi, Slo, Sfm⟩ := cm'
  refine aN C ((.ref a1)) d1_0 rfl rfl <| aN C ((.ref a2)) d1_1 rfl rfl <| iC C 0 d1_2 rfl <| aN C ((.ref a2)) d1_3 rfl rfl <| yarraylength C A2 (z := 4) rfl d1_4 <| yaconst_null C d1_5 <| cP C hw 8 9 4 11 rfl rfl rfl rfl rfl (rm_init4B_4_2 hw a1 a2 c0 c1 c2 c3 h0 Z0 cm O E0 F0 F1 g1 A2 n12 k0 k1 k2 k3) [] [(.ref a2), (.int 0), (.int 4), .null] pd_24 0 d1_6 ⟨rfl, rfl, rfl, rfl, rfl⟩ (by decide) ?_
  intro v_3 h_1 q_2
  obtain ⟨rfl, K_5, b_6, le_7, f_8, f_9, f_10⟩ := q_2
  have ne_11 : a1 ≠ b_6 := ne_ge E0.lt le_7
  have ne_12 : a2 ≠ b_6 := ne_ge A2.lt le_7
  have ge_b_6 : n0 ≤ b_6 := lT Z0 le_7
  have gs_b_6 : h0.size ≤ b_6 := lT (Nat.le_refl h0.size) le_7
  show Go _ _ _ _ 2 12 9 _ []
  refine g_return C rfl d1_9 (by decide) (by decide) ?_
  exact ⟨rfl, ((Keep.refl h0 [a1]).trans K_5 (allS (Or.inl (List.mem_of_getElem? (i := 0) rfl)) all0)), b_6, gs_b_6, f_8, f_9, f_10⟩
theorem rm_getC_4_3 (hw : HW a0 Z) (a1 : Addr) (x0 x1 x2 x3 x4 x5 x6 x7 c : Int32) (h0 : Heap) (Z0 : n0 ≤ h0.size) (cm : Um Z) (O : Old Z n0 h0) (A1 : Ary Z h0 a1 .byte [.int x0, .int x1, .int x2, .int x3, .int x4, .int x5, .int x6, .int x7]) (ec : (UInt32.toInt32 (UInt16.toUInt32 (UInt32.toUInt16 (Int32.toUInt32 (((x6 &&& 255) <<< (0 &&& 31)) ||| ((x7 &&& 255) <<< (8 &&& 31))))))) = c) (kc : nar .char c = c) :
    Met1 l Z ⟨"java/lang/StringUTF16", "getChar", "([BI)C"⟩ jdk_52_method_5_code 2 (some .char) ⟨0, 0, 0, 0⟩ n0 #[(.ref a1), (.int 3)] h0 (fun v h => v = some (.int c) ∧ h0 = h) := by
  refine met_of (plainFor_of_name pn_4) (L0 := #[.val (.ref a1), .val (.int 3)]) (by first | (simp [argsToLocals, Value.category]; done) | rfl) ?_
  intro B C
  change Ctx B l _ _ "java/lang/StringUTF16" "getChar" _ _ Z at C
  have cm' := cm
  obtain ⟨⟨cz, Scz, hcz⟩, Sas, Shi, Slo, Sfm⟩ := cm'
  refine ygetstatic C (host := "") (v := (.int 1)) (Or.inl (oW hw 84 rfl)) Via.refl (Sas.ext O.2) d20_0 <| fY C d20_3 (XT.i0_ne_t (by decide)) 28 (by decide) <| iN C 3 d20_28 rfl <| iC C 1 d20_29 rfl <| yishl C d20_30 <| eS [(.int 6)] rfl <| iT C d20_31 (#[aV a1, iV 6]) rfl <| aN C ((.ref a1)) d20_32 rfl rfl <| iN C 6 d20_33 rfl <| nC C 6 7 d20_34 rfl rfl (#[aV a1, iV 7]) rfl <| ybaloadB C A1 (by decide) (i := 6) (by decide) (v := x6) rfl d20_37 <| iP C 255 d20_38 rfl <| yiand C d20_41 <| ygetstatic C (host := "") (v := (.int 0)) (Or.inl (oW hw 85 rfl)) Via.refl (Shi.ext O.2) d20_42 <| yishl C d20_45 <| aN C ((.ref a1)) d20_46 rfl rfl <| iN C 7 d20_47 rfl <| ybaloadB C A1 (by decide) (i := 7) (by decide) (v := x7) rfl d20_48 <| iP C 255 d20_49 rfl <| yiand C d20_52 <| ygetstatic C (host := "") (v := (.int 8)) (Or.inl (oW hw 86 rfl)) Via.refl (Slo.ext O.2) d20_53 <| yishl C d20_56 <| yior C d20_57 <| yi2c C d20_58 ?_
  rw [ec]
  refine g_ret C (v := (.int c)) (ty := .char) rfl (own_nch kc) (Or.inl ⟨rfl, Or.inr (Or.inr (Or.inr (Or.inl rfl))), _, rfl⟩) d20_59 (by decide) (by decide) ?_
  exact ⟨rfl, rfl⟩
theorem rm_comp1B_4_3 (hw : HW a0 Z) (a1 a2 : Addr) (c0 c1 c2 c3 : Int32) (h0 : Heap) (Z0 : n0 ≤ h0.size) (A1 : Ary Z h0 a1 .char [.int c0, .int c1, .int c2, .int c3]) (A2 : Ary Z h0 a2 .byte [.int 0, .int 0, .int 0, .int 0]) (g2 : n0 ≤ a2) (n12 : a1 ≠ a2) (k0 : Ch c0) (k1 : Ch c1) (k2 : Ch c2) (k3 : Bg c3) :
    Met1 l Z ⟨"java/lang/StringUTF16", "compress", "([CI[BII)I"⟩ jdk_52_method_21_code 7 (some .int) ⟨0, 0, 0, 0⟩ n0 #[(.ref a1), (.int 0), (.ref a2), (.int 0), (.int 4)] h0 (fun v h => v = some (.int 3) ∧ Keep h0 h [a2]) := by
  refine met_of (plainFor_of_name pn_4) (L0 := #[.val (.ref a1), .val (.int 0), .val (.ref a2), .val (.int 0), .val (.int 4), .unset, .unset]) (by first | (simp [argsToLocals, Value.category]; done) | rfl) ?_
  intro B C
  change Ctx B l _ _ "java/lang/StringUTF16" "compress" _ _ Z at C
  refine iC C 0 d5_0 rfl <| iS C d5_1 (#[aV a1, iV 0, aV a2, iV 0, iV 4, iV 0, uV]) rfl <| iL C 0 d5_3 rfl <| iL C 4 d5_5 rfl <| yicmp_n C d5_7 (XT.ii_ge_f (by decide)) <| aN C ((.ref a1)) d5_10 rfl rfl <| iN C 0 d5_11 rfl <| ycaload C A1 (by decide) (i := 0) (by decide) (v := c0) rfl d5_12 <| iS C d5_13 (#[aV a1, iV 0, aV a2, iV 0, iV 4, iV 0, iV c0]) rfl <| iL C c0 d5_15 rfl <| iP C 255 d5_17 rfl <| cY C d5_20 (XT.ii_le_t k0.2.1) 26 (by decide) <| aN C ((.ref a2)) d5_26 rfl rfl <| iN C 0 d5_27 rfl <| iL C c0 d5_28 rfl <| yi2b C d5_30 <| ybastoreB C A2 (by decide) (i := 0) (by decide) (show 0 < 4 by decide) (w := (.int (bY c0))) (congrArg Value.int (own_narb _)) g2 d5_31 ?_
  intro h_1 K_2 A_3
  have f_4 : Ary Z h_1 a2 .byte [(.int (bY c0)), (.int 0), (.int 0), (.int 0)] := A_3
  refine nC C 0 1 d5_32 rfl rfl (#[aV a1, iV 1, aV a2, iV 0, iV 4, iV 0, iV c0]) rfl <| nC C 0 1 d5_35 rfl rfl (#[aV a1, iV 1, aV a2, iV 1, iV 4, iV 0, iV c0]) rfl <| nC C 0 1 d5_38 rfl rfl (#[aV a1, iV 1, aV a2, iV 1, iV 4, iV 1, iV c0]) rfl <| gT C d5_41 3 (by decide) <| iL C 1 d5_3 rfl <| iL C 4 d5_5 rfl <| yicmp_n C d5_7 (XT.ii_ge_f (by decide)) <| aN C ((.ref a1)) d5_10 rfl rfl <| iN C 1 d5_11 rfl ?_
  have f_5 := (A1.keep K_2 (ninS n12 nin0))
  refine ycaload C f_5 (by decide) (i := 1) (by decide) (v := c1) rfl d5_12 <| iS C d5_13 (#[aV a1, iV 1, aV a2, iV 1, iV 4, iV 1, iV c1]) rfl <| iL C c1 d5_15 rfl <| iP C 255 d5_17 rfl <| cY C d5_20 (XT.ii_le_t k1.2.1) 26 (by decide) <| aN C ((.ref a2)) d5_26 rfl rfl <| iN C 1 d5_27 rfl <| iL C c1 d5_28 rfl <| yi2b C d5_30 <| ybastoreB C f_4 (by decide) (i := 1) (by decide) (show 1 < 4 by decide) (w := (.int (bY c1))) (congrArg Value.int (own_narb _)) g2 d5_31 ?_
  intro h_6 K_7 A_8
  have f_9 : Ary Z h_6 a2 .byte [(.int (bY c0)), (.int (bY c1)), (.int 0), (.int 0)] := A_8
  refine nC C 1 2 d5_32 rfl rfl (#[aV a1, iV 2, aV a2, iV 1, iV 4, iV 1, iV c1]) rfl <| nC C 1 2 d5_35 rfl rfl (#[aV a1, iV 2, aV a2, iV 2, iV 4, iV 1, iV c1]) rfl <| nC C 1 2 d5_38 rfl rfl (#[aV a1, iV 2, aV a2, iV 2, iV 4, iV 2, iV c1]) rfl <| gT C d5_41 3 (by decide) <| iL C 2 d5_3 rfl <| iL C 4 d5_5 rfl <| yicmp_n C d5_7 (XT.ii_ge_f (by decide)) <| aN C ((.ref a1)) d5_10 rfl rfl <| iN C 2 d5_11 rfl ?_
  have f_10 := (f_5.keep K_7 (ninS n12 nin0))
  refine ycaload C f_10 (by decide) (i := 2) (by decide) (v := c2) rfl d5_12 <| iS C d5_13 (#[aV a1, iV 2, aV a2, iV 2, iV 4, iV 2, iV c2]) rfl <| iL C c2 d5_15 rfl <| iP C 255 d5_17 rfl <| cY C d5_20 (XT.ii_le_t k2.2.1) 26 (by decide) <| aN C ((.ref a2)) d5_26 rfl rfl <| iN C 2 d5_27 rfl <| iL C c2 d5_28 rfl <| yi2b C d5_30 <| ybastoreB C f_9 (by decide) (i := 2) (by decide) (show 2 < 4 by decide) (w := (.int (bY c2))) (congrArg Value.int (own_narb _)) g2 d5_31 ?_
  intro h_11 K_12 A_13
  have f_14 : Ary Z h_11 a2 .byte [(.int (bY c0)), (.int (bY c1)), (.int (bY c2)), (.int 0)] := A_13
  refine nC C 2 3 d5_32 rfl rfl (#[aV a1, iV 3, aV a2, iV 2, iV 4, iV 2, iV c2]) rfl <| nC C 2 3 d5_35 rfl rfl (#[aV a1, iV 3, aV a2, iV 3, iV 4, iV 2, iV c2]) rfl <| nC C 2 3 d5_38 rfl rfl (#[aV a1, iV 3, aV a2, iV 3, iV 4, iV 3, iV c2]) rfl <| gT C d5_41 3 (by decide) <| iL C 3 d5_3 rfl <| iL C 4 d5_5 rfl <| yicmp_n C d5_7 (XT.ii_ge_f (by decide)) <| aN C ((.ref a1)) d5_10 rfl rfl <| iN C 3 d5_11 rfl ?_
  have f_15 := (f_10.keep K_12 (ninS n12 nin0))
  refine ycaload C f_15 (by decide) (i := 3) (by decide) (v := c3) rfl d5_12 <| iS C d5_13 (#[aV a1, iV 3, aV a2, iV 3, iV 4, iV 3, iV c3]) rfl <| iL C c3 d5_15 rfl <| iP C 255 d5_17 rfl <| yicmp_n C d5_20 (XT.ii_le_f k3.2) <| iL C 3 d5_23 rfl ?_
  refine g_ret C (v := (.int 3)) (ty := .int) rfl rfl (Or.inl ⟨rfl, Or.inl rfl, _, rfl⟩) d5_25 (by decide) (by decide) ?_
  exact ⟨rfl, ((((Keep.refl h0 [a2]).trans K_2 (allS (Or.inl (List.mem_of_getElem? (i := 0) rfl)) all0)).trans K_7 (allS (Or.inl (List.mem_of_getElem? (i := 0) rfl)) all0)).trans K_12 (allS (Or.inl (List.mem_of_getElem? (i := 0) rfl)) all0))⟩
theorem rm_comp2B_4_3 (hw : HW a0 Z) (a1 : Addr) (c0 c1 c2 c3 : Int32) (h0 : Heap) (Z0 : n0 ≤ h0.size) (cm : Um Z) (O : Old Z n0 h0) (A1 : Ary Z h0 a1 .char [.int c0, .int c1, .int c2, .int c3]) (k0 : Ch c0) (k1 : Ch c1) (k2 : Ch c2) (k3 : Bg c3) :
    Met1 l Z ⟨"java/lang/StringUTF16", "compress", "([CII)[B"⟩ jdk_52_method_16_code 6 (some (.array .byte)) ⟨3, 2, 12, 40⟩ n0 #[(.ref a1), (.int 0), (.int 4)] h0 (fun v h => ∃ b : Addr, v = some (.ref b) ∧ h0.size ≤ b ∧ Keep h0 h [] ∧ Ary Z h b .byte [.int (bY (c0 >>> (0 &&& 31))), .int (bY (c0 >>> (8 &&& 31))), .int (bY (c1 >>> (0 &&& 31))), .int (bY (c1 >>> (8 &&& 31))), .int (bY (c2 >>> (0 &&& 31))), .int (bY (c2 >>> (8 &&& 31))), .int (bY (c3 >>> (0 &&& 31))), .int (bY (c3 >>> (8 &&& 31)))]) := by
  refine met_of (plainFor_of_name pn_4) (L0 := #[.val (.ref a1), .val (.int 0), .val (.int 4), .unset, .unset, .unset]) (by first | (simp [argsToLocals, Value.category]; done) | rfl) ?_
  intro B C
  change Ctx B l _ _ "java/lang/StringUTF16" "compress" _ _ Z at C
  have cm' := cm
  obtain ⟨⟨cz, Scz, hcz⟩, Sas, Shi, Slo, Sfm⟩ := cm'
  refine iN C 4 d4_0 rfl <| ynewarray C (oW hw 20 rfl) (ty := .byte) rfl (by decide) (cap := 4) (by decide) (by decide) (by decide) (by decide) d4_1 ?_
  intro h_1 a_2 g_3 E_4 A_5
  have ne_6 : a1 ≠ a_2 := ne_new A1.lt g_3
  have ge_a_2 : n0 ≤ a_2 := lT Z0 (lE g_3.symm)
  have gs_a_2 : h0.size ≤ a_2 := lT (Nat.le_refl h0.size) (lE g_3.symm)
  have f_7 : Ary Z h_1 a_2 .byte [(.int 0), (.int 0), (.int 0), (.int 0)] := A_5
  show Go _ _ _ _ 1 4 3 _ [(.ref a_2)]
  refine aT C d4_3 (#[aV a1, iV 0, iV 4, aV a_2, uV, uV]) rfl rfl <| aN C ((.ref a1)) d4_4 rfl rfl <| iN C 0 d4_5 rfl <| aN C ((.ref a_2)) d4_6 rfl rfl <| iC C 0 d4_7 rfl <| iN C 4 d4_8 rfl ?_
  have f_8 := (A1.ext E_4)
  have f_9 := (lT Z0 E_4.1)
  refine cS C hw 21 22 18 23 rfl rfl rfl rfl (rm_comp1B_4_3 hw a1 a_2 c0 c1 c2 c3 h_1 f_9 f_8 f_7 ge_a_2 ne_6 k0 k1 k2 k3) [] [(.ref a1), (.int 0), (.ref a_2), (.int 0), (.int 4)] pd_13 0 d4_9 ⟨rfl, rfl, rfl, rfl, rfl⟩ (by decide) ?_
  intro v_12 h_10 q_11
  obtain ⟨rfl, K_14⟩ := q_11
  show Go _ _ _ _ 1 4 12 _ [(.int 3)]
  refine iS C d4_12 (#[aV a1, iV 0, iV 4, aV a_2, iV 3, uV]) rfl <| iL C 3 d4_14 rfl <| iN C 4 d4_16 rfl <| yicmp_n C d4_17 (XT.ii_eq_f (by decide)) <| aN C ((.ref a1)) d4_20 rfl rfl <| iN C 0 d4_21 rfl <| iN C 4 d4_22 rfl ?_
  have f_15 := ((O.ext E_4).keep K_14 (allS ge_a_2 all0))
  have f_16 := (f_8.keep K_14 (ninS ne_6 nin0))
  have f_17 := (lT f_9 K_14.1)
  have f_18 := (lT (lT (Nat.le_refl h0.size) E_4.1) K_14.1)
  refine cS C hw 71 72 18 73 rfl rfl rfl rfl (rm_toB_4 hw a1 c0 c1 c2 c3 h_10 f_17 cm f_15 f_16) [] [(.ref a1), (.int 0), (.int 4)] pd_18 0 d4_23 ⟨rfl, rfl, rfl, rfl, rfl⟩ (by decide) ?_
  intro v_21 h_19 q_20
  obtain ⟨b_23, rfl, le_24, K_25, f_26⟩ := q_20
  have ne_27 : a1 ≠ b_23 := ne_ge f_16.lt le_24
  have ge_b_23 : n0 ≤ b_23 := lT f_17 le_24
  have gs_b_23 : h0.size ≤ b_23 := lT f_18 le_24
  show Go _ _ _ _ 2 12 26 _ [(.ref b_23)]
  refine aS C d4_26 (#[aV a1, iV 0, iV 4, aV a_2, iV 3, aV b_23]) rfl rfl <| aL C ((.ref b_23)) d4_28 rfl rfl <| iL C 3 d4_30 rfl ?_
  have f_28 := (f_15.keep K_25 all0)
  have f_29 := (lT f_17 K_25.1)
  refine cS C hw 87 88 18 89 rfl rfl rfl rfl (rm_getC_4_3 hw b_23 (bY (c0 >>> (0 &&& 31))) (bY (c0 >>> (8 &&& 31))) (bY (c1 >>> (0 &&& 31))) (bY (c1 >>> (8 &&& 31))) (bY (c2 >>> (0 &&& 31))) (bY (c2 >>> (8 &&& 31))) (bY (c3 >>> (0 &&& 31))) (bY (c3 >>> (8 &&& 31))) c3 h_19 f_29 cm f_28 f_26 (own_gc k3.1) k3.1) [] [(.ref b_23), (.int 3)] pd_15 0 d4_32 ⟨rfl, rfl, rfl, rfl, rfl⟩ (by decide) ?_
  intro v_32 h_30 q_31
  obtain ⟨rfl, rfl⟩ := q_31
  show Go _ _ _ _ 2 12 35 _ [(.int c3)]
  refine iP C 255 d4_35 rfl <| cY C d4_38 (XT.ii_gt_t k3.2) 54 (by decide) <| aL C ((.ref b_23)) d4_54 rfl rfl ?_
  refine g_ret C (v := (.ref b_23)) (ty := (.array .byte)) rfl rfl (Or.inr (Or.inr (Or.inr (Or.inr ⟨rfl, rfl, rfl⟩)))) d4_56 (by decide) (by decide) ?_
  exact ⟨b_23, rfl, gs_b_23, ((((Keep.refl h0 []).ext E_4).trans K_14 (allS (Or.inr gs_a_2) all0)).trans K_25 all0), f_26⟩
theorem rm_init4B_4_3 (hw : HW a0 Z) (a1 a2 : Addr) (c0 c1 c2 c3 : Int32) (h0 : Heap) (Z0 : n0 ≤ h0.size) (cm : Um Z) (O : Old Z n0 h0) (E0 : Exa Z h0 a1 "java/lang/String") (F0 : Fld Z h0 a1 "java/lang/String" "value" "[B" .null) (F1 : Fld Z h0 a1 "java/lang/String" "coder" "B" (.int 0)) (g1 : n0 ≤ a1) (A2 : Ary Z h0 a2 .char [.int c0, .int c1, .int c2, .int c3]) (n12 : a1 ≠ a2) (k0 : Ch c0) (k1 : Ch c1) (k2 : Ch c2) (k3 : Bg c3) :
    Met1 l Z ⟨"java/lang/String", "<init>", "([CIILjava/lang/Void;)V"⟩ jdk_42_method_149_code 6 none ⟨4, 2, 12, 57⟩ n0 #[(.ref a1), (.ref a2), (.int 0), (.int 4), .null] h0 (fun v h => v = none ∧ Keep h0 h [a1] ∧ ∃ b : Addr, h0.size ≤ b ∧ Fld Z h a1 "java/lang/String" "value" "[B" (.ref b) ∧ Fld Z h a1 "java/lang/String" "coder" "B" (.int 1) ∧ Ary Z h b .byte [.int (bY (c0 >>> (0 &&& 31))), .int (bY (c0 >>> (8 &&& 31))), .int (bY (c1 >>> (0 &&& 31))), .int (bY (c1 >>> (8 &&& 31))), .int (bY (c2 >>> (0 &&& 31))), .int (bY (c2 >>> (8 &&& 31))), .int (bY (c3 >>> (0 &&& 31))), .int (bY (c3 >>> (8 &&& 31)))]) := by
  refine met_of (plainFor_of_name pn_5) (L0 := #[.val (.ref a1), .val (.ref a2), .val (.int 0), .val (.int 4), .val .null, .unset]) (by first | (simp [argsToLocals, Value.category]; done) | rfl) ?_
  intro B C
  change Ctx B l _ _ "java/lang/String" "<init>" _ _ Z at C
  have cm' := cm
  obtain ⟨⟨cz, Scz, hcz⟩, Sas, Shi, Slo, Sfm⟩ := cm'
  refine aN C ((.ref a1)) d2_0 rfl rfl <| yinitObj C (oW hw 12 rfl) (oW hw 13 rfl) (oW hw 14 rfl) rfl (by decide) (W := 0) (lE rfl) (by decide) d2_1 <| iN C 4 d2_4 rfl <| fY C d2_5 (XT.i0_ne_t (by decide)) 27 (by decide) <| ygetstatic C (host := "") (v := (.int cz)) (Or.inl (oW hw 15 rfl)) Via.refl (Scz.ext O.2) d2_27 <| yif_n C d2_30 (XT.i0_eq_f hcz) <| aN C ((.ref a2)) d2_33 rfl rfl <| iN C 0 d2_34 rfl <| iN C 4 d2_35 rfl <| cS C hw 16 17 18 19 rfl rfl rfl rfl (rm_comp2B_4_3 hw a2 c0 c1 c2 c3 h0 Z0 cm O A2 k0 k1 k2 k3) [] [(.ref a2), (.int 0), (.int 4)] pd_14 0 d2_36 ⟨rfl, rfl, rfl, rfl, rfl⟩ (by decide) ?_
  intro v_3 h_1 q_2
  obtain ⟨b_5, rfl, le_6, K_7, f_8⟩ := q_2
  have ne_9 : a1 ≠ b_5 := ne_ge E0.lt le_6
  have ne_10 : a2 ≠ b_5 := ne_ge A2.lt le_6
  have ge_b_5 : n0 ≤ b_5 := lT Z0 le_6
  have gs_b_5 : h0.size ≤ b_5 := lT (Nat.le_refl h0.size) le_6
  show Go _ _ _ _ 2 12 39 _ [(.ref b_5)]
  refine aS C d2_39 (#[aV a1, aV a2, iV 0, iV 4, .val .null, aV b_5]) rfl rfl <| aN C ((.ref a1)) d2_41 rfl rfl <| aL C ((.ref b_5)) d2_42 rfl rfl <| iN C 4 d2_44 rfl ?_
  have f_11 := (lT Z0 K_7.1)
  refine cS C hw 24 25 18 26 rfl rfl rfl rfl (rm_coderB_4 hw b_5 (bY (c0 >>> (0 &&& 31))) (bY (c0 >>> (8 &&& 31))) (bY (c1 >>> (0 &&& 31))) (bY (c1 >>> (8 &&& 31))) (bY (c2 >>> (0 &&& 31))) (bY (c2 >>> (8 &&& 31))) (bY (c3 >>> (0 &&& 31))) (bY (c3 >>> (8 &&& 31))) h_1 f_11 f_8) [(.ref a1)] [(.ref b_5), (.int 4)] pd_6 1 d2_45 ⟨rfl, rfl, rfl, rfl, rfl⟩ (by decide) ?_
  intro v_14 h_12 q_13
  obtain ⟨rfl, rfl⟩ := q_13
  show Go _ _ _ _ 2 12 48 _ [(.int 1), (.ref a1)]
  have f_16 := (F1.keep K_7 nin0)
  have f_17 := (E0.keep K_7)
  refine yputfield C (host := "") (v := (.int 1)) (Or.inl (oW hw 27 rfl)) Via.refl f_16 f_17 (Or.inr ⟨(oW hw 28 rfl), rfl, rfl⟩) (oW hw 3 rfl) (ty := .byte) (by decide) rfl rfl g1 d2_48 ?_
  intro h_18 W_19
  have f_20 := f_16.same W_19
  refine aN C ((.ref a1)) d2_51 rfl rfl <| aL C ((.ref b_5)) d2_52 rfl rfl ?_
  have f_21 := ((F0.keep K_7 nin0).other W_19 (Or.inr (slot_ne (Or.inr (oW hw 30 rfl)) (Or.inr (oW hw 28 rfl)) (by decide) (t := (.array .byte)) (t' := .byte) (by decide) (by decide))))
  have f_22 := (f_17.wr W_19)
  refine yputfield C (host := "") (v := (.ref b_5)) (Or.inl (oW hw 29 rfl)) Via.refl f_21 f_22 (Or.inr ⟨(oW hw 30 rfl), rfl, rfl⟩) (oW hw 3 rfl) (ty := (.array .byte)) (by decide) rfl rfl g1 d2_54 ?_
  intro h_23 W_24
  have f_25 := f_21.same W_24
  refine g_return C rfl d2_57 (by decide) (by decide) ?_
  have f_26 := (f_20.other W_24 (Or.inr (slot_ne (Or.inr (oW hw 28 rfl)) (Or.inr (oW hw 30 rfl)) (by decide) (t := .byte) (t' := (.array .byte)) (by decide) (by decide))))
  have f_27 := ((f_8.keep (Keep.of_wr W_19) (nin1 (Ne.symm ne_9))).keep (Keep.of_wr W_24) (nin1 (Ne.symm ne_9)))
  exact ⟨rfl, ((((Keep.refl h0 [a1]).trans K_7 all0).wr W_19 (Or.inl (List.mem_of_getElem? (i := 0) rfl))).wr W_24 (Or.inl (List.mem_of_getElem? (i := 0) rfl))), b_5, gs_b_5, f_25, f_26, f_27⟩
theorem rm_initB_4_3 (hw : HW a0 Z) (a1 a2 : Addr) (c0 c1 c2 c3 : Int32) (h0 : Heap) (Z0 : n0 ≤ h0.size) (cm : Um Z) (O : Old Z n0 h0) (E0 : Exa Z h0 a1 "java/lang/String") (F0 : Fld Z h0 a1 "java/lang/String" "value" "[B" .null) (F1 : Fld Z h0 a1 "java/lang/String" "coder" "B" (.int 0)) (g1 : n0 ≤ a1) (A2 : Ary Z h0 a2 .char [.int c0, .int c1, .int c2, .int c3]) (n12 : a1 ≠ a2) (k0 : Ch c0) (k1 : Ch c1) (k2 : Ch c2) (k3 : Bg c3) :
    Met1 l Z ⟨"java/lang/String", "<init>", "([C)V"⟩ jdk_42_method_3_code 2 none ⟨5, 2, 12, 74⟩ n0 #[(.ref a1), (.ref a2)] h0 (fun v h => v = none ∧ Keep h0 h [a1] ∧ ∃ b : Addr, h0.size ≤ b ∧ Fld Z h a1 "java/lang/String" "value" "[B" (.ref b) ∧ Fld Z h a1 "java/lang/String" "coder" "B" (.int 1) ∧ Ary Z h b .byte [.int (bY (c0 >>> (0 &&& 31))), .int (bY (c0 >>> (8 &&& 31))), .int (bY (c1 >>> (0 &&& 31))), .int (bY (c1 >>> (8 &&& 31))), .int (bY (c2 >>> (0 &&& 31))), .int (bY (c2 >>> (8 &&& 31))), .int (bY (c3 >>> (0 &&& 31))), .int (bY (c3 >>> (8 &&& 31)))]) := by
  refine met_of (plainFor_of_name pn_5) (L0 := #[.val (.ref a1), .val (.ref a2)]) (by first | (simp [argsToLocals, Value.category]; done) | rfl) ?_
  intro B C
  change Ctx B l _ _ "java/lang/String" "<init>" _ _ Z at C
  have cm' := cm
  obtain ⟨⟨cz, Scz, hcz⟩, Sas, Shi, Slo, Sfm⟩ := cm'
  refine aN C ((.ref a1)) d1_0 rfl rfl <| aN C ((.ref a2)) d1_1 rfl rfl <| iC C 0 d1_2 rfl <| aN C ((.ref a2)) d1_3 rfl rfl <| yarraylength C A2 (z := 4) rfl d1_4 <| yaconst_null C d1_5 <| cP C hw 8 9 4 11 rfl rfl rfl rfl rfl (rm_init4B_4_3 hw a1 a2 c0 c1 c2 c3 h0 Z0 cm O E0 F0 F1 g1 A2 n12 k0 k1 k2 k3) [] [(.ref a2), (.int 0), (.int 4), .null] pd_24 0 d1_6 ⟨rfl, rfl, rfl, rfl, rfl⟩ (by decide) ?_
  intro v_3 h_1 q_2
  obtain ⟨rfl, K_5, b_6, le_7, f_8, f_9, f_10⟩ := q_2
  have ne_11 : a1 ≠ b_6 := ne_ge E0.lt le_7
  have ne_12 : a2 ≠ b_6 := ne_ge A2.lt le_7
  have ge_b_6 : n0 ≤ b_6 := lT Z0 le_7
  have gs_b_6 : h0.size ≤ b_6 := lT (Nat.le_refl h0.size) le_7
  show Go _ _ _ _ 2 12 9 _ []
  refine g_return C rfl d1_9 (by decide) (by decide) ?_
  exact ⟨rfl, ((Keep.refl h0 [a1]).trans K_5 (allS (Or.inl (List.mem_of_getElem? (i := 0) rfl)) all0)), b_6, gs_b_6, f_8, f_9, f_10⟩
theorem rm_comp1_5 (hw : HW a0 Z) (a1 a2 : Addr) (c0 c1 c2 c3 c4 : Int32) (h0 : Heap) (Z0 : n0 ≤ h0.size) (A1 : Ary Z h0 a1 .char [.int c0, .int c1, .int c2, .int c3, .int c4]) (A2 : Ary Z h0 a2 .byte [.int 0, .int 0, .int 0, .int 0, .int 0]) (g2 : n0 ≤ a2) (n12 : a1 ≠ a2) (k0 : Ch c0) (k1 : Ch c1) (k2 : Ch c2) (k3 : Ch c3) (k4 : Ch c4) :
    Met1 l Z ⟨"java/lang/StringUTF16", "compress", "([CI[BII)I"⟩ jdk_52_method_21_code 7 (some .int) ⟨0, 0, 0, 0⟩ n0 #[(.ref a1), (.int 0), (.ref a2), (.int 0), (.int 5)] h0 (fun v h => v = some (.int 5) ∧ Keep h0 h [a2] ∧ Ary Z h a2 .byte [.int (bY c0), .int (bY c1), .int (bY c2), .int (bY c3), .int (bY c4)]) := by
  refine met_of (plainFor_of_name pn_4) (L0 := #[.val (.ref a1), .val (.int 0), .val (.ref a2), .val (.int 0), .val (.int 5), .unset, .unset]) (by first | (simp [argsToLocals, Value.category]; done) | rfl) ?_
  intro B C
  change Ctx B l _ _ "java/lang/StringUTF16" "compress" _ _ Z at C
  refine iC C 0 d5_0 rfl <| iS C d5_1 (#[aV a1, iV 0, aV a2, iV 0, iV 5, iV 0, uV]) rfl <| iL C 0 d5_3 rfl <| iL C 5 d5_5 rfl <| yicmp_n C d5_7 (XT.ii_ge_f (by decide)) <| aN C ((.ref a1)) d5_10 rfl rfl <| iN C 0 d5_11 rfl <| ycaload C A1 (by decide) (i := 0) (by decide) (v := c0) rfl d5_12 <| iS C d5_13 (#[aV a1, iV 0, aV a2, iV 0, iV 5, iV 0, iV c0]) rfl <| iL C c0 d5_15 rfl <| iP C 255 d5_17 rfl <| cY C d5_20 (XT.ii_le_t k0.2.1) 26 (by decide) <| aN C ((.ref a2)) d5_26 rfl rfl <| iN C 0 d5_27 rfl <| iL C c0 d5_28 rfl <| yi2b C d5_30 <| ybastoreB C A2 (by decide) (i := 0) (by decide) (show 0 < 5 by decide) (w := (.int (bY c0))) (congrArg Value.int (own_narb _)) g2 d5_31 ?_
  intro h_1 K_2 A_3
  have f_4 : Ary Z h_1 a2 .byte [(.int (bY c0)), (.int 0), (.int 0), (.int 0), (.int 0)] := A_3
  refine nC C 0 1 d5_32 rfl rfl (#[aV a1, iV 1, aV a2, iV 0, iV 5, iV 0, iV c0]) rfl <| nC C 0 1 d5_35 rfl rfl (#[aV a1, iV 1, aV a2, iV 1, iV 5, iV 0, iV c0]) rfl <| nC C 0 1 d5_38 rfl rfl (#[aV a1, iV 1, aV a2, iV 1, iV 5, iV 1, iV c0]) rfl <| gT C d5_41 3 (by decide) <| iL C 1 d5_3 rfl <| iL C 5 d5_5 rfl <| yicmp_n C d5_7 (XT.ii_ge_f (by decide)) <| aN C ((.ref a1)) d5_10 rfl rfl <| iN C 1 d5_11 rfl ?_
  have f_5 := (A1.keep K_2 (ninS n12 nin0))
  refine ycaload C f_5 (by decide) (i := 1) (by decide) (v := c1) rfl d5_12 <| iS C d5_13 (#[aV a1, iV 1, aV a2, iV 1, iV 5, iV 1, iV c1]) rfl <| iL C c1 d5_15 rfl <| iP C 255 d5_17 rfl <| cY C d5_20 (XT.ii_le_t k1.2.1) 26 (by decide) <| aN C ((.ref a2)) d5_26 rfl rfl <| iN C 1 d5_27 rfl <| iL C c1 d5_28 rfl <| yi2b C d5_30 <| ybastoreB C f_4 (by decide) (i := 1) (by decide) (show 1 < 5 by decide) (w := (.int (bY c1))) (congrArg Value.int (own_narb _)) g2 d5_31 ?_
  intro h_6 K_7 A_8
  have f_9 : Ary Z h_6 a2 .byte [(.int (bY c0)), (.int (bY c1)), (.int 0), (.int 0), (.int 0)] := A_8
  refine nC C 1 2 d5_32 rfl rfl (#[aV a1, iV 2, aV a2, iV 1, iV 5, iV 1, iV c1]) rfl <| nC C 1 2 d5_35 rfl rfl (#[aV a1, iV 2, aV a2, iV 2, iV 5, iV 1, iV c1]) rfl <| nC C 1 2 d5_38 rfl rfl (#[aV a1, iV 2, aV a2, iV 2, iV 5, iV 2, iV c1]) rfl <| gT C d5_41 3 (by decide) <| iL C 2 d5_3 rfl <| iL C 5 d5_5 rfl <| yicmp_n C d5_7 (XT.ii_ge_f (by decide)) <| aN C ((.ref a1)) d5_10 rfl rfl <| iN C 2 d5_11 rfl ?_
  have f_10 := (f_5.keep K_7 (ninS n12 nin0))
  refine ycaload C f_10 (by decide) (i := 2) (by decide) (v := c2) rfl d5_12 <| iS C d5_13 (#[aV a1, iV 2, aV a2, iV 2, iV 5, iV 2, iV c2]) rfl <| iL C c2 d5_15 rfl <| iP C 255 d5_17 rfl <| cY C d5_20 (XT.ii_le_t k2.2.1) 26 (by decide) <| aN C ((.ref a2)) d5_26 rfl rfl <| iN C 2 d5_27 rfl <| iL C c2 d5_28 rfl <| yi2b C d5_30 <| ybastoreB C f_9 (by decide) (i := 2) (by decide) (show 2 < 5 by decide) (w := (.int (bY c2))) (congrArg Value.int (own_narb _)) g2 d5_31 ?_
  intro h_11 K_12 A_13
  have f_14 : Ary Z h_11 a2 .byte [(.int (bY c0)), (.int (bY c1)), (.int (bY c2)), (.int 0), (.int 0)] := A_13
  refine nC C 2 3 d5_32 rfl rfl (#[aV a1, iV 3, aV a2, iV 2, iV 5, iV 2, iV c2]) rfl <| nC C 2 3 d5_35 rfl rfl (#[aV a1, iV 3, aV a2, iV 3, iV 5, iV 2, iV c2]) rfl <| nC C 2 3 d5_38 rfl rfl (#[aV a1, iV 3, aV a2, iV 3, iV 5, iV 3, iV c2]) rfl <| gT C d5_41 3 (by decide) <| iL C 3 d5_3 rfl <| iL C 5 d5_5 rfl <| yicmp_n C d5_7 (XT.ii_ge_f (by decide)) <| aN C ((.ref a1)) d5_10 rfl rfl <| iN C 3 d5_11 rfl ?_
  have f_15 := (f_10.keep K_12 (ninS n12 nin0))
  refine ycaload C f_15 (by decide) (i := 3) (by decide) (v := c3) rfl d5_12 <| iS C d5_13 (#[aV a1, iV 3, aV a2, iV 3, iV 5, iV 3, iV c3]) rfl <| iL C c3 d5_15 rfl <| iP C 255 d5_17 rfl <| cY C d5_20 (XT.ii_le_t k3.2.1) 26 (by decide) <| aN C ((.ref a2)) d5_26 rfl rfl <| iN C 3 d5_27 rfl <| iL C c3 d5_28 rfl <| yi2b C d5_30 <| ybastoreB C f_14 (by decide) (i := 3) (by decide) (show 3 < 5 by decide) (w := (.int (bY c3))) (congrArg Value.int (own_narb _)) g2 d5_31 ?_
  intro h_16 K_17 A_18
  have f_19 : Ary Z h_16 a2 .byte [(.int (bY c0)), (.int (bY c1)), (.int (bY c2)), (.int (bY c3)), (.int 0)] := A_18
  refine nC C 3 4 d5_32 rfl rfl (#[aV a1, iV 4, aV a2, iV 3, iV 5, iV 3, iV c3]) rfl <| nC C 3 4 d5_35 rfl rfl (#[aV a1, iV 4, aV a2, iV 4, iV 5, iV 3, iV c3]) rfl <| nC C 3 4 d5_38 rfl rfl (#[aV a1, iV 4, aV a2, iV 4, iV 5, iV 4, iV c3]) rfl <| gT C d5_41 3 (by decide) <| iL C 4 d5_3 rfl <| iL C 5 d5_5 rfl <| yicmp_n C d5_7 (XT.ii_ge_f (by decide)) <| aN C ((.ref a1)) d5_10 rfl rfl <| iN C 4 d5_11 rfl ?_
  have f_20 := (f_15.keep K_17 (ninS n12 nin0))
  refine ycaload C f_20 (by decide) (i := 4) (by decide) (v := c4) rfl d5_12 <| iS C d5_13 (#[aV a1, iV 4, aV a2, iV 4, iV 5, iV 4, iV c4]) rfl <| iL C c4 d5_15 rfl <| iP C 255 d5_17 rfl <| cY C d5_20 (XT.ii_le_t k4.2.1) 26 (by decide) <| aN C ((.ref a2)) d5_26 rfl rfl <| iN C 4 d5_27 rfl <| iL C c4 d5_28 rfl <| yi2b C d5_30 <| ybastoreB C f_19 (by decide) (i := 4) (by decide) (show 4 < 5 by decide) (w := (.int (bY c4))) (congrArg Value.int (own_narb _)) g2 d5_31 ?_
  intro h_21 K_22 A_23
  have f_24 : Ary Z h_21 a2 .byte [(.int (bY c0)), (.int (bY c1)), (.int (bY c2)), (.int (bY c3)), (.int (bY c4))] := A_23
  refine nC C 4 5 d5_32 rfl rfl (#[aV a1, iV 5, aV a2, iV 4, iV 5, iV 4, iV c4]) rfl <| nC C 4 5 d5_35 rfl rfl (#[aV a1, iV 5, aV a2, iV 5, iV 5, iV 4, iV c4]) rfl <| nC C 4 5 d5_38 rfl rfl (#[aV a1, iV 5, aV a2, iV 5, iV 5, iV 5, iV c4]) rfl <| gT C d5_41 3 (by decide) <| iL C 5 d5_3 rfl <| iL C 5 d5_5 rfl <| cY C d5_7 (XT.ii_ge_t (by decide)) 44 (by decide) <| iL C 5 d5_44 rfl ?_
  refine g_ret C (v := (.int 5)) (ty := .int) rfl rfl (Or.inl ⟨rfl, Or.inl rfl, _, rfl⟩) d5_46 (by decide) (by decide) ?_
  exact ⟨rfl, ((((((Keep.refl h0 [a2]).trans K_2 (allS (Or.inl (List.mem_of_getElem? (i := 0) rfl)) all0)).trans K_7 (allS (Or.inl (List.mem_of_getElem? (i := 0) rfl)) all0)).trans K_12 (allS (Or.inl (List.mem_of_getElem? (i := 0) rfl)) all0)).trans K_17 (allS (Or.inl (List.mem_of_getElem? (i := 0) rfl)) all0)).trans K_22 (allS (Or.inl (List.mem_of_getElem? (i := 0) rfl)) all0)), f_24⟩
theorem rm_comp2_5 (hw : HW a0 Z) (a1 : Addr) (c0 c1 c2 c3 c4 : Int32) (h0 : Heap) (Z0 : n0 ≤ h0.size) (A1 : Ary Z h0 a1 .char [.int c0, .int c1, .int c2, .int c3, .int c4]) (k0 : Ch c0) (k1 : Ch c1) (k2 : Ch c2) (k3 : Ch c3) (k4 : Ch c4) :
    Met1 l Z ⟨"java/lang/StringUTF16", "compress", "([CII)[B"⟩ jdk_52_method_16_code 6 (some (.array .byte)) ⟨1, 1, 5, 18⟩ n0 #[(.ref a1), (.int 0), (.int 5)] h0 (fun v h => ∃ b : Addr, v = some (.ref b) ∧ h0.size ≤ b ∧ Keep h0 h [] ∧ Ary Z h b .byte [.int (bY c0), .int (bY c1), .int (bY c2), .int (bY c3), .int (bY c4)]) := by
  refine met_of (plainFor_of_name pn_4) (L0 := #[.val (.ref a1), .val (.int 0), .val (.int 5), .unset, .unset, .unset]) (by first | (simp [argsToLocals, Value.category]; done) | rfl) ?_
  intro B C
  change Ctx B l _ _ "java/lang/StringUTF16" "compress" _ _ Z at C
  refine iN C 5 d4_0 rfl <| ynewarray C (oW hw 20 rfl) (ty := .byte) rfl (by decide) (cap := 5) (by decide) (by decide) (by decide) (by decide) d4_1 ?_
  intro h_1 a_2 g_3 E_4 A_5
  have ne_6 : a1 ≠ a_2 := ne_new A1.lt g_3
  have ge_a_2 : n0 ≤ a_2 := lT Z0 (lE g_3.symm)
  have gs_a_2 : h0.size ≤ a_2 := lT (Nat.le_refl h0.size) (lE g_3.symm)
  have f_7 : Ary Z h_1 a_2 .byte [(.int 0), (.int 0), (.int 0), (.int 0), (.int 0)] := A_5
  show Go _ _ _ _ 1 5 3 _ [(.ref a_2)]
  refine aT C d4_3 (#[aV a1, iV 0, iV 5, aV a_2, uV, uV]) rfl rfl <| aN C ((.ref a1)) d4_4 rfl rfl <| iN C 0 d4_5 rfl <| aN C ((.ref a_2)) d4_6 rfl rfl <| iC C 0 d4_7 rfl <| iN C 5 d4_8 rfl ?_
  have f_8 := (A1.ext E_4)
  have f_9 := (lT Z0 E_4.1)
  refine cS C hw 21 22 18 23 rfl rfl rfl rfl (rm_comp1_5 hw a1 a_2 c0 c1 c2 c3 c4 h_1 f_9 f_8 f_7 ge_a_2 ne_6 k0 k1 k2 k3 k4) [] [(.ref a1), (.int 0), (.ref a_2), (.int 0), (.int 5)] pd_13 0 d4_9 ⟨rfl, rfl, rfl, rfl, rfl⟩ (by decide) ?_
  intro v_12 h_10 q_11
  obtain ⟨rfl, K_14, f_15⟩ := q_11
  show Go _ _ _ _ 1 5 12 _ [(.int 5)]
  refine iS C d4_12 (#[aV a1, iV 0, iV 5, aV a_2, iV 5, uV]) rfl <| iL C 5 d4_14 rfl <| iN C 5 d4_16 rfl <| cY C d4_17 (XT.ii_eq_t (by decide)) 57 (by decide) <| aN C ((.ref a_2)) d4_57 rfl rfl ?_
  refine g_ret C (v := (.ref a_2)) (ty := (.array .byte)) rfl rfl (Or.inr (Or.inr (Or.inr (Or.inr ⟨rfl, rfl, rfl⟩)))) d4_58 (by decide) (by decide) ?_
  exact ⟨a_2, rfl, gs_a_2, (((Keep.refl h0 []).ext E_4).trans K_14 (allS (Or.inr gs_a_2) all0)), f_15⟩
theorem rm_coderF_5 (hw : HW a0 Z) (a1 : Addr) (x0 x1 x2 x3 x4 : Int32) (h0 : Heap) (Z0 : n0 ≤ h0.size) (A1 : Ary Z h0 a1 .byte [.int x0, .int x1, .int x2, .int x3, .int x4]) :
    Met1 l Z ⟨"java/lang/StringUTF16", "coderFromArrayLen", "([BI)B"⟩ jdk_52_method_15_code 2 (some .byte) ⟨0, 0, 0, 0⟩ n0 #[(.ref a1), (.int 5)] h0 (fun v h => v = some (.int 0) ∧ h0 = h) := by
  refine met_of (plainFor_of_name pn_4) (L0 := #[.val (.ref a1), .val (.int 5)]) (by first | (simp [argsToLocals, Value.category]; done) | rfl) ?_
  intro B C
  change Ctx B l _ _ "java/lang/StringUTF16" "coderFromArrayLen" _ _ Z at C
  refine iN C 5 d6_0 rfl <| aN C ((.ref a1)) d6_1 rfl rfl <| yarraylength C A1 (z := 5) rfl d6_2 <| yisub C d6_3 <| eS [(.int 0)] rfl <| iB C 31 d6_4 rfl <| yiushr C d6_6 <| eS [(.int 0)] rfl <| yi2b C d6_7 <| eS [(.int 0)] rfl ?_
  refine g_ret C (v := (.int 0)) (ty := .byte) rfl rfl (Or.inl ⟨rfl, Or.inr (Or.inr (Or.inl rfl)), _, rfl⟩) d6_8 (by decide) (by decide) ?_
  exact ⟨rfl, rfl⟩
theorem rm_init4_5 (hw : HW a0 Z) (a1 a2 : Addr) (c0 c1 c2 c3 c4 : Int32) (h0 : Heap) (Z0 : n0 ≤ h0.size) (cm : Um Z) (O : Old Z n0 h0) (E0 : Exa Z h0 a1 "java/lang/String") (F0 : Fld Z h0 a1 "java/lang/String" "value" "[B" .null) (F1 : Fld Z h0 a1 "java/lang/String" "coder" "B" (.int 0)) (g1 : n0 ≤ a1) (A2 : Ary Z h0 a2 .char [.int c0, .int c1, .int c2, .int c3, .int c4]) (n12 : a1 ≠ a2) (k0 : Ch c0) (k1 : Ch c1) (k2 : Ch c2) (k3 : Ch c3) (k4 : Ch c4) :
    Met1 l Z ⟨"java/lang/String", "<init>", "([CIILjava/lang/Void;)V"⟩ jdk_42_method_149_code 6 none ⟨2, 1, 5, 35⟩ n0 #[(.ref a1), (.ref a2), (.int 0), (.int 5), .null] h0 (fun v h => v = none ∧ Keep h0 h [a1] ∧ ∃ b : Addr, h0.size ≤ b ∧ Fld Z h a1 "java/lang/String" "value" "[B" (.ref b) ∧ Fld Z h a1 "java/lang/String" "coder" "B" (.int 0) ∧ Ary Z h b .byte [.int (bY c0), .int (bY c1), .int (bY c2), .int (bY c3), .int (bY c4)]) := by
  refine met_of (plainFor_of_name pn_5) (L0 := #[.val (.ref a1), .val (.ref a2), .val (.int 0), .val (.int 5), .val .null, .unset]) (by first | (simp [argsToLocals, Value.category]; done) | rfl) ?_
  intro B C
  change Ctx B l _ _ "java/lang/String" "<init>" _ _ Z at C
  have cm' := cm
  obtain ⟨⟨cz, Scz, hcz⟩, Sas, Shi, Slo, Sfm⟩ := cm'
  refine aN C ((.ref a1)) d2_0 rfl rfl <| yinitObj C (oW hw 12 rfl) (oW hw 13 rfl) (oW hw 14 rfl) rfl (by decide) (W := 0) (lE rfl) (by decide) d2_1 <| iN C 5 d2_4 rfl <| fY C d2_5 (XT.i0_ne_t (by decide)) 27 (by decide) <| ygetstatic C (host := "") (v := (.int cz)) (Or.inl (oW hw 15 rfl)) Via.refl (Scz.ext O.2) d2_27 <| yif_n C d2_30 (XT.i0_eq_f hcz) <| aN C ((.ref a2)) d2_33 rfl rfl <| iN C 0 d2_34 rfl <| iN C 5 d2_35 rfl <| cS C hw 16 17 18 19 rfl rfl rfl rfl (rm_comp2_5 hw a2 c0 c1 c2 c3 c4 h0 Z0 A2 k0 k1 k2 k3 k4) [] [(.ref a2), (.int 0), (.int 5)] pd_14 0 d2_36 ⟨rfl, rfl, rfl, rfl, rfl⟩ (by decide) ?_
  intro v_3 h_1 q_2
  obtain ⟨b_5, rfl, le_6, K_7, f_8⟩ := q_2
  have ne_9 : a1 ≠ b_5 := ne_ge E0.lt le_6
  have ne_10 : a2 ≠ b_5 := ne_ge A2.lt le_6
  have ge_b_5 : n0 ≤ b_5 := lT Z0 le_6
  have gs_b_5 : h0.size ≤ b_5 := lT (Nat.le_refl h0.size) le_6
  show Go _ _ _ _ 1 5 39 _ [(.ref b_5)]
  refine aS C d2_39 (#[aV a1, aV a2, iV 0, iV 5, .val .null, aV b_5]) rfl rfl <| aN C ((.ref a1)) d2_41 rfl rfl <| aL C ((.ref b_5)) d2_42 rfl rfl <| iN C 5 d2_44 rfl ?_
  have f_11 := (lT Z0 K_7.1)
  refine cS C hw 24 25 18 26 rfl rfl rfl rfl (rm_coderF_5 hw b_5 (bY c0) (bY c1) (bY c2) (bY c3) (bY c4) h_1 f_11 f_8) [(.ref a1)] [(.ref b_5), (.int 5)] pd_6 1 d2_45 ⟨rfl, rfl, rfl, rfl, rfl⟩ (by decide) ?_
  intro v_14 h_12 q_13
  obtain ⟨rfl, rfl⟩ := q_13
  show Go _ _ _ _ 1 5 48 _ [(.int 0), (.ref a1)]
  have f_16 := (F1.keep K_7 nin0)
  have f_17 := (E0.keep K_7)
  refine yputfield C (host := "") (v := (.int 0)) (Or.inl (oW hw 27 rfl)) Via.refl f_16 f_17 (Or.inr ⟨(oW hw 28 rfl), rfl, rfl⟩) (oW hw 3 rfl) (ty := .byte) (by decide) rfl rfl g1 d2_48 ?_
  intro h_18 W_19
  have f_20 := f_16.same W_19
  refine aN C ((.ref a1)) d2_51 rfl rfl <| aL C ((.ref b_5)) d2_52 rfl rfl ?_
  have f_21 := ((F0.keep K_7 nin0).other W_19 (Or.inr (slot_ne (Or.inr (oW hw 30 rfl)) (Or.inr (oW hw 28 rfl)) (by decide) (t := (.array .byte)) (t' := .byte) (by decide) (by decide))))
  have f_22 := (f_17.wr W_19)
  refine yputfield C (host := "") (v := (.ref b_5)) (Or.inl (oW hw 29 rfl)) Via.refl f_21 f_22 (Or.inr ⟨(oW hw 30 rfl), rfl, rfl⟩) (oW hw 3 rfl) (ty := (.array .byte)) (by decide) rfl rfl g1 d2_54 ?_
  intro h_23 W_24
  have f_25 := f_21.same W_24
  refine g_return C rfl d2_57 (by decide) (by decide) ?_
  have f_26 := (f_20.other W_24 (Or.inr (slot_ne (Or.inr (oW hw 28 rfl)) (Or.inr (oW hw 30 rfl)) (by decide) (t := .byte) (t' := (.array .byte)) (by decide) (by decide))))
  have f_27 := ((f_8.keep (Keep.of_wr W_19) (nin1 (Ne.symm ne_9))).keep (Keep.of_wr W_24) (nin1 (Ne.symm ne_9)))
  exact ⟨rfl, ((((Keep.refl h0 [a1]).trans K_7 all0).wr W_19 (Or.inl (List.mem_of_getElem? (i := 0) rfl))).wr W_24 (Or.inl (List.mem_of_getElem? (i := 0) rfl))), b_5, gs_b_5, f_25, f_26, f_27⟩
theorem rm_init1_5 (hw : HW a0 Z) (a1 a2 : Addr) (c0 c1 c2 c3 c4 : Int32) (h0 : Heap) (Z0 : n0 ≤ h0.size) (cm : Um Z) (O : Old Z n0 h0) (E0 : Exa Z h0 a1 "java/lang/String") (F0 : Fld Z h0 a1 "java/lang/String" "value" "[B" .null) (F1 : Fld Z h0 a1 "java/lang/String" "coder" "B" (.int 0)) (g1 : n0 ≤ a1) (A2 : Ary Z h0 a2 .char [.int c0, .int c1, .int c2, .int c3, .int c4]) (n12 : a1 ≠ a2) (k0 : Ch c0) (k1 : Ch c1) (k2 : Ch c2) (k3 : Ch c3) (k4 : Ch c4) :
    Met1 l Z ⟨"java/lang/String", "<init>", "([C)V"⟩ jdk_42_method_3_code 2 none ⟨3, 1, 5, 52⟩ n0 #[(.ref a1), (.ref a2)] h0 (fun v h => v = none ∧ Keep h0 h [a1] ∧ ∃ b : Addr, h0.size ≤ b ∧ Fld Z h a1 "java/lang/String" "value" "[B" (.ref b) ∧ Fld Z h a1 "java/lang/String" "coder" "B" (.int 0) ∧ Ary Z h b .byte [.int (bY c0), .int (bY c1), .int (bY c2), .int (bY c3), .int (bY c4)]) := by
  refine met_of (plainFor_of_name pn_5) (L0 := #[.val (.ref a1), .val (.ref a2)]) (by first | (simp [argsToLocals, Value.category]; done) | rfl) ?_
  intro B C
  change Ctx B l _ _ "java/lang/String" "<init>" _ _ Z at C
  have cm' := cm
  obtain ⟨⟨cz, Scz, hcz⟩, Sas, Shi, Slo, Sfm⟩ := cm'
  refine aN C ((.ref a1)) d1_0 rfl rfl <| aN C ((.ref a2)) d1_1 rfl rfl <| iC C 0 d1_2 rfl <| aN C ((.ref a2)) d1_3 rfl rfl <| yarraylength C A2 (z := 5) rfl d1_4 <| yaconst_null C d1_5 <| cP C hw 8 9 4 11 rfl rfl rfl rfl rfl (rm_init4_5 hw a1 a2 c0 c1 c2 c3 c4 h0 Z0 cm O E0 F0 F1 g1 A2 n12 k0 k1 k2 k3 k4) [] [(.ref a2), (.int 0), (.int 5), .null] pd_24 0 d1_6 ⟨rfl, rfl, rfl, rfl, rfl⟩ (by decide) ?_
  intro v_3 h_1 q_2
  obtain ⟨rfl, K_5, b_6, le_7, f_8, f_9, f_10⟩ := q_2
  have ne_11 : a1 ≠ b_6 := ne_ge E0.lt le_7
  have ne_12 : a2 ≠ b_6 := ne_ge A2.lt le_7
  have ge_b_6 : n0 ≤ b_6 := lT Z0 le_7
  have gs_b_6 : h0.size ≤ b_6 := lT (Nat.le_refl h0.size) le_7
  show Go _ _ _ _ 1 5 9 _ []
  refine g_return C rfl d1_9 (by decide) (by decide) ?_
  exact ⟨rfl, ((Keep.refl h0 [a1]).trans K_5 (allS (Or.inl (List.mem_of_getElem? (i := 0) rfl)) all0)), b_6, gs_b_6, f_8, f_9, f_10⟩
theorem rm_nbl_5 (hw : HW a0 Z)  (h0 : Heap) (Z0 : n0 ≤ h0.size)  :
    Met1 l Z ⟨"java/lang/StringUTF16", "newBytesLength", "(I)I"⟩ jdk_52_method_3_code 1 (some .int) ⟨0, 0, 0, 0⟩ n0 #[(.int 5)] h0 (fun v h => v = some (.int 10) ∧ h0 = h) := by
  refine met_of (plainFor_of_name pn_4) (L0 := #[.val (.int 5)]) (by first | (simp [argsToLocals, Value.category]; done) | rfl) ?_
  intro B C
  change Ctx B l _ _ "java/lang/StringUTF16" "newBytesLength" _ _ Z at C
  refine iN C 5 d18_0 rfl <| fY C d18_1 (XT.i0_ge_t (by decide)) 12 (by decide) <| iN C 5 d18_12 rfl <| yldc C (v := 1073741823) (oW hw 80 rfl) d18_13 <| cY C d18_15 (XT.ii_lt_t (by decide)) 55 (by decide) <| iN C 5 d18_55 rfl <| iC C 1 d18_56 rfl <| yishl C d18_57 <| eS [(.int 10)] rfl ?_
  refine g_ret C (v := (.int 10)) (ty := .int) rfl rfl (Or.inl ⟨rfl, Or.inl rfl, _, rfl⟩) d18_58 (by decide) (by decide) ?_
  exact ⟨rfl, rfl⟩
theorem rm_nbf_5 (hw : HW a0 Z)  (h0 : Heap) (Z0 : n0 ≤ h0.size)  :
    Met1 l Z ⟨"java/lang/StringUTF16", "newBytesFor", "(I)[B"⟩ jdk_52_method_2_code 1 (some (.array .byte)) ⟨1, 1, 10, 12⟩ n0 #[(.int 5)] h0 (fun v h => ∃ b : Addr, v = some (.ref b) ∧ h0.size ≤ b ∧ Keep h0 h [] ∧ Ary Z h b .byte [.int 0, .int 0, .int 0, .int 0, .int 0, .int 0, .int 0, .int 0, .int 0, .int 0]) := by
  refine met_of (plainFor_of_name pn_4) (L0 := #[.val (.int 5)]) (by first | (simp [argsToLocals, Value.category]; done) | rfl) ?_
  intro B C
  change Ctx B l _ _ "java/lang/StringUTF16" "newBytesFor" _ _ Z at C
  refine iN C 5 d17_0 rfl <| cS C hw 77 78 18 79 rfl rfl rfl rfl (rm_nbl_5 hw  h0 Z0 ) [] [(.int 5)] pd_7 0 d17_1 ⟨rfl, rfl, rfl, rfl, rfl⟩ (by decide) ?_
  intro v_3 h_1 q_2
  obtain ⟨rfl, rfl⟩ := q_2
  show Go _ _ _ _ 0 0 4 _ [(.int 10)]
  refine ynewarray C (oW hw 20 rfl) (ty := .byte) rfl (by decide) (cap := 10) (by decide) (by decide) (by decide) (by decide) d17_4 ?_
  intro h_5 a_6 g_7 E_8 A_9
  have ge_a_6 : n0 ≤ a_6 := lT Z0 (lE g_7.symm)
  have gs_a_6 : h0.size ≤ a_6 := lT (Nat.le_refl h0.size) (lE g_7.symm)
  have f_10 : Ary Z h_5 a_6 .byte [(.int 0), (.int 0), (.int 0), (.int 0), (.int 0), (.int 0), (.int 0), (.int 0), (.int 0), (.int 0)] := A_9
  show Go _ _ _ _ 1 10 6 _ [(.ref a_6)]
  refine g_ret C (v := (.ref a_6)) (ty := (.array .byte)) rfl rfl (Or.inr (Or.inr (Or.inr (Or.inr ⟨rfl, rfl, rfl⟩)))) d17_6 (by decide) (by decide) ?_
  exact ⟨a_6, rfl, gs_a_6, ((Keep.refl h0 []).ext E_8), f_10⟩
theorem rm_put_5_0 (hw : HW a0 Z) (a1 : Addr) (x0 x1 x2 x3 x4 x5 x6 x7 x8 x9 c : Int32) (h0 : Heap) (Z0 : n0 ≤ h0.size) (cm : Um Z) (O : Old Z n0 h0) (A1 : Ary Z h0 a1 .byte [.int x0, .int x1, .int x2, .int x3, .int x4, .int x5, .int x6, .int x7, .int x8, .int x9]) (g1 : n0 ≤ a1) :
    Met1 l Z ⟨"java/lang/StringUTF16", "putChar", "([BII)V"⟩ jdk_52_method_4_code 3 none ⟨0, 0, 0, 0⟩ n0 #[(.ref a1), (.int 0), (.int c)] h0 (fun v h => v = none ∧ Keep h0 h [a1] ∧ Ary Z h a1 .byte [.int (bY (c >>> (0 &&& 31))), .int (bY (c >>> (8 &&& 31))), .int x2, .int x3, .int x4, .int x5, .int x6, .int x7, .int x8, .int x9]) := by
  refine met_of (plainFor_of_name pn_4) (L0 := #[.val (.ref a1), .val (.int 0), .val (.int c)]) (by first | (simp [argsToLocals, Value.category]; done) | rfl) ?_
  intro B C
  change Ctx B l _ _ "java/lang/StringUTF16" "putChar" _ _ Z at C
  have cm' := cm
  obtain ⟨⟨cz, Scz, hcz⟩, Sas, Shi, Slo, Sfm⟩ := cm'
  refine ygetstatic C (host := "") (v := (.int 1)) (Or.inl (oW hw 84 rfl)) Via.refl (Sas.ext O.2) d19_0 <| fY C d19_3 (XT.i0_ne_t (by decide)) 28 (by decide) <| iN C 0 d19_28 rfl <| iC C 1 d19_29 rfl <| yishl C d19_30 <| eS [(.int 0)] rfl <| iT C d19_31 (#[aV a1, iV 0, iV c]) rfl <| aN C ((.ref a1)) d19_32 rfl rfl <| iN C 0 d19_33 rfl <| nC C 0 1 d19_34 rfl rfl (#[aV a1, iV 1, iV c]) rfl <| iN C c d19_37 rfl <| ygetstatic C (host := "") (v := (.int 0)) (Or.inl (oW hw 85 rfl)) Via.refl (Shi.ext O.2) d19_38 <| yishr C d19_41 <| yi2b C d19_42 <| ybastoreB C A1 (by decide) (i := 0) (by decide) (show 0 < 10 by decide) (w := (.int (bY (c >>> (0 &&& 31))))) (congrArg Value.int (own_narb _)) g1 d19_43 ?_
  intro h_1 K_2 A_3
  have f_4 : Ary Z h_1 a1 .byte [(.int (bY (c >>> (0 &&& 31)))), (.int x1), (.int x2), (.int x3), (.int x4), (.int x5), (.int x6), (.int x7), (.int x8), (.int x9)] := A_3
  refine aN C ((.ref a1)) d19_44 rfl rfl <| iN C 1 d19_45 rfl <| iN C c d19_46 rfl ?_
  have f_5 := (O.keep K_2 (allS g1 all0))
  refine ygetstatic C (host := "") (v := (.int 8)) (Or.inl (oW hw 86 rfl)) Via.refl (Slo.ext f_5.2) d19_47 <| yishr C d19_50 <| yi2b C d19_51 <| ybastoreB C f_4 (by decide) (i := 1) (by decide) (show 1 < 10 by decide) (w := (.int (bY (c >>> (8 &&& 31))))) (congrArg Value.int (own_narb _)) g1 d19_52 ?_
  intro h_6 K_7 A_8
  have f_9 : Ary Z h_6 a1 .byte [(.int (bY (c >>> (0 &&& 31)))), (.int (bY (c >>> (8 &&& 31)))), (.int x2), (.int x3), (.int x4), (.int x5), (.int x6), (.int x7), (.int x8), (.int x9)] := A_8
  refine g_return C rfl d19_53 (by decide) (by decide) ?_
  exact ⟨rfl, (((Keep.refl h0 [a1]).trans K_2 (allS (Or.inl (List.mem_of_getElem? (i := 0) rfl)) all0)).trans K_7 (allS (Or.inl (List.mem_of_getElem? (i := 0) rfl)) all0)), f_9⟩
theorem rm_put_5_1 (hw : HW a0 Z) (a1 : Addr) (x0 x1 x2 x3 x4 x5 x6 x7 x8 x9 c : Int32) (h0 : Heap) (Z0 : n0 ≤ h0.size) (cm : Um Z) (O : Old Z n0 h0) (A1 : Ary Z h0 a1 .byte [.int x0, .int x1, .int x2, .int x3, .int x4, .int x5, .int x6, .int x7, .int x8, .int x9]) (g1 : n0 ≤ a1) :
    Met1 l Z ⟨"java/lang/StringUTF16", "putChar", "([BII)V"⟩ jdk_52_method_4_code 3 none ⟨0, 0, 0, 0⟩ n0 #[(.ref a1), (.int 1), (.int c)] h0 (fun v h => v = none ∧ Keep h0 h [a1] ∧ Ary Z h a1 .byte [.int x0, .int x1, .int (bY (c >>> (0 &&& 31))), .int (bY (c >>> (8 &&& 31))), .int x4, .int x5, .int x6, .int x7, .int x8, .int x9]) := by
  refine met_of (plainFor_of_name pn_4) (L0 := #[.val (.ref a1), .val (.int 1), .val (.int c)]) (by first | (simp [argsToLocals, Value.category]; done) | rfl) ?_
  intro B C
  change Ctx B l _ _ "java/lang/StringUTF16" "putChar" _ _ Z at C
  have cm' := cm
  obtain ⟨⟨cz, Scz, hcz⟩, Sas, Shi, Slo, Sfm⟩ := cm'
  refine ygetstatic C (host := "") (v := (.int 1)) (Or.inl (oW hw 84 rfl)) Via.refl (Sas.ext O.2) d19_0 <| fY C d19_3 (XT.i0_ne_t (by decide)) 28 (by decide) <| iN C 1 d19_28 rfl <| iC C 1 d19_29 rfl <| yishl C d19_30 <| eS [(.int 2)] rfl <| iT C d19_31 (#[aV a1, iV 2, iV c]) rfl <| aN C ((.ref a1)) d19_32 rfl rfl <| iN C 2 d19_33 rfl <| nC C 2 3 d19_34 rfl rfl (#[aV a1, iV 3, iV c]) rfl <| iN C c d19_37 rfl <| ygetstatic C (host := "") (v := (.int 0)) (Or.inl (oW hw 85 rfl)) Via.refl (Shi.ext O.2) d19_38 <| yishr C d19_41 <| yi2b C d19_42 <| ybastoreB C A1 (by decide) (i := 2) (by decide) (show 2 < 10 by decide) (w := (.int (bY (c >>> (0 &&& 31))))) (congrArg Value.int (own_narb _)) g1 d19_43 ?_
  intro h_1 K_2 A_3
  have f_4 : Ary Z h_1 a1 .byte [(.int x0), (.int x1), (.int (bY (c >>> (0 &&& 31)))), (.int x3), (.int x4), (.int x5), (.int x6), (.int x7), (.int x8), (.int x9)] := A_3
  refine aN C ((.ref a1)) d19_44 rfl rfl <| iN C 3 d19_45 rfl <| iN C c d19_46 rfl ?_
  have f_5 := (O.keep K_2 (allS g1 all0))
  refine ygetstatic C (host := "") (v := (.int 8)) (Or.inl (oW hw 86 rfl)) Via.refl (Slo.ext f_5.2) d19_47 <| yishr C d19_50 <| yi2b C d19_51 <| ybastoreB C f_4 (by decide) (i := 3) (by decide) (show 3 < 10 by decide) (w := (.int (bY (c >>> (8 &&& 31))))) (congrArg Value.int (own_narb _)) g1 d19_52 ?_
  intro h_6 K_7 A_8
  have f_9 : Ary Z h_6 a1 .byte [(.int x0), (.int x1), (.int (bY (c >>> (0 &&& 31)))), (.int (bY (c >>> (8 &&& 31)))), (.int x4), (.int x5), (.int x6), (.int x7), (.int x8), (.int x9)] := A_8
  refine g_return C rfl d19_53 (by decide) (by decide) ?_
  exact ⟨rfl, (((Keep.refl h0 [a1]).trans K_2 (allS (Or.inl (List.mem_of_getElem? (i := 0) rfl)) all0)).trans K_7 (allS (Or.inl (List.mem_of_getElem? (i := 0) rfl)) all0)), f_9⟩
theorem rm_put_5_2 (hw : HW a0 Z) (a1 : Addr) (x0 x1 x2 x3 x4 x5 x6 x7 x8 x9 c : Int32) (h0 : Heap) (Z0 : n0 ≤ h0.size) (cm : Um Z) (O : Old Z n0 h0) (A1 : Ary Z h0 a1 .byte [.int x0, .int x1, .int x2, .int x3, .int x4, .int x5, .int x6, .int x7, .int x8, .int x9]) (g1 : n0 ≤ a1) :
    Met1 l Z ⟨"java/lang/StringUTF16", "putChar", "([BII)V"⟩ jdk_52_method_4_code 3 none ⟨0, 0, 0, 0⟩ n0 #[(.ref a1), (.int 2), (.int c)] h0 (fun v h => v = none ∧ Keep h0 h [a1] ∧ Ary Z h a1 .byte [.int x0, .int x1, .int x2, .int x3, .int (bY (c >>> (0 &&& 31))), .int (bY (c >>> (8 &&& 31))), .int x6, .int x7, .int x8, .int x9]) := by
  refine met_of (plainFor_of_name pn_4) (L0 := #[.val (.ref a1), .val (.int 2), .val (.int c)]) (by first | (simp [argsToLocals, Value.category]; done) | rfl) ?_
  intro B C
  change Ctx B l _ _ "java/lang/StringUTF16" "putChar" _ _ Z at C
  have cm' := cm
  obtain ⟨⟨cz, Scz, hcz⟩, Sas, Shi, Slo, Sfm⟩ := cm'
  refine ygetstatic C (host := "") (v := (.int 1)) (Or.inl (oW hw 84 rfl)) Via.refl (Sas.ext O.2) d19_0 <| fY C d19_3 (XT.i0_ne_t (by decide)) 28 (by decide) <| iN C 2 d19_28 rfl <| iC C 1 d19_29 rfl <| yishl C d19_30 <| eS [(.int 4)] rfl <| iT C d19_31 (#[aV a1, iV 4, iV c]) rfl <| aN C ((.ref a1)) d19_32 rfl rfl <| iN C 4 d19_33 rfl <| nC C 4 5 d19_34 rfl rfl (#[aV a1, iV 5, iV c]) rfl <| iN C c d19_37 rfl <| ygetstatic C (host := "") (v := (.int 0)) (Or.inl (oW hw 85 rfl)) Via.refl (Shi.ext O.2) d19_38 <| yishr C d19_41 <| yi2b C d19_42 <| ybastoreB C A1 (by decide) (i := 4) (by decide) (show 4 < 10 by decide) (w := (.int (bY (c >>> (0 &&& 31))))) (congrArg Value.int (own_narb _)) g1 d19_43 ?_
  intro h_1 K_2 A_3
  have f_4 : Ary Z h_1 a1 .byte [(.int x0), (.int x1), (.int x2), (.int x3), (.int (bY (c >>> (0 &&& 31)))), (.int x5), (.int x6), (.int x7), (.int x8), (.int x9)] := A_3
  refine aN C ((.ref a1)) d19_44 rfl rfl <| iN C 5 d19_45 rfl <| iN C c d19_46 rfl ?_
  have f_5 := (O.keep K_2 (allS g1 all0))
  refine ygetstatic C (host := "") (v := (.int 8)) (Or.inl (oW hw 86 rfl)) Via.refl (Slo.ext f_5.2) d19_47 <| yishr C d19_50 <| yi2b C d19_51 <| ybastoreB C f_4 (by decide) (i := 5) (by decide) (show 5 < 10 by decide) (w := (.int (bY (c >>> (8 &&& 31))))) (congrArg Value.int (own_narb _)) g1 d19_52 ?_
  intro h_6 K_7 A_8
  have f_9 : Ary Z h_6 a1 .byte [(.int x0), (.int x1), (.int x2), (.int x3), (.int (bY (c >>> (0 &&& 31)))), (.int (bY (c >>> (8 &&& 31)))), (.int x6), (.int x7), (.int x8), (.int x9)] := A_8
  refine g_return C rfl d19_53 (by decide) (by decide) ?_
  exact ⟨rfl, (((Keep.refl h0 [a1]).trans K_2 (allS (Or.inl (List.mem_of_getElem? (i := 0) rfl)) all0)).trans K_7 (allS (Or.inl (List.mem_of_getElem? (i := 0) rfl)) all0)), f_9⟩
theorem rm_put_5_3 (hw : HW a0 Z) (a1 : Addr) (x0 x1 x2 x3 x4 x5 x6 x7 x8 x9 c : Int32) (h0 : Heap) (Z0 : n0 ≤ h0.size) (cm : Um Z) (O : Old Z n0 h0) (A1 : Ary Z h0 a1 .byte [.int x0, .int x1, .int x2, .int x3, .int x4, .int x5, .int x6, .int x7, .int x8, .int x9]) (g1 : n0 ≤ a1) :
    Met1 l Z ⟨"java/lang/StringUTF16", "putChar", "([BII)V"⟩ jdk_52_method_4_code 3 none ⟨0, 0, 0, 0⟩ n0 #[(.ref a1), (.int 3), (.int c)] h0 (fun v h => v = none ∧ Keep h0 h [a1] ∧ Ary Z h a1 .byte [.int x0, .int x1, .int x2, .int x3, .int x4, .int x5, .int (bY (c >>> (0 &&& 31))), .int (bY (c >>> (8 &&& 31))), .int x8, .int x9]) := by
  refine met_of (plainFor_of_name pn_4) (L0 := #[.val (.ref a1), .val (.int 3), .val (.int c)]) (by first | (simp [argsToLocals, Value.category]; done) | rfl) ?_
  intro B C
  change Ctx B l _ _ "java/lang/StringUTF16" "putChar" _ _ Z at C
  have cm' := cm
  obtain ⟨⟨cz, Scz, hcz⟩, Sas, Shi, Slo, Sfm⟩ := cm'
  refine ygetstatic C (host := "") (v := (.int 1)) (Or.inl (oW hw 84 rfl)) Via.refl (Sas.ext O.2) d19_0 <| fY C d19_3 (XT.i0_ne_t (by decide)) 28 (by decide) <| iN C 3 d19_28 rfl <| iC C 1 d19_29 rfl <| yishl C d19_30 <| eS [(.int 6)] rfl <| iT C d19_31 (#[aV a1, iV 6, iV c]) rfl <| aN C ((.ref a1)) d19_32 rfl rfl <| iN C 6 d19_33 rfl <| nC C 6 7 d19_34 rfl rfl (#[aV a1, iV 7, iV c]) rfl <| iN C c d19_37 rfl <| ygetstatic C (host := "") (v := (.int 0)) (Or.inl (oW hw 85 rfl)) Via.refl (Shi.ext O.2) d19_38 <| yishr C d19_41 <| yi2b C d19_42 <| ybastoreB C A1 (by decide) (i := 6) (by decide) (show 6 < 10 by decide) (w := (.int (bY (c >>> (0 &&& 31))))) (congrArg Value.int (own_narb _)) g1 d19_43 ?_
  intro h_1 K_2 A_3
  have f_4 : Ary Z h_1 a1 .byte [(.int x0), (.int x1), (.int x2), (.int x3), (.int x4), (.int x5), (.int (bY (c >>> (0 &&& 31)))), (.int x7), (.int x8), (.int x9)] := A_3
  refine aN C ((.ref a1)) d19_44 rfl rfl <| iN C 7 d19_45 rfl <| iN C c d19_46 rfl ?_
  have f_5 := (O.keep K_2 (allS g1 all0))
  refine ygetstatic C (host := "") (v := (.int 8)) (Or.inl (oW hw 86 rfl)) Via.refl (Slo.ext f_5.2) d19_47 <| yishr C d19_50 <| yi2b C d19_51 <| ybastoreB C f_4 (by decide) (i := 7) (by decide) (show 7 < 10 by decide) (w := (.int (bY (c >>> (8 &&& 31))))) (congrArg Value.int (own_narb _)) g1 d19_52 ?_
  intro h_6 K_7 A_8
  have f_9 : Ary Z h_6 a1 .byte [(.int x0), (.int x1), (.int x2), (.int x3), (.int x4), (.int x5), (.int (bY (c >>> (0 &&& 31)))), (.int (bY (c >>> (8 &&& 31)))), (.int x8), (.int x9)] := A_8
  refine g_return C rfl d19_53 (by decide) (by decide) ?_
  exact ⟨rfl, (((Keep.refl h0 [a1]).trans K_2 (allS (Or.inl (List.mem_of_getElem? (i := 0) rfl)) all0)).trans K_7 (allS (Or.inl (List.mem_of_getElem? (i := 0) rfl)) all0)), f_9⟩
theorem rm_put_5_4 (hw : HW a0 Z) (a1 : Addr) (x0 x1 x2 x3 x4 x5 x6 x7 x8 x9 c : Int32) (h0 : Heap) (Z0 : n0 ≤ h0.size) (cm : Um Z) (O : Old Z n0 h0) (A1 : Ary Z h0 a1 .byte [.int x0, .int x1, .int x2, .int x3, .int x4, .int x5, .int x6, .int x7, .int x8, .int x9]) (g1 : n0 ≤ a1) :
    Met1 l Z ⟨"java/lang/StringUTF16", "putChar", "([BII)V"⟩ jdk_52_method_4_code 3 none ⟨0, 0, 0, 0⟩ n0 #[(.ref a1), (.int 4), (.int c)] h0 (fun v h => v = none ∧ Keep h0 h [a1] ∧ Ary Z h a1 .byte [.int x0, .int x1, .int x2, .int x3, .int x4, .int x5, .int x6, .int x7, .int (bY (c >>> (0 &&& 31))), .int (bY (c >>> (8 &&& 31)))]) := by
  refine met_of (plainFor_of_name pn_4) (L0 := #[.val (.ref a1), .val (.int 4), .val (.int c)]) (by first | (simp [argsToLocals, Value.category]; done) | rfl) ?_
  intro B C
  change Ctx B l _ _ "java/lang/StringUTF16" "putChar" _ _ Z at C
  have cm' := cm
  obtain ⟨⟨cz, Scz, hcz⟩, Sas, Shi, Slo, Sfm⟩ := cm'
  refine ygetstatic C (host := "") (v := (.int 1)) (Or.inl (oW hw 84 rfl)) Via.refl (Sas.ext O.2) d19_0 <| fY C d19_3 (XT.i0_ne_t (by decide)) 28 (by decide) <| iN C 4 d19_28 rfl <| iC C 1 d19_29 rfl <| yishl C d19_30 <| eS [(.int 8)] rfl <| iT C d19_31 (#[aV a1, iV 8, iV c]) rfl <| aN C ((.ref a1)) d19_32 rfl rfl <| iN C 8 d19_33 rfl <| nC C 8 9 d19_34 rfl rfl (#[aV a1, iV 9, iV c]) rfl <| iN C c d19_37 rfl <| ygetstatic C (host := "") (v := (.int 0)) (Or.inl (oW hw 85 rfl)) Via.refl (Shi.ext O.2) d19_38 <| yishr C d19_41 <| yi2b C d19_42 <| ybastoreB C A1 (by decide) (i := 8) (by decide) (show 8 < 10 by decide) (w := (.int (bY (c >>> (0 &&& 31))))) (congrArg Value.int (own_narb _)) g1 d19_43 ?_
  intro h_1 K_2 A_3
  have f_4 : Ary Z h_1 a1 .byte [(.int x0), (.int x1), (.int x2), (.int x3), (.int x4), (.int x5), (.int x6), (.int x7), (.int (bY (c >>> (0 &&& 31)))), (.int x9)] := A_3
  refine aN C ((.ref a1)) d19_44 rfl rfl <| iN C 9 d19_45 rfl <| iN C c d19_46 rfl ?_
  have f_5 := (O.keep K_2 (allS g1 all0))
  refine ygetstatic C (host := "") (v := (.int 8)) (Or.inl (oW hw 86 rfl)) Via.refl (Slo.ext f_5.2) d19_47 <| yishr C d19_50 <| yi2b C d19_51 <| ybastoreB C f_4 (by decide) (i := 9) (by decide) (show 9 < 10 by decide) (w := (.int (bY (c >>> (8 &&& 31))))) (congrArg Value.int (own_narb _)) g1 d19_52 ?_
  intro h_6 K_7 A_8
  have f_9 : Ary Z h_6 a1 .byte [(.int x0), (.int x1), (.int x2), (.int x3), (.int x4), (.int x5), (.int x6), (.int x7), (.int (bY (c >>> (0 &&& 31)))), (.int (bY (c >>> (8 &&& 31))))] := A_8
  refine g_return C rfl d19_53 (by decide) (by decide) ?_
  exact ⟨rfl, (((Keep.refl h0 [a1]).trans K_2 (allS (Or.inl (List.mem_of_getElem? (i := 0) rfl)) all0)).trans K_7 (allS (Or.inl (List.mem_of_getElem? (i := 0) rfl)) all0)), f_9⟩
theorem rm_toB_5 (hw : HW a0 Z) (a1 : Addr) (c0 c1 c2 c3 c4 : Int32) (h0 : Heap) (Z0 : n0 ≤ h0.size) (cm : Um Z) (O : Old Z n0 h0) (A1 : Ary Z h0 a1 .char [.int c0, .int c1, .int c2, .int c3, .int c4]) :
    Met1 l Z ⟨"java/lang/StringUTF16", "toBytes", "([CII)[B"⟩ jdk_52_method_14_code 5 (some (.array .byte)) ⟨2, 1, 10, 24⟩ n0 #[(.ref a1), (.int 0), (.int 5)] h0 (fun v h => ∃ b : Addr, v = some (.ref b) ∧ h0.size ≤ b ∧ Keep h0 h [] ∧ Ary Z h b .byte [.int (bY (c0 >>> (0 &&& 31))), .int (bY (c0 >>> (8 &&& 31))), .int (bY (c1 >>> (0 &&& 31))), .int (bY (c1 >>> (8 &&& 31))), .int (bY (c2 >>> (0 &&& 31))), .int (bY (c2 >>> (8 &&& 31))), .int (bY (c3 >>> (0 &&& 31))), .int (bY (c3 >>> (8 &&& 31))), .int (bY (c4 >>> (0 &&& 31))), .int (bY (c4 >>> (8 &&& 31)))]) := by
  refine met_of (plainFor_of_name pn_4) (L0 := #[.val (.ref a1), .val (.int 0), .val (.int 5), .unset, .unset]) (by first | (simp [argsToLocals, Value.category]; done) | rfl) ?_
  intro B C
  change Ctx B l _ _ "java/lang/StringUTF16" "toBytes" _ _ Z at C
  have cm' := cm
  obtain ⟨⟨cz, Scz, hcz⟩, Sas, Shi, Slo, Sfm⟩ := cm'
  refine iN C 5 d16_0 rfl <| cS C hw 74 75 18 76 rfl rfl rfl rfl (rm_nbf_5 hw  h0 Z0 ) [] [(.int 5)] pd_8 0 d16_1 ⟨rfl, rfl, rfl, rfl, rfl⟩ (by decide) ?_
  intro v_3 h_1 q_2
  obtain ⟨b_5, rfl, le_6, K_7, f_8⟩ := q_2
  have ne_9 : a1 ≠ b_5 := ne_ge A1.lt le_6
  have ge_b_5 : n0 ≤ b_5 := lT Z0 le_6
  have gs_b_5 : h0.size ≤ b_5 := lT (Nat.le_refl h0.size) le_6
  show Go _ _ _ _ 1 10 4 _ [(.ref b_5)]
  refine aT C d16_4 (#[aV a1, iV 0, iV 5, aV b_5, uV]) rfl rfl <| iC C 0 d16_5 rfl <| iS C d16_6 (#[aV a1, iV 0, iV 5, aV b_5, iV 0]) rfl <| iL C 0 d16_8 rfl <| iN C 5 d16_10 rfl <| yicmp_n C d16_11 (XT.ii_ge_f (by decide)) <| aN C ((.ref b_5)) d16_14 rfl rfl <| iL C 0 d16_15 rfl <| aN C ((.ref a1)) d16_17 rfl rfl <| iN C 0 d16_18 rfl ?_
  have f_10 := (A1.keep K_7 nin0)
  refine ycaload C f_10 (by decide) (i := 0) (by decide) (v := c0) rfl d16_19 ?_
  have f_11 := (O.keep K_7 all0)
  have f_12 := (lT Z0 K_7.1)
  refine cS C hw 81 82 18 83 rfl rfl rfl rfl (rm_put_5_0 hw b_5 0 0 0 0 0 0 0 0 0 0 c0 h_1 f_12 cm f_11 f_8 ge_b_5) [] [(.ref b_5), (.int 0), (.int c0)] pd_17 0 d16_20 ⟨rfl, rfl, rfl, rfl, rfl⟩ (by decide) ?_
  intro v_15 h_13 q_14
  obtain ⟨rfl, K_17, f_18⟩ := q_14
  show Go _ _ _ _ 1 10 23 _ []
  refine nC C 0 1 d16_23 rfl rfl (#[aV a1, iV 1, iV 5, aV b_5, iV 0]) rfl <| nC C 0 1 d16_26 rfl rfl (#[aV a1, iV 1, iV 5, aV b_5, iV 1]) rfl <| gT C d16_29 8 (by decide) <| iL C 1 d16_8 rfl <| iN C 5 d16_10 rfl <| yicmp_n C d16_11 (XT.ii_ge_f (by decide)) <| aN C ((.ref b_5)) d16_14 rfl rfl <| iL C 1 d16_15 rfl <| aN C ((.ref a1)) d16_17 rfl rfl <| iN C 1 d16_18 rfl ?_
  have f_19 := (f_10.keep K_17 (ninS ne_9 nin0))
  refine ycaload C f_19 (by decide) (i := 1) (by decide) (v := c1) rfl d16_19 ?_
  have f_20 := (f_11.keep K_17 (allS ge_b_5 all0))
  have f_21 := (lT f_12 K_17.1)
  refine cS C hw 81 82 18 83 rfl rfl rfl rfl (rm_put_5_1 hw b_5 (bY (c0 >>> (0 &&& 31))) (bY (c0 >>> (8 &&& 31))) 0 0 0 0 0 0 0 0 c1 h_13 f_21 cm f_20 f_18 ge_b_5) [] [(.ref b_5), (.int 1), (.int c1)] pd_17 0 d16_20 ⟨rfl, rfl, rfl, rfl, rfl⟩ (by decide) ?_
  intro v_24 h_22 q_23
  obtain ⟨rfl, K_26, f_27⟩ := q_23
  show Go _ _ _ _ 1 10 23 _ []
  refine nC C 1 2 d16_23 rfl rfl (#[aV a1, iV 2, iV 5, aV b_5, iV 1]) rfl <| nC C 1 2 d16_26 rfl rfl (#[aV a1, iV 2, iV 5, aV b_5, iV 2]) rfl <| gT C d16_29 8 (by decide) <| iL C 2 d16_8 rfl <| iN C 5 d16_10 rfl <| yicmp_n C d16_11 (XT.ii_ge_f (by decide)) <| aN C ((.ref b_5)) d16_14 rfl rfl <| iL C 2 d16_15 rfl <| aN C ((.ref a1)) d16_17 rfl rfl <| iN C 2 d16_18 rfl ?_
  have f_28 := (f_19.keep K_26 (ninS ne_9 nin0))
  refine ycaload C f_28 (by decide) (i := 2) (by decide) (v := c2) rfl d16_19 ?_
  have f_29 := (f_20.keep K_26 (allS ge_b_5 all0))
  have f_30 := (lT f_21 K_26.1)
  refine cS C hw 81 82 18 83 rfl rfl rfl rfl (rm_put_5_2 hw b_5 (bY (c0 >>> (0 &&& 31))) (bY (c0 >>> (8 &&& 31))) (bY (c1 >>> (0 &&& 31))) (bY (c1 >>> (8 &&& 31))) 0 0 0 0 0 0 c2 h_22 f_30 cm f_29 f_27 ge_b_5) [] [(.ref b_5), (.int 2), (.int c2)] pd_17 0 d16_20 ⟨rfl, rfl, rfl, rfl, rfl⟩ (by decide) ?_
  intro v_33 h_31 q_32
  obtain ⟨rfl, K_35, f_36⟩ := q_32
  show Go _ _ _ _ 1 10 23 _ []
  refine nC C 2 3 d16_23 rfl rfl (#[aV a1, iV 3, iV 5, aV b_5, iV 2]) rfl <| nC C 2 3 d16_26 rfl rfl (#[aV a1, iV 3, iV 5, aV b_5, iV 3]) rfl <| gT C d16_29 8 (by decide) <| iL C 3 d16_8 rfl <| iN C 5 d16_10 rfl <| yicmp_n C d16_11 (XT.ii_ge_f (by decide)) <| aN C ((.ref b_5)) d16_14 rfl rfl <| iL C 3 d16_15 rfl <| aN C ((.ref a1)) d16_17 rfl rfl <| iN C 3 d16_18 rfl ?_
  have f_37 := (f_28.keep K_35 (ninS ne_9 nin0))
  refine ycaload C f_37 (by decide) (i := 3) (by decide) (v := c3) rfl d16_19 ?_
  have f_38 := (f_29.keep K_35 (allS ge_b_5 all0))
  have f_39 := (lT f_30 K_35.1)
  refine cS C hw 81 82 18 83 rfl rfl rfl rfl (rm_put_5_3 hw b_5 (bY (c0 >>> (0 &&& 31))) (bY (c0 >>> (8 &&& 31))) (bY (c1 >>> (0 &&& 31))) (bY (c1 >>> (8 &&& 31))) (bY (c2 >>> (0 &&& 31))) (bY (c2 >>> (8 &&& 31))) 0 0 0 0 c3 h_31 f_39 cm f_38 f_36 ge_b_5) [] [(.ref b_5), (.int 3), (.int c3)] pd_17 0 d16_20 ⟨rfl, rfl, rfl, rfl, rfl⟩ (by decide) ?_
  intro v_42 h_40 q_41
  obtain ⟨rfl, K_44, f_45⟩ := q_41
  show Go _ _ _ _ 1 10 23 _ []
  refine nC C 3 4 d16_23 rfl rfl (#[aV a1, iV 4, iV 5, aV b_5, iV 3]) rfl <| nC C 3 4 d16_26 rfl rfl (#[aV a1, iV 4, iV 5, aV b_5, iV 4]) rfl <| gT C d16_29 8 (by decide) <| iL C 4 d16_8 rfl <| iN C 5 d16_10 rfl <| yicmp_n C d16_11 (XT.ii_ge_f (by decide)) <| aN C ((.ref b_5)) d16_14 rfl rfl <| iL C 4 d16_15 rfl <| aN C ((.ref a1)) d16_17 rfl rfl <| iN C 4 d16_18 rfl ?_
  have f_46 := (f_37.keep K_44 (ninS ne_9 nin0))
  refine ycaload C f_46 (by decide) (i := 4) (by decide) (v := c4) rfl d16_19 ?_
  have f_47 := (f_38.keep K_44 (allS ge_b_5 all0))
  have f_48 := (lT f_39 K_44.1)
  refine cS C hw 81 82 18 83 rfl rfl rfl rfl (rm_put_5_4 hw b_5 (bY (c0 >>> (0 &&& 31))) (bY (c0 >>> (8 &&& 31))) (bY (c1 >>> (0 &&& 31))) (bY (c1 >>> (8 &&& 31))) (bY (c2 >>> (0 &&& 31))) (bY (c2 >>> (8 &&& 31))) (bY (c3 >>> (0 &&& 31))) (bY (c3 >>> (8 &&& 31))) 0 0 c4 h_40 f_48 cm f_47 f_45 ge_b_5) [] [(.ref b_5), (.int 4), (.int c4)] pd_17 0 d16_20 ⟨rfl, rfl, rfl, rfl, rfl⟩ (by decide) ?_
  intro v_51 h_49 q_50
  obtain ⟨rfl, K_53, f_54⟩ := q_50
  show Go _ _ _ _ 1 10 23 _ []
  refine nC C 4 5 d16_23 rfl rfl (#[aV a1, iV 5, iV 5, aV b_5, iV 4]) rfl <| nC C 4 5 d16_26 rfl rfl (#[aV a1, iV 5, iV 5, aV b_5, iV 5]) rfl <| gT C d16_29 8 (by decide) <| iL C 5 d16_8 rfl <| iN C 5 d16_10 rfl <| cY C d16_11 (XT.ii_ge_t (by decide)) 32 (by decide) <| aN C ((.ref b_5)) d16_32 rfl rfl ?_
  refine g_ret C (v := (.ref b_5)) (ty := (.array .byte)) rfl rfl (Or.inr (Or.inr (Or.inr (Or.inr ⟨rfl, rfl, rfl⟩)))) d16_33 (by decide) (by decide) ?_
  exact ⟨b_5, rfl, gs_b_5, (((((((Keep.refl h0 []).trans K_7 all0).trans K_17 (allS (Or.inr gs_b_5) all0)).trans K_26 (allS (Or.inr gs_b_5) all0)).trans K_35 (allS (Or.inr gs_b_5) all0)).trans K_44 (allS (Or.inr gs_b_5) all0)).trans K_53 (allS (Or.inr gs_b_5) all0)), f_54⟩
theorem rm_getC_5_1 (hw : HW a0 Z) (a1 : Addr) (x0 x1 x2 x3 x4 x5 x6 x7 x8 x9 c : Int32) (h0 : Heap) (Z0 : n0 ≤ h0.size) (cm : Um Z) (O : Old Z n0 h0) (A1 : Ary Z h0 a1 .byte [.int x0, .int x1, .int x2, .int x3, .int x4, .int x5, .int x6, .int x7, .int x8, .int x9]) (ec : (UInt32.toInt32 (UInt16.toUInt32 (UInt32.toUInt16 (Int32.toUInt32 (((x2 &&& 255) <<< (0 &&& 31)) ||| ((x3 &&& 255) <<< (8 &&& 31))))))) = c) (kc : nar .char c = c) :
    Met1 l Z ⟨"java/lang/StringUTF16", "getChar", "([BI)C"⟩ jdk_52_method_5_code 2 (some .char) ⟨0, 0, 0, 0⟩ n0 #[(.ref a1), (.int 1)] h0 (fun v h => v = some (.int c) ∧ h0 = h) := by
  refine met_of (plainFor_of_name pn_4) (L0 := #[.val (.ref a1), .val (.int 1)]) (by first | (simp [argsToLocals, Value.category]; done) | rfl) ?_
  intro B C
  change Ctx B l _ _ "java/lang/StringUTF16" "getChar" _ _ Z at C
  have cm' := cm
  obtain ⟨⟨cz, Scz, hcz⟩, Sas, Shi, Slo, Sfm⟩ := cm'
  refine ygetstatic C (host := "") (v := (.int 1)) (Or.inl (oW hw 84 rfl)) Via.refl (Sas.ext O.2) d20_0 <| fY C d20_3 (XT.i0_ne_t (by decide)) 28 (by decide) <| iN C 1 d20_28 rfl <| iC C 1 d20_29 rfl <| yishl C d20_30 <| eS [(.int 2)] rfl <| iT C d20_31 (#[aV a1, iV 2]) rfl <| aN C ((.ref a1)) d20_32 rfl rfl <| iN C 2 d20_33 rfl <| nC C 2 3 d20_34 rfl rfl (#[aV a1, iV 3]) rfl <| ybaloadB C A1 (by decide) (i := 2) (by decide) (v := x2) rfl d20_37 <| iP C 255 d20_38 rfl <| yiand C d20_41 <| ygetstatic C (host := "") (v := (.int 0)) (Or.inl (oW hw 85 rfl)) Via.refl (Shi.ext O.2) d20_42 <| yishl C d20_45 <| aN C ((.ref a1)) d20_46 rfl rfl <| iN C 3 d20_47 rfl <| ybaloadB C A1 (by decide) (i := 3) (by decide) (v := x3) rfl d20_48 <| iP C 255 d20_49 rfl <| yiand C d20_52 <| ygetstatic C (host := "") (v := (.int 8)) (Or.inl (oW hw 86 rfl)) Via.refl (Slo.ext O.2) d20_53 <| yishl C d20_56 <| yior C d20_57 <| yi2c C d20_58 ?_
  rw [ec]
  refine g_ret C (v := (.int c)) (ty := .char) rfl (own_nch kc) (Or.inl ⟨rfl, Or.inr (Or.inr (Or.inr (Or.inl rfl))), _, rfl⟩) d20_59 (by decide) (by decide) ?_
  exact ⟨rfl, rfl⟩
theorem rm_comp1B_5_1 (hw : HW a0 Z) (a1 a2 : Addr) (c0 c1 c2 c3 c4 : Int32) (h0 : Heap) (Z0 : n0 ≤ h0.size) (A1 : Ary Z h0 a1 .char [.int c0, .int c1, .int c2, .int c3, .int c4]) (A2 : Ary Z h0 a2 .byte [.int 0, .int 0, .int 0, .int 0, .int 0]) (g2 : n0 ≤ a2) (n12 : a1 ≠ a2) (k0 : Ch c0) (k1 : Bg c1) (k2 : Ch c2) (k3 : Ch c3) (k4 : Ch c4) :
    Met1 l Z ⟨"java/lang/StringUTF16", "compress", "([CI[BII)I"⟩ jdk_52_method_21_code 7 (some .int) ⟨0, 0, 0, 0⟩ n0 #[(.ref a1), (.int 0), (.ref a2), (.int 0), (.int 5)] h0 (fun v h => v = some (.int 1) ∧ Keep h0 h [a2]) := by
  refine met_of (plainFor_of_name pn_4) (L0 := #[.val (.ref a1), .val (.int 0), .val (.ref a2), .val (.int 0), .val (.int 5), .unset, .unset]) (by first | (simp [argsToLocals, Value.category]; done) | rfl) ?_
  intro B C
  change Ctx B l _ _ "java/lang/StringUTF16" "compress" _ _ Z at C
  refine iC C 0 d5_0 rfl <| iS C d5_1 (#[aV a1, iV 0, aV a2, iV 0, iV 5, iV 0, uV]) rfl <| iL C 0 d5_3 rfl <| iL C 5 d5_5 rfl <| yicmp_n C d5_7 (XT.ii_ge_f (by decide)) <| aN C ((.ref a1)) d5_10 rfl rfl <| iN C 0 d5_11 rfl <| ycaload C A1 (by decide) (i := 0) (by decide) (v := c0) rfl d5_12 <| iS C d5_13 (#[aV a1, iV 0, aV a2, iV 0, iV 5, iV 0, iV c0]) rfl <| iL C c0 d5_15 rfl <| iP C 255 d5_17 rfl <| cY C d5_20 (XT.ii_le_t k0.2.1) 26 (by decide) <| aN C ((.ref a2)) d5_26 rfl rfl <| iN C 0 d5_27 rfl <| iL C c0 d5_28 rfl <| yi2b C d5_30 <| ybastoreB C A2 (by decide) (i := 0) (by decide) (show 0 < 5 by decide) (w := (.int (bY c0))) (congrArg Value.int (own_narb _)) g2 d5_31 ?_
  intro h_1 K_2 A_3
  have f_4 : Ary Z h_1 a2 .byte [(.int (bY c0)), (.int 0), (.int 0), (.int 0), (.int 0)] := A_3
  refine nC C 0 1 d5_32 rfl rfl (#[aV a1, iV 1, aV a2, iV 0, iV 5, iV 0, iV c0]) rfl <| nC C 0 1 d5_35 rfl rfl (#[aV a1, iV 1, aV a2, iV 1, iV 5, iV 0, iV c0]) rfl <| nC C 0 1 d5_38 rfl rfl (#[aV a1, iV 1, aV a2, iV 1, iV 5, iV 1, iV c0]) rfl <| gT C d5_41 3 (by decide) <| iL C 1 d5_3 rfl <| iL C 5 d5_5 rfl <| yicmp_n C d5_7 (XT.ii_ge_f (by decide)) <| aN C ((.ref a1)) d5_10 rfl rfl <| iN C 1 d5_11 rfl ?_
  have f_5 := (A1.keep K_2 (ninS n12 nin0))
  refine ycaload C f_5 (by decide) (i := 1) (by decide) (v := c1) rfl d5_12 <| iS C d5_13 (#[aV a1, iV 1, aV a2, iV 1, iV 5, iV 1, iV c1]) rfl <| iL C c1 d5_15 rfl <| iP C 255 d5_17 rfl <| yicmp_n C d5_20 (XT.ii_le_f k1.2) <| iL C 1 d5_23 rfl ?_
  refine g_ret C (v := (.int 1)) (ty := .int) rfl rfl (Or.inl ⟨rfl, Or.inl rfl, _, rfl⟩) d5_25 (by decide) (by decide) ?_
  exact ⟨rfl, ((Keep.refl h0 [a2]).trans K_2 (allS (Or.inl (List.mem_of_getElem? (i := 0) rfl)) all0))⟩
theorem rm_comp2B_5_1 (hw : HW a0 Z) (a1 : Addr) (c0 c1 c2 c3 c4 : Int32) (h0 : Heap) (Z0 : n0 ≤ h0.size) (cm : Um Z) (O : Old Z n0 h0) (A1 : Ary Z h0 a1 .char [.int c0, .int c1, .int c2, .int c3, .int c4]) (k0 : Ch c0) (k1 : Bg c1) (k2 : Ch c2) (k3 : Ch c3) (k4 : Ch c4) :
    Met1 l Z ⟨"java/lang/StringUTF16", "compress", "([CII)[B"⟩ jdk_52_method_16_code 6 (some (.array .byte)) ⟨3, 2, 15, 40⟩ n0 #[(.ref a1), (.int 0), (.int 5)] h0 (fun v h => ∃ b : Addr, v = some (.ref b) ∧ h0.size ≤ b ∧ Keep h0 h [] ∧ Ary Z h b .byte [.int (bY (c0 >>> (0 &&& 31))), .int (bY (c0 >>> (8 &&& 31))), .int (bY (c1 >>> (0 &&& 31))), .int (bY (c1 >>> (8 &&& 31))), .int (bY (c2 >>> (0 &&& 31))), .int (bY (c2 >>> (8 &&& 31))), .int (bY (c3 >>> (0 &&& 31))), .int (bY (c3 >>> (8 &&& 31))), .int (bY (c4 >>> (0 &&& 31))), .int (bY (c4 >>> (8 &&& 31)))]) := by
  refine met_of (plainFor_of_name pn_4) (L0 := #[.val (.ref a1), .val (.int 0), .val (.int 5), .unset, .unset, .unset]) (by first | (simp [argsToLocals, Value.category]; done) | rfl) ?_
  intro B C
  change Ctx B l _ _ "java/lang/StringUTF16" "compress" _ _ Z at C
  have cm' := cm
  obtain ⟨⟨cz, Scz, hcz⟩, Sas, Shi, Slo, Sfm⟩ := cm'
  refine iN C 5 d4_0 rfl <| ynewarray C (oW hw 20 rfl) (ty := .byte) rfl (by decide) (cap := 5) (by decide) (by decide) (by decide) (by decide) d4_1 ?_
  intro h_1 a_2 g_3 E_4 A_5
  have ne_6 : a1 ≠ a_2 := ne_new A1.lt g_3
  have ge_a_2 : n0 ≤ a_2 := lT Z0 (lE g_3.symm)
  have gs_a_2 : h0.size ≤ a_2 := lT (Nat.le_refl h0.size) (lE g_3.symm)
  have f_7 : Ary Z h_1 a_2 .byte [(.int 0), (.int 0), (.int 0), (.int 0), (.int 0)] := A_5
  show Go _ _ _ _ 1 5 3 _ [(.ref a_2)]
  refine aT C d4_3 (#[aV a1, iV 0, iV 5, aV a_2, uV, uV]) rfl rfl <| aN C ((.ref a1)) d4_4 rfl rfl <| iN C 0 d4_5 rfl <| aN C ((.ref a_2)) d4_6 rfl rfl <| iC C 0 d4_7 rfl <| iN C 5 d4_8 rfl ?_
  have f_8 := (A1.ext E_4)
  have f_9 := (lT Z0 E_4.1)
  refine cS C hw 21 22 18 23 rfl rfl rfl rfl (rm_comp1B_5_1 hw a1 a_2 c0 c1 c2 c3 c4 h_1 f_9 f_8 f_7 ge_a_2 ne_6 k0 k1 k2 k3 k4) [] [(.ref a1), (.int 0), (.ref a_2), (.int 0), (.int 5)] pd_13 0 d4_9 ⟨rfl, rfl, rfl, rfl, rfl⟩ (by decide) ?_
  intro v_12 h_10 q_11
  obtain ⟨rfl, K_14⟩ := q_11
  show Go _ _ _ _ 1 5 12 _ [(.int 1)]
  refine iS C d4_12 (#[aV a1, iV 0, iV 5, aV a_2, iV 1, uV]) rfl <| iL C 1 d4_14 rfl <| iN C 5 d4_16 rfl <| yicmp_n C d4_17 (XT.ii_eq_f (by decide)) <| aN C ((.ref a1)) d4_20 rfl rfl <| iN C 0 d4_21 rfl <| iN C 5 d4_22 rfl ?_
  have f_15 := ((O.ext E_4).keep K_14 (allS ge_a_2 all0))
  have f_16 := (f_8.keep K_14 (ninS ne_6 nin0))
  have f_17 := (lT f_9 K_14.1)
  have f_18 := (lT (lT (Nat.le_refl h0.size) E_4.1) K_14.1)
  refine cS C hw 71 72 18 73 rfl rfl rfl rfl (rm_toB_5 hw a1 c0 c1 c2 c3 c4 h_10 f_17 cm f_15 f_16) [] [(.ref a1), (.int 0), (.int 5)] pd_18 0 d4_23 ⟨rfl, rfl, rfl, rfl, rfl⟩ (by decide) ?_
  intro v_21 h_19 q_20
  obtain ⟨b_23, rfl, le_24, K_25, f_26⟩ := q_20
  have ne_27 : a1 ≠ b_23 := ne_ge f_16.lt le_24
  have ge_b_23 : n0 ≤ b_23 := lT f_17 le_24
  have gs_b_23 : h0.size ≤ b_23 := lT f_18 le_24
  show Go _ _ _ _ 2 15 26 _ [(.ref b_23)]
  refine aS C d4_26 (#[aV a1, iV 0, iV 5, aV a_2, iV 1, aV b_23]) rfl rfl <| aL C ((.ref b_23)) d4_28 rfl rfl <| iL C 1 d4_30 rfl ?_
  have f_28 := (f_15.keep K_25 all0)
  have f_29 := (lT f_17 K_25.1)
  refine cS C hw 87 88 18 89 rfl rfl rfl rfl (rm_getC_5_1 hw b_23 (bY (c0 >>> (0 &&& 31))) (bY (c0 >>> (8 &&& 31))) (bY (c1 >>> (0 &&& 31))) (bY (c1 >>> (8 &&& 31))) (bY (c2 >>> (0 &&& 31))) (bY (c2 >>> (8 &&& 31))) (bY (c3 >>> (0 &&& 31))) (bY (c3 >>> (8 &&& 31))) (bY (c4 >>> (0 &&& 31))) (bY (c4 >>> (8 &&& 31))) c1 h_19 f_29 cm f_28 f_26 (own_gc k1.1) k1.1) [] [(.ref b_23), (.int 1)] pd_15 0 d4_32 ⟨rfl, rfl, rfl, rfl, rfl⟩ (by decide) ?_
  intro v_32 h_30 q_31
  obtain ⟨rfl, rfl⟩ := q_31
  show Go _ _ _ _ 2 15 35 _ [(.int c1)]
  refine iP C 255 d4_35 rfl <| cY C d4_38 (XT.ii_gt_t k1.2) 54 (by decide) <| aL C ((.ref b_23)) d4_54 rfl rfl ?_
  refine g_ret C (v := (.ref b_23)) (ty := (.array .byte)) rfl rfl (Or.inr (Or.inr (Or.inr (Or.inr ⟨rfl, rfl, rfl⟩)))) d4_56 (by decide) (by decide) ?_
  exact ⟨b_23, rfl, gs_b_23, ((((Keep.refl h0 []).ext E_4).trans K_14 (allS (Or.inr gs_a_2) all0)).trans K_25 all0), f_26⟩
theorem rm_coderB_5 (hw : HW a0 Z) (a1 : Addr) (x0 x1 x2 x3 x4 x5 x6 x7 x8 x9 : Int32) (h0 : Heap) (Z0 : n0 ≤ h0.size) (A1 : Ary Z h0 a1 .byte [.int x0, .int x1, .int x2, .int x3, .int x4, .int x5, .int x6, .int x7, .int x8, .int x9]) :
    Met1 l Z ⟨"java/lang/StringUTF16", "coderFromArrayLen", "([BI)B"⟩ jdk_52_method_15_code 2 (some .byte) ⟨0, 0, 0, 0⟩ n0 #[(.ref a1), (.int 5)] h0 (fun v h => v = some (.int 1) ∧ h0 = h) := by
  refine met_of (plainFor_of_name pn_4) (L0 := #[.val (.ref a1), .val (.int 5)]) (by first | (simp [argsToLocals, Value.category]; done) | rfl) ?_
  intro B C
  change Ctx B l _ _ "java/lang/StringUTF16" "coderFromArrayLen" _ _ Z at C
  refine iN C 5 d6_0 rfl <| aN C ((.ref a1)) d6_1 rfl rfl <| yarraylength C A1 (z := 10) rfl d6_2 <| yisub C d6_3 <| eS [(.int (-5 : Int32))] rfl <| iB C 31 d6_4 rfl <| yiushr C d6_6 <| eS [(.int 1)] rfl <| yi2b C d6_7 <| eS [(.int 1)] rfl ?_
  refine g_ret C (v := (.int 1)) (ty := .byte) rfl rfl (Or.inl ⟨rfl, Or.inr (Or.inr (Or.inl rfl)), _, rfl⟩) d6_8 (by decide) (by decide) ?_
  exact ⟨rfl, rfl⟩
theorem rm_init4B_5_1 (hw : HW a0 Z) (a1 a2 : Addr) (c0 c1 c2 c3 c4 : Int32) (h0 : Heap) (Z0 : n0 ≤ h0.size) (cm : Um Z) (O : Old Z n0 h0) (E0 : Exa Z h0 a1 "java/lang/String") (F0 : Fld Z h0 a1 "java/lang/String" "value" "[B" .null) (F1 : Fld Z h0 a1 "java/lang/String" "coder" "B" (.int 0)) (g1 : n0 ≤ a1) (A2 : Ary Z h0 a2 .char [.int c0, .int c1, .int c2, .int c3, .int c4]) (n12 : a1 ≠ a2) (k0 : Ch c0) (k1 : Bg c1) (k2 : Ch c2) (k3 : Ch c3) (k4 : Ch c4) :
    Met1 l Z ⟨"java/lang/String", "<init>", "([CIILjava/lang/Void;)V"⟩ jdk_42_method_149_code 6 none ⟨4, 2, 15, 57⟩ n0 #[(.ref a1), (.ref a2), (.int 0), (.int 5), .null] h0 (fun v h => v = none ∧ Keep h0 h [a1] ∧ ∃ b : Addr, h0.size ≤ b ∧ Fld Z h a1 "java/lang/String" "value" "[B" (.ref b) ∧ Fld Z h a1 "java/lang/String" "coder" "B" (.int 1) ∧ Ary Z h b .byte [.int (bY (c0 >>> (0 &&& 31))), .int (bY (c0 >>> (8 &&& 31))), .int (bY (c1 >>> (0 &&& 31))), .int (bY (c1 >>> (8 &&& 31))), .int (bY (c2 >>> (0 &&& 31))), .int (bY (c2 >>> (8 &&& 31))), .int (bY (c3 >>> (0 &&& 31))), .int (bY (c3 >>> (8 &&& 31))), .int (bY (c4 >>> (0 &&& 31))), .int (bY (c4 >>> (8 &&& 31)))]) := by
  refine met_of (plainFor_of_name pn_5) (L0 := #[.val (.ref a1), .val (.ref a2), .val (.int 0), .val (.int 5), .val .null, .unset]) (by first | (simp [argsToLocals, Value.category]; done) | rfl) ?_
  intro B C
  change Ctx B l _ _ "java/lang/String" "<init>" _ _ Z at C
  have cm' := cm
  obtain ⟨⟨cz, Scz, hcz⟩, Sas, Shi, Slo, Sfm⟩ := cm'
  refine aN C ((.ref a1)) d2_0 rfl rfl <| yinitObj C (oW hw 12 rfl) (oW hw 13 rfl) (oW hw 14 rfl) rfl (by decide) (W := 0) (lE rfl) (by decide) d2_1 <| iN C 5 d2_4 rfl <| fY C d2_5 (XT.i0_ne_t (by decide)) 27 (by decide) <| ygetstatic C (host := "") (v := (.int cz)) (Or.inl (oW hw 15 rfl)) Via.refl (Scz.ext O.2) d2_27 <| yif_n C d2_30 (XT.i0_eq_f hcz) <| aN C ((.ref a2)) d2_33 rfl rfl <| iN C 0 d2_34 rfl <| iN C 5 d2_35 rfl <| cS C hw 16 17 18 19 rfl rfl rfl rfl (rm_comp2B_5_1 hw a2 c0 c1 c2 c3 c4 h0 Z0 cm O A2 k0 k1 k2 k3 k4) [] [(.ref a2), (.int 0), (.int 5)] pd_14 0 d2_36 ⟨rfl, rfl, rfl, rfl, rfl⟩ (by decide) ?_
  intro v_3 h_1 q_2
  obtain ⟨b_5, rfl, le_6, K_7, f_8⟩ := q_2
  have ne_9 : a1 ≠ b_5 := ne_ge E0.lt le_6
  have ne_10 : a2 ≠ b_5 := ne_ge A2.lt le_6
  have ge_b_5 : n0 ≤ b_5 := lT Z0 le_6
  have gs_b_5 : h0.size ≤ b_5 := lT (Nat.le_refl h0.size) le_6
  show Go _ _ _ _ 2 15 39 _ [(.ref b_5)]
  refine aS C d2_39 (#[aV a1, aV a2, iV 0, iV 5, .val .null, aV b_5]) rfl rfl <| aN C ((.ref a1)) d2_41 rfl rfl <| aL C ((.ref b_5)) d2_42 rfl rfl <| iN C 5 d2_44 rfl ?_
  have f_11 := (lT Z0 K_7.1)
  refine cS C hw 24 25 18 26 rfl rfl rfl rfl (rm_coderB_5 hw b_5 (bY (c0 >>> (0 &&& 31))) (bY (c0 >>> (8 &&& 31))) (bY (c1 >>> (0 &&& 31))) (bY (c1 >>> (8 &&& 31))) (bY (c2 >>> (0 &&& 31))) (bY (c2 >>> (8 &&& 31))) (bY (c3 >>> (0 &&& 31))) (bY (c3 >>> (8 &&& 31))) (bY (c4 >>> (0 &&& 31))) (bY (c4 >>> (8 &&& 31))) h_1 f_11 f_8) [(.ref a1)] [(.ref b_5), (.int 5)] pd_6 1 d2_45 ⟨rfl, rfl, rfl, rfl, rfl⟩ (by decide) ?_
  intro v_14 h_12 q_13
  obtain ⟨rfl, rfl⟩ := q_13
  show Go _ _ _ _ 2 15 48 _ [(.int 1), (.ref a1)]
  have f_16 := (F1.keep K_7 nin0)
  have f_17 := (E0.keep K_7)
  refine yputfield C (host := "") (v := (.int 1)) (Or.inl (oW hw 27 rfl)) Via.refl f_16 f_17 (Or.inr ⟨(oW hw 28 rfl), rfl, rfl⟩) (oW hw 3 rfl) (ty := .byte) (by decide) rfl rfl g1 d2_48 ?_
  intro h_18 W_19
  have f_20 := f_16.same W_19
  refine aN C ((.ref a1)) d2_51 rfl rfl <| aL C ((.ref b_5)) d2_52 rfl rfl ?_
  have f_21 := ((F0.keep K_7 nin0).other W_19 (Or.inr (slot_ne (Or.inr (oW hw 30 rfl)) (Or.inr (oW hw 28 rfl)) (by decide) (t := (.array .byte)) (t' := .byte) (by decide) (by decide))))
  have f_22 := (f_17.wr W_19)
  refine yputfield C (host := "") (v := (.ref b_5)) (Or.inl (oW hw 29 rfl)) Via.refl f_21 f_22 (Or.inr ⟨(oW hw 30 rfl), rfl, rfl⟩) (oW hw 3 rfl) (ty := (.array .byte)) (by decide) rfl rfl g1 d2_54 ?_
  intro h_23 W_24
  have f_25 := f_21.same W_24
  refine g_return C rfl d2_57 (by decide) (by decide) ?_
  have f_26 := (f_20.other W_24 (Or.inr (slot_ne (Or.inr (oW hw 28 rfl)) (Or.inr (oW hw 30 rfl)) (by decide) (t := .byte) (t' := (.array .byte)) (by decide) (by decide))))
  have f_27 := ((f_8.keep (Keep.of_wr W_19) (nin1 (Ne.symm ne_9))).keep (Keep.of_wr W_24) (nin1 (Ne.symm ne_9)))
  exact ⟨rfl, ((((Keep.refl h0 [a1]).trans K_7 all0).wr W_19 (Or.inl (List.mem_of_getElem? (i := 0) rfl))).wr W_24 (Or.inl (List.mem_of_getElem? (i := 0) rfl))), b_5, gs_b_5, f_25, f_26, f_27⟩
theorem rm_initB_5_1 (hw : HW a0 Z) (a1 a2 : Addr) (c0 c1 c2 c3 c4 : Int32) (h0 : Heap) (Z0 : n0 ≤ h0.size) (cm : Um Z) (O : Old Z n0 h0) (E0 : Exa Z h0 a1 "java/lang/String") (F0 : Fld Z h0 a1 "java/lang/String" "value" "[B" .null) (F1 : Fld Z h0 a1 "java/lang/String" "coder" "B" (.int 0)) (g1 : n0 ≤ a1) (A2 : Ary Z h0 a2 .char [.int c0, .int c1, .int c2, .int c3, .int c4]) (n12 : a1 ≠ a2) (k0 : Ch c0) (k1 : Bg c1) (k2 : Ch c2) (k3 : Ch c3) (k4 : Ch c4) :
    Met1 l Z ⟨"java/lang/String", "<init>", "([C)V"⟩ jdk_42_method_3_code 2 none ⟨5, 2, 15, 74⟩ n0 #[(.ref a1), (.ref a2)] h0 (fun v h => v = none ∧ Keep h0 h [a1] ∧ ∃ b : Addr, h0.size ≤ b ∧ Fld Z h a1 "java/lang/String" "value" "[B" (.ref b) ∧ Fld Z h a1 "java/lang/String" "coder" "B" (.int 1) ∧ Ary Z h b .byte [.int (bY (c0 >>> (0 &&& 31))), .int (bY (c0 >>> (8 &&& 31))), .int (bY (c1 >>> (0 &&& 31))), .int (bY (c1 >>> (8 &&& 31))), .int (bY (c2 >>> (0 &&& 31))), .int (bY (c2 >>> (8 &&& 31))), .int (bY (c3 >>> (0 &&& 31))), .int (bY (c3 >>> (8 &&& 31))), .int (bY (c4 >>> (0 &&& 31))), .int (bY (c4 >>> (8 &&& 31)))]) := by
  refine met_of (plainFor_of_name pn_5) (L0 := #[.val (.ref a1), .val (.ref a2)]) (by first | (simp [argsToLocals, Value.category]; done) | rfl) ?_
  intro B C
  change Ctx B l _ _ "java/lang/String" "<init>" _ _ Z at C
  have cm' := cm
  obtain ⟨⟨cz, Scz, hcz⟩, Sas, Shi, Slo, Sfm⟩ := cm'
  refine aN C ((.ref a1)) d1_0 rfl rfl <| aN C ((.ref a2)) d1_1 rfl rfl <| iC C 0 d1_2 rfl <| aN C ((.ref a2)) d1_3 rfl rfl <| yarraylength C A2 (z := 5) rfl d1_4 <| yaconst_null C d1_5 <| cP C hw 8 9 4 11 rfl rfl rfl rfl rfl (rm_init4B_5_1 hw a1 a2 c0 c1 c2 c3 c4 h0 Z0 cm O E0 F0 F1 g1 A2 n12 k0 k1 k2 k3 k4) [] [(.ref a2), (.int 0), (.int 5), .null] pd_24 0 d1_6 ⟨rfl, rfl, rfl, rfl, rfl⟩ (by decide) ?_
  intro v_3 h_1 q_2
  obtain ⟨rfl, K_5, b_6, le_7, f_8, f_9, f_10⟩ := q_2
  have ne_11 : a1 ≠ b_6 := ne_ge E0.lt le_7
  have ne_12 : a2 ≠ b_6 := ne_ge A2.lt le_7
  have ge_b_6 : n0 ≤ b_6 := lT Z0 le_7
  have gs_b_6 : h0.size ≤ b_6 := lT (Nat.le_refl h0.size) le_7
  show Go _ _ _ _ 2 15 9 _ []
  refine g_return C rfl d1_9 (by decide) (by decide) ?_
  exact ⟨rfl, ((Keep.refl h0 [a1]).trans K_5 (allS (Or.inl (List.mem_of_getElem? (i := 0) rfl)) all0)), b_6, gs_b_6, f_8, f_9, f_10⟩
theorem rm_getC_5_2 (hw : HW a0 Z) (a1 : Addr) (x0 x1 x2 x3 x4 x5 x6 x7 x8 x9 c : Int32) (h0 : Heap) (Z0 : n0 ≤ h0.size) (cm : Um Z) (O : Old Z n0 h0) (A1 : Ary Z h0 a1 .byte [.int x0, .int x1, .int x2, .int x3, .int x4, .int x5, .int x6, .int x7, .int x8, .int x9]) (ec : (UInt32.toInt32 (UInt16.toUInt32 (UInt32.toUInt16 (Int32.toUInt32 (((x4 &&& 255) <<< (0 &&& 31)) ||| ((x5 &&& 255) <<< (8 &&& 31))))))) = c) (kc : nar .char c = c) :
    Met1 l Z ⟨"java/lang/StringUTF16", "getChar", "([BI)C"⟩ jdk_52_method_5_code 2 (some .char) ⟨0, 0, 0, 0⟩ n0 #[(.ref a1), (.int 2)] h0 (fun v h => v = some (.int c) ∧ h0 = h) := by
  refine met_of (plainFor_of_name pn_4) (L0 := #[.val (.ref a1), .val (.int 2)]) (by first | (simp [argsToLocals, Value.category]; done) | rfl) ?_
  intro B C
  change Ctx B l _ _ "java/lang/StringUTF16" "getChar" _ _ Z at C
  have cm' := cm
  obtain ⟨⟨cz, Scz, hcz⟩, Sas, Shi, Slo, Sfm⟩ := cm'
  refine ygetstatic C (host := "") (v := (.int 1)) (Or.inl (oW hw 84 rfl)) Via.refl (Sas.ext O.2) d20_0 <| fY C d20_3 (XT.i0_ne_t (by decide)) 28 (by decide) <| iN C 2 d20_28 rfl <| iC C 1 d20_29 rfl <| yishl C d20_30 <| eS [(.int 4)] rfl <| iT C d20_31 (#[aV a1, iV 4]) rfl <| aN C ((.ref a1)) d20_32 rfl rfl <| iN C 4 d20_33 rfl <| nC C 4 5 d20_34 rfl rfl (#[aV a1, iV 5]) rfl <| ybaloadB C A1 (by decide) (i := 4) (by decide) (v := x4) rfl d20_37 <| iP C 255 d20_38 rfl <| yiand C d20_41 <| ygetstatic C (host := "") (v := (.int 0)) (Or.inl (oW hw 85 rfl)) Via.refl (Shi.ext O.2) d20_42 <| yishl C d20_45 <| aN C ((.ref a1)) d20_46 rfl rfl <| iN C 5 d20_47 rfl <| ybaloadB C A1 (by decide) (i := 5) (by decide) (v := x5) rfl d20_48 <| iP C 255 d20_49 rfl <| yiand C d20_52 <| ygetstatic C (host := "") (v := (.int 8)) (Or.inl (oW hw 86 rfl)) Via.refl (Slo.ext O.2) d20_53 <| yishl C d20_56 <| yior C d20_57 <| yi2c C d20_58 ?_
  rw [ec]
  refine g_ret C (v := (.int c)) (ty := .char) rfl (own_nch kc) (Or.inl ⟨rfl, Or.inr (Or.inr (Or.inr (Or.inl rfl))), _, rfl⟩) d20_59 (by decide) (by decide) ?_
  exact ⟨rfl, rfl⟩
theorem rm_comp1B_5_2 (hw : HW a0 Z) (a1 a2 : Addr) (c0 c1 c2 c3 c4 : Int32) (h0 : Heap) (Z0 : n0 ≤ h0.size) (A1 : Ary Z h0 a1 .char [.int c0, .int c1, .int c2, .int c3, .int c4]) (A2 : Ary Z h0 a2 .byte [.int 0, .int 0, .int 0, .int 0, .int 0]) (g2 : n0 ≤ a2) (n12 : a1 ≠ a2) (k0 : Ch c0) (k1 : Ch c1) (k2 : Bg c2) (k3 : Ch c3) (k4 : Ch c4) :
    Met1 l Z ⟨"java/lang/StringUTF16", "compress", "([CI[BII)I"⟩ jdk_52_method_21_code 7 (some .int) ⟨0, 0, 0, 0⟩ n0 #[(.ref a1), (.int 0), (.ref a2), (.int 0), (.int 5)] h0 (fun v h => v = some (.int 2) ∧ Keep h0 h [a2]) := by
  refine met_of (plainFor_of_name pn_4) (L0 := #[.val (.ref a1), .val (.int 0), .val (.ref a2), .val (.int 0), .val (.int 5), .unset, .unset]) (by first | (simp [argsToLocals, Value.category]; done) | rfl) ?_
  intro B C
  change Ctx B l _ _ "java/lang/StringUTF16" "compress" _ _ Z at C
  refine iC C 0 d5_0 rfl <| iS C d5_1 (#[aV a1, iV 0, aV a2, iV 0, iV 5, iV 0, uV]) rfl <| iL C 0 d5_3 rfl <| iL C 5 d5_5 rfl <| yicmp_n C d5_7 (XT.ii_ge_f (by decide)) <| aN C ((.ref a1)) d5_10 rfl rfl <| iN C 0 d5_11 rfl <| ycaload C A1 (by decide) (i := 0) (by decide) (v := c0) rfl d5_12 <| iS C d5_13 (#[aV a1, iV 0, aV a2, iV 0, iV 5, iV 0, iV c0]) rfl <| iL C c0 d5_15 rfl <| iP C 255 d5_17 rfl <| cY C d5_20 (XT.ii_le_t k0.2.1) 26 (by decide) <| aN C ((.ref a2)) d5_26 rfl rfl <| iN C 0 d5_27 rfl <| iL C c0 d5_28 rfl <| yi2b C d5_30 <| ybastoreB C A2 (by decide) (i := 0) (by decide) (show 0 < 5 by decide) (w := (.int (bY c0))) (congrArg Value.int (own_narb _)) g2 d5_31 ?_
  intro h_1 K_2 A_3
  have f_4 : Ary Z h_1 a2 .byte [(.int (bY c0)), (.int 0), (.int 0), (.int 0), (.int 0)] := A_3
  refine nC C 0 1 d5_32 rfl rfl (#[aV a1, iV 1, aV a2, iV 0, iV 5, iV 0, iV c0]) rfl <| nC C 0 1 d5_35 rfl rfl (#[aV a1, iV 1, aV a2, iV 1, iV 5, iV 0, iV c0]) rfl <| nC C 0 1 d5_38 rfl rfl (#[aV a1, iV 1, aV a2, iV 1, iV 5, iV 1, iV c0]) rfl <| gT C d5_41 3 (by decide) <| iL C 1 d5_3 rfl <| iL C 5 d5_5 rfl <| yicmp_n C d5_7 (XT.ii_ge_f (by decide)) <| aN C ((.ref a1)) d5_10 rfl rfl <| iN C 1 d5_11 rfl ?_
  have f_5 := (A1.keep K_2 (ninS n12 nin0))
  refine ycaload C f_5 (by decide) (i := 1) (by decide) (v := c1) rfl d5_12 <| iS C d5_13 (#[aV a1, iV 1, aV a2, iV 1, iV 5, iV 1, iV c1]) rfl <| iL C c1 d5_15 rfl <| iP C 255 d5_17 rfl <| cY C d5_20 (XT.ii_le_t k1.2.1) 26 (by decide) <| aN C ((.ref a2)) d5_26 rfl rfl <| iN C 1 d5_27 rfl <| iL C c1 d5_28 rfl <| yi2b C d5_30 <| ybastoreB C f_4 (by decide) (i := 1) (by decide) (show 1 < 5 by decide) (w := (.int (bY c1))) (congrArg Value.int (own_narb _)) g2 d5_31 ?_
  intro h_6 K_7 A_8
  have f_9 : Ary Z h_6 a2 .byte [(.int (bY c0)), (.int (bY c1)), (.int 0), (.int 0), (.int 0)] := A_8
  refine nC C 1 2 d5_32 rfl rfl (#[aV a1, iV 2, aV a2, iV 1, iV 5, iV 1, iV c1]) rfl <| nC C 1 2 d5_35 rfl rfl (#[aV a1, iV 2, aV a2, iV 2, iV 5, iV 1, iV c1]) rfl <| nC C 1 2 d5_38 rfl rfl (#[aV a1, iV 2, aV a2, iV 2, iV 5, iV 2, iV c1]) rfl <| gT C d5_41 3 (by decide) <| iL C 2 d5_3 rfl <| iL C 5 d5_5 rfl <| yicmp_n C d5_7 (XT.ii_ge_f (by decide)) <| aN C ((.ref a1)) d5_10 rfl rfl <| iN C 2 d5_11 rfl ?_
  have f_10 := (f_5.keep K_7 (ninS n12 nin0))
  refine ycaload C f_10 (by decide) (i := 2) (by decide) (v := c2) rfl d5_12 <| iS C d5_13 (#[aV a1, iV 2, aV a2, iV 2, iV 5, iV 2, iV c2]) rfl <| iL C c2 d5_15 rfl <| iP C 255 d5_17 rfl <| yicmp_n C d5_20 (XT.ii_le_f k2.2) <| iL C 2 d5_23 rfl ?_
  refine g_ret C (v := (.int 2)) (ty := .int) rfl rfl (Or.inl ⟨rfl, Or.inl rfl, _, rfl⟩) d5_25 (by decide) (by decide) ?_
  exact ⟨rfl, (((Keep.refl h0 [a2]).trans K_2 (allS (Or.inl (List.mem_of_getElem? (i := 0) rfl)) all0)).trans K_7 (allS (Or.inl (List.mem_of_getElem? (i := 0) rfl)) all0))⟩
theorem rm_comp2B_5_2 (hw : HW a0 Z) (a1 : Addr) (c0 c1 c2 c3 c4 : Int32) (h0 : Heap) (Z0 : n0 ≤ h0.size) (cm : Um Z) (O : Old Z n0 h0) (A1 : Ary Z h0 a1 .char [.int c0, .int c1, .int c2, .int c3, .int c4]) (k0 : Ch c0) (k1 : Ch c1) (k2 : Bg c2) (k3 : Ch c3) (k4 : Ch c4) :
    Met1 l Z ⟨"java/lang/StringUTF16", "compress", "([CII)[B"⟩ jdk_52_method_16_code 6 (some (.array .byte)) ⟨3, 2, 15, 40⟩ n0 #[(.ref a1), (.int 0), (.int 5)] h0 (fun v h => ∃ b : Addr, v = some (.ref b) ∧ h0.size ≤ b ∧ Keep h0 h [] ∧ Ary Z h b .byte [.int (bY (c0 >>> (0 &&& 31))), .int (bY (c0 >>> (8 &&& 31))), .int (bY (c1 >>> (0 &&& 31))), .int (bY (c1 >>> (8 &&& 31))), .int (bY (c2 >>> (0 &&& 31))), .int (bY (c2 >>> (8 &&& 31))), .int (bY (c3 >>> (0 &&& 31))), .int (bY (c3 >>> (8 &&& 31))), .int (bY (c4 >>> (0 &&& 31))), .int (bY (c4 >>> (8 &&& 31)))]) := by
  refine met_of (plainFor_of_name pn_4) (L0 := #[.val (.ref a1), .val (.int 0), .val (.int 5), .unset, .unset, .unset]) (by first | (simp [argsToLocals, Value.category]; done) | rfl) ?_
  intro B C
  change Ctx B l _ _ "java/lang/StringUTF16" "compress" _ _ Z at C
  have cm' := cm
  obtain ⟨⟨cz, Scz, hcz⟩, Sas, Shi, Slo, Sfm⟩ := cm'
  refine iN C 5 d4_0 rfl <| ynewarray C (oW hw 20 rfl) (ty := .byte) rfl (by decide) (cap := 5) (by decide) (by decide) (by decide) (by decide) d4_1 ?_
  intro h_1 a_2 g_3 E_4 A_5
  have ne_6 : a1 ≠ a_2 := ne_new A1.lt g_3
  have ge_a_2 : n0 ≤ a_2 := lT Z0 (lE g_3.symm)
  have gs_a_2 : h0.size ≤ a_2 := lT (Nat.le_refl h0.size) (lE g_3.symm)
  have f_7 : Ary Z h_1 a_2 .byte [(.int 0), (.int 0), (.int 0), (.int 0), (.int 0)] := A_5
  show Go _ _ _ _ 1 5 3 _ [(.ref a_2)]
  refine aT C d4_3 (#[aV a1, iV 0, iV 5, aV a_2, uV, uV]) rfl rfl <| aN C ((.ref a1)) d4_4 rfl rfl <| iN C 0 d4_5 rfl <| aN C ((.ref a_2)) d4_6 rfl rfl <| iC C 0 d4_7 rfl <| iN C 5 d4_8 rfl ?_
  have f_8 := (A1.ext E_4)
  have f_9 := (lT Z0 E_4.1)
  refine cS C hw 21 22 18 23 rfl rfl rfl rfl (rm_comp1B_5_2 hw a1 a_2 c0 c1 c2 c3 c4 h_1 f_9 f_8 f_7 ge_a_2 ne_6 k0 k1 k2 k3 k4) [] [(.ref a1), (.int 0), (.ref a_2), (.int 0), (.int 5)] pd_13 0 d4_9 ⟨rfl, rfl, rfl, rfl, rfl⟩ (by decide) ?_
  intro v_12 h_10 q_11
  obtain ⟨rfl, K_14⟩ := q_11
  show Go _ _ _ _ 1 5 12 _ [(.int 2)]
  refine iS C d4_12 (#[aV a1, iV 0, iV 5, aV a_2, iV 2, uV]) rfl <| iL C 2 d4_14 rfl <| iN C 5 d4_16 rfl <| yicmp_n C d4_17 (XT.ii_eq_f (by decide)) <| aN C ((.ref a1)) d4_20 rfl rfl <| iN C 0 d4_21 rfl <| iN C 5 d4_22 rfl ?_
  have f_15 := ((O.ext E_4).keep K_14 (allS ge_a_2 all0))
  have f_16 := (f_8.keep K_14 (ninS ne_6 nin0))
  have f_17 := (lT f_9 K_14.1)
  have f_18 := (lT (lT (Nat.le_refl h0.size) E_4.1) K_14.1)
  refine cS C hw 71 72 18 73 rfl rfl rfl rfl (rm_toB_5 hw a1 c0 c1 c2 c3 c4 h_10 f_17 cm f_15 f_16) [] [(.ref a1), (.int 0), (.int 5)] pd_18 0 d4_23 ⟨rfl, rfl, rfl, rfl, rfl⟩ (by decide) ?_
  intro v_21 h_19 q_20
  obtain ⟨b_23, rfl, le_24, K_25, f_26⟩ := q_20
  have ne_27 : a1 ≠ b_23 := ne_ge f_16.lt le_24
  have ge_b_23 : n0 ≤ b_23 := lT f_17 le_24
  have gs_b_23 : h0.size ≤ b_23 := lT f_18 le_24
  show Go _ _ _ _ 2 15 26 _ [(.ref b_23)]
  refine aS C d4_26 (#[aV a1, iV 0, iV 5, aV a_2, iV 2, aV b_23]) rfl rfl <| aL C ((.ref b_23)) d4_28 rfl rfl <| iL C 2 d4_30 rfl ?_
  have f_28 := (f_15.keep K_25 all0)
  have f_29 := (lT f_17 K_25.1)
  refine cS C hw 87 88 18 89 rfl rfl rfl rfl (rm_getC_5_2 hw b_23 (bY (c0 >>> (0 &&& 31))) (bY (c0 >>> (8 &&& 31))) (bY (c1 >>> (0 &&& 31))) (bY (c1 >>> (8 &&& 31))) (bY (c2 >>> (0 &&& 31))) (bY (c2 >>> (8 &&& 31))) (bY (c3 >>> (0 &&& 31))) (bY (c3 >>> (8 &&& 31))) (bY (c4 >>> (0 &&& 31))) (bY (c4 >>> (8 &&& 31))) c2 h_19 f_29 cm f_28 f_26 (own_gc k2.1) k2.1) [] [(.ref b_23), (.int 2)] pd_15 0 d4_32 ⟨rfl, rfl, rfl, rfl, rfl⟩ (by decide) ?_
  intro v_32 h_30 q_31
  obtain ⟨rfl, rfl⟩ := q_31
  show Go _ _ _ _ 2 15 35 _ [(.int c2)]
  refine iP C 255 d4_35 rfl <| cY C d4_38 (XT.ii_gt_t k2.2) 54 (by decide) <| aL C ((.ref b_23)) d4_54 rfl rfl ?_
  refine g_ret C (v := (.ref b_23)) (ty := (.array .byte)) rfl rfl (Or.inr (Or.inr (Or.inr (Or.inr ⟨rfl, rfl, rfl⟩)))) d4_56 (by decide) (by decide) ?_
  exact ⟨b_23, rfl, gs_b_23, ((((Keep.refl h0 []).ext E_4).trans K_14 (allS (Or.inr gs_a_2) all0)).trans K_25 all0), f_26⟩
theorem rm_init4B_5_2 (hw : HW a0 Z) (a1 a2 : Addr) (c0 c1 c2 c3 c4 : Int32) (h0 : Heap) (Z0 : n0 ≤ h0.size) (cm : Um Z) (O : Old Z n0 h0) (E0 : Exa Z h0 a1 "java/lang/String") (F0 : Fld Z h0 a1 "java/lang/String" "value" "[B" .null) (F1 : Fld Z h0 a1 "java/lang/String" "coder" "B" (.int 0)) (g1 : n0 ≤ a1) (A2 : Ary Z h0 a2 .char [.int c0, .int c1, .int c2, .int c3, .int c4]) (n12 : a1 ≠ a2) (k0 : Ch c0) (k1 : Ch c1) (k2 : Bg c2) (k3 : Ch c3) (k4 : Ch c4) :
    Met1 l Z ⟨"java/lang/String", "<init>", "([CIILjava/lang/Void;)V"⟩ jdk_42_method_149_code 6 none ⟨4, 2, 15, 57⟩ n0 #[(.ref a1), (.ref a2), (.int 0), (.int 5), .null] h0 (fun v h => v = none ∧ Keep h0 h [a1] ∧ ∃ b : Addr, h0.size ≤ b ∧ Fld Z h a1 "java/lang/String" "value" "[B" (.ref b) ∧ Fld Z h a1 "java/lang/String" "coder" "B" (.int 1) ∧ Ary Z h b .byte [.int (bY (c0 >>> (0 &&& 31))), .int (bY (c0 >>> (8 &&& 31))), .int (bY (c1 >>> (0 &&& 31))), .int (bY (c1 >>> (8 &&& 31))), .int (bY (c2 >>> (0 &&& 31))), .int (bY (c2 >>> (8 &&& 31))), .int (bY (c3 >>> (0 &&& 31))), .int (bY (c3 >>> (8 &&& 31))), .int (bY (c4 >>> (0 &&& 31))), .int (bY (c4 >>> (8 &&& 31)))]) := by
  refine met_of (plainFor_of_name pn_5) (L0 := #[.val (.ref a1), .val (.ref a2), .val (.int 0), .val (.int 5), .val .null, .unset]) (by first | (simp [argsToLocals, Value.category]; done) | rfl) ?_
  intro B C
  change Ctx B l _ _ "java/lang/String" "<init>" _ _ Z at C
  have cm' := cm
  obtain ⟨⟨cz, Scz, hcz⟩, Sas, Shi, Slo, Sfm⟩ := cm'
  refine aN C ((.ref a1)) d2_0 rfl rfl <| yinitObj C (oW hw 12 rfl) (oW hw 13 rfl) (oW hw 14 rfl) rfl (by decide) (W := 0) (lE rfl) (by decide) d2_1 <| iN C 5 d2_4 rfl <| fY C d2_5 (XT.i0_ne_t (by decide)) 27 (by decide) <| ygetstatic C (host := "") (v := (.int cz)) (Or.inl (oW hw 15 rfl)) Via.refl (Scz.ext O.2) d2_27 <| yif_n C d2_30 (XT.i0_eq_f hcz) <| aN C ((.ref a2)) d2_33 rfl rfl <| iN C 0 d2_34 rfl <| iN C 5 d2_35 rfl <| cS C hw 16 17 18 19 rfl rfl rfl rfl (rm_comp2B_5_2 hw a2 c0 c1 c2 c3 c4 h0 Z0 cm O A2 k0 k1 k2 k3 k4) [] [(.ref a2), (.int 0), (.int 5)] pd_14 0 d2_36 ⟨rfl, rfl, rfl, rfl, rfl⟩ (by decide) ?_
  intro v_3 h_1 q_2
  obtain ⟨b_5, rfl, le_6, K_7, f_8⟩ := q_2
  have ne_9 : a1 ≠ b_5 := ne_ge E0.lt le_6
  have ne_10 : a2 ≠ b_5 := ne_ge A2.lt le_6
  have ge_b_5 : n0 ≤ b_5 := lT Z0 le_6
  have gs_b_5 : h0.size ≤ b_5 := lT (Nat.le_refl h0.size) le_6
  show Go _ _ _ _ 2 15 39 _ [(.ref b_5)]
  refine aS C d2_39 (#[aV a1, aV a2, iV 0, iV 5, .val .null, aV b_5]) rfl rfl <| aN C ((.ref a1)) d2_41 rfl rfl <| aL C ((.ref b_5)) d2_42 rfl rfl <| iN C 5 d2_44 rfl ?_
  have f_11 := (lT Z0 K_7.1)
  refine cS C hw 24 25 18 26 rfl rfl rfl rfl (rm_coderB_5 hw b_5 (bY (c0 >>> (0 &&& 31))) (bY (c0 >>> (8 &&& 31))) (bY (c1 >>> (0 &&& 31))) (bY (c1 >>> (8 &&& 31))) (bY (c2 >>> (0 &&& 31))) (bY (c2 >>> (8 &&& 31))) (bY (c3 >>> (0 &&& 31))) (bY (c3 >>> (8 &&& 31))) (bY (c4 >>> (0 &&& 31))) (bY (c4 >>> (8 &&& 31))) h_1 f_11 f_8) [(.ref a1)] [(.ref b_5), (.int 5)] pd_6 1 d2_45 ⟨rfl, rfl, rfl, rfl, rfl⟩ (by decide) ?_
  intro v_14 h_12 q_13
  obtain ⟨rfl, rfl⟩ := q_13
  show Go _ _ _ _ 2 15 48 _ [(.int 1), (.ref a1)]
  have f_16 := (F1.keep K_7 nin0)
  have f_17 := (E0.keep K_7)
  refine yputfield C (host := "") (v := (.int 1)) (Or.inl (oW hw 27 rfl)) Via.refl f_16 f_17 (Or.inr ⟨(oW hw 28 rfl), rfl, rfl⟩) (oW hw 3 rfl) (ty := .byte) (by decide) rfl rfl g1 d2_48 ?_
  intro h_18 W_19
  have f_20 := f_16.same W_19
  refine aN C ((.ref a1)) d2_51 rfl rfl <| aL C ((.ref b_5)) d2_52 rfl rfl ?_
  have f_21 := ((F0.keep K_7 nin0).other W_19 (Or.inr (slot_ne (Or.inr (oW hw 30 rfl)) (Or.inr (oW hw 28 rfl)) (by decide) (t := (.array .byte)) (t' := .byte) (by decide) (by decide))))
  have f_22 := (f_17.wr W_19)
  refine yputfield C (host := "") (v := (.ref b_5)) (Or.inl (oW hw 29 rfl)) Via.refl f_21 f_22 (Or.inr ⟨(oW hw 30 rfl), rfl, rfl⟩) (oW hw 3 rfl) (ty := (.array .byte)) (by decide) rfl rfl g1 d2_54 ?_
  intro h_23 W_24
  have f_25 := f_21.same W_24
  refine g_return C rfl d2_57 (by decide) (by decide) ?_
  have f_26 := (f_20.other W_24 (Or.inr (slot_ne (Or.inr (oW hw 28 rfl)) (Or.inr (oW hw 30 rfl)) (by decide) (t := .byte) (t' := (.array .byte)) (by decide) (by decide))))
  have f_27 := ((f_8.keep (Keep.of_wr W_19) (nin1 (Ne.symm ne_9))).keep (Keep.of_wr W_24) (nin1 (Ne.symm ne_9)))
  exact ⟨rfl, ((((Keep.refl h0 [a1]).trans K_7 all0).wr W_19 (Or.inl (List.mem_of_getElem? (i := 0) rfl))).wr W_24 (Or.inl (List.mem_of_getElem? (i := 0) rfl))), b_5, gs_b_5, f_25, f_26, f_27⟩
theorem rm_initB_5_2 (hw : HW a0 Z) (a1 a2 : Addr) (c0 c1 c2 c3 c4 : Int32) (h0 : Heap) (Z0 : n0 ≤ h0.size) (cm : Um Z) (O : Old Z n0 h0) (E0 : Exa Z h0 a1 "java/lang/String") (F0 : Fld Z h0 a1 "java/lang/String" "value" "[B" .null) (F1 : Fld Z h0 a1 "java/lang/String" "coder" "B" (.int 0)) (g1 : n0 ≤ a1) (A2 : Ary Z h0 a2 .char [.int c0, .int c1, .int c2, .int c3, .int c4]) (n12 : a1 ≠ a2) (k0 : Ch c0) (k1 : Ch c1) (k2 : Bg c2) (k3 : Ch c3) (k4 : Ch c4) :
    Met1 l Z ⟨"java/lang/String", "<init>", "([C)V"⟩ jdk_42_method_3_code 2 none ⟨5, 2, 15, 74⟩ n0 #[(.ref a1), (.ref a2)] h0 (fun v h => v = none ∧ Keep h0 h [a1] ∧ ∃ b : Addr, h0.size ≤ b ∧ Fld Z h a1 "java/lang/String" "value" "[B" (.ref b) ∧ Fld Z h a1 "java/lang/String" "coder" "B" (.int 1) ∧ Ary Z h b .byte [.int (bY (c0 >>> (0 &&& 31))), .int (bY (c0 >>> (8 &&& 31))), .int (bY (c1 >>> (0 &&& 31))), .int (bY (c1 >>> (8 &&& 31))), .int (bY (c2 >>> (0 &&& 31))), .int (bY (c2 >>> (8 &&& 31))), .int (bY (c3 >>> (0 &&& 31))), .int (bY (c3 >>> (8 &&& 31))), .int (bY (c4 >>> (0 &&& 31))), .int (bY (c4 >>> (8 &&& 31)))]) := by
  refine met_of (plainFor_of_name pn_5) (L0 := #[.val (.ref a1), .val (.ref a2)]) (by first | (simp [argsToLocals, Value.category]; done) | rfl) ?_
  intro B C
  change Ctx B l _ _ "java/lang/String" "<init>" _ _ Z at C
  have cm' := cm
  obtain ⟨⟨cz, Scz, hcz⟩, Sas, Shi, Slo, Sfm⟩ := cm'
  refine aN C ((.ref a1)) d1_0 rfl rfl <| aN C ((.ref a2)) d1_1 rfl rfl <| iC C 0 d1_2 rfl <| aN C ((.ref a2)) d1_3 rfl rfl <| yarraylength C A2 (z := 5) rfl d1_4 <| yaconst_null C d1_5 <| cP C hw 8 9 4 11 rfl rfl rfl rfl rfl (rm_init4B_5_2 hw a1 a2 c0 c1 c2 c3 c4 h0 Z0 cm O E0 F0 F1 g1 A2 n12 k0 k1 k2 k3 k4) [] [(.ref a2), (.int 0), (.int 5), .null] pd_24 0 d1_6 ⟨rfl, rfl, rfl, rfl, rfl⟩ (by decide) ?_
  intro v_3 h_1 q_2
  obtain ⟨rfl, K_5, b_6, le_7, f_8, f_9, f_10⟩ := q_2
  have ne_11 : a1 ≠ b_6 := ne_ge E0.lt le_7
  have ne_12 : a2 ≠ b_6 := ne_ge A2.lt le_7
  have ge_b_6 : n0 ≤ b_6 := lT Z0 le_7
  have gs_b_6 : h0.size ≤ b_6 := lT (Nat.le_refl h0.size) le_7
  show Go _ _ _ _ 2 15 9 _ []
  refine g_return C rfl d1_9 (by decide) (by decide) ?_
  exact ⟨rfl, ((Keep.refl h0 [a1]).trans K_5 (allS (Or.inl (List.mem_of_getElem? (i := 0) rfl)) all0)), b_6, gs_b_6, f_8, f_9, f_10⟩
theorem rm_getC_5_3 (hw : HW a0 Z) (a1 : Addr) (x0 x1 x2 x3 x4 x5 x6 x7 x8 x9 c : Int32) (h0 : Heap) (Z0 : n0 ≤ h0.size) (cm : Um Z) (O : Old Z n0 h0) (A1 : Ary Z h0 a1 .byte [.int x0, .int x1, .int x2, .int x3, .int x4, .int x5, .int x6, .int x7, .int x8, .int x9]) (ec : (UInt32.toInt32 (UInt16.toUInt32 (UInt32.toUInt16 (Int32.toUInt32 (((x6 &&& 255) <<< (0 &&& 31)) ||| ((x7 &&& 255) <<< (8 &&& 31))))))) = c) (kc : nar .char c = c) :
    Met1 l Z ⟨"java/lang/StringUTF16", "getChar", "([BI)C"⟩ jdk_52_method_5_code 2 (some .char) ⟨0, 0, 0, 0⟩ n0 #[(.ref a1), (.int 3)] h0 (fun v h => v = some (.int c) ∧ h0 = h) := by
  refine met_of (plainFor_of_name pn_4) (L0 := #[.val (.ref a1), .val (.int 3)]) (by first | (simp [argsToLocals, Value.category]; done) | rfl) ?_
  intro B C
  change Ctx B l _ _ "java/lang/StringUTF16" "getChar" _ _ Z at C
  have cm' := cm
  obtain ⟨⟨cz, Scz, hcz⟩, Sas, Shi, Slo, Sfm⟩ := cm'
  refine ygetstatic C (host := "") (v := (.int 1)) (Or.inl (oW hw 84 rfl)) Via.refl (Sas.ext O.2) d20_0 <| fY C d20_3 (XT.i0_ne_t (by decide)) 28 (by decide) <| iN C 3 d20_28 rfl <| iC C 1 d20_29 rfl <| yishl C d20_30 <| eS [(.int 6)] rfl <| iT C d20_31 (#[aV a1, iV 6]) rfl <| aN C ((.ref a1)) d20_32 rfl rfl <| iN C 6 d20_33 rfl <| nC C 6 7 d20_34 rfl rfl (#[aV a1, iV 7]) rfl <| ybaloadB C A1 (by decide) (i := 6) (by decide) (v := x6) rfl d20_37 <| iP C 255 d20_38 rfl <| yiand C d20_41 <| ygetstatic C (host := "") (v := (.int 0)) (Or.inl (oW hw 85 rfl)) Via.refl (Shi.ext O.2) d20_42 <| yishl C d20_45 <| aN C ((.ref a1)) d20_46 rfl rfl <| iN C 7 d20_47 rfl <| ybaloadB C A1 (by decide) (i := 7) (by decide) (v := x7) rfl d20_48 <| iP C 255 d20_49 rfl <| yiand C d20_52 <| ygetstatic C (host := "") (v := (.int 8)) (Or.inl (oW hw 86 rfl)) Via.refl (Slo.ext O.2) d20_53 <| yishl C d20_56 <| yior C d20_57 <| yi2c C d20_58 ?_
  rw [ec]
  refine g_ret C (v := (.int c)) (ty := .char) rfl (own_nch kc) (Or.inl ⟨rfl, Or.inr (Or.inr (Or.inr (Or.inl rfl))), _, rfl⟩) d20_59 (by decide) (by decide) ?_
  exact ⟨rfl, rfl⟩
theorem rm_comp1B_5_3 (hw : HW a0 Z) (a1 a2 : Addr) (c0 c1 c2 c3 c4 : Int32) (h0 : Heap) (Z0 : n0 ≤ h0.size) (A1 : Ary Z h0 a1 .char [.int c0, .int c1, .int c2, .int c3, .int c4]) (A2 : Ary Z h0 a2 .byte [.int 0, .int 0, .int 0, .int 0, .int 0]) (g2 : n0 ≤ a2) (n12 : a1 ≠ a2) (k0 : Ch c0) (k1 : Ch c1) (k2 : Ch c2) (k3 : Bg c3) (k4 : Ch c4) :
    Met1 l Z ⟨"java/lang/StringUTF16", "compress", "([CI[BII)I"⟩ jdk_52_method_21_code 7 (some .int) ⟨0, 0, 0, 0⟩ n0 #[(.ref a1), (.int 0), (.ref a2), (.int 0), (.int 5)] h0 (fun v h => v = some (.int 3) ∧ Keep h0 h [a2]) := by
  refine met_of (plainFor_of_name pn_4) (L0 := #[.val (.ref a1), .val (.int 0), .val (.ref a2), .val (.int 0), .val (.int 5), .unset, .unset]) (by first | (simp [argsToLocals, Value.category]; done) | rfl) ?_
  intro B C
  change Ctx B l _ _ "java/lang/StringUTF16" "compress" _ _ Z at C
  refine iC C 0 d5_0 rfl <| iS C d5_1 (#[aV a1, iV 0, aV a2, iV 0, iV 5, iV 0, uV]) rfl <| iL C 0 d5_3 rfl <| iL C 5 d5_5 rfl <| yicmp_n C d5_7 (XT.ii_ge_f (by decide)) <| aN C ((.ref a1)) d5_10 rfl rfl <| iN C 0 d5_11 rfl <| ycaload C A1 (by decide) (i := 0) (by decide) (v := c0) rfl d5_12 <| iS C d5_13 (#[aV a1, iV 0, aV a2, iV 0, iV 5, iV 0, iV c0]) rfl <| iL C c0 d5_15 rfl <| iP C 255 d5_17 rfl <| cY C d5_20 (XT.ii_le_t k0.2.1) 26 (by decide) <| aN C ((.ref a2)) d5_26 rfl rfl <| iN C 0 d5_27 rfl <| iL C c0 d5_28 rfl <| yi2b C d5_30 <| ybastoreB C A2 (by decide) (i := 0) (by decide) (show 0 < 5 by decide) (w := (.int (bY c0))) (congrArg Value.int (own_narb _)) g2 d5_31 ?_
  intro h_1 K_2 A_3
  have f_4 : Ary Z h_1 a2 .byte [(.int (bY c0)), (.int 0), (.int 0), (.int 0), (.int 0)] := A_3
  refine nC C 0 1 d5_32 rfl rfl (#[aV a1, iV 1, aV a2, iV 0, iV 5, iV 0, iV c0]) rfl <| nC C 0 1 d5_35 rfl rfl (#[aV a1, iV 1, aV a2, iV 1, iV 5, iV 0, iV c0]) rfl <| nC C 0 1 d5_38 rfl rfl (#[aV a1, iV 1, aV a2, iV 1, iV 5, iV 1, iV c0]) rfl <| gT C d5_41 3 (by decide) <| iL C 1 d5_3 rfl <| iL C 5 d5_5 rfl <| yicmp_n C d5_7 (XT.ii_ge_f (by decide)) <| aN C ((.ref a1)) d5_10 rfl rfl <| iN C 1 d5_11 rfl ?_
  have f_5 := (A1.keep K_2 (ninS n12 nin0))
  refine ycaload C f_5 (by decide) (i := 1) (by decide) (v := c1) rfl d5_12 <| iS C d5_13 (#[aV a1, iV 1, aV a2, iV 1, iV 5, iV 1, iV c1]) rfl <| iL C c1 d5_15 rfl <| iP C 255 d5_17 rfl <| cY C d5_20 (XT.ii_le_t k1.2.1) 26 (by decide) <| aN C ((.ref a2)) d5_26 rfl rfl <| iN C 1 d5_27 rfl <| iL C c1 d5_28 rfl <| yi2b C d5_30 <| ybastoreB C f_4 (by decide) (i := 1) (by decide) (show 1 < 5 by decide) (w := (.int (bY c1))) (congrArg Value.int (own_narb _)) g2 d5_31 ?_
  intro h_6 K_7 A_8
  have f_9 : Ary Z h_6 a2 .byte [(.int (bY c0)), (.int (bY c1)), (.int 0), (.int 0), (.int 0)] := A_8
  refine nC C 1 2 d5_32 rfl rfl (#[aV a1, iV 2, aV a2, iV 1, iV 5, iV 1, iV c1]) rfl <| nC C 1 2 d5_35 rfl rfl (#[aV a1, iV 2, aV a2, iV 2, iV 5, iV 1, iV c1]) rfl <| nC C 1 2 d5_38 rfl rfl (#[aV a1, iV 2, aV a2, iV 2, iV 5, iV 2, iV c1]) rfl <| gT C d5_41 3 (by decide) <| iL C 2 d5_3 rfl <| iL C 5 d5_5 rfl <| yicmp_n C d5_7 (XT.ii_ge_f (by decide)) <| aN C ((.ref a1)) d5_10 rfl rfl <| iN C 2 d5_11 rfl ?_
  have f_10 := (f_5.keep K_7 (ninS n12 nin0))
  refine ycaload C f_10 (by decide) (i := 2) (by decide) (v := c2) rfl d5_12 <| iS C d5_13 (#[aV a1, iV 2, aV a2, iV 2, iV 5, iV 2, iV c2]) rfl <| iL C c2 d5_15 rfl <| iP C 255 d5_17 rfl <| cY C d5_20 (XT.ii_le_t k2.2.1) 26 (by decide) <| aN C ((.ref a2)) d5_26 rfl rfl <| iN C 2 d5_27 rfl <| iL C c2 d5_28 rfl <| yi2b C d5_30 <| ybastoreB C f_9 (by decide) (i := 2) (by decide) (show 2 < 5 by decide) (w := (.int (bY c2))) (congrArg Value.int (own_narb _)) g2 d5_31 ?_
  intro h_11 K_12 A_13
  have f_14 : Ary Z h_11 a2 .byte [(.int (bY c0)), (.int (bY c1)), (.int (bY c2)), (.int 0), (.int 0)] := A_13
  refine nC C 2 3 d5_32 rfl rfl (#[aV a1, iV 3, aV a2, iV 2, iV 5, iV 2, iV c2]) rfl <| nC C 2 3 d5_35 rfl rfl (#[aV a1, iV 3, aV a2, iV 3, iV 5, iV 2, iV c2]) rfl <| nC C 2 3 d5_38 rfl rfl (#[aV a1, iV 3, aV a2, iV 3, iV 5, iV 3, iV c2]) rfl <| gT C d5_41 3 (by decide) <| iL C 3 d5_3 rfl <| iL C 5 d5_5 rfl <| yicmp_n C d5_7 (XT.ii_ge_f (by decide)) <| aN C ((.ref a1)) d5_10 rfl rfl <| iN C 3 d5_11 rfl ?_
  have f_15 := (f_10.keep K_12 (ninS n12 nin0))
  refine ycaload C f_15 (by decide) (i := 3) (by decide) (v := c3) rfl d5_12 <| iS C d5_13 (#[aV a1, iV 3, aV a2, iV 3, iV 5, iV 3, iV c3]) rfl <| iL C c3 d5_15 rfl <| iP C 255 d5_17 rfl <| yicmp_n C d5_20 (XT.ii_le_f k3.2) <| iL C 3 d5_23 rfl ?_
  refine g_ret C (v := (.int 3)) (ty := .int) rfl rfl (Or.inl ⟨rfl, Or.inl rfl, _, rfl⟩) d5_25 (by decide) (by decide) ?_
  exact ⟨rfl, ((((Keep.refl h0 [a2]).trans K_2 (allS (Or.inl (List.mem_of_getElem? (i := 0) rfl)) all0)).trans K_7 (allS (Or.inl (List.mem_of_getElem? (i := 0) rfl)) all0)).trans K_12 (allS (Or.inl (List.mem_of_getElem? (i := 0) rfl)) all0))⟩
theorem rm_comp2B_5_3 (hw : HW a0 Z) (a1 : Addr) (c0 c1 c2 c3 c4 : Int32) (h0 : Heap) (Z0 : n0 ≤ h0.size) (cm : Um Z) (O : Old Z n0 h0) (A1 : Ary Z h0 a1 .char [.int c0, .int c1, .int c2, .int c3, .int c4]) (k0 : Ch c0) (k1 : Ch c1) (k2 : Ch c2) (k3 : Bg c3) (k4 : Ch c4) :
    Met1 l Z ⟨"java/lang/StringUTF16", "compress", "([CII)[B"⟩ jdk_52_method_16_code 6 (some (.array .byte)) ⟨3, 2, 15, 40⟩ n0 #[(.ref a1), (.int 0), (.int 5)] h0 (fun v h => ∃ b : Addr, v = some (.ref b) ∧ h0.size ≤ b ∧ Keep h0 h [] ∧ Ary Z h b .byte [.int (bY (c0 >>> (0 &&& 31))), .int (bY (c0 >>> (8 &&& 31))), .int (bY (c1 >>> (0 &&& 31))), .int (bY (c1 >>> (8 &&& 31))), .int (bY (c2 >>> (0 &&& 31))), .int (bY (c2 >>> (8 &&& 31))), .int (bY (c3 >>> (0 &&& 31))), .int (bY (c3 >>> (8 &&& 31))), .int (bY (c4 >>> (0 &&& 31))), .int (bY (c4 >>> (8 &&& 31)))]) := by
  refine met_of (plainFor_of_name pn_4) (L0 := #[.val (.ref a1), .val (.int 0), .val (.int 5), .unset, .unset, .unset]) (by first | (simp [argsToLocals, Value.category]; done) | rfl) ?_
  intro B C
  change Ctx B l _ _ "java/lang/StringUTF16" "compress" _ _ Z at C
  have cm' := cm
  obtain ⟨⟨cz, Scz, hcz⟩, Sas, Shi, Slo, Sfm⟩ := cm'
  refine iN C 5 d4_0 rfl <| ynewarray C (oW hw 20 rfl) (ty := .byte) rfl (by decide) (cap := 5) (by decide) (by decide) (by decide) (by decide) d4_1 ?_
  intro h_1 a_2 g_3 E_4 A_5
  have ne_6 : a1 ≠ a_2 := ne_new A1.lt g_3
  have ge_a_2 : n0 ≤ a_2 := lT Z0 (lE g_3.symm)
  have gs_a_2 : h0.size ≤ a_2 := lT (Nat.le_refl h0.size) (lE g_3.symm)
  have f_7 : Ary Z h_1 a_2 .byte [(.int 0), (.int 0), (.int 0), (.int 0), (.int 0)] := A_5
  show Go _ _ _ _ 1 5 3 _ [(.ref a_2)]
  refine aT C d4_3 (#[aV a1, iV 0, iV 5, aV a_2, uV, uV]) rfl rfl <| aN C ((.ref a1)) d4_4 rfl rfl <| iN C 0 d4_5 rfl <| aN C ((.ref a_2)) d4_6 rfl rfl <| iC C 0 d4_7 rfl <| iN C 5 d4_8 rfl ?_
  have f_8 := (A1.ext E_4)
  have f_9 := (lT Z0 E_4.1)
  refine cS C hw 21 22 18 23 rfl rfl rfl rfl (rm_comp1B_5_3 hw a1 a_2 c0 c1 c2 c3 c4 h_1 f_9 f_8 f_7 ge_a_2 ne_6 k0 k1 k2 k3 k4) [] [(.ref a1), (.int 0), (.ref a_2), (.int 0), (.int 5)] pd_13 0 d4_9 ⟨rfl, rfl, rfl, rfl, rfl⟩ (by decide) ?_
  intro v_12 h_10 q_11
  obtain ⟨rfl, K_14⟩ := q_11
  show Go _ _ _ _ 1 5 12 _ [(.int 3)]
  refine iS C d4_12 (#[aV a1, iV 0, iV 5, aV a_2, iV 3, uV]) rfl <| iL C 3 d4_14 rfl <| iN C 5 d4_16 rfl <| yicmp_n C d4_17 (XT.ii_eq_f (by decide)) <| aN C ((.ref a1)) d4_20 rfl rfl <| iN C 0 d4_21 rfl <| iN C 5 d4_22 rfl ?_
  have f_15 := ((O.ext E_4).keep K_14 (allS ge_a_2 all0))
  have f_16 := (f_8.keep K_14 (ninS ne_6 nin0))
  have f_17 := (lT f_9 K_14.1)
  have f_18 := (lT (lT (Nat.le_refl h0.size) E_4.1) K_14.1)
  refine cS C hw 71 72 18 73 rfl rfl rfl rfl (rm_toB_5 hw a1 c0 c1 c2 c3 c4 h_10 f_17 cm f_15 f_16) [] [(.ref a1), (.int 0), (.int 5)] pd_18 0 d4_23 ⟨rfl, rfl, rfl, rfl, rfl⟩ (by decide) ?_
  intro v_21 h_19 q_20
  obtain ⟨b_23, rfl, le_24, K_25, f_26⟩ := q_20
  have ne_27 : a1 ≠ b_23 := ne_ge f_16.lt le_24
  have ge_b_23 : n0 ≤ b_23 := lT f_17 le_24
  have gs_b_23 : h0.size ≤ b_23 := lT f_18 le_24
  show Go _ _ _ _ 2 15 26 _ [(.ref b_23)]
  refine aS C d4_26 (#[aV a1, iV 0, iV 5, aV a_2, iV 3, aV b_23]) rfl rfl <| aL C ((.ref b_23)) d4_28 rfl rfl <| iL C 3 d4_30 rfl ?_
  have f_28 := (f_15.keep K_25 all0)
  have f_29 := (lT f_17 K_25.1)
  refine cS C hw 87 88 18 89 rfl rfl rfl rfl (rm_getC_5_3 hw b_23 (bY (c0 >>> (0 &&& 31))) (bY (c0 >>> (8 &&& 31))) (bY (c1 >>> (0 &&& 31))) (bY (c1 >>> (8 &&& 31))) (bY (c2 >>> (0 &&& 31))) (bY (c2 >>> (8 &&& 31))) (bY (c3 >>> (0 &&& 31))) (bY (c3 >>> (8 &&& 31))) (bY (c4 >>> (0 &&& 31))) (bY (c4 >>> (8 &&& 31))) c3 h_19 f_29 cm f_28 f_26 (own_gc k3.1) k3.1) [] [(.ref b_23), (.int 3)] pd_15 0 d4_32 ⟨rfl, rfl, rfl, rfl, rfl⟩ (by decide) ?_
  intro v_32 h_30 q_31
  obtain ⟨rfl, rfl⟩ := q_31
  show Go _ _ _ _ 2 15 35 _ [(.int c3)]
  refine iP C 255 d4_35 rfl <| cY C d4_38 (XT.ii_gt_t k3.2) 54 (by decide) <| aL C ((.ref b_23)) d4_54 rfl rfl ?_
  refine g_ret C (v := (.ref b_23)) (ty := (.array .byte)) rfl rfl (Or.inr (Or.inr (Or.inr (Or.inr ⟨rfl, rfl, rfl⟩)))) d4_56 (by decide) (by decide) ?_
  exact ⟨b_23, rfl, gs_b_23, ((((Keep.refl h0 []).ext E_4).trans K_14 (allS (Or.inr gs_a_2) all0)).trans K_25 all0), f_26⟩
theorem rm_init4B_5_3 (hw : HW a0 Z) (a1 a2 : Addr) (c0 c1 c2 c3 c4 : Int32) (h0 : Heap) (Z0 : n0 ≤ h0.size) (cm : Um Z) (O : Old Z n0 h0) (E0 : Exa Z h0 a1 "java/lang/String") (F0 : Fld Z h0 a1 "java/lang/String" "value" "[B" .null) (F1 : Fld Z h0 a1 "java/lang/String" "coder" "B" (.int 0)) (g1 : n0 ≤ a1) (A2 : Ary Z h0 a2 .char [.int c0, .int c1, .int c2, .int c3, .int c4]) (n12 : a1 ≠ a2) (k0 : Ch c0) (k1 : Ch c1) (k2 : Ch c2) (k3 : Bg c3) (k4 : Ch c4) :
    Met1 l Z ⟨"java/lang/String", "<init>", "([CIILjava/lang/Void;)V"⟩ jdk_42_method_149_code 6 none ⟨4, 2, 15, 57⟩ n0 #[(.ref a1), (.ref a2), (.int 0), (.int 5), .null] h0 (fun v h => v = none ∧ Keep h0 h [a1] ∧ ∃ b : Addr, h0.size ≤ b ∧ Fld Z h a1 "java/lang/String" "value" "[B" (.ref b) ∧ Fld Z h a1 "java/lang/String" "coder" "B" (.int 1) ∧ Ary Z h b .byte [.int (bY (c0 >>> (0 &&& 31))), .int (bY (c0 >>> (8 &&& 31))), .int (bY (c1 >>> (0 &&& 31))), .int (bY (c1 >>> (8 &&& 31))), .int (bY (c2 >>> (0 &&& 31))), .int (bY (c2 >>> (8 &&& 31))), .int (bY (c3 >>> (0 &&& 31))), .int (bY (c3 >>> (8 &&& 31))), .int (bY (c4 >>> (0 &&& 31))), .int (bY (c4 >>> (8 &&& 31)))]) := by
  refine met_of (plainFor_of_name pn_5) (L0 := #[.val (.ref a1), .val (.ref a2), .val (.int 0), .val (.int 5), .val .null, .unset]) (by first | (simp [argsToLocals, Value.category]; done) | rfl) ?_
  intro B C
  change Ctx B l _ _ "java/lang/String" "<init>" _ _ Z at C
  have cm' := cm
  obtain ⟨⟨cz, Scz, hcz⟩, Sas, Shi, Slo, Sfm⟩ := cm'
  refine aN C ((.ref a1)) d2_0 rfl rfl <| yinitObj C (oW hw 12 rfl) (oW hw 13 rfl) (oW hw 14 rfl) rfl (by decide) (W := 0) (lE rfl) (by decide) d2_1 <| iN C 5 d2_4 rfl <| fY C d2_5 (XT.i0_ne_t (by decide)) 27 (by decide) <| ygetstatic C (host := "") (v := (.int cz)) (Or.inl (oW hw 15 rfl)) Via.refl (Scz.ext O.2) d2_27 <| yif_n C d2_30 (XT.i0_eq_f hcz) <| aN C ((.ref a2)) d2_33 rfl rfl <| iN C 0 d2_34 rfl <| iN C 5 d2_35 rfl <| cS C hw 16 17 18 19 rfl rfl rfl rfl (rm_comp2B_5_3 hw a2 c0 c1 c2 c3 c4 h0 Z0 cm O A2 k0 k1 k2 k3 k4) [] [(.ref a2), (.int 0), (.int 5)] pd_14 0 d2_36 ⟨rfl, rfl, rfl, rfl, rfl⟩ (by decide) ?_
  intro v_3 h_1 q_2
  obtain ⟨b_5, rfl, le_6, K_7, f_8⟩ := q_2
  have ne_9 : a1 ≠ b_5 := ne_ge E0.lt le_6
  have ne_10 : a2 ≠ b_5 := ne_ge A2.lt le_6
  have ge_b_5 : n0 ≤ b_5 := lT Z0 le_6
  have gs_b_5 : h0.size ≤ b_5 := lT (Nat.le_refl h0.size) le_6
  show Go _ _ _ _ 2 15 39 _ [(.ref b_5)]
  refine aS C d2_39 (#[aV a1, aV a2, iV 0, iV 5, .val .null, aV b_5]) rfl rfl <| aN C ((.ref a1)) d2_41 rfl rfl <| aL C ((.ref b_5)) d2_42 rfl rfl <| iN C 5 d2_44 rfl ?_
  have f_11 := (lT Z0 K_7.1)
  refine cS C hw 24 25 18 26 rfl rfl rfl rfl (rm_coderB_5 hw b_5 (bY (c0 >>> (0 &&& 31))) (bY (c0 >>> (8 &&& 31))) (bY (c1 >>> (0 &&& 31))) (bY (c1 >>> (8 &&& 31))) (bY (c2 >>> (0 &&& 31))) (bY (c2 >>> (8 &&& 31))) (bY (c3 >>> (0 &&& 31))) (bY (c3 >>> (8 &&& 31))) (bY (c4 >>> (0 &&& 31))) (bY (c4 >>> (8 &&& 31))) h_1 f_11 f_8) [(.ref a1)] [(.ref b_5), (.int 5)] pd_6 1 d2_45 ⟨rfl, rfl, rfl, rfl, rfl⟩ (by decide) ?_
  intro v_14 h_12 q_13
  obtain ⟨rfl, rfl⟩ := q_13
  show Go _ _ _ _ 2 15 48 _ [(.int 1), (.ref a1)]
  have f_16 := (F1.keep K_7 nin0)
  have f_17 := (E0.keep K_7)
  refine yputfield C (host := "") (v := (.int 1)) (Or.inl (oW hw 27 rfl)) Via.refl f_16 f_17 (Or.inr ⟨(oW hw 28 rfl), rfl, rfl⟩) (oW hw 3 rfl) (ty := .byte) (by decide) rfl rfl g1 d2_48 ?_
  intro h_18 W_19
  have f_20 := f_16.same W_19
  refine aN C ((.ref a1)) d2_51 rfl rfl <| aL C ((.ref b_5)) d2_52 rfl rfl ?_
  have f_21 := ((F0.keep K_7 nin0).other W_19 (Or.inr (slot_ne (Or.inr (oW hw 30 rfl)) (Or.inr (oW hw 28 rfl)) (by decide) (t := (.array .byte)) (t' := .byte) (by decide) (by decide))))
  have f_22 := (f_17.wr W_19)
  refine yputfield C (host := "") (v := (.ref b_5)) (Or.inl (oW hw 29 rfl)) Via.refl f_21 f_22 (Or.inr ⟨(oW hw 30 rfl), rfl, rfl⟩) (oW hw 3 rfl) (ty := (.array .byte)) (by decide) rfl rfl g1 d2_54 ?_
  intro h_23 W_24
  have f_25 := f_21.same W_24
  refine g_return C rfl d2_57 (by decide) (by decide) ?_
  have f_26 := (f_20.other W_24 (Or.inr (slot_ne (Or.inr (oW hw 28 rfl)) (Or.inr (oW hw 30 rfl)) (by decide) (t := .byte) (t' := (.array .byte)) (by decide) (by decide))))
  have f_27 := ((f_8.keep (Keep.of_wr W_19) (nin1 (Ne.symm ne_9))).keep (Keep.of_wr W_24) (nin1 (Ne.symm ne_9)))
  exact ⟨rfl, ((((Keep.refl h0 [a1]).trans K_7 all0).wr W_19 (Or.inl (List.mem_of_getElem? (i := 0) rfl))).wr W_24 (Or.inl (List.mem_of_getElem? (i := 0) rfl))), b_5, gs_b_5, f_25, f_26, f_27⟩
theorem rm_initB_5_3 (hw : HW a0 Z) (a1 a2 : Addr) (c0 c1 c2 c3 c4 : Int32) (h0 : Heap) (Z0 : n0 ≤ h0.size) (cm : Um Z) (O : Old Z n0 h0) (E0 : Exa Z h0 a1 "java/lang/String") (F0 : Fld Z h0 a1 "java/lang/String" "value" "[B" .null) (F1 : Fld Z h0 a1 "java/lang/String" "coder" "B" (.int 0)) (g1 : n0 ≤ a1) (A2 : Ary Z h0 a2 .char [.int c0, .int c1, .int c2, .int c3, .int c4]) (n12 : a1 ≠ a2) (k0 : Ch c0) (k1 : Ch c1) (k2 : Ch c2) (k3 : Bg c3) (k4 : Ch c4) :
    Met1 l Z ⟨"java/lang/String", "<init>", "([C)V"⟩ jdk_42_method_3_code 2 none ⟨5, 2, 15, 74⟩ n0 #[(.ref a1), (.ref a2)] h0 (fun v h => v = none ∧ Keep h0 h [a1] ∧ ∃ b : Addr, h0.size ≤ b ∧ Fld Z h a1 "java/lang/String" "value" "[B" (.ref b) ∧ Fld Z h a1 "java/lang/String" "coder" "B" (.int 1) ∧ Ary Z h b .byte [.int (bY (c0 >>> (0 &&& 31))), .int (bY (c0 >>> (8 &&& 31))), .int (bY (c1 >>> (0 &&& 31))), .int (bY (c1 >>> (8 &&& 31))), .int (bY (c2 >>> (0 &&& 31))), .int (bY (c2 >>> (8 &&& 31))), .int (bY (c3 >>> (0 &&& 31))), .int (bY (c3 >>> (8 &&& 31))), .int (bY (c4 >>> (0 &&& 31))), .int (bY (c4 >>> (8 &&& 31)))]) := by
  refine met_of (plainFor_of_name pn_5) (L0 := #[.val (.ref a1), .val (.ref a2)]) (by first | (simp [argsToLocals, Value.category]; done) | rfl) ?_
  intro B C
  change Ctx B l _ _ "java/lang/String" "<init>" _ _ Z at C
  have cm' := cm
  obtain ⟨⟨cz, Scz, hcz⟩, Sas, Shi, Slo, Sfm⟩ := cm'
  refine aN C ((.ref a1)) d1_0 rfl rfl <| aN C ((.ref a2)) d1_1 rfl rfl <| iC C 0 d1_2 rfl <| aN C ((.ref a2)) d1_3 rfl rfl <| yarraylength C A2 (z := 5) rfl d1_4 <| yaconst_null C d1_5 <| cP C hw 8 9 4 11 rfl rfl rfl rfl rfl (rm_init4B_5_3 hw a1 a2 c0 c1 c2 c3 c4 h0 Z0 cm O E0 F0 F1 g1 A2 n12 k0 k1 k2 k3 k4) [] [(.ref a2), (.int 0), (.int 5), .null] pd_24 0 d1_6 ⟨rfl, rfl, rfl, rfl, rfl⟩ (by decide) ?_
  intro v_3 h_1 q_2
  obtain ⟨rfl, K_5, b_6, le_7, f_8, f_9, f_10⟩ := q_2
  have ne_11 : a1 ≠ b_6 := ne_ge E0.lt le_7
  have ne_12 : a2 ≠ b_6 := ne_ge A2.lt le_7
  have ge_b_6 : n0 ≤ b_6 := lT Z0 le_7
  have gs_b_6 : h0.size ≤ b_6 := lT (Nat.le_refl h0.size) le_7
  show Go _ _ _ _ 2 15 9 _ []
  refine g_return C rfl d1_9 (by decide) (by decide) ?_
  exact ⟨rfl, ((Keep.refl h0 [a1]).trans K_5 (allS (Or.inl (List.mem_of_getElem? (i := 0) rfl)) all0)), b_6, gs_b_6, f_8, f_9, f_10⟩
theorem rm_getC_5_4 (hw : HW a0 Z) (a1 : Addr) (x0 x1 x2 x3 x4 x5 x6 x7 x8 x9 c : Int32) (h0 : Heap) (Z0 : n0 ≤ h0.size) (cm : Um Z) (O : Old Z n0 h0) (A1 : Ary Z h0 a1 .byte [.int x0, .int x1, .int x2, .int x3, .int x4, .int x5, .int x6, .int x7, .int x8, .int x9]) (ec : (UInt32.toInt32 (UInt16.toUInt32 (UInt32.toUInt16 (Int32.toUInt32 (((x8 &&& 255) <<< (0 &&& 31)) ||| ((x9 &&& 255) <<< (8 &&& 31))))))) = c) (kc : nar .char c = c) :
    Met1 l Z ⟨"java/lang/StringUTF16", "getChar", "([BI)C"⟩ jdk_52_method_5_code 2 (some .char) ⟨0, 0, 0, 0⟩ n0 #[(.ref a1), (.int 4)] h0 (fun v h => v = some (.int c) ∧ h0 = h) := by
  refine met_of (plainFor_of_name pn_4) (L0 := #[.val (.ref a1), .val (.int 4)]) (by first | (simp [argsToLocals, Value.category]; done) | rfl) ?_
  intro B C
  change Ctx B l _ _ "java/lang/StringUTF16" "getChar" _ _ Z at C
  have cm' := cm
  obtain ⟨⟨cz, Scz, hcz⟩, Sas, Shi, Slo, Sfm⟩ := cm'
  refine ygetstatic C (host := "") (v := (.int 1)) (Or.inl (oW hw 84 rfl)) Via.refl (Sas.ext O.2) d20_0 <| fY C d20_3 (XT.i0_ne_t (by decide)) 28 (by decide) <| iN C 4 d20_28 rfl <| iC C 1 d20_29 rfl <| yishl C d20_30 <| eS [(.int 8)] rfl <| iT C d20_31 (#[aV a1, iV 8]) rfl <| aN C ((.ref a1)) d20_32 rfl rfl <| iN C 8 d20_33 rfl <| nC C 8 9 d20_34 rfl rfl (#[aV a1, iV 9]) rfl <| ybaloadB C A1 (by decide) (i := 8) (by decide) (v := x8) rfl d20_37 <| iP C 255 d20_38 rfl <| yiand C d20_41 <| ygetstatic C (host := "") (v := (.int 0)) (Or.inl (oW hw 85 rfl)) Via.refl (Shi.ext O.2) d20_42 <| yishl C d20_45 <| aN C ((.ref a1)) d20_46 rfl rfl <| iN C 9 d20_47 rfl <| ybaloadB C A1 (by decide) (i := 9) (by decide) (v := x9) rfl d20_48 <| iP C 255 d20_49 rfl <| yiand C d20_52 <| ygetstatic C (host := "") (v := (.int 8)) (Or.inl (oW hw 86 rfl)) Via.refl (Slo.ext O.2) d20_53 <| yishl C d20_56 <| yior C d20_57 <| yi2c C d20_58 ?_
  rw [ec]
  refine g_ret C (v := (.int c)) (ty := .char) rfl (own_nch kc) (Or.inl ⟨rfl, Or.inr (Or.inr (Or.inr (Or.inl rfl))), _, rfl⟩) d20_59 (by decide) (by decide) ?_
  exact ⟨rfl, rfl⟩
theorem rm_comp1B_5_4 (hw : HW a0 Z) (a1 a2 : Addr) (c0 c1 c2 c3 c4 : Int32) (h0 : Heap) (Z0 : n0 ≤ h0.size) (A1 : Ary Z h0 a1 .char [.int c0, .int c1, .int c2, .int c3, .int c4]) (A2 : Ary Z h0 a2 .byte [.int 0, .int 0, .int 0, .int 0, .int 0]) (g2 : n0 ≤ a2) (n12 : a1 ≠ a2) (k0 : Ch c0) (k1 : Ch c1) (k2 : Ch c2) (k3 : Ch c3) (k4 : Bg c4) :
    Met1 l Z ⟨"java/lang/StringUTF16", "compress", "([CI[BII)I"⟩ jdk_52_method_21_code 7 (some .int) ⟨0, 0, 0, 0⟩ n0 #[(.ref a1), (.int 0), (.ref a2), (.int 0), (.int 5)] h0 (fun v h => v = some (.int 4) ∧ Keep h0 h [a2]) := by
  refine met_of (plainFor_of_name pn_4) (L0 := #[.val (.ref a1), .val (.int 0), .val (.ref a2), .val (.int 0), .val (.int 5), .unset, .unset]) (by first | (simp [argsToLocals, Value.category]; done) | rfl) ?_
  intro B C
  change Ctx B l _ _ "java/lang/StringUTF16" "compress" _ _ Z at C
  refine iC C 0 d5_0 rfl <| iS C d5_1 (#[aV a1, iV 0, aV a2, iV 0, iV 5, iV 0, uV]) rfl <| iL C 0 d5_3 rfl <| iL C 5 d5_5 rfl <| yicmp_n C d5_7 (XT.ii_ge_f (by decide)) <| aN C ((.ref a1)) d5_10 rfl rfl <| iN C 0 d5_11 rfl <| ycaload C A1 (by decide) (i := 0) (by decide) (v := c0) rfl d5_12 <| iS C d5_13 (#[aV a1, iV 0, aV a2, iV 0, iV 5, iV 0, iV c0]) rfl <| iL C c0 d5_15 rfl <| iP C 255 d5_17 rfl <| cY C d5_20 (XT.ii_le_t k0.2.1) 26 (by decide) <| aN C ((.ref a2)) d5_26 rfl rfl <| iN C 0 d5_27 rfl <| iL C c0 d5_28 rfl <| yi2b C d5_30 <| ybastoreB C A2 (by decide) (i := 0) (by decide) (show 0 < 5 by decide) (w := (.int (bY c0))) (congrArg Value.int (own_narb _)) g2 d5_31 ?_
  intro h_1 K_2 A_3
  have f_4 : Ary Z h_1 a2 .byte [(.int (bY c0)), (.int 0), (.int 0), (.int 0), (.int 0)] := A_3
  refine nC C 0 1 d5_32 rfl rfl (#[aV a1, iV 1, aV a2, iV 0, iV 5, iV 0, iV c0]) rfl <| nC C 0 1 d5_35 rfl rfl (#[aV a1, iV 1, aV a2, iV 1, iV 5, iV 0, iV c0]) rfl <| nC C 0 1 d5_38 rfl rfl (#[aV a1, iV 1, aV a2, iV 1, iV 5, iV 1, iV c0]) rfl <| gT C d5_41 3 (by decide) <| iL C 1 d5_3 rfl <| iL C 5 d5_5 rfl <| yicmp_n C d5_7 (XT.ii_ge_f (by decide)) <| aN C ((.ref a1)) d5_10 rfl rfl <| iN C 1 d5_11 rfl ?_
  have f_5 := (A1.keep K_2 (ninS n12 nin0))
  refine ycaload C f_5 (by decide) (i := 1) (by decide) (v := c1) rfl d5_12 <| iS C d5_13 (#[aV a1, iV 1, aV a2, iV 1, iV 5, iV 1, iV c1]) rfl <| iL C c1 d5_15 rfl <| iP C 255 d5_17 rfl <| cY C d5_20 (XT.ii_le_t k1.2.1) 26 (by decide) <| aN C ((.ref a2)) d5_26 rfl rfl <| iN C 1 d5_27 rfl <| iL C c1 d5_28 rfl <| yi2b C d5_30 <| ybastoreB C f_4 (by decide) (i := 1) (by decide) (show 1 < 5 by decide) (w := (.int (bY c1))) (congrArg Value.int (own_narb _)) g2 d5_31 ?_
  intro h_6 K_7 A_8
  have f_9 : Ary Z h_6 a2 .byte [(.int (bY c0)), (.int (bY c1)), (.int 0), (.int 0), (.int 0)] := A_8
  refine nC C 1 2 d5_32 rfl rfl (#[aV a1, iV 2, aV a2, iV 1, iV 5, iV 1, iV c1]) rfl <| nC C 1 2 d5_35 rfl rfl (#[aV a1, iV 2, aV a2, iV 2, iV 5, iV 1, iV c1]) rfl <| nC C 1 2 d5_38 rfl rfl (#[aV a1, iV 2, aV a2, iV 2, iV 5, iV 2, iV c1]) rfl <| gT C d5_41 3 (by decide) <| iL C 2 d5_3 rfl <| iL C 5 d5_5 rfl <| yicmp_n C d5_7 (XT.ii_ge_f (by decide)) <| aN C ((.ref a1)) d5_10 rfl rfl <| iN C 2 d5_11 rfl ?_
  have f_10 := (f_5.keep K_7 (ninS n12 nin0))
  refine ycaload C f_10 (by decide) (i := 2) (by decide) (v := c2) rfl d5_12 <| iS C d5_13 (#[aV a1, iV 2, aV a2, iV 2, iV 5, iV 2, iV c2]) rfl <| iL C c2 d5_15 rfl <| iP C 255 d5_17 rfl <| cY C d5_20 (XT.ii_le_t k2.2.1) 26 (by decide) <| aN C ((.ref a2)) d5_26 rfl rfl <| iN C 2 d5_27 rfl <| iL C c2 d5_28 rfl <| yi2b C d5_30 <| ybastoreB C f_9 (by decide) (i := 2) (by decide) (show 2 < 5 by decide) (w := (.int (bY c2))) (congrArg Value.int (own_narb _)) g2 d5_31 ?_
  intro h_11 K_12 A_13
  have f_14 : Ary Z h_11 a2 .byte [(.int (bY c0)), (.int (bY c1)), (.int (bY c2)), (.int 0), (.int 0)] := A_13
  refine nC C 2 3 d5_32 rfl rfl (#[aV a1, iV 3, aV a2, iV 2, iV 5, iV 2, iV c2]) rfl <| nC C 2 3 d5_35 rfl rfl (#[aV a1, iV 3, aV a2, iV 3, iV 5, iV 2, iV c2]) rfl <| nC C 2 3 d5_38 rfl rfl (#[aV a1, iV 3, aV a2, iV 3, iV 5, iV 3, iV c2]) rfl <| gT C d5_41 3 (by decide) <| iL C 3 d5_3 rfl <| iL C 5 d5_5 rfl <| yicmp_n C d5_7 (XT.ii_ge_f (by decide)) <| aN C ((.ref a1)) d5_10 rfl rfl <| iN C 3 d5_11 rfl ?_
  have f_15 := (f_10.keep K_12 (ninS n12 nin0))
  refine ycaload C f_15 (by decide) (i := 3) (by decide) (v := c3) rfl d5_12 <| iS C d5_13 (#[aV a1, iV 3, aV a2, iV 3, iV 5, iV 3, iV c3]) rfl <| iL C c3 d5_15 rfl <| iP C 255 d5_17 rfl <| cY C d5_20 (XT.ii_le_t k3.2.1) 26 (by decide) <| aN C ((.ref a2)) d5_26 rfl rfl <| iN C 3 d5_27 rfl <| iL C c3 d5_28 rfl <| yi2b C d5_30 <| ybastoreB C f_14 (by decide) (i := 3) (by decide) (show 3 < 5 by decide) (w := (.int (bY c3))) (congrArg Value.int (own_narb _)) g2 d5_31 ?_
  intro h_16 K_17 A_18
  have f_19 : Ary Z h_16 a2 .byte [(.int (bY c0)), (.int (bY c1)), (.int (bY c2)), (.int (bY c3)), (.int 0)] := A_18
  refine nC C 3 4 d5_32 rfl rfl (#[aV a1, iV 4, aV a2, iV 3, iV 5, iV 3, iV c3]) rfl <| nC C 3 4 d5_35 rfl rfl (#[aV a1, iV 4, aV a2, iV 4, iV 5, iV 3, iV c3]) rfl <| nC C 3 4 d5_38 rfl rfl (#[aV a1, iV 4, aV a2, iV 4, iV 5, iV 4, iV c3]) rfl <| gT C d5_41 3 (by decide) <| iL C 4 d5_3 rfl <| iL C 5 d5_5 rfl <| yicmp_n C d5_7 (XT.ii_ge_f (by decide)) <| aN C ((.ref a1)) d5_10 rfl rfl <| iN C 4 d5_11 rfl ?_
  have f_20 := (f_15.keep K_17 (ninS n12 nin0))
  refine ycaload C f_20 (by decide) (i := 4) (by decide) (v := c4) rfl d5_12 <| iS C d5_13 (#[aV a1, iV 4, aV a2, iV 4, iV 5, iV 4, iV c4]) rfl <| iL C c4 d5_15 rfl <| iP C 255 d5_17 rfl <| yicmp_n C d5_20 (XT.ii_le_f k4.2) <| iL C 4 d5_23 rfl ?_
  refine g_ret C (v := (.int 4)) (ty := .int) rfl rfl (Or.inl ⟨rfl, Or.inl rfl, _, rfl⟩) d5_25 (by decide) (by decide) ?_
  exact ⟨rfl, (((((Keep.refl h0 [a2]).trans K_2 (allS (Or.inl (List.mem_of_getElem? (i := 0) rfl)) all0)).trans K_7 (allS (Or.inl (List.mem_of_getElem? (i := 0) rfl)) all0)).trans K_12 (allS (Or.inl (List.mem_of_getElem? (i := 0) rfl)) all0)).trans K_17 (allS (Or.inl (List.mem_of_getElem? (i := 0) rfl)) all0))⟩
theorem rm_comp2B_5_4 (hw : HW a0 Z) (a1 : Addr) (c0 c1 c2 c3 c4 : Int32) (h0 : Heap) (Z0 : n0 ≤ h0.size) (cm : Um Z) (O : Old Z n0 h0) (A1 : Ary Z h0 a1 .char [.int c0, .int c1, .int c2, .int c3, .int c4]) (k0 : Ch c0) (k1 : Ch c1) (k2 : Ch c2) (k3 : Ch c3) (k4 : Bg c4) :
    Met1 l Z ⟨"java/lang/StringUTF16", "compress", "([CII)[B"⟩ jdk_52_method_16_code 6 (some (.array .byte)) ⟨3, 2, 15, 40⟩ n0 #[(.ref a1), (.int 0), (.int 5)] h0 (fun v h => ∃ b : Addr, v = some (.ref b) ∧ h0.size ≤ b ∧ Keep h0 h [] ∧ Ary Z h b .byte [.int (bY (c0 >>> (0 &&& 31))), .int (bY (c0 >>> (8 &&& 31))), .int (bY (c1 >>> (0 &&& 31))), .int (bY (c1 >>> (8 &&& 31))), .int (bY (c2 >>> (0 &&& 31))), .int (bY (c2 >>> (8 &&& 31))), .int (bY (c3 >>> (0 &&& 31))), .int (bY (c3 >>> (8 &&& 31))), .int (bY (c4 >>> (0 &&& 31))), .int (bY (c4 >>> (8 &&& 31)))]) := by
  refine met_of (plainFor_of_name pn_4) (L0 := #[.val (.ref a1), .val (.int 0), .val (.int 5), .unset, .unset, .unset]) (by first | (simp [argsToLocals, Value.category]; done) | rfl) ?_
  intro B C
  change Ctx B l _ _ "java/lang/StringUTF16" "compress" _ _ Z at C
  have cm' := cm
  obtain ⟨⟨cz, Scz, hcz⟩, Sas, Shi, Slo, Sfm⟩ := cm'
  refine iN C 5 d4_0 rfl <| ynewarray C (oW hw 20 rfl) (ty := .byte) rfl (by decide) (cap := 5) (by decide) (by decide) (by decide) (by decide) d4_1 ?_
  intro h_1 a_2 g_3 E_4 A_5
  have ne_6 : a1 ≠ a_2 := ne_new A1.lt g_3
  have ge_a_2 : n0 ≤ a_2 := lT Z0 (lE g_3.symm)
  have gs_a_2 : h0.size ≤ a_2 := lT (Nat.le_refl h0.size) (lE g_3.symm)
  have f_7 : Ary Z h_1 a_2 .byte [(.int 0), (.int 0), (.int 0), (.int 0), (.int 0)] := A_5
  show Go _ _ _ _ 1 5 3 _ [(.ref a_2)]
  refine aT C d4_3 (#[aV a1, iV 0, iV 5, aV a_2, uV, uV]) rfl rfl <| aN C ((.ref a1)) d4_4 rfl rfl <| iN C 0 d4_5 rfl <| aN C ((.ref a_2)) d4_6 rfl rfl <| iC C 0 d4_7 rfl <| iN C 5 d4_8 rfl ?_
  have f_8 := (A1.ext E_4)
  have f_9 := (lT Z0 E_4.1)
  refine cS C hw 21 22 18 23 rfl rfl rfl rfl (rm_comp1B_5_4 hw a1 a_2 c0 c1 c2 c3 c4 h_1 f_9 f_8 f_7 ge_a_2 ne_6 k0 k1 k2 k3 k4) [] [(.ref a1), (.int 0), (.ref a_2), (.int 0), (.int 5)] pd_13 0 d4_9 ⟨rfl, rfl, rfl, rfl, rfl⟩ (by decide) ?_
  intro v_12 h_10 q_11
  obtain ⟨rfl, K_14⟩ := q_11
  show Go _ _ _ _ 1 5 12 _ [(.int 4)]
  refine iS C d4_12 (#[aV a1, iV 0, iV 5, aV a_2, iV 4, uV]) rfl <| iL C 4 d4_14 rfl <| iN C 5 d4_16 rfl <| yicmp_n C d4_17 (XT.ii_eq_f (by decide)) <| aN C ((.ref a1)) d4_20 rfl rfl <| iN C 0 d4_21 rfl <| iN C 5 d4_22 rfl ?_
  have f_15 := ((O.ext E_4).keep K_14 (allS ge_a_2 all0))
  have f_16 := (f_8.keep K_14 (ninS ne_6 nin0))
  have f_17 := (lT f_9 K_14.1)
  have f_18 := (lT (lT (Nat.le_refl h0.size) E_4.1) K_14.1)
  refine cS C hw 71 72 18 73 rfl rfl rfl rfl (rm_toB_5 hw a1 c0 c1 c2 c3 c4 h_10 f_17 cm f_15 f_16) [] [(.ref a1), (.int 0), (.int 5)] pd_18 0 d4_23 ⟨rfl, rfl, rfl, rfl, rfl⟩ (by decide) ?_
  intro v_21 h_19 q_20
  obtain ⟨b_23, rfl, le_24, K_25, f_26⟩ := q_20
  have ne_27 : a1 ≠ b_23 := ne_ge f_16.lt le_24
  have ge_b_23 : n0 ≤ b_23 := lT f_17 le_24
  have gs_b_23 : h0.size ≤ b_23 := lT f_18 le_24
  show Go _ _ _ _ 2 15 26 _ [(.ref b_23)]
  refine aS C d4_26 (#[aV a1, iV 0, iV 5, aV a_2, iV 4, aV b_23]) rfl rfl <| aL C ((.ref b_23)) d4_28 rfl rfl <| iL C 4 d4_30 rfl ?_
  have f_28 := (f_15.keep K_25 all0)
  have f_29 := (lT f_17 K_25.1)
  refine cS C hw 87 88 18 89 rfl rfl rfl rfl (rm_getC_5_4 hw b_23 (bY (c0 >>> (0 &&& 31))) (bY (c0 >>> (8 &&& 31))) (bY (c1 >>> (0 &&& 31))) (bY (c1 >>> (8 &&& 31))) (bY (c2 >>> (0 &&& 31))) (bY (c2 >>> (8 &&& 31))) (bY (c3 >>> (0 &&& 31))) (bY (c3 >>> (8 &&& 31))) (bY (c4 >>> (0 &&& 31))) (bY (c4 >>> (8 &&& 31))) c4 h_19 f_29 cm f_28 f_26 (own_gc k4.1) k4.1) [] [(.ref b_23), (.int 4)] pd_15 0 d4_32 ⟨rfl, rfl, rfl, rfl, rfl⟩ (by decide) ?_
  intro v_32 h_30 q_31
  obtain ⟨rfl, rfl⟩ := q_31
  show Go _ _ _ _ 2 15 35 _ [(.int c4)]
  refine iP C 255 d4_35 rfl <| cY C d4_38 (XT.ii_gt_t k4.2) 54 (by decide) <| aL C ((.ref b_23)) d4_54 rfl rfl ?_
  refine g_ret C (v := (.ref b_23)) (ty := (.array .byte)) rfl rfl (Or.inr (Or.inr (Or.inr (Or.inr ⟨rfl, rfl, rfl⟩)))) d4_56 (by decide) (by decide) ?_
  exact ⟨b_23, rfl, gs_b_23, ((((Keep.refl h0 []).ext E_4).trans K_14 (allS (Or.inr gs_a_2) all0)).trans K_25 all0), f_26⟩
theorem rm_init4B_5_4 (hw : HW a0 Z) (a1 a2 : Addr) (c0 c1 c2 c3 c4 : Int32) (h0 : Heap) (Z0 : n0 ≤ h0.size) (cm : Um Z) (O : Old Z n0 h0) (E0 : Exa Z h0 a1 "java/lang/String") (F0 : Fld Z h0 a1 "java/lang/String" "value" "[B" .null) (F1 : Fld Z h0 a1 "java/lang/String" "coder" "B" (.int 0)) (g1 : n0 ≤ a1) (A2 : Ary Z h0 a2 .char [.int c0, .int c1, .int c2, .int c3, .int c4]) (n12 : a1 ≠ a2) (k0 : Ch c0) (k1 : Ch c1) (k2 : Ch c2) (k3 : Ch c3) (k4 : Bg c4) :
    Met1 l Z ⟨"java/lang/String", "<init>", "([CIILjava/lang/Void;)V"⟩ jdk_42_method_149_code 6 none ⟨4, 2, 15, 57⟩ n0 #[(.ref a1), (.ref a2), (.int 0), (.int 5), .null] h0 (fun v h => v = none ∧ Keep h0 h [a1] ∧ ∃ b : Addr, h0.size ≤ b ∧ Fld Z h a1 "java/lang/String" "value" "[B" (.ref b) ∧ Fld Z h a1 "java/lang/String" "coder" "B" (.int 1) ∧ Ary Z h b .byte [.int (bY (c0 >>> (0 &&& 31))), .int (bY (c0 >>> (8 &&& 31))), .int (bY (c1 >>> (0 &&& 31))), .int (bY (c1 >>> (8 &&& 31))), .int (bY (c2 >>> (0 &&& 31))), .int (bY (c2 >>> (8 &&& 31))), .int (bY (c3 >>> (0 &&& 31))), .int (bY (c3 >>> (8 &&& 31))), .int (bY (c4 >>> (0 &&& 31))), .int (bY (c4 >>> (8 &&& 31)))]) := by
  refine met_of (plainFor_of_name pn_5) (L0 := #[.val (.ref a1), .val (.ref a2), .val (.int 0), .val (.int 5), .val .null, .unset]) (by first | (simp [argsToLocals, Value.category]; done) | rfl) ?_
  intro B C
  change Ctx B l _ _ "java/lang/String" "<init>" _ _ Z at C
  have cm' := cm
  obtain ⟨⟨cz, Scz, hcz⟩, Sas, Shi, Slo, Sfm⟩ := cm'
  refine aN C ((.ref a1)) d2_0 rfl rfl <| yinitObj C (oW hw 12 rfl) (oW hw 13 rfl) (oW hw 14 rfl) rfl (by decide) (W := 0) (lE rfl) (by decide) d2_1 <| iN C 5 d2_4 rfl <| fY C d2_5 (XT.i0_ne_t (by decide)) 27 (by decide) <| ygetstatic C (host := "") (v := (.int cz)) (Or.inl (oW hw 15 rfl)) Via.refl (Scz.ext O.2) d2_27 <| yif_n C d2_30 (XT.i0_eq_f hcz) <| aN C ((.ref a2)) d2_33 rfl rfl <| iN C 0 d2_34 rfl <| iN C 5 d2_35 rfl <| cS C hw 16 17 18 19 rfl rfl rfl rfl (rm_comp2B_5_4 hw a2 c0 c1 c2 c3 c4 h0 Z0 cm O A2 k0 k1 k2 k3 k4) [] [(.ref a2), (.int 0), (.int 5)] pd_14 0 d2_36 ⟨rfl, rfl, rfl, rfl, rfl⟩ (by decide) ?_
  intro v_3 h_1 q_2
  obtain ⟨b_5, rfl, le_6, K_7, f_8⟩ := q_2
  have ne_9 : a1 ≠ b_5 := ne_ge E0.lt le_6
  have ne_10 : a2 ≠ b_5 := ne_ge A2.lt le_6
  have ge_b_5 : n0 ≤ b_5 := lT Z0 le_6
  have gs_b_5 : h0.size ≤ b_5 := lT (Nat.le_refl h0.size) le_6
  show Go _ _ _ _ 2 15 39 _ [(.ref b_5)]
  refine aS C d2_39 (#[aV a1, aV a2, iV 0, iV 5, .val .null, aV b_5]) rfl rfl <| aN C ((.ref a1)) d2_41 rfl rfl <| aL C ((.ref b_5)) d2_42 rfl rfl <| iN C 5 d2_44 rfl ?_
  have f_11 := (lT Z0 K_7.1)
  refine cS C hw 24 25 18 26 rfl rfl rfl rfl (rm_coderB_5 hw b_5 (bY (c0 >>> (0 &&& 31))) (bY (c0 >>> (8 &&& 31))) (bY (c1 >>> (0 &&& 31))) (bY (c1 >>> (8 &&& 31))) (bY (c2 >>> (0 &&& 31))) (bY (c2 >>> (8 &&& 31))) (bY (c3 >>> (0 &&& 31))) (bY (c3 >>> (8 &&& 31))) (bY (c4 >>> (0 &&& 31))) (bY (c4 >>> (8 &&& 31))) h_1 f_11 f_8) [(.ref a1)] [(.ref b_5), (.int 5)] pd_6 1 d2_45 ⟨rfl, rfl, rfl, rfl, rfl⟩ (by decide) ?_
  intro v_14 h_12 q_13
  obtain ⟨rfl, rfl⟩ := q_13
  show Go _ _ _ _ 2 15 48 _ [(.int 1), (.ref a1)]
  have f_16 := (F1.keep K_7 nin0)
  have f_17 := (E0.keep K_7)
  refine yputfield C (host := "") (v := (.int 1)) (Or.inl (oW hw 27 rfl)) Via.refl f_16 f_17 (Or.inr ⟨(oW hw 28 rfl), rfl, rfl⟩) (oW hw 3 rfl) (ty := .byte) (by decide) rfl rfl g1 d2_48 ?_
  intro h_18 W_19
  have f_20 := f_16.same W_19
  refine aN C ((.ref a1)) d2_51 rfl rfl <| aL C ((.ref b_5)) d2_52 rfl rfl ?_
  have f_21 := ((F0.keep K_7 nin0).other W_19 (Or.inr (slot_ne (Or.inr (oW hw 30 rfl)) (Or.inr (oW hw 28 rfl)) (by decide) (t := (.array .byte)) (t' := .byte) (by decide) (by decide))))
  have f_22 := (f_17.wr W_19)
  refine yputfield C (host := "") (v := (.ref b_5)) (Or.inl (oW hw 29 rfl)) Via.refl f_21 f_22 (Or.inr ⟨(oW hw 30 rfl), rfl, rfl⟩) (oW hw 3 rfl) (ty := (.array .byte)) (by decide) rfl rfl g1 d2_54 ?_
  intro h_23 W_24
  have f_25 := f_21.same W_24
  refine g_return C rfl d2_57 (by decide) (by decide) ?_
  have f_26 := (f_20.other W_24 (Or.inr (slot_ne (Or.inr (oW hw 28 rfl)) (Or.inr (oW hw 30 rfl)) (by decide) (t := .byte) (t' := (.array .byte)) (by decide) (by decide))))
  have f_27 := ((f_8.keep (Keep.of_wr W_19) (nin1 (Ne.symm ne_9))).keep (Keep.of_wr W_24) (nin1 (Ne.symm ne_9)))
  exact ⟨rfl, ((((Keep.refl h0 [a1]).trans K_7 all0).wr W_19 (Or.inl (List.mem_of_getElem? (i := 0) rfl))).wr W_24 (Or.inl (List.mem_of_getElem? (i := 0) rfl))), b_5, gs_b_5, f_25, f_26, f_27⟩
theorem rm_initB_5_4 (hw : HW a0 Z) (a1 a2 : Addr) (c0 c1 c2 c3 c4 : Int32) (h0 : Heap) (Z0 : n0 ≤ h0.size) (cm : Um Z) (O : Old Z n0 h0) (E0 : Exa Z h0 a1 "java/lang/String") (F0 : Fld Z h0 a1 "java/lang/String" "value" "[B" .null) (F1 : Fld Z h0 a1 "java/lang/String" "coder" "B" (.int 0)) (g1 : n0 ≤ a1) (A2 : Ary Z h0 a2 .char [.int c0, .int c1, .int c2, .int c3, .int c4]) (n12 : a1 ≠ a2) (k0 : Ch c0) (k1 : Ch c1) (k2 : Ch c2) (k3 : Ch c3) (k4 : Bg c4) :
    Met1 l Z ⟨"java/lang/String", "<init>", "([C)V"⟩ jdk_42_method_3_code 2 none ⟨5, 2, 15, 74⟩ n0 #[(.ref a1), (.ref a2)] h0 (fun v h => v = none ∧ Keep h0 h [a1] ∧ ∃ b : Addr, h0.size ≤ b ∧ Fld Z h a1 "java/lang/String" "value" "[B" (.ref b) ∧ Fld Z h a1 "java/lang/String" "coder" "B" (.int 1) ∧ Ary Z h b .byte [.int (bY (c0 >>> (0 &&& 31))), .int (bY (c0 >>> (8 &&& 31))), .int (bY (c1 >>> (0 &&& 31))), .int (bY (c1 >>> (8 &&& 31))), .int (bY (c2 >>> (0 &&& 31))), .int (bY (c2 >>> (8 &&& 31))), .int (bY (c3 >>> (0 &&& 31))), .int (bY (c3 >>> (8 &&& 31))), .int (bY (c4 >>> (0 &&& 31))), .int (bY (c4 >>> (8 &&& 31)))]) := by
  refine met_of (plainFor_of_name pn_5) (L0 := #[.val (.ref a1), .val (.ref a2)]) (by first | (simp [argsToLocals, Value.category]; done) | rfl) ?_
  intro B C
  change Ctx B l _ _ "java/lang/String" "<init>" _ _ Z at C
  have cm' := cm
  obtain ⟨⟨cz, Scz, hcz⟩, Sas, Shi, Slo, Sfm⟩ := cm'
  refine aN C ((.ref a1)) d1_0 rfl rfl <| aN C ((.ref a2)) d1_1 rfl rfl <| iC C 0 d1_2 rfl <| aN C ((.ref a2)) d1_3 rfl rfl <| yarraylength C A2 (z := 5) rfl d1_4 <| yaconst_null C d1_5 <| cP C hw 8 9 4 11 rfl rfl rfl rfl rfl (rm_init4B_5_4 hw a1 a2 c0 c1 c2 c3 c4 h0 Z0 cm O E0 F0 F1 g1 A2 n12 k0 k1 k2 k3 k4) [] [(.ref a2), (.int 0), (.int 5), .null] pd_24 0 d1_6 ⟨rfl, rfl, rfl, rfl, rfl⟩ (by decide) ?_
  intro v_3 h_1 q_2
  obtain ⟨rfl, K_5, b_6, le_7, f_8, f_9, f_10⟩ := q_2
  have ne_11 : a1 ≠ b_6 := ne_ge E0.lt le_7
  have ne_12 : a2 ≠ b_6 := ne_ge A2.lt le_7
  have ge_b_6 : n0 ≤ b_6 := lT Z0 le_7
  have gs_b_6 : h0.size ≤ b_6 := lT (Nat.le_refl h0.size) le_7
  show Go _ _ _ _ 2 15 9 _ []
  refine g_return C rfl d1_9 (by decide) (by decide) ?_
  exact ⟨rfl, ((Keep.refl h0 [a1]).trans K_5 (allS (Or.inl (List.mem_of_getElem? (i := 0) rfl)) all0)), b_6, gs_b_6, f_8, f_9, f_10⟩
theorem d15_0 : decode jdk_41_method_11_code 0 = .ok (.iload_n 0, 1) := by decide +kernel
theorem d15_1 : decode jdk_41_method_11_code 1 = .ok (.ifCond .lt 8, 3) := by decide +kernel
theorem d15_4 : decode jdk_41_method_11_code 4 = .ok (.iload_n 0, 1) := by decide +kernel
theorem d15_5 : decode jdk_41_method_11_code 5 = .ok (.iload_n 1, 1) := by decide +kernel
theorem d15_6 : decode jdk_41_method_11_code 6 = .ok (.if_icmp .lt 10, 3) := by decide +kernel
theorem d15_16 : decode jdk_41_method_11_code 16 = .ok (.iload_n 0, 1) := by decide +kernel
theorem d15_17 : decode jdk_41_method_11_code 17 = .ok (.ireturn, 1) := by decide +kernel
theorem pn_2 : plainName "jdk/internal/util/Preconditions" = true := by first | (simp [plainName, overriddenIn]; done) | decide +kernel
theorem rm_pci_r (hw : HW a0 Z) (ix nx : Int32) (a1 : Addr) (h0 : Heap) (Z0 : n0 ≤ h0.size) (hix : ¬ ix < 0) (hnx : ix < nx) :
    Met1 l Z ⟨"jdk/internal/util/Preconditions", "checkIndex", "(IILjava/util/function/BiFunction;)I"⟩ jdk_41_method_11_code 3 (some .int) ⟨0, 0, 0, 0⟩ n0 #[(.int ix), (.int nx), (.ref a1)] h0 (fun v h => v = some (.int ix) ∧ h0 = h) := by
  refine met_of (plainFor_of_name pn_2) (L0 := #[.val (.int ix), .val (.int nx), .val (.ref a1)]) (by first | (simp [argsToLocals, Value.category]; done) | rfl) ?_
  intro B C
  change Ctx B l _ _ "jdk/internal/util/Preconditions" "checkIndex" _ _ Z at C
  refine iN C ix d15_0 rfl <| yif_n C d15_1 (XT.i0_lt_f hix) <| iN C ix d15_4 rfl <| iN C nx d15_5 rfl <| cY C d15_6 (XT.ii_lt_t hnx) 16 (by decide) <| iN C ix d15_16 rfl ?_
  refine g_ret C (v := (.int ix)) (ty := .int) rfl rfl (Or.inl ⟨rfl, Or.inl rfl, _, rfl⟩) d15_17 (by decide) (by decide) ?_
  exact ⟨rfl, rfl⟩
theorem rm_pci_n (hw : HW a0 Z) (ix nx : Int32)  (h0 : Heap) (Z0 : n0 ≤ h0.size) (hix : ¬ ix < 0) (hnx : ix < nx) :
    Met1 l Z ⟨"jdk/internal/util/Preconditions", "checkIndex", "(IILjava/util/function/BiFunction;)I"⟩ jdk_41_method_11_code 3 (some .int) ⟨0, 0, 0, 0⟩ n0 #[(.int ix), (.int nx), .null] h0 (fun v h => v = some (.int ix) ∧ h0 = h) := by
  refine met_of (plainFor_of_name pn_2) (L0 := #[.val (.int ix), .val (.int nx), .val .null]) (by first | (simp [argsToLocals, Value.category]; done) | rfl) ?_
  intro B C
  change Ctx B l _ _ "jdk/internal/util/Preconditions" "checkIndex" _ _ Z at C
  refine iN C ix d15_0 rfl <| yif_n C d15_1 (XT.i0_lt_f hix) <| iN C ix d15_4 rfl <| iN C nx d15_5 rfl <| cY C d15_6 (XT.ii_lt_t hnx) 16 (by decide) <| iN C ix d15_16 rfl ?_
  refine g_ret C (v := (.int ix)) (ty := .int) rfl rfl (Or.inl ⟨rfl, Or.inl rfl, _, rfl⟩) d15_17 (by decide) (by decide) ?_
  exact ⟨rfl, rfl⟩
theorem pd_12 : parseMethodDescriptor "(IILjava/util/function/BiFunction;)I" = some ⟨[.int, .int, (.object "java/util/function/BiFunction")], (some .int)⟩ := by decide +kernel
theorem d14_0 : decode jdk_42_method_155_code 0 = .ok (.iload_n 0, 1) := by decide +kernel
theorem d14_1 : decode jdk_42_method_155_code 1 = .ok (.iload_n 1, 1) := by decide +kernel
theorem d14_2 : decode jdk_42_method_155_code 2 = .ok (.getstatic 1053, 3) := by decide +kernel
theorem d14_5 : decode jdk_42_method_155_code 5 = .ok (.invokestatic 1059, 3) := by decide +kernel
theorem d14_8 : decode jdk_42_method_155_code 8 = .ok (.pop, 1) := by decide +kernel
theorem d14_9 : decode jdk_42_method_155_code 9 = .ok (.return_, 1) := by decide +kernel
theorem rm_sci (hw : HW a0 Z) (ix nx : Int32) (h0 : Heap) (Z0 : n0 ≤ h0.size) (cm : Um Z) (O : Old Z n0 h0) (hix : ¬ ix < 0) (hnx : ix < nx) :
    Met1 l Z ⟨"java/lang/String", "checkIndex", "(II)V"⟩ jdk_42_method_155_code 2 none ⟨1, 0, 0, 14⟩ n0 #[(.int ix), (.int nx)] h0 (fun v h => v = none ∧ h0 = h) := by
  refine met_of (plainFor_of_name pn_5) (L0 := #[.val (.int ix), .val (.int nx)]) (by first | (simp [argsToLocals, Value.category]; done) | rfl) ?_
  intro B C
  change Ctx B l _ _ "java/lang/String" "checkIndex" _ _ Z at C
  have cm' := cm
  obtain ⟨⟨cz, Scz, hcz⟩, Sas, Shi, Slo, Sfm⟩ := cm'
  rcases Sfm with ⟨fa, Sfa⟩ | Sfa
  · show Go _ _ _ _ 0 0 0 _ []
    refine iN C ix d14_0 rfl <| iN C nx d14_1 rfl <| ygetstatic C (host := "") (v := (.ref fa)) (Or.inl (oW hw 65 rfl)) Via.refl (Sfa.ext O.2) d14_2 <| cS C hw 67 68 66 69 rfl rfl rfl rfl (rm_pci_r hw ix nx fa h0 Z0 hix hnx) [] [(.int ix), (.int nx), (.ref fa)] pd_12 0 d14_5 ⟨rfl, rfl, rfl, rfl, rfl⟩ (by decide) ?_
    intro v_3 h_1 q_2
    obtain ⟨rfl, rfl⟩ := q_2
    show Go _ _ _ _ 0 0 8 _ [(.int ix)]
    refine ypop C d14_8 rfl ?_
    refine g_return C rfl d14_9 (by decide) (by decide) ?_
    exact ⟨rfl, rfl⟩
  · show Go _ _ _ _ 0 0 0 _ []
    refine iN C ix d14_0 rfl <| iN C nx d14_1 rfl <| ygetstatic C (host := "") (v := .null) (Or.inl (oW hw 65 rfl)) Via.refl (Sfa.ext O.2) d14_2 <| cS C hw 67 68 66 69 rfl rfl rfl rfl (rm_pci_n hw ix nx h0 Z0 hix hnx) [] [(.int ix), (.int nx), .null] pd_12 0 d14_5 ⟨rfl, rfl, rfl, rfl, rfl⟩ (by decide) ?_
    intro v_7 h_5 q_6
    obtain ⟨rfl, rfl⟩ := q_6
    show Go _ _ _ _ 0 0 8 _ [(.int ix)]
    refine ypop C d14_8 rfl ?_
    refine g_return C rfl d14_9 (by decide) (by decide) ?_
    exact ⟨rfl, rfl⟩
theorem d10_0 : decode jdk_42_method_152_code 0 = .ok (.getstatic 38, 3) := by decide +kernel
theorem d10_3 : decode jdk_42_method_152_code 3 = .ok (.ifCond .eq 10, 3) := by decide +kernel
theorem d10_6 : decode jdk_42_method_152_code 6 = .ok (.aload_n 0, 1) := by decide +kernel
theorem d10_7 : decode jdk_42_method_152_code 7 = .ok (.getfield 15, 3) := by decide +kernel
theorem d10_10 : decode jdk_42_method_152_code 10 = .ok (.goto 4, 3) := by decide +kernel
theorem d10_14 : decode jdk_42_method_152_code 14 = .ok (.ireturn, 1) := by decide +kernel
theorem rm_coder_0 (hw : HW a0 Z) (a1 : Addr) (h0 : Heap) (Z0 : n0 ≤ h0.size) (cm : Um Z) (O : Old Z n0 h0) (F1 : Fld Z h0 a1 "java/lang/String" "coder" "B" (.int 0)) :
    Met1 l Z ⟨"java/lang/String", "coder", "()B"⟩ jdk_42_method_152_code 1 (some .byte) ⟨0, 0, 0, 0⟩ n0 #[(.ref a1)] h0 (fun v h => v = some (.int 0) ∧ h0 = h) := by
  refine met_of (plainFor_of_name pn_5) (L0 := #[.val (.ref a1)]) (by first | (simp [argsToLocals, Value.category]; done) | rfl) ?_
  intro B C
  change Ctx B l _ _ "java/lang/String" "coder" _ _ Z at C
  have cm' := cm
  obtain ⟨⟨cz, Scz, hcz⟩, Sas, Shi, Slo, Sfm⟩ := cm'
  refine ygetstatic C (host := "") (v := (.int cz)) (Or.inl (oW hw 15 rfl)) Via.refl (Scz.ext O.2) d10_0 <| yif_n C d10_3 (XT.i0_eq_f hcz) <| aN C ((.ref a1)) d10_6 rfl rfl <| ygetfield C (host := "") (v := (.int 0)) (Or.inl (oW hw 27 rfl)) Via.refl F1 d10_7 <| gT C d10_10 14 (by decide) ?_
  refine g_ret C (v := (.int 0)) (ty := .byte) rfl rfl (Or.inl ⟨rfl, Or.inr (Or.inr (Or.inl rfl)), _, rfl⟩) d10_14 (by decide) (by decide) ?_
  exact ⟨rfl, rfl⟩
theorem d12_0 : decode jdk_42_method_154_code 0 = .ok (.getstatic 38, 3) := by decide +kernel
theorem d12_3 : decode jdk_42_method_154_code 3 = .ok (.ifCond .eq 14, 3) := by decide +kernel
theorem d12_6 : decode jdk_42_method_154_code 6 = .ok (.aload_n 0, 1) := by decide +kernel
theorem d12_7 : decode jdk_42_method_154_code 7 = .ok (.getfield 15, 3) := by decide +kernel
theorem d12_10 : decode jdk_42_method_154_code 10 = .ok (.ifCond .ne 7, 3) := by decide +kernel
theorem d12_13 : decode jdk_42_method_154_code 13 = .ok (.iconst 1, 1) := by decide +kernel
theorem d12_14 : decode jdk_42_method_154_code 14 = .ok (.goto 4, 3) := by decide +kernel
theorem d12_18 : decode jdk_42_method_154_code 18 = .ok (.ireturn, 1) := by decide +kernel
theorem rm_isLatin1_0 (hw : HW a0 Z) (a1 : Addr) (h0 : Heap) (Z0 : n0 ≤ h0.size) (cm : Um Z) (O : Old Z n0 h0) (F1 : Fld Z h0 a1 "java/lang/String" "coder" "B" (.int 0)) :
    Met1 l Z ⟨"java/lang/String", "isLatin1", "()Z"⟩ jdk_42_method_154_code 1 (some .boolean) ⟨0, 0, 0, 0⟩ n0 #[(.ref a1)] h0 (fun v h => v = some (.int 1) ∧ h0 = h) := by
  refine met_of (plainFor_of_name pn_5) (L0 := #[.val (.ref a1)]) (by first | (simp [argsToLocals, Value.category]; done) | rfl) ?_
  intro B C
  change Ctx B l _ _ "java/lang/String" "isLatin1" _ _ Z at C
  have cm' := cm
  obtain ⟨⟨cz, Scz, hcz⟩, Sas, Shi, Slo, Sfm⟩ := cm'
  refine ygetstatic C (host := "") (v := (.int cz)) (Or.inl (oW hw 15 rfl)) Via.refl (Scz.ext O.2) d12_0 <| yif_n C d12_3 (XT.i0_eq_f hcz) <| aN C ((.ref a1)) d12_6 rfl rfl <| ygetfield C (host := "") (v := (.int 0)) (Or.inl (oW hw 27 rfl)) Via.refl F1 d12_7 <| yif_n C d12_10 (XT.i0_ne_f (by decide)) <| iC C 1 d12_13 rfl <| gT C d12_14 18 (by decide) ?_
  refine g_ret C (v := (.int 1)) (ty := .boolean) rfl rfl (Or.inl ⟨rfl, Or.inr (Or.inl rfl), _, rfl⟩) d12_18 (by decide) (by decide) ?_
  exact ⟨rfl, rfl⟩
theorem pd_26 : parseMethodDescriptor "()B" = some ⟨[], (some .byte)⟩ := by decide +kernel
theorem d9_0 : decode jdk_42_method_54_code 0 = .ok (.aload_n 0, 1) := by decide +kernel
theorem d9_1 : decode jdk_42_method_54_code 1 = .ok (.getfield 9, 3) := by decide +kernel
theorem d9_4 : decode jdk_42_method_54_code 4 = .ok (.arraylength, 1) := by decide +kernel
theorem d9_5 : decode jdk_42_method_54_code 5 = .ok (.aload_n 0, 1) := by decide +kernel
theorem d9_6 : decode jdk_42_method_54_code 6 = .ok (.invokevirtual 335, 3) := by decide +kernel
theorem d9_9 : decode jdk_42_method_54_code 9 = .ok (.ishr, 1) := by decide +kernel
theorem d9_10 : decode jdk_42_method_54_code 10 = .ok (.ireturn, 1) := by decide +kernel
theorem rm_lenK_2_0 (hw : HW a0 Z) (a1 b1 : Addr) (x0 x1 : Int32) (h0 : Heap) (Z0 : n0 ≤ h0.size) (cm : Um Z) (O : Old Z n0 h0) (E0 : Exa Z h0 a1 "java/lang/String") (F0 : Fld Z h0 a1 "java/lang/String" "value" "[B" (.ref b1)) (F1 : Fld Z h0 a1 "java/lang/String" "coder" "B" (.int 0)) (A1 : Ary Z h0 b1 .byte [.int x0, .int x1]) :
    Met1 l Z ⟨"java/lang/String", "length", "()I"⟩ jdk_42_method_54_code 1 (some .int) ⟨1, 0, 0, 13⟩ n0 #[(.ref a1)] h0 (fun v h => v = some (.int 2) ∧ h0 = h) := by
  refine met_of (plainFor_of_name pn_5) (L0 := #[.val (.ref a1)]) (by first | (simp [argsToLocals, Value.category]; done) | rfl) ?_
  intro B C
  change Ctx B l _ _ "java/lang/String" "length" _ _ Z at C
  have cm' := cm
  obtain ⟨⟨cz, Scz, hcz⟩, Sas, Shi, Slo, Sfm⟩ := cm'
  refine aN C ((.ref a1)) d9_0 rfl rfl <| ygetfield C (host := "") (v := (.ref b1)) (Or.inl (oW hw 29 rfl)) Via.refl F0 d9_1 <| yarraylength C A1 (z := 2) rfl d9_4 <| aN C ((.ref a1)) d9_5 rfl rfl <| cV C hw 43 44 46 45 4 47 rfl rfl rfl rfl rfl rfl E0 (rm_coder_0 hw a1 h0 Z0 cm O F1) [(.int 2)] [] pd_26 1 d9_6 ⟨rfl, rfl, rfl, rfl, rfl⟩ (by decide) ?_
  intro v_3 h_1 q_2
  obtain ⟨rfl, rfl⟩ := q_2
  show Go _ _ _ _ 0 0 9 _ [(.int 0), (.int 2)]
  refine yishr C d9_9 <| eS [(.int 2)] rfl ?_
  refine g_ret C (v := (.int 2)) (ty := .int) rfl rfl (Or.inl ⟨rfl, Or.inl rfl, _, rfl⟩) d9_10 (by decide) (by decide) ?_
  exact ⟨rfl, rfl⟩
theorem pd_11 : parseMethodDescriptor "(II)V" = some ⟨[.int, .int], none⟩ := by decide +kernel
theorem d13_0 : decode jdk_43_method_2_code 0 = .ok (.iload_n 1, 1) := by decide +kernel
theorem d13_1 : decode jdk_43_method_2_code 1 = .ok (.aload_n 0, 1) := by decide +kernel
theorem d13_2 : decode jdk_43_method_2_code 2 = .ok (.arraylength, 1) := by decide +kernel
theorem d13_3 : decode jdk_43_method_2_code 3 = .ok (.invokestatic 9, 3) := by decide +kernel
theorem d13_6 : decode jdk_43_method_2_code 6 = .ok (.aload_n 0, 1) := by decide +kernel
theorem d13_7 : decode jdk_43_method_2_code 7 = .ok (.iload_n 1, 1) := by decide +kernel
theorem d13_8 : decode jdk_43_method_2_code 8 = .ok (.baload, 1) := by decide +kernel
theorem d13_9 : decode jdk_43_method_2_code 9 = .ok (.sipush 255, 3) := by decide +kernel
theorem d13_12 : decode jdk_43_method_2_code 12 = .ok (.iand, 1) := by decide +kernel
theorem d13_13 : decode jdk_43_method_2_code 13 = .ok (.i2c, 1) := by decide +kernel
theorem d13_14 : decode jdk_43_method_2_code 14 = .ok (.ireturn, 1) := by decide +kernel
theorem pn_3 : plainName "java/lang/StringLatin1" = true := by first | (simp [plainName, overriddenIn]; done) | decide +kernel
theorem rm_lchar_2_0 (hw : HW a0 Z) (a1 : Addr) (x0 x1 c : Int32) (h0 : Heap) (Z0 : n0 ≤ h0.size) (cm : Um Z) (O : Old Z n0 h0) (A1 : Ary Z h0 a1 .byte [.int x0, .int x1]) (ec : (UInt32.toInt32 (UInt16.toUInt32 (UInt32.toUInt16 (Int32.toUInt32 (x0 &&& 255))))) = c) (kc : nar .char c = c) :
    Met1 l Z ⟨"java/lang/StringLatin1", "charAt", "([BI)C"⟩ jdk_43_method_2_code 2 (some .char) ⟨2, 0, 0, 27⟩ n0 #[(.ref a1), (.int 0)] h0 (fun v h => v = some (.int c) ∧ h0 = h) := by
  refine met_of (plainFor_of_name pn_3) (L0 := #[.val (.ref a1), .val (.int 0)]) (by first | (simp [argsToLocals, Value.category]; done) | rfl) ?_
  intro B C
  change Ctx B l _ _ "java/lang/StringLatin1" "charAt" _ _ Z at C
  have cm' := cm
  obtain ⟨⟨cz, Scz, hcz⟩, Sas, Shi, Slo, Sfm⟩ := cm'
  refine iN C 0 d13_0 rfl <| aN C ((.ref a1)) d13_1 rfl rfl <| yarraylength C A1 (z := 2) rfl d13_2 <| cS C hw 62 63 4 64 rfl rfl rfl rfl (rm_sci hw 0 2 h0 Z0 cm O (by decide) (by decide)) [] [(.int 0), (.int 2)] pd_11 0 d13_3 ⟨rfl, rfl, rfl, rfl, rfl⟩ (by decide) ?_
  intro v_3 h_1 q_2
  obtain ⟨rfl, rfl⟩ := q_2
  show Go _ _ _ _ 0 0 6 _ []
  refine aN C ((.ref a1)) d13_6 rfl rfl <| iN C 0 d13_7 rfl <| ybaloadB C A1 (by decide) (i := 0) (by decide) (v := x0) rfl d13_8 <| iP C 255 d13_9 rfl <| yiand C d13_12 <| yi2c C d13_13 ?_
  rw [ec]
  refine g_ret C (v := (.int c)) (ty := .char) rfl (own_nch kc) (Or.inl ⟨rfl, Or.inr (Or.inr (Or.inr (Or.inl rfl))), _, rfl⟩) d13_14 (by decide) (by decide) ?_
  exact ⟨rfl, rfl⟩
theorem pd_16 : parseMethodDescriptor "()Z" = some ⟨[], (some .boolean)⟩ := by decide +kernel
theorem pd_20 : parseMethodDescriptor "([BI)C" = some ⟨[(.array .byte), .int], (some .char)⟩ := by decide +kernel
theorem d11_0 : decode jdk_42_method_56_code 0 = .ok (.aload_n 0, 1) := by decide +kernel
theorem d11_1 : decode jdk_42_method_56_code 1 = .ok (.invokevirtual 492, 3) := by decide +kernel
theorem d11_4 : decode jdk_42_method_56_code 4 = .ok (.ifCond .eq 12, 3) := by decide +kernel
theorem d11_7 : decode jdk_42_method_56_code 7 = .ok (.aload_n 0, 1) := by decide +kernel
theorem d11_8 : decode jdk_42_method_56_code 8 = .ok (.getfield 9, 3) := by decide +kernel
theorem d11_11 : decode jdk_42_method_56_code 11 = .ok (.iload_n 1, 1) := by decide +kernel
theorem d11_12 : decode jdk_42_method_56_code 12 = .ok (.invokestatic 495, 3) := by decide +kernel
theorem d11_15 : decode jdk_42_method_56_code 15 = .ok (.ireturn, 1) := by decide +kernel
theorem rm_charAt_2_0_0 (hw : HW a0 Z) (a1 b1 : Addr) (x0 x1 c : Int32) (h0 : Heap) (Z0 : n0 ≤ h0.size) (cm : Um Z) (O : Old Z n0 h0) (E0 : Exa Z h0 a1 "java/lang/String") (F0 : Fld Z h0 a1 "java/lang/String" "value" "[B" (.ref b1)) (F1 : Fld Z h0 a1 "java/lang/String" "coder" "B" (.int 0)) (A1 : Ary Z h0 b1 .byte [.int x0, .int x1]) (ec : (UInt32.toInt32 (UInt16.toUInt32 (UInt32.toUInt16 (Int32.toUInt32 (x0 &&& 255))))) = c) (kc : nar .char c = c) :
    Met1 l Z ⟨"java/lang/String", "charAt", "(I)C"⟩ jdk_42_method_56_code 2 (some .char) ⟨3, 0, 0, 40⟩ n0 #[(.ref a1), (.int 0)] h0 (fun v h => v = some (.int c) ∧ h0 = h) := by
  refine met_of (plainFor_of_name pn_5) (L0 := #[.val (.ref a1), .val (.int 0)]) (by first | (simp [argsToLocals, Value.category]; done) | rfl) ?_
  intro B C
  change Ctx B l _ _ "java/lang/String" "charAt" _ _ Z at C
  have cm' := cm
  obtain ⟨⟨cz, Scz, hcz⟩, Sas, Shi, Slo, Sfm⟩ := cm'
  refine aN C ((.ref a1)) d11_0 rfl rfl <| cV C hw 53 54 56 55 4 57 rfl rfl rfl rfl rfl rfl E0 (rm_isLatin1_0 hw a1 h0 Z0 cm O F1) [] [] pd_16 0 d11_1 ⟨rfl, rfl, rfl, rfl, rfl⟩ (by decide) ?_
  intro v_3 h_1 q_2
  obtain ⟨rfl, rfl⟩ := q_2
  show Go _ _ _ _ 0 0 4 _ [(.int 1)]
  refine yif_n C d11_4 (XT.i0_eq_f (by decide)) <| aN C ((.ref a1)) d11_7 rfl rfl <| ygetfield C (host := "") (v := (.ref b1)) (Or.inl (oW hw 29 rfl)) Via.refl F0 d11_8 <| iN C 0 d11_11 rfl <| cS C hw 58 59 60 61 rfl rfl rfl rfl (rm_lchar_2_0 hw b1 x0 x1 c h0 Z0 cm O A1 ec kc) [] [(.ref b1), (.int 0)] pd_20 0 d11_12 ⟨rfl, rfl, rfl, rfl, rfl⟩ (by decide) ?_
  intro v_7 h_5 q_6
  obtain ⟨rfl, rfl⟩ := q_6
  show Go _ _ _ _ 0 0 15 _ [(.int c)]
  refine g_ret C (v := (.int c)) (ty := .char) rfl (own_nch kc) (Or.inl ⟨rfl, Or.inr (Or.inr (Or.inr (Or.inl rfl))), _, rfl⟩) d11_15 (by decide) (by decide) ?_
  exact ⟨rfl, rfl⟩
theorem rm_lchar_2_1 (hw : HW a0 Z) (a1 : Addr) (x0 x1 c : Int32) (h0 : Heap) (Z0 : n0 ≤ h0.size) (cm : Um Z) (O : Old Z n0 h0) (A1 : Ary Z h0 a1 .byte [.int x0, .int x1]) (ec : (UInt32.toInt32 (UInt16.toUInt32 (UInt32.toUInt16 (Int32.toUInt32 (x1 &&& 255))))) = c) (kc : nar .char c = c) :
    Met1 l Z ⟨"java/lang/StringLatin1", "charAt", "([BI)C"⟩ jdk_43_method_2_code 2 (some .char) ⟨2, 0, 0, 27⟩ n0 #[(.ref a1), (.int 1)] h0 (fun v h => v = some (.int c) ∧ h0 = h) := by
  refine met_of (plainFor_of_name pn_3) (L0 := #[.val (.ref a1), .val (.int 1)]) (by first | (simp [argsToLocals, Value.category]; done) | rfl) ?_
  intro B C
  change Ctx B l _ _ "java/lang/StringLatin1" "charAt" _ _ Z at C
  have cm' := cm
  obtain ⟨⟨cz, Scz, hcz⟩, Sas, Shi, Slo, Sfm⟩ := cm'
  refine iN C 1 d13_0 rfl <| aN C ((.ref a1)) d13_1 rfl rfl <| yarraylength C A1 (z := 2) rfl d13_2 <| cS C hw 62 63 4 64 rfl rfl rfl rfl (rm_sci hw 1 2 h0 Z0 cm O (by decide) (by decide)) [] [(.int 1), (.int 2)] pd_11 0 d13_3 ⟨rfl, rfl, rfl, rfl, rfl⟩ (by decide) ?_
  intro v_3 h_1 q_2
  obtain ⟨rfl, rfl⟩ := q_2
  show Go _ _ _ _ 0 0 6 _ []
  refine aN C ((.ref a1)) d13_6 rfl rfl <| iN C 1 d13_7 rfl <| ybaloadB C A1 (by decide) (i := 1) (by decide) (v := x1) rfl d13_8 <| iP C 255 d13_9 rfl <| yiand C d13_12 <| yi2c C d13_13 ?_
  rw [ec]
  refine g_ret C (v := (.int c)) (ty := .char) rfl (own_nch kc) (Or.inl ⟨rfl, Or.inr (Or.inr (Or.inr (Or.inl rfl))), _, rfl⟩) d13_14 (by decide) (by decide) ?_
  exact ⟨rfl, rfl⟩
theorem rm_charAt_2_1_0 (hw : HW a0 Z) (a1 b1 : Addr) (x0 x1 c : Int32) (h0 : Heap) (Z0 : n0 ≤ h0.size) (cm : Um Z) (O : Old Z n0 h0) (E0 : Exa Z h0 a1 "java/lang/String") (F0 : Fld Z h0 a1 "java/lang/String" "value" "[B" (.ref b1)) (F1 : Fld Z h0 a1 "java/lang/String" "coder" "B" (.int 0)) (A1 : Ary Z h0 b1 .byte [.int x0, .int x1]) (ec : (UInt32.toInt32 (UInt16.toUInt32 (UInt32.toUInt16 (Int32.toUInt32 (x1 &&& 255))))) = c) (kc : nar .char c = c) :
    Met1 l Z ⟨"java/lang/String", "charAt", "(I)C"⟩ jdk_42_method_56_code 2 (some .char) ⟨3, 0, 0, 40⟩ n0 #[(.ref a1), (.int 1)] h0 (fun v h => v = some (.int c) ∧ h0 = h) := by
  refine met_of (plainFor_of_name pn_5) (L0 := #[.val (.ref a1), .val (.int 1)]) (by first | (simp [argsToLocals, Value.category]; done) | rfl) ?_
  intro B C
  change Ctx B l _ _ "java/lang/String" "charAt" _ _ Z at C
  have cm' := cm
  obtain ⟨⟨cz, Scz, hcz⟩, Sas, Shi, Slo, Sfm⟩ := cm'
  refine aN C ((.ref a1)) d11_0 rfl rfl <| cV C hw 53 54 56 55 4 57 rfl rfl rfl rfl rfl rfl E0 (rm_isLatin1_0 hw a1 h0 Z0 cm O F1) [] [] pd_16 0 d11_1 ⟨rfl, rfl, rfl, rfl, rfl⟩ (by decide) ?_
  intro v_3 h_1 q_2
  obtain ⟨rfl, rfl⟩ := q_2
  show Go _ _ _ _ 0 0 4 _ [(.int 1)]
  refine yif_n C d11_4 (XT.i0_eq_f (by decide)) <| aN C ((.ref a1)) d11_7 rfl rfl <| ygetfield C (host := "") (v := (.ref b1)) (Or.inl (oW hw 29 rfl)) Via.refl F0 d11_8 <| iN C 1 d11_11 rfl <| cS C hw 58 59 60 61 rfl rfl rfl rfl (rm_lchar_2_1 hw b1 x0 x1 c h0 Z0 cm O A1 ec kc) [] [(.ref b1), (.int 1)] pd_20 0 d11_12 ⟨rfl, rfl, rfl, rfl, rfl⟩ (by decide) ?_
  intro v_7 h_5 q_6
  obtain ⟨rfl, rfl⟩ := q_6
  show Go _ _ _ _ 0 0 15 _ [(.int c)]
  refine g_ret C (v := (.int c)) (ty := .char) rfl (own_nch kc) (Or.inl ⟨rfl, Or.inr (Or.inr (Or.inr (Or.inl rfl))), _, rfl⟩) d11_15 (by decide) (by decide) ?_
  exact ⟨rfl, rfl⟩
theorem pd_22 : parseMethodDescriptor "()I" = some ⟨[], (some .int)⟩ := by decide +kernel
theorem pd_23 : parseMethodDescriptor "(I)C" = some ⟨[.int], (some .char)⟩ := by decide +kernel
theorem d8_0 : decode prog_12_method_12_code 0 = .ok (.iload_n 1, 1) := by decide +kernel
theorem d8_1 : decode prog_12_method_12_code 1 = .ok (.ifCond .lt 27, 3) := by decide +kernel
theorem d8_4 : decode prog_12_method_12_code 4 = .ok (.iload_n 1, 1) := by decide +kernel
theorem d8_5 : decode prog_12_method_12_code 5 = .ok (.iconst 1, 1) := by decide +kernel
theorem d8_6 : decode prog_12_method_12_code 6 = .ok (.iadd, 1) := by decide +kernel
theorem d8_7 : decode prog_12_method_12_code 7 = .ok (.aload_n 0, 1) := by decide +kernel
theorem d8_8 : decode prog_12_method_12_code 8 = .ok (.invokevirtual 33, 3) := by decide +kernel
theorem d8_11 : decode prog_12_method_12_code 11 = .ok (.if_icmp .ge 17, 3) := by decide +kernel
theorem d8_14 : decode prog_12_method_12_code 14 = .ok (.aload_n 0, 1) := by decide +kernel
theorem d8_15 : decode prog_12_method_12_code 15 = .ok (.iload_n 1, 1) := by decide +kernel
theorem d8_16 : decode prog_12_method_12_code 16 = .ok (.invokevirtual 37, 3) := by decide +kernel
theorem d8_19 : decode prog_12_method_12_code 19 = .ok (.bipush 60, 2) := by decide +kernel
theorem d8_21 : decode prog_12_method_12_code 21 = .ok (.if_icmp .ne 7, 3) := by decide +kernel
theorem d8_24 : decode prog_12_method_12_code 24 = .ok (.iconst 1, 1) := by decide +kernel
theorem d8_25 : decode prog_12_method_12_code 25 = .ok (.goto 4, 3) := by decide +kernel
theorem d8_29 : decode prog_12_method_12_code 29 = .ok (.istore_n 2, 1) := by decide +kernel
theorem d8_30 : decode prog_12_method_12_code 30 = .ok (.iload_n 2, 1) := by decide +kernel
theorem d8_31 : decode prog_12_method_12_code 31 = .ok (.ifCond .eq 13, 3) := by decide +kernel
theorem d8_34 : decode prog_12_method_12_code 34 = .ok (.aload_n 0, 1) := by decide +kernel
theorem d8_35 : decode prog_12_method_12_code 35 = .ok (.iload_n 1, 1) := by decide +kernel
theorem d8_36 : decode prog_12_method_12_code 36 = .ok (.iconst 1, 1) := by decide +kernel
theorem d8_37 : decode prog_12_method_12_code 37 = .ok (.iadd, 1) := by decide +kernel
theorem d8_38 : decode prog_12_method_12_code 38 = .ok (.invokevirtual 37, 3) := by decide +kernel
theorem d8_41 : decode prog_12_method_12_code 41 = .ok (.goto 4, 3) := by decide +kernel
theorem d8_45 : decode prog_12_method_12_code 45 = .ok (.ireturn, 1) := by decide +kernel
theorem pn_1 : plainName "com/example/poder/poder/format/Markup" = true := by first | (simp [plainName, overriddenIn]; done) | decide +kernel
theorem rm_second_2_0_0 (hw : HW a0 Z) (a1 b1 : Addr) (x0 x1 c : Int32) (h0 : Heap) (Z0 : n0 ≤ h0.size) (cm : Um Z) (O : Old Z n0 h0) (E0 : Exa Z h0 a1 "java/lang/String") (F0 : Fld Z h0 a1 "java/lang/String" "value" "[B" (.ref b1)) (F1 : Fld Z h0 a1 "java/lang/String" "coder" "B" (.int 0)) (A1 : Ary Z h0 b1 .byte [.int x0, .int x1]) (e0 : (UInt32.toInt32 (UInt16.toUInt32 (UInt32.toUInt16 (Int32.toUInt32 (x0 &&& 255))))) = 60) (e1 : (UInt32.toInt32 (UInt16.toUInt32 (UInt32.toUInt16 (Int32.toUInt32 (x1 &&& 255))))) = c) (kc : nar .char c = c) :
    Met1 l Z ⟨"com/example/poder/poder/format/Markup", "second", "(Ljava/lang/String;I)C"⟩ prog_12_method_12_code 3 (some .char) ⟨4, 0, 0, 53⟩ n0 #[(.ref a1), (.int 0)] h0 (fun v h => v = some (.int c) ∧ h0 = h) := by
  refine met_of (plainFor_of_name pn_1) (L0 := #[.val (.ref a1), .val (.int 0), .unset]) (by first | (simp [argsToLocals, Value.category]; done) | rfl) ?_
  intro B C
  change Ctx B l _ _ "com/example/poder/poder/format/Markup" "second" _ _ Z at C
  have cm' := cm
  obtain ⟨⟨cz, Scz, hcz⟩, Sas, Shi, Slo, Sfm⟩ := cm'
  refine iN C 0 d8_0 rfl <| yif_n C d8_1 (XT.i0_lt_f (by decide)) <| iN C 0 d8_4 rfl <| iC C 1 d8_5 rfl <| yiadd C d8_6 <| eS [(.int 1)] rfl <| aN C ((.ref a1)) d8_7 rfl rfl <| cV C hw 38 39 41 40 4 42 rfl rfl rfl rfl rfl rfl E0 (rm_lenK_2_0 hw a1 b1 x0 x1 h0 Z0 cm O E0 F0 F1 A1) [(.int 1)] [] pd_22 1 d8_8 ⟨rfl, rfl, rfl, rfl, rfl⟩ (by decide) ?_
  intro v_3 h_1 q_2
  obtain ⟨rfl, rfl⟩ := q_2
  show Go _ _ _ _ 0 0 11 _ [(.int 2), (.int 1)]
  refine yicmp_n C d8_11 (XT.ii_ge_f (by decide)) <| aN C ((.ref a1)) d8_14 rfl rfl <| iN C 0 d8_15 rfl <| cV C hw 48 49 51 50 4 52 rfl rfl rfl rfl rfl rfl E0 (rm_charAt_2_0_0 hw a1 b1 x0 x1 60 h0 Z0 cm O E0 F0 F1 A1 e0 (by decide)) [] [(.int 0)] pd_23 0 d8_16 ⟨rfl, rfl, rfl, rfl, rfl⟩ (by decide) ?_
  intro v_7 h_5 q_6
  obtain ⟨rfl, rfl⟩ := q_6
  show Go _ _ _ _ 0 0 19 _ [(.int 60)]
  refine iB C 60 d8_19 rfl <| yicmp_n C d8_21 (XT.ii_ne_f (by decide)) <| iC C 1 d8_24 rfl <| gT C d8_25 29 (by decide) <| iT C d8_29 (#[aV a1, iV 0, iV 1]) rfl <| iN C 1 d8_30 rfl <| yif_n C d8_31 (XT.i0_eq_f (by decide)) <| aN C ((.ref a1)) d8_34 rfl rfl <| iN C 0 d8_35 rfl <| iC C 1 d8_36 rfl <| yiadd C d8_37 <| eS [(.int 1), (.ref a1)] rfl <| cV C hw 48 49 51 50 4 52 rfl rfl rfl rfl rfl rfl E0 (rm_charAt_2_1_0 hw a1 b1 x0 x1 c h0 Z0 cm O E0 F0 F1 A1 e1 kc) [] [(.int 1)] pd_23 0 d8_38 ⟨rfl, rfl, rfl, rfl, rfl⟩ (by decide) ?_
  intro v_11 h_9 q_10
  obtain ⟨rfl, rfl⟩ := q_10
  show Go _ _ _ _ 0 0 41 _ [(.int c)]
  refine gT C d8_41 45 (by decide) ?_
  refine g_ret C (v := (.int c)) (ty := .char) rfl (own_nch kc) (Or.inl ⟨rfl, Or.inr (Or.inr (Or.inr (Or.inl rfl))), _, rfl⟩) d8_45 (by decide) (by decide) ?_
  exact ⟨rfl, rfl⟩
theorem pd_19 : parseMethodDescriptor "(Ljava/lang/String;I)C" = some ⟨[(.object "java/lang/String"), .int], (some .char)⟩ := by decide +kernel
theorem d7_0 : decode prog_12_method_2_code 0 = .ok (.aload_n 0, 1) := by decide +kernel
theorem d7_1 : decode prog_12_method_2_code 1 = .ok (.iload_n 1, 1) := by decide +kernel
theorem d7_2 : decode prog_12_method_2_code 2 = .ok (.invokestatic 7, 3) := by decide +kernel
theorem d7_5 : decode prog_12_method_2_code 5 = .ok (.istore_n 2, 1) := by decide +kernel
theorem d7_6 : decode prog_12_method_2_code 6 = .ok (.iload_n 2, 1) := by decide +kernel
theorem d7_7 : decode prog_12_method_2_code 7 = .ok (.bipush 47, 2) := by decide +kernel
theorem d7_9 : decode prog_12_method_2_code 9 = .ok (.if_icmp .eq 19, 3) := by decide +kernel
theorem d7_12 : decode prog_12_method_2_code 12 = .ok (.iload_n 2, 1) := by decide +kernel
theorem d7_13 : decode prog_12_method_2_code 13 = .ok (.bipush 33, 2) := by decide +kernel
theorem d7_15 : decode prog_12_method_2_code 15 = .ok (.if_icmp .eq 13, 3) := by decide +kernel
theorem d7_18 : decode prog_12_method_2_code 18 = .ok (.iload_n 2, 1) := by decide +kernel
theorem d7_19 : decode prog_12_method_2_code 19 = .ok (.bipush 63, 2) := by decide +kernel
theorem d7_21 : decode prog_12_method_2_code 21 = .ok (.if_icmp .eq 7, 3) := by decide +kernel
theorem d7_24 : decode prog_12_method_2_code 24 = .ok (.iconst 1, 1) := by decide +kernel
theorem d7_25 : decode prog_12_method_2_code 25 = .ok (.goto 4, 3) := by decide +kernel
theorem d7_28 : decode prog_12_method_2_code 28 = .ok (.iconst 0, 1) := by decide +kernel
theorem d7_29 : decode prog_12_method_2_code 29 = .ok (.ireturn, 1) := by decide +kernel
theorem rm_isStart_2_0_0 (hw : HW a0 Z) (a1 b1 : Addr) (x0 x1 c : Int32) (h0 : Heap) (Z0 : n0 ≤ h0.size) (cm : Um Z) (O : Old Z n0 h0) (E0 : Exa Z h0 a1 "java/lang/String") (F0 : Fld Z h0 a1 "java/lang/String" "value" "[B" (.ref b1)) (F1 : Fld Z h0 a1 "java/lang/String" "coder" "B" (.int 0)) (A1 : Ary Z h0 b1 .byte [.int x0, .int x1]) (e0 : (UInt32.toInt32 (UInt16.toUInt32 (UInt32.toUInt16 (Int32.toUInt32 (x0 &&& 255))))) = 60) (e1 : (UInt32.toInt32 (UInt16.toUInt32 (UInt32.toUInt16 (Int32.toUInt32 (x1 &&& 255))))) = c) (kc : nar .char c = c) :
    Met1 l Z ⟨"com/example/poder/poder/format/Markup", "isStartTag", "(Ljava/lang/String;I)Z"⟩ prog_12_method_2_code 3 (some .boolean) ⟨5, 0, 0, 67⟩ n0 #[(.ref a1), (.int 0)] h0 (fun v h => ∃ r : Int32, v = some (.int r) ∧ (c = 47 ∨ c = 33 ∨ c = 63 → r = 0) ∧ (¬ c = 47 → ¬ c = 33 → ¬ c = 63 → r = 1) ∧ h0 = h) := by
  refine met_of (plainFor_of_name pn_1) (L0 := #[.val (.ref a1), .val (.int 0), .unset]) (by first | (simp [argsToLocals, Value.category]; done) | rfl) ?_
  intro B C
  change Ctx B l _ _ "com/example/poder/poder/format/Markup" "isStartTag" _ _ Z at C
  have cm' := cm
  obtain ⟨⟨cz, Scz, hcz⟩, Sas, Shi, Slo, Sfm⟩ := cm'
  refine aN C ((.ref a1)) d7_0 rfl rfl <| iN C 0 d7_1 rfl <| cS C hw 35 36 33 37 rfl rfl rfl rfl (rm_second_2_0_0 hw a1 b1 x0 x1 c h0 Z0 cm O E0 F0 F1 A1 e0 e1 kc) [] [(.ref a1), (.int 0)] pd_19 0 d7_2 ⟨rfl, rfl, rfl, rfl, rfl⟩ (by decide) ?_
  intro v_3 h_1 q_2
  obtain ⟨rfl, rfl⟩ := q_2
  show Go _ _ _ _ 0 0 5 _ [(.int c)]
  refine iT C d7_5 (#[aV a1, iV 0, iV c]) rfl <| iN C c d7_6 rfl <| iB C 47 d7_7 rfl ?_
  by_cases hb_5 : c = 47
  · refine cY C d7_9 (XT.ii_eq_t hb_5) 28 (by decide) <| iC C 0 d7_28 rfl ?_
    refine g_ret C (v := (.int 0)) (ty := .boolean) rfl rfl (Or.inl ⟨rfl, Or.inr (Or.inl rfl), _, rfl⟩) d7_29 (by decide) (by decide) ?_
    exact ⟨_, rfl, fun _ => rfl, fun q1 q2 q3 => absurd hb_5 q1, rfl⟩
  · refine yicmp_n C d7_9 (XT.ii_eq_f hb_5) <| iN C c d7_12 rfl <| iB C 33 d7_13 rfl ?_
    by_cases hb_6 : c = 33
    · refine cY C d7_15 (XT.ii_eq_t hb_6) 28 (by decide) <| iC C 0 d7_28 rfl ?_
      refine g_ret C (v := (.int 0)) (ty := .boolean) rfl rfl (Or.inl ⟨rfl, Or.inr (Or.inl rfl), _, rfl⟩) d7_29 (by decide) (by decide) ?_
      exact ⟨_, rfl, fun _ => rfl, fun q1 q2 q3 => absurd hb_6 q2, rfl⟩
    · refine yicmp_n C d7_15 (XT.ii_eq_f hb_6) <| iN C c d7_18 rfl <| iB C 63 d7_19 rfl ?_
      by_cases hb_7 : c = 63
      · refine cY C d7_21 (XT.ii_eq_t hb_7) 28 (by decide) <| iC C 0 d7_28 rfl ?_
        refine g_ret C (v := (.int 0)) (ty := .boolean) rfl rfl (Or.inl ⟨rfl, Or.inr (Or.inl rfl), _, rfl⟩) d7_29 (by decide) (by decide) ?_
        exact ⟨_, rfl, fun _ => rfl, fun q1 q2 q3 => absurd hb_7 q3, rfl⟩
      · refine yicmp_n C d7_21 (XT.ii_eq_f hb_7) <| iC C 1 d7_24 rfl <| gT C d7_25 29 (by decide) ?_
        refine g_ret C (v := (.int 1)) (ty := .boolean) rfl rfl (Or.inl ⟨rfl, Or.inr (Or.inl rfl), _, rfl⟩) d7_29 (by decide) (by decide) ?_
        exact ⟨_, rfl, fun q => (by rcases q with q | q | q; exact absurd q hb_5; exact absurd q hb_6; exact absurd q hb_7), fun _ _ _ => rfl, rfl⟩
theorem rm_coder_1 (hw : HW a0 Z) (a1 : Addr) (h0 : Heap) (Z0 : n0 ≤ h0.size) (cm : Um Z) (O : Old Z n0 h0) (F1 : Fld Z h0 a1 "java/lang/String" "coder" "B" (.int 1)) :
    Met1 l Z ⟨"java/lang/String", "coder", "()B"⟩ jdk_42_method_152_code 1 (some .byte) ⟨0, 0, 0, 0⟩ n0 #[(.ref a1)] h0 (fun v h => v = some (.int 1) ∧ h0 = h) := by
  refine met_of (plainFor_of_name pn_5) (L0 := #[.val (.ref a1)]) (by first | (simp [argsToLocals, Value.category]; done) | rfl) ?_
  intro B C
  change Ctx B l _ _ "java/lang/String" "coder" _ _ Z at C
  have cm' := cm
  obtain ⟨⟨cz, Scz, hcz⟩, Sas, Shi, Slo, Sfm⟩ := cm'
  refine ygetstatic C (host := "") (v := (.int cz)) (Or.inl (oW hw 15 rfl)) Via.refl (Scz.ext O.2) d10_0 <| yif_n C d10_3 (XT.i0_eq_f hcz) <| aN C ((.ref a1)) d10_6 rfl rfl <| ygetfield C (host := "") (v := (.int 1)) (Or.inl (oW hw 27 rfl)) Via.refl F1 d10_7 <| gT C d10_10 14 (by decide) ?_
  refine g_ret C (v := (.int 1)) (ty := .byte) rfl rfl (Or.inl ⟨rfl, Or.inr (Or.inr (Or.inl rfl)), _, rfl⟩) d10_14 (by decide) (by decide) ?_
  exact ⟨rfl, rfl⟩
theorem d12_17 : decode jdk_42_method_154_code 17 = .ok (.iconst 0, 1) := by decide +kernel
theorem rm_isLatin1_1 (hw : HW a0 Z) (a1 : Addr) (h0 : Heap) (Z0 : n0 ≤ h0.size) (cm : Um Z) (O : Old Z n0 h0) (F1 : Fld Z h0 a1 "java/lang/String" "coder" "B" (.int 1)) :
    Met1 l Z ⟨"java/lang/String", "isLatin1", "()Z"⟩ jdk_42_method_154_code 1 (some .boolean) ⟨0, 0, 0, 0⟩ n0 #[(.ref a1)] h0 (fun v h => v = some (.int 0) ∧ h0 = h) := by
  refine met_of (plainFor_of_name pn_5) (L0 := #[.val (.ref a1)]) (by first | (simp [argsToLocals, Value.category]; done) | rfl) ?_
  intro B C
  change Ctx B l _ _ "java/lang/String" "isLatin1" _ _ Z at C
  have cm' := cm
  obtain ⟨⟨cz, Scz, hcz⟩, Sas, Shi, Slo, Sfm⟩ := cm'
  refine ygetstatic C (host := "") (v := (.int cz)) (Or.inl (oW hw 15 rfl)) Via.refl (Scz.ext O.2) d12_0 <| yif_n C d12_3 (XT.i0_eq_f hcz) <| aN C ((.ref a1)) d12_6 rfl rfl <| ygetfield C (host := "") (v := (.int 1)) (Or.inl (oW hw 27 rfl)) Via.refl F1 d12_7 <| fY C d12_10 (XT.i0_ne_t (by decide)) 17 (by decide) <| iC C 0 d12_17 rfl ?_
  refine g_ret C (v := (.int 0)) (ty := .boolean) rfl rfl (Or.inl ⟨rfl, Or.inr (Or.inl rfl), _, rfl⟩) d12_18 (by decide) (by decide) ?_
  exact ⟨rfl, rfl⟩
theorem rm_lenK_2_1 (hw : HW a0 Z) (a1 b1 : Addr) (x0 x1 x2 x3 : Int32) (h0 : Heap) (Z0 : n0 ≤ h0.size) (cm : Um Z) (O : Old Z n0 h0) (E0 : Exa Z h0 a1 "java/lang/String") (F0 : Fld Z h0 a1 "java/lang/String" "value" "[B" (.ref b1)) (F1 : Fld Z h0 a1 "java/lang/String" "coder" "B" (.int 1)) (A1 : Ary Z h0 b1 .byte [.int x0, .int x1, .int x2, .int x3]) :
    Met1 l Z ⟨"java/lang/String", "length", "()I"⟩ jdk_42_method_54_code 1 (some .int) ⟨1, 0, 0, 13⟩ n0 #[(.ref a1)] h0 (fun v h => v = some (.int 2) ∧ h0 = h) := by
  refine met_of (plainFor_of_name pn_5) (L0 := #[.val (.ref a1)]) (by first | (simp [argsToLocals, Value.category]; done) | rfl) ?_
  intro B C
  change Ctx B l _ _ "java/lang/String" "length" _ _ Z at C
  have cm' := cm
  obtain ⟨⟨cz, Scz, hcz⟩, Sas, Shi, Slo, Sfm⟩ := cm'
  refine aN C ((.ref a1)) d9_0 rfl rfl <| ygetfield C (host := "") (v := (.ref b1)) (Or.inl (oW hw 29 rfl)) Via.refl F0 d9_1 <| yarraylength C A1 (z := 4) rfl d9_4 <| aN C ((.ref a1)) d9_5 rfl rfl <| cV C hw 43 44 46 45 4 47 rfl rfl rfl rfl rfl rfl E0 (rm_coder_1 hw a1 h0 Z0 cm O F1) [(.int 4)] [] pd_26 1 d9_6 ⟨rfl, rfl, rfl, rfl, rfl⟩ (by decide) ?_
  intro v_3 h_1 q_2
  obtain ⟨rfl, rfl⟩ := q_2
  show Go _ _ _ _ 0 0 9 _ [(.int 1), (.int 4)]
  refine yishr C d9_9 <| eS [(.int 2)] rfl ?_
  refine g_ret C (v := (.int 2)) (ty := .int) rfl rfl (Or.inl ⟨rfl, Or.inl rfl, _, rfl⟩) d9_10 (by decide) (by decide) ?_
  exact ⟨rfl, rfl⟩
theorem d23_0 : decode jdk_52_method_6_code 0 = .ok (.aload_n 0, 1) := by decide +kernel
theorem d23_1 : decode jdk_52_method_6_code 1 = .ok (.arraylength, 1) := by decide +kernel
theorem d23_2 : decode jdk_52_method_6_code 2 = .ok (.iconst 1, 1) := by decide +kernel
theorem d23_3 : decode jdk_52_method_6_code 3 = .ok (.ishr, 1) := by decide +kernel
theorem d23_4 : decode jdk_52_method_6_code 4 = .ok (.ireturn, 1) := by decide +kernel
theorem rm_ulen_2 (hw : HW a0 Z) (a1 : Addr) (x0 x1 x2 x3 : Int32) (h0 : Heap) (Z0 : n0 ≤ h0.size) (A1 : Ary Z h0 a1 .byte [.int x0, .int x1, .int x2, .int x3]) :
    Met1 l Z ⟨"java/lang/StringUTF16", "length", "([B)I"⟩ jdk_52_method_6_code 1 (some .int) ⟨0, 0, 0, 0⟩ n0 #[(.ref a1)] h0 (fun v h => v = some (.int 2) ∧ h0 = h) := by
  refine met_of (plainFor_of_name pn_4) (L0 := #[.val (.ref a1)]) (by first | (simp [argsToLocals, Value.category]; done) | rfl) ?_
  intro B C
  change Ctx B l _ _ "java/lang/StringUTF16" "length" _ _ Z at C
  refine aN C ((.ref a1)) d23_0 rfl rfl <| yarraylength C A1 (z := 4) rfl d23_1 <| iC C 1 d23_2 rfl <| yishr C d23_3 <| eS [(.int 2)] rfl ?_
  refine g_ret C (v := (.int 2)) (ty := .int) rfl rfl (Or.inl ⟨rfl, Or.inl rfl, _, rfl⟩) d23_4 (by decide) (by decide) ?_
  exact ⟨rfl, rfl⟩
theorem pd_21 : parseMethodDescriptor "([B)I" = some ⟨[(.array .byte)], (some .int)⟩ := by decide +kernel
theorem d22_0 : decode jdk_52_method_91_code 0 = .ok (.iload_n 0, 1) := by decide +kernel
theorem d22_1 : decode jdk_52_method_91_code 1 = .ok (.aload_n 1, 1) := by decide +kernel
theorem d22_2 : decode jdk_52_method_91_code 2 = .ok (.invokestatic 48, 3) := by decide +kernel
theorem d22_5 : decode jdk_52_method_91_code 5 = .ok (.invokestatic 414, 3) := by decide +kernel
theorem d22_8 : decode jdk_52_method_91_code 8 = .ok (.return_, 1) := by decide +kernel
theorem rm_uci_2 (hw : HW a0 Z) (ix : Int32) (a1 : Addr) (x0 x1 x2 x3 : Int32) (h0 : Heap) (Z0 : n0 ≤ h0.size) (cm : Um Z) (O : Old Z n0 h0) (A1 : Ary Z h0 a1 .byte [.int x0, .int x1, .int x2, .int x3]) (hix : ¬ ix < 0) (hnx : ix < 2) :
    Met1 l Z ⟨"java/lang/StringUTF16", "checkIndex", "(I[B)V"⟩ jdk_52_method_91_code 2 none ⟨2, 0, 0, 27⟩ n0 #[(.int ix), (.ref a1)] h0 (fun v h => v = none ∧ h0 = h) := by
  refine met_of (plainFor_of_name pn_4) (L0 := #[.val (.int ix), .val (.ref a1)]) (by first | (simp [argsToLocals, Value.category]; done) | rfl) ?_
  intro B C
  change Ctx B l _ _ "java/lang/StringUTF16" "checkIndex" _ _ Z at C
  have cm' := cm
  obtain ⟨⟨cz, Scz, hcz⟩, Sas, Shi, Slo, Sfm⟩ := cm'
  refine iN C ix d22_0 rfl <| aN C ((.ref a1)) d22_1 rfl rfl <| cS C hw 96 97 18 98 rfl rfl rfl rfl (rm_ulen_2 hw a1 x0 x1 x2 x3 h0 Z0 A1) [(.int ix)] [(.ref a1)] pd_21 1 d22_2 ⟨rfl, rfl, rfl, rfl, rfl⟩ (by decide) ?_
  intro v_3 h_1 q_2
  obtain ⟨rfl, rfl⟩ := q_2
  show Go _ _ _ _ 0 0 5 _ [(.int 2), (.int ix)]
  refine cS C hw 99 63 4 64 rfl rfl rfl rfl (rm_sci hw ix 2 h0 Z0 cm O hix hnx) [] [(.int ix), (.int 2)] pd_11 0 d22_5 ⟨rfl, rfl, rfl, rfl, rfl⟩ (by decide) ?_
  intro v_7 h_5 q_6
  obtain ⟨rfl, rfl⟩ := q_6
  show Go _ _ _ _ 0 0 8 _ []
  refine g_return C rfl d22_8 (by decide) (by decide) ?_
  exact ⟨rfl, rfl⟩
theorem rm_getC_2_0 (hw : HW a0 Z) (a1 : Addr) (x0 x1 x2 x3 c : Int32) (h0 : Heap) (Z0 : n0 ≤ h0.size) (cm : Um Z) (O : Old Z n0 h0) (A1 : Ary Z h0 a1 .byte [.int x0, .int x1, .int x2, .int x3]) (ec : (UInt32.toInt32 (UInt16.toUInt32 (UInt32.toUInt16 (Int32.toUInt32 (((x0 &&& 255) <<< (0 &&& 31)) ||| ((x1 &&& 255) <<< (8 &&& 31))))))) = c) (kc : nar .char c = c) :
    Met1 l Z ⟨"java/lang/StringUTF16", "getChar", "([BI)C"⟩ jdk_52_method_5_code 2 (some .char) ⟨0, 0, 0, 0⟩ n0 #[(.ref a1), (.int 0)] h0 (fun v h => v = some (.int c) ∧ h0 = h) := by
  refine met_of (plainFor_of_name pn_4) (L0 := #[.val (.ref a1), .val (.int 0)]) (by first | (simp [argsToLocals, Value.category]; done) | rfl) ?_
  intro B C
  change Ctx B l _ _ "java/lang/StringUTF16" "getChar" _ _ Z at C
  have cm' := cm
  obtain ⟨⟨cz, Scz, hcz⟩, Sas, Shi, Slo, Sfm⟩ := cm'
  refine ygetstatic C (host := "") (v := (.int 1)) (Or.inl (oW hw 84 rfl)) Via.refl (Sas.ext O.2) d20_0 <| fY C d20_3 (XT.i0_ne_t (by decide)) 28 (by decide) <| iN C 0 d20_28 rfl <| iC C 1 d20_29 rfl <| yishl C d20_30 <| eS [(.int 0)] rfl <| iT C d20_31 (#[aV a1, iV 0]) rfl <| aN C ((.ref a1)) d20_32 rfl rfl <| iN C 0 d20_33 rfl <| nC C 0 1 d20_34 rfl rfl (#[aV a1, iV 1]) rfl <| ybaloadB C A1 (by decide) (i := 0) (by decide) (v := x0) rfl d20_37 <| iP C 255 d20_38 rfl <| yiand C d20_41 <| ygetstatic C (host := "") (v := (.int 0)) (Or.inl (oW hw 85 rfl)) Via.refl (Shi.ext O.2) d20_42 <| yishl C d20_45 <| aN C ((.ref a1)) d20_46 rfl rfl <| iN C 1 d20_47 rfl <| ybaloadB C A1 (by decide) (i := 1) (by decide) (v := x1) rfl d20_48 <| iP C 255 d20_49 rfl <| yiand C d20_52 <| ygetstatic C (host := "") (v := (.int 8)) (Or.inl (oW hw 86 rfl)) Via.refl (Slo.ext O.2) d20_53 <| yishl C d20_56 <| yior C d20_57 <| yi2c C d20_58 ?_
  rw [ec]
  refine g_ret C (v := (.int c)) (ty := .char) rfl (own_nch kc) (Or.inl ⟨rfl, Or.inr (Or.inr (Or.inr (Or.inl rfl))), _, rfl⟩) d20_59 (by decide) (by decide) ?_
  exact ⟨rfl, rfl⟩
theorem pd_9 : parseMethodDescriptor "(I[B)V" = some ⟨[.int, (.array .byte)], none⟩ := by decide +kernel
theorem d21_0 : decode jdk_52_method_83_code 0 = .ok (.iload_n 1, 1) := by decide +kernel
theorem d21_1 : decode jdk_52_method_83_code 1 = .ok (.aload_n 0, 1) := by decide +kernel
theorem d21_2 : decode jdk_52_method_83_code 2 = .ok (.invokestatic 67, 3) := by decide +kernel
theorem d21_5 : decode jdk_52_method_83_code 5 = .ok (.aload_n 0, 1) := by decide +kernel
theorem d21_6 : decode jdk_52_method_83_code 6 = .ok (.iload_n 1, 1) := by decide +kernel
theorem d21_7 : decode jdk_52_method_83_code 7 = .ok (.invokestatic 71, 3) := by decide +kernel
theorem d21_10 : decode jdk_52_method_83_code 10 = .ok (.ireturn, 1) := by decide +kernel
theorem rm_uchar_2_0 (hw : HW a0 Z) (a1 : Addr) (x0 x1 x2 x3 c : Int32) (h0 : Heap) (Z0 : n0 ≤ h0.size) (cm : Um Z) (O : Old Z n0 h0) (A1 : Ary Z h0 a1 .byte [.int x0, .int x1, .int x2, .int x3]) (ec : (UInt32.toInt32 (UInt16.toUInt32 (UInt32.toUInt16 (Int32.toUInt32 (((x0 &&& 255) <<< (0 &&& 31)) ||| ((x1 &&& 255) <<< (8 &&& 31))))))) = c) (kc : nar .char c = c) :
    Met1 l Z ⟨"java/lang/StringUTF16", "charAt", "([BI)C"⟩ jdk_52_method_83_code 2 (some .char) ⟨3, 0, 0, 40⟩ n0 #[(.ref a1), (.int 0)] h0 (fun v h => v = some (.int c) ∧ h0 = h) := by
  refine met_of (plainFor_of_name pn_4) (L0 := #[.val (.ref a1), .val (.int 0)]) (by first | (simp [argsToLocals, Value.category]; done) | rfl) ?_
  intro B C
  change Ctx B l _ _ "java/lang/StringUTF16" "charAt" _ _ Z at C
  have cm' := cm
  obtain ⟨⟨cz, Scz, hcz⟩, Sas, Shi, Slo, Sfm⟩ := cm'
  refine iN C 0 d21_0 rfl <| aN C ((.ref a1)) d21_1 rfl rfl <| cS C hw 93 94 18 95 rfl rfl rfl rfl (rm_uci_2 hw 0 a1 x0 x1 x2 x3 h0 Z0 cm O A1 (by decide) (by decide)) [] [(.int 0), (.ref a1)] pd_9 0 d21_2 ⟨rfl, rfl, rfl, rfl, rfl⟩ (by decide) ?_
  intro v_3 h_1 q_2
  obtain ⟨rfl, rfl⟩ := q_2
  show Go _ _ _ _ 0 0 5 _ []
  refine aN C ((.ref a1)) d21_5 rfl rfl <| iN C 0 d21_6 rfl <| cS C hw 87 88 18 89 rfl rfl rfl rfl (rm_getC_2_0 hw a1 x0 x1 x2 x3 c h0 Z0 cm O A1 ec kc) [] [(.ref a1), (.int 0)] pd_15 0 d21_7 ⟨rfl, rfl, rfl, rfl, rfl⟩ (by decide) ?_
  intro v_7 h_5 q_6
  obtain ⟨rfl, rfl⟩ := q_6
  show Go _ _ _ _ 0 0 10 _ [(.int c)]
  refine g_ret C (v := (.int c)) (ty := .char) rfl (own_nch kc) (Or.inl ⟨rfl, Or.inr (Or.inr (Or.inr (Or.inl rfl))), _, rfl⟩) d21_10 (by decide) (by decide) ?_
  exact ⟨rfl, rfl⟩
theorem d11_16 : decode jdk_42_method_56_code 16 = .ok (.aload_n 0, 1) := by decide +kernel
theorem d11_17 : decode jdk_42_method_56_code 17 = .ok (.getfield 9, 3) := by decide +kernel
theorem d11_20 : decode jdk_42_method_56_code 20 = .ok (.iload_n 1, 1) := by decide +kernel
theorem d11_21 : decode jdk_42_method_56_code 21 = .ok (.invokestatic 498, 3) := by decide +kernel
theorem d11_24 : decode jdk_42_method_56_code 24 = .ok (.ireturn, 1) := by decide +kernel
theorem rm_charAt_2_0_1 (hw : HW a0 Z) (a1 b1 : Addr) (x0 x1 x2 x3 c : Int32) (h0 : Heap) (Z0 : n0 ≤ h0.size) (cm : Um Z) (O : Old Z n0 h0) (E0 : Exa Z h0 a1 "java/lang/String") (F0 : Fld Z h0 a1 "java/lang/String" "value" "[B" (.ref b1)) (F1 : Fld Z h0 a1 "java/lang/String" "coder" "B" (.int 1)) (A1 : Ary Z h0 b1 .byte [.int x0, .int x1, .int x2, .int x3]) (ec : (UInt32.toInt32 (UInt16.toUInt32 (UInt32.toUInt16 (Int32.toUInt32 (((x0 &&& 255) <<< (0 &&& 31)) ||| ((x1 &&& 255) <<< (8 &&& 31))))))) = c) (kc : nar .char c = c) :
    Met1 l Z ⟨"java/lang/String", "charAt", "(I)C"⟩ jdk_42_method_56_code 2 (some .char) ⟨4, 0, 0, 53⟩ n0 #[(.ref a1), (.int 0)] h0 (fun v h => v = some (.int c) ∧ h0 = h) := by
  refine met_of (plainFor_of_name pn_5) (L0 := #[.val (.ref a1), .val (.int 0)]) (by first | (simp [argsToLocals, Value.category]; done) | rfl) ?_
  intro B C
  change Ctx B l _ _ "java/lang/String" "charAt" _ _ Z at C
  have cm' := cm
  obtain ⟨⟨cz, Scz, hcz⟩, Sas, Shi, Slo, Sfm⟩ := cm'
  refine aN C ((.ref a1)) d11_0 rfl rfl <| cV C hw 53 54 56 55 4 57 rfl rfl rfl rfl rfl rfl E0 (rm_isLatin1_1 hw a1 h0 Z0 cm O F1) [] [] pd_16 0 d11_1 ⟨rfl, rfl, rfl, rfl, rfl⟩ (by decide) ?_
  intro v_3 h_1 q_2
  obtain ⟨rfl, rfl⟩ := q_2
  show Go _ _ _ _ 0 0 4 _ [(.int 0)]
  refine fY C d11_4 (XT.i0_eq_t (by decide)) 16 (by decide) <| aN C ((.ref a1)) d11_16 rfl rfl <| ygetfield C (host := "") (v := (.ref b1)) (Or.inl (oW hw 29 rfl)) Via.refl F0 d11_17 <| iN C 0 d11_20 rfl <| cS C hw 90 91 18 92 rfl rfl rfl rfl (rm_uchar_2_0 hw b1 x0 x1 x2 x3 c h0 Z0 cm O A1 ec kc) [] [(.ref b1), (.int 0)] pd_20 0 d11_21 ⟨rfl, rfl, rfl, rfl, rfl⟩ (by decide) ?_
  intro v_7 h_5 q_6
  obtain ⟨rfl, rfl⟩ := q_6
  show Go _ _ _ _ 0 0 24 _ [(.int c)]
  refine g_ret C (v := (.int c)) (ty := .char) rfl (own_nch kc) (Or.inl ⟨rfl, Or.inr (Or.inr (Or.inr (Or.inl rfl))), _, rfl⟩) d11_24 (by decide) (by decide) ?_
  exact ⟨rfl, rfl⟩
theorem rm_uchar_2_1 (hw : HW a0 Z) (a1 : Addr) (x0 x1 x2 x3 c : Int32) (h0 : Heap) (Z0 : n0 ≤ h0.size) (cm : Um Z) (O : Old Z n0 h0) (A1 : Ary Z h0 a1 .byte [.int x0, .int x1, .int x2, .int x3]) (ec : (UInt32.toInt32 (UInt16.toUInt32 (UInt32.toUInt16 (Int32.toUInt32 (((x2 &&& 255) <<< (0 &&& 31)) ||| ((x3 &&& 255) <<< (8 &&& 31))))))) = c) (kc : nar .char c = c) :
    Met1 l Z ⟨"java/lang/StringUTF16", "charAt", "([BI)C"⟩ jdk_52_method_83_code 2 (some .char) ⟨3, 0, 0, 40⟩ n0 #[(.ref a1), (.int 1)] h0 (fun v h => v = some (.int c) ∧ h0 = h) := by
  refine met_of (plainFor_of_name pn_4) (L0 := #[.val (.ref a1), .val (.int 1)]) (by first | (simp [argsToLocals, Value.category]; done) | rfl) ?_
  intro B C
  change Ctx B l _ _ "java/lang/StringUTF16" "charAt" _ _ Z at C
  have cm' := cm
  obtain ⟨⟨cz, Scz, hcz⟩, Sas, Shi, Slo, Sfm⟩ := cm'
  refine iN C 1 d21_0 rfl <| aN C ((.ref a1)) d21_1 rfl rfl <| cS C hw 93 94 18 95 rfl rfl rfl rfl (rm_uci_2 hw 1 a1 x0 x1 x2 x3 h0 Z0 cm O A1 (by decide) (by decide)) [] [(.int 1), (.ref a1)] pd_9 0 d21_2 ⟨rfl, rfl, rfl, rfl, rfl⟩ (by decide) ?_
  intro v_3 h_1 q_2
  obtain ⟨rfl, rfl⟩ := q_2
  show Go _ _ _ _ 0 0 5 _ []
  refine aN C ((.ref a1)) d21_5 rfl rfl <| iN C 1 d21_6 rfl <| cS C hw 87 88 18 89 rfl rfl rfl rfl (rm_getC_2_1 hw a1 x0 x1 x2 x3 c h0 Z0 cm O A1 ec kc) [] [(.ref a1), (.int 1)] pd_15 0 d21_7 ⟨rfl, rfl, rfl, rfl, rfl⟩ (by decide) ?_
  intro v_7 h_5 q_6
  obtain ⟨rfl, rfl⟩ := q_6
  show Go _ _ _ _ 0 0 10 _ [(.int c)]
  refine g_ret C (v := (.int c)) (ty := .char) rfl (own_nch kc) (Or.inl ⟨rfl, Or.inr (Or.inr (Or.inr (Or.inl rfl))), _, rfl⟩) d21_10 (by decide) (by decide) ?_
  exact ⟨rfl, rfl⟩
theorem rm_charAt_2_1_1 (hw : HW a0 Z) (a1 b1 : Addr) (x0 x1 x2 x3 c : Int32) (h0 : Heap) (Z0 : n0 ≤ h0.size) (cm : Um Z) (O : Old Z n0 h0) (E0 : Exa Z h0 a1 "java/lang/String") (F0 : Fld Z h0 a1 "java/lang/String" "value" "[B" (.ref b1)) (F1 : Fld Z h0 a1 "java/lang/String" "coder" "B" (.int 1)) (A1 : Ary Z h0 b1 .byte [.int x0, .int x1, .int x2, .int x3]) (ec : (UInt32.toInt32 (UInt16.toUInt32 (UInt32.toUInt16 (Int32.toUInt32 (((x2 &&& 255) <<< (0 &&& 31)) ||| ((x3 &&& 255) <<< (8 &&& 31))))))) = c) (kc : nar .char c = c) :
    Met1 l Z ⟨"java/lang/String", "charAt", "(I)C"⟩ jdk_42_method_56_code 2 (some .char) ⟨4, 0, 0, 53⟩ n0 #[(.ref a1), (.int 1)] h0 (fun v h => v = some (.int c) ∧ h0 = h) := by
  refine met_of (plainFor_of_name pn_5) (L0 := #[.val (.ref a1), .val (.int 1)]) (by first | (simp [argsToLocals, Value.category]; done) | rfl) ?_
  intro B C
  change Ctx B l _ _ "java/lang/String" "charAt" _ _ Z at C
  have cm' := cm
  obtain ⟨⟨cz, Scz, hcz⟩, Sas, Shi, Slo, Sfm⟩ := cm'
  refine aN C ((.ref a1)) d11_0 rfl rfl <| cV C hw 53 54 56 55 4 57 rfl rfl rfl rfl rfl rfl E0 (rm_isLatin1_1 hw a1 h0 Z0 cm O F1) [] [] pd_16 0 d11_1 ⟨rfl, rfl, rfl, rfl, rfl⟩ (by decide) ?_
  intro v_3 h_1 q_2
  obtain ⟨rfl, rfl⟩ := q_2
  show Go _ _ _ _ 0 0 4 _ [(.int 0)]
  refine fY C d11_4 (XT.i0_eq_t (by decide)) 16 (by decide) <| aN C ((.ref a1)) d11_16 rfl rfl <| ygetfield C (host := "") (v := (.ref b1)) (Or.inl (oW hw 29 rfl)) Via.refl F0 d11_17 <| iN C 1 d11_20 rfl <| cS C hw 90 91 18 92 rfl rfl rfl rfl (rm_uchar_2_1 hw b1 x0 x1 x2 x3 c h0 Z0 cm O A1 ec kc) [] [(.ref b1), (.int 1)] pd_20 0 d11_21 ⟨rfl, rfl, rfl, rfl, rfl⟩ (by decide) ?_
  intro v_7 h_5 q_6
  obtain ⟨rfl, rfl⟩ := q_6
  show Go _ _ _ _ 0 0 24 _ [(.int c)]
  refine g_ret C (v := (.int c)) (ty := .char) rfl (own_nch kc) (Or.inl ⟨rfl, Or.inr (Or.inr (Or.inr (Or.inl rfl))), _, rfl⟩) d11_24 (by decide) (by decide) ?_
  exact ⟨rfl, rfl⟩
theorem rm_second_2_0_1 (hw : HW a0 Z) (a1 b1 : Addr) (x0 x1 x2 x3 c : Int32) (h0 : Heap) (Z0 : n0 ≤ h0.size) (cm : Um Z) (O : Old Z n0 h0) (E0 : Exa Z h0 a1 "java/lang/String") (F0 : Fld Z h0 a1 "java/lang/String" "value" "[B" (.ref b1)) (F1 : Fld Z h0 a1 "java/lang/String" "coder" "B" (.int 1)) (A1 : Ary Z h0 b1 .byte [.int x0, .int x1, .int x2, .int x3]) (e0 : (UInt32.toInt32 (UInt16.toUInt32 (UInt32.toUInt16 (Int32.toUInt32 (((x0 &&& 255) <<< (0 &&& 31)) ||| ((x1 &&& 255) <<< (8 &&& 31))))))) = 60) (e1 : (UInt32.toInt32 (UInt16.toUInt32 (UInt32.toUInt16 (Int32.toUInt32 (((x2 &&& 255) <<< (0 &&& 31)) ||| ((x3 &&& 255) <<< (8 &&& 31))))))) = c) (kc : nar .char c = c) :
    Met1 l Z ⟨"com/example/poder/poder/format/Markup", "second", "(Ljava/lang/String;I)C"⟩ prog_12_method_12_code 3 (some .char) ⟨5, 0, 0, 66⟩ n0 #[(.ref a1), (.int 0)] h0 (fun v h => v = some (.int c) ∧ h0 = h) := by
  refine met_of (plainFor_of_name pn_1) (L0 := #[.val (.ref a1), .val (.int 0), .unset]) (by first | (simp [argsToLocals, Value.category]; done) | rfl) ?_
  intro B C
  change Ctx B l _ _ "com/example/poder/poder/format/Markup" "second" _ _ Z at C
  have cm' := cm
  obtain ⟨⟨cz, Scz, hcz⟩, Sas, Shi, Slo, Sfm⟩ := cm'
  refine iN C 0 d8_0 rfl <| yif_n C d8_1 (XT.i0_lt_f (by decide)) <| iN C 0 d8_4 rfl <| iC C 1 d8_5 rfl <| yiadd C d8_6 <| eS [(.int 1)] rfl <| aN C ((.ref a1)) d8_7 rfl rfl <| cV C hw 38 39 41 40 4 42 rfl rfl rfl rfl rfl rfl E0 (rm_lenK_2_1 hw a1 b1 x0 x1 x2 x3 h0 Z0 cm O E0 F0 F1 A1) [(.int 1)] [] pd_22 1 d8_8 ⟨rfl, rfl, rfl, rfl, rfl⟩ (by decide) ?_
  intro v_3 h_1 q_2
  obtain ⟨rfl, rfl⟩ := q_2
  show Go _ _ _ _ 0 0 11 _ [(.int 2), (.int 1)]
  refine yicmp_n C d8_11 (XT.ii_ge_f (by decide)) <| aN C ((.ref a1)) d8_14 rfl rfl <| iN C 0 d8_15 rfl <| cV C hw 48 49 51 50 4 52 rfl rfl rfl rfl rfl rfl E0 (rm_charAt_2_0_1 hw a1 b1 x0 x1 x2 x3 60 h0 Z0 cm O E0 F0 F1 A1 e0 (by decide)) [] [(.int 0)] pd_23 0 d8_16 ⟨rfl, rfl, rfl, rfl, rfl⟩ (by decide) ?_
  intro v_7 h_5 q_6
  obtain ⟨rfl, rfl⟩ := q_6
  show Go _ _ _ _ 0 0 19 _ [(.int 60)]
  refine iB C 60 d8_19 rfl <| yicmp_n C d8_21 (XT.ii_ne_f (by decide)) <| iC C 1 d8_24 rfl <| gT C d8_25 29 (by decide) <| iT C d8_29 (#[aV a1, iV 0, iV 1]) rfl <| iN C 1 d8_30 rfl <| yif_n C d8_31 (XT.i0_eq_f (by decide)) <| aN C ((.ref a1)) d8_34 rfl rfl <| iN C 0 d8_35 rfl <| iC C 1 d8_36 rfl <| yiadd C d8_37 <| eS [(.int 1), (.ref a1)] rfl <| cV C hw 48 49 51 50 4 52 rfl rfl rfl rfl rfl rfl E0 (rm_charAt_2_1_1 hw a1 b1 x0 x1 x2 x3 c h0 Z0 cm O E0 F0 F1 A1 e1 kc) [] [(.int 1)] pd_23 0 d8_38 ⟨rfl, rfl, rfl, rfl, rfl⟩ (by decide) ?_
  intro v_11 h_9 q_10
  obtain ⟨rfl, rfl⟩ := q_10
  show Go _ _ _ _ 0 0 41 _ [(.int c)]
  refine gT C d8_41 45 (by decide) ?_
  refine g_ret C (v := (.int c)) (ty := .char) rfl (own_nch kc) (Or.inl ⟨rfl, Or.inr (Or.inr (Or.inr (Or.inl rfl))), _, rfl⟩) d8_45 (by decide) (by decide) ?_
  exact ⟨rfl, rfl⟩
theorem rm_isStart_2_0_1 (hw : HW a0 Z) (a1 b1 : Addr) (x0 x1 x2 x3 c : Int32) (h0 : Heap) (Z0 : n0 ≤ h0.size) (cm : Um Z) (O : Old Z n0 h0) (E0 : Exa Z h0 a1 "java/lang/String") (F0 : Fld Z h0 a1 "java/lang/String" "value" "[B" (.ref b1)) (F1 : Fld Z h0 a1 "java/lang/String" "coder" "B" (.int 1)) (A1 : Ary Z h0 b1 .byte [.int x0, .int x1, .int x2, .int x3]) (e0 : (UInt32.toInt32 (UInt16.toUInt32 (UInt32.toUInt16 (Int32.toUInt32 (((x0 &&& 255) <<< (0 &&& 31)) ||| ((x1 &&& 255) <<< (8 &&& 31))))))) = 60) (e1 : (UInt32.toInt32 (UInt16.toUInt32 (UInt32.toUInt16 (Int32.toUInt32 (((x2 &&& 255) <<< (0 &&& 31)) ||| ((x3 &&& 255) <<< (8 &&& 31))))))) = c) (kc : nar .char c = c) :
    Met1 l Z ⟨"com/example/poder/poder/format/Markup", "isStartTag", "(Ljava/lang/String;I)Z"⟩ prog_12_method_2_code 3 (some .boolean) ⟨6, 0, 0, 80⟩ n0 #[(.ref a1), (.int 0)] h0 (fun v h => ∃ r : Int32, v = some (.int r) ∧ (c = 47 ∨ c = 33 ∨ c = 63 → r = 0) ∧ (¬ c = 47 → ¬ c = 33 → ¬ c = 63 → r = 1) ∧ h0 = h) := by
  refine met_of (plainFor_of_name pn_1) (L0 := #[.val (.ref a1), .val (.int 0), .unset]) (by first | (simp [argsToLocals, Value.category]; done) | rfl) ?_
  intro B C
  change Ctx B l _ _ "com/example/poder/poder/format/Markup" "isStartTag" _ _ Z at C
  have cm' := cm
  obtain ⟨⟨cz, Scz, hcz⟩, Sas, Shi, Slo, Sfm⟩ := cm'
  refine aN C ((.ref a1)) d7_0 rfl rfl <| iN C 0 d7_1 rfl <| cS C hw 35 36 33 37 rfl rfl rfl rfl (rm_second_2_0_1 hw a1 b1 x0 x1 x2 x3 c h0 Z0 cm O E0 F0 F1 A1 e0 e1 kc) [] [(.ref a1), (.int 0)] pd_19 0 d7_2 ⟨rfl, rfl, rfl, rfl, rfl⟩ (by decide) ?_
  intro v_3 h_1 q_2
  obtain ⟨rfl, rfl⟩ := q_2
  show Go _ _ _ _ 0 0 5 _ [(.int c)]
  refine iT C d7_5 (#[aV a1, iV 0, iV c]) rfl <| iN C c d7_6 rfl <| iB C 47 d7_7 rfl ?_
  by_cases hb_5 : c = 47
  · refine cY C d7_9 (XT.ii_eq_t hb_5) 28 (by decide) <| iC C 0 d7_28 rfl ?_
    refine g_ret C (v := (.int 0)) (ty := .boolean) rfl rfl (Or.inl ⟨rfl, Or.inr (Or.inl rfl), _, rfl⟩) d7_29 (by decide) (by decide) ?_
    exact ⟨_, rfl, fun _ => rfl, fun q1 q2 q3 => absurd hb_5 q1, rfl⟩
  · refine yicmp_n C d7_9 (XT.ii_eq_f hb_5) <| iN C c d7_12 rfl <| iB C 33 d7_13 rfl ?_
    by_cases hb_6 : c = 33
    · refine cY C d7_15 (XT.ii_eq_t hb_6) 28 (by decide) <| iC C 0 d7_28 rfl ?_
      refine g_ret C (v := (.int 0)) (ty := .boolean) rfl rfl (Or.inl ⟨rfl, Or.inr (Or.inl rfl), _, rfl⟩) d7_29 (by decide) (by decide) ?_
      exact ⟨_, rfl, fun _ => rfl, fun q1 q2 q3 => absurd hb_6 q2, rfl⟩
    · refine yicmp_n C d7_15 (XT.ii_eq_f hb_6) <| iN C c d7_18 rfl <| iB C 63 d7_19 rfl ?_
      by_cases hb_7 : c = 63
      · refine cY C d7_21 (XT.ii_eq_t hb_7) 28 (by decide) <| iC C 0 d7_28 rfl ?_
        refine g_ret C (v := (.int 0)) (ty := .boolean) rfl rfl (Or.inl ⟨rfl, Or.inr (Or.inl rfl), _, rfl⟩) d7_29 (by decide) (by decide) ?_
        exact ⟨_, rfl, fun _ => rfl, fun q1 q2 q3 => absurd hb_7 q3, rfl⟩
      · refine yicmp_n C d7_21 (XT.ii_eq_f hb_7) <| iC C 1 d7_24 rfl <| gT C d7_25 29 (by decide) ?_
        refine g_ret C (v := (.int 1)) (ty := .boolean) rfl rfl (Or.inl ⟨rfl, Or.inr (Or.inl rfl), _, rfl⟩) d7_29 (by decide) (by decide) ?_
        exact ⟨_, rfl, fun q => (by rcases q with q | q | q; exact absurd q hb_5; exact absurd q hb_6; exact absurd q hb_7), fun _ _ _ => rfl, rfl⟩
theorem rm_lenK_3_0 (hw : HW a0 Z) (a1 b1 : Addr) (x0 x1 x2 : Int32) (h0 : Heap) (Z0 : n0 ≤ h0.size) (cm : Um Z) (O : Old Z n0 h0) (E0 : Exa Z h0 a1 "java/lang/String") (F0 : Fld Z h0 a1 "java/lang/String" "value" "[B" (.ref b1)) (F1 : Fld Z h0 a1 "java/lang/String" "coder" "B" (.int 0)) (A1 : Ary Z h0 b1 .byte [.int x0, .int x1, .int x2]) :
    Met1 l Z ⟨"java/lang/String", "length", "()I"⟩ jdk_42_method_54_code 1 (some .int) ⟨1, 0, 0, 13⟩ n0 #[(.ref a1)] h0 (fun v h => v = some (.int 3) ∧ h0 = h) := by
  refine met_of (plainFor_of_name pn_5) (L0 := #[.val (.ref a1)]) (by first | (simp [argsToLocals, Value.category]; done) | rfl) ?_
  intro B C
  change Ctx B l _ _ "java/lang/String" "length" _ _ Z at C
  have cm' := cm
  obtain ⟨⟨cz, Scz, hcz⟩, Sas, Shi, Slo, Sfm⟩ := cm'
  refine aN C ((.ref a1)) d9_0 rfl rfl <| ygetfield C (host := "") (v := (.ref b1)) (Or.inl (oW hw 29 rfl)) Via.refl F0 d9_1 <| yarraylength C A1 (z := 3) rfl d9_4 <| aN C ((.ref a1)) d9_5 rfl rfl <| cV C hw 43 44 46 45 4 47 rfl rfl rfl rfl rfl rfl E0 (rm_coder_0 hw a1 h0 Z0 cm O F1) [(.int 3)] [] pd_26 1 d9_6 ⟨rfl, rfl, rfl, rfl, rfl⟩ (by decide) ?_
  intro v_3 h_1 q_2
  obtain ⟨rfl, rfl⟩ := q_2
  show Go _ _ _ _ 0 0 9 _ [(.int 0), (.int 3)]
  refine yishr C d9_9 <| eS [(.int 3)] rfl ?_
  refine g_ret C (v := (.int 3)) (ty := .int) rfl rfl (Or.inl ⟨rfl, Or.inl rfl, _, rfl⟩) d9_10 (by decide) (by decide) ?_
  exact ⟨rfl, rfl⟩
theorem rm_lchar_3_0 (hw : HW a0 Z) (a1 : Addr) (x0 x1 x2 c : Int32) (h0 : Heap) (Z0 : n0 ≤ h0.size) (cm : Um Z) (O : Old Z n0 h0) (A1 : Ary Z h0 a1 .byte [.int x0, .int x1, .int x2]) (ec : (UInt32.toInt32 (UInt16.toUInt32 (UInt32.toUInt16 (Int32.toUInt32 (x0 &&& 255))))) = c) (kc : nar .char c = c) :
    Met1 l Z ⟨"java/lang/StringLatin1", "charAt", "([BI)C"⟩ jdk_43_method_2_code 2 (some .char) ⟨2, 0, 0, 27⟩ n0 #[(.ref a1), (.int 0)] h0 (fun v h => v = some (.int c) ∧ h0 = h) := by
  refine met_of (plainFor_of_name pn_3) (L0 := #[.val (.ref a1), .val (.int 0)]) (by first | (simp [argsToLocals, Value.category]; done) | rfl) ?_
  intro B C
  change Ctx B l _ _ "java/lang/StringLatin1" "charAt" _ _ Z at C
  have cm' := cm
  obtain ⟨⟨cz, Scz, hcz⟩, Sas, Shi, Slo, Sfm⟩ := cm'
  refine iN C 0 d13_0 rfl <| aN C ((.ref a1)) d13_1 rfl rfl <| yarraylength C A1 (z := 3) rfl d13_2 <| cS C hw 62 63 4 64 rfl rfl rfl rfl (rm_sci hw 0 3 h0 Z0 cm O (by decide) (by decide)) [] [(.int 0), (.int 3)] pd_11 0 d13_3 ⟨rfl, rfl, rfl, rfl, rfl⟩ (by decide) ?_
  intro v_3 h_1 q_2
  obtain ⟨rfl, rfl⟩ := q_2
  show Go _ _ _ _ 0 0 6 _ []
  refine aN C ((.ref a1)) d13_6 rfl rfl <| iN C 0 d13_7 rfl <| ybaloadB C A1 (by decide) (i := 0) (by decide) (v := x0) rfl d13_8 <| iP C 255 d13_9 rfl <| yiand C d13_12 <| yi2c C d13_13 ?_
  rw [ec]
  refine g_ret C (v := (.int c)) (ty := .char) rfl (own_nch kc) (Or.inl ⟨rfl, Or.inr (Or.inr (Or.inr (Or.inl rfl))), _, rfl⟩) d13_14 (by decide) (by decide) ?_
  exact ⟨rfl, rfl⟩
theorem rm_charAt_3_0_0 (hw : HW a0 Z) (a1 b1 : Addr) (x0 x1 x2 c : Int32) (h0 : Heap) (Z0 : n0 ≤ h0.size) (cm : Um Z) (O : Old Z n0 h0) (E0 : Exa Z h0 a1 "java/lang/String") (F0 : Fld Z h0 a1 "java/lang/String" "value" "[B" (.ref b1)) (F1 : Fld Z h0 a1 "java/lang/String" "coder" "B" (.int 0)) (A1 : Ary Z h0 b1 .byte [.int x0, .int x1, .int x2]) (ec : (UInt32.toInt32 (UInt16.toUInt32 (UInt32.toUInt16 (Int32.toUInt32 (x0 &&& 255))))) = c) (kc : nar .char c = c) :
    Met1 l Z ⟨"java/lang/String", "charAt", "(I)C"⟩ jdk_42_method_56_code 2 (some .char) ⟨3, 0, 0, 40⟩ n0 #[(.ref a1), (.int 0)] h0 (fun v h => v = some (.int c) ∧ h0 = h) := by
  refine met_of (plainFor_of_name pn_5) (L0 := #[.val (.ref a1), .val (.int 0)]) (by first | (simp [argsToLocals, Value.category]; done) | rfl) ?_
  intro B C
  change Ctx B l _ _ "java/lang/String" "charAt" _ _ Z at C
  have cm' := cm
  obtain ⟨⟨cz, Scz, hcz⟩, Sas, Shi, Slo, Sfm⟩ := cm'
  refine aN C ((.ref a1)) d11_0 rfl rfl <| cV C hw 53 54 56 55 4 57 rfl rfl rfl rfl rfl rfl E0 (rm_isLatin1_0 hw a1 h0 Z0 cm O F1) [] [] pd_16 0 d11_1 ⟨rfl, rfl, rfl, rfl, rfl⟩ (by decide) ?_
  intro v_3 h_1 q_2
  obtain ⟨rfl, rfl⟩ := q_2
  show Go _ _ _ _ 0 0 4 _ [(.int 1)]
  refine yif_n C d11_4 (XT.i0_eq_f (by decide)) <| aN C ((.ref a1)) d11_7 rfl rfl <| ygetfield C (host := "") (v := (.ref b1)) (Or.inl (oW hw 29 rfl)) Via.refl F0 d11_8 <| iN C 0 d11_11 rfl <| cS C hw 58 59 60 61 rfl rfl rfl rfl (rm_lchar_3_0 hw b1 x0 x1 x2 c h0 Z0 cm O A1 ec kc) [] [(.ref b1), (.int 0)] pd_20 0 d11_12 ⟨rfl, rfl, rfl, rfl, rfl⟩ (by decide) ?_
  intro v_7 h_5 q_6
  obtain ⟨rfl, rfl⟩ := q_6
  show Go _ _ _ _ 0 0 15 _ [(.int c)]
  refine g_ret C (v := (.int c)) (ty := .char) rfl (own_nch kc) (Or.inl ⟨rfl, Or.inr (Or.inr (Or.inr (Or.inl rfl))), _, rfl⟩) d11_15 (by decide) (by decide) ?_
  exact ⟨rfl, rfl⟩
theorem rm_lchar_3_1 (hw : HW a0 Z) (a1 : Addr) (x0 x1 x2 c : Int32) (h0 : Heap) (Z0 : n0 ≤ h0.size) (cm : Um Z) (O : Old Z n0 h0) (A1 : Ary Z h0 a1 .byte [.int x0, .int x1, .int x2]) (ec : (UInt32.toInt32 (UInt16.toUInt32 (UInt32.toUInt16 (Int32.toUInt32 (x1 &&& 255))))) = c) (kc : nar .char c = c) :
    Met1 l Z ⟨"java/lang/StringLatin1", "charAt", "([BI)C"⟩ jdk_43_method_2_code 2 (some .char) ⟨2, 0, 0, 27⟩ n0 #[(.ref a1), (.int 1)] h0 (fun v h => v = some (.int c) ∧ h0 = h) := by
  refine met_of (plainFor_of_name pn_3) (L0 := #[.val (.ref a1), .val (.int 1)]) (by first | (simp [argsToLocals, Value.category]; done) | rfl) ?_
  intro B C
  change Ctx B l _ _ "java/lang/StringLatin1" "charAt" _ _ Z at C
  have cm' := cm
  obtain ⟨⟨cz, Scz, hcz⟩, Sas, Shi, Slo, Sfm⟩ := cm'
  refine iN C 1 d13_0 rfl <| aN C ((.ref a1)) d13_1 rfl rfl <| yarraylength C A1 (z := 3) rfl d13_2 <| cS C hw 62 63 4 64 rfl rfl rfl rfl (rm_sci hw 1 3 h0 Z0 cm O (by decide) (by decide)) [] [(.int 1), (.int 3)] pd_11 0 d13_3 ⟨rfl, rfl, rfl, rfl, rfl⟩ (by decide) ?_
  intro v_3 h_1 q_2
  obtain ⟨rfl, rfl⟩ := q_2
  show Go _ _ _ _ 0 0 6 _ []
  refine aN C ((.ref a1)) d13_6 rfl rfl <| iN C 1 d13_7 rfl <| ybaloadB C A1 (by decide) (i := 1) (by decide) (v := x1) rfl d13_8 <| iP C 255 d13_9 rfl <| yiand C d13_12 <| yi2c C d13_13 ?_
  rw [ec]
  refine g_ret C (v := (.int c)) (ty := .char) rfl (own_nch kc) (Or.inl ⟨rfl, Or.inr (Or.inr (Or.inr (Or.inl rfl))), _, rfl⟩) d13_14 (by decide) (by decide) ?_
  exact ⟨rfl, rfl⟩
theorem rm_charAt_3_1_0 (hw : HW a0 Z) (a1 b1 : Addr) (x0 x1 x2 c : Int32) (h0 : Heap) (Z0 : n0 ≤ h0.size) (cm : Um Z) (O : Old Z n0 h0) (E0 : Exa Z h0 a1 "java/lang/String") (F0 : Fld Z h0 a1 "java/lang/String" "value" "[B" (.ref b1)) (F1 : Fld Z h0 a1 "java/lang/String" "coder" "B" (.int 0)) (A1 : Ary Z h0 b1 .byte [.int x0, .int x1, .int x2]) (ec : (UInt32.toInt32 (UInt16.toUInt32 (UInt32.toUInt16 (Int32.toUInt32 (x1 &&& 255))))) = c) (kc : nar .char c = c) :
    Met1 l Z ⟨"java/lang/String", "charAt", "(I)C"⟩ jdk_42_method_56_code 2 (some .char) ⟨3, 0, 0, 40⟩ n0 #[(.ref a1), (.int 1)] h0 (fun v h => v = some (.int c) ∧ h0 = h) := by
  refine met_of (plainFor_of_name pn_5) (L0 := #[.val (.ref a1), .val (.int 1)]) (by first | (simp [argsToLocals, Value.category]; done) | rfl) ?_
  intro B C
  change Ctx B l _ _ "java/lang/String" "charAt" _ _ Z at C
  have cm' := cm
  obtain ⟨⟨cz, Scz, hcz⟩, Sas, Shi, Slo, Sfm⟩ := cm'
  refine aN C ((.ref a1)) d11_0 rfl rfl <| cV C hw 53 54 56 55 4 57 rfl rfl rfl rfl rfl rfl E0 (rm_isLatin1_0 hw a1 h0 Z0 cm O F1) [] [] pd_16 0 d11_1 ⟨rfl, rfl, rfl, rfl, rfl⟩ (by decide) ?_
  intro v_3 h_1 q_2
  obtain ⟨rfl, rfl⟩ := q_2
  show Go _ _ _ _ 0 0 4 _ [(.int 1)]
  refine yif_n C d11_4 (XT.i0_eq_f (by decide)) <| aN C ((.ref a1)) d11_7 rfl rfl <| ygetfield C (host := "") (v := (.ref b1)) (Or.inl (oW hw 29 rfl)) Via.refl F0 d11_8 <| iN C 1 d11_11 rfl <| cS C hw 58 59 60 61 rfl rfl rfl rfl (rm_lchar_3_1 hw b1 x0 x1 x2 c h0 Z0 cm O A1 ec kc) [] [(.ref b1), (.int 1)] pd_20 0 d11_12 ⟨rfl, rfl, rfl, rfl, rfl⟩ (by decide) ?_
  intro v_7 h_5 q_6
  obtain ⟨rfl, rfl⟩ := q_6
  show Go _ _ _ _ 0 0 15 _ [(.int c)]
  refine g_ret C (v := (.int c)) (ty := .char) rfl (own_nch kc) (Or.inl ⟨rfl, Or.inr (Or.inr (Or.inr (Or.inl rfl))), _, rfl⟩) d11_15 (by decide) (by decide) ?_
  exact ⟨rfl, rfl⟩
theorem rm_second_3_0_0 (hw : HW a0 Z) (a1 b1 : Addr) (x0 x1 x2 c : Int32) (h0 : Heap) (Z0 : n0 ≤ h0.size) (cm : Um Z) (O : Old Z n0 h0) (E0 : Exa Z h0 a1 "java/lang/String") (F0 : Fld Z h0 a1 "java/lang/String" "value" "[B" (.ref b1)) (F1 : Fld Z h0 a1 "java/lang/String" "coder" "B" (.int 0)) (A1 : Ary Z h0 b1 .byte [.int x0, .int x1, .int x2]) (e0 : (UInt32.toInt32 (UInt16.toUInt32 (UInt32.toUInt16 (Int32.toUInt32 (x0 &&& 255))))) = 60) (e1 : (UInt32.toInt32 (UInt16.toUInt32 (UInt32.toUInt16 (Int32.toUInt32 (x1 &&& 255))))) = c) (kc : nar .char c = c) :
    Met1 l Z ⟨"com/example/poder/poder/format/Markup", "second", "(Ljava/lang/String;I)C"⟩ prog_12_method_12_code 3 (some .char) ⟨4, 0, 0, 53⟩ n0 #[(.ref a1), (.int 0)] h0 (fun v h => v = some (.int c) ∧ h0 = h) := by
  refine met_of (plainFor_of_name pn_1) (L0 := #[.val (.ref a1), .val (.int 0), .unset]) (by first | (simp [argsToLocals, Value.category]; done) | rfl) ?_
  intro B C
  change Ctx B l _ _ "com/example/poder/poder/format/Markup" "second" _ _ Z at C
  have cm' := cm
  obtain ⟨⟨cz, Scz, hcz⟩, Sas, Shi, Slo, Sfm⟩ := cm'
  refine iN C 0 d8_0 rfl <| yif_n C d8_1 (XT.i0_lt_f (by decide)) <| iN C 0 d8_4 rfl <| iC C 1 d8_5 rfl <| yiadd C d8_6 <| eS [(.int 1)] rfl <| aN C ((.ref a1)) d8_7 rfl rfl <| cV C hw 38 39 41 40 4 42 rfl rfl rfl rfl rfl rfl E0 (rm_lenK_3_0 hw a1 b1 x0 x1 x2 h0 Z0 cm O E0 F0 F1 A1) [(.int 1)] [] pd_22 1 d8_8 ⟨rfl, rfl, rfl, rfl, rfl⟩ (by decide) ?_
  intro v_3 h_1 q_2
  obtain ⟨rfl, rfl⟩ := q_2
  show Go _ _ _ _ 0 0 11 _ [(.int 3), (.int 1)]
  refine yicmp_n C d8_11 (XT.ii_ge_f (by decide)) <| aN C ((.ref a1)) d8_14 rfl rfl <| iN C 0 d8_15 rfl <| cV C hw 48 49 51 50 4 52 rfl rfl rfl rfl rfl rfl E0 (rm_charAt_3_0_0 hw a1 b1 x0 x1 x2 60 h0 Z0 cm O E0 F0 F1 A1 e0 (by decide)) [] [(.int 0)] pd_23 0 d8_16 ⟨rfl, rfl, rfl, rfl, rfl⟩ (by decide) ?_
  intro v_7 h_5 q_6
  obtain ⟨rfl, rfl⟩ := q_6
  show Go _ _ _ _ 0 0 19 _ [(.int 60)]
  refine iB C 60 d8_19 rfl <| yicmp_n C d8_21 (XT.ii_ne_f (by decide)) <| iC C 1 d8_24 rfl <| gT C d8_25 29 (by decide) <| iT C d8_29 (#[aV a1, iV 0, iV 1]) rfl <| iN C 1 d8_30 rfl <| yif_n C d8_31 (XT.i0_eq_f (by decide)) <| aN C ((.ref a1)) d8_34 rfl rfl <| iN C 0 d8_35 rfl <| iC C 1 d8_36 rfl <| yiadd C d8_37 <| eS [(.int 1), (.ref a1)] rfl <| cV C hw 48 49 51 50 4 52 rfl rfl rfl rfl rfl rfl E0 (rm_charAt_3_1_0 hw a1 b1 x0 x1 x2 c h0 Z0 cm O E0 F0 F1 A1 e1 kc) [] [(.int 1)] pd_23 0 d8_38 ⟨rfl, rfl, rfl, rfl, rfl⟩ (by decide) ?_
  intro v_11 h_9 q_10
  obtain ⟨rfl, rfl⟩ := q_10
  show Go _ _ _ _ 0 0 41 _ [(.int c)]
  refine gT C d8_41 45 (by decide) ?_
  refine g_ret C (v := (.int c)) (ty := .char) rfl (own_nch kc) (Or.inl ⟨rfl, Or.inr (Or.inr (Or.inr (Or.inl rfl))), _, rfl⟩) d8_45 (by decide) (by decide) ?_
  exact ⟨rfl, rfl⟩
theorem rm_isStart_3_0_0 (hw : HW a0 Z) (a1 b1 : Addr) (x0 x1 x2 c : Int32) (h0 : Heap) (Z0 : n0 ≤ h0.size) (cm : Um Z) (O : Old Z n0 h0) (E0 : Exa Z h0 a1 "java/lang/String") (F0 : Fld Z h0 a1 "java/lang/String" "value" "[B" (.ref b1)) (F1 : Fld Z h0 a1 "java/lang/String" "coder" "B" (.int 0)) (A1 : Ary Z h0 b1 .byte [.int x0, .int x1, .int x2]) (e0 : (UInt32.toInt32 (UInt16.toUInt32 (UInt32.toUInt16 (Int32.toUInt32 (x0 &&& 255))))) = 60) (e1 : (UInt32.toInt32 (UInt16.toUInt32 (UInt32.toUInt16 (Int32.toUInt32 (x1 &&& 255))))) = c) (kc : nar .char c = c) :
    Met1 l Z ⟨"com/example/poder/poder/format/Markup", "isStartTag", "(Ljava/lang/String;I)Z"⟩ prog_12_method_2_code 3 (some .boolean) ⟨5, 0, 0, 67⟩ n0 #[(.ref a1), (.int 0)] h0 (fun v h => ∃ r : Int32, v = some (.int r) ∧ (c = 47 ∨ c = 33 ∨ c = 63 → r = 0) ∧ (¬ c = 47 → ¬ c = 33 → ¬ c = 63 → r = 1) ∧ h0 = h) := by
  refine met_of (plainFor_of_name pn_1) (L0 := #[.val (.ref a1), .val (.int 0), .unset]) (by first | (simp [argsToLocals, Value.category]; done) | rfl) ?_
  intro B C
  change Ctx B l _ _ "com/example/poder/poder/format/Markup" "isStartTag" _ _ Z at C
  have cm' := cm
  obtain ⟨⟨cz, Scz, hcz⟩, Sas, Shi, Slo, Sfm⟩ := cm'
  refine aN C ((.ref a1)) d7_0 rfl rfl <| iN C 0 d7_1 rfl <| cS C hw 35 36 33 37 rfl rfl rfl rfl (rm_second_3_0_0 hw a1 b1 x0 x1 x2 c h0 Z0 cm O E0 F0 F1 A1 e0 e1 kc) [] [(.ref a1), (.int 0)] pd_19 0 d7_2 ⟨rfl, rfl, rfl, rfl, rfl⟩ (by decide) ?_
  intro v_3 h_1 q_2
  obtain ⟨rfl, rfl⟩ := q_2
  show Go _ _ _ _ 0 0 5 _ [(.int c)]
  refine iT C d7_5 (#[aV a1, iV 0, iV c]) rfl <| iN C c d7_6 rfl <| iB C 47 d7_7 rfl ?_
  by_cases hb_5 : c = 47
  · refine cY C d7_9 (XT.ii_eq_t hb_5) 28 (by decide) <| iC C 0 d7_28 rfl ?_
    refine g_ret C (v := (.int 0)) (ty := .boolean) rfl rfl (Or.inl ⟨rfl, Or.inr (Or.inl rfl), _, rfl⟩) d7_29 (by decide) (by decide) ?_
    exact ⟨_, rfl, fun _ => rfl, fun q1 q2 q3 => absurd hb_5 q1, rfl⟩
  · refine yicmp_n C d7_9 (XT.ii_eq_f hb_5) <| iN C c d7_12 rfl <| iB C 33 d7_13 rfl ?_
    by_cases hb_6 : c = 33
    · refine cY C d7_15 (XT.ii_eq_t hb_6) 28 (by decide) <| iC C 0 d7_28 rfl ?_
      refine g_ret C (v := (.int 0)) (ty := .boolean) rfl rfl (Or.inl ⟨rfl, Or.inr (Or.inl rfl), _, rfl⟩) d7_29 (by decide) (by decide) ?_
      exact ⟨_, rfl, fun _ => rfl, fun q1 q2 q3 => absurd hb_6 q2, rfl⟩
    · refine yicmp_n C d7_15 (XT.ii_eq_f hb_6) <| iN C c d7_18 rfl <| iB C 63 d7_19 rfl ?_
      by_cases hb_7 : c = 63
      · refine cY C d7_21 (XT.ii_eq_t hb_7) 28 (by decide) <| iC C 0 d7_28 rfl ?_
        refine g_ret C (v := (.int 0)) (ty := .boolean) rfl rfl (Or.inl ⟨rfl, Or.inr (Or.inl rfl), _, rfl⟩) d7_29 (by decide) (by decide) ?_
        exact ⟨_, rfl, fun _ => rfl, fun q1 q2 q3 => absurd hb_7 q3, rfl⟩
      · refine yicmp_n C d7_21 (XT.ii_eq_f hb_7) <| iC C 1 d7_24 rfl <| gT C d7_25 29 (by decide) ?_
        refine g_ret C (v := (.int 1)) (ty := .boolean) rfl rfl (Or.inl ⟨rfl, Or.inr (Or.inl rfl), _, rfl⟩) d7_29 (by decide) (by decide) ?_
        exact ⟨_, rfl, fun q => (by rcases q with q | q | q; exact absurd q hb_5; exact absurd q hb_6; exact absurd q hb_7), fun _ _ _ => rfl, rfl⟩
theorem rm_lenK_3_1 (hw : HW a0 Z) (a1 b1 : Addr) (x0 x1 x2 x3 x4 x5 : Int32) (h0 : Heap) (Z0 : n0 ≤ h0.size) (cm : Um Z) (O : Old Z n0 h0) (E0 : Exa Z h0 a1 "java/lang/String") (F0 : Fld Z h0 a1 "java/lang/String" "value" "[B" (.ref b1)) (F1 : Fld Z h0 a1 "java/lang/String" "coder" "B" (.int 1)) (A1 : Ary Z h0 b1 .byte [.int x0, .int x1, .int x2, .int x3, .int x4, .int x5]) :
    Met1 l Z ⟨"java/lang/String", "length", "()I"⟩ jdk_42_method_54_code 1 (some .int) ⟨1, 0, 0, 13⟩ n0 #[(.ref a1)] h0 (fun v h => v = some (.int 3) ∧ h0 = h) := by
  refine met_of (plainFor_of_name pn_5) (L0 := #[.val (.ref a1)]) (by first | (simp [argsToLocals, Value.category]; done) | rfl) ?_
  intro B C
  change Ctx B l _ _ "java/lang/String" "length" _ _ Z at C
  have cm' := cm
  obtain ⟨⟨cz, Scz, hcz⟩, Sas, Shi, Slo, Sfm⟩ := cm'
  refine aN C ((.ref a1)) d9_0 rfl rfl <| ygetfield C (host := "") (v := (.ref b1)) (Or.inl (oW hw 29 rfl)) Via.refl F0 d9_1 <| yarraylength C A1 (z := 6) rfl d9_4 <| aN C ((.ref a1)) d9_5 rfl rfl <| cV C hw 43 44 46 45 4 47 rfl rfl rfl rfl rfl rfl E0 (rm_coder_1 hw a1 h0 Z0 cm O F1) [(.int 6)] [] pd_26 1 d9_6 ⟨rfl, rfl, rfl, rfl, rfl⟩ (by decide) ?_
  intro v_3 h_1 q_2
  obtain ⟨rfl, rfl⟩ := q_2
  show Go _ _ _ _ 0 0 9 _ [(.int 1), (.int 6)]
  refine yishr C d9_9 <| eS [(.int 3)] rfl ?_
  refine g_ret C (v := (.int 3)) (ty := .int) rfl rfl (Or.inl ⟨rfl, Or.inl rfl, _, rfl⟩) d9_10 (by decide) (by decide) ?_
  exact ⟨rfl, rfl⟩
theorem rm_ulen_3 (hw : HW a0 Z) (a1 : Addr) (x0 x1 x2 x3 x4 x5 : Int32) (h0 : Heap) (Z0 : n0 ≤ h0.size) (A1 : Ary Z h0 a1 .byte [.int x0, .int x1, .int x2, .int x3, .int x4, .int x5]) :
    Met1 l Z ⟨"java/lang/StringUTF16", "length", "([B)I"⟩ jdk_52_method_6_code 1 (some .int) ⟨0, 0, 0, 0⟩ n0 #[(.ref a1)] h0 (fun v h => v = some (.int 3) ∧ h0 = h) := by
  refine met_of (plainFor_of_name pn_4) (L0 := #[.val (.ref a1)]) (by first | (simp [argsToLocals, Value.category]; done) | rfl) ?_
  intro B C
  change Ctx B l _ _ "java/lang/StringUTF16" "length" _ _ Z at C
  refine aN C ((.ref a1)) d23_0 rfl rfl <| yarraylength C A1 (z := 6) rfl d23_1 <| iC C 1 d23_2 rfl <| yishr C d23_3 <| eS [(.int 3)] rfl ?_
  refine g_ret C (v := (.int 3)) (ty := .int) rfl rfl (Or.inl ⟨rfl, Or.inl rfl, _, rfl⟩) d23_4 (by decide) (by decide) ?_
  exact ⟨rfl, rfl⟩
theorem rm_uci_3 (hw : HW a0 Z) (ix : Int32) (a1 : Addr) (x0 x1 x2 x3 x4 x5 : Int32) (h0 : Heap) (Z0 : n0 ≤ h0.size) (cm : Um Z) (O : Old Z n0 h0) (A1 : Ary Z h0 a1 .byte [.int x0, .int x1, .int x2, .int x3, .int x4, .int x5]) (hix : ¬ ix < 0) (hnx : ix < 3) :
    Met1 l Z ⟨"java/lang/StringUTF16", "checkIndex", "(I[B)V"⟩ jdk_52_method_91_code 2 none ⟨2, 0, 0, 27⟩ n0 #[(.int ix), (.ref a1)] h0 (fun v h => v = none ∧ h0 = h) := by
  refine met_of (plainFor_of_name pn_4) (L0 := #[.val (.int ix), .val (.ref a1)]) (by first | (simp [argsToLocals, Value.category]; done) | rfl) ?_
  intro B C
  change Ctx B l _ _ "java/lang/StringUTF16" "checkIndex" _ _ Z at C
  have cm' := cm
  obtain ⟨⟨cz, Scz, hcz⟩, Sas, Shi, Slo, Sfm⟩ := cm'
  refine iN C ix d22_0 rfl <| aN C ((.ref a1)) d22_1 rfl rfl <| cS C hw 96 97 18 98 rfl rfl rfl rfl (rm_ulen_3 hw a1 x0 x1 x2 x3 x4 x5 h0 Z0 A1) [(.int ix)] [(.ref a1)] pd_21 1 d22_2 ⟨rfl, rfl, rfl, rfl, rfl⟩ (by decide) ?_
  intro v_3 h_1 q_2
  obtain ⟨rfl, rfl⟩ := q_2
  show Go _ _ _ _ 0 0 5 _ [(.int 3), (.int ix)]
  refine cS C hw 99 63 4 64 rfl rfl rfl rfl (rm_sci hw ix 3 h0 Z0 cm O hix hnx) [] [(.int ix), (.int 3)] pd_11 0 d22_5 ⟨rfl, rfl, rfl, rfl, rfl⟩ (by decide) ?_
  intro v_7 h_5 q_6
  obtain ⟨rfl, rfl⟩ := q_6
  show Go _ _ _ _ 0 0 8 _ []
  refine g_return C rfl d22_8 (by decide) (by decide) ?_
  exact ⟨rfl, rfl⟩
theorem rm_getC_3_0 (hw : HW a0 Z) (a1 : Addr) (x0 x1 x2 x3 x4 x5 c : Int32) (h0 : Heap) (Z0 : n0 ≤ h0.size) (cm : Um Z) (O : Old Z n0 h0) (A1 : Ary Z h0 a1 .byte [.int x0, .int x1, .int x2, .int x3, .int x4, .int x5]) (ec : (UInt32.toInt32 (UInt16.toUInt32 (UInt32.toUInt16 (Int32.toUInt32 (((x0 &&& 255) <<< (0 &&& 31)) ||| ((x1 &&& 255) <<< (8 &&& 31))))))) = c) (kc : nar .char c = c) :
    Met1 l Z ⟨"java/lang/StringUTF16", "getChar", "([BI)C"⟩ jdk_52_method_5_code 2 (some .char) ⟨0, 0, 0, 0⟩ n0 #[(.ref a1), (.int 0)] h0 (fun v h => v = some (.int c) ∧ h0 = h) := by
  refine met_of (plainFor_of_name pn_4) (L0 := #[.val (.ref a1), .val (.int 0)]) (by first | (simp [argsToLocals, Value.category]; done) | rfl) ?_
  intro B C
  change Ctx B l _ _ "java/lang/StringUTF16" "getChar" _ _ Z at C
  have cm' := cm
  obtain ⟨⟨cz, Scz, hcz⟩, Sas, Shi, Slo, Sfm⟩ := cm'
  refine ygetstatic C (host := "") (v := (.int 1)) (Or.inl (oW hw 84 rfl)) Via.refl (Sas.ext O.2) d20_0 <| fY C d20_3 (XT.i0_ne_t (by decide)) 28 (by decide) <| iN C 0 d20_28 rfl <| iC C 1 d20_29 rfl <| yishl C d20_30 <| eS [(.int 0)] rfl <| iT C d20_31 (#[aV a1, iV 0]) rfl <| aN C ((.ref a1)) d20_32 rfl rfl <| iN C 0 d20_33 rfl <| nC C 0 1 d20_34 rfl rfl (#[aV a1, iV 1]) rfl <| ybaloadB C A1 (by decide) (i := 0) (by decide) (v := x0) rfl d20_37 <| iP C 255 d20_38 rfl <| yiand C d20_41 <| ygetstatic C (host := "") (v := (.int 0)) (Or.inl (oW hw 85 rfl)) Via.refl (Shi.ext O.2) d20_42 <| yishl C d20_45 <| aN C ((.ref a1)) d20_46 rfl rfl <| iN C 1 d20_47 rfl <| ybaloadB C A1 (by decide) (i := 1) (by decide) (v := x1) rfl d20_48 <| iP C 255 d20_49 rfl <| yiand C d20_52 <| ygetstatic C (host := "") (v := (.int 8)) (Or.inl (oW hw 86 rfl)) Via.refl (Slo.ext O.2) d20_53 <| yishl C d20_56 <| yior C d20_57 <| yi2c C d20_58 ?_
  rw [ec]
  refine g_ret C (v := (.int c)) (ty := .char) rfl (own_nch kc) (Or.inl ⟨rfl, Or.inr (Or.inr (Or.inr (Or.inl rfl))), _, rfl⟩) d20_59 (by decide) (by decide) ?_
  exact ⟨rfl, rfl⟩
theorem rm_uchar_3_0 (hw : HW a0 Z) (a1 : Addr) (x0 x1 x2 x3 x4 x5 c : Int32) (h0 : Heap) (Z0 : n0 ≤ h0.size) (cm : Um Z) (O : Old Z n0 h0) (A1 : Ary Z h0 a1 .byte [.int x0, .int x1, .int x2, .int x3, .int x4, .int x5]) (ec : (UInt32.toInt32 (UInt16.toUInt32 (UInt32.toUInt16 (Int32.toUInt32 (((x0 &&& 255) <<< (0 &&& 31)) ||| ((x1 &&& 255) <<< (8 &&& 31))))))) = c) (kc : nar .char c = c) :
    Met1 l Z ⟨"java/lang/StringUTF16", "charAt", "([BI)C"⟩ jdk_52_method_83_code 2 (some .char) ⟨3, 0, 0, 40⟩ n0 #[(.ref a1), (.int 0)] h0 (fun v h => v = some (.int c) ∧ h0 = h) := by
  refine met_of (plainFor_of_name pn_4) (L0 := #[.val (.ref a1), .val (.int 0)]) (by first | (simp [argsToLocals, Value.category]; done) | rfl) ?_
  intro B C
  change Ctx B l _ _ "java/lang/StringUTF16" "charAt" _ _ Z at C
  have cm' := cm
  obtain ⟨⟨cz, Scz, hcz⟩, Sas, Shi, Slo, Sfm⟩ := cm'
  refine iN C 0 d21_0 rfl <| aN C ((.ref a1)) d21_1 rfl rfl <| cS C hw 93 94 18 95 rfl rfl rfl rfl (rm_uci_3 hw 0 a1 x0 x1 x2 x3 x4 x5 h0 Z0 cm O A1 (by decide) (by decide)) [] [(.int 0), (.ref a1)] pd_9 0 d21_2 ⟨rfl, rfl, rfl, rfl, rfl⟩ (by decide) ?_
  intro v_3 h_1 q_2
  obtain ⟨rfl, rfl⟩ := q_2
  show Go _ _ _ _ 0 0 5 _ []
  refine aN C ((.ref a1)) d21_5 rfl rfl <| iN C 0 d21_6 rfl <| cS C hw 87 88 18 89 rfl rfl rfl rfl (rm_getC_3_0 hw a1 x0 x1 x2 x3 x4 x5 c h0 Z0 cm O A1 ec kc) [] [(.ref a1), (.int 0)] pd_15 0 d21_7 ⟨rfl, rfl, rfl, rfl, rfl⟩ (by decide) ?_
  intro v_7 h_5 q_6
  obtain ⟨rfl, rfl⟩ := q_6
  show Go _ _ _ _ 0 0 10 _ [(.int c)]
  refine g_ret C (v := (.int c)) (ty := .char) rfl (own_nch kc) (Or.inl ⟨rfl, Or.inr (Or.inr (Or.inr (Or.inl rfl))), _, rfl⟩) d21_10 (by decide) (by decide) ?_
  exact ⟨rfl, rfl⟩
theorem rm_charAt_3_0_1 (hw : HW a0 Z) (a1 b1 : Addr) (x0 x1 x2 x3 x4 x5 c : Int32) (h0 : Heap) (Z0 : n0 ≤ h0.size) (cm : Um Z) (O : Old Z n0 h0) (E0 : Exa Z h0 a1 "java/lang/String") (F0 : Fld Z h0 a1 "java/lang/String" "value" "[B" (.ref b1)) (F1 : Fld Z h0 a1 "java/lang/String" "coder" "B" (.int 1)) (A1 : Ary Z h0 b1 .byte [.int x0, .int x1, .int x2, .int x3, .int x4, .int x5]) (ec : (UInt32.toInt32 (UInt16.toUInt32 (UInt32.toUInt16 (Int32.toUInt32 (((x0 &&& 255) <<< (0 &&& 31)) ||| ((x1 &&& 255) <<< (8 &&& 31))))))) = c) (kc : nar .char c = c) :
    Met1 l Z ⟨"java/lang/String", "charAt", "(I)C"⟩ jdk_42_method_56_code 2 (some .char) ⟨4, 0, 0, 53⟩ n0 #[(.ref a1), (.int 0)] h0 (fun v h => v = some (.int c) ∧ h0 = h) := by
  refine met_of (plainFor_of_name pn_5) (L0 := #[.val (.ref a1), .val (.int 0)]) (by first | (simp [argsToLocals, Value.category]; done) | rfl) ?_
  intro B C
  change Ctx B l _ _ "java/lang/String" "charAt" _ _ Z at C
  have cm' := cm
  obtain ⟨⟨cz, Scz, hcz⟩, Sas, Shi, Slo, Sfm⟩ := cm'
  refine aN C ((.ref a1)) d11_0 rfl rfl <| cV C hw 53 54 56 55 4 57 rfl rfl rfl rfl rfl rfl E0 (rm_isLatin1_1 hw a1 h0 Z0 cm O F1) [] [] pd_16 0 d11_1 ⟨rfl, rfl, rfl, rfl, rfl⟩ (by decide) ?_
  intro v_3 h_1 q_2
  obtain ⟨rfl, rfl⟩ := q_2
  show Go _ _ _ _ 0 0 4 _ [(.int 0)]
  refine fY C d11_4 (XT.i0_eq_t (by decide)) 16 (by decide) <| aN C ((.ref a1)) d11_16 rfl rfl <| ygetfield C (host := "") (v := (.ref b1)) (Or.inl (oW hw 29 rfl)) Via.refl F0 d11_17 <| iN C 0 d11_20 rfl <| cS C hw 90 91 18 92 rfl rfl rfl rfl (rm_uchar_3_0 hw b1 x0 x1 x2 x3 x4 x5 c h0 Z0 cm O A1 ec kc) [] [(.ref b1), (.int 0)] pd_20 0 d11_21 ⟨rfl, rfl, rfl, rfl, rfl⟩ (by decide) ?_
  intro v_7 h_5 q_6
  obtain ⟨rfl, rfl⟩ := q_6
  show Go _ _ _ _ 0 0 24 _ [(.int c)]
  refine g_ret C (v := (.int c)) (ty := .char) rfl (own_nch kc) (Or.inl ⟨rfl, Or.inr (Or.inr (Or.inr (Or.inl rfl))), _, rfl⟩) d11_24 (by decide) (by decide) ?_
  exact ⟨rfl, rfl⟩
theorem rm_uchar_3_1 (hw : HW a0 Z) (a1 : Addr) (x0 x1 x2 x3 x4 x5 c : Int32) (h0 : Heap) (Z0 : n0 ≤ h0.size) (cm : Um Z) (O : Old Z n0 h0) (A1 : Ary Z h0 a1 .byte [.int x0, .int x1, .int x2, .int x3, .int x4, .int x5]) (ec : (UInt32.toInt32 (UInt16.toUInt32 (UInt32.toUInt16 (Int32.toUInt32 (((x2 &&& 255) <<< (0 &&& 31)) ||| ((x3 &&& 255) <<< (8 &&& 31))))))) = c) (kc : nar .char c = c) :
    Met1 l Z ⟨"java/lang/StringUTF16", "charAt", "([BI)C"⟩ jdk_52_method_83_code 2 (some .char) ⟨3, 0, 0, 40⟩ n0 #[(.ref a1), (.int 1)] h0 (fun v h => v = some (.int c) ∧ h0 = h) := by
  refine met_of (plainFor_of_name pn_4) (L0 := #[.val (.ref a1), .val (.int 1)]) (by first | (simp [argsToLocals, Value.category]; done) | rfl) ?_
  intro B C
  change Ctx B l _ _ "java/lang/StringUTF16" "charAt" _ _ Z at C
  have cm' := cm
  obtain ⟨⟨cz, Scz, hcz⟩, Sas, Shi, Slo, Sfm⟩ := cm'
  refine iN C 1 d21_0 rfl <| aN C ((.ref a1)) d21_1 rfl rfl <| cS C hw 93 94 18 95 rfl rfl rfl rfl (rm_uci_3 hw 1 a1 x0 x1 x2 x3 x4 x5 h0 Z0 cm O A1 (by decide) (by decide)) [] [(.int 1), (.ref a1)] pd_9 0 d21_2 ⟨rfl, rfl, rfl, rfl, rfl⟩ (by decide) ?_
  intro v_3 h_1 q_2
  obtain ⟨rfl, rfl⟩ := q_2
  show Go _ _ _ _ 0 0 5 _ []
  refine aN C ((.ref a1)) d21_5 rfl rfl <| iN C 1 d21_6 rfl <| cS C hw 87 88 18 89 rfl rfl rfl rfl (rm_getC_3_1 hw a1 x0 x1 x2 x3 x4 x5 c h0 Z0 cm O A1 ec kc) [] [(.ref a1), (.int 1)] pd_15 0 d21_7 ⟨rfl, rfl, rfl, rfl, rfl⟩ (by decide) ?_
  intro v_7 h_5 q_6
  obtain ⟨rfl, rfl⟩ := q_6
  show Go _ _ _ _ 0 0 10 _ [(.int c)]
  refine g_ret C (v := (.int c)) (ty := .char) rfl (own_nch kc) (Or.inl ⟨rfl, Or.inr (Or.inr (Or.inr (Or.inl rfl))), _, rfl⟩) d21_10 (by decide) (by decide) ?_
  exact ⟨rfl, rfl⟩
theorem rm_charAt_3_1_1 (hw : HW a0 Z) (a1 b1 : Addr) (x0 x1 x2 x3 x4 x5 c : Int32) (h0 : Heap) (Z0 : n0 ≤ h0.size) (cm : Um Z) (O : Old Z n0 h0) (E0 : Exa Z h0 a1 "java/lang/String") (F0 : Fld Z h0 a1 "java/lang/String" "value" "[B" (.ref b1)) (F1 : Fld Z h0 a1 "java/lang/String" "coder" "B" (.int 1)) (A1 : Ary Z h0 b1 .byte [.int x0, .int x1, .int x2, .int x3, .int x4, .int x5]) (ec : (UInt32.toInt32 (UInt16.toUInt32 (UInt32.toUInt16 (Int32.toUInt32 (((x2 &&& 255) <<< (0 &&& 31)) ||| ((x3 &&& 255) <<< (8 &&& 31))))))) = c) (kc : nar .char c = c) :
    Met1 l Z ⟨"java/lang/String", "charAt", "(I)C"⟩ jdk_42_method_56_code 2 (some .char) ⟨4, 0, 0, 53⟩ n0 #[(.ref a1), (.int 1)] h0 (fun v h => v = some (.int c) ∧ h0 = h) := by
  refine met_of (plainFor_of_name pn_5) (L0 := #[.val (.ref a1), .val (.int 1)]) (by first | (simp [argsToLocals, Value.category]; done) | rfl) ?_
  intro B C
  change Ctx B l _ _ "java/lang/String" "charAt" _ _ Z at C
  have cm' := cm
  obtain ⟨⟨cz, Scz, hcz⟩, Sas, Shi, Slo, Sfm⟩ := cm'
  refine aN C ((.ref a1)) d11_0 rfl rfl <| cV C hw 53 54 56 55 4 57 rfl rfl rfl rfl rfl rfl E0 (rm_isLatin1_1 hw a1 h0 Z0 cm O F1) [] [] pd_16 0 d11_1 ⟨rfl, rfl, rfl, rfl, rfl⟩ (by decide) ?_
  intro v_3 h_1 q_2
  obtain ⟨rfl, rfl⟩ := q_2
  show Go _ _ _ _ 0 0 4 _ [(.int 0)]
  refine fY C d11_4 (XT.i0_eq_t (by decide)) 16 (by decide) <| aN C ((.ref a1)) d11_16 rfl rfl <| ygetfield C (host := "") (v := (.ref b1)) (Or.inl (oW hw 29 rfl)) Via.refl F0 d11_17 <| iN C 1 d11_20 rfl <| cS C hw 90 91 18 92 rfl rfl rfl rfl (rm_uchar_3_1 hw b1 x0 x1 x2 x3 x4 x5 c h0 Z0 cm O A1 ec kc) [] [(.ref b1), (.int 1)] pd_20 0 d11_21 ⟨rfl, rfl, rfl, rfl, rfl⟩ (by decide) ?_
  intro v_7 h_5 q_6
  obtain ⟨rfl, rfl⟩ := q_6
  show Go _ _ _ _ 0 0 24 _ [(.int c)]
  refine g_ret C (v := (.int c)) (ty := .char) rfl (own_nch kc) (Or.inl ⟨rfl, Or.inr (Or.inr (Or.inr (Or.inl rfl))), _, rfl⟩) d11_24 (by decide) (by decide) ?_
  exact ⟨rfl, rfl⟩
theorem rm_second_3_0_1 (hw : HW a0 Z) (a1 b1 : Addr) (x0 x1 x2 x3 x4 x5 c : Int32) (h0 : Heap) (Z0 : n0 ≤ h0.size) (cm : Um Z) (O : Old Z n0 h0) (E0 : Exa Z h0 a1 "java/lang/String") (F0 : Fld Z h0 a1 "java/lang/String" "value" "[B" (.ref b1)) (F1 : Fld Z h0 a1 "java/lang/String" "coder" "B" (.int 1)) (A1 : Ary Z h0 b1 .byte [.int x0, .int x1, .int x2, .int x3, .int x4, .int x5]) (e0 : (UInt32.toInt32 (UInt16.toUInt32 (UInt32.toUInt16 (Int32.toUInt32 (((x0 &&& 255) <<< (0 &&& 31)) ||| ((x1 &&& 255) <<< (8 &&& 31))))))) = 60) (e1 : (UInt32.toInt32 (UInt16.toUInt32 (UInt32.toUInt16 (Int32.toUInt32 (((x2 &&& 255) <<< (0 &&& 31)) ||| ((x3 &&& 255) <<< (8 &&& 31))))))) = c) (kc : nar .char c = c) :
    Met1 l Z ⟨"com/example/poder/poder/format/Markup", "second", "(Ljava/lang/String;I)C"⟩ prog_12_method_12_code 3 (some .char) ⟨5, 0, 0, 66⟩ n0 #[(.ref a1), (.int 0)] h0 (fun v h => v = some (.int c) ∧ h0 = h) := by
  refine met_of (plainFor_of_name pn_1) (L0 := #[.val (.ref a1), .val (.int 0), .unset]) (by first | (simp [argsToLocals, Value.category]; done) | rfl) ?_
  intro B C
  change Ctx B l _ _ "com/example/poder/poder/format/Markup" "second" _ _ Z at C
  have cm' := cm
  obtain ⟨⟨cz, Scz, hcz⟩, Sas, Shi, Slo, Sfm⟩ := cm'
  refine iN C 0 d8_0 rfl <| yif_n C d8_1 (XT.i0_lt_f (by decide)) <| iN C 0 d8_4 rfl <| iC C 1 d8_5 rfl <| yiadd C d8_6 <| eS [(.int 1)] rfl <| aN C ((.ref a1)) d8_7 rfl rfl <| cV C hw 38 39 41 40 4 42 rfl rfl rfl rfl rfl rfl E0 (rm_lenK_3_1 hw a1 b1 x0 x1 x2 x3 x4 x5 h0 Z0 cm O E0 F0 F1 A1) [(.int 1)] [] pd_22 1 d8_8 ⟨rfl, rfl, rfl, rfl, rfl⟩ (by decide) ?_
  intro v_3 h_1 q_2
  obtain ⟨rfl, rfl⟩ := q_2
  show Go _ _ _ _ 0 0 11 _ [(.int 3), (.int 1)]
  refine yicmp_n C d8_11 (XT.ii_ge_f (by decide)) <| aN C ((.ref a1)) d8_14 rfl rfl <| iN C 0 d8_15 rfl <| cV C hw 48 49 51 50 4 52 rfl rfl rfl rfl rfl rfl E0 (rm_charAt_3_0_1 hw a1 b1 x0 x1 x2 x3 x4 x5 60 h0 Z0 cm O E0 F0 F1 A1 e0 (by decide)) [] [(.int 0)] pd_23 0 d8_16 ⟨rfl, rfl, rfl, rfl, rfl⟩ (by decide) ?_
  intro v_7 h_5 q_6
  obtain ⟨rfl, rfl⟩ := q_6
  show Go _ _ _ _ 0 0 19 _ [(.int 60)]
  refine iB C 60 d8_19 rfl <| yicmp_n C d8_21 (XT.ii_ne_f (by decide)) <| iC C 1 d8_24 rfl <| gT C d8_25 29 (by decide) <| iT C d8_29 (#[aV a1, iV 0, iV 1]) rfl <| iN C 1 d8_30 rfl <| yif_n C d8_31 (XT.i0_eq_f (by decide)) <| aN C ((.ref a1)) d8_34 rfl rfl <| iN C 0 d8_35 rfl <| iC C 1 d8_36 rfl <| yiadd C d8_37 <| eS [(.int 1), (.ref a1)] rfl <| cV C hw 48 49 51 50 4 52 rfl rfl rfl rfl rfl rfl E0 (rm_charAt_3_1_1 hw a1 b1 x0 x1 x2 x3 x4 x5 c h0 Z0 cm O E0 F0 F1 A1 e1 kc) [] [(.int 1)] pd_23 0 d8_38 ⟨rfl, rfl, rfl, rfl, rfl⟩ (by decide) ?_
  intro v_11 h_9 q_10
  obtain ⟨rfl, rfl⟩ := q_10
  show Go _ _ _ _ 0 0 41 _ [(.int c)]
  refine gT C d8_41 45 (by decide) ?_
  refine g_ret C (v := (.int c)) (ty := .char) rfl (own_nch kc) (Or.inl ⟨rfl, Or.inr (Or.inr (Or.inr (Or.inl rfl))), _, rfl⟩) d8_45 (by decide) (by decide) ?_
  exact ⟨rfl, rfl⟩
theorem rm_isStart_3_0_1 (hw : HW a0 Z) (a1 b1 : Addr) (x0 x1 x2 x3 x4 x5 c : Int32) (h0 : Heap) (Z0 : n0 ≤ h0.size) (cm : Um Z) (O : Old Z n0 h0) (E0 : Exa Z h0 a1 "java/lang/String") (F0 : Fld Z h0 a1 "java/lang/String" "value" "[B" (.ref b1)) (F1 : Fld Z h0 a1 "java/lang/String" "coder" "B" (.int 1)) (A1 : Ary Z h0 b1 .byte [.int x0, .int x1, .int x2, .int x3, .int x4, .int x5]) (e0 : (UInt32.toInt32 (UInt16.toUInt32 (UInt32.toUInt16 (Int32.toUInt32 (((x0 &&& 255) <<< (0 &&& 31)) ||| ((x1 &&& 255) <<< (8 &&& 31))))))) = 60) (e1 : (UInt32.toInt32 (UInt16.toUInt32 (UInt32.toUInt16 (Int32.toUInt32 (((x2 &&& 255) <<< (0 &&& 31)) ||| ((x3 &&& 255) <<< (8 &&& 31))))))) = c) (kc : nar .char c = c) :
    Met1 l Z ⟨"com/example/poder/poder/format/Markup", "isStartTag", "(Ljava/lang/String;I)Z"⟩ prog_12_method_2_code 3 (some .boolean) ⟨6, 0, 0, 80⟩ n0 #[(.ref a1), (.int 0)] h0 (fun v h => ∃ r : Int32, v = some (.int r) ∧ (c = 47 ∨ c = 33 ∨ c = 63 → r = 0) ∧ (¬ c = 47 → ¬ c = 33 → ¬ c = 63 → r = 1) ∧ h0 = h) := by
  refine met_of (plainFor_of_name pn_1) (L0 := #[.val (.ref a1), .val (.int 0), .unset]) (by first | (simp [argsToLocals, Value.category]; done) | rfl) ?_
  intro B C
  change Ctx B l _ _ "com/example/poder/poder/format/Markup" "isStartTag" _ _ Z at C
  have cm' := cm
  obtain ⟨⟨cz, Scz, hcz⟩, Sas, Shi, Slo, Sfm⟩ := cm'
  refine aN C ((.ref a1)) d7_0 rfl rfl <| iN C 0 d7_1 rfl <| cS C hw 35 36 33 37 rfl rfl rfl rfl (rm_second_3_0_1 hw a1 b1 x0 x1 x2 x3 x4 x5 c h0 Z0 cm O E0 F0 F1 A1 e0 e1 kc) [] [(.ref a1), (.int 0)] pd_19 0 d7_2 ⟨rfl, rfl, rfl, rfl, rfl⟩ (by decide) ?_
  intro v_3 h_1 q_2
  obtain ⟨rfl, rfl⟩ := q_2
  show Go _ _ _ _ 0 0 5 _ [(.int c)]
  refine iT C d7_5 (#[aV a1, iV 0, iV c]) rfl <| iN C c d7_6 rfl <| iB C 47 d7_7 rfl ?_
  by_cases hb_5 : c = 47
  · refine cY C d7_9 (XT.ii_eq_t hb_5) 28 (by decide) <| iC C 0 d7_28 rfl ?_
    refine g_ret C (v := (.int 0)) (ty := .boolean) rfl rfl (Or.inl ⟨rfl, Or.inr (Or.inl rfl), _, rfl⟩) d7_29 (by decide) (by decide) ?_
    exact ⟨_, rfl, fun _ => rfl, fun q1 q2 q3 => absurd hb_5 q1, rfl⟩
  · refine yicmp_n C d7_9 (XT.ii_eq_f hb_5) <| iN C c d7_12 rfl <| iB C 33 d7_13 rfl ?_
    by_cases hb_6 : c = 33
    · refine cY C d7_15 (XT.ii_eq_t hb_6) 28 (by decide) <| iC C 0 d7_28 rfl ?_
      refine g_ret C (v := (.int 0)) (ty := .boolean) rfl rfl (Or.inl ⟨rfl, Or.inr (Or.inl rfl), _, rfl⟩) d7_29 (by decide) (by decide) ?_
      exact ⟨_, rfl, fun _ => rfl, fun q1 q2 q3 => absurd hb_6 q2, rfl⟩
    · refine yicmp_n C d7_15 (XT.ii_eq_f hb_6) <| iN C c d7_18 rfl <| iB C 63 d7_19 rfl ?_
      by_cases hb_7 : c = 63
      · refine cY C d7_21 (XT.ii_eq_t hb_7) 28 (by decide) <| iC C 0 d7_28 rfl ?_
        refine g_ret C (v := (.int 0)) (ty := .boolean) rfl rfl (Or.inl ⟨rfl, Or.inr (Or.inl rfl), _, rfl⟩) d7_29 (by decide) (by decide) ?_
        exact ⟨_, rfl, fun _ => rfl, fun q1 q2 q3 => absurd hb_7 q3, rfl⟩
      · refine yicmp_n C d7_21 (XT.ii_eq_f hb_7) <| iC C 1 d7_24 rfl <| gT C d7_25 29 (by decide) ?_
        refine g_ret C (v := (.int 1)) (ty := .boolean) rfl rfl (Or.inl ⟨rfl, Or.inr (Or.inl rfl), _, rfl⟩) d7_29 (by decide) (by decide) ?_
        exact ⟨_, rfl, fun q => (by rcases q with q | q | q; exact absurd q hb_5; exact absurd q hb_6; exact absurd q hb_7), fun _ _ _ => rfl, rfl⟩
theorem rm_lchar_3_2 (hw : HW a0 Z) (a1 : Addr) (x0 x1 x2 c : Int32) (h0 : Heap) (Z0 : n0 ≤ h0.size) (cm : Um Z) (O : Old Z n0 h0) (A1 : Ary Z h0 a1 .byte [.int x0, .int x1, .int x2]) (ec : (UInt32.toInt32 (UInt16.toUInt32 (UInt32.toUInt16 (Int32.toUInt32 (x2 &&& 255))))) = c) (kc : nar .char c = c) :
    Met1 l Z ⟨"java/lang/StringLatin1", "charAt", "([BI)C"⟩ jdk_43_method_2_code 2 (some .char) ⟨2, 0, 0, 27⟩ n0 #[(.ref a1), (.int 2)] h0 (fun v h => v = some (.int c) ∧ h0 = h) := by
  refine met_of (plainFor_of_name pn_3) (L0 := #[.val (.ref a1), .val (.int 2)]) (by first | (simp [argsToLocals, Value.category]; done) | rfl) ?_
  intro B C
  change Ctx B l _ _ "java/lang/StringLatin1" "charAt" _ _ Z at C
  have cm' := cm
  obtain ⟨⟨cz, Scz, hcz⟩, Sas, Shi, Slo, Sfm⟩ := cm'
  refine iN C 2 d13_0 rfl <| aN C ((.ref a1)) d13_1 rfl rfl <| yarraylength C A1 (z := 3) rfl d13_2 <| cS C hw 62 63 4 64 rfl rfl rfl rfl (rm_sci hw 2 3 h0 Z0 cm O (by decide) (by decide)) [] [(.int 2), (.int 3)] pd_11 0 d13_3 ⟨rfl, rfl, rfl, rfl, rfl⟩ (by decide) ?_
  intro v_3 h_1 q_2
  obtain ⟨rfl, rfl⟩ := q_2
  show Go _ _ _ _ 0 0 6 _ []
  refine aN C ((.ref a1)) d13_6 rfl rfl <| iN C 2 d13_7 rfl <| ybaloadB C A1 (by decide) (i := 2) (by decide) (v := x2) rfl d13_8 <| iP C 255 d13_9 rfl <| yiand C d13_12 <| yi2c C d13_13 ?_
  rw [ec]
  refine g_ret C (v := (.int c)) (ty := .char) rfl (own_nch kc) (Or.inl ⟨rfl, Or.inr (Or.inr (Or.inr (Or.inl rfl))), _, rfl⟩) d13_14 (by decide) (by decide) ?_
  exact ⟨rfl, rfl⟩
theorem rm_charAt_3_2_0 (hw : HW a0 Z) (a1 b1 : Addr) (x0 x1 x2 c : Int32) (h0 : Heap) (Z0 : n0 ≤ h0.size) (cm : Um Z) (O : Old Z n0 h0) (E0 : Exa Z h0 a1 "java/lang/String") (F0 : Fld Z h0 a1 "java/lang/String" "value" "[B" (.ref b1)) (F1 : Fld Z h0 a1 "java/lang/String" "coder" "B" (.int 0)) (A1 : Ary Z h0 b1 .byte [.int x0, .int x1, .int x2]) (ec : (UInt32.toInt32 (UInt16.toUInt32 (UInt32.toUInt16 (Int32.toUInt32 (x2 &&& 255))))) = c) (kc : nar .char c = c) :
    Met1 l Z ⟨"java/lang/String", "charAt", "(I)C"⟩ jdk_42_method_56_code 2 (some .char) ⟨3, 0, 0, 40⟩ n0 #[(.ref a1), (.int 2)] h0 (fun v h => v = some (.int c) ∧ h0 = h) := by
  refine met_of (plainFor_of_name pn_5) (L0 := #[.val (.ref a1), .val (.int 2)]) (by first | (simp [argsToLocals, Value.category]; done) | rfl) ?_
  intro B C
  change Ctx B l _ _ "java/lang/String" "charAt" _ _ Z at C
  have cm' := cm
  obtain ⟨⟨cz, Scz, hcz⟩, Sas, Shi, Slo, Sfm⟩ := cm'
  refine aN C ((.ref a1)) d11_0 rfl rfl <| cV C hw 53 54 56 55 4 57 rfl rfl rfl rfl rfl rfl E0 (rm_isLatin1_0 hw a1 h0 Z0 cm O F1) [] [] pd_16 0 d11_1 ⟨rfl, rfl, rfl, rfl, rfl⟩ (by decide) ?_
  intro v_3 h_1 q_2
  obtain ⟨rfl, rfl⟩ := q_2
  show Go _ _ _ _ 0 0 4 _ [(.int 1)]
  refine yif_n C d11_4 (XT.i0_eq_f (by decide)) <| aN C ((.ref a1)) d11_7 rfl rfl <| ygetfield C (host := "") (v := (.ref b1)) (Or.inl (oW hw 29 rfl)) Via.refl F0 d11_8 <| iN C 2 d11_11 rfl <| cS C hw 58 59 60 61 rfl rfl rfl rfl (rm_lchar_3_2 hw b1 x0 x1 x2 c h0 Z0 cm O A1 ec kc) [] [(.ref b1), (.int 2)] pd_20 0 d11_12 ⟨rfl, rfl, rfl, rfl, rfl⟩ (by decide) ?_
  intro v_7 h_5 q_6
  obtain ⟨rfl, rfl⟩ := q_6
  show Go _ _ _ _ 0 0 15 _ [(.int c)]
  refine g_ret C (v := (.int c)) (ty := .char) rfl (own_nch kc) (Or.inl ⟨rfl, Or.inr (Or.inr (Or.inr (Or.inl rfl))), _, rfl⟩) d11_15 (by decide) (by decide) ?_
  exact ⟨rfl, rfl⟩
theorem rm_second_3_1_0 (hw : HW a0 Z) (a1 b1 : Addr) (x0 x1 x2 c : Int32) (h0 : Heap) (Z0 : n0 ≤ h0.size) (cm : Um Z) (O : Old Z n0 h0) (E0 : Exa Z h0 a1 "java/lang/String") (F0 : Fld Z h0 a1 "java/lang/String" "value" "[B" (.ref b1)) (F1 : Fld Z h0 a1 "java/lang/String" "coder" "B" (.int 0)) (A1 : Ary Z h0 b1 .byte [.int x0, .int x1, .int x2]) (e0 : (UInt32.toInt32 (UInt16.toUInt32 (UInt32.toUInt16 (Int32.toUInt32 (x1 &&& 255))))) = 60) (e1 : (UInt32.toInt32 (UInt16.toUInt32 (UInt32.toUInt16 (Int32.toUInt32 (x2 &&& 255))))) = c) (kc : nar .char c = c) :
    Met1 l Z ⟨"com/example/poder/poder/format/Markup", "second", "(Ljava/lang/String;I)C"⟩ prog_12_method_12_code 3 (some .char) ⟨4, 0, 0, 53⟩ n0 #[(.ref a1), (.int 1)] h0 (fun v h => v = some (.int c) ∧ h0 = h) := by
  refine met_of (plainFor_of_name pn_1) (L0 := #[.val (.ref a1), .val (.int 1), .unset]) (by first | (simp [argsToLocals, Value.category]; done) | rfl) ?_
  intro B C
  change Ctx B l _ _ "com/example/poder/poder/format/Markup" "second" _ _ Z at C
  have cm' := cm
  obtain ⟨⟨cz, Scz, hcz⟩, Sas, Shi, Slo, Sfm⟩ := cm'
  refine iN C 1 d8_0 rfl <| yif_n C d8_1 (XT.i0_lt_f (by decide)) <| iN C 1 d8_4 rfl <| iC C 1 d8_5 rfl <| yiadd C d8_6 <| eS [(.int 2)] rfl <| aN C ((.ref a1)) d8_7 rfl rfl <| cV C hw 38 39 41 40 4 42 rfl rfl rfl rfl rfl rfl E0 (rm_lenK_3_0 hw a1 b1 x0 x1 x2 h0 Z0 cm O E0 F0 F1 A1) [(.int 2)] [] pd_22 1 d8_8 ⟨rfl, rfl, rfl, rfl, rfl⟩ (by decide) ?_
  intro v_3 h_1 q_2
  obtain ⟨rfl, rfl⟩ := q_2
  show Go _ _ _ _ 0 0 11 _ [(.int 3), (.int 2)]
  refine yicmp_n C d8_11 (XT.ii_ge_f (by decide)) <| aN C ((.ref a1)) d8_14 rfl rfl <| iN C 1 d8_15 rfl <| cV C hw 48 49 51 50 4 52 rfl rfl rfl rfl rfl rfl E0 (rm_charAt_3_1_0 hw a1 b1 x0 x1 x2 60 h0 Z0 cm O E0 F0 F1 A1 e0 (by decide)) [] [(.int 1)] pd_23 0 d8_16 ⟨rfl, rfl, rfl, rfl, rfl⟩ (by decide) ?_
  intro v_7 h_5 q_6
  obtain ⟨rfl, rfl⟩ := q_6
  show Go _ _ _ _ 0 0 19 _ [(.int 60)]
  refine iB C 60 d8_19 rfl <| yicmp_n C d8_21 (XT.ii_ne_f (by decide)) <| iC C 1 d8_24 rfl <| gT C d8_25 29 (by decide) <| iT C d8_29 (#[aV a1, iV 1, iV 1]) rfl <| iN C 1 d8_30 rfl <| yif_n C d8_31 (XT.i0_eq_f (by decide)) <| aN C ((.ref a1)) d8_34 rfl rfl <| iN C 1 d8_35 rfl <| iC C 1 d8_36 rfl <| yiadd C d8_37 <| eS [(.int 2), (.ref a1)] rfl <| cV C hw 48 49 51 50 4 52 rfl rfl rfl rfl rfl rfl E0 (rm_charAt_3_2_0 hw a1 b1 x0 x1 x2 c h0 Z0 cm O E0 F0 F1 A1 e1 kc) [] [(.int 2)] pd_23 0 d8_38 ⟨rfl, rfl, rfl, rfl, rfl⟩ (by decide) ?_
  intro v_11 h_9 q_10
  obtain ⟨rfl, rfl⟩ := q_10
  show Go _ _ _ _ 0 0 41 _ [(.int c)]
  refine gT C d8_41 45 (by decide) ?_
  refine g_ret C (v := (.int c)) (ty := .char) rfl (own_nch kc) (Or.inl ⟨rfl, Or.inr (Or.inr (Or.inr (Or.inl rfl))), _, rfl⟩) d8_45 (by decide) (by decide) ?_
  exact ⟨rfl, rfl⟩
theorem rm_isStart_3_1_0 (hw : HW a0 Z) (a1 b1 : Addr) (x0 x1 x2 c : Int32) (h0 : Heap) (Z0 : n0 ≤ h0.size) (cm : Um Z) (O : Old Z n0 h0) (E0 : Exa Z h0 a1 "java/lang/String") (F0 : Fld Z h0 a1 "java/lang/String" "value" "[B" (.ref b1)) (F1 : Fld Z h0 a1 "java/lang/String" "coder" "B" (.int 0)) (A1 : Ary Z h0 b1 .byte [.int x0, .int x1, .int x2]) (e0 : (UInt32.toInt32 (UInt16.toUInt32 (UInt32.toUInt16 (Int32.toUInt32 (x1 &&& 255))))) = 60) (e1 : (UInt32.toInt32 (UInt16.toUInt32 (UInt32.toUInt16 (Int32.toUInt32 (x2 &&& 255))))) = c) (kc : nar .char c = c) :
    Met1 l Z ⟨"com/example/poder/poder/format/Markup", "isStartTag", "(Ljava/lang/String;I)Z"⟩ prog_12_method_2_code 3 (some .boolean) ⟨5, 0, 0, 67⟩ n0 #[(.ref a1), (.int 1)] h0 (fun v h => ∃ r : Int32, v = some (.int r) ∧ (c = 47 ∨ c = 33 ∨ c = 63 → r = 0) ∧ (¬ c = 47 → ¬ c = 33 → ¬ c = 63 → r = 1) ∧ h0 = h) := by
  refine met_of (plainFor_of_name pn_1) (L0 := #[.val (.ref a1), .val (.int 1), .unset]) (by first | (simp [argsToLocals, Value.category]; done) | rfl) ?_
  intro B C
  change Ctx B l _ _ "com/example/poder/poder/format/Markup" "isStartTag" _ _ Z at C
  have cm' := cm
  obtain ⟨⟨cz, Scz, hcz⟩, Sas, Shi, Slo, Sfm⟩ := cm'
  refine aN C ((.ref a1)) d7_0 rfl rfl <| iN C 1 d7_1 rfl <| cS C hw 35 36 33 37 rfl rfl rfl rfl (rm_second_3_1_0 hw a1 b1 x0 x1 x2 c h0 Z0 cm O E0 F0 F1 A1 e0 e1 kc) [] [(.ref a1), (.int 1)] pd_19 0 d7_2 ⟨rfl, rfl, rfl, rfl, rfl⟩ (by decide) ?_
  intro v_3 h_1 q_2
  obtain ⟨rfl, rfl⟩ := q_2
  show Go _ _ _ _ 0 0 5 _ [(.int c)]
  refine iT C d7_5 (#[aV a1, iV 1, iV c]) rfl <| iN C c d7_6 rfl <| iB C 47 d7_7 rfl ?_
  by_cases hb_5 : c = 47
  · refine cY C d7_9 (XT.ii_eq_t hb_5) 28 (by decide) <| iC C 0 d7_28 rfl ?_
    refine g_ret C (v := (.int 0)) (ty := .boolean) rfl rfl (Or.inl ⟨rfl, Or.inr (Or.inl rfl), _, rfl⟩) d7_29 (by decide) (by decide) ?_
    exact ⟨_, rfl, fun _ => rfl, fun q1 q2 q3 => absurd hb_5 q1, rfl⟩
  · refine yicmp_n C d7_9 (XT.ii_eq_f hb_5) <| iN C c d7_12 rfl <| iB C 33 d7_13 rfl ?_
    by_cases hb_6 : c = 33
    · refine cY C d7_15 (XT.ii_eq_t hb_6) 28 (by decide) <| iC C 0 d7_28 rfl ?_
      refine g_ret C (v := (.int 0)) (ty := .boolean) rfl rfl (Or.inl ⟨rfl, Or.inr (Or.inl rfl), _, rfl⟩) d7_29 (by decide) (by decide) ?_
      exact ⟨_, rfl, fun _ => rfl, fun q1 q2 q3 => absurd hb_6 q2, rfl⟩
    · refine yicmp_n C d7_15 (XT.ii_eq_f hb_6) <| iN C c d7_18 rfl <| iB C 63 d7_19 rfl ?_
      by_cases hb_7 : c = 63
      · refine cY C d7_21 (XT.ii_eq_t hb_7) 28 (by decide) <| iC C 0 d7_28 rfl ?_
        refine g_ret C (v := (.int 0)) (ty := .boolean) rfl rfl (Or.inl ⟨rfl, Or.inr (Or.inl rfl), _, rfl⟩) d7_29 (by decide) (by decide) ?_
        exact ⟨_, rfl, fun _ => rfl, fun q1 q2 q3 => absurd hb_7 q3, rfl⟩
      · refine yicmp_n C d7_21 (XT.ii_eq_f hb_7) <| iC C 1 d7_24 rfl <| gT C d7_25 29 (by decide) ?_
        refine g_ret C (v := (.int 1)) (ty := .boolean) rfl rfl (Or.inl ⟨rfl, Or.inr (Or.inl rfl), _, rfl⟩) d7_29 (by decide) (by decide) ?_
        exact ⟨_, rfl, fun q => (by rcases q with q | q | q; exact absurd q hb_5; exact absurd q hb_6; exact absurd q hb_7), fun _ _ _ => rfl, rfl⟩
theorem rm_uchar_3_2 (hw : HW a0 Z) (a1 : Addr) (x0 x1 x2 x3 x4 x5 c : Int32) (h0 : Heap) (Z0 : n0 ≤ h0.size) (cm : Um Z) (O : Old Z n0 h0) (A1 : Ary Z h0 a1 .byte [.int x0, .int x1, .int x2, .int x3, .int x4, .int x5]) (ec : (UInt32.toInt32 (UInt16.toUInt32 (UInt32.toUInt16 (Int32.toUInt32 (((x4 &&& 255) <<< (0 &&& 31)) ||| ((x5 &&& 255) <<< (8 &&& 31))))))) = c) (kc : nar .char c = c) :
    Met1 l Z ⟨"java/lang/StringUTF16", "charAt", "([BI)C"⟩ jdk_52_method_83_code 2 (some .char) ⟨3, 0, 0, 40⟩ n0 #[(.ref a1), (.int 2)] h0 (fun v h => v = some (.int c) ∧ h0 = h) := by
  refine met_of (plainFor_of_name pn_4) (L0 := #[.val (.ref a1), .val (.int 2)]) (by first | (simp [argsToLocals, Value.category]; done) | rfl) ?_
  intro B C
  change Ctx B l _ _ "java/lang/StringUTF16" "charAt" _ _ Z at C
  have cm' := cm
  obtain ⟨⟨cz, Scz, hcz⟩, Sas, Shi, Slo, Sfm⟩ := cm'
  refine iN C 2 d21_0 rfl <| aN C ((.ref a1)) d21_1 rfl rfl <| cS C hw 93 94 18 95 rfl rfl rfl rfl (rm_uci_3 hw 2 a1 x0 x1 x2 x3 x4 x5 h0 Z0 cm O A1 (by decide) (by decide)) [] [(.int 2), (.ref a1)] pd_9 0 d21_2 ⟨rfl, rfl, rfl, rfl, rfl⟩ (by decide) ?_
  intro v_3 h_1 q_2
  obtain ⟨rfl, rfl⟩ := q_2
  show Go _ _ _ _ 0 0 5 _ []
  refine aN C ((.ref a1)) d21_5 rfl rfl <| iN C 2 d21_6 rfl <| cS C hw 87 88 18 89 rfl rfl rfl rfl (rm_getC_3_2 hw a1 x0 x1 x2 x3 x4 x5 c h0 Z0 cm O A1 ec kc) [] [(.ref a1), (.int 2)] pd_15 0 d21_7 ⟨rfl, rfl, rfl, rfl, rfl⟩ (by decide) ?_
  intro v_7 h_5 q_6
  obtain ⟨rfl, rfl⟩ := q_6
  show Go _ _ _ _ 0 0 10 _ [(.int c)]
  refine g_ret C (v := (.int c)) (ty := .char) rfl (own_nch kc) (Or.inl ⟨rfl, Or.inr (Or.inr (Or.inr (Or.inl rfl))), _, rfl⟩) d21_10 (by decide) (by decide) ?_
  exact ⟨rfl, rfl⟩
theorem rm_charAt_3_2_1 (hw : HW a0 Z) (a1 b1 : Addr) (x0 x1 x2 x3 x4 x5 c : Int32) (h0 : Heap) (Z0 : n0 ≤ h0.size) (cm : Um Z) (O : Old Z n0 h0) (E0 : Exa Z h0 a1 "java/lang/String") (F0 : Fld Z h0 a1 "java/lang/String" "value" "[B" (.ref b1)) (F1 : Fld Z h0 a1 "java/lang/String" "coder" "B" (.int 1)) (A1 : Ary Z h0 b1 .byte [.int x0, .int x1, .int x2, .int x3, .int x4, .int x5]) (ec : (UInt32.toInt32 (UInt16.toUInt32 (UInt32.toUInt16 (Int32.toUInt32 (((x4 &&& 255) <<< (0 &&& 31)) ||| ((x5 &&& 255) <<< (8 &&& 31))))))) = c) (kc : nar .char c = c) :
    Met1 l Z ⟨"java/lang/String", "charAt", "(I)C"⟩ jdk_42_method_56_code 2 (some .char) ⟨4, 0, 0, 53⟩ n0 #[(.ref a1), (.int 2)] h0 (fun v h => v = some (.int c) ∧ h0 = h) := by
  refine met_of (plainFor_of_name pn_5) (L0 := #[.val (.ref a1), .val (.int 2)]) (by first | (simp [argsToLocals, Value.category]; done) | rfl) ?_
  intro B C
  change Ctx B l _ _ "java/lang/String" "charAt" _ _ Z at C
  have cm' := cm
  obtain ⟨⟨cz, Scz, hcz⟩, Sas, Shi, Slo, Sfm⟩ := cm'
  refine aN C ((.ref a1)) d11_0 rfl rfl <| cV C hw 53 54 56 55 4 57 rfl rfl rfl rfl rfl rfl E0 (rm_isLatin1_1 hw a1 h0 Z0 cm O F1) [] [] pd_16 0 d11_1 ⟨rfl, rfl, rfl, rfl, rfl⟩ (by decide) ?_
  intro v_3 h_1 q_2
  obtain ⟨rfl, rfl⟩ := q_2
  show Go _ _ _ _ 0 0 4 _ [(.int 0)]
  refine fY C d11_4 (XT.i0_eq_t (by decide)) 16 (by decide) <| aN C ((.ref a1)) d11_16 rfl rfl <| ygetfield C (host := "") (v := (.ref b1)) (Or.inl (oW hw 29 rfl)) Via.refl F0 d11_17 <| iN C 2 d11_20 rfl <| cS C hw 90 91 18 92 rfl rfl rfl rfl (rm_uchar_3_2 hw b1 x0 x1 x2 x3 x4 x5 c h0 Z0 cm O A1 ec kc) [] [(.ref b1), (.int 2)] pd_20 0 d11_21 ⟨rfl, rfl, rfl, rfl, rfl⟩ (by decide) ?_
  intro v_7 h_5 q_6
  obtain ⟨rfl, rfl⟩ := q_6
  show Go _ _ _ _ 0 0 24 _ [(.int c)]
  refine g_ret C (v := (.int c)) (ty := .char) rfl (own_nch kc) (Or.inl ⟨rfl, Or.inr (Or.inr (Or.inr (Or.inl rfl))), _, rfl⟩) d11_24 (by decide) (by decide) ?_
  exact ⟨rfl, rfl⟩
theorem rm_second_3_1_1 (hw : HW a0 Z) (a1 b1 : Addr) (x0 x1 x2 x3 x4 x5 c : Int32) (h0 : Heap) (Z0 : n0 ≤ h0.size) (cm : Um Z) (O : Old Z n0 h0) (E0 : Exa Z h0 a1 "java/lang/String") (F0 : Fld Z h0 a1 "java/lang/String" "value" "[B" (.ref b1)) (F1 : Fld Z h0 a1 "java/lang/String" "coder" "B" (.int 1)) (A1 : Ary Z h0 b1 .byte [.int x0, .int x1, .int x2, .int x3, .int x4, .int x5]) (e0 : (UInt32.toInt32 (UInt16.toUInt32 (UInt32.toUInt16 (Int32.toUInt32 (((x2 &&& 255) <<< (0 &&& 31)) ||| ((x3 &&& 255) <<< (8 &&& 31))))))) = 60) (e1 : (UInt32.toInt32 (UInt16.toUInt32 (UInt32.toUInt16 (Int32.toUInt32 (((x4 &&& 255) <<< (0 &&& 31)) ||| ((x5 &&& 255) <<< (8 &&& 31))))))) = c) (kc : nar .char c = c) :
    Met1 l Z ⟨"com/example/poder/poder/format/Markup", "second", "(Ljava/lang/String;I)C"⟩ prog_12_method_12_code 3 (some .char) ⟨5, 0, 0, 66⟩ n0 #[(.ref a1), (.int 1)] h0 (fun v h => v = some (.int c) ∧ h0 = h) := by
  refine met_of (plainFor_of_name pn_1) (L0 := #[.val (.ref a1), .val (.int 1), .unset]) (by first | (simp [argsToLocals, Value.category]; done) | rfl) ?_
  intro B C
  change Ctx B l _ _ "com/example/poder/poder/format/Markup" "second" _ _ Z at C
  have cm' := cm
  obtain ⟨⟨cz, Scz, hcz⟩, Sas, Shi, Slo, Sfm⟩ := cm'
  refine iN C 1 d8_0 rfl <| yif_n C d8_1 (XT.i0_lt_f (by decide)) <| iN C 1 d8_4 rfl <| iC C 1 d8_5 rfl <| yiadd C d8_6 <| eS [(.int 2)] rfl <| aN C ((.ref a1)) d8_7 rfl rfl <| cV C hw 38 39 41 40 4 42 rfl rfl rfl rfl rfl rfl E0 (rm_lenK_3_1 hw a1 b1 x0 x1 x2 x3 x4 x5 h0 Z0 cm O E0 F0 F1 A1) [(.int 2)] [] pd_22 1 d8_8 ⟨rfl, rfl, rfl, rfl, rfl⟩ (by decide) ?_
  intro v_3 h_1 q_2
  obtain ⟨rfl, rfl⟩ := q_2
  show Go _ _ _ _ 0 0 11 _ [(.int 3), (.int 2)]
  refine yicmp_n C d8_11 (XT.ii_ge_f (by decide)) <| aN C ((.ref a1)) d8_14 rfl rfl <| iN C 1 d8_15 rfl <| cV C hw 48 49 51 50 4 52 rfl rfl rfl rfl rfl rfl E0 (rm_charAt_3_1_1 hw a1 b1 x0 x1 x2 x3 x4 x5 60 h0 Z0 cm O E0 F0 F1 A1 e0 (by decide)) [] [(.int 1)] pd_23 0 d8_16 ⟨rfl, rfl, rfl, rfl, rfl⟩ (by decide) ?_
  intro v_7 h_5 q_6
  obtain ⟨rfl, rfl⟩ := q_6
  show Go _ _ _ _ 0 0 19 _ [(.int 60)]
  refine iB C 60 d8_19 rfl <| yicmp_n C d8_21 (XT.ii_ne_f (by decide)) <| iC C 1 d8_24 rfl <| gT C d8_25 29 (by decide) <| iT C d8_29 (#[aV a1, iV 1, iV 1]) rfl <| iN C 1 d8_30 rfl <| yif_n C d8_31 (XT.i0_eq_f (by decide)) <| aN C ((.ref a1)) d8_34 rfl rfl <| iN C 1 d8_35 rfl <| iC C 1 d8_36 rfl <| yiadd C d8_37 <| eS [(.int 2), (.ref a1)] rfl <| cV C hw 48 49 51 50 4 52 rfl rfl rfl rfl rfl rfl E0 (rm_charAt_3_2_1 hw a1 b1 x0 x1 x2 x3 x4 x5 c h0 Z0 cm O E0 F0 F1 A1 e1 kc) [] [(.int 2)] pd_23 0 d8_38 ⟨rfl, rfl, rfl, rfl, rfl⟩ (by decide) ?_
  intro v_11 h_9 q_10
  obtain ⟨rfl, rfl⟩ := q_10
  show Go _ _ _ _ 0 0 41 _ [(.int c)]
  refine gT C d8_41 45 (by decide) ?_
  refine g_ret C (v := (.int c)) (ty := .char) rfl (own_nch kc) (Or.inl ⟨rfl, Or.inr (Or.inr (Or.inr (Or.inl rfl))), _, rfl⟩) d8_45 (by decide) (by decide) ?_
  exact ⟨rfl, rfl⟩
theorem rm_isStart_3_1_1 (hw : HW a0 Z) (a1 b1 : Addr) (x0 x1 x2 x3 x4 x5 c : Int32) (h0 : Heap) (Z0 : n0 ≤ h0.size) (cm : Um Z) (O : Old Z n0 h0) (E0 : Exa Z h0 a1 "java/lang/String") (F0 : Fld Z h0 a1 "java/lang/String" "value" "[B" (.ref b1)) (F1 : Fld Z h0 a1 "java/lang/String" "coder" "B" (.int 1)) (A1 : Ary Z h0 b1 .byte [.int x0, .int x1, .int x2, .int x3, .int x4, .int x5]) (e0 : (UInt32.toInt32 (UInt16.toUInt32 (UInt32.toUInt16 (Int32.toUInt32 (((x2 &&& 255) <<< (0 &&& 31)) ||| ((x3 &&& 255) <<< (8 &&& 31))))))) = 60) (e1 : (UInt32.toInt32 (UInt16.toUInt32 (UInt32.toUInt16 (Int32.toUInt32 (((x4 &&& 255) <<< (0 &&& 31)) ||| ((x5 &&& 255) <<< (8 &&& 31))))))) = c) (kc : nar .char c = c) :
    Met1 l Z ⟨"com/example/poder/poder/format/Markup", "isStartTag", "(Ljava/lang/String;I)Z"⟩ prog_12_method_2_code 3 (some .boolean) ⟨6, 0, 0, 80⟩ n0 #[(.ref a1), (.int 1)] h0 (fun v h => ∃ r : Int32, v = some (.int r) ∧ (c = 47 ∨ c = 33 ∨ c = 63 → r = 0) ∧ (¬ c = 47 → ¬ c = 33 → ¬ c = 63 → r = 1) ∧ h0 = h) := by
  refine met_of (plainFor_of_name pn_1) (L0 := #[.val (.ref a1), .val (.int 1), .unset]) (by first | (simp [argsToLocals, Value.category]; done) | rfl) ?_
  intro B C
  change Ctx B l _ _ "com/example/poder/poder/format/Markup" "isStartTag" _ _ Z at C
  have cm' := cm
  obtain ⟨⟨cz, Scz, hcz⟩, Sas, Shi, Slo, Sfm⟩ := cm'
  refine aN C ((.ref a1)) d7_0 rfl rfl <| iN C 1 d7_1 rfl <| cS C hw 35 36 33 37 rfl rfl rfl rfl (rm_second_3_1_1 hw a1 b1 x0 x1 x2 x3 x4 x5 c h0 Z0 cm O E0 F0 F1 A1 e0 e1 kc) [] [(.ref a1), (.int 1)] pd_19 0 d7_2 ⟨rfl, rfl, rfl, rfl, rfl⟩ (by decide) ?_
  intro v_3 h_1 q_2
  obtain ⟨rfl, rfl⟩ := q_2
  show Go _ _ _ _ 0 0 5 _ [(.int c)]
  refine iT C d7_5 (#[aV a1, iV 1, iV c]) rfl <| iN C c d7_6 rfl <| iB C 47 d7_7 rfl ?_
  by_cases hb_5 : c = 47
  · refine cY C d7_9 (XT.ii_eq_t hb_5) 28 (by decide) <| iC C 0 d7_28 rfl ?_
    refine g_ret C (v := (.int 0)) (ty := .boolean) rfl rfl (Or.inl ⟨rfl, Or.inr (Or.inl rfl), _, rfl⟩) d7_29 (by decide) (by decide) ?_
    exact ⟨_, rfl, fun _ => rfl, fun q1 q2 q3 => absurd hb_5 q1, rfl⟩
  · refine yicmp_n C d7_9 (XT.ii_eq_f hb_5) <| iN C c d7_12 rfl <| iB C 33 d7_13 rfl ?_
    by_cases hb_6 : c = 33
    · refine cY C d7_15 (XT.ii_eq_t hb_6) 28 (by decide) <| iC C 0 d7_28 rfl ?_
      refine g_ret C (v := (.int 0)) (ty := .boolean) rfl rfl (Or.inl ⟨rfl, Or.inr (Or.inl rfl), _, rfl⟩) d7_29 (by decide) (by decide) ?_
      exact ⟨_, rfl, fun _ => rfl, fun q1 q2 q3 => absurd hb_6 q2, rfl⟩
    · refine yicmp_n C d7_15 (XT.ii_eq_f hb_6) <| iN C c d7_18 rfl <| iB C 63 d7_19 rfl ?_
      by_cases hb_7 : c = 63
      · refine cY C d7_21 (XT.ii_eq_t hb_7) 28 (by decide) <| iC C 0 d7_28 rfl ?_
        refine g_ret C (v := (.int 0)) (ty := .boolean) rfl rfl (Or.inl ⟨rfl, Or.inr (Or.inl rfl), _, rfl⟩) d7_29 (by decide) (by decide) ?_
        exact ⟨_, rfl, fun _ => rfl, fun q1 q2 q3 => absurd hb_7 q3, rfl⟩
      · refine yicmp_n C d7_21 (XT.ii_eq_f hb_7) <| iC C 1 d7_24 rfl <| gT C d7_25 29 (by decide) ?_
        refine g_ret C (v := (.int 1)) (ty := .boolean) rfl rfl (Or.inl ⟨rfl, Or.inr (Or.inl rfl), _, rfl⟩) d7_29 (by decide) (by decide) ?_
        exact ⟨_, rfl, fun q => (by rcases q with q | q | q; exact absurd q hb_5; exact absurd q hb_6; exact absurd q hb_7), fun _ _ _ => rfl, rfl⟩
theorem rm_lenK_4_0 (hw : HW a0 Z) (a1 b1 : Addr) (x0 x1 x2 x3 : Int32) (h0 : Heap) (Z0 : n0 ≤ h0.size) (cm : Um Z) (O : Old Z n0 h0) (E0 : Exa Z h0 a1 "java/lang/String") (F0 : Fld Z h0 a1 "java/lang/String" "value" "[B" (.ref b1)) (F1 : Fld Z h0 a1 "java/lang/String" "coder" "B" (.int 0)) (A1 : Ary Z h0 b1 .byte [.int x0, .int x1, .int x2, .int x3]) :
    Met1 l Z ⟨"java/lang/String", "length", "()I"⟩ jdk_42_method_54_code 1 (some .int) ⟨1, 0, 0, 13⟩ n0 #[(.ref a1)] h0 (fun v h => v = some (.int 4) ∧ h0 = h) := by
  refine met_of (plainFor_of_name pn_5) (L0 := #[.val (.ref a1)]) (by first | (simp [argsToLocals, Value.category]; done) | rfl) ?_
  intro B C
  change Ctx B l _ _ "java/lang/String" "length" _ _ Z at C
  have cm' := cm
  obtain ⟨⟨cz, Scz, hcz⟩, Sas, Shi, Slo, Sfm⟩ := cm'
  refine aN C ((.ref a1)) d9_0 rfl rfl <| ygetfield C (host := "") (v := (.ref b1)) (Or.inl (oW hw 29 rfl)) Via.refl F0 d9_1 <| yarraylength C A1 (z := 4) rfl d9_4 <| aN C ((.ref a1)) d9_5 rfl rfl <| cV C hw 43 44 46 45 4 47 rfl rfl rfl rfl rfl rfl E0 (rm_coder_0 hw a1 h0 Z0 cm O F1) [(.int 4)] [] pd_26 1 d9_6 ⟨rfl, rfl, rfl, rfl, rfl⟩ (by decide) ?_
  intro v_3 h_1 q_2
  obtain ⟨rfl, rfl⟩ := q_2
  show Go _ _ _ _ 0 0 9 _ [(.int 0), (.int 4)]
  refine yishr C d9_9 <| eS [(.int 4)] rfl ?_
  refine g_ret C (v := (.int 4)) (ty := .int) rfl rfl (Or.inl ⟨rfl, Or.inl rfl, _, rfl⟩) d9_10 (by decide) (by decide) ?_
  exact ⟨rfl, rfl⟩
theorem rm_lchar_4_0 (hw : HW a0 Z) (a1 : Addr) (x0 x1 x2 x3 c : Int32) (h0 : Heap) (Z0 : n0 ≤ h0.size) (cm : Um Z) (O : Old Z n0 h0) (A1 : Ary Z h0 a1 .byte [.int x0, .int x1, .int x2, .int x3]) (ec : (UInt32.toInt32 (UInt16.toUInt32 (UInt32.toUInt16 (Int32.toUInt32 (x0 &&& 255))))) = c) (kc : nar .char c = c) :
    Met1 l Z ⟨"java/lang/StringLatin1", "charAt", "([BI)C"⟩ jdk_43_method_2_code 2 (some .char) ⟨2, 0, 0, 27⟩ n0 #[(.ref a1), (.int 0)] h0 (fun v h => v = some (.int c) ∧ h0 = h) := by
  refine met_of (plainFor_of_name pn_3) (L0 := #[.val (.ref a1), .val (.int 0)]) (by first | (simp [argsToLocals, Value.category]; done) | rfl) ?_
  intro B C
  change Ctx B l _ _ "java/lang/StringLatin1" "charAt" _ _ Z at C
  have cm' := cm
  obtain ⟨⟨cz, Scz, hcz⟩, Sas, Shi, Slo, Sfm⟩ := cm'
  refine iN C 0 d13_0 rfl <| aN C ((.ref a1)) d13_1 rfl rfl <| yarraylength C A1 (z := 4) rfl d13_2 <| cS C hw 62 63 4 64 rfl rfl rfl rfl (rm_sci hw 0 4 h0 Z0 cm O (by decide) (by decide)) [] [(.int 0), (.int 4)] pd_11 0 d13_3 ⟨rfl, rfl, rfl, rfl, rfl⟩ (by decide) ?_
  intro v_3 h_1 q_2
  obtain ⟨rfl, rfl⟩ := q_2
  show Go _ _ _ _ 0 0 6 _ []
  refine aN C ((.ref a1)) d13_6 rfl rfl <| iN C 0 d13_7 rfl <| ybaloadB C A1 (by decide) (i := 0) (by decide) (v := x0) rfl d13_8 <| iP C 255 d13_9 rfl <| yiand C d13_12 <| yi2c C d13_13 ?_
  rw [ec]
  refine g_ret C (v := (.int c)) (ty := .char) rfl (own_nch kc) (Or.inl ⟨rfl, Or.inr (Or.inr (Or.inr (Or.inl rfl))), _, rfl⟩) d13_14 (by decide) (by decide) ?_
  exact ⟨rfl, rfl⟩
theorem rm_charAt_4_0_0 (hw : HW a0 Z) (a1 b1 : Addr) (x0 x1 x2 x3 c : Int32) (h0 : Heap) (Z0 : n0 ≤ h0.size) (cm : Um Z) (O : Old Z n0 h0) (E0 : Exa Z h0 a1 "java/lang/String") (F0 : Fld Z h0 a1 "java/lang/String" "value" "[B" (.ref b1)) (F1 : Fld Z h0 a1 "java/lang/String" "coder" "B" (.int 0)) (A1 : Ary Z h0 b1 .byte [.int x0, .int x1, .int x2, .int x3]) (ec : (UInt32.toInt32 (UInt16.toUInt32 (UInt32.toUInt16 (Int32.toUInt32 (x0 &&& 255))))) = c) (kc : nar .char c = c) :
    Met1 l Z ⟨"java/lang/String", "charAt", "(I)C"⟩ jdk_42_method_56_code 2 (some .char) ⟨3, 0, 0, 40⟩ n0 #[(.ref a1), (.int 0)] h0 (fun v h => v = some (.int c) ∧ h0 = h) := by
  refine met_of (plainFor_of_name pn_5) (L0 := #[.val (.ref a1), .val (.int 0)]) (by first | (simp [argsToLocals, Value.category]; done) | rfl) ?_
  intro B C
  change Ctx B l _ _ "java/lang/String" "charAt" _ _ Z at C
  have cm' := cm
  obtain ⟨⟨cz, Scz, hcz⟩, Sas, Shi, Slo, Sfm⟩ := cm'
  refine aN C ((.ref a1)) d11_0 rfl rfl <| cV C hw 53 54 56 55 4 57 rfl rfl rfl rfl rfl rfl E0 (rm_isLatin1_0 hw a1 h0 Z0 cm O F1) [] [] pd_16 0 d11_1 ⟨rfl, rfl, rfl, rfl, rfl⟩ (by decide) ?_
  intro v_3 h_1 q_2
  obtain ⟨rfl, rfl⟩ := q_2
  show Go _ _ _ _ 0 0 4 _ [(.int 1)]
  refine yif_n C d11_4 (XT.i0_eq_f (by decide)) <| aN C ((.ref a1)) d11_7 rfl rfl <| ygetfield C (host := "") (v := (.ref b1)) (Or.inl (oW hw 29 rfl)) Via.refl F0 d11_8 <| iN C 0 d11_11 rfl <| cS C hw 58 59 60 61 rfl rfl rfl rfl (rm_lchar_4_0 hw b1 x0 x1 x2 x3 c h0 Z0 cm O A1 ec kc) [] [(.ref b1), (.int 0)] pd_20 0 d11_12 ⟨rfl, rfl, rfl, rfl, rfl⟩ (by decide) ?_
  intro v_7 h_5 q_6
  obtain ⟨rfl, rfl⟩ := q_6
  show Go _ _ _ _ 0 0 15 _ [(.int c)]
  refine g_ret C (v := (.int c)) (ty := .char) rfl (own_nch kc) (Or.inl ⟨rfl, Or.inr (Or.inr (Or.inr (Or.inl rfl))), _, rfl⟩) d11_15 (by decide) (by decide) ?_
  exact ⟨rfl, rfl⟩
theorem rm_lchar_4_1 (hw : HW a0 Z) (a1 : Addr) (x0 x1 x2 x3 c : Int32) (h0 : Heap) (Z0 : n0 ≤ h0.size) (cm : Um Z) (O : Old Z n0 h0) (A1 : Ary Z h0 a1 .byte [.int x0, .int x1, .int x2, .int x3]) (ec : (UInt32.toInt32 (UInt16.toUInt32 (UInt32.toUInt16 (Int32.toUInt32 (x1 &&& 255))))) = c) (kc : nar .char c = c) :
    Met1 l Z ⟨"java/lang/StringLatin1", "charAt", "([BI)C"⟩ jdk_43_method_2_code 2 (some .char) ⟨2, 0, 0, 27⟩ n0 #[(.ref a1), (.int 1)] h0 (fun v h => v = some (.int c) ∧ h0 = h) := by
  refine met_of (plainFor_of_name pn_3) (L0 := #[.val (.ref a1), .val (.int 1)]) (by first | (simp [argsToLocals, Value.category]; done) | rfl) ?_
  intro B C
  change Ctx B l _ _ "java/lang/StringLatin1" "charAt" _ _ Z at C
  have cm' := cm
  obtain ⟨⟨cz, Scz, hcz⟩, Sas, Shi, Slo, Sfm⟩ := cm'
  refine iN C 1 d13_0 rfl <| aN C ((.ref a1)) d13_1 rfl rfl <| yarraylength C A1 (z := 4) rfl d13_2 <| cS C hw 62 63 4 64 rfl rfl rfl rfl (rm_sci hw 1 4 h0 Z0 cm O (by decide) (by decide)) [] [(.int 1), (.int 4)] pd_11 0 d13_3 ⟨rfl, rfl, rfl, rfl, rfl⟩ (by decide) ?_
  intro v_3 h_1 q_2
  obtain ⟨rfl, rfl⟩ := q_2
  show Go _ _ _ _ 0 0 6 _ []
  refine aN C ((.ref a1)) d13_6 rfl rfl <| iN C 1 d13_7 rfl <| ybaloadB C A1 (by decide) (i := 1) (by decide) (v := x1) rfl d13_8 <| iP C 255 d13_9 rfl <| yiand C d13_12 <| yi2c C d13_13 ?_
  rw [ec]
  refine g_ret C (v := (.int c)) (ty := .char) rfl (own_nch kc) (Or.inl ⟨rfl, Or.inr (Or.inr (Or.inr (Or.inl rfl))), _, rfl⟩) d13_14 (by decide) (by decide) ?_
  exact ⟨rfl, rfl⟩
theorem rm_charAt_4_1_0 (hw : HW a0 Z) (a1 b1 : Addr) (x0 x1 x2 x3 c : Int32) (h0 : Heap) (Z0 : n0 ≤ h0.size) (cm : Um Z) (O : Old Z n0 h0) (E0 : Exa Z h0 a1 "java/lang/String") (F0 : Fld Z h0 a1 "java/lang/String" "value" "[B" (.ref b1)) (F1 : Fld Z h0 a1 "java/lang/String" "coder" "B" (.int 0)) (A1 : Ary Z h0 b1 .byte [.int x0, .int x1, .int x2, .int x3]) (ec : (UInt32.toInt32 (UInt16.toUInt32 (UInt32.toUInt16 (Int32.toUInt32 (x1 &&& 255))))) = c) (kc : nar .char c = c) :
    Met1 l Z ⟨"java/lang/String", "charAt", "(I)C"⟩ jdk_42_method_56_code 2 (some .char) ⟨3, 0, 0, 40⟩ n0 #[(.ref a1), (.int 1)] h0 (fun v h => v = some (.int c) ∧ h0 = h) := by
  refine met_of (plainFor_of_name pn_5) (L0 := #[.val (.ref a1), .val (.int 1)]) (by first | (simp [argsToLocals, Value.category]; done) | rfl) ?_
  intro B C
  change Ctx B l _ _ "java/lang/String" "charAt" _ _ Z at C
  have cm' := cm
  obtain ⟨⟨cz, Scz, hcz⟩, Sas, Shi, Slo, Sfm⟩ := cm'
  refine aN C ((.ref a1)) d11_0 rfl rfl <| cV C hw 53 54 56 55 4 57 rfl rfl rfl rfl rfl rfl E0 (rm_isLatin1_0 hw a1 h0 Z0 cm O F1) [] [] pd_16 0 d11_1 ⟨rfl, rfl, rfl, rfl, rfl⟩ (by decide) ?_
  intro v_3 h_1 q_2
  obtain ⟨rfl, rfl⟩ := q_2
  show Go _ _ _ _ 0 0 4 _ [(.int 1)]
  refine yif_n C d11_4 (XT.i0_eq_f (by decide)) <| aN C ((.ref a1)) d11_7 rfl rfl <| ygetfield C (host := "") (v := (.ref b1)) (Or.inl (oW hw 29 rfl)) Via.refl F0 d11_8 <| iN C 1 d11_11 rfl <| cS C hw 58 59 60 61 rfl rfl rfl rfl (rm_lchar_4_1 hw b1 x0 x1 x2 x3 c h0 Z0 cm O A1 ec kc) [] [(.ref b1), (.int 1)] pd_20 0 d11_12 ⟨rfl, rfl, rfl, rfl, rfl⟩ (by decide) ?_
  intro v_7 h_5 q_6
  obtain ⟨rfl, rfl⟩ := q_6
  show Go _ _ _ _ 0 0 15 _ [(.int c)]
  refine g_ret C (v := (.int c)) (ty := .char) rfl (own_nch kc) (Or.inl ⟨rfl, Or.inr (Or.inr (Or.inr (Or.inl rfl))), _, rfl⟩) d11_15 (by decide) (by decide) ?_
  exact ⟨rfl, rfl⟩
theorem rm_second_4_0_0 (hw : HW a0 Z) (a1 b1 : Addr) (x0 x1 x2 x3 c : Int32) (h0 : Heap) (Z0 : n0 ≤ h0.size) (cm : Um Z) (O : Old Z n0 h0) (E0 : Exa Z h0 a1 "java/lang/String") (F0 : Fld Z h0 a1 "java/lang/String" "value" "[B" (.ref b1)) (F1 : Fld Z h0 a1 "java/lang/String" "coder" "B" (.int 0)) (A1 : Ary Z h0 b1 .byte [.int x0, .int x1, .int x2, .int x3]) (e0 : (UInt32.toInt32 (UInt16.toUInt32 (UInt32.toUInt16 (Int32.toUInt32 (x0 &&& 255))))) = 60) (e1 : (UInt32.toInt32 (UInt16.toUInt32 (UInt32.toUInt16 (Int32.toUInt32 (x1 &&& 255))))) = c) (kc : nar .char c = c) :
    Met1 l Z ⟨"com/example/poder/poder/format/Markup", "second", "(Ljava/lang/String;I)C"⟩ prog_12_method_12_code 3 (some .char) ⟨4, 0, 0, 53⟩ n0 #[(.ref a1), (.int 0)] h0 (fun v h => v = some (.int c) ∧ h0 = h) := by
  refine met_of (plainFor_of_name pn_1) (L0 := #[.val (.ref a1), .val (.int 0), .unset]) (by first | (simp [argsToLocals, Value.category]; done) | rfl) ?_
  intro B C
  change Ctx B l _ _ "com/example/poder/poder/format/Markup" "second" _ _ Z at C
  have cm' := cm
  obtain ⟨⟨cz, Scz, hcz⟩, Sas, Shi, Slo, Sfm⟩ := cm'
  refine iN C 0 d8_0 rfl <| yif_n C d8_1 (XT.i0_lt_f (by decide)) <| iN C 0 d8_4 rfl <| iC C 1 d8_5 rfl <| yiadd C d8_6 <| eS [(.int 1)] rfl <| aN C ((.ref a1)) d8_7 rfl rfl <| cV C hw 38 39 41 40 4 42 rfl rfl rfl rfl rfl rfl E0 (rm_lenK_4_0 hw a1 b1 x0 x1 x2 x3 h0 Z0 cm O E0 F0 F1 A1) [(.int 1)] [] pd_22 1 d8_8 ⟨rfl, rfl, rfl, rfl, rfl⟩ (by decide) ?_
  intro v_3 h_1 q_2
  obtain ⟨rfl, rfl⟩ := q_2
  show Go _ _ _ _ 0 0 11 _ [(.int 4), (.int 1)]
  refine yicmp_n C d8_11 (XT.ii_ge_f (by decide)) <| aN C ((.ref a1)) d8_14 rfl rfl <| iN C 0 d8_15 rfl <| cV C hw 48 49 51 50 4 52 rfl rfl rfl rfl rfl rfl E0 (rm_charAt_4_0_0 hw a1 b1 x0 x1 x2 x3 60 h0 Z0 cm O E0 F0 F1 A1 e0 (by decide)) [] [(.int 0)] pd_23 0 d8_16 ⟨rfl, rfl, rfl, rfl, rfl⟩ (by decide) ?_
  intro v_7 h_5 q_6
  obtain ⟨rfl, rfl⟩ := q_6
  show Go _ _ _ _ 0 0 19 _ [(.int 60)]
  refine iB C 60 d8_19 rfl <| yicmp_n C d8_21 (XT.ii_ne_f (by decide)) <| iC C 1 d8_24 rfl <| gT C d8_25 29 (by decide) <| iT C d8_29 (#[aV a1, iV 0, iV 1]) rfl <| iN C 1 d8_30 rfl <| yif_n C d8_31 (XT.i0_eq_f (by decide)) <| aN C ((.ref a1)) d8_34 rfl rfl <| iN C 0 d8_35 rfl <| iC C 1 d8_36 rfl <| yiadd C d8_37 <| eS [(.int 1), (.ref a1)] rfl <| cV C hw 48 49 51 50 4 52 rfl rfl rfl rfl rfl rfl E0 (rm_charAt_4_1_0 hw a1 b1 x0 x1 x2 x3 c h0 Z0 cm O E0 F0 F1 A1 e1 kc) [] [(.int 1)] pd_23 0 d8_38 ⟨rfl, rfl, rfl, rfl, rfl⟩ (by decide) ?_
  intro v_11 h_9 q_10
  obtain ⟨rfl, rfl⟩ := q_10
  show Go _ _ _ _ 0 0 41 _ [(.int c)]
  refine gT C d8_41 45 (by decide) ?_
  refine g_ret C (v := (.int c)) (ty := .char) rfl (own_nch kc) (Or.inl ⟨rfl, Or.inr (Or.inr (Or.inr (Or.inl rfl))), _, rfl⟩) d8_45 (by decide) (by decide) ?_
  exact ⟨rfl, rfl⟩
theorem rm_isStart_4_0_0 (hw : HW a0 Z) (a1 b1 : Addr) (x0 x1 x2 x3 c : Int32) (h0 : Heap) (Z0 : n0 ≤ h0.size) (cm : Um Z) (O : Old Z n0 h0) (E0 : Exa Z h0 a1 "java/lang/String") (F0 : Fld Z h0 a1 "java/lang/String" "value" "[B" (.ref b1)) (F1 : Fld Z h0 a1 "java/lang/String" "coder" "B" (.int 0)) (A1 : Ary Z h0 b1 .byte [.int x0, .int x1, .int x2, .int x3]) (e0 : (UInt32.toInt32 (UInt16.toUInt32 (UInt32.toUInt16 (Int32.toUInt32 (x0 &&& 255))))) = 60) (e1 : (UInt32.toInt32 (UInt16.toUInt32 (UInt32.toUInt16 (Int32.toUInt32 (x1 &&& 255))))) = c) (kc : nar .char c = c) :
    Met1 l Z ⟨"com/example/poder/poder/format/Markup", "isStartTag", "(Ljava/lang/String;I)Z"⟩ prog_12_method_2_code 3 (some .boolean) ⟨5, 0, 0, 67⟩ n0 #[(.ref a1), (.int 0)] h0 (fun v h => ∃ r : Int32, v = some (.int r) ∧ (c = 47 ∨ c = 33 ∨ c = 63 → r = 0) ∧ (¬ c = 47 → ¬ c = 33 → ¬ c = 63 → r = 1) ∧ h0 = h) := by
  refine met_of (plainFor_of_name pn_1) (L0 := #[.val (.ref a1), .val (.int 0), .unset]) (by first | (simp [argsToLocals, Value.category]; done) | rfl) ?_
  intro B C
  change Ctx B l _ _ "com/example/poder/poder/format/Markup" "isStartTag" _ _ Z at C
  have cm' := cm
  obtain ⟨⟨cz, Scz, hcz⟩, Sas, Shi, Slo, Sfm⟩ := cm'
  refine aN C ((.ref a1)) d7_0 rfl rfl <| iN C 0 d7_1 rfl <| cS C hw 35 36 33 37 rfl rfl rfl rfl (rm_second_4_0_0 hw a1 b1 x0 x1 x2 x3 c h0 Z0 cm O E0 F0 F1 A1 e0 e1 kc) [] [(.ref a1), (.int 0)] pd_19 0 d7_2 ⟨rfl, rfl, rfl, rfl, rfl⟩ (by decide) ?_
  intro v_3 h_1 q_2
  obtain ⟨rfl, rfl⟩ := q_2
  show Go _ _ _ _ 0 0 5 _ [(.int c)]
  refine iT C d7_5 (#[aV a1, iV 0, iV c]) rfl <| iN C c d7_6 rfl <| iB C 47 d7_7 rfl ?_
  by_cases hb_5 : c = 47
  · refine cY C d7_9 (XT.ii_eq_t hb_5) 28 (by decide) <| iC C 0 d7_28 rfl ?_
    refine g_ret C (v := (.int 0)) (ty := .boolean) rfl rfl (Or.inl ⟨rfl, Or.inr (Or.inl rfl), _, rfl⟩) d7_29 (by decide) (by decide) ?_
    exact ⟨_, rfl, fun _ => rfl, fun q1 q2 q3 => absurd hb_5 q1, rfl⟩
  · refine yicmp_n C d7_9 (XT.ii_eq_f hb_5) <| iN C c d7_12 rfl <| iB C 33 d7_13 rfl ?_
    by_cases hb_6 : c = 33
    · refine cY C d7_15 (XT.ii_eq_t hb_6) 28 (by decide) <| iC C 0 d7_28 rfl ?_
      refine g_ret C (v := (.int 0)) (ty := .boolean) rfl rfl (Or.inl ⟨rfl, Or.inr (Or.inl rfl), _, rfl⟩) d7_29 (by decide) (by decide) ?_
      exact ⟨_, rfl, fun _ => rfl, fun q1 q2 q3 => absurd hb_6 q2, rfl⟩
    · refine yicmp_n C d7_15 (XT.ii_eq_f hb_6) <| iN C c d7_18 rfl <| iB C 63 d7_19 rfl ?_
      by_cases hb_7 : c = 63
      · refine cY C d7_21 (XT.ii_eq_t hb_7) 28 (by decide) <| iC C 0 d7_28 rfl ?_
        refine g_ret C (v := (.int 0)) (ty := .boolean) rfl rfl (Or.inl ⟨rfl, Or.inr (Or.inl rfl), _, rfl⟩) d7_29 (by decide) (by decide) ?_
        exact ⟨_, rfl, fun _ => rfl, fun q1 q2 q3 => absurd hb_7 q3, rfl⟩
      · refine yicmp_n C d7_21 (XT.ii_eq_f hb_7) <| iC C 1 d7_24 rfl <| gT C d7_25 29 (by decide) ?_
        refine g_ret C (v := (.int 1)) (ty := .boolean) rfl rfl (Or.inl ⟨rfl, Or.inr (Or.inl rfl), _, rfl⟩) d7_29 (by decide) (by decide) ?_
        exact ⟨_, rfl, fun q => (by rcases q with q | q | q; exact absurd q hb_5; exact absurd q hb_6; exact absurd q hb_7), fun _ _ _ => rfl, rfl⟩
theorem rm_lenK_4_1 (hw : HW a0 Z) (a1 b1 : Addr) (x0 x1 x2 x3 x4 x5 x6 x7 : Int32) (h0 : Heap) (Z0 : n0 ≤ h0.size) (cm : Um Z) (O : Old Z n0 h0) (E0 : Exa Z h0 a1 "java/lang/String") (F0 : Fld Z h0 a1 "java/lang/String" "value" "[B" (.ref b1)) (F1 : Fld Z h0 a1 "java/lang/String" "coder" "B" (.int 1)) (A1 : Ary Z h0 b1 .byte [.int x0, .int x1, .int x2, .int x3, .int x4, .int x5, .int x6, .int x7]) :
    Met1 l Z ⟨"java/lang/String", "length", "()I"⟩ jdk_42_method_54_code 1 (some .int) ⟨1, 0, 0, 13⟩ n0 #[(.ref a1)] h0 (fun v h => v = some (.int 4) ∧ h0 = h) := by
  refine met_of (plainFor_of_name pn_5) (L0 := #[.val (.ref a1)]) (by first | (simp [argsToLocals, Value.category]; done) | rfl) ?_
  intro B C
  change Ctx B l _ _ "java/lang/String" "length" _ _ Z at C
  have cm' := cm
  obtain ⟨⟨cz, Scz, hcz⟩, Sas, Shi, Slo, Sfm⟩ := cm'
  refine aN C ((.ref a1)) d9_0 rfl rfl <| ygetfield C (host := "") (v := (.ref b1)) (Or.inl (oW hw 29 rfl)) Via.refl F0 d9_1 <| yarraylength C A1 (z := 8) rfl d9_4 <| aN C ((.ref a1)) d9_5 rfl rfl <| cV C hw 43 44 46 45 4 47 rfl rfl rfl rfl rfl rfl E0 (rm_coder_1 hw a1 h0 Z0 cm O F1) [(.int 8)] [] pd_26 1 d9_6 ⟨rfl, rfl, rfl, rfl, rfl⟩ (by decide) ?_
  intro v_3 h_1 q_2
  obtain ⟨rfl, rfl⟩ := q_2
  show Go _ _ _ _ 0 0 9 _ [(.int 1), (.int 8)]
  refine yishr C d9_9 <| eS [(.int 4)] rfl ?_
  refine g_ret C (v := (.int 4)) (ty := .int) rfl rfl (Or.inl ⟨rfl, Or.inl rfl, _, rfl⟩) d9_10 (by decide) (by decide) ?_
  exact ⟨rfl, rfl⟩
theorem rm_ulen_4 (hw : HW a0 Z) (a1 : Addr) (x0 x1 x2 x3 x4 x5 x6 x7 : Int32) (h0 : Heap) (Z0 : n0 ≤ h0.size) (A1 : Ary Z h0 a1 .byte [.int x0, .int x1, .int x2, .int x3, .int x4, .int x5, .int x6, .int x7]) :
    Met1 l Z ⟨"java/lang/StringUTF16", "length", "([B)I"⟩ jdk_52_method_6_code 1 (some .int) ⟨0, 0, 0, 0⟩ n0 #[(.ref a1)] h0 (fun v h => v = some (.int 4) ∧ h0 = h) := by
  refine met_of (plainFor_of_name pn_4) (L0 := #[.val (.ref a1)]) (by first | (simp [argsToLocals, Value.category]; done) | rfl) ?_
  intro B C
  change Ctx B l _ _ "java/lang/StringUTF16" "length" _ _ Z at C
  refine aN C ((.ref a1)) d23_0 rfl rfl <| yarraylength C A1 (z := 8) rfl d23_1 <| iC C 1 d23_2 rfl <| yishr C d23_3 <| eS [(.int 4)] rfl ?_
  refine g_ret C (v := (.int 4)) (ty := .int) rfl rfl (Or.inl ⟨rfl, Or.inl rfl, _, rfl⟩) d23_4 (by decide) (by decide) ?_
  exact ⟨rfl, rfl⟩
theorem rm_uci_4 (hw : HW a0 Z) (ix : Int32) (a1 : Addr) (x0 x1 x2 x3 x4 x5 x6 x7 : Int32) (h0 : Heap) (Z0 : n0 ≤ h0.size) (cm : Um Z) (O : Old Z n0 h0) (A1 : Ary Z h0 a1 .byte [.int x0, .int x1, .int x2, .int x3, .int x4, .int x5, .int x6, .int x7]) (hix : ¬ ix < 0) (hnx : ix < 4) :
    Met1 l Z ⟨"java/lang/StringUTF16", "checkIndex", "(I[B)V"⟩ jdk_52_method_91_code 2 none ⟨2, 0, 0, 27⟩ n0 #[(.int ix), (.ref a1)] h0 (fun v h => v = none ∧ h0 = h) := by
  refine met_of (plainFor_of_name pn_4) (L0 := #[.val (.int ix), .val (.ref a1)]) (by first | (simp [argsToLocals, Value.category]; done) | rfl) ?_
  intro B C
  change Ctx B l _ _ "java/lang/StringUTF16" "checkIndex" _ _ Z at C
  have cm' := cm
  obtain ⟨⟨cz, Scz, hcz⟩, Sas, Shi, Slo, Sfm⟩ := cm'
  refine iN C ix d22_0 rfl <| aN C ((.ref a1)) d22_1 rfl rfl <| cS C hw 96 97 18 98 rfl rfl rfl rfl (rm_ulen_4 hw a1 x0 x1 x2 x3 x4 x5 x6 x7 h0 Z0 A1) [(.int ix)] [(.ref a1)] pd_21 1 d22_2 ⟨rfl, rfl, rfl, rfl, rfl⟩ (by decide) ?_
  intro v_3 h_1 q_2
  obtain ⟨rfl, rfl⟩ := q_2
  show Go _ _ _ _ 0 0 5 _ [(.int 4), (.int ix)]
  refine cS C hw 99 63 4 64 rfl rfl rfl rfl (rm_sci hw ix 4 h0 Z0 cm O hix hnx) [] [(.int ix), (.int 4)] pd_11 0 d22_5 ⟨rfl, rfl, rfl, rfl, rfl⟩ (by decide) ?_
  intro v_7 h_5 q_6
  obtain ⟨rfl, rfl⟩ := q_6
  show Go _ _ _ _ 0 0 8 _ []
  refine g_return C rfl d22_8 (by decide) (by decide) ?_
  exact ⟨rfl, rfl⟩
theorem rm_getC_4_0 (hw : HW a0 Z) (a1 : Addr) (x0 x1 x2 x3 x4 x5 x6 x7 c : Int32) (h0 : Heap) (Z0 : n0 ≤ h0.size) (cm : Um Z) (O : Old Z n0 h0) (A1 : Ary Z h0 a1 .byte [.int x0, .int x1, .int x2, .int x3, .int x4, .int x5, .int x6, .int x7]) (ec : (UInt32.toInt32 (UInt16.toUInt32 (UInt32.toUInt16 (Int32.toUInt32 (((x0 &&& 255) <<< (0 &&& 31)) ||| ((x1 &&& 255) <<< (8 &&& 31))))))) = c) (kc : nar .char c = c) :
    Met1 l Z ⟨"java/lang/StringUTF16", "getChar", "([BI)C"⟩ jdk_52_method_5_code 2 (some .char) ⟨0, 0, 0, 0⟩ n0 #[(.ref a1), (.int 0)] h0 (fun v h => v = some (.int c) ∧ h0 = h) := by
  refine met_of (plainFor_of_name pn_4) (L0 := #[.val (.ref a1), .val (.int 0)]) (by first | (simp [argsToLocals, Value.category]; done) | rfl) ?_
  intro B C
  change Ctx B l _ _ "java/lang/StringUTF16" "getChar" _ _ Z at C
  have cm' := cm
  obtain ⟨⟨cz, Scz, hcz⟩, Sas, Shi, Slo, Sfm⟩ := cm'
  refine ygetstatic C (host := "") (v := (.int 1)) (Or.inl (oW hw 84 rfl)) Via.refl (Sas.ext O.2) d20_0 <| fY C d20_3 (XT.i0_ne_t (by decide)) 28 (by decide) <| iN C 0 d20_28 rfl <| iC C 1 d20_29 rfl <| yishl C d20_30 <| eS [(.int 0)] rfl <| iT C d20_31 (#[aV a1, iV 0]) rfl <| aN C ((.ref a1)) d20_32 rfl rfl <| iN C 0 d20_33 rfl <| nC C 0 1 d20_34 rfl rfl (#[aV a1, iV 1]) rfl <| ybaloadB C A1 (by decide) (i := 0) (by decide) (v := x0) rfl d20_37 <| iP C 255 d20_38 rfl <| yiand C d20_41 <| ygetstatic C (host := "") (v := (.int 0)) (Or.inl (oW hw 85 rfl)) Via.refl (Shi.ext O.2) d20_42 <| yishl C d20_45 <| aN C ((.ref a1)) d20_46 rfl rfl <| iN C 1 d20_47 rfl <| ybaloadB C A1 (by decide) (i := 1) (by decide) (v := x1) rfl d20_48 <| iP C 255 d20_49 rfl <| yiand C d20_52 <| ygetstatic C (host := "") (v := (.int 8)) (Or.inl (oW hw 86 rfl)) Via.refl (Slo.ext O.2) d20_53 <| yishl C d20_56 <| yior C d20_57 <| yi2c C d20_58 ?_
  rw [ec]
  refine g_ret C (v := (.int c)) (ty := .char) rfl (own_nch kc) (Or.inl ⟨rfl, Or.inr (Or.inr (Or.inr (Or.inl rfl))), _, rfl⟩) d20_59 (by decide) (by decide) ?_
  exact ⟨rfl, rfl⟩
theorem rm_uchar_4_0 (hw : HW a0 Z) (a1 : Addr) (x0 x1 x2 x3 x4 x5 x6 x7 c : Int32) (h0 : Heap) (Z0 : n0 ≤ h0.size) (cm : Um Z) (O : Old Z n0 h0) (A1 : Ary Z h0 a1 .byte [.int x0, .int x1, .int x2, .int x3, .int x4, .int x5, .int x6, .int x7]) (ec : (UInt32.toInt32 (UInt16.toUInt32 (UInt32.toUInt16 (Int32.toUInt32 (((x0 &&& 255) <<< (0 &&& 31)) ||| ((x1 &&& 255) <<< (8 &&& 31))))))) = c) (kc : nar .char c = c) :
    Met1 l Z ⟨"java/lang/StringUTF16", "charAt", "([BI)C"⟩ jdk_52_method_83_code 2 (some .char) ⟨3, 0, 0, 40⟩ n0 #[(.ref a1), (.int 0)] h0 (fun v h => v = some (.int c) ∧ h0 = h) := by
  refine met_of (plainFor_of_name pn_4) (L0 := #[.val (.ref a1), .val (.int 0)]) (by first | (simp [argsToLocals, Value.category]; done) | rfl) ?_
  intro B C
  change Ctx B l _ _ "java/lang/StringUTF16" "charAt" _ _ Z at C
  have cm' := cm
  obtain ⟨⟨cz, Scz, hcz⟩, Sas, Shi, Slo, Sfm⟩ := cm'
  refine iN C 0 d21_0 rfl <| aN C ((.ref a1)) d21_1 rfl rfl <| cS C hw 93 94 18 95 rfl rfl rfl rfl (rm_uci_4 hw 0 a1 x0 x1 x2 x3 x4 x5 x6 x7 h0 Z0 cm O A1 (by decide) (by decide)) [] [(.int 0), (.ref a1)] pd_9 0 d21_2 ⟨rfl, rfl, rfl, rfl, rfl⟩ (by decide) ?_
  intro v_3 h_1 q_2
  obtain ⟨rfl, rfl⟩ := q_2
  show Go _ _ _ _ 0 0 5 _ []
  refine aN C ((.ref a1)) d21_5 rfl rfl <| iN C 0 d21_6 rfl <| cS C hw 87 88 18 89 rfl rfl rfl rfl (rm_getC_4_0 hw a1 x0 x1 x2 x3 x4 x5 x6 x7 c h0 Z0 cm O A1 ec kc) [] [(.ref a1), (.int 0)] pd_15 0 d21_7 ⟨rfl, rfl, rfl, rfl, rfl⟩ (by decide) ?_
  intro v_7 h_5 q_6
  obtain ⟨rfl, rfl⟩ := q_6
  show Go _ _ _ _ 0 0 10 _ [(.int c)]
  refine g_ret C (v := (.int c)) (ty := .char) rfl (own_nch kc) (Or.inl ⟨rfl, Or.inr (Or.inr (Or.inr (Or.inl rfl))), _, rfl⟩) d21_10 (by decide) (by decide) ?_
  exact ⟨rfl, rfl⟩
theorem rm_charAt_4_0_1 (hw : HW a0 Z) (a1 b1 : Addr) (x0 x1 x2 x3 x4 x5 x6 x7 c : Int32) (h0 : Heap) (Z0 : n0 ≤ h0.size) (cm : Um Z) (O : Old Z n0 h0) (E0 : Exa Z h0 a1 "java/lang/String") (F0 : Fld Z h0 a1 "java/lang/String" "value" "[B" (.ref b1)) (F1 : Fld Z h0 a1 "java/lang/String" "coder" "B" (.int 1)) (A1 : Ary Z h0 b1 .byte [.int x0, .int x1, .int x2, .int x3, .int x4, .int x5, .int x6, .int x7]) (ec : (UInt32.toInt32 (UInt16.toUInt32 (UInt32.toUInt16 (Int32.toUInt32 (((x0 &&& 255) <<< (0 &&& 31)) ||| ((x1 &&& 255) <<< (8 &&& 31))))))) = c) (kc : nar .char c = c) :
    Met1 l Z ⟨"java/lang/String", "charAt", "(I)C"⟩ jdk_42_method_56_code 2 (some .char) ⟨4, 0, 0, 53⟩ n0 #[(.ref a1), (.int 0)] h0 (fun v h => v = some (.int c) ∧ h0 = h) := by
  refine met_of (plainFor_of_name pn_5) (L0 := #[.val (.ref a1), .val (.int 0)]) (by first | (simp [argsToLocals, Value.category]; done) | rfl) ?_
  intro B C
  change Ctx B l _ _ "java/lang/String" "charAt" _ _ Z at C
  have cm' := cm
  obtain ⟨⟨cz, Scz, hcz⟩, Sas, Shi, Slo, Sfm⟩ := cm'
  refine aN C ((.ref a1)) d11_0 rfl rfl <| cV C hw 53 54 56 55 4 57 rfl rfl rfl rfl rfl rfl E0 (rm_isLatin1_1 hw a1 h0 Z0 cm O F1) [] [] pd_16 0 d11_1 ⟨rfl, rfl, rfl, rfl, rfl⟩ (by decide) ?_
  intro v_3 h_1 q_2
  obtain ⟨rfl, rfl⟩ := q_2
  show Go _ _ _ _ 0 0 4 _ [(.int 0)]
  refine fY C d11_4 (XT.i0_eq_t (by decide)) 16 (by decide) <| aN C ((.ref a1)) d11_16 rfl rfl <| ygetfield C (host := "") (v := (.ref b1)) (Or.inl (oW hw 29 rfl)) Via.refl F0 d11_17 <| iN C 0 d11_20 rfl <| cS C hw 90 91 18 92 rfl rfl rfl rfl (rm_uchar_4_0 hw b1 x0 x1 x2 x3 x4 x5 x6 x7 c h0 Z0 cm O A1 ec kc) [] [(.ref b1), (.int 0)] pd_20 0 d11_21 ⟨rfl, rfl, rfl, rfl, rfl⟩ (by decide) ?_
  intro v_7 h_5 q_6
  obtain ⟨rfl, rfl⟩ := q_6
  show Go _ _ _ _ 0 0 24 _ [(.int c)]
  refine g_ret C (v := (.int c)) (ty := .char) rfl (own_nch kc) (Or.inl ⟨rfl, Or.inr (Or.inr (Or.inr (Or.inl rfl))), _, rfl⟩) d11_24 (by decide) (by decide) ?_
  exact ⟨rfl, rfl⟩
theorem rm_uchar_4_1 (hw : HW a0 Z) (a1 : Addr) (x0 x1 x2 x3 x4 x5 x6 x7 c : Int32) (h0 : Heap) (Z0 : n0 ≤ h0.size) (cm : Um Z) (O : Old Z n0 h0) (A1 : Ary Z h0 a1 .byte [.int x0, .int x1, .int x2, .int x3, .int x4, .int x5, .int x6, .int x7]) (ec : (UInt32.toInt32 (UInt16.toUInt32 (UInt32.toUInt16 (Int32.toUInt32 (((x2 &&& 255) <<< (0 &&& 31)) ||| ((x3 &&& 255) <<< (8 &&& 31))))))) = c) (kc : nar .char c = c) :
    Met1 l Z ⟨"java/lang/StringUTF16", "charAt", "([BI)C"⟩ jdk_52_method_83_code 2 (some .char) ⟨3, 0, 0, 40⟩ n0 #[(.ref a1), (.int 1)] h0 (fun v h => v = some (.int c) ∧ h0 = h) := by
  refine met_of (plainFor_of_name pn_4) (L0 := #[.val (.ref a1), .val (.int 1)]) (by first | (simp [argsToLocals, Value.category]; done) | rfl) ?_
  intro B C
  change Ctx B l _ _ "java/lang/StringUTF16" "charAt" _ _ Z at C
  have cm' := cm
  obtain ⟨⟨cz, Scz, hcz⟩, Sas, Shi, Slo, Sfm⟩ := cm'
  refine iN C 1 d21_0 rfl <| aN C ((.ref a1)) d21_1 rfl rfl <| cS C hw 93 94 18 95 rfl rfl rfl rfl (rm_uci_4 hw 1 a1 x0 x1 x2 x3 x4 x5 x6 x7 h0 Z0 cm O A1 (by decide) (by decide)) [] [(.int 1), (.ref a1)] pd_9 0 d21_2 ⟨rfl, rfl, rfl, rfl, rfl⟩ (by decide) ?_
  intro v_3 h_1 q_2
  obtain ⟨rfl, rfl⟩ := q_2
  show Go _ _ _ _ 0 0 5 _ []
  refine aN C ((.ref a1)) d21_5 rfl rfl <| iN C 1 d21_6 rfl <| cS C hw 87 88 18 89 rfl rfl rfl rfl (rm_getC_4_1 hw a1 x0 x1 x2 x3 x4 x5 x6 x7 c h0 Z0 cm O A1 ec kc) [] [(.ref a1), (.int 1)] pd_15 0 d21_7 ⟨rfl, rfl, rfl, rfl, rfl⟩ (by decide) ?_
  intro v_7 h_5 q_6
  obtain ⟨rfl, rfl⟩ := q_6
  show Go _ _ _ _ 0 0 10 _ [(.int c)]
  refine g_ret C (v := (.int c)) (ty := .char) rfl (own_nch kc) (Or.inl ⟨rfl, Or.inr (Or.inr (Or.inr (Or.inl rfl))), _, rfl⟩) d21_10 (by decide) (by decide) ?_
  exact ⟨rfl, rfl⟩
theorem rm_charAt_4_1_1 (hw : HW a0 Z) (a1 b1 : Addr) (x0 x1 x2 x3 x4 x5 x6 x7 c : Int32) (h0 : Heap) (Z0 : n0 ≤ h0.size) (cm : Um Z) (O : Old Z n0 h0) (E0 : Exa Z h0 a1 "java/lang/String") (F0 : Fld Z h0 a1 "java/lang/String" "value" "[B" (.ref b1)) (F1 : Fld Z h0 a1 "java/lang/String" "coder" "B" (.int 1)) (A1 : Ary Z h0 b1 .byte [.int x0, .int x1, .int x2, .int x3, .int x4, .int x5, .int x6, .int x7]) (ec : (UInt32.toInt32 (UInt16.toUInt32 (UInt32.toUInt16 (Int32.toUInt32 (((x2 &&& 255) <<< (0 &&& 31)) ||| ((x3 &&& 255) <<< (8 &&& 31))))))) = c) (kc : nar .char c = c) :
    Met1 l Z ⟨"java/lang/String", "charAt", "(I)C"⟩ jdk_42_method_56_code 2 (some .char) ⟨4, 0, 0, 53⟩ n0 #[(.ref a1), (.int 1)] h0 (fun v h => v = some (.int c) ∧ h0 = h) := by
  refine met_of (plainFor_of_name pn_5) (L0 := #[.val (.ref a1), .val (.int 1)]) (by first | (simp [argsToLocals, Value.category]; done) | rfl) ?_
  intro B C
  change Ctx B l _ _ "java/lang/String" "charAt" _ _ Z at C
  have cm' := cm
  obtain ⟨⟨cz, Scz, hcz⟩, Sas, Shi, Slo, Sfm⟩ := cm'
  refine aN C ((.ref a1)) d11_0 rfl rfl <| cV C hw 53 54 56 55 4 57 rfl rfl rfl rfl rfl rfl E0 (rm_isLatin1_1 hw a1 h0 Z0 cm O F1) [] [] pd_16 0 d11_1 ⟨rfl, rfl, rfl, rfl, rfl⟩ (by decide) ?_
  intro v_3 h_1 q_2
  obtain ⟨rfl, rfl⟩ := q_2
  show Go _ _ _ _ 0 0 4 _ [(.int 0)]
  refine fY C d11_4 (XT.i0_eq_t (by decide)) 16 (by decide) <| aN C ((.ref a1)) d11_16 rfl rfl <| ygetfield C (host := "") (v := (.ref b1)) (Or.inl (oW hw 29 rfl)) Via.refl F0 d11_17 <| iN C 1 d11_20 rfl <| cS C hw 90 91 18 92 rfl rfl rfl rfl (rm_uchar_4_1 hw b1 x0 x1 x2 x3 x4 x5 x6 x7 c h0 Z0 cm O A1 ec kc) [] [(.ref b1), (.int 1)] pd_20 0 d11_21 ⟨rfl, rfl, rfl, rfl, rfl⟩ (by decide) ?_
  intro v_7 h_5 q_6
  obtain ⟨rfl, rfl⟩ := q_6
  show Go _ _ _ _ 0 0 24 _ [(.int c)]
  refine g_ret C (v := (.int c)) (ty := .char) rfl (own_nch kc) (Or.inl ⟨rfl, Or.inr (Or.inr (Or.inr (Or.inl rfl))), _, rfl⟩) d11_24 (by decide) (by decide) ?_
  exact ⟨rfl, rfl⟩
theorem rm_second_4_0_1 (hw : HW a0 Z) (a1 b1 : Addr) (x0 x1 x2 x3 x4 x5 x6 x7 c : Int32) (h0 : Heap) (Z0 : n0 ≤ h0.size) (cm : Um Z) (O : Old Z n0 h0) (E0 : Exa Z h0 a1 "java/lang/String") (F0 : Fld Z h0 a1 "java/lang/String" "value" "[B" (.ref b1)) (F1 : Fld Z h0 a1 "java/lang/String" "coder" "B" (.int 1)) (A1 : Ary Z h0 b1 .byte [.int x0, .int x1, .int x2, .int x3, .int x4, .int x5, .int x6, .int x7]) (e0 : (UInt32.toInt32 (UInt16.toUInt32 (UInt32.toUInt16 (Int32.toUInt32 (((x0 &&& 255) <<< (0 &&& 31)) ||| ((x1 &&& 255) <<< (8 &&& 31))))))) = 60) (e1 : (UInt32.toInt32 (UInt16.toUInt32 (UInt32.toUInt16 (Int32.toUInt32 (((x2 &&& 255) <<< (0 &&& 31)) ||| ((x3 &&& 255) <<< (8 &&& 31))))))) = c) (kc : nar .char c = c) :
    Met1 l Z ⟨"com/example/poder/poder/format/Markup", "second", "(Ljava/lang/String;I)C"⟩ prog_12_method_12_code 3 (some .char) ⟨5, 0, 0, 66⟩ n0 #[(.ref a1), (.int 0)] h0 (fun v h => v = some (.int c) ∧ h0 = h) := by
  refine met_of (plainFor_of_name pn_1) (L0 := #[.val (.ref a1), .val (.int 0), .unset]) (by first | (simp [argsToLocals, Value.category]; done) | rfl) ?_
  intro B C
  change Ctx B l _ _ "com/example/poder/poder/format/Markup" "second" _ _ Z at C
  have cm' := cm
  obtain ⟨⟨cz, Scz, hcz⟩, Sas, Shi, Slo, Sfm⟩ := cm'
  refine iN C 0 d8_0 rfl <| yif_n C d8_1 (XT.i0_lt_f (by decide)) <| iN C 0 d8_4 rfl <| iC C 1 d8_5 rfl <| yiadd C d8_6 <| eS [(.int 1)] rfl <| aN C ((.ref a1)) d8_7 rfl rfl <| cV C hw 38 39 41 40 4 42 rfl rfl rfl rfl rfl rfl E0 (rm_lenK_4_1 hw a1 b1 x0 x1 x2 x3 x4 x5 x6 x7 h0 Z0 cm O E0 F0 F1 A1) [(.int 1)] [] pd_22 1 d8_8 ⟨rfl, rfl, rfl, rfl, rfl⟩ (by decide) ?_
  intro v_3 h_1 q_2
  obtain ⟨rfl, rfl⟩ := q_2
  show Go _ _ _ _ 0 0 11 _ [(.int 4), (.int 1)]
  refine yicmp_n C d8_11 (XT.ii_ge_f (by decide)) <| aN C ((.ref a1)) d8_14 rfl rfl <| iN C 0 d8_15 rfl <| cV C hw 48 49 51 50 4 52 rfl rfl rfl rfl rfl rfl E0 (rm_charAt_4_0_1 hw a1 b1 x0 x1 x2 x3 x4 x5 x6 x7 60 h0 Z0 cm O E0 F0 F1 A1 e0 (by decide)) [] [(.int 0)] pd_23 0 d8_16 ⟨rfl, rfl, rfl, rfl, rfl⟩ (by decide) ?_
  intro v_7 h_5 q_6
  obtain ⟨rfl, rfl⟩ := q_6
  show Go _ _ _ _ 0 0 19 _ [(.int 60)]
  refine iB C 60 d8_19 rfl <| yicmp_n C d8_21 (XT.ii_ne_f (by decide)) <| iC C 1 d8_24 rfl <| gT C d8_25 29 (by decide) <| iT C d8_29 (#[aV a1, iV 0, iV 1]) rfl <| iN C 1 d8_30 rfl <| yif_n C d8_31 (XT.i0_eq_f (by decide)) <| aN C ((.ref a1)) d8_34 rfl rfl <| iN C 0 d8_35 rfl <| iC C 1 d8_36 rfl <| yiadd C d8_37 <| eS [(.int 1), (.ref a1)] rfl <| cV C hw 48 49 51 50 4 52 rfl rfl rfl rfl rfl rfl E0 (rm_charAt_4_1_1 hw a1 b1 x0 x1 x2 x3 x4 x5 x6 x7 c h0 Z0 cm O E0 F0 F1 A1 e1 kc) [] [(.int 1)] pd_23 0 d8_38 ⟨rfl, rfl, rfl, rfl, rfl⟩ (by decide) ?_
  intro v_11 h_9 q_10
  obtain ⟨rfl, rfl⟩ := q_10
  show Go _ _ _ _ 0 0 41 _ [(.int c)]
  refine gT C d8_41 45 (by decide) ?_
  refine g_ret C (v := (.int c)) (ty := .char) rfl (own_nch kc) (Or.inl ⟨rfl, Or.inr (Or.inr (Or.inr (Or.inl rfl))), _, rfl⟩) d8_45 (by decide) (by decide) ?_
  exact ⟨rfl, rfl⟩
theorem rm_isStart_4_0_1 (hw : HW a0 Z) (a1 b1 : Addr) (x0 x1 x2 x3 x4 x5 x6 x7 c : Int32) (h0 : Heap) (Z0 : n0 ≤ h0.size) (cm : Um Z) (O : Old Z n0 h0) (E0 : Exa Z h0 a1 "java/lang/String") (F0 : Fld Z h0 a1 "java/lang/String" "value" "[B" (.ref b1)) (F1 : Fld Z h0 a1 "java/lang/String" "coder" "B" (.int 1)) (A1 : Ary Z h0 b1 .byte [.int x0, .int x1, .int x2, .int x3, .int x4, .int x5, .int x6, .int x7]) (e0 : (UInt32.toInt32 (UInt16.toUInt32 (UInt32.toUInt16 (Int32.toUInt32 (((x0 &&& 255) <<< (0 &&& 31)) ||| ((x1 &&& 255) <<< (8 &&& 31))))))) = 60) (e1 : (UInt32.toInt32 (UInt16.toUInt32 (UInt32.toUInt16 (Int32.toUInt32 (((x2 &&& 255) <<< (0 &&& 31)) ||| ((x3 &&& 255) <<< (8 &&& 31))))))) = c) (kc : nar .char c = c) :
    Met1 l Z ⟨"com/example/poder/poder/format/Markup", "isStartTag", "(Ljava/lang/String;I)Z"⟩ prog_12_method_2_code 3 (some .boolean) ⟨6, 0, 0, 80⟩ n0 #[(.ref a1), (.int 0)] h0 (fun v h => ∃ r : Int32, v = some (.int r) ∧ (c = 47 ∨ c = 33 ∨ c = 63 → r = 0) ∧ (¬ c = 47 → ¬ c = 33 → ¬ c = 63 → r = 1) ∧ h0 = h) := by
  refine met_of (plainFor_of_name pn_1) (L0 := #[.val (.ref a1), .val (.int 0), .unset]) (by first | (simp [argsToLocals, Value.category]; done) | rfl) ?_
  intro B C
  change Ctx B l _ _ "com/example/poder/poder/format/Markup" "isStartTag" _ _ Z at C
  have cm' := cm
  obtain ⟨⟨cz, Scz, hcz⟩, Sas, Shi, Slo, Sfm⟩ := cm'
  refine aN C ((.ref a1)) d7_0 rfl rfl <| iN C 0 d7_1 rfl <| cS C hw 35 36 33 37 rfl rfl rfl rfl (rm_second_4_0_1 hw a1 b1 x0 x1 x2 x3 x4 x5 x6 x7 c h0 Z0 cm O E0 F0 F1 A1 e0 e1 kc) [] [(.ref a1), (.int 0)] pd_19 0 d7_2 ⟨rfl, rfl, rfl, rfl, rfl⟩ (by decide) ?_
  intro v_3 h_1 q_2
  obtain ⟨rfl, rfl⟩ := q_2
  show Go _ _ _ _ 0 0 5 _ [(.int c)]
  refine iT C d7_5 (#[aV a1, iV 0, iV c]) rfl <| iN C c d7_6 rfl <| iB C 47 d7_7 rfl ?_
  by_cases hb_5 : c = 47
  · refine cY C d7_9 (XT.ii_eq_t hb_5) 28 (by decide) <| iC C 0 d7_28 rfl ?_
    refine g_ret C (v := (.int 0)) (ty := .boolean) rfl rfl (Or.inl ⟨rfl, Or.inr (Or.inl rfl), _, rfl⟩) d7_29 (by decide) (by decide) ?_
    exact ⟨_, rfl, fun _ => rfl, fun q1 q2 q3 => absurd hb_5 q1, rfl⟩
  · refine yicmp_n C d7_9 (XT.ii_eq_f hb_5) <| iN C c d7_12 rfl <| iB C 33 d7_13 rfl ?_
    by_cases hb_6 : c = 33
    · refine cY C d7_15 (XT.ii_eq_t hb_6) 28 (by decide) <| iC C 0 d7_28 rfl ?_
      refine g_ret C (v := (.int 0)) (ty := .boolean) rfl rfl (Or.inl ⟨rfl, Or.inr (Or.inl rfl), _, rfl⟩) d7_29 (by decide) (by decide) ?_
      exact ⟨_, rfl, fun _ => rfl, fun q1 q2 q3 => absurd hb_6 q2, rfl⟩
    · refine yicmp_n C d7_15 (XT.ii_eq_f hb_6) <| iN C c d7_18 rfl <| iB C 63 d7_19 rfl ?_
      by_cases hb_7 : c = 63
      · refine cY C d7_21 (XT.ii_eq_t hb_7) 28 (by decide) <| iC C 0 d7_28 rfl ?_
        refine g_ret C (v := (.int 0)) (ty := .boolean) rfl rfl (Or.inl ⟨rfl, Or.inr (Or.inl rfl), _, rfl⟩) d7_29 (by decide) (by decide) ?_
        exact ⟨_, rfl, fun _ => rfl, fun q1 q2 q3 => absurd hb_7 q3, rfl⟩
      · refine yicmp_n C d7_21 (XT.ii_eq_f hb_7) <| iC C 1 d7_24 rfl <| gT C d7_25 29 (by decide) ?_
        refine g_ret C (v := (.int 1)) (ty := .boolean) rfl rfl (Or.inl ⟨rfl, Or.inr (Or.inl rfl), _, rfl⟩) d7_29 (by decide) (by decide) ?_
        exact ⟨_, rfl, fun q => (by rcases q with q | q | q; exact absurd q hb_5; exact absurd q hb_6; exact absurd q hb_7), fun _ _ _ => rfl, rfl⟩
theorem rm_lchar_4_2 (hw : HW a0 Z) (a1 : Addr) (x0 x1 x2 x3 c : Int32) (h0 : Heap) (Z0 : n0 ≤ h0.size) (cm : Um Z) (O : Old Z n0 h0) (A1 : Ary Z h0 a1 .byte [.int x0, .int x1, .int x2, .int x3]) (ec : (UInt32.toInt32 (UInt16.toUInt32 (UInt32.toUInt16 (Int32.toUInt32 (x2 &&& 255))))) = c) (kc : nar .char c = c) :
    Met1 l Z ⟨"java/lang/StringLatin1", "charAt", "([BI)C"⟩ jdk_43_method_2_code 2 (some .char) ⟨2, 0, 0, 27⟩ n0 #[(.ref a1), (.int 2)] h0 (fun v h => v = some (.int c) ∧ h0 = h) := by
  refine met_of (plainFor_of_name pn_3) (L0 := #[.val (.ref a1), .val (.int 2)]) (by first | (simp [argsToLocals, Value.category]; done) | rfl) ?_
  intro B C
  change Ctx B l _ _ "java/lang/StringLatin1" "charAt" _ _ Z at C
  have cm' := cm
  obtain ⟨⟨cz, Scz, hcz⟩, Sas, Shi, Slo, Sfm⟩ := cm'
  refine iN C 2 d13_0 rfl <| aN C ((.ref a1)) d13_1 rfl rfl <| yarraylength C A1 (z := 4) rfl d13_2 <| cS C hw 62 63 4 64 rfl rfl rfl rfl (rm_sci hw 2 4 h0 Z0 cm O (by decide) (by decide)) [] [(.int 2), (.int 4)] pd_11 0 d13_3 ⟨rfl, rfl, rfl, rfl, rfl⟩ (by decide) ?_
  intro v_3 h_1 q_2
  obtain ⟨rfl, rfl⟩ := q_2
  show Go _ _ _ _ 0 0 6 _ []
  refine aN C ((.ref a1)) d13_6 rfl rfl <| iN C 2 d13_7 rfl <| ybaloadB C A1 (by decide) (i := 2) (by decide) (v := x2) rfl d13_8 <| iP C 255 d13_9 rfl <| yiand C d13_12 <| yi2c C d13_13 ?_
  rw [ec]
  refine g_ret C (v := (.int c)) (ty := .char) rfl (own_nch kc) (Or.inl ⟨rfl, Or.inr (Or.inr (Or.inr (Or.inl rfl))), _, rfl⟩) d13_14 (by decide) (by decide) ?_
  exact ⟨rfl, rfl⟩
theorem rm_charAt_4_2_0 (hw : HW a0 Z) (a1 b1 : Addr) (x0 x1 x2 x3 c : Int32) (h0 : Heap) (Z0 : n0 ≤ h0.size) (cm : Um Z) (O : Old Z n0 h0) (E0 : Exa Z h0 a1 "java/lang/String") (F0 : Fld Z h0 a1 "java/lang/String" "value" "[B" (.ref b1)) (F1 : Fld Z h0 a1 "java/lang/String" "coder" "B" (.int 0)) (A1 : Ary Z h0 b1 .byte [.int x0, .int x1, .int x2, .int x3]) (ec : (UInt32.toInt32 (UInt16.toUInt32 (UInt32.toUInt16 (Int32.toUInt32 (x2 &&& 255))))) = c) (kc : nar .char c = c) :
    Met1 l Z ⟨"java/lang/String", "charAt", "(I)C"⟩ jdk_42_method_56_code 2 (some .char) ⟨3, 0, 0, 40⟩ n0 #[(.ref a1), (.int 2)] h0 (fun v h => v = some (.int c) ∧ h0 = h) := by
  refine met_of (plainFor_of_name pn_5) (L0 := #[.val (.ref a1), .val (.int 2)]) (by first | (simp [argsToLocals, Value.category]; done) | rfl) ?_
  intro B C
  change Ctx B l _ _ "java/lang/String" "charAt" _ _ Z at C
  have cm' := cm
  obtain ⟨⟨cz, Scz, hcz⟩, Sas, Shi, Slo, Sfm⟩ := cm'
  refine aN C ((.ref a1)) d11_0 rfl rfl <| cV C hw 53 54 56 55 4 57 rfl rfl rfl rfl rfl rfl E0 (rm_isLatin1_0 hw a1 h0 Z0 cm O F1) [] [] pd_16 0 d11_1 ⟨rfl, rfl, rfl, rfl, rfl⟩ (by decide) ?_
  intro v_3 h_1 q_2
  obtain ⟨rfl, rfl⟩ := q_2
  show Go _ _ _ _ 0 0 4 _ [(.int 1)]
  refine yif_n C d11_4 (XT.i0_eq_f (by decide)) <| aN C ((.ref a1)) d11_7 rfl rfl <| ygetfield C (host := "") (v := (.ref b1)) (Or.inl (oW hw 29 rfl)) Via.refl F0 d11_8 <| iN C 2 d11_11 rfl <| cS C hw 58 59 60 61 rfl rfl rfl rfl (rm_lchar_4_2 hw b1 x0 x1 x2 x3 c h0 Z0 cm O A1 ec kc) [] [(.ref b1), (.int 2)] pd_20 0 d11_12 ⟨rfl, rfl, rfl, rfl, rfl⟩ (by decide) ?_
  intro v_7 h_5 q_6
  obtain ⟨rfl, rfl⟩ := q_6
  show Go _ _ _ _ 0 0 15 _ [(.int c)]
  refine g_ret C (v := (.int c)) (ty := .char) rfl (own_nch kc) (Or.inl ⟨rfl, Or.inr (Or.inr (Or.inr (Or.inl rfl))), _, rfl⟩) d11_15 (by decide) (by decide) ?_
  exact ⟨rfl, rfl⟩
theorem rm_second_4_1_0 (hw : HW a0 Z) (a1 b1 : Addr) (x0 x1 x2 x3 c : Int32) (h0 : Heap) (Z0 : n0 ≤ h0.size) (cm : Um Z) (O : Old Z n0 h0) (E0 : Exa Z h0 a1 "java/lang/String") (F0 : Fld Z h0 a1 "java/lang/String" "value" "[B" (.ref b1)) (F1 : Fld Z h0 a1 "java/lang/String" "coder" "B" (.int 0)) (A1 : Ary Z h0 b1 .byte [.int x0, .int x1, .int x2, .int x3]) (e0 : (UInt32.toInt32 (UInt16.toUInt32 (UInt32.toUInt16 (Int32.toUInt32 (x1 &&& 255))))) = 60) (e1 : (UInt32.toInt32 (UInt16.toUInt32 (UInt32.toUInt16 (Int32.toUInt32 (x2 &&& 255))))) = c) (kc : nar .char c = c) :
    Met1 l Z ⟨"com/example/poder/poder/format/Markup", "second", "(Ljava/lang/String;I)C"⟩ prog_12_method_12_code 3 (some .char) ⟨4, 0, 0, 53⟩ n0 #[(.ref a1), (.int 1)] h0 (fun v h => v = some (.int c) ∧ h0 = h) := by
  refine met_of (plainFor_of_name pn_1) (L0 := #[.val (.ref a1), .val (.int 1), .unset]) (by first | (simp [argsToLocals, Value.category]; done) | rfl) ?_
  intro B C
  change Ctx B l _ _ "com/example/poder/poder/format/Markup" "second" _ _ Z at C
  have cm' := cm
  obtain ⟨⟨cz, Scz, hcz⟩, Sas, Shi, Slo, Sfm⟩ := cm'
  refine iN C 1 d8_0 rfl <| yif_n C d8_1 (XT.i0_lt_f (by decide)) <| iN C 1 d8_4 rfl <| iC C 1 d8_5 rfl <| yiadd C d8_6 <| eS [(.int 2)] rfl <| aN C ((.ref a1)) d8_7 rfl rfl <| cV C hw 38 39 41 40 4 42 rfl rfl rfl rfl rfl rfl E0 (rm_lenK_4_0 hw a1 b1 x0 x1 x2 x3 h0 Z0 cm O E0 F0 F1 A1) [(.int 2)] [] pd_22 1 d8_8 ⟨rfl, rfl, rfl, rfl, rfl⟩ (by decide) ?_
  intro v_3 h_1 q_2
  obtain ⟨rfl, rfl⟩ := q_2
  show Go _ _ _ _ 0 0 11 _ [(.int 4), (.int 2)]
  refine yicmp_n C d8_11 (XT.ii_ge_f (by decide)) <| aN C ((.ref a1)) d8_14 rfl rfl <| iN C 1 d8_15 rfl <| cV C hw 48 49 51 50 4 52 rfl rfl rfl rfl rfl rfl E0 (rm_charAt_4_1_0 hw a1 b1 x0 x1 x2 x3 60 h0 Z0 cm O E0 F0 F1 A1 e0 (by decide)) [] [(.int 1)] pd_23 0 d8_16 ⟨rfl, rfl, rfl, rfl, rfl⟩ (by decide) ?_
  intro v_7 h_5 q_6
  obtain ⟨rfl, rfl⟩ := q_6
  show Go _ _ _ _ 0 0 19 _ [(.int 60)]
  refine iB C 60 d8_19 rfl <| yicmp_n C d8_21 (XT.ii_ne_f (by decide)) <| iC C 1 d8_24 rfl <| gT C d8_25 29 (by decide) <| iT C d8_29 (#[aV a1, iV 1, iV 1]) rfl <| iN C 1 d8_30 rfl <| yif_n C d8_31 (XT.i0_eq_f (by decide)) <| aN C ((.ref a1)) d8_34 rfl rfl <| iN C 1 d8_35 rfl <| iC C 1 d8_36 rfl <| yiadd C d8_37 <| eS [(.int 2), (.ref a1)] rfl <| cV C hw 48 49 51 50 4 52 rfl rfl rfl rfl rfl rfl E0 (rm_charAt_4_2_0 hw a1 b1 x0 x1 x2 x3 c h0 Z0 cm O E0 F0 F1 A1 e1 kc) [] [(.int 2)] pd_23 0 d8_38 ⟨rfl, rfl, rfl, rfl, rfl⟩ (by decide) ?_
  intro v_11 h_9 q_10
  obtain ⟨rfl, rfl⟩ := q_10
  show Go _ _ _ _ 0 0 41 _ [(.int c)]
  refine gT C d8_41 45 (by decide) ?_
  refine g_ret C (v := (.int c)) (ty := .char) rfl (own_nch kc) (Or.inl ⟨rfl, Or.inr (Or.inr (Or.inr (Or.inl rfl))), _, rfl⟩) d8_45 (by decide) (by decide) ?_
  exact ⟨rfl, rfl⟩
theorem rm_isStart_4_1_0 (hw : HW a0 Z) (a1 b1 : Addr) (x0 x1 x2 x3 c : Int32) (h0 : Heap) (Z0 : n0 ≤ h0.size) (cm : Um Z) (O : Old Z n0 h0) (E0 : Exa Z h0 a1 "java/lang/String") (F0 : Fld Z h0 a1 "java/lang/String" "value" "[B" (.ref b1)) (F1 : Fld Z h0 a1 "java/lang/String" "coder" "B" (.int 0)) (A1 : Ary Z h0 b1 .byte [.int x0, .int x1, .int x2, .int x3]) (e0 : (UInt32.toInt32 (UInt16.toUInt32 (UInt32.toUInt16 (Int32.toUInt32 (x1 &&& 255))))) = 60) (e1 : (UInt32.toInt32 (UInt16.toUInt32 (UInt32.toUInt16 (Int32.toUInt32 (x2 &&& 255))))) = c) (kc : nar .char c = c) :
    Met1 l Z ⟨"com/example/poder/poder/format/Markup", "isStartTag", "(Ljava/lang/String;I)Z"⟩ prog_12_method_2_code 3 (some .boolean) ⟨5, 0, 0, 67⟩ n0 #[(.ref a1), (.int 1)] h0 (fun v h => ∃ r : Int32, v = some (.int r) ∧ (c = 47 ∨ c = 33 ∨ c = 63 → r = 0) ∧ (¬ c = 47 → ¬ c = 33 → ¬ c = 63 → r = 1) ∧ h0 = h) := by
  refine met_of (plainFor_of_name pn_1) (L0 := #[.val (.ref a1), .val (.int 1), .unset]) (by first | (simp [argsToLocals, Value.category]; done) | rfl) ?_
  intro B C
  change Ctx B l _ _ "com/example/poder/poder/format/Markup" "isStartTag" _ _ Z at C
  have cm' := cm
  obtain ⟨⟨cz, Scz, hcz⟩, Sas, Shi, Slo, Sfm⟩ := cm'
  refine aN C ((.ref a1)) d7_0 rfl rfl <| iN C 1 d7_1 rfl <| cS C hw 35 36 33 37 rfl rfl rfl rfl (rm_second_4_1_0 hw a1 b1 x0 x1 x2 x3 c h0 Z0 cm O E0 F0 F1 A1 e0 e1 kc) [] [(.ref a1), (.int 1)] pd_19 0 d7_2 ⟨rfl, rfl, rfl, rfl, rfl⟩ (by decide) ?_
  intro v_3 h_1 q_2
  obtain ⟨rfl, rfl⟩ := q_2
  show Go _ _ _ _ 0 0 5 _ [(.int c)]
  refine iT C d7_5 (#[aV a1, iV 1, iV c]) rfl <| iN C c d7_6 rfl <| iB C 47 d7_7 rfl ?_
  by_cases hb_5 : c = 47
  · refine cY C d7_9 (XT.ii_eq_t hb_5) 28 (by decide) <| iC C 0 d7_28 rfl ?_
    refine g_ret C (v := (.int 0)) (ty := .boolean) rfl rfl (Or.inl ⟨rfl, Or.inr (Or.inl rfl), _, rfl⟩) d7_29 (by decide) (by decide) ?_
    exact ⟨_, rfl, fun _ => rfl, fun q1 q2 q3 => absurd hb_5 q1, rfl⟩
  · refine yicmp_n C d7_9 (XT.ii_eq_f hb_5) <| iN C c d7_12 rfl <| iB C 33 d7_13 rfl ?_
    by_cases hb_6 : c = 33
    · refine cY C d7_15 (XT.ii_eq_t hb_6) 28 (by decide) <| iC C 0 d7_28 rfl ?_
      refine g_ret C (v := (.int 0)) (ty := .boolean) rfl rfl (Or.inl ⟨rfl, Or.inr (Or.inl rfl), _, rfl⟩) d7_29 (by decide) (by decide) ?_
      exact ⟨_, rfl, fun _ => rfl, fun q1 q2 q3 => absurd hb_6 q2, rfl⟩
    · refine yicmp_n C d7_15 (XT.ii_eq_f hb_6) <| iN C c d7_18 rfl <| iB C 63 d7_19 rfl ?_
      by_cases hb_7 : c = 63
      · refine cY C d7_21 (XT.ii_eq_t hb_7) 28 (by decide) <| iC C 0 d7_28 rfl ?_
        refine g_ret C (v := (.int 0)) (ty := .boolean) rfl rfl (Or.inl ⟨rfl, Or.inr (Or.inl rfl), _, rfl⟩) d7_29 (by decide) (by decide) ?_
        exact ⟨_, rfl, fun _ => rfl, fun q1 q2 q3 => absurd hb_7 q3, rfl⟩
      · refine yicmp_n C d7_21 (XT.ii_eq_f hb_7) <| iC C 1 d7_24 rfl <| gT C d7_25 29 (by decide) ?_
        refine g_ret C (v := (.int 1)) (ty := .boolean) rfl rfl (Or.inl ⟨rfl, Or.inr (Or.inl rfl), _, rfl⟩) d7_29 (by decide) (by decide) ?_
        exact ⟨_, rfl, fun q => (by rcases q with q | q | q; exact absurd q hb_5; exact absurd q hb_6; exact absurd q hb_7), fun _ _ _ => rfl, rfl⟩
theorem rm_uchar_4_2 (hw : HW a0 Z) (a1 : Addr) (x0 x1 x2 x3 x4 x5 x6 x7 c : Int32) (h0 : Heap) (Z0 : n0 ≤ h0.size) (cm : Um Z) (O : Old Z n0 h0) (A1 : Ary Z h0 a1 .byte [.int x0, .int x1, .int x2, .int x3, .int x4, .int x5, .int x6, .int x7]) (ec : (UInt32.toInt32 (UInt16.toUInt32 (UInt32.toUInt16 (Int32.toUInt32 (((x4 &&& 255) <<< (0 &&& 31)) ||| ((x5 &&& 255) <<< (8 &&& 31))))))) = c) (kc : nar .char c = c) :
    Met1 l Z ⟨"java/lang/StringUTF16", "charAt", "([BI)C"⟩ jdk_52_method_83_code 2 (some .char) ⟨3, 0, 0, 40⟩ n0 #[(.ref a1), (.int 2)] h0 (fun v h => v = some (.int c) ∧ h0 = h) := by
  refine met_of (plainFor_of_name pn_4) (L0 := #[.val (.ref a1), .val (.int 2)]) (by first | (simp [argsToLocals, Value.category]; done) | rfl) ?_
  intro B C
  change Ctx B l _ _ "java/lang/StringUTF16" "charAt" _ _ Z at C
  have cm' := cm
  obtain ⟨⟨cz, Scz, hcz⟩, Sas, Shi, Slo, Sfm⟩ := cm'
  refine iN C 2 d21_0 rfl <| aN C ((.ref a1)) d21_1 rfl rfl <| cS C hw 93 94 18 95 rfl rfl rfl rfl (rm_uci_4 hw 2 a1 x0 x1 x2 x3 x4 x5 x6 x7 h0 Z0 cm O A1 (by decide) (by decide)) [] [(.int 2), (.ref a1)] pd_9 0 d21_2 ⟨rfl, rfl, rfl, rfl, rfl⟩ (by decide) ?_
  intro v_3 h_1 q_2
  obtain ⟨rfl, rfl⟩ := q_2
  show Go _ _ _ _ 0 0 5 _ []
  refine aN C ((.ref a1)) d21_5 rfl rfl <| iN C 2 d21_6 rfl <| cS C hw 87 88 18 89 rfl rfl rfl rfl (rm_getC_4_2 hw a1 x0 x1 x2 x3 x4 x5 x6 x7 c h0 Z0 cm O A1 ec kc) [] [(.ref a1), (.int 2)] pd_15 0 d21_7 ⟨rfl, rfl, rfl, rfl, rfl⟩ (by decide) ?_
  intro v_7 h_5 q_6
  obtain ⟨rfl, rfl⟩ := q_6
  show Go _ _ _ _ 0 0 10 _ [(.int c)]
  refine g_ret C (v := (.int c)) (ty := .char) rfl (own_nch kc) (Or.inl ⟨rfl, Or.inr (Or.inr (Or.inr (Or.inl rfl))), _, rfl⟩) d21_10 (by decide) (by decide) ?_
  exact ⟨rfl, rfl⟩
theorem rm_charAt_4_2_1 (hw : HW a0 Z) (a1 b1 : Addr) (x0 x1 x2 x3 x4 x5 x6 x7 c : Int32) (h0 : Heap) (Z0 : n0 ≤ h0.size) (cm : Um Z) (O : Old Z n0 h0) (E0 : Exa Z h0 a1 "java/lang/String") (F0 : Fld Z h0 a1 "java/lang/String" "value" "[B" (.ref b1)) (F1 : Fld Z h0 a1 "java/lang/String" "coder" "B" (.int 1)) (A1 : Ary Z h0 b1 .byte [.int x0, .int x1, .int x2, .int x3, .int x4, .int x5, .int x6, .int x7]) (ec : (UInt32.toInt32 (UInt16.toUInt32 (UInt32.toUInt16 (Int32.toUInt32 (((x4 &&& 255) <<< (0 &&& 31)) ||| ((x5 &&& 255) <<< (8 &&& 31))))))) = c) (kc : nar .char c = c) :
    Met1 l Z ⟨"java/lang/String", "charAt", "(I)C"⟩ jdk_42_method_56_code 2 (some .char) ⟨4, 0, 0, 53⟩ n0 #[(.ref a1), (.int 2)] h0 (fun v h => v = some (.int c) ∧ h0 = h) := by
  refine met_of (plainFor_of_name pn_5) (L0 := #[.val (.ref a1), .val (.int 2)]) (by first | (simp [argsToLocals, Value.category]; done) | rfl) ?_
  intro B C
  change Ctx B l _ _ "java/lang/String" "charAt" _ _ Z at C
  have cm' := cm
  obtain ⟨⟨cz, Scz, hcz⟩, Sas, Shi, Slo, Sfm⟩ := cm'
  refine aN C ((.ref a1)) d11_0 rfl rfl <| cV C hw 53 54 56 55 4 57 rfl rfl rfl rfl rfl rfl E0 (rm_isLatin1_1 hw a1 h0 Z0 cm O F1) [] [] pd_16 0 d11_1 ⟨rfl, rfl, rfl, rfl, rfl⟩ (by decide) ?_
  intro v_3 h_1 q_2
  obtain ⟨rfl, rfl⟩ := q_2
  show Go _ _ _ _ 0 0 4 _ [(.int 0)]
  refine fY C d11_4 (XT.i0_eq_t (by decide)) 16 (by decide) <| aN C ((.ref a1)) d11_16 rfl rfl <| ygetfield C (host := "") (v := (.ref b1)) (Or.inl (oW hw 29 rfl)) Via.refl F0 d11_17 <| iN C 2 d11_20 rfl <| cS C hw 90 91 18 92 rfl rfl rfl rfl (rm_uchar_4_2 hw b1 x0 x1 x2 x3 x4 x5 x6 x7 c h0 Z0 cm O A1 ec kc) [] [(.ref b1), (.int 2)] pd_20 0 d11_21 ⟨rfl, rfl, rfl, rfl, rfl⟩ (by decide) ?_
  intro v_7 h_5 q_6
  obtain ⟨rfl, rfl⟩ := q_6
  show Go _ _ _ _ 0 0 24 _ [(.int c)]
  refine g_ret C (v := (.int c)) (ty := .char) rfl (own_nch kc) (Or.inl ⟨rfl, Or.inr (Or.inr (Or.inr (Or.inl rfl))), _, rfl⟩) d11_24 (by decide) (by decide) ?_
  exact ⟨rfl, rfl⟩
theorem rm_second_4_1_1 (hw : HW a0 Z) (a1 b1 : Addr) (x0 x1 x2 x3 x4 x5 x6 x7 c : Int32) (h0 : Heap) (Z0 : n0 ≤ h0.size) (cm : Um Z) (O : Old Z n0 h0) (E0 : Exa Z h0 a1 "java/lang/String") (F0 : Fld Z h0 a1 "java/lang/String" "value" "[B" (.ref b1)) (F1 : Fld Z h0 a1 "java/lang/String" "coder" "B" (.int 1)) (A1 : Ary Z h0 b1 .byte [.int x0, .int x1, .int x2, .int x3, .int x4, .int x5, .int x6, .int x7]) (e0 : (UInt32.toInt32 (UInt16.toUInt32 (UInt32.toUInt16 (Int32.toUInt32 (((x2 &&& 255) <<< (0 &&& 31)) ||| ((x3 &&& 255) <<< (8 &&& 31))))))) = 60) (e1 : (UInt32.toInt32 (UInt16.toUInt32 (UInt32.toUInt16 (Int32.toUInt32 (((x4 &&& 255) <<< (0 &&& 31)) ||| ((x5 &&& 255) <<< (8 &&& 31))))))) = c) (kc : nar .char c = c) :
    Met1 l Z ⟨"com/example/poder/poder/format/Markup", "second", "(Ljava/lang/String;I)C"⟩ prog_12_method_12_code 3 (some .char) ⟨5, 0, 0, 66⟩ n0 #[(.ref a1), (.int 1)] h0 (fun v h => v = some (.int c) ∧ h0 = h) := by
  refine met_of (plainFor_of_name pn_1) (L0 := #[.val (.ref a1), .val (.int 1), .unset]) (by first | (simp [argsToLocals, Value.category]; done) | rfl) ?_
  intro B C
  change Ctx B l _ _ "com/example/poder/poder/format/Markup" "second" _ _ Z at C
  have cm' := cm
  obtain ⟨⟨cz, Scz, hcz⟩, Sas, Shi, Slo, Sfm⟩ := cm'
  refine iN C 1 d8_0 rfl <| yif_n C d8_1 (XT.i0_lt_f (by decide)) <| iN C 1 d8_4 rfl <| iC C 1 d8_5 rfl <| yiadd C d8_6 <| eS [(.int 2)] rfl <| aN C ((.ref a1)) d8_7 rfl rfl <| cV C hw 38 39 41 40 4 42 rfl rfl rfl rfl rfl rfl E0 (rm_lenK_4_1 hw a1 b1 x0 x1 x2 x3 x4 x5 x6 x7 h0 Z0 cm O E0 F0 F1 A1) [(.int 2)] [] pd_22 1 d8_8 ⟨rfl, rfl, rfl, rfl, rfl⟩ (by decide) ?_
  intro v_3 h_1 q_2
  obtain ⟨rfl, rfl⟩ := q_2
  show Go _ _ _ _ 0 0 11 _ [(.int 4), (.int 2)]
  refine yicmp_n C d8_11 (XT.ii_ge_f (by decide)) <| aN C ((.ref a1)) d8_14 rfl rfl <| iN C 1 d8_15 rfl <| cV C hw 48 49 51 50 4 52 rfl rfl rfl rfl rfl rfl E0 (rm_charAt_4_1_1 hw a1 b1 x0 x1 x2 x3 x4 x5 x6 x7 60 h0 Z0 cm O E0 F0 F1 A1 e0 (by decide)) [] [(.int 1)] pd_23 0 d8_16 ⟨rfl, rfl, rfl, rfl, rfl⟩ (by decide) ?_
  intro v_7 h_5 q_6
  obtain ⟨rfl, rfl⟩ := q_6
  show Go _ _ _ _ 0 0 19 _ [(.int 60)]
  refine iB C 60 d8_19 rfl <| yicmp_n C d8_21 (XT.ii_ne_f (by decide)) <| iC C 1 d8_24 rfl <| gT C d8_25 29 (by decide) <| iT C d8_29 (#[aV a1, iV 1, iV 1]) rfl <| iN C 1 d8_30 rfl <| yif_n C d8_31 (XT.i0_eq_f (by decide)) <| aN C ((.ref a1)) d8_34 rfl rfl <| iN C 1 d8_35 rfl <| iC C 1 d8_36 rfl <| yiadd C d8_37 <| eS [(.int 2), (.ref a1)] rfl <| cV C hw 48 49 51 50 4 52 rfl rfl rfl rfl rfl rfl E0 (rm_charAt_4_2_1 hw a1 b1 x0 x1 x2 x3 x4 x5 x6 x7 c h0 Z0 cm O E0 F0 F1 A1 e1 kc) [] [(.int 2)] pd_23 0 d8_38 ⟨rfl, rfl, rfl, rfl, rfl⟩ (by decide) ?_
  intro v_11 h_9 q_10
  obtain ⟨rfl, rfl⟩ := q_10
  show Go _ _ _ _ 0 0 41 _ [(.int c)]
  refine gT C d8_41 45 (by decide) ?_
  refine g_ret C (v := (.int c)) (ty := .char) rfl (own_nch kc) (Or.inl ⟨rfl, Or.inr (Or.inr (Or.inr (Or.inl rfl))), _, rfl⟩) d8_45 (by decide) (by decide) ?_
  exact ⟨rfl, rfl⟩
theorem rm_isStart_4_1_1 (hw : HW a0 Z) (a1 b1 : Addr) (x0 x1 x2 x3 x4 x5 x6 x7 c : Int32) (h0 : Heap) (Z0 : n0 ≤ h0.size) (cm : Um Z) (O : Old Z n0 h0) (E0 : Exa Z h0 a1 "java/lang/String") (F0 : Fld Z h0 a1 "java/lang/String" "value" "[B" (.ref b1)) (F1 : Fld Z h0 a1 "java/lang/String" "coder" "B" (.int 1)) (A1 : Ary Z h0 b1 .byte [.int x0, .int x1, .int x2, .int x3, .int x4, .int x5, .int x6, .int x7]) (e0 : (UInt32.toInt32 (UInt16.toUInt32 (UInt32.toUInt16 (Int32.toUInt32 (((x2 &&& 255) <<< (0 &&& 31)) ||| ((x3 &&& 255) <<< (8 &&& 31))))))) = 60) (e1 : (UInt32.toInt32 (UInt16.toUInt32 (UInt32.toUInt16 (Int32.toUInt32 (((x4 &&& 255) <<< (0 &&& 31)) ||| ((x5 &&& 255) <<< (8 &&& 31))))))) = c) (kc : nar .char c = c) :
    Met1 l Z ⟨"com/example/poder/poder/format/Markup", "isStartTag", "(Ljava/lang/String;I)Z"⟩ prog_12_method_2_code 3 (some .boolean) ⟨6, 0, 0, 80⟩ n0 #[(.ref a1), (.int 1)] h0 (fun v h => ∃ r : Int32, v = some (.int r) ∧ (c = 47 ∨ c = 33 ∨ c = 63 → r = 0) ∧ (¬ c = 47 → ¬ c = 33 → ¬ c = 63 → r = 1) ∧ h0 = h) := by
  refine met_of (plainFor_of_name pn_1) (L0 := #[.val (.ref a1), .val (.int 1), .unset]) (by first | (simp [argsToLocals, Value.category]; done) | rfl) ?_
  intro B C
  change Ctx B l _ _ "com/example/poder/poder/format/Markup" "isStartTag" _ _ Z at C
  have cm' := cm
  obtain ⟨⟨cz, Scz, hcz⟩, Sas, Shi, Slo, Sfm⟩ := cm'
  refine aN C ((.ref a1)) d7_0 rfl rfl <| iN C 1 d7_1 rfl <| cS C hw 35 36 33 37 rfl rfl rfl rfl (rm_second_4_1_1 hw a1 b1 x0 x1 x2 x3 x4 x5 x6 x7 c h0 Z0 cm O E0 F0 F1 A1 e0 e1 kc) [] [(.ref a1), (.int 1)] pd_19 0 d7_2 ⟨rfl, rfl, rfl, rfl, rfl⟩ (by decide) ?_
  intro v_3 h_1 q_2
  obtain ⟨rfl, rfl⟩ := q_2
  show Go _ _ _ _ 0 0 5 _ [(.int c)]
  refine iT C d7_5 (#[aV a1, iV 1, iV c]) rfl <| iN C c d7_6 rfl <| iB C 47 d7_7 rfl ?_
  by_cases hb_5 : c = 47
  · refine cY C d7_9 (XT.ii_eq_t hb_5) 28 (by decide) <| iC C 0 d7_28 rfl ?_
    refine g_ret C (v := (.int 0)) (ty := .boolean) rfl rfl (Or.inl ⟨rfl, Or.inr (Or.inl rfl), _, rfl⟩) d7_29 (by decide) (by decide) ?_
    exact ⟨_, rfl, fun _ => rfl, fun q1 q2 q3 => absurd hb_5 q1, rfl⟩
  · refine yicmp_n C d7_9 (XT.ii_eq_f hb_5) <| iN C c d7_12 rfl <| iB C 33 d7_13 rfl ?_
    by_cases hb_6 : c = 33
    · refine cY C d7_15 (XT.ii_eq_t hb_6) 28 (by decide) <| iC C 0 d7_28 rfl ?_
      refine g_ret C (v := (.int 0)) (ty := .boolean) rfl rfl (Or.inl ⟨rfl, Or.inr (Or.inl rfl), _, rfl⟩) d7_29 (by decide) (by decide) ?_
      exact ⟨_, rfl, fun _ => rfl, fun q1 q2 q3 => absurd hb_6 q2, rfl⟩
    · refine yicmp_n C d7_15 (XT.ii_eq_f hb_6) <| iN C c d7_18 rfl <| iB C 63 d7_19 rfl ?_
      by_cases hb_7 : c = 63
      · refine cY C d7_21 (XT.ii_eq_t hb_7) 28 (by decide) <| iC C 0 d7_28 rfl ?_
        refine g_ret C (v := (.int 0)) (ty := .boolean) rfl rfl (Or.inl ⟨rfl, Or.inr (Or.inl rfl), _, rfl⟩) d7_29 (by decide) (by decide) ?_
        exact ⟨_, rfl, fun _ => rfl, fun q1 q2 q3 => absurd hb_7 q3, rfl⟩
      · refine yicmp_n C d7_21 (XT.ii_eq_f hb_7) <| iC C 1 d7_24 rfl <| gT C d7_25 29 (by decide) ?_
        refine g_ret C (v := (.int 1)) (ty := .boolean) rfl rfl (Or.inl ⟨rfl, Or.inr (Or.inl rfl), _, rfl⟩) d7_29 (by decide) (by decide) ?_
        exact ⟨_, rfl, fun q => (by rcases q with q | q | q; exact absurd q hb_5; exact absurd q hb_6; exact absurd q hb_7), fun _ _ _ => rfl, rfl⟩
theorem rm_lchar_4_3 (hw : HW a0 Z) (a1 : Addr) (x0 x1 x2 x3 c : Int32) (h0 : Heap) (Z0 : n0 ≤ h0.size) (cm : Um Z) (O : Old Z n0 h0) (A1 : Ary Z h0 a1 .byte [.int x0, .int x1, .int x2, .int x3]) (ec : (UInt32.toInt32 (UInt16.toUInt32 (UInt32.toUInt16 (Int32.toUInt32 (x3 &&& 255))))) = c) (kc : nar .char c = c) :
    Met1 l Z ⟨"java/lang/StringLatin1", "charAt", "([BI)C"⟩ jdk_43_method_2_code 2 (some .char) ⟨2, 0, 0, 27⟩ n0 #[(.ref a1), (.int 3)] h0 (fun v h => v = some (.int c) ∧ h0 = h) := by
  refine met_of (plainFor_of_name pn_3) (L0 := #[.val (.ref a1), .val (.int 3)]) (by first | (simp [argsToLocals, Value.category]; done) | rfl) ?_
  intro B C
  change Ctx B l _ _ "java/lang/StringLatin1" "charAt" _ _ Z at C
  have cm' := cm
  obtain ⟨⟨cz, Scz, hcz⟩, Sas, Shi, Slo, Sfm⟩ := cm'
  refine iN C 3 d13_0 rfl <| aN C ((.ref a1)) d13_1 rfl rfl <| yarraylength C A1 (z := 4) rfl d13_2 <| cS C hw 62 63 4 64 rfl rfl rfl rfl (rm_sci hw 3 4 h0 Z0 cm O (by decide) (by decide)) [] [(.int 3), (.int 4)] pd_11 0 d13_3 ⟨rfl, rfl, rfl, rfl, rfl⟩ (by decide) ?_
  intro v_3 h_1 q_2
  obtain ⟨rfl, rfl⟩ := q_2
  show Go _ _ _ _ 0 0 6 _ []
  refine aN C ((.ref a1)) d13_6 rfl rfl <| iN C 3 d13_7 rfl <| ybaloadB C A1 (by decide) (i := 3) (by decide) (v := x3) rfl d13_8 <| iP C 255 d13_9 rfl <| yiand C d13_12 <| yi2c C d13_13 ?_
  rw [ec]
  refine g_ret C (v := (.int c)) (ty := .char) rfl (own_nch kc) (Or.inl ⟨rfl, Or.inr (Or.inr (Or.inr (Or.inl rfl))), _, rfl⟩) d13_14 (by decide) (by decide) ?_
  exact ⟨rfl, rfl⟩
theorem rm_charAt_4_3_0 (hw : HW a0 Z) (a1 b1 : Addr) (x0 x1 x2 x3 c : Int32) (h0 : Heap) (Z0 : n0 ≤ h0.size) (cm : Um Z) (O : Old Z n0 h0) (E0 : Exa Z h0 a1 "java/lang/String") (F0 : Fld Z h0 a1 "java/lang/String" "value" "[B" (.ref b1)) (F1 : Fld Z h0 a1 "java/lang/String" "coder" "B" (.int 0)) (A1 : Ary Z h0 b1 .byte [.int x0, .int x1, .int x2, .int x3]) (ec : (UInt32.toInt32 (UInt16.toUInt32 (UInt32.toUInt16 (Int32.toUInt32 (x3 &&& 255))))) = c) (kc : nar .char c = c) :
    Met1 l Z ⟨"java/lang/String", "charAt", "(I)C"⟩ jdk_42_method_56_code 2 (some .char) ⟨3, 0, 0, 40⟩ n0 #[(.ref a1), (.int 3)] h0 (fun v h => v = some (.int c) ∧ h0 = h) := by
  refine met_of (plainFor_of_name pn_5) (L0 := #[.val (.ref a1), .val (.int 3)]) (by first | (simp [argsToLocals, Value.category]; done) | rfl) ?_
  intro B C
  change Ctx B l _ _ "java/lang/String" "charAt" _ _ Z at C
  have cm' := cm
  obtain ⟨⟨cz, Scz, hcz⟩, Sas, Shi, Slo, Sfm⟩ := cm'
  refine aN C ((.ref a1)) d11_0 rfl rfl <| cV C hw 53 54 56 55 4 57 rfl rfl rfl rfl rfl rfl E0 (rm_isLatin1_0 hw a1 h0 Z0 cm O F1) [] [] pd_16 0 d11_1 ⟨rfl, rfl, rfl, rfl, rfl⟩ (by decide) ?_
  intro v_3 h_1 q_2
  obtain ⟨rfl, rfl⟩ := q_2
  show Go _ _ _ _ 0 0 4 _ [(.int 1)]
  refine yif_n C d11_4 (XT.i0_eq_f (by decide)) <| aN C ((.ref a1)) d11_7 rfl rfl <| ygetfield C (host := "") (v := (.ref b1)) (Or.inl (oW hw 29 rfl)) Via.refl F0 d11_8 <| iN C 3 d11_11 rfl <| cS C hw 58 59 60 61 rfl rfl rfl rfl (rm_lchar_4_3 hw b1 x0 x1 x2 x3 c h0 Z0 cm O A1 ec kc) [] [(.ref b1), (.int 3)] pd_20 0 d11_12 ⟨rfl, rfl, rfl, rfl, rfl⟩ (by decide) ?_
  intro v_7 h_5 q_6
  obtain ⟨rfl, rfl⟩ := q_6
  show Go _ _ _ _ 0 0 15 _ [(.int c)]
  refine g_ret C (v := (.int c)) (ty := .char) rfl (own_nch kc) (Or.inl ⟨rfl, Or.inr (Or.inr (Or.inr (Or.inl rfl))), _, rfl⟩) d11_15 (by decide) (by decide) ?_
  exact ⟨rfl, rfl⟩
theorem rm_second_4_2_0 (hw : HW a0 Z) (a1 b1 : Addr) (x0 x1 x2 x3 c : Int32) (h0 : Heap) (Z0 : n0 ≤ h0.size) (cm : Um Z) (O : Old Z n0 h0) (E0 : Exa Z h0 a1 "java/lang/String") (F0 : Fld Z h0 a1 "java/lang/String" "value" "[B" (.ref b1)) (F1 : Fld Z h0 a1 "java/lang/String" "coder" "B" (.int 0)) (A1 : Ary Z h0 b1 .byte [.int x0, .int x1, .int x2, .int x3]) (e0 : (UInt32.toInt32 (UInt16.toUInt32 (UInt32.toUInt16 (Int32.toUInt32 (x2 &&& 255))))) = 60) (e1 : (UInt32.toInt32 (UInt16.toUInt32 (UInt32.toUInt16 (Int32.toUInt32 (x3 &&& 255))))) = c) (kc : nar .char c = c) :
    Met1 l Z ⟨"com/example/poder/poder/format/Markup", "second", "(Ljava/lang/String;I)C"⟩ prog_12_method_12_code 3 (some .char) ⟨4, 0, 0, 53⟩ n0 #[(.ref a1), (.int 2)] h0 (fun v h => v = some (.int c) ∧ h0 = h) := by
  refine met_of (plainFor_of_name pn_1) (L0 := #[.val (.ref a1), .val (.int 2), .unset]) (by first | (simp [argsToLocals, Value.category]; done) | rfl) ?_
  intro B C
  change Ctx B l _ _ "com/example/poder/poder/format/Markup" "second" _ _ Z at C
  have cm' := cm
  obtain ⟨⟨cz, Scz, hcz⟩, Sas, Shi, Slo, Sfm⟩ := cm'
  refine iN C 2 d8_0 rfl <| yif_n C d8_1 (XT.i0_lt_f (by decide)) <| iN C 2 d8_4 rfl <| iC C 1 d8_5 rfl <| yiadd C d8_6 <| eS [(.int 3)] rfl <| aN C ((.ref a1)) d8_7 rfl rfl <| cV C hw 38 39 41 40 4 42 rfl rfl rfl rfl rfl rfl E0 (rm_lenK_4_0 hw a1 b1 x0 x1 x2 x3 h0 Z0 cm O E0 F0 F1 A1) [(.int 3)] [] pd_22 1 d8_8 ⟨rfl, rfl, rfl, rfl, rfl⟩ (by decide) ?_
  intro v_3 h_1 q_2
  obtain ⟨rfl, rfl⟩ := q_2
  show Go _ _ _ _ 0 0 11 _ [(.int 4), (.int 3)]
  refine yicmp_n C d8_11 (XT.ii_ge_f (by decide)) <| aN C ((.ref a1)) d8_14 rfl rfl <| iN C 2 d8_15 rfl <| cV C hw 48 49 51 50 4 52 rfl rfl rfl rfl rfl rfl E0 (rm_charAt_4_2_0 hw a1 b1 x0 x1 x2 x3 60 h0 Z0 cm O E0 F0 F1 A1 e0 (by decide)) [] [(.int 2)] pd_23 0 d8_16 ⟨rfl, rfl, rfl, rfl, rfl⟩ (by decide) ?_
  intro v_7 h_5 q_6
  obtain ⟨rfl, rfl⟩ := q_6
  show Go _ _ _ _ 0 0 19 _ [(.int 60)]
  refine iB C 60 d8_19 rfl <| yicmp_n C d8_21 (XT.ii_ne_f (by decide)) <| iC C 1 d8_24 rfl <| gT C d8_25 29 (by decide) <| iT C d8_29 (#[aV a1, iV 2, iV 1]) rfl <| iN C 1 d8_30 rfl <| yif_n C d8_31 (XT.i0_eq_f (by decide)) <| aN C ((.ref a1)) d8_34 rfl rfl <| iN C 2 d8_35 rfl <| iC C 1 d8_36 rfl <| yiadd C d8_37 <| eS [(.int 3), (.ref a1)] rfl <| cV C hw 48 49 51 50 4 52 rfl rfl rfl rfl rfl rfl E0 (rm_charAt_4_3_0 hw a1 b1 x0 x1 x2 x3 c h0 Z0 cm O E0 F0 F1 A1 e1 kc) [] [(.int 3)] pd_23 0 d8_38 ⟨rfl, rfl, rfl, rfl, rfl⟩ (by decide) ?_
  intro v_11 h_9 q_10
  obtain ⟨rfl, rfl⟩ := q_10
  show Go _ _ _ _ 0 0 41 _ [(.int c)]
  refine gT C d8_41 45 (by decide) ?_
  refine g_ret C (v := (.int c)) (ty := .char) rfl (own_nch kc) (Or.inl ⟨rfl, Or.inr (Or.inr (Or.inr (Or.inl rfl))), _, rfl⟩) d8_45 (by decide) (by decide) ?_
  exact ⟨rfl, rfl⟩
theorem rm_isStart_4_2_0 (hw : HW a0 Z) (a1 b1 : Addr) (x0 x1 x2 x3 c : Int32) (h0 : Heap) (Z0 : n0 ≤ h0.size) (cm : Um Z) (O : Old Z n0 h0) (E0 : Exa Z h0 a1 "java/lang/String") (F0 : Fld Z h0 a1 "java/lang/String" "value" "[B" (.ref b1)) (F1 : Fld Z h0 a1 "java/lang/String" "coder" "B" (.int 0)) (A1 : Ary Z h0 b1 .byte [.int x0, .int x1, .int x2, .int x3]) (e0 : (UInt32.toInt32 (UInt16.toUInt32 (UInt32.toUInt16 (Int32.toUInt32 (x2 &&& 255))))) = 60) (e1 : (UInt32.toInt32 (UInt16.toUInt32 (UInt32.toUInt16 (Int32.toUInt32 (x3 &&& 255))))) = c) (kc : nar .char c = c) :
    Met1 l Z ⟨"com/example/poder/poder/format/Markup", "isStartTag", "(Ljava/lang/String;I)Z"⟩ prog_12_method_2_code 3 (some .boolean) ⟨5, 0, 0, 67⟩ n0 #[(.ref a1), (.int 2)] h0 (fun v h => ∃ r : Int32, v = some (.int r) ∧ (c = 47 ∨ c = 33 ∨ c = 63 → r = 0) ∧ (¬ c = 47 → ¬ c = 33 → ¬ c = 63 → r = 1) ∧ h0 = h) := by
  refine met_of (plainFor_of_name pn_1) (L0 := #[.val (.ref a1), .val (.int 2), .unset]) (by first | (simp [argsToLocals, Value.category]; done) | rfl) ?_
  intro B C
  change Ctx B l _ _ "com/example/poder/poder/format/Markup" "isStartTag" _ _ Z at C
  have cm' := cm
  obtain ⟨⟨cz, Scz, hcz⟩, Sas, Shi, Slo, Sfm⟩ := cm'
  refine aN C ((.ref a1)) d7_0 rfl rfl <| iN C 2 d7_1 rfl <| cS C hw 35 36 33 37 rfl rfl rfl rfl (rm_second_4_2_0 hw a1 b1 x0 x1 x2 x3 c h0 Z0 cm O E0 F0 F1 A1 e0 e1 kc) [] [(.ref a1), (.int 2)] pd_19 0 d7_2 ⟨rfl, rfl, rfl, rfl, rfl⟩ (by decide) ?_
  intro v_3 h_1 q_2
  obtain ⟨rfl, rfl⟩ := q_2
  show Go _ _ _ _ 0 0 5 _ [(.int c)]
  refine iT C d7_5 (#[aV a1, iV 2, iV c]) rfl <| iN C c d7_6 rfl <| iB C 47 d7_7 rfl ?_
  by_cases hb_5 : c = 47
  · refine cY C d7_9 (XT.ii_eq_t hb_5) 28 (by decide) <| iC C 0 d7_28 rfl ?_
    refine g_ret C (v := (.int 0)) (ty := .boolean) rfl rfl (Or.inl ⟨rfl, Or.inr (Or.inl rfl), _, rfl⟩) d7_29 (by decide) (by decide) ?_
    exact ⟨_, rfl, fun _ => rfl, fun q1 q2 q3 => absurd hb_5 q1, rfl⟩
  · refine yicmp_n C d7_9 (XT.ii_eq_f hb_5) <| iN C c d7_12 rfl <| iB C 33 d7_13 rfl ?_
    by_cases hb_6 : c = 33
    · refine cY C d7_15 (XT.ii_eq_t hb_6) 28 (by decide) <| iC C 0 d7_28 rfl ?_
      refine g_ret C (v := (.int 0)) (ty := .boolean) rfl rfl (Or.inl ⟨rfl, Or.inr (Or.inl rfl), _, rfl⟩) d7_29 (by decide) (by decide) ?_
      exact ⟨_, rfl, fun _ => rfl, fun q1 q2 q3 => absurd hb_6 q2, rfl⟩
    · refine yicmp_n C d7_15 (XT.ii_eq_f hb_6) <| iN C c d7_18 rfl <| iB C 63 d7_19 rfl ?_
      by_cases hb_7 : c = 63
      · refine cY C d7_21 (XT.ii_eq_t hb_7) 28 (by decide) <| iC C 0 d7_28 rfl ?_
        refine g_ret C (v := (.int 0)) (ty := .boolean) rfl rfl (Or.inl ⟨rfl, Or.inr (Or.inl rfl), _, rfl⟩) d7_29 (by decide) (by decide) ?_
        exact ⟨_, rfl, fun _ => rfl, fun q1 q2 q3 => absurd hb_7 q3, rfl⟩
      · refine yicmp_n C d7_21 (XT.ii_eq_f hb_7) <| iC C 1 d7_24 rfl <| gT C d7_25 29 (by decide) ?_
        refine g_ret C (v := (.int 1)) (ty := .boolean) rfl rfl (Or.inl ⟨rfl, Or.inr (Or.inl rfl), _, rfl⟩) d7_29 (by decide) (by decide) ?_
        exact ⟨_, rfl, fun q => (by rcases q with q | q | q; exact absurd q hb_5; exact absurd q hb_6; exact absurd q hb_7), fun _ _ _ => rfl, rfl⟩
theorem rm_uchar_4_3 (hw : HW a0 Z) (a1 : Addr) (x0 x1 x2 x3 x4 x5 x6 x7 c : Int32) (h0 : Heap) (Z0 : n0 ≤ h0.size) (cm : Um Z) (O : Old Z n0 h0) (A1 : Ary Z h0 a1 .byte [.int x0, .int x1, .int x2, .int x3, .int x4, .int x5, .int x6, .int x7]) (ec : (UInt32.toInt32 (UInt16.toUInt32 (UInt32.toUInt16 (Int32.toUInt32 (((x6 &&& 255) <<< (0 &&& 31)) ||| ((x7 &&& 255) <<< (8 &&& 31))))))) = c) (kc : nar .char c = c) :
    Met1 l Z ⟨"java/lang/StringUTF16", "charAt", "([BI)C"⟩ jdk_52_method_83_code 2 (some .char) ⟨3, 0, 0, 40⟩ n0 #[(.ref a1), (.int 3)] h0 (fun v h => v = some (.int c) ∧ h0 = h) := by
  refine met_of (plainFor_of_name pn_4) (L0 := #[.val (.ref a1), .val (.int 3)]) (by first | (simp [argsToLocals, Value.category]; done) | rfl) ?_
  intro B C
  change Ctx B l _ _ "java/lang/StringUTF16" "charAt" _ _ Z at C
  have cm' := cm
  obtain ⟨⟨cz, Scz, hcz⟩, Sas, Shi, Slo, Sfm⟩ := cm'
  refine iN C 3 d21_0 rfl <| aN C ((.ref a1)) d21_1 rfl rfl <| cS C hw 93 94 18 95 rfl rfl rfl rfl (rm_uci_4 hw 3 a1 x0 x1 x2 x3 x4 x5 x6 x7 h0 Z0 cm O A1 (by decide) (by decide)) [] [(.int 3), (.ref a1)] pd_9 0 d21_2 ⟨rfl, rfl, rfl, rfl, rfl⟩ (by decide) ?_
  intro v_3 h_1 q_2
  obtain ⟨rfl, rfl⟩ := q_2
  show Go _ _ _ _ 0 0 5 _ []
  refine aN C ((.ref a1)) d21_5 rfl rfl <| iN C 3 d21_6 rfl <| cS C hw 87 88 18 89 rfl rfl rfl rfl (rm_getC_4_3 hw a1 x0 x1 x2 x3 x4 x5 x6 x7 c h0 Z0 cm O A1 ec kc) [] [(.ref a1), (.int 3)] pd_15 0 d21_7 ⟨rfl, rfl, rfl, rfl, rfl⟩ (by decide) ?_
  intro v_7 h_5 q_6
  obtain ⟨rfl, rfl⟩ := q_6
  show Go _ _ _ _ 0 0 10 _ [(.int c)]
  refine g_ret C (v := (.int c)) (ty := .char) rfl (own_nch kc) (Or.inl ⟨rfl, Or.inr (Or.inr (Or.inr (Or.inl rfl))), _, rfl⟩) d21_10 (by decide) (by decide) ?_
  exact ⟨rfl, rfl⟩
theorem rm_charAt_4_3_1 (hw : HW a0 Z) (a1 b1 : Addr) (x0 x1 x2 x3 x4 x5 x6 x7 c : Int32) (h0 : Heap) (Z0 : n0 ≤ h0.size) (cm : Um Z) (O : Old Z n0 h0) (E0 : Exa Z h0 a1 "java/lang/String") (F0 : Fld Z h0 a1 "java/lang/String" "value" "[B" (.ref b1)) (F1 : Fld Z h0 a1 "java/lang/String" "coder" "B" (.int 1)) (A1 : Ary Z h0 b1 .byte [.int x0, .int x1, .int x2, .int x3, .int x4, .int x5, .int x6, .int x7]) (ec : (UInt32.toInt32 (UInt16.toUInt32 (UInt32.toUInt16 (Int32.toUInt32 (((x6 &&& 255) <<< (0 &&& 31)) ||| ((x7 &&& 255) <<< (8 &&& 31))))))) = c) (kc : nar .char c = c) :
    Met1 l Z ⟨"java/lang/String", "charAt", "(I)C"⟩ jdk_42_method_56_code 2 (some .char) ⟨4, 0, 0, 53⟩ n0 #[(.ref a1), (.int 3)] h0 (fun v h => v = some (.int c) ∧ h0 = h) := by
  refine met_of (plainFor_of_name pn_5) (L0 := #[.val (.ref a1), .val (.int 3)]) (by first | (simp [argsToLocals, Value.category]; done) | rfl) ?_
  intro B C
  change Ctx B l _ _ "java/lang/String" "charAt" _ _ Z at C
  have cm' := cm
  obtain ⟨⟨cz, Scz, hcz⟩, Sas, Shi, Slo, Sfm⟩ := cm'
  refine aN C ((.ref a1)) d11_0 rfl rfl <| cV C hw 53 54 56 55 4 57 rfl rfl rfl rfl rfl rfl E0 (rm_isLatin1_1 hw a1 h0 Z0 cm O F1) [] [] pd_16 0 d11_1 ⟨rfl, rfl, rfl, rfl, rfl⟩ (by decide) ?_
  intro v_3 h_1 q_2
  obtain ⟨rfl, rfl⟩ := q_2
  show Go _ _ _ _ 0 0 4 _ [(.int 0)]
  refine fY C d11_4 (XT.i0_eq_t (by decide)) 16 (by decide) <| aN C ((.ref a1)) d11_16 rfl rfl <| ygetfield C (host := "") (v := (.ref b1)) (Or.inl (oW hw 29 rfl)) Via.refl F0 d11_17 <| iN C 3 d11_20 rfl <| cS C hw 90 91 18 92 rfl rfl rfl rfl (rm_uchar_4_3 hw b1 x0 x1 x2 x3 x4 x5 x6 x7 c h0 Z0 cm O A1 ec kc) [] [(.ref b1), (.int 3)] pd_20 0 d11_21 ⟨rfl, rfl, rfl, rfl, rfl⟩ (by decide) ?_
  intro v_7 h_5 q_6
  obtain ⟨rfl, rfl⟩ := q_6
  show Go _ _ _ _ 0 0 24 _ [(.int c)]
  refine g_ret C (v := (.int c)) (ty := .char) rfl (own_nch kc) (Or.inl ⟨rfl, Or.inr (Or.inr (Or.inr (Or.inl rfl))), _, rfl⟩) d11_24 (by decide) (by decide) ?_
  exact ⟨rfl, rfl⟩
theorem rm_second_4_2_1 (hw : HW a0 Z) (a1 b1 : Addr) (x0 x1 x2 x3 x4 x5 x6 x7 c : Int32) (h0 : Heap) (Z0 : n0 ≤ h0.size) (cm : Um Z) (O : Old Z n0 h0) (E0 : Exa Z h0 a1 "java/lang/String") (F0 : Fld Z h0 a1 "java/lang/String" "value" "[B" (.ref b1)) (F1 : Fld Z h0 a1 "java/lang/String" "coder" "B" (.int 1)) (A1 : Ary Z h0 b1 .byte [.int x0, .int x1, .int x2, .int x3, .int x4, .int x5, .int x6, .int x7]) (e0 : (UInt32.toInt32 (UInt16.toUInt32 (UInt32.toUInt16 (Int32.toUInt32 (((x4 &&& 255) <<< (0 &&& 31)) ||| ((x5 &&& 255) <<< (8 &&& 31))))))) = 60) (e1 : (UInt32.toInt32 (UInt16.toUInt32 (UInt32.toUInt16 (Int32.toUInt32 (((x6 &&& 255) <<< (0 &&& 31)) ||| ((x7 &&& 255) <<< (8 &&& 31))))))) = c) (kc : nar .char c = c) :
    Met1 l Z ⟨"com/example/poder/poder/format/Markup", "second", "(Ljava/lang/String;I)C"⟩ prog_12_method_12_code 3 (some .char) ⟨5, 0, 0, 66⟩ n0 #[(.ref a1), (.int 2)] h0 (fun v h => v = some (.int c) ∧ h0 = h) := by
  refine met_of (plainFor_of_name pn_1) (L0 := #[.val (.ref a1), .val (.int 2), .unset]) (by first | (simp [argsToLocals, Value.category]; done) | rfl) ?_
  intro B C
  change Ctx B l _ _ "com/example/poder/poder/format/Markup" "second" _ _ Z at C
  have cm' := cm
  obtain ⟨⟨cz, Scz, hcz⟩, Sas, Shi, Slo, Sfm⟩ := cm'
  refine iN C 2 d8_0 rfl <| yif_n C d8_1 (XT.i0_lt_f (by decide)) <| iN C 2 d8_4 rfl <| iC C 1 d8_5 rfl <| yiadd C d8_6 <| eS [(.int 3)] rfl <| aN C ((.ref a1)) d8_7 rfl rfl <| cV C hw 38 39 41 40 4 42 rfl rfl rfl rfl rfl rfl E0 (rm_lenK_4_1 hw a1 b1 x0 x1 x2 x3 x4 x5 x6 x7 h0 Z0 cm O E0 F0 F1 A1) [(.int 3)] [] pd_22 1 d8_8 ⟨rfl, rfl, rfl, rfl, rfl⟩ (by decide) ?_
  intro v_3 h_1 q_2
  obtain ⟨rfl, rfl⟩ := q_2
  show Go _ _ _ _ 0 0 11 _ [(.int 4), (.int 3)]
  refine yicmp_n C d8_11 (XT.ii_ge_f (by decide)) <| aN C ((.ref a1)) d8_14 rfl rfl <| iN C 2 d8_15 rfl <| cV C hw 48 49 51 50 4 52 rfl rfl rfl rfl rfl rfl E0 (rm_charAt_4_2_1 hw a1 b1 x0 x1 x2 x3 x4 x5 x6 x7 60 h0 Z0 cm O E0 F0 F1 A1 e0 (by decide)) [] [(.int 2)] pd_23 0 d8_16 ⟨rfl, rfl, rfl, rfl, rfl⟩ (by decide) ?_
  intro v_7 h_5 q_6
  obtain ⟨rfl, rfl⟩ := q_6
  show Go _ _ _ _ 0 0 19 _ [(.int 60)]
  refine iB C 60 d8_19 rfl <| yicmp_n C d8_21 (XT.ii_ne_f (by decide)) <| iC C 1 d8_24 rfl <| gT C d8_25 29 (by decide) <| iT C d8_29 (#[aV a1, iV 2, iV 1]) rfl <| iN C 1 d8_30 rfl <| yif_n C d8_31 (XT.i0_eq_f (by decide)) <| aN C ((.ref a1)) d8_34 rfl rfl <| iN C 2 d8_35 rfl <| iC C 1 d8_36 rfl <| yiadd C d8_37 <| eS [(.int 3), (.ref a1)] rfl <| cV C hw 48 49 51 50 4 52 rfl rfl rfl rfl rfl rfl E0 (rm_charAt_4_3_1 hw a1 b1 x0 x1 x2 x3 x4 x5 x6 x7 c h0 Z0 cm O E0 F0 F1 A1 e1 kc) [] [(.int 3)] pd_23 0 d8_38 ⟨rfl, rfl, rfl, rfl, rfl⟩ (by decide) ?_
  intro v_11 h_9 q_10
  obtain ⟨rfl, rfl⟩ := q_10
  show Go _ _ _ _ 0 0 41 _ [(.int c)]
  refine gT C d8_41 45 (by decide) ?_
  refine g_ret C (v := (.int c)) (ty := .char) rfl (own_nch kc) (Or.inl ⟨rfl, Or.inr (Or.inr (Or.inr (Or.inl rfl))), _, rfl⟩) d8_45 (by decide) (by decide) ?_
  exact ⟨rfl, rfl⟩
theorem rm_isStart_4_2_1 (hw : HW a0 Z) (a1 b1 : Addr) (x0 x1 x2 x3 x4 x5 x6 x7 c : Int32) (h0 : Heap) (Z0 : n0 ≤ h0.size) (cm : Um Z) (O : Old Z n0 h0) (E0 : Exa Z h0 a1 "java/lang/String") (F0 : Fld Z h0 a1 "java/lang/String" "value" "[B" (.ref b1)) (F1 : Fld Z h0 a1 "java/lang/String" "coder" "B" (.int 1)) (A1 : Ary Z h0 b1 .byte [.int x0, .int x1, .int x2, .int x3, .int x4, .int x5, .int x6, .int x7]) (e0 : (UInt32.toInt32 (UInt16.toUInt32 (UInt32.toUInt16 (Int32.toUInt32 (((x4 &&& 255) <<< (0 &&& 31)) ||| ((x5 &&& 255) <<< (8 &&& 31))))))) = 60) (e1 : (UInt32.toInt32 (UInt16.toUInt32 (UInt32.toUInt16 (Int32.toUInt32 (((x6 &&& 255) <<< (0 &&& 31)) ||| ((x7 &&& 255) <<< (8 &&& 31))))))) = c) (kc : nar .char c = c) :
    Met1 l Z ⟨"com/example/poder/poder/format/Markup", "isStartTag", "(Ljava/lang/String;I)Z"⟩ prog_12_method_2_code 3 (some .boolean) ⟨6, 0, 0, 80⟩ n0 #[(.ref a1), (.int 2)] h0 (fun v h => ∃ r : Int32, v = some (.int r) ∧ (c = 47 ∨ c = 33 ∨ c = 63 → r = 0) ∧ (¬ c = 47 → ¬ c = 33 → ¬ c = 63 → r = 1) ∧ h0 = h) := by
  refine met_of (plainFor_of_name pn_1) (L0 := #[.val (.ref a1), .val (.int 2), .unset]) (by first | (simp [argsToLocals, Value.category]; done) | rfl) ?_
  intro B C
  change Ctx B l _ _ "com/example/poder/poder/format/Markup" "isStartTag" _ _ Z at C
  have cm' := cm
  obtain ⟨⟨cz, Scz, hcz⟩, Sas, Shi, Slo, Sfm⟩ := cm'
  refine aN C ((.ref a1)) d7_0 rfl rfl <| iN C 2 d7_1 rfl <| cS C hw 35 36 33 37 rfl rfl rfl rfl (rm_second_4_2_1 hw a1 b1 x0 x1 x2 x3 x4 x5 x6 x7 c h0 Z0 cm O E0 F0 F1 A1 e0 e1 kc) [] [(.ref a1), (.int 2)] pd_19 0 d7_2 ⟨rfl, rfl, rfl, rfl, rfl⟩ (by decide) ?_
  intro v_3 h_1 q_2
  obtain ⟨rfl, rfl⟩ := q_2
  show Go _ _ _ _ 0 0 5 _ [(.int c)]
  refine iT C d7_5 (#[aV a1, iV 2, iV c]) rfl <| iN C c d7_6 rfl <| iB C 47 d7_7 rfl ?_
  by_cases hb_5 : c = 47
  · refine cY C d7_9 (XT.ii_eq_t hb_5) 28 (by decide) <| iC C 0 d7_28 rfl ?_
    refine g_ret C (v := (.int 0)) (ty := .boolean) rfl rfl (Or.inl ⟨rfl, Or.inr (Or.inl rfl), _, rfl⟩) d7_29 (by decide) (by decide) ?_
    exact ⟨_, rfl, fun _ => rfl, fun q1 q2 q3 => absurd hb_5 q1, rfl⟩
  · refine yicmp_n C d7_9 (XT.ii_eq_f hb_5) <| iN C c d7_12 rfl <| iB C 33 d7_13 rfl ?_
    by_cases hb_6 : c = 33
    · refine cY C d7_15 (XT.ii_eq_t hb_6) 28 (by decide) <| iC C 0 d7_28 rfl ?_
      refine g_ret C (v := (.int 0)) (ty := .boolean) rfl rfl (Or.inl ⟨rfl, Or.inr (Or.inl rfl), _, rfl⟩) d7_29 (by decide) (by decide) ?_
      exact ⟨_, rfl, fun _ => rfl, fun q1 q2 q3 => absurd hb_6 q2, rfl⟩
    · refine yicmp_n C d7_15 (XT.ii_eq_f hb_6) <| iN C c d7_18 rfl <| iB C 63 d7_19 rfl ?_
      by_cases hb_7 : c = 63
      · refine cY C d7_21 (XT.ii_eq_t hb_7) 28 (by decide) <| iC C 0 d7_28 rfl ?_
        refine g_ret C (v := (.int 0)) (ty := .boolean) rfl rfl (Or.inl ⟨rfl, Or.inr (Or.inl rfl), _, rfl⟩) d7_29 (by decide) (by decide) ?_
        exact ⟨_, rfl, fun _ => rfl, fun q1 q2 q3 => absurd hb_7 q3, rfl⟩
      · refine yicmp_n C d7_21 (XT.ii_eq_f hb_7) <| iC C 1 d7_24 rfl <| gT C d7_25 29 (by decide) ?_
        refine g_ret C (v := (.int 1)) (ty := .boolean) rfl rfl (Or.inl ⟨rfl, Or.inr (Or.inl rfl), _, rfl⟩) d7_29 (by decide) (by decide) ?_
        exact ⟨_, rfl, fun q => (by rcases q with q | q | q; exact absurd q hb_5; exact absurd q hb_6; exact absurd q hb_7), fun _ _ _ => rfl, rfl⟩
theorem rm_lenK_5_0 (hw : HW a0 Z) (a1 b1 : Addr) (x0 x1 x2 x3 x4 : Int32) (h0 : Heap) (Z0 : n0 ≤ h0.size) (cm : Um Z) (O : Old Z n0 h0) (E0 : Exa Z h0 a1 "java/lang/String") (F0 : Fld Z h0 a1 "java/lang/String" "value" "[B" (.ref b1)) (F1 : Fld Z h0 a1 "java/lang/String" "coder" "B" (.int 0)) (A1 : Ary Z h0 b1 .byte [.int x0, .int x1, .int x2, .int x3, .int x4]) :
    Met1 l Z ⟨"java/lang/String", "length", "()I"⟩ jdk_42_method_54_code 1 (some .int) ⟨1, 0, 0, 13⟩ n0 #[(.ref a1)] h0 (fun v h => v = some (.int 5) ∧ h0 = h) := by
  refine met_of (plainFor_of_name pn_5) (L0 := #[.val (.ref a1)]) (by first | (simp [argsToLocals, Value.category]; done) | rfl) ?_
  intro B C
  change Ctx B l _ _ "java/lang/String" "length" _ _ Z at C
  have cm' := cm
  obtain ⟨⟨cz, Scz, hcz⟩, Sas, Shi, Slo, Sfm⟩ := cm'
  refine aN C ((.ref a1)) d9_0 rfl rfl <| ygetfield C (host := "") (v := (.ref b1)) (Or.inl (oW hw 29 rfl)) Via.refl F0 d9_1 <| yarraylength C A1 (z := 5) rfl d9_4 <| aN C ((.ref a1)) d9_5 rfl rfl <| cV C hw 43 44 46 45 4 47 rfl rfl rfl rfl rfl rfl E0 (rm_coder_0 hw a1 h0 Z0 cm O F1) [(.int 5)] [] pd_26 1 d9_6 ⟨rfl, rfl, rfl, rfl, rfl⟩ (by decide) ?_
  intro v_3 h_1 q_2
  obtain ⟨rfl, rfl⟩ := q_2
  show Go _ _ _ _ 0 0 9 _ [(.int 0), (.int 5)]
  refine yishr C d9_9 <| eS [(.int 5)] rfl ?_
  refine g_ret C (v := (.int 5)) (ty := .int) rfl rfl (Or.inl ⟨rfl, Or.inl rfl, _, rfl⟩) d9_10 (by decide) (by decide) ?_
  exact ⟨rfl, rfl⟩
theorem rm_lchar_5_0 (hw : HW a0 Z) (a1 : Addr) (x0 x1 x2 x3 x4 c : Int32) (h0 : Heap) (Z0 : n0 ≤ h0.size) (cm : Um Z) (O : Old Z n0 h0) (A1 : Ary Z h0 a1 .byte [.int x0, .int x1, .int x2, .int x3, .int x4]) (ec : (UInt32.toInt32 (UInt16.toUInt32 (UInt32.toUInt16 (Int32.toUInt32 (x0 &&& 255))))) = c) (kc : nar .char c = c) :
    Met1 l Z ⟨"java/lang/StringLatin1", "charAt", "([BI)C"⟩ jdk_43_method_2_code 2 (some .char) ⟨2, 0, 0, 27⟩ n0 #[(.ref a1), (.int 0)] h0 (fun v h => v = some (.int c) ∧ h0 = h) := by
  refine met_of (plainFor_of_name pn_3) (L0 := #[.val (.ref a1), .val (.int 0)]) (by first | (simp [argsToLocals, Value.category]; done) | rfl) ?_
  intro B C
  change Ctx B l _ _ "java/lang/StringLatin1" "charAt" _ _ Z at C
  have cm' := cm
  obtain ⟨⟨cz, Scz, hcz⟩, Sas, Shi, Slo, Sfm⟩ := cm'
  refine iN C 0 d13_0 rfl <| aN C ((.ref a1)) d13_1 rfl rfl <| yarraylength C A1 (z := 5) rfl d13_2 <| cS C hw 62 63 4 64 rfl rfl rfl rfl (rm_sci hw 0 5 h0 Z0 cm O (by decide) (by decide)) [] [(.int 0), (.int 5)] pd_11 0 d13_3 ⟨rfl, rfl, rfl, rfl, rfl⟩ (by decide) ?_
  intro v_3 h_1 q_2
  obtain ⟨rfl, rfl⟩ := q_2
  show Go _ _ _ _ 0 0 6 _ []
  refine aN C ((.ref a1)) d13_6 rfl rfl <| iN C 0 d13_7 rfl <| ybaloadB C A1 (by decide) (i := 0) (by decide) (v := x0) rfl d13_8 <| iP C 255 d13_9 rfl <| yiand C d13_12 <| yi2c C d13_13 ?_
  rw [ec]
  refine g_ret C (v := (.int c)) (ty := .char) rfl (own_nch kc) (Or.inl ⟨rfl, Or.inr (Or.inr (Or.inr (Or.inl rfl))), _, rfl⟩) d13_14 (by decide) (by decide) ?_
  exact ⟨rfl, rfl⟩
theorem rm_charAt_5_0_0 (hw : HW a0 Z) (a1 b1 : Addr) (x0 x1 x2 x3 x4 c : Int32) (h0 : Heap) (Z0 : n0 ≤ h0.size) (cm : Um Z) (O : Old Z n0 h0) (E0 : Exa Z h0 a1 "java/lang/String") (F0 : Fld Z h0 a1 "java/lang/String" "value" "[B" (.ref b1)) (F1 : Fld Z h0 a1 "java/lang/String" "coder" "B" (.int 0)) (A1 : Ary Z h0 b1 .byte [.int x0, .int x1, .int x2, .int x3, .int x4]) (ec : (UInt32.toInt32 (UInt16.toUInt32 (UInt32.toUInt16 (Int32.toUInt32 (x0 &&& 255))))) = c) (kc : nar .char c = c) :
    Met1 l Z ⟨"java/lang/String", "charAt", "(I)C"⟩ jdk_42_method_56_code 2 (some .char) ⟨3, 0, 0, 40⟩ n0 #[(.ref a1), (.int 0)] h0 (fun v h => v = some (.int c) ∧ h0 = h) := by
  refine met_of (plainFor_of_name pn_5) (L0 := #[.val (.ref a1), .val (.int 0)]) (by first | (simp [argsToLocals, Value.category]; done) | rfl) ?_
  intro B C
  change Ctx B l _ _ "java/lang/String" "charAt" _ _ Z at C
  have cm' := cm
  obtain ⟨⟨cz, Scz, hcz⟩, Sas, Shi, Slo, Sfm⟩ := cm'
  refine aN C ((.ref a1)) d11_0 rfl rfl <| cV C hw 53 54 56 55 4 57 rfl rfl rfl rfl rfl rfl E0 (rm_isLatin1_0 hw a1 h0 Z0 cm O F1) [] [] pd_16 0 d11_1 ⟨rfl, rfl, rfl, rfl, rfl⟩ (by decide) ?_
  intro v_3 h_1 q_2
  obtain ⟨rfl, rfl⟩ := q_2
  show Go _ _ _ _ 0 0 4 _ [(.int 1)]
  refine yif_n C d11_4 (XT.i0_eq_f (by decide)) <| aN C ((.ref a1)) d11_7 rfl rfl <| ygetfield C (host := "") (v := (.ref b1)) (Or.inl (oW hw 29 rfl)) Via.refl F0 d11_8 <| iN C 0 d11_11 rfl <| cS C hw 58 59 60 61 rfl rfl rfl rfl (rm_lchar_5_0 hw b1 x0 x1 x2 x3 x4 c h0 Z0 cm O A1 ec kc) [] [(.ref b1), (.int 0)] pd_20 0 d11_12 ⟨rfl, rfl, rfl, rfl, rfl⟩ (by decide) ?_
  intro v_7 h_5 q_6
  obtain ⟨rfl, rfl⟩ := q_6
  show Go _ _ _ _ 0 0 15 _ [(.int c)]
  refine g_ret C (v := (.int c)) (ty := .char) rfl (own_nch kc) (Or.inl ⟨rfl, Or.inr (Or.inr (Or.inr (Or.inl rfl))), _, rfl⟩) d11_15 (by decide) (by decide) ?_
  exact ⟨rfl, rfl⟩
theorem rm_lchar_5_1 (hw : HW a0 Z) (a1 : Addr) (x0 x1 x2 x3 x4 c : Int32) (h0 : Heap) (Z0 : n0 ≤ h0.size) (cm : Um Z) (O : Old Z n0 h0) (A1 : Ary Z h0 a1 .byte [.int x0, .int x1, .int x2, .int x3, .int x4]) (ec : (UInt32.toInt32 (UInt16.toUInt32 (UInt32.toUInt16 (Int32.toUInt32 (x1 &&& 255))))) = c) (kc : nar .char c = c) :
    Met1 l Z ⟨"java/lang/StringLatin1", "charAt", "([BI)C"⟩ jdk_43_method_2_code 2 (some .char) ⟨2, 0, 0, 27⟩ n0 #[(.ref a1), (.int 1)] h0 (fun v h => v = some (.int c) ∧ h0 = h) := by
  refine met_of (plainFor_of_name pn_3) (L0 := #[.val (.ref a1), .val (.int 1)]) (by first | (simp [argsToLocals, Value.category]; done) | rfl) ?_
  intro B C
  change Ctx B l _ _ "java/lang/StringLatin1" "charAt" _ _ Z at C
  have cm' := cm
  obtain ⟨⟨cz, Scz, hcz⟩, Sas, Shi, Slo, Sfm⟩ := cm'
  refine iN C 1 d13_0 rfl <| aN C ((.ref a1)) d13_1 rfl rfl <| yarraylength C A1 (z := 5) rfl d13_2 <| cS C hw 62 63 4 64 rfl rfl rfl rfl (rm_sci hw 1 5 h0 Z0 cm O (by decide) (by decide)) [] [(.int 1), (.int 5)] pd_11 0 d13_3 ⟨rfl, rfl, rfl, rfl, rfl⟩ (by decide) ?_
  intro v_3 h_1 q_2
  obtain ⟨rfl, rfl⟩ := q_2
  show Go _ _ _ _ 0 0 6 _ []
  refine aN C ((.ref a1)) d13_6 rfl rfl <| iN C 1 d13_7 rfl <| ybaloadB C A1 (by decide) (i := 1) (by decide) (v := x1) rfl d13_8 <| iP C 255 d13_9 rfl <| yiand C d13_12 <| yi2c C d13_13 ?_
  rw [ec]
  refine g_ret C (v := (.int c)) (ty := .char) rfl (own_nch kc) (Or.inl ⟨rfl, Or.inr (Or.inr (Or.inr (Or.inl rfl))), _, rfl⟩) d13_14 (by decide) (by decide) ?_
  exact ⟨rfl, rfl⟩
theorem rm_charAt_5_1_0 (hw : HW a0 Z) (a1 b1 : Addr) (x0 x1 x2 x3 x4 c : Int32) (h0 : Heap) (Z0 : n0 ≤ h0.size) (cm : Um Z) (O : Old Z n0 h0) (E0 : Exa Z h0 a1 "java/lang/String") (F0 : Fld Z h0 a1 "java/lang/String" "value" "[B" (.ref b1)) (F1 : Fld Z h0 a1 "java/lang/String" "coder" "B" (.int 0)) (A1 : Ary Z h0 b1 .byte [.int x0, .int x1, .int x2, .int x3, .int x4]) (ec : (UInt32.toInt32 (UInt16.toUInt32 (UInt32.toUInt16 (Int32.toUInt32 (x1 &&& 255))))) = c) (kc : nar .char c = c) :
    Met1 l Z ⟨"java/lang/String", "charAt", "(I)C"⟩ jdk_42_method_56_code 2 (some .char) ⟨3, 0, 0, 40⟩ n0 #[(.ref a1), (.int 1)] h0 (fun v h => v = some (.int c) ∧ h0 = h) := by
  refine met_of (plainFor_of_name pn_5) (L0 := #[.val (.ref a1), .val (.int 1)]) (by first | (simp [argsToLocals, Value.category]; done) | rfl) ?_
  intro B C
  change Ctx B l _ _ "java/lang/String" "charAt" _ _ Z at C
  have cm' := cm
  obtain ⟨⟨cz, Scz, hcz⟩, Sas, Shi, Slo, Sfm⟩ := cm'
  refine aN C ((.ref a1)) d11_0 rfl rfl <| cV C hw 53 54 56 55 4 57 rfl rfl rfl rfl rfl rfl E0 (rm_isLatin1_0 hw a1 h0 Z0 cm O F1) [] [] pd_16 0 d11_1 ⟨rfl, rfl, rfl, rfl, rfl⟩ (by decide) ?_
  intro v_3 h_1 q_2
  obtain ⟨rfl, rfl⟩ := q_2
  show Go _ _ _ _ 0 0 4 _ [(.int 1)]
  refine yif_n C d11_4 (XT.i0_eq_f (by decide)) <| aN C ((.ref a1)) d11_7 rfl rfl <| ygetfield C (host := "") (v := (.ref b1)) (Or.inl (oW hw 29 rfl)) Via.refl F0 d11_8 <| iN C 1 d11_11 rfl <| cS C hw 58 59 60 61 rfl rfl rfl rfl (rm_lchar_5_1 hw b1 x0 x1 x2 x3 x4 c h0 Z0 cm O A1 ec kc) [] [(.ref b1), (.int 1)] pd_20 0 d11_12 ⟨rfl, rfl, rfl, rfl, rfl⟩ (by decide) ?_
  intro v_7 h_5 q_6
  obtain ⟨rfl, rfl⟩ := q_6
  show Go _ _ _ _ 0 0 15 _ [(.int c)]
  refine g_ret C (v := (.int c)) (ty := .char) rfl (own_nch kc) (Or.inl ⟨rfl, Or.inr (Or.inr (Or.inr (Or.inl rfl))), _, rfl⟩) d11_15 (by decide) (by decide) ?_
  exact ⟨rfl, rfl⟩
theorem rm_second_5_0_0 (hw : HW a0 Z) (a1 b1 : Addr) (x0 x1 x2 x3 x4 c : Int32) (h0 : Heap) (Z0 : n0 ≤ h0.size) (cm : Um Z) (O : Old Z n0 h0) (E0 : Exa Z h0 a1 "java/lang/String") (F0 : Fld Z h0 a1 "java/lang/String" "value" "[B" (.ref b1)) (F1 : Fld Z h0 a1 "java/lang/String" "coder" "B" (.int 0)) (A1 : Ary Z h0 b1 .byte [.int x0, .int x1, .int x2, .int x3, .int x4]) (e0 : (UInt32.toInt32 (UInt16.toUInt32 (UInt32.toUInt16 (Int32.toUInt32 (x0 &&& 255))))) = 60) (e1 : (UInt32.toInt32 (UInt16.toUInt32 (UInt32.toUInt16 (Int32.toUInt32 (x1 &&& 255))))) = c) (kc : nar .char c = c) :
    Met1 l Z ⟨"com/example/poder/poder/format/Markup", "second", "(Ljava/lang/String;I)C"⟩ prog_12_method_12_code 3 (some .char) ⟨4, 0, 0, 53⟩ n0 #[(.ref a1), (.int 0)] h0 (fun v h => v = some (.int c) ∧ h0 = h) := by
  refine met_of (plainFor_of_name pn_1) (L0 := #[.val (.ref a1), .val (.int 0), .unset]) (by first | (simp [argsToLocals, Value.category]; done) | rfl) ?_
  intro B C
  change Ctx B l _ _ "com/example/poder/poder/format/Markup" "second" _ _ Z at C
  have cm' := cm
  obtain ⟨⟨cz, Scz, hcz⟩, Sas, Shi, Slo, Sfm⟩ := cm'
  refine iN C 0 d8_0 rfl <| yif_n C d8_1 (XT.i0_lt_f (by decide)) <| iN C 0 d8_4 rfl <| iC C 1 d8_5 rfl <| yiadd C d8_6 <| eS [(.int 1)] rfl <| aN C ((.ref a1)) d8_7 rfl rfl <| cV C hw 38 39 41 40 4 42 rfl rfl rfl rfl rfl rfl E0 (rm_lenK_5_0 hw a1 b1 x0 x1 x2 x3 x4 h0 Z0 cm O E0 F0 F1 A1) [(.int 1)] [] pd_22 1 d8_8 ⟨rfl, rfl, rfl, rfl, rfl⟩ (by decide) ?_
  intro v_3 h_1 q_2
  obtain ⟨rfl, rfl⟩ := q_2
  show Go _ _ _ _ 0 0 11 _ [(.int 5), (.int 1)]
  refine yicmp_n C d8_11 (XT.ii_ge_f (by decide)) <| aN C ((.ref a1)) d8_14 rfl rfl <| iN C 0 d8_15 rfl <| cV C hw 48 49 51 50 4 52 rfl rfl rfl rfl rfl rfl E0 (rm_charAt_5_0_0 hw a1 b1 x0 x1 x2 x3 x4 60 h0 Z0 cm O E0 F0 F1 A1 e0 (by decide)) [] [(.int 0)] pd_23 0 d8_16 ⟨rfl, rfl, rfl, rfl, rfl⟩ (by decide) ?_
  intro v_7 h_5 q_6
  obtain ⟨rfl, rfl⟩ := q_6
  show Go _ _ _ _ 0 0 19 _ [(.int 60)]
  refine iB C 60 d8_19 rfl <| yicmp_n C d8_21 (XT.ii_ne_f (by decide)) <| iC C 1 d8_24 rfl <| gT C d8_25 29 (by decide) <| iT C d8_29 (#[aV a1, iV 0, iV 1]) rfl <| iN C 1 d8_30 rfl <| yif_n C d8_31 (XT.i0_eq_f (by decide)) <| aN C ((.ref a1)) d8_34 rfl rfl <| iN C 0 d8_35 rfl <| iC C 1 d8_36 rfl <| yiadd C d8_37 <| eS [(.int 1), (.ref a1)] rfl <| cV C hw 48 49 51 50 4 52 rfl rfl rfl rfl rfl rfl E0 (rm_charAt_5_1_0 hw a1 b1 x0 x1 x2 x3 x4 c h0 Z0 cm O E0 F0 F1 A1 e1 kc) [] [(.int 1)] pd_23 0 d8_38 ⟨rfl, rfl, rfl, rfl, rfl⟩ (by decide) ?_
  intro v_11 h_9 q_10
  obtain ⟨rfl, rfl⟩ := q_10
  show Go _ _ _ _ 0 0 41 _ [(.int c)]
  refine gT C d8_41 45 (by decide) ?_
  refine g_ret C (v := (.int c)) (ty := .char) rfl (own_nch kc) (Or.inl ⟨rfl, Or.inr (Or.inr (Or.inr (Or.inl rfl))), _, rfl⟩) d8_45 (by decide) (by decide) ?_
  exact ⟨rfl, rfl⟩
theorem rm_isStart_5_0_0 (hw : HW a0 Z) (a1 b1 : Addr) (x0 x1 x2 x3 x4 c : Int32) (h0 : Heap) (Z0 : n0 ≤ h0.size) (cm : Um Z) (O : Old Z n0 h0) (E0 : Exa Z h0 a1 "java/lang/String") (F0 : Fld Z h0 a1 "java/lang/String" "value" "[B" (.ref b1)) (F1 : Fld Z h0 a1 "java/lang/String" "coder" "B" (.int 0)) (A1 : Ary Z h0 b1 .byte [.int x0, .int x1, .int x2, .int x3, .int x4]) (e0 : (UInt32.toInt32 (UInt16.toUInt32 (UInt32.toUInt16 (Int32.toUInt32 (x0 &&& 255))))) = 60) (e1 : (UInt32.toInt32 (UInt16.toUInt32 (UInt32.toUInt16 (Int32.toUInt32 (x1 &&& 255))))) = c) (kc : nar .char c = c) :
    Met1 l Z ⟨"com/example/poder/poder/format/Markup", "isStartTag", "(Ljava/lang/String;I)Z"⟩ prog_12_method_2_code 3 (some .boolean) ⟨5, 0, 0, 67⟩ n0 #[(.ref a1), (.int 0)] h0 (fun v h => ∃ r : Int32, v = some (.int r) ∧ (c = 47 ∨ c = 33 ∨ c = 63 → r = 0) ∧ (¬ c = 47 → ¬ c = 33 → ¬ c = 63 → r = 1) ∧ h0 = h) := by
  refine met_of (plainFor_of_name pn_1) (L0 := #[.val (.ref a1), .val (.int 0), .unset]) (by first | (simp [argsToLocals, Value.category]; done) | rfl) ?_
  intro B C
  change Ctx B l _ _ "com/example/poder/poder/format/Markup" "isStartTag" _ _ Z at C
  have cm' := cm
  obtain ⟨⟨cz, Scz, hcz⟩, Sas, Shi, Slo, Sfm⟩ := cm'
  refine aN C ((.ref a1)) d7_0 rfl rfl <| iN C 0 d7_1 rfl <| cS C hw 35 36 33 37 rfl rfl rfl rfl (rm_second_5_0_0 hw a1 b1 x0 x1 x2 x3 x4 c h0 Z0 cm O E0 F0 F1 A1 e0 e1 kc) [] [(.ref a1), (.int 0)] pd_19 0 d7_2 ⟨rfl, rfl, rfl, rfl, rfl⟩ (by decide) ?_
  intro v_3 h_1 q_2
  obtain ⟨rfl, rfl⟩ := q_2
  show Go _ _ _ _ 0 0 5 _ [(.int c)]
  refine iT C d7_5 (#[aV a1, iV 0, iV c]) rfl <| iN C c d7_6 rfl <| iB C 47 d7_7 rfl ?_
  by_cases hb_5 : c = 47
  · refine cY C d7_9 (XT.ii_eq_t hb_5) 28 (by decide) <| iC C 0 d7_28 rfl ?_
    refine g_ret C (v := (.int 0)) (ty := .boolean) rfl rfl (Or.inl ⟨rfl, Or.inr (Or.inl rfl), _, rfl⟩) d7_29 (by decide) (by decide) ?_
    exact ⟨_, rfl, fun _ => rfl, fun q1 q2 q3 => absurd hb_5 q1, rfl⟩
  · refine yicmp_n C d7_9 (XT.ii_eq_f hb_5) <| iN C c d7_12 rfl <| iB C 33 d7_13 rfl ?_
    by_cases hb_6 : c = 33
    · refine cY C d7_15 (XT.ii_eq_t hb_6) 28 (by decide) <| iC C 0 d7_28 rfl ?_
      refine g_ret C (v := (.int 0)) (ty := .boolean) rfl rfl (Or.inl ⟨rfl, Or.inr (Or.inl rfl), _, rfl⟩) d7_29 (by decide) (by decide) ?_
      exact ⟨_, rfl, fun _ => rfl, fun q1 q2 q3 => absurd hb_6 q2, rfl⟩
    · refine yicmp_n C d7_15 (XT.ii_eq_f hb_6) <| iN C c d7_18 rfl <| iB C 63 d7_19 rfl ?_
      by_cases hb_7 : c = 63
      · refine cY C d7_21 (XT.ii_eq_t hb_7) 28 (by decide) <| iC C 0 d7_28 rfl ?_
        refine g_ret C (v := (.int 0)) (ty := .boolean) rfl rfl (Or.inl ⟨rfl, Or.inr (Or.inl rfl), _, rfl⟩) d7_29 (by decide) (by decide) ?_
        exact ⟨_, rfl, fun _ => rfl, fun q1 q2 q3 => absurd hb_7 q3, rfl⟩
      · refine yicmp_n C d7_21 (XT.ii_eq_f hb_7) <| iC C 1 d7_24 rfl <| gT C d7_25 29 (by decide) ?_
        refine g_ret C (v := (.int 1)) (ty := .boolean) rfl rfl (Or.inl ⟨rfl, Or.inr (Or.inl rfl), _, rfl⟩) d7_29 (by decide) (by decide) ?_
        exact ⟨_, rfl, fun q => (by rcases q with q | q | q; exact absurd q hb_5; exact absurd q hb_6; exact absurd q hb_7), fun _ _ _ => rfl, rfl⟩
theorem rm_lenK_5_1 (hw : HW a0 Z) (a1 b1 : Addr) (x0 x1 x2 x3 x4 x5 x6 x7 x8 x9 : Int32) (h0 : Heap) (Z0 : n0 ≤ h0.size) (cm : Um Z) (O : Old Z n0 h0) (E0 : Exa Z h0 a1 "java/lang/String") (F0 : Fld Z h0 a1 "java/lang/String" "value" "[B" (.ref b1)) (F1 : Fld Z h0 a1 "java/lang/String" "coder" "B" (.int 1)) (A1 : Ary Z h0 b1 .byte [.int x0, .int x1, .int x2, .int x3, .int x4, .int x5, .int x6, .int x7, .int x8, .int x9]) :
    Met1 l Z ⟨"java/lang/String", "length", "()I"⟩ jdk_42_method_54_code 1 (some .int) ⟨1, 0, 0, 13⟩ n0 #[(.ref a1)] h0 (fun v h => v = some (.int 5) ∧ h0 = h) := by
  refine met_of (plainFor_of_name pn_5) (L0 := #[.val (.ref a1)]) (by first | (simp [argsToLocals, Value.category]; done) | rfl) ?_
  intro B C
  change Ctx B l _ _ "java/lang/String" "length" _ _ Z at C
  have cm' := cm
  obtain ⟨⟨cz, Scz, hcz⟩, Sas, Shi, Slo, Sfm⟩ := cm'
  refine aN C ((.ref a1)) d9_0 rfl rfl <| ygetfield C (host := "") (v := (.ref b1)) (Or.inl (oW hw 29 rfl)) Via.refl F0 d9_1 <| yarraylength C A1 (z := 10) rfl d9_4 <| aN C ((.ref a1)) d9_5 rfl rfl <| cV C hw 43 44 46 45 4 47 rfl rfl rfl rfl rfl rfl E0 (rm_coder_1 hw a1 h0 Z0 cm O F1) [(.int 10)] [] pd_26 1 d9_6 ⟨rfl, rfl, rfl, rfl, rfl⟩ (by decide) ?_
  intro v_3 h_1 q_2
  obtain ⟨rfl, rfl⟩ := q_2
  show Go _ _ _ _ 0 0 9 _ [(.int 1), (.int 10)]
  refine yishr C d9_9 <| eS [(.int 5)] rfl ?_
  refine g_ret C (v := (.int 5)) (ty := .int) rfl rfl (Or.inl ⟨rfl, Or.inl rfl, _, rfl⟩) d9_10 (by decide) (by decide) ?_
  exact ⟨rfl, rfl⟩
theorem rm_ulen_5 (hw : HW a0 Z) (a1 : Addr) (x0 x1 x2 x3 x4 x5 x6 x7 x8 x9 : Int32) (h0 : Heap) (Z0 : n0 ≤ h0.size) (A1 : Ary Z h0 a1 .byte [.int x0, .int x1, .int x2, .int x3, .int x4, .int x5, .int x6, .int x7, .int x8, .int x9]) :
    Met1 l Z ⟨"java/lang/StringUTF16", "length", "([B)I"⟩ jdk_52_method_6_code 1 (some .int) ⟨0, 0, 0, 0⟩ n0 #[(.ref a1)] h0 (fun v h => v = some (.int 5) ∧ h0 = h) := by
  refine met_of (plainFor_of_name pn_4) (L0 := #[.val (.ref a1)]) (by first | (simp [argsToLocals, Value.category]; done) | rfl) ?_
  intro B C
  change Ctx B l _ _ "java/lang/StringUTF16" "length" _ _ Z at C
  refine aN C ((.ref a1)) d23_0 rfl rfl <| yarraylength C A1 (z := 10) rfl d23_1 <| iC C 1 d23_2 rfl <| yishr C d23_3 <| eS [(.int 5)] rfl ?_
  refine g_ret C (v := (.int 5)) (ty := .int) rfl rfl (Or.inl ⟨rfl, Or.inl rfl, _, rfl⟩) d23_4 (by decide) (by decide) ?_
  exact ⟨rfl, rfl⟩
theorem rm_uci_5 (hw : HW a0 Z) (ix : Int32) (a1 : Addr) (x0 x1 x2 x3 x4 x5 x6 x7 x8 x9 : Int32) (h0 : Heap) (Z0 : n0 ≤ h0.size) (cm : Um Z) (O : Old Z n0 h0) (A1 : Ary Z h0 a1 .byte [.int x0, .int x1, .int x2, .int x3, .int x4, .int x5, .int x6, .int x7, .int x8, .int x9]) (hix : ¬ ix < 0) (hnx : ix < 5) :
    Met1 l Z ⟨"java/lang/StringUTF16", "checkIndex", "(I[B)V"⟩ jdk_52_method_91_code 2 none ⟨2, 0, 0, 27⟩ n0 #[(.int ix), (.ref a1)] h0 (fun v h => v = none ∧ h0 = h) := by
  refine met_of (plainFor_of_name pn_4) (L0 := #[.val (.int ix), .val (.ref a1)]) (by first | (simp [argsToLocals, Value.category]; done) | rfl) ?_
  intro B C
  change Ctx B l _ _ "java/lang/StringUTF16" "checkIndex" _ _ Z at C
  have cm' := cm
  obtain ⟨⟨cz, Scz, hcz⟩, Sas, Shi, Slo, Sfm⟩ := cm'
  refine iN C ix d22_0 rfl <| aN C ((.ref a1)) d22_1 rfl rfl <| cS C hw 96 97 18 98 rfl rfl rfl rfl (rm_ulen_5 hw a1 x0 x1 x2 x3 x4 x5 x6 x7 x8 x9 h0 Z0 A1) [(.int ix)] [(.ref a1)] pd_21 1 d22_2 ⟨rfl, rfl, rfl, rfl, rfl⟩ (by decide) ?_
  intro v_3 h_1 q_2
  obtain ⟨rfl, rfl⟩ := q_2
  show Go _ _ _ _ 0 0 5 _ [(.int 5), (.int ix)]
  refine cS C hw 99 63 4 64 rfl rfl rfl rfl (rm_sci hw ix 5 h0 Z0 cm O hix hnx) [] [(.int ix), (.int 5)] pd_11 0 d22_5 ⟨rfl, rfl, rfl, rfl, rfl⟩ (by decide) ?_
  intro v_7 h_5 q_6
  obtain ⟨rfl, rfl⟩ := q_6
  show Go _ _ _ _ 0 0 8 _ []
  refine g_return C rfl d22_8 (by decide) (by decide) ?_
  exact ⟨rfl, rfl⟩
theorem rm_getC_5_0 (hw : HW a0 Z) (a1 : Addr) (x0 x1 x2 x3 x4 x5 x6 x7 x8 x9 c : Int32) (h0 : Heap) (Z0 : n0 ≤ h0.size) (cm : Um Z) (O : Old Z n0 h0) (A1 : Ary Z h0 a1 .byte [.int x0, .int x1, .int x2, .int x3, .int x4, .int x5, .int x6, .int x7, .int x8, .int x9]) (ec : (UInt32.toInt32 (UInt16.toUInt32 (UInt32.toUInt16 (Int32.toUInt32 (((x0 &&& 255) <<< (0 &&& 31)) ||| ((x1 &&& 255) <<< (8 &&& 31))))))) = c) (kc : nar .char c = c) :
    Met1 l Z ⟨"java/lang/StringUTF16", "getChar", "([BI)C"⟩ jdk_52_method_5_code 2 (some .char) ⟨0, 0, 0, 0⟩ n0 #[(.ref a1), (.int 0)] h0 (fun v h => v = some (.int c) ∧ h0 = h) := by
  refine met_of (plainFor_of_name pn_4) (L0 := #[.val (.ref a1), .val (.int 0)]) (by first | (simp [argsToLocals, Value.category]; done) | rfl) ?_
  intro B C
  change Ctx B l _ _ "java/lang/StringUTF16" "getChar" _ _ Z at C
  have cm' := cm
  obtain ⟨⟨cz, Scz, hcz⟩, Sas, Shi, Slo, Sfm⟩ := cm'
  refine ygetstatic C (host := "") (v := (.int 1)) (Or.inl (oW hw 84 rfl)) Via.refl (Sas.ext O.2) d20_0 <| fY C d20_3 (XT.i0_ne_t (by decide)) 28 (by decide) <| iN C 0 d20_28 rfl <| iC C 1 d20_29 rfl <| yishl C d20_30 <| eS [(.int 0)] rfl <| iT C d20_31 (#[aV a1, iV 0]) rfl <| aN C ((.ref a1)) d20_32 rfl rfl <| iN C 0 d20_33 rfl <| nC C 0 1 d20_34 rfl rfl (#[aV a1, iV 1]) rfl <| ybaloadB C A1 (by decide) (i := 0) (by decide) (v := x0) rfl d20_37 <| iP C 255 d20_38 rfl <| yiand C d20_41 <| ygetstatic C (host := "") (v := (.int 0)) (Or.inl (oW hw 85 rfl)) Via.refl (Shi.ext O.2) d20_42 <| yishl C d20_45 <| aN C ((.ref a1)) d20_46 rfl rfl <| iN C 1 d20_47 rfl <| ybaloadB C A1 (by decide) (i := 1) (by decide) (v := x1) rfl d20_48 <| iP C 255 d20_49 rfl <| yiand C d20_52 <| ygetstatic C (host := "") (v := (.int 8)) (Or.inl (oW hw 86 rfl)) Via.refl (Slo.ext O.2) d20_53 <| yishl C d20_56 <| yior C d20_57 <| yi2c C d20_58 ?_
  rw [ec]
  refine g_ret C (v := (.int c)) (ty := .char) rfl (own_nch kc) (Or.inl ⟨rfl, Or.inr (Or.inr (Or.inr (Or.inl rfl))), _, rfl⟩) d20_59 (by decide) (by decide) ?_
  exact ⟨rfl, rfl⟩
theorem rm_uchar_5_0 (hw : HW a0 Z) (a1 : Addr) (x0 x1 x2 x3 x4 x5 x6 x7 x8 x9 c : Int32) (h0 : Heap) (Z0 : n0 ≤ h0.size) (cm : Um Z) (O : Old Z n0 h0) (A1 : Ary Z h0 a1 .byte [.int x0, .int x1, .int x2, .int x3, .int x4, .int x5, .int x6, .int x7, .int x8, .int x9]) (ec : (UInt32.toInt32 (UInt16.toUInt32 (UInt32.toUInt16 (Int32.toUInt32 (((x0 &&& 255) <<< (0 &&& 31)) ||| ((x1 &&& 255) <<< (8 &&& 31))))))) = c) (kc : nar .char c = c) :
    Met1 l Z ⟨"java/lang/StringUTF16", "charAt", "([BI)C"⟩ jdk_52_method_83_code 2 (some .char) ⟨3, 0, 0, 40⟩ n0 #[(.ref a1), (.int 0)] h0 (fun v h => v = some (.int c) ∧ h0 = h) := by
  refine met_of (plainFor_of_name pn_4) (L0 := #[.val (.ref a1), .val (.int 0)]) (by first | (simp [argsToLocals, Value.category]; done) | rfl) ?_
  intro B C
  change Ctx B l _ _ "java/lang/StringUTF16" "charAt" _ _ Z at C
  have cm' := cm
  obtain ⟨⟨cz, Scz, hcz⟩, Sas, Shi, Slo, Sfm⟩ := cm'
  refine iN C 0 d21_0 rfl <| aN C ((.ref a1)) d21_1 rfl rfl <| cS C hw 93 94 18 95 rfl rfl rfl rfl (rm_uci_5 hw 0 a1 x0 x1 x2 x3 x4 x5 x6 x7 x8 x9 h0 Z0 cm O A1 (by decide) (by decide)) [] [(.int 0), (.ref a1)] pd_9 0 d21_2 ⟨rfl, rfl, rfl, rfl, rfl⟩ (by decide) ?_
  intro v_3 h_1 q_2
  obtain ⟨rfl, rfl⟩ := q_2
  show Go _ _ _ _ 0 0 5 _ []
  refine aN C ((.ref a1)) d21_5 rfl rfl <| iN C 0 d21_6 rfl <| cS C hw 87 88 18 89 rfl rfl rfl rfl (rm_getC_5_0 hw a1 x0 x1 x2 x3 x4 x5 x6 x7 x8 x9 c h0 Z0 cm O A1 ec kc) [] [(.ref a1), (.int 0)] pd_15 0 d21_7 ⟨rfl, rfl, rfl, rfl, rfl⟩ (by decide) ?_
  intro v_7 h_5 q_6
  obtain ⟨rfl, rfl⟩ := q_6
  show Go _ _ _ _ 0 0 10 _ [(.int c)]
  refine g_ret C (v := (.int c)) (ty := .char) rfl (own_nch kc) (Or.inl ⟨rfl, Or.inr (Or.inr (Or.inr (Or.inl rfl))), _, rfl⟩) d21_10 (by decide) (by decide) ?_
  exact ⟨rfl, rfl⟩
theorem rm_charAt_5_0_1 (hw : HW a0 Z) (a1 b1 : Addr) (x0 x1 x2 x3 x4 x5 x6 x7 x8 x9 c : Int32) (h0 : Heap) (Z0 : n0 ≤ h0.size) (cm : Um Z) (O : Old Z n0 h0) (E0 : Exa Z h0 a1 "java/lang/String") (F0 : Fld Z h0 a1 "java/lang/String" "value" "[B" (.ref b1)) (F1 : Fld Z h0 a1 "java/lang/String" "coder" "B" (.int 1)) (A1 : Ary Z h0 b1 .byte [.int x0, .int x1, .int x2, .int x3, .int x4, .int x5, .int x6, .int x7, .int x8, .int x9]) (ec : (UInt32.toInt32 (UInt16.toUInt32 (UInt32.toUInt16 (Int32.toUInt32 (((x0 &&& 255) <<< (0 &&& 31)) ||| ((x1 &&& 255) <<< (8 &&& 31))))))) = c) (kc : nar .char c = c) :
    Met1 l Z ⟨"java/lang/String", "charAt", "(I)C"⟩ jdk_42_method_56_code 2 (some .char) ⟨4, 0, 0, 53⟩ n0 #[(.ref a1), (.int 0)] h0 (fun v h => v = some (.int c) ∧ h0 = h) := by
  refine met_of (plainFor_of_name pn_5) (L0 := #[.val (.ref a1), .val (.int 0)]) (by first | (simp [argsToLocals, Value.category]; done) | rfl) ?_
  intro B C
  change Ctx B l _ _ "java/lang/String" "charAt" _ _ Z at C
  have cm' := cm
  obtain ⟨⟨cz, Scz, hcz⟩, Sas, Shi, Slo, Sfm⟩ := cm'
  refine aN C ((.ref a1)) d11_0 rfl rfl <| cV C hw 53 54 56 55 4 57 rfl rfl rfl rfl rfl rfl E0 (rm_isLatin1_1 hw a1 h0 Z0 cm O F1) [] [] pd_16 0 d11_1 ⟨rfl, rfl, rfl, rfl, rfl⟩ (by decide) ?_
  intro v_3 h_1 q_2
  obtain ⟨rfl, rfl⟩ := q_2
  show Go _ _ _ _ 0 0 4 _ [(.int 0)]
  refine fY C d11_4 (XT.i0_eq_t (by decide)) 16 (by decide) <| aN C ((.ref a1)) d11_16 rfl rfl <| ygetfield C (host := "") (v := (.ref b1)) (Or.inl (oW hw 29 rfl)) Via.refl F0 d11_17 <| iN C 0 d11_20 rfl <| cS C hw 90 91 18 92 rfl rfl rfl rfl (rm_uchar_5_0 hw b1 x0 x1 x2 x3 x4 x5 x6 x7 x8 x9 c h0 Z0 cm O A1 ec kc) [] [(.ref b1), (.int 0)] pd_20 0 d11_21 ⟨rfl, rfl, rfl, rfl, rfl⟩ (by decide) ?_
  intro v_7 h_5 q_6
  obtain ⟨rfl, rfl⟩ := q_6
  show Go _ _ _ _ 0 0 24 _ [(.int c)]
  refine g_ret C (v := (.int c)) (ty := .char) rfl (own_nch kc) (Or.inl ⟨rfl, Or.inr (Or.inr (Or.inr (Or.inl rfl))), _, rfl⟩) d11_24 (by decide) (by decide) ?_
  exact ⟨rfl, rfl⟩
theorem rm_uchar_5_1 (hw : HW a0 Z) (a1 : Addr) (x0 x1 x2 x3 x4 x5 x6 x7 x8 x9 c : Int32) (h0 : Heap) (Z0 : n0 ≤ h0.size) (cm : Um Z) (O : Old Z n0 h0) (A1 : Ary Z h0 a1 .byte [.int x0, .int x1, .int x2, .int x3, .int x4, .int x5, .int x6, .int x7, .int x8, .int x9]) (ec : (UInt32.toInt32 (UInt16.toUInt32 (UInt32.toUInt16 (Int32.toUInt32 (((x2 &&& 255) <<< (0 &&& 31)) ||| ((x3 &&& 255) <<< (8 &&& 31))))))) = c) (kc : nar .char c = c) :
    Met1 l Z ⟨"java/lang/StringUTF16", "charAt", "([BI)C"⟩ jdk_52_method_83_code 2 (some .char) ⟨3, 0, 0, 40⟩ n0 #[(.ref a1), (.int 1)] h0 (fun v h => v = some (.int c) ∧ h0 = h) := by
  refine met_of (plainFor_of_name pn_4) (L0 := #[.val (.ref a1), .val (.int 1)]) (by first | (simp [argsToLocals, Value.category]; done) | rfl) ?_
  intro B C
  change Ctx B l _ _ "java/lang/StringUTF16" "charAt" _ _ Z at C
  have cm' := cm
  obtain ⟨⟨cz, Scz, hcz⟩, Sas, Shi, Slo, Sfm⟩ := cm'
  refine iN C 1 d21_0 rfl <| aN C ((.ref a1)) d21_1 rfl rfl <| cS C hw 93 94 18 95 rfl rfl rfl rfl (rm_uci_5 hw 1 a1 x0 x1 x2 x3 x4 x5 x6 x7 x8 x9 h0 Z0 cm O A1 (by decide) (by decide)) [] [(.int 1), (.ref a1)] pd_9 0 d21_2 ⟨rfl, rfl, rfl, rfl, rfl⟩ (by decide) ?_
  intro v_3 h_1 q_2
  obtain ⟨rfl, rfl⟩ := q_2
  show Go _ _ _ _ 0 0 5 _ []
  refine aN C ((.ref a1)) d21_5 rfl rfl <| iN C 1 d21_6 rfl <| cS C hw 87 88 18 89 rfl rfl rfl rfl (rm_getC_5_1 hw a1 x0 x1 x2 x3 x4 x5 x6 x7 x8 x9 c h0 Z0 cm O A1 ec kc) [] [(.ref a1), (.int 1)] pd_15 0 d21_7 ⟨rfl, rfl, rfl, rfl, rfl⟩ (by decide) ?_
  intro v_7 h_5 q_6
  obtain ⟨rfl, rfl⟩ := q_6
  show Go _ _ _ _ 0 0 10 _ [(.int c)]
  refine g_ret C (v := (.int c)) (ty := .char) rfl (own_nch kc) (Or.inl ⟨rfl, Or.inr (Or.inr (Or.inr (Or.inl rfl))), _, rfl⟩) d21_10 (by decide) (by decide) ?_
  exact ⟨rfl, rfl⟩
theorem rm_charAt_5_1_1 (hw : HW a0 Z) (a1 b1 : Addr) (x0 x1 x2 x3 x4 x5 x6 x7 x8 x9 c : Int32) (h0 : Heap) (Z0 : n0 ≤ h0.size) (cm : Um Z) (O : Old Z n0 h0) (E0 : Exa Z h0 a1 "java/lang/String") (F0 : Fld Z h0 a1 "java/lang/String" "value" "[B" (.ref b1)) (F1 : Fld Z h0 a1 "java/lang/String" "coder" "B" (.int 1)) (A1 : Ary Z h0 b1 .byte [.int x0, .int x1, .int x2, .int x3, .int x4, .int x5, .int x6, .int x7, .int x8, .int x9]) (ec : (UInt32.toInt32 (UInt16.toUInt32 (UInt32.toUInt16 (Int32.toUInt32 (((x2 &&& 255) <<< (0 &&& 31)) ||| ((x3 &&& 255) <<< (8 &&& 31))))))) = c) (kc : nar .char c = c) :
    Met1 l Z ⟨"java/lang/String", "charAt", "(I)C"⟩ jdk_42_method_56_code 2 (some .char) ⟨4, 0, 0, 53⟩ n0 #[(.ref a1), (.int 1)] h0 (fun v h => v = some (.int c) ∧ h0 = h) := by
  refine met_of (plainFor_of_name pn_5) (L0 := #[.val (.ref a1), .val (.int 1)]) (by first | (simp [argsToLocals, Value.category]; done) | rfl) ?_
  intro B C
  change Ctx B l _ _ "java/lang/String" "charAt" _ _ Z at C
  have cm' := cm
  obtain ⟨⟨cz, Scz, hcz⟩, Sas, Shi, Slo, Sfm⟩ := cm'
  refine aN C ((.ref a1)) d11_0 rfl rfl <| cV C hw 53 54 56 55 4 57 rfl rfl rfl rfl rfl rfl E0 (rm_isLatin1_1 hw a1 h0 Z0 cm O F1) [] [] pd_16 0 d11_1 ⟨rfl, rfl, rfl, rfl, rfl⟩ (by decide) ?_
  intro v_3 h_1 q_2
  obtain ⟨rfl, rfl⟩ := q_2
  show Go _ _ _ _ 0 0 4 _ [(.int 0)]
  refine fY C d11_4 (XT.i0_eq_t (by decide)) 16 (by decide) <| aN C ((.ref a1)) d11_16 rfl rfl <| ygetfield C (host := "") (v := (.ref b1)) (Or.inl (oW hw 29 rfl)) Via.refl F0 d11_17 <| iN C 1 d11_20 rfl <| cS C hw 90 91 18 92 rfl rfl rfl rfl (rm_uchar_5_1 hw b1 x0 x1 x2 x3 x4 x5 x6 x7 x8 x9 c h0 Z0 cm O A1 ec kc) [] [(.ref b1), (.int 1)] pd_20 0 d11_21 ⟨rfl, rfl, rfl, rfl, rfl⟩ (by decide) ?_
  intro v_7 h_5 q_6
  obtain ⟨rfl, rfl⟩ := q_6
  show Go _ _ _ _ 0 0 24 _ [(.int c)]
  refine g_ret C (v := (.int c)) (ty := .char) rfl (own_nch kc) (Or.inl ⟨rfl, Or.inr (Or.inr (Or.inr (Or.inl rfl))), _, rfl⟩) d11_24 (by decide) (by decide) ?_
  exact ⟨rfl, rfl⟩
theorem rm_second_5_0_1 (hw : HW a0 Z) (a1 b1 : Addr) (x0 x1 x2 x3 x4 x5 x6 x7 x8 x9 c : Int32) (h0 : Heap) (Z0 : n0 ≤ h0.size) (cm : Um Z) (O : Old Z n0 h0) (E0 : Exa Z h0 a1 "java/lang/String") (F0 : Fld Z h0 a1 "java/lang/String" "value" "[B" (.ref b1)) (F1 : Fld Z h0 a1 "java/lang/String" "coder" "B" (.int 1)) (A1 : Ary Z h0 b1 .byte [.int x0, .int x1, .int x2, .int x3, .int x4, .int x5, .int x6, .int x7, .int x8, .int x9]) (e0 : (UInt32.toInt32 (UInt16.toUInt32 (UInt32.toUInt16 (Int32.toUInt32 (((x0 &&& 255) <<< (0 &&& 31)) ||| ((x1 &&& 255) <<< (8 &&& 31))))))) = 60) (e1 : (UInt32.toInt32 (UInt16.toUInt32 (UInt32.toUInt16 (Int32.toUInt32 (((x2 &&& 255) <<< (0 &&& 31)) ||| ((x3 &&& 255) <<< (8 &&& 31))))))) = c) (kc : nar .char c = c) :
    Met1 l Z ⟨"com/example/poder/poder/format/Markup", "second", "(Ljava/lang/String;I)C"⟩ prog_12_method_12_code 3 (some .char) ⟨5, 0, 0, 66⟩ n0 #[(.ref a1), (.int 0)] h0 (fun v h => v = some (.int c) ∧ h0 = h) := by
  refine met_of (plainFor_of_name pn_1) (L0 := #[.val (.ref a1), .val (.int 0), .unset]) (by first | (simp [argsToLocals, Value.category]; done) | rfl) ?_
  intro B C
  change Ctx B l _ _ "com/example/poder/poder/format/Markup" "second" _ _ Z at C
  have cm' := cm
  obtain ⟨⟨cz, Scz, hcz⟩, Sas, Shi, Slo, Sfm⟩ := cm'
  refine iN C 0 d8_0 rfl <| yif_n C d8_1 (XT.i0_lt_f (by decide)) <| iN C 0 d8_4 rfl <| iC C 1 d8_5 rfl <| yiadd C d8_6 <| eS [(.int 1)] rfl <| aN C ((.ref a1)) d8_7 rfl rfl <| cV C hw 38 39 41 40 4 42 rfl rfl rfl rfl rfl rfl E0 (rm_lenK_5_1 hw a1 b1 x0 x1 x2 x3 x4 x5 x6 x7 x8 x9 h0 Z0 cm O E0 F0 F1 A1) [(.int 1)] [] pd_22 1 d8_8 ⟨rfl, rfl, rfl, rfl, rfl⟩ (by decide) ?_
  intro v_3 h_1 q_2
  obtain ⟨rfl, rfl⟩ := q_2
  show Go _ _ _ _ 0 0 11 _ [(.int 5), (.int 1)]
  refine yicmp_n C d8_11 (XT.ii_ge_f (by decide)) <| aN C ((.ref a1)) d8_14 rfl rfl <| iN C 0 d8_15 rfl <| cV C hw 48 49 51 50 4 52 rfl rfl rfl rfl rfl rfl E0 (rm_charAt_5_0_1 hw a1 b1 x0 x1 x2 x3 x4 x5 x6 x7 x8 x9 60 h0 Z0 cm O E0 F0 F1 A1 e0 (by decide)) [] [(.int 0)] pd_23 0 d8_16 ⟨rfl, rfl, rfl, rfl, rfl⟩ (by decide) ?_
  intro v_7 h_5 q_6
  obtain ⟨rfl, rfl⟩ := q_6
  show Go _ _ _ _ 0 0 19 _ [(.int 60)]
  refine iB C 60 d8_19 rfl <| yicmp_n C d8_21 (XT.ii_ne_f (by decide)) <| iC C 1 d8_24 rfl <| gT C d8_25 29 (by decide) <| iT C d8_29 (#[aV a1, iV 0, iV 1]) rfl <| iN C 1 d8_30 rfl <| yif_n C d8_31 (XT.i0_eq_f (by decide)) <| aN C ((.ref a1)) d8_34 rfl rfl <| iN C 0 d8_35 rfl <| iC C 1 d8_36 rfl <| yiadd C d8_37 <| eS [(.int 1), (.ref a1)] rfl <| cV C hw 48 49 51 50 4 52 rfl rfl rfl rfl rfl rfl E0 (rm_charAt_5_1_1 hw a1 b1 x0 x1 x2 x3 x4 x5 x6 x7 x8 x9 c h0 Z0 cm O E0 F0 F1 A1 e1 kc) [] [(.int 1)] pd_23 0 d8_38 ⟨rfl, rfl, rfl, rfl, rfl⟩ (by decide) ?_
  intro v_11 h_9 q_10
  obtain ⟨rfl, rfl⟩ := q_10
  show Go _ _ _ _ 0 0 41 _ [(.int c)]
  refine gT C d8_41 45 (by decide) ?_
  refine g_ret C (v := (.int c)) (ty := .char) rfl (own_nch kc) (Or.inl ⟨rfl, Or.inr (Or.inr (Or.inr (Or.inl rfl))), _, rfl⟩) d8_45 (by decide) (by decide) ?_
  exact ⟨rfl, rfl⟩
theorem rm_isStart_5_0_1 (hw : HW a0 Z) (a1 b1 : Addr) (x0 x1 x2 x3 x4 x5 x6 x7 x8 x9 c : Int32) (h0 : Heap) (Z0 : n0 ≤ h0.size) (cm : Um Z) (O : Old Z n0 h0) (E0 : Exa Z h0 a1 "java/lang/String") (F0 : Fld Z h0 a1 "java/lang/String" "value" "[B" (.ref b1)) (F1 : Fld Z h0 a1 "java/lang/String" "coder" "B" (.int 1)) (A1 : Ary Z h0 b1 .byte [.int x0, .int x1, .int x2, .int x3, .int x4, .int x5, .int x6, .int x7, .int x8, .int x9]) (e0 : (UInt32.toInt32 (UInt16.toUInt32 (UInt32.toUInt16 (Int32.toUInt32 (((x0 &&& 255) <<< (0 &&& 31)) ||| ((x1 &&& 255) <<< (8 &&& 31))))))) = 60) (e1 : (UInt32.toInt32 (UInt16.toUInt32 (UInt32.toUInt16 (Int32.toUInt32 (((x2 &&& 255) <<< (0 &&& 31)) ||| ((x3 &&& 255) <<< (8 &&& 31))))))) = c) (kc : nar .char c = c) :
    Met1 l Z ⟨"com/example/poder/poder/format/Markup", "isStartTag", "(Ljava/lang/String;I)Z"⟩ prog_12_method_2_code 3 (some .boolean) ⟨6, 0, 0, 80⟩ n0 #[(.ref a1), (.int 0)] h0 (fun v h => ∃ r : Int32, v = some (.int r) ∧ (c = 47 ∨ c = 33 ∨ c = 63 → r = 0) ∧ (¬ c = 47 → ¬ c = 33 → ¬ c = 63 → r = 1) ∧ h0 = h) := by
  refine met_of (plainFor_of_name pn_1) (L0 := #[.val (.ref a1), .val (.int 0), .unset]) (by first | (simp [argsToLocals, Value.category]; done) | rfl) ?_
  intro B C
  change Ctx B l _ _ "com/example/poder/poder/format/Markup" "isStartTag" _ _ Z at C
  have cm' := cm
  obtain ⟨⟨cz, Scz, hcz⟩, Sas, Shi, Slo, Sfm⟩ := cm'
  refine aN C ((.ref a1)) d7_0 rfl rfl <| iN C 0 d7_1 rfl <| cS C hw 35 36 33 37 rfl rfl rfl rfl (rm_second_5_0_1 hw a1 b1 x0 x1 x2 x3 x4 x5 x6 x7 x8 x9 c h0 Z0 cm O E0 F0 F1 A1 e0 e1 kc) [] [(.ref a1), (.int 0)] pd_19 0 d7_2 ⟨rfl, rfl, rfl, rfl, rfl⟩ (by decide) ?_
  intro v_3 h_1 q_2
  obtain ⟨rfl, rfl⟩ := q_2
  show Go _ _ _ _ 0 0 5 _ [(.int c)]
  refine iT C d7_5 (#[aV a1, iV 0, iV c]) rfl <| iN C c d7_6 rfl <| iB C 47 d7_7 rfl ?_
  by_cases hb_5 : c = 47
  · refine cY C d7_9 (XT.ii_eq_t hb_5) 28 (by decide) <| iC C 0 d7_28 rfl ?_
    refine g_ret C (v := (.int 0)) (ty := .boolean) rfl rfl (Or.inl ⟨rfl, Or.inr (Or.inl rfl), _, rfl⟩) d7_29 (by decide) (by decide) ?_
    exact ⟨_, rfl, fun _ => rfl, fun q1 q2 q3 => absurd hb_5 q1, rfl⟩
  · refine yicmp_n C d7_9 (XT.ii_eq_f hb_5) <| iN C c d7_12 rfl <| iB C 33 d7_13 rfl ?_
    by_cases hb_6 : c = 33
    · refine cY C d7_15 (XT.ii_eq_t hb_6) 28 (by decide) <| iC C 0 d7_28 rfl ?_
      refine g_ret C (v := (.int 0)) (ty := .boolean) rfl rfl (Or.inl ⟨rfl, Or.inr (Or.inl rfl), _, rfl⟩) d7_29 (by decide) (by decide) ?_
      exact ⟨_, rfl, fun _ => rfl, fun q1 q2 q3 => absurd hb_6 q2, rfl⟩
    · refine yicmp_n C d7_15 (XT.ii_eq_f hb_6) <| iN C c d7_18 rfl <| iB C 63 d7_19 rfl ?_
      by_cases hb_7 : c = 63
      · refine cY C d7_21 (XT.ii_eq_t hb_7) 28 (by decide) <| iC C 0 d7_28 rfl ?_
        refine g_ret C (v := (.int 0)) (ty := .boolean) rfl rfl (Or.inl ⟨rfl, Or.inr (Or.inl rfl), _, rfl⟩) d7_29 (by decide) (by decide) ?_
        exact ⟨_, rfl, fun _ => rfl, fun q1 q2 q3 => absurd hb_7 q3, rfl⟩
      · refine yicmp_n C d7_21 (XT.ii_eq_f hb_7) <| iC C 1 d7_24 rfl <| gT C d7_25 29 (by decide) ?_
        refine g_ret C (v := (.int 1)) (ty := .boolean) rfl rfl (Or.inl ⟨rfl, Or.inr (Or.inl rfl), _, rfl⟩) d7_29 (by decide) (by decide) ?_
        exact ⟨_, rfl, fun q => (by rcases q with q | q | q; exact absurd q hb_5; exact absurd q hb_6; exact absurd q hb_7), fun _ _ _ => rfl, rfl⟩
theorem rm_lchar_5_2 (hw : HW a0 Z) (a1 : Addr) (x0 x1 x2 x3 x4 c : Int32) (h0 : Heap) (Z0 : n0 ≤ h0.size) (cm : Um Z) (O : Old Z n0 h0) (A1 : Ary Z h0 a1 .byte [.int x0, .int x1, .int x2, .int x3, .int x4]) (ec : (UInt32.toInt32 (UInt16.toUInt32 (UInt32.toUInt16 (Int32.toUInt32 (x2 &&& 255))))) = c) (kc : nar .char c = c) :
    Met1 l Z ⟨"java/lang/StringLatin1", "charAt", "([BI)C"⟩ jdk_43_method_2_code 2 (some .char) ⟨2, 0, 0, 27⟩ n0 #[(.ref a1), (.int 2)] h0 (fun v h => v = some (.int c) ∧ h0 = h) := by
  refine met_of (plainFor_of_name pn_3) (L0 := #[.val (.ref a1), .val (.int 2)]) (by first | (simp [argsToLocals, Value.category]; done) | rfl) ?_
  intro B C
  change Ctx B l _ _ "java/lang/StringLatin1" "charAt" _ _ Z at C
  have cm' := cm
  obtain ⟨⟨cz, Scz, hcz⟩, Sas, Shi, Slo, Sfm⟩ := cm'
  refine iN C 2 d13_0 rfl <| aN C ((.ref a1)) d13_1 rfl rfl <| yarraylength C A1 (z := 5) rfl d13_2 <| cS C hw 62 63 4 64 rfl rfl rfl rfl (rm_sci hw 2 5 h0 Z0 cm O (by decide) (by decide)) [] [(.int 2), (.int 5)] pd_11 0 d13_3 ⟨rfl, rfl, rfl, rfl, rfl⟩ (by decide) ?_
  intro v_3 h_1 q_2
  obtain ⟨rfl, rfl⟩ := q_2
  show Go _ _ _ _ 0 0 6 _ []
  refine aN C ((.ref a1)) d13_6 rfl rfl <| iN C 2 d13_7 rfl <| ybaloadB C A1 (by decide) (i := 2) (by decide) (v := x2) rfl d13_8 <| iP C 255 d13_9 rfl <| yiand C d13_12 <| yi2c C d13_13 ?_
  rw [ec]
  refine g_ret C (v := (.int c)) (ty := .char) rfl (own_nch kc) (Or.inl ⟨rfl, Or.inr (Or.inr (Or.inr (Or.inl rfl))), _, rfl⟩) d13_14 (by decide) (by decide) ?_
  exact ⟨rfl, rfl⟩
theorem rm_charAt_5_2_0 (hw : HW a0 Z) (a1 b1 : Addr) (x0 x1 x2 x3 x4 c : Int32) (h0 : Heap) (Z0 : n0 ≤ h0.size) (cm : Um Z) (O : Old Z n0 h0) (E0 : Exa Z h0 a1 "java/lang/String") (F0 : Fld Z h0 a1 "java/lang/String" "value" "[B" (.ref b1)) (F1 : Fld Z h0 a1 "java/lang/String" "coder" "B" (.int 0)) (A1 : Ary Z h0 b1 .byte [.int x0, .int x1, .int x2, .int x3, .int x4]) (ec : (UInt32.toInt32 (UInt16.toUInt32 (UInt32.toUInt16 (Int32.toUInt32 (x2 &&& 255))))) = c) (kc : nar .char c = c) :
    Met1 l Z ⟨"java/lang/String", "charAt", "(I)C"⟩ jdk_42_method_56_code 2 (some .char) ⟨3, 0, 0, 40⟩ n0 #[(.ref a1), (.int 2)] h0 (fun v h => v = some (.int c) ∧ h0 = h) := by
  refine met_of (plainFor_of_name pn_5) (L0 := #[.val (.ref a1), .val (.int 2)]) (by first | (simp [argsToLocals, Value.category]; done) | rfl) ?_
  intro B C
  change Ctx B l _ _ "java/lang/String" "charAt" _ _ Z at C
  have cm' := cm
  obtain ⟨⟨cz, Scz, hcz⟩, Sas, Shi, Slo, Sfm⟩ := cm'
  refine aN C ((.ref a1)) d11_0 rfl rfl <| cV C hw 53 54 56 55 4 57 rfl rfl rfl rfl rfl rfl E0 (rm_isLatin1_0 hw a1 h0 Z0 cm O F1) [] [] pd_16 0 d11_1 ⟨rfl, rfl, rfl, rfl, rfl⟩ (by decide) ?_
  intro v_3 h_1 q_2
  obtain ⟨rfl, rfl⟩ := q_2
  show Go _ _ _ _ 0 0 4 _ [(.int 1)]
  refine yif_n C d11_4 (XT.i0_eq_f (by decide)) <| aN C ((.ref a1)) d11_7 rfl rfl <| ygetfield C (host := "") (v := (.ref b1)) (Or.inl (oW hw 29 rfl)) Via.refl F0 d11_8 <| iN C 2 d11_11 rfl <| cS C hw 58 59 60 61 rfl rfl rfl rfl (rm_lchar_5_2 hw b1 x0 x1 x2 x3 x4 c h0 Z0 cm O A1 ec kc) [] [(.ref b1), (.int 2)] pd_20 0 d11_12 ⟨rfl, rfl, rfl, rfl, rfl⟩ (by decide) ?_
  intro v_7 h_5 q_6
  obtain ⟨rfl, rfl⟩ := q_6
  show Go _ _ _ _ 0 0 15 _ [(.int c)]
  refine g_ret C (v := (.int c)) (ty := .char) rfl (own_nch kc) (Or.inl ⟨rfl, Or.inr (Or.inr (Or.inr (Or.inl rfl))), _, rfl⟩) d11_15 (by decide) (by decide) ?_
  exact ⟨rfl, rfl⟩
theorem rm_second_5_1_0 (hw : HW a0 Z) (a1 b1 : Addr) (x0 x1 x2 x3 x4 c : Int32) (h0 : Heap) (Z0 : n0 ≤ h0.size) (cm : Um Z) (O : Old Z n0 h0) (E0 : Exa Z h0 a1 "java/lang/String") (F0 : Fld Z h0 a1 "java/lang/String" "value" "[B" (.ref b1)) (F1 : Fld Z h0 a1 "java/lang/String" "coder" "B" (.int 0)) (A1 : Ary Z h0 b1 .byte [.int x0, .int x1, .int x2, .int x3, .int x4]) (e0 : (UInt32.toInt32 (UInt16.toUInt32 (UInt32.toUInt16 (Int32.toUInt32 (x1 &&& 255))))) = 60) (e1 : (UInt32.toInt32 (UInt16.toUInt32 (UInt32.toUInt16 (Int32.toUInt32 (x2 &&& 255))))) = c) (kc : nar .char c = c) :
    Met1 l Z ⟨"com/example/poder/poder/format/Markup", "second", "(Ljava/lang/String;I)C"⟩ prog_12_method_12_code 3 (some .char) ⟨4, 0, 0, 53⟩ n0 #[(.ref a1), (.int 1)] h0 (fun v h => v = some (.int c) ∧ h0 = h) := by
  refine met_of (plainFor_of_name pn_1) (L0 := #[.val (.ref a1), .val (.int 1), .unset]) (by first | (simp [argsToLocals, Value.category]; done) | rfl) ?_
  intro B C
  change Ctx B l _ _ "com/example/poder/poder/format/Markup" "second" _ _ Z at C
  have cm' := cm
  obtain ⟨⟨cz, Scz, hcz⟩, Sas, Shi, Slo, Sfm⟩ := cm'
  refine iN C 1 d8_0 rfl <| yif_n C d8_1 (XT.i0_lt_f (by decide)) <| iN C 1 d8_4 rfl <| iC C 1 d8_5 rfl <| yiadd C d8_6 <| eS [(.int 2)] rfl <| aN C ((.ref a1)) d8_7 rfl rfl <| cV C hw 38 39 41 40 4 42 rfl rfl rfl rfl rfl rfl E0 (rm_lenK_5_0 hw a1 b1 x0 x1 x2 x3 x4 h0 Z0 cm O E0 F0 F1 A1) [(.int 2)] [] pd_22 1 d8_8 ⟨rfl, rfl, rfl, rfl, rfl⟩ (by decide) ?_
  intro v_3 h_1 q_2
  obtain ⟨rfl, rfl⟩ := q_2
  show Go _ _ _ _ 0 0 11 _ [(.int 5), (.int 2)]
  refine yicmp_n C d8_11 (XT.ii_ge_f (by decide)) <| aN C ((.ref a1)) d8_14 rfl rfl <| iN C 1 d8_15 rfl <| cV C hw 48 49 51 50 4 52 rfl rfl rfl rfl rfl rfl E0 (rm_charAt_5_1_0 hw a1 b1 x0 x1 x2 x3 x4 60 h0 Z0 cm O E0 F0 F1 A1 e0 (by decide)) [] [(.int 1)] pd_23 0 d8_16 ⟨rfl, rfl, rfl, rfl, rfl⟩ (by decide) ?_
  intro v_7 h_5 q_6
  obtain ⟨rfl, rfl⟩ := q_6
  show Go _ _ _ _ 0 0 19 _ [(.int 60)]
  refine iB C 60 d8_19 rfl <| yicmp_n C d8_21 (XT.ii_ne_f (by decide)) <| iC C 1 d8_24 rfl <| gT C d8_25 29 (by decide) <| iT C d8_29 (#[aV a1, iV 1, iV 1]) rfl <| iN C 1 d8_30 rfl <| yif_n C d8_31 (XT.i0_eq_f (by decide)) <| aN C ((.ref a1)) d8_34 rfl rfl <| iN C 1 d8_35 rfl <| iC C 1 d8_36 rfl <| yiadd C d8_37 <| eS [(.int 2), (.ref a1)] rfl <| cV C hw 48 49 51 50 4 52 rfl rfl rfl rfl rfl rfl E0 (rm_charAt_5_2_0 hw a1 b1 x0 x1 x2 x3 x4 c h0 Z0 cm O E0 F0 F1 A1 e1 kc) [] [(.int 2)] pd_23 0 d8_38 ⟨rfl, rfl, rfl, rfl, rfl⟩ (by decide) ?_
  intro v_11 h_9 q_10
  obtain ⟨rfl, rfl⟩ := q_10
  show Go _ _ _ _ 0 0 41 _ [(.int c)]
  refine gT C d8_41 45 (by decide) ?_
  refine g_ret C (v := (.int c)) (ty := .char) rfl (own_nch kc) (Or.inl ⟨rfl, Or.inr (Or.inr (Or.inr (Or.inl rfl))), _, rfl⟩) d8_45 (by decide) (by decide) ?_
  exact ⟨rfl, rfl⟩
theorem rm_isStart_5_1_0 (hw : HW a0 Z) (a1 b1 : Addr) (x0 x1 x2 x3 x4 c : Int32) (h0 : Heap) (Z0 : n0 ≤ h0.size) (cm : Um Z) (O : Old Z n0 h0) (E0 : Exa Z h0 a1 "java/lang/String") (F0 : Fld Z h0 a1 "java/lang/String" "value" "[B" (.ref b1)) (F1 : Fld Z h0 a1 "java/lang/String" "coder" "B" (.int 0)) (A1 : Ary Z h0 b1 .byte [.int x0, .int x1, .int x2, .int x3, .int x4]) (e0 : (UInt32.toInt32 (UInt16.toUInt32 (UInt32.toUInt16 (Int32.toUInt32 (x1 &&& 255))))) = 60) (e1 : (UInt32.toInt32 (UInt16.toUInt32 (UInt32.toUInt16 (Int32.toUInt32 (x2 &&& 255))))) = c) (kc : nar .char c = c) :
    Met1 l Z ⟨"com/example/poder/poder/format/Markup", "isStartTag", "(Ljava/lang/String;I)Z"⟩ prog_12_method_2_code 3 (some .boolean) ⟨5, 0, 0, 67⟩ n0 #[(.ref a1), (.int 1)] h0 (fun v h => ∃ r : Int32, v = some (.int r) ∧ (c = 47 ∨ c = 33 ∨ c = 63 → r = 0) ∧ (¬ c = 47 → ¬ c = 33 → ¬ c = 63 → r = 1) ∧ h0 = h) := by
  refine met_of (plainFor_of_name pn_1) (L0 := #[.val (.ref a1), .val (.int 1), .unset]) (by first | (simp [argsToLocals, Value.category]; done) | rfl) ?_
  intro B C
  change Ctx B l _ _ "com/example/poder/poder/format/Markup" "isStartTag" _ _ Z at C
  have cm' := cm
  obtain ⟨⟨cz, Scz, hcz⟩, Sas, Shi, Slo, Sfm⟩ := cm'
  refine aN C ((.ref a1)) d7_0 rfl rfl <| iN C 1 d7_1 rfl <| cS C hw 35 36 33 37 rfl rfl rfl rfl (rm_second_5_1_0 hw a1 b1 x0 x1 x2 x3 x4 c h0 Z0 cm O E0 F0 F1 A1 e0 e1 kc) [] [(.ref a1), (.int 1)] pd_19 0 d7_2 ⟨rfl, rfl, rfl, rfl, rfl⟩ (by decide) ?_
  intro v_3 h_1 q_2
  obtain ⟨rfl, rfl⟩ := q_2
  show Go _ _ _ _ 0 0 5 _ [(.int c)]
  refine iT C d7_5 (#[aV a1, iV 1, iV c]) rfl <| iN C c d7_6 rfl <| iB C 47 d7_7 rfl ?_
  by_cases hb_5 : c = 47
  · refine cY C d7_9 (XT.ii_eq_t hb_5) 28 (by decide) <| iC C 0 d7_28 rfl ?_
    refine g_ret C (v := (.int 0)) (ty := .boolean) rfl rfl (Or.inl ⟨rfl, Or.inr (Or.inl rfl), _, rfl⟩) d7_29 (by decide) (by decide) ?_
    exact ⟨_, rfl, fun _ => rfl, fun q1 q2 q3 => absurd hb_5 q1, rfl⟩
  · refine yicmp_n C d7_9 (XT.ii_eq_f hb_5) <| iN C c d7_12 rfl <| iB C 33 d7_13 rfl ?_
    by_cases hb_6 : c = 33
    · refine cY C d7_15 (XT.ii_eq_t hb_6) 28 (by decide) <| iC C 0 d7_28 rfl ?_
      refine g_ret C (v := (.int 0)) (ty := .boolean) rfl rfl (Or.inl ⟨rfl, Or.inr (Or.inl rfl), _, rfl⟩) d7_29 (by decide) (by decide) ?_
      exact ⟨_, rfl, fun _ => rfl, fun q1 q2 q3 => absurd hb_6 q2, rfl⟩
    · refine yicmp_n C d7_15 (XT.ii_eq_f hb_6) <| iN C c d7_18 rfl <| iB C 63 d7_19 rfl ?_
      by_cases hb_7 : c = 63
      · refine cY C d7_21 (XT.ii_eq_t hb_7) 28 (by decide) <| iC C 0 d7_28 rfl ?_
        refine g_ret C (v := (.int 0)) (ty := .boolean) rfl rfl (Or.inl ⟨rfl, Or.inr (Or.inl rfl), _, rfl⟩) d7_29 (by decide) (by decide) ?_
        exact ⟨_, rfl, fun _ => rfl, fun q1 q2 q3 => absurd hb_7 q3, rfl⟩
      · refine yicmp_n C d7_21 (XT.ii_eq_f hb_7) <| iC C 1 d7_24 rfl <| gT C d7_25 29 (by decide) ?_
        refine g_ret C (v := (.int 1)) (ty := .boolean) rfl rfl (Or.inl ⟨rfl, Or.inr (Or.inl rfl), _, rfl⟩) d7_29 (by decide) (by decide) ?_
        exact ⟨_, rfl, fun q => (by rcases q with q | q | q; exact absurd q hb_5; exact absurd q hb_6; exact absurd q hb_7), fun _ _ _ => rfl, rfl⟩
theorem rm_uchar_5_2 (hw : HW a0 Z) (a1 : Addr) (x0 x1 x2 x3 x4 x5 x6 x7 x8 x9 c : Int32) (h0 : Heap) (Z0 : n0 ≤ h0.size) (cm : Um Z) (O : Old Z n0 h0) (A1 : Ary Z h0 a1 .byte [.int x0, .int x1, .int x2, .int x3, .int x4, .int x5, .int x6, .int x7, .int x8, .int x9]) (ec : (UInt32.toInt32 (UInt16.toUInt32 (UInt32.toUInt16 (Int32.toUInt32 (((x4 &&& 255) <<< (0 &&& 31)) ||| ((x5 &&& 255) <<< (8 &&& 31))))))) = c) (kc : nar .char c = c) :
    Met1 l Z ⟨"java/lang/StringUTF16", "charAt", "([BI)C"⟩ jdk_52_method_83_code 2 (some .char) ⟨3, 0, 0, 40⟩ n0 #[(.ref a1), (.int 2)] h0 (fun v h => v = some (.int c) ∧ h0 = h) := by
  refine met_of (plainFor_of_name pn_4) (L0 := #[.val (.ref a1), .val (.int 2)]) (by first | (simp [argsToLocals, Value.category]; done) | rfl) ?_
  intro B C
  change Ctx B l _ _ "java/lang/StringUTF16" "charAt" _ _ Z at C
  have cm' := cm
  obtain ⟨⟨cz, Scz, hcz⟩, Sas, Shi, Slo, Sfm⟩ := cm'
  refine iN C 2 d21_0 rfl <| aN C ((.ref a1)) d21_1 rfl rfl <| cS C hw 93 94 18 95 rfl rfl rfl rfl (rm_uci_5 hw 2 a1 x0 x1 x2 x3 x4 x5 x6 x7 x8 x9 h0 Z0 cm O A1 (by decide) (by decide)) [] [(.int 2), (.ref a1)] pd_9 0 d21_2 ⟨rfl, rfl, rfl, rfl, rfl⟩ (by decide) ?_
  intro v_3 h_1 q_2
  obtain ⟨rfl, rfl⟩ := q_2
  show Go _ _ _ _ 0 0 5 _ []
  refine aN C ((.ref a1)) d21_5 rfl rfl <| iN C 2 d21_6 rfl <| cS C hw 87 88 18 89 rfl rfl rfl rfl (rm_getC_5_2 hw a1 x0 x1 x2 x3 x4 x5 x6 x7 x8 x9 c h0 Z0 cm O A1 ec kc) [] [(.ref a1), (.int 2)] pd_15 0 d21_7 ⟨rfl, rfl, rfl, rfl, rfl⟩ (by decide) ?_
  intro v_7 h_5 q_6
  obtain ⟨rfl, rfl⟩ := q_6
  show Go _ _ _ _ 0 0 10 _ [(.int c)]
  refine g_ret C (v := (.int c)) (ty := .char) rfl (own_nch kc) (Or.inl ⟨rfl, Or.inr (Or.inr (Or.inr (Or.inl rfl))), _, rfl⟩) d21_10 (by decide) (by decide) ?_
  exact ⟨rfl, rfl⟩
theorem rm_charAt_5_2_1 (hw : HW a0 Z) (a1 b1 : Addr) (x0 x1 x2 x3 x4 x5 x6 x7 x8 x9 c : Int32) (h0 : Heap) (Z0 : n0 ≤ h0.size) (cm : Um Z) (O : Old Z n0 h0) (E0 : Exa Z h0 a1 "java/lang/String") (F0 : Fld Z h0 a1 "java/lang/String" "value" "[B" (.ref b1)) (F1 : Fld Z h0 a1 "java/lang/String" "coder" "B" (.int 1)) (A1 : Ary Z h0 b1 .byte [.int x0, .int x1, .int x2, .int x3, .int x4, .int x5, .int x6, .int x7, .int x8, .int x9]) (ec : (UInt32.toInt32 (UInt16.toUInt32 (UInt32.toUInt16 (Int32.toUInt32 (((x4 &&& 255) <<< (0 &&& 31)) ||| ((x5 &&& 255) <<< (8 &&& 31))))))) = c) (kc : nar .char c = c) :
    Met1 l Z ⟨"java/lang/String", "charAt", "(I)C"⟩ jdk_42_method_56_code 2 (some .char) ⟨4, 0, 0, 53⟩ n0 #[(.ref a1), (.int 2)] h0 (fun v h => v = some (.int c) ∧ h0 = h) := by
  refine met_of (plainFor_of_name pn_5) (L0 := #[.val (.ref a1), .val (.int 2)]) (by first | (simp [argsToLocals, Value.category]; done) | rfl) ?_
  intro B C
  change Ctx B l _ _ "java/lang/String" "charAt" _ _ Z at C
  have cm' := cm
  obtain ⟨⟨cz, Scz, hcz⟩, Sas, Shi, Slo, Sfm⟩ := cm'
  refine aN C ((.ref a1)) d11_0 rfl rfl <| cV C hw 53 54 56 55 4 57 rfl rfl rfl rfl rfl rfl E0 (rm_isLatin1_1 hw a1 h0 Z0 cm O F1) [] [] pd_16 0 d11_1 ⟨rfl, rfl, rfl, rfl, rfl⟩ (by decide) ?_
  intro v_3 h_1 q_2
  obtain ⟨rfl, rfl⟩ := q_2
  show Go _ _ _ _ 0 0 4 _ [(.int 0)]
  refine fY C d11_4 (XT.i0_eq_t (by decide)) 16 (by decide) <| aN C ((.ref a1)) d11_16 rfl rfl <| ygetfield C (host := "") (v := (.ref b1)) (Or.inl (oW hw 29 rfl)) Via.refl F0 d11_17 <| iN C 2 d11_20 rfl <| cS C hw 90 91 18 92 rfl rfl rfl rfl (rm_uchar_5_2 hw b1 x0 x1 x2 x3 x4 x5 x6 x7 x8 x9 c h0 Z0 cm O A1 ec kc) [] [(.ref b1), (.int 2)] pd_20 0 d11_21 ⟨rfl, rfl, rfl, rfl, rfl⟩ (by decide) ?_
  intro v_7 h_5 q_6
  obtain ⟨rfl, rfl⟩ := q_6
  show Go _ _ _ _ 0 0 24 _ [(.int c)]
  refine g_ret C (v := (.int c)) (ty := .char) rfl (own_nch kc) (Or.inl ⟨rfl, Or.inr (Or.inr (Or.inr (Or.inl rfl))), _, rfl⟩) d11_24 (by decide) (by decide) ?_
  exact ⟨rfl, rfl⟩
theorem rm_second_5_1_1 (hw : HW a0 Z) (a1 b1 : Addr) (x0 x1 x2 x3 x4 x5 x6 x7 x8 x9 c : Int32) (h0 : Heap) (Z0 : n0 ≤ h0.size) (cm : Um Z) (O : Old Z n0 h0) (E0 : Exa Z h0 a1 "java/lang/String") (F0 : Fld Z h0 a1 "java/lang/String" "value" "[B" (.ref b1)) (F1 : Fld Z h0 a1 "java/lang/String" "coder" "B" (.int 1)) (A1 : Ary Z h0 b1 .byte [.int x0, .int x1, .int x2, .int x3, .int x4, .int x5, .int x6, .int x7, .int x8, .int x9]) (e0 : (UInt32.toInt32 (UInt16.toUInt32 (UInt32.toUInt16 (Int32.toUInt32 (((x2 &&& 255) <<< (0 &&& 31)) ||| ((x3 &&& 255) <<< (8 &&& 31))))))) = 60) (e1 : (UInt32.toInt32 (UInt16.toUInt32 (UInt32.toUInt16 (Int32.toUInt32 (((x4 &&& 255) <<< (0 &&& 31)) ||| ((x5 &&& 255) <<< (8 &&& 31))))))) = c) (kc : nar .char c = c) :
    Met1 l Z ⟨"com/example/poder/poder/format/Markup", "second", "(Ljava/lang/String;I)C"⟩ prog_12_method_12_code 3 (some .char) ⟨5, 0, 0, 66⟩ n0 #[(.ref a1), (.int 1)] h0 (fun v h => v = some (.int c) ∧ h0 = h) := by
  refine met_of (plainFor_of_name pn_1) (L0 := #[.val (.ref a1), .val (.int 1), .unset]) (by first | (simp [argsToLocals, Value.category]; done) | rfl) ?_
  intro B C
  change Ctx B l _ _ "com/example/poder/poder/format/Markup" "second" _ _ Z at C
  have cm' := cm
  obtain ⟨⟨cz, Scz, hcz⟩, Sas, Shi, Slo, Sfm⟩ := cm'
  refine iN C 1 d8_0 rfl <| yif_n C d8_1 (XT.i0_lt_f (by decide)) <| iN C 1 d8_4 rfl <| iC C 1 d8_5 rfl <| yiadd C d8_6 <| eS [(.int 2)] rfl <| aN C ((.ref a1)) d8_7 rfl rfl <| cV C hw 38 39 41 40 4 42 rfl rfl rfl rfl rfl rfl E0 (rm_lenK_5_1 hw a1 b1 x0 x1 x2 x3 x4 x5 x6 x7 x8 x9 h0 Z0 cm O E0 F0 F1 A1) [(.int 2)] [] pd_22 1 d8_8 ⟨rfl, rfl, rfl, rfl, rfl⟩ (by decide) ?_
  intro v_3 h_1 q_2
  obtain ⟨rfl, rfl⟩ := q_2
  show Go _ _ _ _ 0 0 11 _ [(.int 5), (.int 2)]
  refine yicmp_n C d8_11 (XT.ii_ge_f (by decide)) <| aN C ((.ref a1)) d8_14 rfl rfl <| iN C 1 d8_15 rfl <| cV C hw 48 49 51 50 4 52 rfl rfl rfl rfl rfl rfl E0 (rm_charAt_5_1_1 hw a1 b1 x0 x1 x2 x3 x4 x5 x6 x7 x8 x9 60 h0 Z0 cm O E0 F0 F1 A1 e0 (by decide)) [] [(.int 1)] pd_23 0 d8_16 ⟨rfl, rfl, rfl, rfl, rfl⟩ (by decide) ?_
  intro v_7 h_5 q_6
  obtain ⟨rfl, rfl⟩ := q_6
  show Go _ _ _ _ 0 0 19 _ [(.int 60)]
  refine iB C 60 d8_19 rfl <| yicmp_n C d8_21 (XT.ii_ne_f (by decide)) <| iC C 1 d8_24 rfl <| gT C d8_25 29 (by decide) <| iT C d8_29 (#[aV a1, iV 1, iV 1]) rfl <| iN C 1 d8_30 rfl <| yif_n C d8_31 (XT.i0_eq_f (by decide)) <| aN C ((.ref a1)) d8_34 rfl rfl <| iN C 1 d8_35 rfl <| iC C 1 d8_36 rfl <| yiadd C d8_37 <| eS [(.int 2), (.ref a1)] rfl <| cV C hw 48 49 51 50 4 52 rfl rfl rfl rfl rfl rfl E0 (rm_charAt_5_2_1 hw a1 b1 x0 x1 x2 x3 x4 x5 x6 x7 x8 x9 c h0 Z0 cm O E0 F0 F1 A1 e1 kc) [] [(.int 2)] pd_23 0 d8_38 ⟨rfl, rfl, rfl, rfl, rfl⟩ (by decide) ?_
  intro v_11 h_9 q_10
  obtain ⟨rfl, rfl⟩ := q_10
  show Go _ _ _ _ 0 0 41 _ [(.int c)]
  refine gT C d8_41 45 (by decide) ?_
  refine g_ret C (v := (.int c)) (ty := .char) rfl (own_nch kc) (Or.inl ⟨rfl, Or.inr (Or.inr (Or.inr (Or.inl rfl))), _, rfl⟩) d8_45 (by decide) (by decide) ?_
  exact ⟨rfl, rfl⟩
theorem rm_isStart_5_1_1 (hw : HW a0 Z) (a1 b1 : Addr) (x0 x1 x2 x3 x4 x5 x6 x7 x8 x9 c : Int32) (h0 : Heap) (Z0 : n0 ≤ h0.size) (cm : Um Z) (O : Old Z n0 h0) (E0 : Exa Z h0 a1 "java/lang/String") (F0 : Fld Z h0 a1 "java/lang/String" "value" "[B" (.ref b1)) (F1 : Fld Z h0 a1 "java/lang/String" "coder" "B" (.int 1)) (A1 : Ary Z h0 b1 .byte [.int x0, .int x1, .int x2, .int x3, .int x4, .int x5, .int x6, .int x7, .int x8, .int x9]) (e0 : (UInt32.toInt32 (UInt16.toUInt32 (UInt32.toUInt16 (Int32.toUInt32 (((x2 &&& 255) <<< (0 &&& 31)) ||| ((x3 &&& 255) <<< (8 &&& 31))))))) = 60) (e1 : (UInt32.toInt32 (UInt16.toUInt32 (UInt32.toUInt16 (Int32.toUInt32 (((x4 &&& 255) <<< (0 &&& 31)) ||| ((x5 &&& 255) <<< (8 &&& 31))))))) = c) (kc : nar .char c = c) :
    Met1 l Z ⟨"com/example/poder/poder/format/Markup", "isStartTag", "(Ljava/lang/String;I)Z"⟩ prog_12_method_2_code 3 (some .boolean) ⟨6, 0, 0, 80⟩ n0 #[(.ref a1), (.int 1)] h0 (fun v h => ∃ r : Int32, v = some (.int r) ∧ (c = 47 ∨ c = 33 ∨ c = 63 → r = 0) ∧ (¬ c = 47 → ¬ c = 33 → ¬ c = 63 → r = 1) ∧ h0 = h) := by
  refine met_of (plainFor_of_name pn_1) (L0 := #[.val (.ref a1), .val (.int 1), .unset]) (by first | (simp [argsToLocals, Value.category]; done) | rfl) ?_
  intro B C
  change Ctx B l _ _ "com/example/poder/poder/format/Markup" "isStartTag" _ _ Z at C
  have cm' := cm
  obtain ⟨⟨cz, Scz, hcz⟩, Sas, Shi, Slo, Sfm⟩ := cm'
  refine aN C ((.ref a1)) d7_0 rfl rfl <| iN C 1 d7_1 rfl <| cS C hw 35 36 33 37 rfl rfl rfl rfl (rm_second_5_1_1 hw a1 b1 x0 x1 x2 x3 x4 x5 x6 x7 x8 x9 c h0 Z0 cm O E0 F0 F1 A1 e0 e1 kc) [] [(.ref a1), (.int 1)] pd_19 0 d7_2 ⟨rfl, rfl, rfl, rfl, rfl⟩ (by decide) ?_
  intro v_3 h_1 q_2
  obtain ⟨rfl, rfl⟩ := q_2
  show Go _ _ _ _ 0 0 5 _ [(.int c)]
  refine iT C d7_5 (#[aV a1, iV 1, iV c]) rfl <| iN C c d7_6 rfl <| iB C 47 d7_7 rfl ?_
  by_cases hb_5 : c = 47
  · refine cY C d7_9 (XT.ii_eq_t hb_5) 28 (by decide) <| iC C 0 d7_28 rfl ?_
    refine g_ret C (v := (.int 0)) (ty := .boolean) rfl rfl (Or.inl ⟨rfl, Or.inr (Or.inl rfl), _, rfl⟩) d7_29 (by decide) (by decide) ?_
    exact ⟨_, rfl, fun _ => rfl, fun q1 q2 q3 => absurd hb_5 q1, rfl⟩
  · refine yicmp_n C d7_9 (XT.ii_eq_f hb_5) <| iN C c d7_12 rfl <| iB C 33 d7_13 rfl ?_
    by_cases hb_6 : c = 33
    · refine cY C d7_15 (XT.ii_eq_t hb_6) 28 (by decide) <| iC C 0 d7_28 rfl ?_
      refine g_ret C (v := (.int 0)) (ty := .boolean) rfl rfl (Or.inl ⟨rfl, Or.inr (Or.inl rfl), _, rfl⟩) d7_29 (by decide) (by decide) ?_
      exact ⟨_, rfl, fun _ => rfl, fun q1 q2 q3 => absurd hb_6 q2, rfl⟩
    · refine yicmp_n C d7_15 (XT.ii_eq_f hb_6) <| iN C c d7_18 rfl <| iB C 63 d7_19 rfl ?_
      by_cases hb_7 : c = 63
      · refine cY C d7_21 (XT.ii_eq_t hb_7) 28 (by decide) <| iC C 0 d7_28 rfl ?_
        refine g_ret C (v := (.int 0)) (ty := .boolean) rfl rfl (Or.inl ⟨rfl, Or.inr (Or.inl rfl), _, rfl⟩) d7_29 (by decide) (by decide) ?_
        exact ⟨_, rfl, fun _ => rfl, fun q1 q2 q3 => absurd hb_7 q3, rfl⟩
      · refine yicmp_n C d7_21 (XT.ii_eq_f hb_7) <| iC C 1 d7_24 rfl <| gT C d7_25 29 (by decide) ?_
        refine g_ret C (v := (.int 1)) (ty := .boolean) rfl rfl (Or.inl ⟨rfl, Or.inr (Or.inl rfl), _, rfl⟩) d7_29 (by decide) (by decide) ?_
        exact ⟨_, rfl, fun q => (by rcases q with q | q | q; exact absurd q hb_5; exact absurd q hb_6; exact absurd q hb_7), fun _ _ _ => rfl, rfl⟩
theorem rm_lchar_5_3 (hw : HW a0 Z) (a1 : Addr) (x0 x1 x2 x3 x4 c : Int32) (h0 : Heap) (Z0 : n0 ≤ h0.size) (cm : Um Z) (O : Old Z n0 h0) (A1 : Ary Z h0 a1 .byte [.int x0, .int x1, .int x2, .int x3, .int x4]) (ec : (UInt32.toInt32 (UInt16.toUInt32 (UInt32.toUInt16 (Int32.toUInt32 (x3 &&& 255))))) = c) (kc : nar .char c = c) :
    Met1 l Z ⟨"java/lang/StringLatin1", "charAt", "([BI)C"⟩ jdk_43_method_2_code 2 (some .char) ⟨2, 0, 0, 27⟩ n0 #[(.ref a1), (.int 3)] h0 (fun v h => v = some (.int c) ∧ h0 = h) := by
  refine met_of (plainFor_of_name pn_3) (L0 := #[.val (.ref a1), .val (.int 3)]) (by first | (simp [argsToLocals, Value.category]; done) | rfl) ?_
  intro B C
  change Ctx B l _ _ "java/lang/StringLatin1" "charAt" _ _ Z at C
  have cm' := cm
  obtain ⟨⟨cz, Scz, hcz⟩, Sas, Shi, Slo, Sfm⟩ := cm'
  refine iN C 3 d13_0 rfl <| aN C ((.ref a1)) d13_1 rfl rfl <| yarraylength C A1 (z := 5) rfl d13_2 <| cS C hw 62 63 4 64 rfl rfl rfl rfl (rm_sci hw 3 5 h0 Z0 cm O (by decide) (by decide)) [] [(.int 3), (.int 5)] pd_11 0 d13_3 ⟨rfl, rfl, rfl, rfl, rfl⟩ (by decide) ?_
  intro v_3 h_1 q_2
  obtain ⟨rfl, rfl⟩ := q_2
  show Go _ _ _ _ 0 0 6 _ []
  refine aN C ((.ref a1)) d13_6 rfl rfl <| iN C 3 d13_7 rfl <| ybaloadB C A1 (by decide) (i := 3) (by decide) (v := x3) rfl d13_8 <| iP C 255 d13_9 rfl <| yiand C d13_12 <| yi2c C d13_13 ?_
  rw [ec]
  refine g_ret C (v := (.int c)) (ty := .char) rfl (own_nch kc) (Or.inl ⟨rfl, Or.inr (Or.inr (Or.inr (Or.inl rfl))), _, rfl⟩) d13_14 (by decide) (by decide) ?_
  exact ⟨rfl, rfl⟩
theorem rm_charAt_5_3_0 (hw : HW a0 Z) (a1 b1 : Addr) (x0 x1 x2 x3 x4 c : Int32) (h0 : Heap) (Z0 : n0 ≤ h0.size) (cm : Um Z) (O : Old Z n0 h0) (E0 : Exa Z h0 a1 "java/lang/String") (F0 : Fld Z h0 a1 "java/lang/String" "value" "[B" (.ref b1)) (F1 : Fld Z h0 a1 "java/lang/String" "coder" "B" (.int 0)) (A1 : Ary Z h0 b1 .byte [.int x0, .int x1, .int x2, .int x3, .int x4]) (ec : (UInt32.toInt32 (UInt16.toUInt32 (UInt32.toUInt16 (Int32.toUInt32 (x3 &&& 255))))) = c) (kc : nar .char c = c) :
    Met1 l Z ⟨"java/lang/String", "charAt", "(I)C"⟩ jdk_42_method_56_code 2 (some .char) ⟨3, 0, 0, 40⟩ n0 #[(.ref a1), (.int 3)] h0 (fun v h => v = some (.int c) ∧ h0 = h) := by
  refine met_of (plainFor_of_name pn_5) (L0 := #[.val (.ref a1), .val (.int 3)]) (by first | (simp [argsToLocals, Value.category]; done) | rfl) ?_
  intro B C
  change Ctx B l _ _ "java/lang/String" "charAt" _ _ Z at C
  have cm' := cm
  obtain ⟨⟨cz, Scz, hcz⟩, Sas, Shi, Slo, Sfm⟩ := cm'
  refine aN C ((.ref a1)) d11_0 rfl rfl <| cV C hw 53 54 56 55 4 57 rfl rfl rfl rfl rfl rfl E0 (rm_isLatin1_0 hw a1 h0 Z0 cm O F1) [] [] pd_16 0 d11_1 ⟨rfl, rfl, rfl, rfl, rfl⟩ (by decide) ?_
  intro v_3 h_1 q_2
  obtain ⟨rfl, rfl⟩ := q_2
  show Go _ _ _ _ 0 0 4 _ [(.int 1)]
  refine yif_n C d11_4 (XT.i0_eq_f (by decide)) <| aN C ((.ref a1)) d11_7 rfl rfl <| ygetfield C (host := "") (v := (.ref b1)) (Or.inl (oW hw 29 rfl)) Via.refl F0 d11_8 <| iN C 3 d11_11 rfl <| cS C hw 58 59 60 61 rfl rfl rfl rfl (rm_lchar_5_3 hw b1 x0 x1 x2 x3 x4 c h0 Z0 cm O A1 ec kc) [] [(.ref b1), (.int 3)] pd_20 0 d11_12 ⟨rfl, rfl, rfl, rfl, rfl⟩ (by decide) ?_
  intro v_7 h_5 q_6
  obtain ⟨rfl, rfl⟩ := q_6
  show Go _ _ _ _ 0 0 15 _ [(.int c)]
  refine g_ret C (v := (.int c)) (ty := .char) rfl (own_nch kc) (Or.inl ⟨rfl, Or.inr (Or.inr (Or.inr (Or.inl rfl))), _, rfl⟩) d11_15 (by decide) (by decide) ?_
  exact ⟨rfl, rfl⟩
theorem rm_second_5_2_0 (hw : HW a0 Z) (a1 b1 : Addr) (x0 x1 x2 x3 x4 c : Int32) (h0 : Heap) (Z0 : n0 ≤ h0.size) (cm : Um Z) (O : Old Z n0 h0) (E0 : Exa Z h0 a1 "java/lang/String") (F0 : Fld Z h0 a1 "java/lang/String" "value" "[B" (.ref b1)) (F1 : Fld Z h0 a1 "java/lang/String" "coder" "B" (.int 0)) (A1 : Ary Z h0 b1 .byte [.int x0, .int x1, .int x2, .int x3, .int x4]) (e0 : (UInt32.toInt32 (UInt16.toUInt32 (UInt32.toUInt16 (Int32.toUInt32 (x2 &&& 255))))) = 60) (e1 : (UInt32.toInt32 (UInt16.toUInt32 (UInt32.toUInt16 (Int32.toUInt32 (x3 &&& 255))))) = c) (kc : nar .char c = c) :
    Met1 l Z ⟨"com/example/poder/poder/format/Markup", "second", "(Ljava/lang/String;I)C"⟩ prog_12_method_12_code 3 (some .char) ⟨4, 0, 0, 53⟩ n0 #[(.ref a1), (.int 2)] h0 (fun v h => v = some (.int c) ∧ h0 = h) := by
  refine met_of (plainFor_of_name pn_1) (L0 := #[.val (.ref a1), .val (.int 2), .unset]) (by first | (simp [argsToLocals, Value.category]; done) | rfl) ?_
  intro B C
  change Ctx B l _ _ "com/example/poder/poder/format/Markup" "second" _ _ Z at C
  have cm' := cm
  obtain ⟨⟨cz, Scz, hcz⟩, Sas, Shi, Slo, Sfm⟩ := cm'
  refine iN C 2 d8_0 rfl <| yif_n C d8_1 (XT.i0_lt_f (by decide)) <| iN C 2 d8_4 rfl <| iC C 1 d8_5 rfl <| yiadd C d8_6 <| eS [(.int 3)] rfl <| aN C ((.ref a1)) d8_7 rfl rfl <| cV C hw 38 39 41 40 4 42 rfl rfl rfl rfl rfl rfl E0 (rm_lenK_5_0 hw a1 b1 x0 x1 x2 x3 x4 h0 Z0 cm O E0 F0 F1 A1) [(.int 3)] [] pd_22 1 d8_8 ⟨rfl, rfl, rfl, rfl, rfl⟩ (by decide) ?_
  intro v_3 h_1 q_2
  obtain ⟨rfl, rfl⟩ := q_2
  show Go _ _ _ _ 0 0 11 _ [(.int 5), (.int 3)]
  refine yicmp_n C d8_11 (XT.ii_ge_f (by decide)) <| aN C ((.ref a1)) d8_14 rfl rfl <| iN C 2 d8_15 rfl <| cV C hw 48 49 51 50 4 52 rfl rfl rfl rfl rfl rfl E0 (rm_charAt_5_2_0 hw a1 b1 x0 x1 x2 x3 x4 60 h0 Z0 cm O E0 F0 F1 A1 e0 (by decide)) [] [(.int 2)] pd_23 0 d8_16 ⟨rfl, rfl, rfl, rfl, rfl⟩ (by decide) ?_
  intro v_7 h_5 q_6
  obtain ⟨rfl, rfl⟩ := q_6
  show Go _ _ _ _ 0 0 19 _ [(.int 60)]
  refine iB C 60 d8_19 rfl <| yicmp_n C d8_21 (XT.ii_ne_f (by decide)) <| iC C 1 d8_24 rfl <| gT C d8_25 29 (by decide) <| iT C d8_29 (#[aV a1, iV 2, iV 1]) rfl <| iN C 1 d8_30 rfl <| yif_n C d8_31 (XT.i0_eq_f (by decide)) <| aN C ((.ref a1)) d8_34 rfl rfl <| iN C 2 d8_35 rfl <| iC C 1 d8_36 rfl <| yiadd C d8_37 <| eS [(.int 3), (.ref a1)] rfl <| cV C hw 48 49 51 50 4 52 rfl rfl rfl rfl rfl rfl E0 (rm_charAt_5_3_0 hw a1 b1 x0 x1 x2 x3 x4 c h0 Z0 cm O E0 F0 F1 A1 e1 kc) [] [(.int 3)] pd_23 0 d8_38 ⟨rfl, rfl, rfl, rfl, rfl⟩ (by decide) ?_
  intro v_11 h_9 q_10
  obtain ⟨rfl, rfl⟩ := q_10
  show Go _ _ _ _ 0 0 41 _ [(.int c)]
  refine gT C d8_41 45 (by decide) ?_
  refine g_ret C (v := (.int c)) (ty := .char) rfl (own_nch kc) (Or.inl ⟨rfl, Or.inr (Or.inr (Or.inr (Or.inl rfl))), _, rfl⟩) d8_45 (by decide) (by decide) ?_
  exact ⟨rfl, rfl⟩
theorem rm_isStart_5_2_0 (hw : HW a0 Z) (a1 b1 : Addr) (x0 x1 x2 x3 x4 c : Int32) (h0 : Heap) (Z0 : n0 ≤ h0.size) (cm : Um Z) (O : Old Z n0 h0) (E0 : Exa Z h0 a1 "java/lang/String") (F0 : Fld Z h0 a1 "java/lang/String" "value" "[B" (.ref b1)) (F1 : Fld Z h0 a1 "java/lang/String" "coder" "B" (.int 0)) (A1 : Ary Z h0 b1 .byte [.int x0, .int x1, .int x2, .int x3, .int x4]) (e0 : (UInt32.toInt32 (UInt16.toUInt32 (UInt32.toUInt16 (Int32.toUInt32 (x2 &&& 255))))) = 60) (e1 : (UInt32.toInt32 (UInt16.toUInt32 (UInt32.toUInt16 (Int32.toUInt32 (x3 &&& 255))))) = c) (kc : nar .char c = c) :
    Met1 l Z ⟨"com/example/poder/poder/format/Markup", "isStartTag", "(Ljava/lang/String;I)Z"⟩ prog_12_method_2_code 3 (some .boolean) ⟨5, 0, 0, 67⟩ n0 #[(.ref a1), (.int 2)] h0 (fun v h => ∃ r : Int32, v = some (.int r) ∧ (c = 47 ∨ c = 33 ∨ c = 63 → r = 0) ∧ (¬ c = 47 → ¬ c = 33 → ¬ c = 63 → r = 1) ∧ h0 = h) := by
  refine met_of (plainFor_of_name pn_1) (L0 := #[.val (.ref a1), .val (.int 2), .unset]) (by first | (simp [argsToLocals, Value.category]; done) | rfl) ?_
  intro B C
  change Ctx B l _ _ "com/example/poder/poder/format/Markup" "isStartTag" _ _ Z at C
  have cm' := cm
  obtain ⟨⟨cz, Scz, hcz⟩, Sas, Shi, Slo, Sfm⟩ := cm'
  refine aN C ((.ref a1)) d7_0 rfl rfl <| iN C 2 d7_1 rfl <| cS C hw 35 36 33 37 rfl rfl rfl rfl (rm_second_5_2_0 hw a1 b1 x0 x1 x2 x3 x4 c h0 Z0 cm O E0 F0 F1 A1 e0 e1 kc) [] [(.ref a1), (.int 2)] pd_19 0 d7_2 ⟨rfl, rfl, rfl, rfl, rfl⟩ (by decide) ?_
  intro v_3 h_1 q_2
  obtain ⟨rfl, rfl⟩ := q_2
  show Go _ _ _ _ 0 0 5 _ [(.int c)]
  refine iT C d7_5 (#[aV a1, iV 2, iV c]) rfl <| iN C c d7_6 rfl <| iB C 47 d7_7 rfl ?_
  by_cases hb_5 : c = 47
  · refine cY C d7_9 (XT.ii_eq_t hb_5) 28 (by decide) <| iC C 0 d7_28 rfl ?_
    refine g_ret C (v := (.int 0)) (ty := .boolean) rfl rfl (Or.inl ⟨rfl, Or.inr (Or.inl rfl), _, rfl⟩) d7_29 (by decide) (by decide) ?_
    exact ⟨_, rfl, fun _ => rfl, fun q1 q2 q3 => absurd hb_5 q1, rfl⟩
  · refine yicmp_n C d7_9 (XT.ii_eq_f hb_5) <| iN C c d7_12 rfl <| iB C 33 d7_13 rfl ?_
    by_cases hb_6 : c = 33
    · refine cY C d7_15 (XT.ii_eq_t hb_6) 28 (by decide) <| iC C 0 d7_28 rfl ?_
      refine g_ret C (v := (.int 0)) (ty := .boolean) rfl rfl (Or.inl ⟨rfl, Or.inr (Or.inl rfl), _, rfl⟩) d7_29 (by decide) (by decide) ?_
      exact ⟨_, rfl, fun _ => rfl, fun q1 q2 q3 => absurd hb_6 q2, rfl⟩
    · refine yicmp_n C d7_15 (XT.ii_eq_f hb_6) <| iN C c d7_18 rfl <| iB C 63 d7_19 rfl ?_
      by_cases hb_7 : c = 63
      · refine cY C d7_21 (XT.ii_eq_t hb_7) 28 (by decide) <| iC C 0 d7_28 rfl ?_
        refine g_ret C (v := (.int 0)) (ty := .boolean) rfl rfl (Or.inl ⟨rfl, Or.inr (Or.inl rfl), _, rfl⟩) d7_29 (by decide) (by decide) ?_
        exact ⟨_, rfl, fun _ => rfl, fun q1 q2 q3 => absurd hb_7 q3, rfl⟩
      · refine yicmp_n C d7_21 (XT.ii_eq_f hb_7) <| iC C 1 d7_24 rfl <| gT C d7_25 29 (by decide) ?_
        refine g_ret C (v := (.int 1)) (ty := .boolean) rfl rfl (Or.inl ⟨rfl, Or.inr (Or.inl rfl), _, rfl⟩) d7_29 (by decide) (by decide) ?_
        exact ⟨_, rfl, fun q => (by rcases q with q | q | q; exact absurd q hb_5; exact absurd q hb_6; exact absurd q hb_7), fun _ _ _ => rfl, rfl⟩
theorem rm_uchar_5_3 (hw : HW a0 Z) (a1 : Addr) (x0 x1 x2 x3 x4 x5 x6 x7 x8 x9 c : Int32) (h0 : Heap) (Z0 : n0 ≤ h0.size) (cm : Um Z) (O : Old Z n0 h0) (A1 : Ary Z h0 a1 .byte [.int x0, .int x1, .int x2, .int x3, .int x4, .int x5, .int x6, .int x7, .int x8, .int x9]) (ec : (UInt32.toInt32 (UInt16.toUInt32 (UInt32.toUInt16 (Int32.toUInt32 (((x6 &&& 255) <<< (0 &&& 31)) ||| ((x7 &&& 255) <<< (8 &&& 31))))))) = c) (kc : nar .char c = c) :
    Met1 l Z ⟨"java/lang/StringUTF16", "charAt", "([BI)C"⟩ jdk_52_method_83_code 2 (some .char) ⟨3, 0, 0, 40⟩ n0 #[(.ref a1), (.int 3)] h0 (fun v h => v = some (.int c) ∧ h0 = h) := by
  refine met_of (plainFor_of_name pn_4) (L0 := #[.val (.ref a1), .val (.int 3)]) (by first | (simp [argsToLocals, Value.category]; done) | rfl) ?_
  intro B C
  change Ctx B l _ _ "java/lang/StringUTF16" "charAt" _ _ Z at C
  have cm' := cm
  obtain ⟨⟨cz, Scz, hcz⟩, Sas, Shi, Slo, Sfm⟩ := cm'
  refine iN C 3 d21_0 rfl <| aN C ((.ref a1)) d21_1 rfl rfl <| cS C hw 93 94 18 95 rfl rfl rfl rfl (rm_uci_5 hw 3 a1 x0 x1 x2 x3 x4 x5 x6 x7 x8 x9 h0 Z0 cm O A1 (by decide) (by decide)) [] [(.int 3), (.ref a1)] pd_9 0 d21_2 ⟨rfl, rfl, rfl, rfl, rfl⟩ (by decide) ?_
  intro v_3 h_1 q_2
  obtain ⟨rfl, rfl⟩ := q_2
  show Go _ _ _ _ 0 0 5 _ []
  refine aN C ((.ref a1)) d21_5 rfl rfl <| iN C 3 d21_6 rfl <| cS C hw 87 88 18 89 rfl rfl rfl rfl (rm_getC_5_3 hw a1 x0 x1 x2 x3 x4 x5 x6 x7 x8 x9 c h0 Z0 cm O A1 ec kc) [] [(.ref a1), (.int 3)] pd_15 0 d21_7 ⟨rfl, rfl, rfl, rfl, rfl⟩ (by decide) ?_
  intro v_7 h_5 q_6
  obtain ⟨rfl, rfl⟩ := q_6
  show Go _ _ _ _ 0 0 10 _ [(.int c)]
  refine g_ret C (v := (.int c)) (ty := .char) rfl (own_nch kc) (Or.inl ⟨rfl, Or.inr (Or.inr (Or.inr (Or.inl rfl))), _, rfl⟩) d21_10 (by decide) (by decide) ?_
  exact ⟨rfl, rfl⟩
theorem rm_charAt_5_3_1 (hw : HW a0 Z) (a1 b1 : Addr) (x0 x1 x2 x3 x4 x5 x6 x7 x8 x9 c : Int32) (h0 : Heap) (Z0 : n0 ≤ h0.size) (cm : Um Z) (O : Old Z n0 h0) (E0 : Exa Z h0 a1 "java/lang/String") (F0 : Fld Z h0 a1 "java/lang/String" "value" "[B" (.ref b1)) (F1 : Fld Z h0 a1 "java/lang/String" "coder" "B" (.int 1)) (A1 : Ary Z h0 b1 .byte [.int x0, .int x1, .int x2, .int x3, .int x4, .int x5, .int x6, .int x7, .int x8, .int x9]) (ec : (UInt32.toInt32 (UInt16.toUInt32 (UInt32.toUInt16 (Int32.toUInt32 (((x6 &&& 255) <<< (0 &&& 31)) ||| ((x7 &&& 255) <<< (8 &&& 31))))))) = c) (kc : nar .char c = c) :
    Met1 l Z ⟨"java/lang/String", "charAt", "(I)C"⟩ jdk_42_method_56_code 2 (some .char) ⟨4, 0, 0, 53⟩ n0 #[(.ref a1), (.int 3)] h0 (fun v h => v = some (.int c) ∧ h0 = h) := by
  refine met_of (plainFor_of_name pn_5) (L0 := #[.val (.ref a1), .val (.int 3)]) (by first | (simp [argsToLocals, Value.category]; done) | rfl) ?_
  intro B C
  change Ctx B l _ _ "java/lang/String" "charAt" _ _ Z at C
  have cm' := cm
  obtain ⟨⟨cz, Scz, hcz⟩, Sas, Shi, Slo, Sfm⟩ := cm'
  refine aN C ((.ref a1)) d11_0 rfl rfl <| cV C hw 53 54 56 55 4 57 rfl rfl rfl rfl rfl rfl E0 (rm_isLatin1_1 hw a1 h0 Z0 cm O F1) [] [] pd_16 0 d11_1 ⟨rfl, rfl, rfl, rfl, rfl⟩ (by decide) ?_
  intro v_3 h_1 q_2
  obtain ⟨rfl, rfl⟩ := q_2
  show Go _ _ _ _ 0 0 4 _ [(.int 0)]
  refine fY C d11_4 (XT.i0_eq_t (by decide)) 16 (by decide) <| aN C ((.ref a1)) d11_16 rfl rfl <| ygetfield C (host := "") (v := (.ref b1)) (Or.inl (oW hw 29 rfl)) Via.refl F0 d11_17 <| iN C 3 d11_20 rfl <| cS C hw 90 91 18 92 rfl rfl rfl rfl (rm_uchar_5_3 hw b1 x0 x1 x2 x3 x4 x5 x6 x7 x8 x9 c h0 Z0 cm O A1 ec kc) [] [(.ref b1), (.int 3)] pd_20 0 d11_21 ⟨rfl, rfl, rfl, rfl, rfl⟩ (by decide) ?_
  intro v_7 h_5 q_6
  obtain ⟨rfl, rfl⟩ := q_6
  show Go _ _ _ _ 0 0 24 _ [(.int c)]
  refine g_ret C (v := (.int c)) (ty := .char) rfl (own_nch kc) (Or.inl ⟨rfl, Or.inr (Or.inr (Or.inr (Or.inl rfl))), _, rfl⟩) d11_24 (by decide) (by decide) ?_
  exact ⟨rfl, rfl⟩
theorem rm_second_5_2_1 (hw : HW a0 Z) (a1 b1 : Addr) (x0 x1 x2 x3 x4 x5 x6 x7 x8 x9 c : Int32) (h0 : Heap) (Z0 : n0 ≤ h0.size) (cm : Um Z) (O : Old Z n0 h0) (E0 : Exa Z h0 a1 "java/lang/String") (F0 : Fld Z h0 a1 "java/lang/String" "value" "[B" (.ref b1)) (F1 : Fld Z h0 a1 "java/lang/String" "coder" "B" (.int 1)) (A1 : Ary Z h0 b1 .byte [.int x0, .int x1, .int x2, .int x3, .int x4, .int x5, .int x6, .int x7, .int x8, .int x9]) (e0 : (UInt32.toInt32 (UInt16.toUInt32 (UInt32.toUInt16 (Int32.toUInt32 (((x4 &&& 255) <<< (0 &&& 31)) ||| ((x5 &&& 255) <<< (8 &&& 31))))))) = 60) (e1 : (UInt32.toInt32 (UInt16.toUInt32 (UInt32.toUInt16 (Int32.toUInt32 (((x6 &&& 255) <<< (0 &&& 31)) ||| ((x7 &&& 255) <<< (8 &&& 31))))))) = c) (kc : nar .char c = c) :
    Met1 l Z ⟨"com/example/poder/poder/format/Markup", "second", "(Ljava/lang/String;I)C"⟩ prog_12_method_12_code 3 (some .char) ⟨5, 0, 0, 66⟩ n0 #[(.ref a1), (.int 2)] h0 (fun v h => v = some (.int c) ∧ h0 = h) := by
  refine met_of (plainFor_of_name pn_1) (L0 := #[.val (.ref a1), .val (.int 2), .unset]) (by first | (simp [argsToLocals, Value.category]; done) | rfl) ?_
  intro B C
  change Ctx B l _ _ "com/example/poder/poder/format/Markup" "second" _ _ Z at C
  have cm' := cm
  obtain ⟨⟨cz, Scz, hcz⟩, Sas, Shi, Slo, Sfm⟩ := cm'
  refine iN C 2 d8_0 rfl <| yif_n C d8_1 (XT.i0_lt_f (by decide)) <| iN C 2 d8_4 rfl <| iC C 1 d8_5 rfl <| yiadd C d8_6 <| eS [(.int 3)] rfl <| aN C ((.ref a1)) d8_7 rfl rfl <| cV C hw 38 39 41 40 4 42 rfl rfl rfl rfl rfl rfl E0 (rm_lenK_5_1 hw a1 b1 x0 x1 x2 x3 x4 x5 x6 x7 x8 x9 h0 Z0 cm O E0 F0 F1 A1) [(.int 3)] [] pd_22 1 d8_8 ⟨rfl, rfl, rfl, rfl, rfl⟩ (by decide) ?_
  intro v_3 h_1 q_2
  obtain ⟨rfl, rfl⟩ := q_2
  show Go _ _ _ _ 0 0 11 _ [(.int 5), (.int 3)]
  refine yicmp_n C d8_11 (XT.ii_ge_f (by decide)) <| aN C ((.ref a1)) d8_14 rfl rfl <| iN C 2 d8_15 rfl <| cV C hw 48 49 51 50 4 52 rfl rfl rfl rfl rfl rfl E0 (rm_charAt_5_2_1 hw a1 b1 x0 x1 x2 x3 x4 x5 x6 x7 x8 x9 60 h0 Z0 cm O E0 F0 F1 A1 e0 (by decide)) [] [(.int 2)] pd_23 0 d8_16 ⟨rfl, rfl, rfl, rfl, rfl⟩ (by decide) ?_
  intro v_7 h_5 q_6
  obtain ⟨rfl, rfl⟩ := q_6
  show Go _ _ _ _ 0 0 19 _ [(.int 60)]
  refine iB C 60 d8_19 rfl <| yicmp_n C d8_21 (XT.ii_ne_f (by decide)) <| iC C 1 d8_24 rfl <| gT C d8_25 29 (by decide) <| iT C d8_29 (#[aV a1, iV 2, iV 1]) rfl <| iN C 1 d8_30 rfl <| yif_n C d8_31 (XT.i0_eq_f (by decide)) <| aN C ((.ref a1)) d8_34 rfl rfl <| iN C 2 d8_35 rfl <| iC C 1 d8_36 rfl <| yiadd C d8_37 <| eS [(.int 3), (.ref a1)] rfl <| cV C hw 48 49 51 50 4 52 rfl rfl rfl rfl rfl rfl E0 (rm_charAt_5_3_1 hw a1 b1 x0 x1 x2 x3 x4 x5 x6 x7 x8 x9 c h0 Z0 cm O E0 F0 F1 A1 e1 kc) [] [(.int 3)] pd_23 0 d8_38 ⟨rfl, rfl, rfl, rfl, rfl⟩ (by decide) ?_
  intro v_11 h_9 q_10
  obtain ⟨rfl, rfl⟩ := q_10
  show Go _ _ _ _ 0 0 41 _ [(.int c)]
  refine gT C d8_41 45 (by decide) ?_
  refine g_ret C (v := (.int c)) (ty := .char) rfl (own_nch kc) (Or.inl ⟨rfl, Or.inr (Or.inr (Or.inr (Or.inl rfl))), _, rfl⟩) d8_45 (by decide) (by decide) ?_
  exact ⟨rfl, rfl⟩
theorem rm_isStart_5_2_1 (hw : HW a0 Z) (a1 b1 : Addr) (x0 x1 x2 x3 x4 x5 x6 x7 x8 x9 c : Int32) (h0 : Heap) (Z0 : n0 ≤ h0.size) (cm : Um Z) (O : Old Z n0 h0) (E0 : Exa Z h0 a1 "java/lang/String") (F0 : Fld Z h0 a1 "java/lang/String" "value" "[B" (.ref b1)) (F1 : Fld Z h0 a1 "java/lang/String" "coder" "B" (.int 1)) (A1 : Ary Z h0 b1 .byte [.int x0, .int x1, .int x2, .int x3, .int x4, .int x5, .int x6, .int x7, .int x8, .int x9]) (e0 : (UInt32.toInt32 (UInt16.toUInt32 (UInt32.toUInt16 (Int32.toUInt32 (((x4 &&& 255) <<< (0 &&& 31)) ||| ((x5 &&& 255) <<< (8 &&& 31))))))) = 60) (e1 : (UInt32.toInt32 (UInt16.toUInt32 (UInt32.toUInt16 (Int32.toUInt32 (((x6 &&& 255) <<< (0 &&& 31)) ||| ((x7 &&& 255) <<< (8 &&& 31))))))) = c) (kc : nar .char c = c) :
    Met1 l Z ⟨"com/example/poder/poder/format/Markup", "isStartTag", "(Ljava/lang/String;I)Z"⟩ prog_12_method_2_code 3 (some .boolean) ⟨6, 0, 0, 80⟩ n0 #[(.ref a1), (.int 2)] h0 (fun v h => ∃ r : Int32, v = some (.int r) ∧ (c = 47 ∨ c = 33 ∨ c = 63 → r = 0) ∧ (¬ c = 47 → ¬ c = 33 → ¬ c = 63 → r = 1) ∧ h0 = h) := by
  refine met_of (plainFor_of_name pn_1) (L0 := #[.val (.ref a1), .val (.int 2), .unset]) (by first | (simp [argsToLocals, Value.category]; done) | rfl) ?_
  intro B C
  change Ctx B l _ _ "com/example/poder/poder/format/Markup" "isStartTag" _ _ Z at C
  have cm' := cm
  obtain ⟨⟨cz, Scz, hcz⟩, Sas, Shi, Slo, Sfm⟩ := cm'
  refine aN C ((.ref a1)) d7_0 rfl rfl <| iN C 2 d7_1 rfl <| cS C hw 35 36 33 37 rfl rfl rfl rfl (rm_second_5_2_1 hw a1 b1 x0 x1 x2 x3 x4 x5 x6 x7 x8 x9 c h0 Z0 cm O E0 F0 F1 A1 e0 e1 kc) [] [(.ref a1), (.int 2)] pd_19 0 d7_2 ⟨rfl, rfl, rfl, rfl, rfl⟩ (by decide) ?_
  intro v_3 h_1 q_2
  obtain ⟨rfl, rfl⟩ := q_2
  show Go _ _ _ _ 0 0 5 _ [(.int c)]
  refine iT C d7_5 (#[aV a1, iV 2, iV c]) rfl <| iN C c d7_6 rfl <| iB C 47 d7_7 rfl ?_
  by_cases hb_5 : c = 47
  · refine cY C d7_9 (XT.ii_eq_t hb_5) 28 (by decide) <| iC C 0 d7_28 rfl ?_
    refine g_ret C (v := (.int 0)) (ty := .boolean) rfl rfl (Or.inl ⟨rfl, Or.inr (Or.inl rfl), _, rfl⟩) d7_29 (by decide) (by decide) ?_
    exact ⟨_, rfl, fun _ => rfl, fun q1 q2 q3 => absurd hb_5 q1, rfl⟩
  · refine yicmp_n C d7_9 (XT.ii_eq_f hb_5) <| iN C c d7_12 rfl <| iB C 33 d7_13 rfl ?_
    by_cases hb_6 : c = 33
    · refine cY C d7_15 (XT.ii_eq_t hb_6) 28 (by decide) <| iC C 0 d7_28 rfl ?_
      refine g_ret C (v := (.int 0)) (ty := .boolean) rfl rfl (Or.inl ⟨rfl, Or.inr (Or.inl rfl), _, rfl⟩) d7_29 (by decide) (by decide) ?_
      exact ⟨_, rfl, fun _ => rfl, fun q1 q2 q3 => absurd hb_6 q2, rfl⟩
    · refine yicmp_n C d7_15 (XT.ii_eq_f hb_6) <| iN C c d7_18 rfl <| iB C 63 d7_19 rfl ?_
      by_cases hb_7 : c = 63
      · refine cY C d7_21 (XT.ii_eq_t hb_7) 28 (by decide) <| iC C 0 d7_28 rfl ?_
        refine g_ret C (v := (.int 0)) (ty := .boolean) rfl rfl (Or.inl ⟨rfl, Or.inr (Or.inl rfl), _, rfl⟩) d7_29 (by decide) (by decide) ?_
        exact ⟨_, rfl, fun _ => rfl, fun q1 q2 q3 => absurd hb_7 q3, rfl⟩
      · refine yicmp_n C d7_21 (XT.ii_eq_f hb_7) <| iC C 1 d7_24 rfl <| gT C d7_25 29 (by decide) ?_
        refine g_ret C (v := (.int 1)) (ty := .boolean) rfl rfl (Or.inl ⟨rfl, Or.inr (Or.inl rfl), _, rfl⟩) d7_29 (by decide) (by decide) ?_
        exact ⟨_, rfl, fun q => (by rcases q with q | q | q; exact absurd q hb_5; exact absurd q hb_6; exact absurd q hb_7), fun _ _ _ => rfl, rfl⟩
theorem rm_lchar_5_4 (hw : HW a0 Z) (a1 : Addr) (x0 x1 x2 x3 x4 c : Int32) (h0 : Heap) (Z0 : n0 ≤ h0.size) (cm : Um Z) (O : Old Z n0 h0) (A1 : Ary Z h0 a1 .byte [.int x0, .int x1, .int x2, .int x3, .int x4]) (ec : (UInt32.toInt32 (UInt16.toUInt32 (UInt32.toUInt16 (Int32.toUInt32 (x4 &&& 255))))) = c) (kc : nar .char c = c) :
    Met1 l Z ⟨"java/lang/StringLatin1", "charAt", "([BI)C"⟩ jdk_43_method_2_code 2 (some .char) ⟨2, 0, 0, 27⟩ n0 #[(.ref a1), (.int 4)] h0 (fun v h => v = some (.int c) ∧ h0 = h) := by
  refine met_of (plainFor_of_name pn_3) (L0 := #[.val (.ref a1), .val (.int 4)]) (by first | (simp [argsToLocals, Value.category]; done) | rfl) ?_
  intro B C
  change Ctx B l _ _ "java/lang/StringLatin1" "charAt" _ _ Z at C
  have cm' := cm
  obtain ⟨⟨cz, Scz, hcz⟩, Sas, Shi, Slo, Sfm⟩ := cm'
  refine iN C 4 d13_0 rfl <| aN C ((.ref a1)) d13_1 rfl rfl <| yarraylength C A1 (z := 5) rfl d13_2 <| cS C hw 62 63 4 64 rfl rfl rfl rfl (rm_sci hw 4 5 h0 Z0 cm O (by decide) (by decide)) [] [(.int 4), (.int 5)] pd_11 0 d13_3 ⟨rfl, rfl, rfl, rfl, rfl⟩ (by decide) ?_
  intro v_3 h_1 q_2
  obtain ⟨rfl, rfl⟩ := q_2
  show Go _ _ _ _ 0 0 6 _ []
  refine aN C ((.ref a1)) d13_6 rfl rfl <| iN C 4 d13_7 rfl <| ybaloadB C A1 (by decide) (i := 4) (by decide) (v := x4) rfl d13_8 <| iP C 255 d13_9 rfl <| yiand C d13_12 <| yi2c C d13_13 ?_
  rw [ec]
  refine g_ret C (v := (.int c)) (ty := .char) rfl (own_nch kc) (Or.inl ⟨rfl, Or.inr (Or.inr (Or.inr (Or.inl rfl))), _, rfl⟩) d13_14 (by decide) (by decide) ?_
  exact ⟨rfl, rfl⟩
theorem rm_charAt_5_4_0 (hw : HW a0 Z) (a1 b1 : Addr) (x0 x1 x2 x3 x4 c : Int32) (h0 : Heap) (Z0 : n0 ≤ h0.size) (cm : Um Z) (O : Old Z n0 h0) (E0 : Exa Z h0 a1 "java/lang/String") (F0 : Fld Z h0 a1 "java/lang/String" "value" "[B" (.ref b1)) (F1 : Fld Z h0 a1 "java/lang/String" "coder" "B" (.int 0)) (A1 : Ary Z h0 b1 .byte [.int x0, .int x1, .int x2, .int x3, .int x4]) (ec : (UInt32.toInt32 (UInt16.toUInt32 (UInt32.toUInt16 (Int32.toUInt32 (x4 &&& 255))))) = c) (kc : nar .char c = c) :
    Met1 l Z ⟨"java/lang/String", "charAt", "(I)C"⟩ jdk_42_method_56_code 2 (some .char) ⟨3, 0, 0, 40⟩ n0 #[(.ref a1), (.int 4)] h0 (fun v h => v = some (.int c) ∧ h0 = h) := by
  refine met_of (plainFor_of_name pn_5) (L0 := #[.val (.ref a1), .val (.int 4)]) (by first | (simp [argsToLocals, Value.category]; done) | rfl) ?_
  intro B C
  change Ctx B l _ _ "java/lang/String" "charAt" _ _ Z at C
  have cm' := cm
  obtain ⟨⟨cz, Scz, hcz⟩, Sas, Shi, Slo, Sfm⟩ := cm'
  refine aN C ((.ref a1)) d11_0 rfl rfl <| cV C hw 53 54 56 55 4 57 rfl rfl rfl rfl rfl rfl E0 (rm_isLatin1_0 hw a1 h0 Z0 cm O F1) [] [] pd_16 0 d11_1 ⟨rfl, rfl, rfl, rfl, rfl⟩ (by decide) ?_
  intro v_3 h_1 q_2
  obtain ⟨rfl, rfl⟩ := q_2
  show Go _ _ _ _ 0 0 4 _ [(.int 1)]
  refine yif_n C d11_4 (XT.i0_eq_f (by decide)) <| aN C ((.ref a1)) d11_7 rfl rfl <| ygetfield C (host := "") (v := (.ref b1)) (Or.inl (oW hw 29 rfl)) Via.refl F0 d11_8 <| iN C 4 d11_11 rfl <| cS C hw 58 59 60 61 rfl rfl rfl rfl (rm_lchar_5_4 hw b1 x0 x1 x2 x3 x4 c h0 Z0 cm O A1 ec kc) [] [(.ref b1), (.int 4)] pd_20 0 d11_12 ⟨rfl, rfl, rfl, rfl, rfl⟩ (by decide) ?_
  intro v_7 h_5 q_6
  obtain ⟨rfl, rfl⟩ := q_6
  show Go _ _ _ _ 0 0 15 _ [(.int c)]
  refine g_ret C (v := (.int c)) (ty := .char) rfl (own_nch kc) (Or.inl ⟨rfl, Or.inr (Or.inr (Or.inr (Or.inl rfl))), _, rfl⟩) d11_15 (by decide) (by decide) ?_
  exact ⟨rfl, rfl⟩
theorem rm_second_5_3_0 (hw : HW a0 Z) (a1 b1 : Addr) (x0 x1 x2 x3 x4 c : Int32) (h0 : Heap) (Z0 : n0 ≤ h0.size) (cm : Um Z) (O : Old Z n0 h0) (E0 : Exa Z h0 a1 "java/lang/String") (F0 : Fld Z h0 a1 "java/lang/String" "value" "[B" (.ref b1)) (F1 : Fld Z h0 a1 "java/lang/String" "coder" "B" (.int 0)) (A1 : Ary Z h0 b1 .byte [.int x0, .int x1, .int x2, .int x3, .int x4]) (e0 : (UInt32.toInt32 (UInt16.toUInt32 (UInt32.toUInt16 (Int32.toUInt32 (x3 &&& 255))))) = 60) (e1 : (UInt32.toInt32 (UInt16.toUInt32 (UInt32.toUInt16 (Int32.toUInt32 (x4 &&& 255))))) = c) (kc : nar .char c = c) :
    Met1 l Z ⟨"com/example/poder/poder/format/Markup", "second", "(Ljava/lang/String;I)C"⟩ prog_12_method_12_code 3 (some .char) ⟨4, 0, 0, 53⟩ n0 #[(.ref a1), (.int 3)] h0 (fun v h => v = some (.int c) ∧ h0 = h) := by
  refine met_of (plainFor_of_name pn_1) (L0 := #[.val (.ref a1), .val (.int 3), .unset]) (by first | (simp [argsToLocals, Value.category]; done) | rfl) ?_
  intro B C
  change Ctx B l _ _ "com/example/poder/poder/format/Markup" "second" _ _ Z at C
  have cm' := cm
  obtain ⟨⟨cz, Scz, hcz⟩, Sas, Shi, Slo, Sfm⟩ := cm'
  refine iN C 3 d8_0 rfl <| yif_n C d8_1 (XT.i0_lt_f (by decide)) <| iN C 3 d8_4 rfl <| iC C 1 d8_5 rfl <| yiadd C d8_6 <| eS [(.int 4)] rfl <| aN C ((.ref a1)) d8_7 rfl rfl <| cV C hw 38 39 41 40 4 42 rfl rfl rfl rfl rfl rfl E0 (rm_lenK_5_0 hw a1 b1 x0 x1 x2 x3 x4 h0 Z0 cm O E0 F0 F1 A1) [(.int 4)] [] pd_22 1 d8_8 ⟨rfl, rfl, rfl, rfl, rfl⟩ (by decide) ?_
  intro v_3 h_1 q_2
  obtain ⟨rfl, rfl⟩ := q_2
  show Go _ _ _ _ 0 0 11 _ [(.int 5), (.int 4)]
  refine yicmp_n C d8_11 (XT.ii_ge_f (by decide)) <| aN C ((.ref a1)) d8_14 rfl rfl <| iN C 3 d8_15 rfl <| cV C hw 48 49 51 50 4 52 rfl rfl rfl rfl rfl rfl E0 (rm_charAt_5_3_0 hw a1 b1 x0 x1 x2 x3 x4 60 h0 Z0 cm O E0 F0 F1 A1 e0 (by decide)) [] [(.int 3)] pd_23 0 d8_16 ⟨rfl, rfl, rfl, rfl, rfl⟩ (by decide) ?_
  intro v_7 h_5 q_6
  obtain ⟨rfl, rfl⟩ := q_6
  show Go _ _ _ _ 0 0 19 _ [(.int 60)]
  refine iB C 60 d8_19 rfl <| yicmp_n C d8_21 (XT.ii_ne_f (by decide)) <| iC C 1 d8_24 rfl <| gT C d8_25 29 (by decide) <| iT C d8_29 (#[aV a1, iV 3, iV 1]) rfl <| iN C 1 d8_30 rfl <| yif_n C d8_31 (XT.i0_eq_f (by decide)) <| aN C ((.ref a1)) d8_34 rfl rfl <| iN C 3 d8_35 rfl <| iC C 1 d8_36 rfl <| yiadd C d8_37 <| eS [(.int 4), (.ref a1)] rfl <| cV C hw 48 49 51 50 4 52 rfl rfl rfl rfl rfl rfl E0 (rm_charAt_5_4_0 hw a1 b1 x0 x1 x2 x3 x4 c h0 Z0 cm O E0 F0 F1 A1 e1 kc) [] [(.int 4)] pd_23 0 d8_38 ⟨rfl, rfl, rfl, rfl, rfl⟩ (by decide) ?_
  intro v_11 h_9 q_10
  obtain ⟨rfl, rfl⟩ := q_10
  show Go _ _ _ _ 0 0 41 _ [(.int c)]
  refine gT C d8_41 45 (by decide) ?_
  refine g_ret C (v := (.int c)) (ty := .char) rfl (own_nch kc) (Or.inl ⟨rfl, Or.inr (Or.inr (Or.inr (Or.inl rfl))), _, rfl⟩) d8_45 (by decide) (by decide) ?_
  exact ⟨rfl, rfl⟩
theorem rm_isStart_5_3_0 (hw : HW a0 Z) (a1 b1 : Addr) (x0 x1 x2 x3 x4 c : Int32) (h0 : Heap) (Z0 : n0 ≤ h0.size) (cm : Um Z) (O : Old Z n0 h0) (E0 : Exa Z h0 a1 "java/lang/String") (F0 : Fld Z h0 a1 "java/lang/String" "value" "[B" (.ref b1)) (F1 : Fld Z h0 a1 "java/lang/String" "coder" "B" (.int 0)) (A1 : Ary Z h0 b1 .byte [.int x0, .int x1, .int x2, .int x3, .int x4]) (e0 : (UInt32.toInt32 (UInt16.toUInt32 (UInt32.toUInt16 (Int32.toUInt32 (x3 &&& 255))))) = 60) (e1 : (UInt32.toInt32 (UInt16.toUInt32 (UInt32.toUInt16 (Int32.toUInt32 (x4 &&& 255))))) = c) (kc : nar .char c = c) :
    Met1 l Z ⟨"com/example/poder/poder/format/Markup", "isStartTag", "(Ljava/lang/String;I)Z"⟩ prog_12_method_2_code 3 (some .boolean) ⟨5, 0, 0, 67⟩ n0 #[(.ref a1), (.int 3)] h0 (fun v h => ∃ r : Int32, v = some (.int r) ∧ (c = 47 ∨ c = 33 ∨ c = 63 → r = 0) ∧ (¬ c = 47 → ¬ c = 33 → ¬ c = 63 → r = 1) ∧ h0 = h) := by
  refine met_of (plainFor_of_name pn_1) (L0 := #[.val (.ref a1), .val (.int 3), .unset]) (by first | (simp [argsToLocals, Value.category]; done) | rfl) ?_
  intro B C
  change Ctx B l _ _ "com/example/poder/poder/format/Markup" "isStartTag" _ _ Z at C
  have cm' := cm
  obtain ⟨⟨cz, Scz, hcz⟩, Sas, Shi, Slo, Sfm⟩ := cm'
  refine aN C ((.ref a1)) d7_0 rfl rfl <| iN C 3 d7_1 rfl <| cS C hw 35 36 33 37 rfl rfl rfl rfl (rm_second_5_3_0 hw a1 b1 x0 x1 x2 x3 x4 c h0 Z0 cm O E0 F0 F1 A1 e0 e1 kc) [] [(.ref a1), (.int 3)] pd_19 0 d7_2 ⟨rfl, rfl, rfl, rfl, rfl⟩ (by decide) ?_
  intro v_3 h_1 q_2
  obtain ⟨rfl, rfl⟩ := q_2
  show Go _ _ _ _ 0 0 5 _ [(.int c)]
  refine iT C d7_5 (#[aV a1, iV 3, iV c]) rfl <| iN C c d7_6 rfl <| iB C 47 d7_7 rfl ?_
  by_cases hb_5 : c = 47
  · refine cY C d7_9 (XT.ii_eq_t hb_5) 28 (by decide) <| iC C 0 d7_28 rfl ?_
    refine g_ret C (v := (.int 0)) (ty := .boolean) rfl rfl (Or.inl ⟨rfl, Or.inr (Or.inl rfl), _, rfl⟩) d7_29 (by decide) (by decide) ?_
    exact ⟨_, rfl, fun _ => rfl, fun q1 q2 q3 => absurd hb_5 q1, rfl⟩
  · refine yicmp_n C d7_9 (XT.ii_eq_f hb_5) <| iN C c d7_12 rfl <| iB C 33 d7_13 rfl ?_
    by_cases hb_6 : c = 33
    · refine cY C d7_15 (XT.ii_eq_t hb_6) 28 (by decide) <| iC C 0 d7_28 rfl ?_
      refine g_ret C (v := (.int 0)) (ty := .boolean) rfl rfl (Or.inl ⟨rfl, Or.inr (Or.inl rfl), _, rfl⟩) d7_29 (by decide) (by decide) ?_
      exact ⟨_, rfl, fun _ => rfl, fun q1 q2 q3 => absurd hb_6 q2, rfl⟩
    · refine yicmp_n C d7_15 (XT.ii_eq_f hb_6) <| iN C c d7_18 rfl <| iB C 63 d7_19 rfl ?_
      by_cases hb_7 : c = 63
      · refine cY C d7_21 (XT.ii_eq_t hb_7) 28 (by decide) <| iC C 0 d7_28 rfl ?_
        refine g_ret C (v := (.int 0)) (ty := .boolean) rfl rfl (Or.inl ⟨rfl, Or.inr (Or.inl rfl), _, rfl⟩) d7_29 (by decide) (by decide) ?_
        exact ⟨_, rfl, fun _ => rfl, fun q1 q2 q3 => absurd hb_7 q3, rfl⟩
      · refine yicmp_n C d7_21 (XT.ii_eq_f hb_7) <| iC C 1 d7_24 rfl <| gT C d7_25 29 (by decide) ?_
        refine g_ret C (v := (.int 1)) (ty := .boolean) rfl rfl (Or.inl ⟨rfl, Or.inr (Or.inl rfl), _, rfl⟩) d7_29 (by decide) (by decide) ?_
        exact ⟨_, rfl, fun q => (by rcases q with q | q | q; exact absurd q hb_5; exact absurd q hb_6; exact absurd q hb_7), fun _ _ _ => rfl, rfl⟩
theorem rm_uchar_5_4 (hw : HW a0 Z) (a1 : Addr) (x0 x1 x2 x3 x4 x5 x6 x7 x8 x9 c : Int32) (h0 : Heap) (Z0 : n0 ≤ h0.size) (cm : Um Z) (O : Old Z n0 h0) (A1 : Ary Z h0 a1 .byte [.int x0, .int x1, .int x2, .int x3, .int x4, .int x5, .int x6, .int x7, .int x8, .int x9]) (ec : (UInt32.toInt32 (UInt16.toUInt32 (UInt32.toUInt16 (Int32.toUInt32 (((x8 &&& 255) <<< (0 &&& 31)) ||| ((x9 &&& 255) <<< (8 &&& 31))))))) = c) (kc : nar .char c = c) :
    Met1 l Z ⟨"java/lang/StringUTF16", "charAt", "([BI)C"⟩ jdk_52_method_83_code 2 (some .char) ⟨3, 0, 0, 40⟩ n0 #[(.ref a1), (.int 4)] h0 (fun v h => v = some (.int c) ∧ h0 = h) := by
  refine met_of (plainFor_of_name pn_4) (L0 := #[.val (.ref a1), .val (.int 4)]) (by first | (simp [argsToLocals, Value.category]; done) | rfl) ?_
  intro B C
  change Ctx B l _ _ "java/lang/StringUTF16" "charAt" _ _ Z at C
  have cm' := cm
  obtain ⟨⟨cz, Scz, hcz⟩, Sas, Shi, Slo, Sfm⟩ := cm'
  refine iN C 4 d21_0 rfl <| aN C ((.ref a1)) d21_1 rfl rfl <| cS C hw 93 94 18 95 rfl rfl rfl rfl (rm_uci_5 hw 4 a1 x0 x1 x2 x3 x4 x5 x6 x7 x8 x9 h0 Z0 cm O A1 (by decide) (by decide)) [] [(.int 4), (.ref a1)] pd_9 0 d21_2 ⟨rfl, rfl, rfl, rfl, rfl⟩ (by decide) ?_
  intro v_3 h_1 q_2
  obtain ⟨rfl, rfl⟩ := q_2
  show Go _ _ _ _ 0 0 5 _ []
  refine aN C ((.ref a1)) d21_5 rfl rfl <| iN C 4 d21_6 rfl <| cS C hw 87 88 18 89 rfl rfl rfl rfl (rm_getC_5_4 hw a1 x0 x1 x2 x3 x4 x5 x6 x7 x8 x9 c h0 Z0 cm O A1 ec kc) [] [(.ref a1), (.int 4)] pd_15 0 d21_7 ⟨rfl, rfl, rfl, rfl, rfl⟩ (by decide) ?_
  intro v_7 h_5 q_6
  obtain ⟨rfl, rfl⟩ := q_6
  show Go _ _ _ _ 0 0 10 _ [(.int c)]
  refine g_ret C (v := (.int c)) (ty := .char) rfl (own_nch kc) (Or.inl ⟨rfl, Or.inr (Or.inr (Or.inr (Or.inl rfl))), _, rfl⟩) d21_10 (by decide) (by decide) ?_
  exact ⟨rfl, rfl⟩
theorem rm_charAt_5_4_1 (hw : HW a0 Z) (a1 b1 : Addr) (x0 x1 x2 x3 x4 x5 x6 x7 x8 x9 c : Int32) (h0 : Heap) (Z0 : n0 ≤ h0.size) (cm : Um Z) (O : Old Z n0 h0) (E0 : Exa Z h0 a1 "java/lang/String") (F0 : Fld Z h0 a1 "java/lang/String" "value" "[B" (.ref b1)) (F1 : Fld Z h0 a1 "java/lang/String" "coder" "B" (.int 1)) (A1 : Ary Z h0 b1 .byte [.int x0, .int x1, .int x2, .int x3, .int x4, .int x5, .int x6, .int x7, .int x8, .int x9]) (ec : (UInt32.toInt32 (UInt16.toUInt32 (UInt32.toUInt16 (Int32.toUInt32 (((x8 &&& 255) <<< (0 &&& 31)) ||| ((x9 &&& 255) <<< (8 &&& 31))))))) = c) (kc : nar .char c = c) :
    Met1 l Z ⟨"java/lang/String", "charAt", "(I)C"⟩ jdk_42_method_56_code 2 (some .char) ⟨4, 0, 0, 53⟩ n0 #[(.ref a1), (.int 4)] h0 (fun v h => v = some (.int c) ∧ h0 = h) := by
  refine met_of (plainFor_of_name pn_5) (L0 := #[.val (.ref a1), .val (.int 4)]) (by first | (simp [argsToLocals, Value.category]; done) | rfl) ?_
  intro B C
  change Ctx B l _ _ "java/lang/String" "charAt" _ _ Z at C
  have cm' := cm
  obtain ⟨⟨cz, Scz, hcz⟩, Sas, Shi, Slo, Sfm⟩ := cm'
  refine aN C ((.ref a1)) d11_0 rfl rfl <| cV C hw 53 54 56 55 4 57 rfl rfl rfl rfl rfl rfl E0 (rm_isLatin1_1 hw a1 h0 Z0 cm O F1) [] [] pd_16 0 d11_1 ⟨rfl, rfl, rfl, rfl, rfl⟩ (by decide) ?_
  intro v_3 h_1 q_2
  obtain ⟨rfl, rfl⟩ := q_2
  show Go _ _ _ _ 0 0 4 _ [(.int 0)]
  refine fY C d11_4 (XT.i0_eq_t (by decide)) 16 (by decide) <| aN C ((.ref a1)) d11_16 rfl rfl <| ygetfield C (host := "") (v := (.ref b1)) (Or.inl (oW hw 29 rfl)) Via.refl F0 d11_17 <| iN C 4 d11_20 rfl <| cS C hw 90 91 18 92 rfl rfl rfl rfl (rm_uchar_5_4 hw b1 x0 x1 x2 x3 x4 x5 x6 x7 x8 x9 c h0 Z0 cm O A1 ec kc) [] [(.ref b1), (.int 4)] pd_20 0 d11_21 ⟨rfl, rfl, rfl, rfl, rfl⟩ (by decide) ?_
  intro v_7 h_5 q_6
  obtain ⟨rfl, rfl⟩ := q_6
  show Go _ _ _ _ 0 0 24 _ [(.int c)]
  refine g_ret C (v := (.int c)) (ty := .char) rfl (own_nch kc) (Or.inl ⟨rfl, Or.inr (Or.inr (Or.inr (Or.inl rfl))), _, rfl⟩) d11_24 (by decide) (by decide) ?_
  exact ⟨rfl, rfl⟩
theorem rm_second_5_3_1 (hw : HW a0 Z) (a1 b1 : Addr) (x0 x1 x2 x3 x4 x5 x6 x7 x8 x9 c : Int32) (h0 : Heap) (Z0 : n0 ≤ h0.size) (cm : Um Z) (O : Old Z n0 h0) (E0 : Exa Z h0 a1 "java/lang/String") (F0 : Fld Z h0 a1 "java/lang/String" "value" "[B" (.ref b1)) (F1 : Fld Z h0 a1 "java/lang/String" "coder" "B" (.int 1)) (A1 : Ary Z h0 b1 .byte [.int x0, .int x1, .int x2, .int x3, .int x4, .int x5, .int x6, .int x7, .int x8, .int x9]) (e0 : (UInt32.toInt32 (UInt16.toUInt32 (UInt32.toUInt16 (Int32.toUInt32 (((x6 &&& 255) <<< (0 &&& 31)) ||| ((x7 &&& 255) <<< (8 &&& 31))))))) = 60) (e1 : (UInt32.toInt32 (UInt16.toUInt32 (UInt32.toUInt16 (Int32.toUInt32 (((x8 &&& 255) <<< (0 &&& 31)) ||| ((x9 &&& 255) <<< (8 &&& 31))))))) = c) (kc : nar .char c = c) :
    Met1 l Z ⟨"com/example/poder/poder/format/Markup", "second", "(Ljava/lang/String;I)C"⟩ prog_12_method_12_code 3 (some .char) ⟨5, 0, 0, 66⟩ n0 #[(.ref a1), (.int 3)] h0 (fun v h => v = some (.int c) ∧ h0 = h) := by
  refine met_of (plainFor_of_name pn_1) (L0 := #[.val (.ref a1), .val (.int 3), .unset]) (by first | (simp [argsToLocals, Value.category]; done) | rfl) ?_
  intro B C
  change Ctx B l _ _ "com/example/poder/poder/format/Markup" "second" _ _ Z at C
  have cm' := cm
  obtain ⟨⟨cz, Scz, hcz⟩, Sas, Shi, Slo, Sfm⟩ := cm'
  refine iN C 3 d8_0 rfl <| yif_n C d8_1 (XT.i0_lt_f (by decide)) <| iN C 3 d8_4 rfl <| iC C 1 d8_5 rfl <| yiadd C d8_6 <| eS [(.int 4)] rfl <| aN C ((.ref a1)) d8_7 rfl rfl <| cV C hw 38 39 41 40 4 42 rfl rfl rfl rfl rfl rfl E0 (rm_lenK_5_1 hw a1 b1 x0 x1 x2 x3 x4 x5 x6 x7 x8 x9 h0 Z0 cm O E0 F0 F1 A1) [(.int 4)] [] pd_22 1 d8_8 ⟨rfl, rfl, rfl, rfl, rfl⟩ (by decide) ?_
  intro v_3 h_1 q_2
  obtain ⟨rfl, rfl⟩ := q_2
  show Go _ _ _ _ 0 0 11 _ [(.int 5), (.int 4)]
  refine yicmp_n C d8_11 (XT.ii_ge_f (by decide)) <| aN C ((.ref a1)) d8_14 rfl rfl <| iN C 3 d8_15 rfl <| cV C hw 48 49 51 50 4 52 rfl rfl rfl rfl rfl rfl E0 (rm_charAt_5_3_1 hw a1 b1 x0 x1 x2 x3 x4 x5 x6 x7 x8 x9 60 h0 Z0 cm O E0 F0 F1 A1 e0 (by decide)) [] [(.int 3)] pd_23 0 d8_16 ⟨rfl, rfl, rfl, rfl, rfl⟩ (by decide) ?_
  intro v_7 h_5 q_6
  obtain ⟨rfl, rfl⟩ := q_6
  show Go _ _ _ _ 0 0 19 _ [(.int 60)]
  refine iB C 60 d8_19 rfl <| yicmp_n C d8_21 (XT.ii_ne_f (by decide)) <| iC C 1 d8_24 rfl <| gT C d8_25 29 (by decide) <| iT C d8_29 (#[aV a1, iV 3, iV 1]) rfl <| iN C 1 d8_30 rfl <| yif_n C d8_31 (XT.i0_eq_f (by decide)) <| aN C ((.ref a1)) d8_34 rfl rfl <| iN C 3 d8_35 rfl <| iC C 1 d8_36 rfl <| yiadd C d8_37 <| eS [(.int 4), (.ref a1)] rfl <| cV C hw 48 49 51 50 4 52 rfl rfl rfl rfl rfl rfl E0 (rm_charAt_5_4_1 hw a1 b1 x0 x1 x2 x3 x4 x5 x6 x7 x8 x9 c h0 Z0 cm O E0 F0 F1 A1 e1 kc) [] [(.int 4)] pd_23 0 d8_38 ⟨rfl, rfl, rfl, rfl, rfl⟩ (by decide) ?_
  intro v_11 h_9 q_10
  obtain ⟨rfl, rfl⟩ := q_10
  show Go _ _ _ _ 0 0 41 _ [(.int c)]
  refine gT C d8_41 45 (by decide) ?_
  refine g_ret C (v := (.int c)) (ty := .char) rfl (own_nch kc) (Or.inl ⟨rfl, Or.inr (Or.inr (Or.inr (Or.inl rfl))), _, rfl⟩) d8_45 (by decide) (by decide) ?_
  exact ⟨rfl, rfl⟩
theorem rm_isStart_5_3_1 (hw : HW a0 Z) (a1 b1 : Addr) (x0 x1 x2 x3 x4 x5 x6 x7 x8 x9 c : Int32) (h0 : Heap) (Z0 : n0 ≤ h0.size) (cm : Um Z) (O : Old Z n0 h0) (E0 : Exa Z h0 a1 "java/lang/String") (F0 : Fld Z h0 a1 "java/lang/String" "value" "[B" (.ref b1)) (F1 : Fld Z h0 a1 "java/lang/String" "coder" "B" (.int 1)) (A1 : Ary Z h0 b1 .byte [.int x0, .int x1, .int x2, .int x3, .int x4, .int x5, .int x6, .int x7, .int x8, .int x9]) (e0 : (UInt32.toInt32 (UInt16.toUInt32 (UInt32.toUInt16 (Int32.toUInt32 (((x6 &&& 255) <<< (0 &&& 31)) ||| ((x7 &&& 255) <<< (8 &&& 31))))))) = 60) (e1 : (UInt32.toInt32 (UInt16.toUInt32 (UInt32.toUInt16 (Int32.toUInt32 (((x8 &&& 255) <<< (0 &&& 31)) ||| ((x9 &&& 255) <<< (8 &&& 31))))))) = c) (kc : nar .char c = c) :
    Met1 l Z ⟨"com/example/poder/poder/format/Markup", "isStartTag", "(Ljava/lang/String;I)Z"⟩ prog_12_method_2_code 3 (some .boolean) ⟨6, 0, 0, 80⟩ n0 #[(.ref a1), (.int 3)] h0 (fun v h => ∃ r : Int32, v = some (.int r) ∧ (c = 47 ∨ c = 33 ∨ c = 63 → r = 0) ∧ (¬ c = 47 → ¬ c = 33 → ¬ c = 63 → r = 1) ∧ h0 = h) := by
  refine met_of (plainFor_of_name pn_1) (L0 := #[.val (.ref a1), .val (.int 3), .unset]) (by first | (simp [argsToLocals, Value.category]; done) | rfl) ?_
  intro B C
  change Ctx B l _ _ "com/example/poder/poder/format/Markup" "isStartTag" _ _ Z at C
  have cm' := cm
  obtain ⟨⟨cz, Scz, hcz⟩, Sas, Shi, Slo, Sfm⟩ := cm'
  refine aN C ((.ref a1)) d7_0 rfl rfl <| iN C 3 d7_1 rfl <| cS C hw 35 36 33 37 rfl rfl rfl rfl (rm_second_5_3_1 hw a1 b1 x0 x1 x2 x3 x4 x5 x6 x7 x8 x9 c h0 Z0 cm O E0 F0 F1 A1 e0 e1 kc) [] [(.ref a1), (.int 3)] pd_19 0 d7_2 ⟨rfl, rfl, rfl, rfl, rfl⟩ (by decide) ?_
  intro v_3 h_1 q_2
  obtain ⟨rfl, rfl⟩ := q_2
  show Go _ _ _ _ 0 0 5 _ [(.int c)]
  refine iT C d7_5 (#[aV a1, iV 3, iV c]) rfl <| iN C c d7_6 rfl <| iB C 47 d7_7 rfl ?_
  by_cases hb_5 : c = 47
  · refine cY C d7_9 (XT.ii_eq_t hb_5) 28 (by decide) <| iC C 0 d7_28 rfl ?_
    refine g_ret C (v := (.int 0)) (ty := .boolean) rfl rfl (Or.inl ⟨rfl, Or.inr (Or.inl rfl), _, rfl⟩) d7_29 (by decide) (by decide) ?_
    exact ⟨_, rfl, fun _ => rfl, fun q1 q2 q3 => absurd hb_5 q1, rfl⟩
  · refine yicmp_n C d7_9 (XT.ii_eq_f hb_5) <| iN C c d7_12 rfl <| iB C 33 d7_13 rfl ?_
    by_cases hb_6 : c = 33
    · refine cY C d7_15 (XT.ii_eq_t hb_6) 28 (by decide) <| iC C 0 d7_28 rfl ?_
      refine g_ret C (v := (.int 0)) (ty := .boolean) rfl rfl (Or.inl ⟨rfl, Or.inr (Or.inl rfl), _, rfl⟩) d7_29 (by decide) (by decide) ?_
      exact ⟨_, rfl, fun _ => rfl, fun q1 q2 q3 => absurd hb_6 q2, rfl⟩
    · refine yicmp_n C d7_15 (XT.ii_eq_f hb_6) <| iN C c d7_18 rfl <| iB C 63 d7_19 rfl ?_
      by_cases hb_7 : c = 63
      · refine cY C d7_21 (XT.ii_eq_t hb_7) 28 (by decide) <| iC C 0 d7_28 rfl ?_
        refine g_ret C (v := (.int 0)) (ty := .boolean) rfl rfl (Or.inl ⟨rfl, Or.inr (Or.inl rfl), _, rfl⟩) d7_29 (by decide) (by decide) ?_
        exact ⟨_, rfl, fun _ => rfl, fun q1 q2 q3 => absurd hb_7 q3, rfl⟩
      · refine yicmp_n C d7_21 (XT.ii_eq_f hb_7) <| iC C 1 d7_24 rfl <| gT C d7_25 29 (by decide) ?_
        refine g_ret C (v := (.int 1)) (ty := .boolean) rfl rfl (Or.inl ⟨rfl, Or.inr (Or.inl rfl), _, rfl⟩) d7_29 (by decide) (by decide) ?_
        exact ⟨_, rfl, fun q => (by rcases q with q | q | q; exact absurd q hb_5; exact absurd q hb_6; exact absurd q hb_7), fun _ _ _ => rfl, rfl⟩
theorem own_split4 (i : Int32) (h0 : 0 ≤ i.toInt) (h1 : i.toInt < 4) : i = (0 : Int32) ∨ i = (1 : Int32) ∨ i = (2 : Int32) ∨ i = (3 : Int32) := by
  simp only [← Int32.toInt_inj, Int32.reduceToInt]; omega
theorem own_split1 (i : Int32) (h0 : 0 ≤ i.toInt) (h1 : i.toInt < 1) : i = (0 : Int32) := by
  simp only [← Int32.toInt_inj, Int32.reduceToInt]; omega
theorem pd_25 : parseMethodDescriptor "([C)V" = some ⟨[(.array .char)], none⟩ := by decide +kernel
theorem pd_10 : parseMethodDescriptor "(Ljava/lang/String;I)Z" = some ⟨[(.object "java/lang/String"), .int], (some .boolean)⟩ := by decide +kernel
theorem rm_tail_2_0 (hw : HW a0 Z) (p0 p1 p2 p3 p4 x5 x6 x8 x9 x10 : Int32) (a2 : Addr) (c0 c1 : Int32) (vs : List Value) (h0 : Heap) (Z0 : n0 ≤ h0.size) (cm : Um Z) (O : Old Z n0 h0) (A2 : Ary Z h0 a2 .char [.int c0, .int c1]) (hi : ∀ (h : Heap) (a : Addr), n0 ≤ h.size → Old Z n0 h → Exa Z h a "java/lang/String" → Fld Z h a "java/lang/String" "value" "[B" .null → Fld Z h a "java/lang/String" "coder" "B" (.int 0) → n0 ≤ a → Ary Z h a2 .char [.int c0, .int c1] → a ≠ a2 → Met1 l Z (⟨"java/lang/String", "<init>", "([C)V"⟩ : MethodName) jdk_42_method_3_code 2 none ({ frames := 3, cells := 1, slots := 2, locals := 52 } : Room) n0 #[(.ref a), (.ref a2)] h (fun v h' => v = none ∧ Keep h h' [a] ∧ ∃ b : Addr, h.size ≤ b ∧ Fld Z h' a "java/lang/String" "value" "[B" (.ref b) ∧ Fld Z h' a "java/lang/String" "coder" "B" (.int 0) ∧ Ary Z h' b .byte vs)) (ht : ∀ (h : Heap) (a b : Addr), n0 ≤ h.size → Old Z n0 h → Exa Z h a "java/lang/String" → Fld Z h a "java/lang/String" "value" "[B" (.ref b) → Fld Z h a "java/lang/String" "coder" "B" (.int 0) → Ary Z h b .byte vs → Met1 l Z (⟨"com/example/poder/poder/format/Markup", "isStartTag", "(Ljava/lang/String;I)Z"⟩ : MethodName) prog_12_method_2_code 3 (some .boolean) ({ frames := 5, cells := 0, slots := 0, locals := 67 } : Room) n0 #[(.ref a), (.int x6)] h (fun v h' => ∃ r : Int32, v = some (.int r) ∧ (x9 = 47 ∨ x9 = 33 ∨ x9 = 63 → r = 0) ∧ (¬ x9 = 47 → ¬ x9 = 33 → ¬ x9 = 63 → r = 1) ∧ h = h')) (hr : ∀ r : Int32, (x9 = 47 ∨ x9 = 33 ∨ x9 = 63 → r = 0) → (¬ x9 = 47 → ¬ x9 = 33 → ¬ x9 = 63 → r = 1) → r = x10) (B : Bod) (C : Ctx B l room_1 code "com/example/poder/poder/format/MarkupIsStartTagPinLaw" "law" 11 (some .boolean) Z) :
    Go B n0 (fun v h => v = some (.int 1)) h0 1 2 226 #[iV p0, iV p1, iV p2, iV p3, iV p4, iV x5, iV x6, aV a2, iV x8, iV x9, iV x10] [] := by
  refine ynew C (oW hw 2 rfl) (oW hw 3 rfl) (oW hw 4 rfl) (by decide) (by decide) at_226 ?_
  intro h_1 a_2 g_3 E_4 A_5 D_6
  have ne_7 : a2 ≠ a_2 := ne_new A2.lt g_3
  have ge_a_2 : n0 ≤ a_2 := lT Z0 (lE g_3.symm)
  have gs_a_2 : h0.size ≤ a_2 := lT (Nat.le_refl h0.size) (lE g_3.symm)
  have f_8 : Fld Z h_1 a_2 "java/lang/String" "coder" "B" (.int 0) := D_6 (Or.inr (oW hw 28 rfl)) (ty := .byte) (by decide)
  have f_9 : Fld Z h_1 a_2 "java/lang/String" "value" "[B" .null := D_6 (Or.inr (oW hw 30 rfl)) (ty := (.array .byte)) (by decide)
  show Go _ _ _ _ 2 6 229 _ [(.ref a_2)]
  refine ydup C at_229 rfl <| aL C ((.ref a2)) at_230 rfl rfl ?_
  have f_10 := (lT Z0 E_4.1)
  have f_11 := (O.ext E_4)
  have f_12 := (A2.ext E_4)
  have f_13 := (lT (Nat.le_refl h0.size) E_4.1)
  refine cP C hw 5 6 4 7 rfl rfl rfl rfl rfl (hi h_1 a_2 f_10 f_11 A_5 f_9 f_8 ge_a_2 f_12 (Ne.symm ne_7)) [(.ref a_2)] [(.ref a2)] pd_25 1 at_232 ⟨rfl, rfl, rfl, rfl, rfl⟩ (by decide) ?_
  intro v_16 h_14 q_15
  obtain ⟨rfl, K_18, b_19, le_20, f_21, f_22, f_23⟩ := q_15
  have ne_24 : a2 ≠ b_19 := ne_ge f_12.lt le_20
  have ne_25 : a_2 ≠ b_19 := ne_ge A_5.lt le_20
  have ge_b_19 : n0 ≤ b_19 := lT f_10 le_20
  have gs_b_19 : h0.size ≤ b_19 := lT f_13 le_20
  show Go _ _ _ _ 3 8 235 _ [(.ref a_2)]
  refine iL C x6 at_235 rfl ?_
  have f_26 := (lT f_10 K_18.1)
  have f_27 := (f_11.keep K_18 (allS ge_a_2 all0))
  have f_28 := (A_5.keep K_18)
  refine cS C hw 31 32 33 34 rfl rfl rfl rfl (ht h_14 a_2 b_19 f_26 f_27 f_28 f_21 f_22 f_23) [] [(.ref a_2), (.int x6)] pd_10 0 at_237 ⟨rfl, rfl, rfl, rfl, rfl⟩ (by decide) ?_
  intro v_31 h_29 q_30
  obtain ⟨r_v, rfl, r_0, r_1, rfl⟩ := q_30
  rw [hr r_v r_0 r_1]
  show Go _ _ _ _ 3 8 240 _ [(.int x10)]
  refine iL C x10 at_240 rfl <| yicmp_n C at_242 (XT.ii_ne_f rfl) <| iC C 1 at_245 rfl <| gT C at_246 250 (by decide) ?_
  refine g_ret C (v := (.int 1)) (ty := .boolean) rfl rfl (Or.inl ⟨rfl, Or.inr (Or.inl rfl), _, rfl⟩) at_250 (by decide) (by decide) ?_
  rfl
theorem rm_tail_2_1 (hw : HW a0 Z) (p0 p1 p2 p3 p4 x5 x6 x8 x9 x10 : Int32) (a2 : Addr) (c0 c1 : Int32) (vs : List Value) (h0 : Heap) (Z0 : n0 ≤ h0.size) (cm : Um Z) (O : Old Z n0 h0) (A2 : Ary Z h0 a2 .char [.int c0, .int c1]) (hi : ∀ (h : Heap) (a : Addr), n0 ≤ h.size → Old Z n0 h → Exa Z h a "java/lang/String" → Fld Z h a "java/lang/String" "value" "[B" .null → Fld Z h a "java/lang/String" "coder" "B" (.int 0) → n0 ≤ a → Ary Z h a2 .char [.int c0, .int c1] → a ≠ a2 → Met1 l Z (⟨"java/lang/String", "<init>", "([C)V"⟩ : MethodName) jdk_42_method_3_code 2 none ({ frames := 5, cells := 2, slots := 6, locals := 74 } : Room) n0 #[(.ref a), (.ref a2)] h (fun v h' => v = none ∧ Keep h h' [a] ∧ ∃ b : Addr, h.size ≤ b ∧ Fld Z h' a "java/lang/String" "value" "[B" (.ref b) ∧ Fld Z h' a "java/lang/String" "coder" "B" (.int 1) ∧ Ary Z h' b .byte vs)) (ht : ∀ (h : Heap) (a b : Addr), n0 ≤ h.size → Old Z n0 h → Exa Z h a "java/lang/String" → Fld Z h a "java/lang/String" "value" "[B" (.ref b) → Fld Z h a "java/lang/String" "coder" "B" (.int 1) → Ary Z h b .byte vs → Met1 l Z (⟨"com/example/poder/poder/format/Markup", "isStartTag", "(Ljava/lang/String;I)Z"⟩ : MethodName) prog_12_method_2_code 3 (some .boolean) ({ frames := 6, cells := 0, slots := 0, locals := 80 } : Room) n0 #[(.ref a), (.int x6)] h (fun v h' => ∃ r : Int32, v = some (.int r) ∧ (x9 = 47 ∨ x9 = 33 ∨ x9 = 63 → r = 0) ∧ (¬ x9 = 47 → ¬ x9 = 33 → ¬ x9 = 63 → r = 1) ∧ h = h')) (hr : ∀ r : Int32, (x9 = 47 ∨ x9 = 33 ∨ x9 = 63 → r = 0) → (¬ x9 = 47 → ¬ x9 = 33 → ¬ x9 = 63 → r = 1) → r = x10) (B : Bod) (C : Ctx B l room_1 code "com/example/poder/poder/format/MarkupIsStartTagPinLaw" "law" 11 (some .boolean) Z) :
    Go B n0 (fun v h => v = some (.int 1)) h0 1 2 226 #[iV p0, iV p1, iV p2, iV p3, iV p4, iV x5, iV x6, aV a2, iV x8, iV x9, iV x10] [] := by
  refine ynew C (oW hw 2 rfl) (oW hw 3 rfl) (oW hw 4 rfl) (by decide) (by decide) at_226 ?_
  intro h_1 a_2 g_3 E_4 A_5 D_6
  have ne_7 : a2 ≠ a_2 := ne_new A2.lt g_3
  have ge_a_2 : n0 ≤ a_2 := lT Z0 (lE g_3.symm)
  have gs_a_2 : h0.size ≤ a_2 := lT (Nat.le_refl h0.size) (lE g_3.symm)
  have f_8 : Fld Z h_1 a_2 "java/lang/String" "coder" "B" (.int 0) := D_6 (Or.inr (oW hw 28 rfl)) (ty := .byte) (by decide)
  have f_9 : Fld Z h_1 a_2 "java/lang/String" "value" "[B" .null := D_6 (Or.inr (oW hw 30 rfl)) (ty := (.array .byte)) (by decide)
  show Go _ _ _ _ 2 6 229 _ [(.ref a_2)]
  refine ydup C at_229 rfl <| aL C ((.ref a2)) at_230 rfl rfl ?_
  have f_10 := (lT Z0 E_4.1)
  have f_11 := (O.ext E_4)
  have f_12 := (A2.ext E_4)
  have f_13 := (lT (Nat.le_refl h0.size) E_4.1)
  refine cP C hw 5 6 4 7 rfl rfl rfl rfl rfl (hi h_1 a_2 f_10 f_11 A_5 f_9 f_8 ge_a_2 f_12 (Ne.symm ne_7)) [(.ref a_2)] [(.ref a2)] pd_25 1 at_232 ⟨rfl, rfl, rfl, rfl, rfl⟩ (by decide) ?_
  intro v_16 h_14 q_15
  obtain ⟨rfl, K_18, b_19, le_20, f_21, f_22, f_23⟩ := q_15
  have ne_24 : a2 ≠ b_19 := ne_ge f_12.lt le_20
  have ne_25 : a_2 ≠ b_19 := ne_ge A_5.lt le_20
  have ge_b_19 : n0 ≤ b_19 := lT f_10 le_20
  have gs_b_19 : h0.size ≤ b_19 := lT f_13 le_20
  show Go _ _ _ _ 4 12 235 _ [(.ref a_2)]
  refine iL C x6 at_235 rfl ?_
  have f_26 := (lT f_10 K_18.1)
  have f_27 := (f_11.keep K_18 (allS ge_a_2 all0))
  have f_28 := (A_5.keep K_18)
  refine cS C hw 31 32 33 34 rfl rfl rfl rfl (ht h_14 a_2 b_19 f_26 f_27 f_28 f_21 f_22 f_23) [] [(.ref a_2), (.int x6)] pd_10 0 at_237 ⟨rfl, rfl, rfl, rfl, rfl⟩ (by decide) ?_
  intro v_31 h_29 q_30
  obtain ⟨r_v, rfl, r_0, r_1, rfl⟩ := q_30
  rw [hr r_v r_0 r_1]
  show Go _ _ _ _ 4 12 240 _ [(.int x10)]
  refine iL C x10 at_240 rfl <| yicmp_n C at_242 (XT.ii_ne_f rfl) <| iC C 1 at_245 rfl <| gT C at_246 250 (by decide) ?_
  refine g_ret C (v := (.int 1)) (ty := .boolean) rfl rfl (Or.inl ⟨rfl, Or.inr (Or.inl rfl), _, rfl⟩) at_250 (by decide) (by decide) ?_
  rfl
theorem own_split2 (i : Int32) (h0 : 0 ≤ i.toInt) (h1 : i.toInt < 2) : i = (0 : Int32) ∨ i = (1 : Int32) := by
  simp only [← Int32.toInt_inj, Int32.reduceToInt]; omega
theorem rm_tail_3_0 (hw : HW a0 Z) (p0 p1 p2 p3 p4 x5 x6 x8 x9 x10 : Int32) (a2 : Addr) (c0 c1 c2 : Int32) (vs : List Value) (h0 : Heap) (Z0 : n0 ≤ h0.size) (cm : Um Z) (O : Old Z n0 h0) (A2 : Ary Z h0 a2 .char [.int c0, .int c1, .int c2]) (hi : ∀ (h : Heap) (a : Addr), n0 ≤ h.size → Old Z n0 h → Exa Z h a "java/lang/String" → Fld Z h a "java/lang/String" "value" "[B" .null → Fld Z h a "java/lang/String" "coder" "B" (.int 0) → n0 ≤ a → Ary Z h a2 .char [.int c0, .int c1, .int c2] → a ≠ a2 → Met1 l Z (⟨"java/lang/String", "<init>", "([C)V"⟩ : MethodName) jdk_42_method_3_code 2 none ({ frames := 3, cells := 1, slots := 3, locals := 52 } : Room) n0 #[(.ref a), (.ref a2)] h (fun v h' => v = none ∧ Keep h h' [a] ∧ ∃ b : Addr, h.size ≤ b ∧ Fld Z h' a "java/lang/String" "value" "[B" (.ref b) ∧ Fld Z h' a "java/lang/String" "coder" "B" (.int 0) ∧ Ary Z h' b .byte vs)) (ht : ∀ (h : Heap) (a b : Addr), n0 ≤ h.size → Old Z n0 h → Exa Z h a "java/lang/String" → Fld Z h a "java/lang/String" "value" "[B" (.ref b) → Fld Z h a "java/lang/String" "coder" "B" (.int 0) → Ary Z h b .byte vs → Met1 l Z (⟨"com/example/poder/poder/format/Markup", "isStartTag", "(Ljava/lang/String;I)Z"⟩ : MethodName) prog_12_method_2_code 3 (some .boolean) ({ frames := 5, cells := 0, slots := 0, locals := 67 } : Room) n0 #[(.ref a), (.int x6)] h (fun v h' => ∃ r : Int32, v = some (.int r) ∧ (x9 = 47 ∨ x9 = 33 ∨ x9 = 63 → r = 0) ∧ (¬ x9 = 47 → ¬ x9 = 33 → ¬ x9 = 63 → r = 1) ∧ h = h')) (hr : ∀ r : Int32, (x9 = 47 ∨ x9 = 33 ∨ x9 = 63 → r = 0) → (¬ x9 = 47 → ¬ x9 = 33 → ¬ x9 = 63 → r = 1) → r = x10) (B : Bod) (C : Ctx B l room_1 code "com/example/poder/poder/format/MarkupIsStartTagPinLaw" "law" 11 (some .boolean) Z) :
    Go B n0 (fun v h => v = some (.int 1)) h0 1 3 226 #[iV p0, iV p1, iV p2, iV p3, iV p4, iV x5, iV x6, aV a2, iV x8, iV x9, iV x10] [] := by
  refine ynew C (oW hw 2 rfl) (oW hw 3 rfl) (oW hw 4 rfl) (by decide) (by decide) at_226 ?_
  intro h_1 a_2 g_3 E_4 A_5 D_6
  have ne_7 : a2 ≠ a_2 := ne_new A2.lt g_3
  have ge_a_2 : n0 ≤ a_2 := lT Z0 (lE g_3.symm)
  have gs_a_2 : h0.size ≤ a_2 := lT (Nat.le_refl h0.size) (lE g_3.symm)
  have f_8 : Fld Z h_1 a_2 "java/lang/String" "coder" "B" (.int 0) := D_6 (Or.inr (oW hw 28 rfl)) (ty := .byte) (by decide)
  have f_9 : Fld Z h_1 a_2 "java/lang/String" "value" "[B" .null := D_6 (Or.inr (oW hw 30 rfl)) (ty := (.array .byte)) (by decide)
  show Go _ _ _ _ 2 7 229 _ [(.ref a_2)]
  refine ydup C at_229 rfl <| aL C ((.ref a2)) at_230 rfl rfl ?_
  have f_10 := (lT Z0 E_4.1)
  have f_11 := (O.ext E_4)
  have f_12 := (A2.ext E_4)
  have f_13 := (lT (Nat.le_refl h0.size) E_4.1)
  refine cP C hw 5 6 4 7 rfl rfl rfl rfl rfl (hi h_1 a_2 f_10 f_11 A_5 f_9 f_8 ge_a_2 f_12 (Ne.symm ne_7)) [(.ref a_2)] [(.ref a2)] pd_25 1 at_232 ⟨rfl, rfl, rfl, rfl, rfl⟩ (by decide) ?_
  intro v_16 h_14 q_15
  obtain ⟨rfl, K_18, b_19, le_20, f_21, f_22, f_23⟩ := q_15
  have ne_24 : a2 ≠ b_19 := ne_ge f_12.lt le_20
  have ne_25 : a_2 ≠ b_19 := ne_ge A_5.lt le_20
  have ge_b_19 : n0 ≤ b_19 := lT f_10 le_20
  have gs_b_19 : h0.size ≤ b_19 := lT f_13 le_20
  show Go _ _ _ _ 3 10 235 _ [(.ref a_2)]
  refine iL C x6 at_235 rfl ?_
  have f_26 := (lT f_10 K_18.1)
  have f_27 := (f_11.keep K_18 (allS ge_a_2 all0))
  have f_28 := (A_5.keep K_18)
  refine cS C hw 31 32 33 34 rfl rfl rfl rfl (ht h_14 a_2 b_19 f_26 f_27 f_28 f_21 f_22 f_23) [] [(.ref a_2), (.int x6)] pd_10 0 at_237 ⟨rfl, rfl, rfl, rfl, rfl⟩ (by decide) ?_
  intro v_31 h_29 q_30
  obtain ⟨r_v, rfl, r_0, r_1, rfl⟩ := q_30
  rw [hr r_v r_0 r_1]
  show Go _ _ _ _ 3 10 240 _ [(.int x10)]
  refine iL C x10 at_240 rfl <| yicmp_n C at_242 (XT.ii_ne_f rfl) <| iC C 1 at_245 rfl <| gT C at_246 250 (by decide) ?_
  refine g_ret C (v := (.int 1)) (ty := .boolean) rfl rfl (Or.inl ⟨rfl, Or.inr (Or.inl rfl), _, rfl⟩) at_250 (by decide) (by decide) ?_
  rfl
theorem rm_tail_3_1 (hw : HW a0 Z) (p0 p1 p2 p3 p4 x5 x6 x8 x9 x10 : Int32) (a2 : Addr) (c0 c1 c2 : Int32) (vs : List Value) (h0 : Heap) (Z0 : n0 ≤ h0.size) (cm : Um Z) (O : Old Z n0 h0) (A2 : Ary Z h0 a2 .char [.int c0, .int c1, .int c2]) (hi : ∀ (h : Heap) (a : Addr), n0 ≤ h.size → Old Z n0 h → Exa Z h a "java/lang/String" → Fld Z h a "java/lang/String" "value" "[B" .null → Fld Z h a "java/lang/String" "coder" "B" (.int 0) → n0 ≤ a → Ary Z h a2 .char [.int c0, .int c1, .int c2] → a ≠ a2 → Met1 l Z (⟨"java/lang/String", "<init>", "([C)V"⟩ : MethodName) jdk_42_method_3_code 2 none ({ frames := 5, cells := 2, slots := 9, locals := 74 } : Room) n0 #[(.ref a), (.ref a2)] h (fun v h' => v = none ∧ Keep h h' [a] ∧ ∃ b : Addr, h.size ≤ b ∧ Fld Z h' a "java/lang/String" "value" "[B" (.ref b) ∧ Fld Z h' a "java/lang/String" "coder" "B" (.int 1) ∧ Ary Z h' b .byte vs)) (ht : ∀ (h : Heap) (a b : Addr), n0 ≤ h.size → Old Z n0 h → Exa Z h a "java/lang/String" → Fld Z h a "java/lang/String" "value" "[B" (.ref b) → Fld Z h a "java/lang/String" "coder" "B" (.int 1) → Ary Z h b .byte vs → Met1 l Z (⟨"com/example/poder/poder/format/Markup", "isStartTag", "(Ljava/lang/String;I)Z"⟩ : MethodName) prog_12_method_2_code 3 (some .boolean) ({ frames := 6, cells := 0, slots := 0, locals := 80 } : Room) n0 #[(.ref a), (.int x6)] h (fun v h' => ∃ r : Int32, v = some (.int r) ∧ (x9 = 47 ∨ x9 = 33 ∨ x9 = 63 → r = 0) ∧ (¬ x9 = 47 → ¬ x9 = 33 → ¬ x9 = 63 → r = 1) ∧ h = h')) (hr : ∀ r : Int32, (x9 = 47 ∨ x9 = 33 ∨ x9 = 63 → r = 0) → (¬ x9 = 47 → ¬ x9 = 33 → ¬ x9 = 63 → r = 1) → r = x10) (B : Bod) (C : Ctx B l room_1 code "com/example/poder/poder/format/MarkupIsStartTagPinLaw" "law" 11 (some .boolean) Z) :
    Go B n0 (fun v h => v = some (.int 1)) h0 1 3 226 #[iV p0, iV p1, iV p2, iV p3, iV p4, iV x5, iV x6, aV a2, iV x8, iV x9, iV x10] [] := by
  refine ynew C (oW hw 2 rfl) (oW hw 3 rfl) (oW hw 4 rfl) (by decide) (by decide) at_226 ?_
  intro h_1 a_2 g_3 E_4 A_5 D_6
  have ne_7 : a2 ≠ a_2 := ne_new A2.lt g_3
  have ge_a_2 : n0 ≤ a_2 := lT Z0 (lE g_3.symm)
  have gs_a_2 : h0.size ≤ a_2 := lT (Nat.le_refl h0.size) (lE g_3.symm)
  have f_8 : Fld Z h_1 a_2 "java/lang/String" "coder" "B" (.int 0) := D_6 (Or.inr (oW hw 28 rfl)) (ty := .byte) (by decide)
  have f_9 : Fld Z h_1 a_2 "java/lang/String" "value" "[B" .null := D_6 (Or.inr (oW hw 30 rfl)) (ty := (.array .byte)) (by decide)
  show Go _ _ _ _ 2 7 229 _ [(.ref a_2)]
  refine ydup C at_229 rfl <| aL C ((.ref a2)) at_230 rfl rfl ?_
  have f_10 := (lT Z0 E_4.1)
  have f_11 := (O.ext E_4)
  have f_12 := (A2.ext E_4)
  have f_13 := (lT (Nat.le_refl h0.size) E_4.1)
  refine cP C hw 5 6 4 7 rfl rfl rfl rfl rfl (hi h_1 a_2 f_10 f_11 A_5 f_9 f_8 ge_a_2 f_12 (Ne.symm ne_7)) [(.ref a_2)] [(.ref a2)] pd_25 1 at_232 ⟨rfl, rfl, rfl, rfl, rfl⟩ (by decide) ?_
  intro v_16 h_14 q_15
  obtain ⟨rfl, K_18, b_19, le_20, f_21, f_22, f_23⟩ := q_15
  have ne_24 : a2 ≠ b_19 := ne_ge f_12.lt le_20
  have ne_25 : a_2 ≠ b_19 := ne_ge A_5.lt le_20
  have ge_b_19 : n0 ≤ b_19 := lT f_10 le_20
  have gs_b_19 : h0.size ≤ b_19 := lT f_13 le_20
  show Go _ _ _ _ 4 16 235 _ [(.ref a_2)]
  refine iL C x6 at_235 rfl ?_
  have f_26 := (lT f_10 K_18.1)
  have f_27 := (f_11.keep K_18 (allS ge_a_2 all0))
  have f_28 := (A_5.keep K_18)
  refine cS C hw 31 32 33 34 rfl rfl rfl rfl (ht h_14 a_2 b_19 f_26 f_27 f_28 f_21 f_22 f_23) [] [(.ref a_2), (.int x6)] pd_10 0 at_237 ⟨rfl, rfl, rfl, rfl, rfl⟩ (by decide) ?_
  intro v_31 h_29 q_30
  obtain ⟨r_v, rfl, r_0, r_1, rfl⟩ := q_30
  rw [hr r_v r_0 r_1]
  show Go _ _ _ _ 4 16 240 _ [(.int x10)]
  refine iL C x10 at_240 rfl <| yicmp_n C at_242 (XT.ii_ne_f rfl) <| iC C 1 at_245 rfl <| gT C at_246 250 (by decide) ?_
  refine g_ret C (v := (.int 1)) (ty := .boolean) rfl rfl (Or.inl ⟨rfl, Or.inr (Or.inl rfl), _, rfl⟩) at_250 (by decide) (by decide) ?_
  rfl
theorem own_split3 (i : Int32) (h0 : 0 ≤ i.toInt) (h1 : i.toInt < 3) : i = (0 : Int32) ∨ i = (1 : Int32) ∨ i = (2 : Int32) := by
  simp only [← Int32.toInt_inj, Int32.reduceToInt]; omega
theorem rm_tail_4_0 (hw : HW a0 Z) (p0 p1 p2 p3 p4 x5 x6 x8 x9 x10 : Int32) (a2 : Addr) (c0 c1 c2 c3 : Int32) (vs : List Value) (h0 : Heap) (Z0 : n0 ≤ h0.size) (cm : Um Z) (O : Old Z n0 h0) (A2 : Ary Z h0 a2 .char [.int c0, .int c1, .int c2, .int c3]) (hi : ∀ (h : Heap) (a : Addr), n0 ≤ h.size → Old Z n0 h → Exa Z h a "java/lang/String" → Fld Z h a "java/lang/String" "value" "[B" .null → Fld Z h a "java/lang/String" "coder" "B" (.int 0) → n0 ≤ a → Ary Z h a2 .char [.int c0, .int c1, .int c2, .int c3] → a ≠ a2 → Met1 l Z (⟨"java/lang/String", "<init>", "([C)V"⟩ : MethodName) jdk_42_method_3_code 2 none ({ frames := 3, cells := 1, slots := 4, locals := 52 } : Room) n0 #[(.ref a), (.ref a2)] h (fun v h' => v = none ∧ Keep h h' [a] ∧ ∃ b : Addr, h.size ≤ b ∧ Fld Z h' a "java/lang/String" "value" "[B" (.ref b) ∧ Fld Z h' a "java/lang/String" "coder" "B" (.int 0) ∧ Ary Z h' b .byte vs)) (ht : ∀ (h : Heap) (a b : Addr), n0 ≤ h.size → Old Z n0 h → Exa Z h a "java/lang/String" → Fld Z h a "java/lang/String" "value" "[B" (.ref b) → Fld Z h a "java/lang/String" "coder" "B" (.int 0) → Ary Z h b .byte vs → Met1 l Z (⟨"com/example/poder/poder/format/Markup", "isStartTag", "(Ljava/lang/String;I)Z"⟩ : MethodName) prog_12_method_2_code 3 (some .boolean) ({ frames := 5, cells := 0, slots := 0, locals := 67 } : Room) n0 #[(.ref a), (.int x6)] h (fun v h' => ∃ r : Int32, v = some (.int r) ∧ (x9 = 47 ∨ x9 = 33 ∨ x9 = 63 → r = 0) ∧ (¬ x9 = 47 → ¬ x9 = 33 → ¬ x9 = 63 → r = 1) ∧ h = h')) (hr : ∀ r : Int32, (x9 = 47 ∨ x9 = 33 ∨ x9 = 63 → r = 0) → (¬ x9 = 47 → ¬ x9 = 33 → ¬ x9 = 63 → r = 1) → r = x10) (B : Bod) (C : Ctx B l room_1 code "com/example/poder/poder/format/MarkupIsStartTagPinLaw" "law" 11 (some .boolean) Z) :
    Go B n0 (fun v h => v = some (.int 1)) h0 1 4 226 #[iV p0, iV p1, iV p2, iV p3, iV p4, iV x5, iV x6, aV a2, iV x8, iV x9, iV x10] [] := by
  refine ynew C (oW hw 2 rfl) (oW hw 3 rfl) (oW hw 4 rfl) (by decide) (by decide) at_226 ?_
  intro h_1 a_2 g_3 E_4 A_5 D_6
  have ne_7 : a2 ≠ a_2 := ne_new A2.lt g_3
  have ge_a_2 : n0 ≤ a_2 := lT Z0 (lE g_3.symm)
  have gs_a_2 : h0.size ≤ a_2 := lT (Nat.le_refl h0.size) (lE g_3.symm)
  have f_8 : Fld Z h_1 a_2 "java/lang/String" "coder" "B" (.int 0) := D_6 (Or.inr (oW hw 28 rfl)) (ty := .byte) (by decide)
  have f_9 : Fld Z h_1 a_2 "java/lang/String" "value" "[B" .null := D_6 (Or.inr (oW hw 30 rfl)) (ty := (.array .byte)) (by decide)
  show Go _ _ _ _ 2 8 229 _ [(.ref a_2)]
  refine ydup C at_229 rfl <| aL C ((.ref a2)) at_230 rfl rfl ?_
  have f_10 := (lT Z0 E_4.1)
  have f_11 := (O.ext E_4)
  have f_12 := (A2.ext E_4)
  have f_13 := (lT (Nat.le_refl h0.size) E_4.1)
  refine cP C hw 5 6 4 7 rfl rfl rfl rfl rfl (hi h_1 a_2 f_10 f_11 A_5 f_9 f_8 ge_a_2 f_12 (Ne.symm ne_7)) [(.ref a_2)] [(.ref a2)] pd_25 1 at_232 ⟨rfl, rfl, rfl, rfl, rfl⟩ (by decide) ?_
  intro v_16 h_14 q_15
  obtain ⟨rfl, K_18, b_19, le_20, f_21, f_22, f_23⟩ := q_15
  have ne_24 : a2 ≠ b_19 := ne_ge f_12.lt le_20
  have ne_25 : a_2 ≠ b_19 := ne_ge A_5.lt le_20
  have ge_b_19 : n0 ≤ b_19 := lT f_10 le_20
  have gs_b_19 : h0.size ≤ b_19 := lT f_13 le_20
  show Go _ _ _ _ 3 12 235 _ [(.ref a_2)]
  refine iL C x6 at_235 rfl ?_
  have f_26 := (lT f_10 K_18.1)
  have f_27 := (f_11.keep K_18 (allS ge_a_2 all0))
  have f_28 := (A_5.keep K_18)
  refine cS C hw 31 32 33 34 rfl rfl rfl rfl (ht h_14 a_2 b_19 f_26 f_27 f_28 f_21 f_22 f_23) [] [(.ref a_2), (.int x6)] pd_10 0 at_237 ⟨rfl, rfl, rfl, rfl, rfl⟩ (by decide) ?_
  intro v_31 h_29 q_30
  obtain ⟨r_v, rfl, r_0, r_1, rfl⟩ := q_30
  rw [hr r_v r_0 r_1]
  show Go _ _ _ _ 3 12 240 _ [(.int x10)]
  refine iL C x10 at_240 rfl <| yicmp_n C at_242 (XT.ii_ne_f rfl) <| iC C 1 at_245 rfl <| gT C at_246 250 (by decide) ?_
  refine g_ret C (v := (.int 1)) (ty := .boolean) rfl rfl (Or.inl ⟨rfl, Or.inr (Or.inl rfl), _, rfl⟩) at_250 (by decide) (by decide) ?_
  rfl
theorem rm_tail_4_1 (hw : HW a0 Z) (p0 p1 p2 p3 p4 x5 x6 x8 x9 x10 : Int32) (a2 : Addr) (c0 c1 c2 c3 : Int32) (vs : List Value) (h0 : Heap) (Z0 : n0 ≤ h0.size) (cm : Um Z) (O : Old Z n0 h0) (A2 : Ary Z h0 a2 .char [.int c0, .int c1, .int c2, .int c3]) (hi : ∀ (h : Heap) (a : Addr), n0 ≤ h.size → Old Z n0 h → Exa Z h a "java/lang/String" → Fld Z h a "java/lang/String" "value" "[B" .null → Fld Z h a "java/lang/String" "coder" "B" (.int 0) → n0 ≤ a → Ary Z h a2 .char [.int c0, .int c1, .int c2, .int c3] → a ≠ a2 → Met1 l Z (⟨"java/lang/String", "<init>", "([C)V"⟩ : MethodName) jdk_42_method_3_code 2 none ({ frames := 5, cells := 2, slots := 12, locals := 74 } : Room) n0 #[(.ref a), (.ref a2)] h (fun v h' => v = none ∧ Keep h h' [a] ∧ ∃ b : Addr, h.size ≤ b ∧ Fld Z h' a "java/lang/String" "value" "[B" (.ref b) ∧ Fld Z h' a "java/lang/String" "coder" "B" (.int 1) ∧ Ary Z h' b .byte vs)) (ht : ∀ (h : Heap) (a b : Addr), n0 ≤ h.size → Old Z n0 h → Exa Z h a "java/lang/String" → Fld Z h a "java/lang/String" "value" "[B" (.ref b) → Fld Z h a "java/lang/String" "coder" "B" (.int 1) → Ary Z h b .byte vs → Met1 l Z (⟨"com/example/poder/poder/format/Markup", "isStartTag", "(Ljava/lang/String;I)Z"⟩ : MethodName) prog_12_method_2_code 3 (some .boolean) ({ frames := 6, cells := 0, slots := 0, locals := 80 } : Room) n0 #[(.ref a), (.int x6)] h (fun v h' => ∃ r : Int32, v = some (.int r) ∧ (x9 = 47 ∨ x9 = 33 ∨ x9 = 63 → r = 0) ∧ (¬ x9 = 47 → ¬ x9 = 33 → ¬ x9 = 63 → r = 1) ∧ h = h')) (hr : ∀ r : Int32, (x9 = 47 ∨ x9 = 33 ∨ x9 = 63 → r = 0) → (¬ x9 = 47 → ¬ x9 = 33 → ¬ x9 = 63 → r = 1) → r = x10) (B : Bod) (C : Ctx B l room_1 code "com/example/poder/poder/format/MarkupIsStartTagPinLaw" "law" 11 (some .boolean) Z) :
    Go B n0 (fun v h => v = some (.int 1)) h0 1 4 226 #[iV p0, iV p1, iV p2, iV p3, iV p4, iV x5, iV x6, aV a2, iV x8, iV x9, iV x10] [] := by
  refine ynew C (oW hw 2 rfl) (oW hw 3 rfl) (oW hw 4 rfl) (by decide) (by decide) at_226 ?_
  intro h_1 a_2 g_3 E_4 A_5 D_6
  have ne_7 : a2 ≠ a_2 := ne_new A2.lt g_3
  have ge_a_2 : n0 ≤ a_2 := lT Z0 (lE g_3.symm)
  have gs_a_2 : h0.size ≤ a_2 := lT (Nat.le_refl h0.size) (lE g_3.symm)
  have f_8 : Fld Z h_1 a_2 "java/lang/String" "coder" "B" (.int 0) := D_6 (Or.inr (oW hw 28 rfl)) (ty := .byte) (by decide)
  have f_9 : Fld Z h_1 a_2 "java/lang/String" "value" "[B" .null := D_6 (Or.inr (oW hw 30 rfl)) (ty := (.array .byte)) (by decide)
  show Go _ _ _ _ 2 8 229 _ [(.ref a_2)]
  refine ydup C at_229 rfl <| aL C ((.ref a2)) at_230 rfl rfl ?_
  have f_10 := (lT Z0 E_4.1)
  have f_11 := (O.ext E_4)
  have f_12 := (A2.ext E_4)
  have f_13 := (lT (Nat.le_refl h0.size) E_4.1)
  refine cP C hw 5 6 4 7 rfl rfl rfl rfl rfl (hi h_1 a_2 f_10 f_11 A_5 f_9 f_8 ge_a_2 f_12 (Ne.symm ne_7)) [(.ref a_2)] [(.ref a2)] pd_25 1 at_232 ⟨rfl, rfl, rfl, rfl, rfl⟩ (by decide) ?_
  intro v_16 h_14 q_15
  obtain ⟨rfl, K_18, b_19, le_20, f_21, f_22, f_23⟩ := q_15
  have ne_24 : a2 ≠ b_19 := ne_ge f_12.lt le_20
  have ne_25 : a_2 ≠ b_19 := ne_ge A_5.lt le_20
  have ge_b_19 : n0 ≤ b_19 := lT f_10 le_20
  have gs_b_19 : h0.size ≤ b_19 := lT f_13 le_20
  show Go _ _ _ _ 4 20 235 _ [(.ref a_2)]
  refine iL C x6 at_235 rfl ?_
  have f_26 := (lT f_10 K_18.1)
  have f_27 := (f_11.keep K_18 (allS ge_a_2 all0))
  have f_28 := (A_5.keep K_18)
  refine cS C hw 31 32 33 34 rfl rfl rfl rfl (ht h_14 a_2 b_19 f_26 f_27 f_28 f_21 f_22 f_23) [] [(.ref a_2), (.int x6)] pd_10 0 at_237 ⟨rfl, rfl, rfl, rfl, rfl⟩ (by decide) ?_
  intro v_31 h_29 q_30
  obtain ⟨r_v, rfl, r_0, r_1, rfl⟩ := q_30
  rw [hr r_v r_0 r_1]
  show Go _ _ _ _ 4 20 240 _ [(.int x10)]
  refine iL C x10 at_240 rfl <| yicmp_n C at_242 (XT.ii_ne_f rfl) <| iC C 1 at_245 rfl <| gT C at_246 250 (by decide) ?_
  refine g_ret C (v := (.int 1)) (ty := .boolean) rfl rfl (Or.inl ⟨rfl, Or.inr (Or.inl rfl), _, rfl⟩) at_250 (by decide) (by decide) ?_
  rfl
theorem rm_tail_5_0 (hw : HW a0 Z) (p0 p1 p2 p3 p4 x5 x6 x8 x9 x10 : Int32) (a2 : Addr) (c0 c1 c2 c3 c4 : Int32) (vs : List Value) (h0 : Heap) (Z0 : n0 ≤ h0.size) (cm : Um Z) (O : Old Z n0 h0) (A2 : Ary Z h0 a2 .char [.int c0, .int c1, .int c2, .int c3, .int c4]) (hi : ∀ (h : Heap) (a : Addr), n0 ≤ h.size → Old Z n0 h → Exa Z h a "java/lang/String" → Fld Z h a "java/lang/String" "value" "[B" .null → Fld Z h a "java/lang/String" "coder" "B" (.int 0) → n0 ≤ a → Ary Z h a2 .char [.int c0, .int c1, .int c2, .int c3, .int c4] → a ≠ a2 → Met1 l Z (⟨"java/lang/String", "<init>", "([C)V"⟩ : MethodName) jdk_42_method_3_code 2 none ({ frames := 3, cells := 1, slots := 5, locals := 52 } : Room) n0 #[(.ref a), (.ref a2)] h (fun v h' => v = none ∧ Keep h h' [a] ∧ ∃ b : Addr, h.size ≤ b ∧ Fld Z h' a "java/lang/String" "value" "[B" (.ref b) ∧ Fld Z h' a "java/lang/String" "coder" "B" (.int 0) ∧ Ary Z h' b .byte vs)) (ht : ∀ (h : Heap) (a b : Addr), n0 ≤ h.size → Old Z n0 h → Exa Z h a "java/lang/String" → Fld Z h a "java/lang/String" "value" "[B" (.ref b) → Fld Z h a "java/lang/String" "coder" "B" (.int 0) → Ary Z h b .byte vs → Met1 l Z (⟨"com/example/poder/poder/format/Markup", "isStartTag", "(Ljava/lang/String;I)Z"⟩ : MethodName) prog_12_method_2_code 3 (some .boolean) ({ frames := 5, cells := 0, slots := 0, locals := 67 } : Room) n0 #[(.ref a), (.int x6)] h (fun v h' => ∃ r : Int32, v = some (.int r) ∧ (x9 = 47 ∨ x9 = 33 ∨ x9 = 63 → r = 0) ∧ (¬ x9 = 47 → ¬ x9 = 33 → ¬ x9 = 63 → r = 1) ∧ h = h')) (hr : ∀ r : Int32, (x9 = 47 ∨ x9 = 33 ∨ x9 = 63 → r = 0) → (¬ x9 = 47 → ¬ x9 = 33 → ¬ x9 = 63 → r = 1) → r = x10) (B : Bod) (C : Ctx B l room_1 code "com/example/poder/poder/format/MarkupIsStartTagPinLaw" "law" 11 (some .boolean) Z) :
    Go B n0 (fun v h => v = some (.int 1)) h0 1 5 226 #[iV p0, iV p1, iV p2, iV p3, iV p4, iV x5, iV x6, aV a2, iV x8, iV x9, iV x10] [] := by
  refine ynew C (oW hw 2 rfl) (oW hw 3 rfl) (oW hw 4 rfl) (by decide) (by decide) at_226 ?_
  intro h_1 a_2 g_3 E_4 A_5 D_6
  have ne_7 : a2 ≠ a_2 := ne_new A2.lt g_3
  have ge_a_2 : n0 ≤ a_2 := lT Z0 (lE g_3.symm)
  have gs_a_2 : h0.size ≤ a_2 := lT (Nat.le_refl h0.size) (lE g_3.symm)
  have f_8 : Fld Z h_1 a_2 "java/lang/String" "coder" "B" (.int 0) := D_6 (Or.inr (oW hw 28 rfl)) (ty := .byte) (by decide)
  have f_9 : Fld Z h_1 a_2 "java/lang/String" "value" "[B" .null := D_6 (Or.inr (oW hw 30 rfl)) (ty := (.array .byte)) (by decide)
  show Go _ _ _ _ 2 9 229 _ [(.ref a_2)]
  refine ydup C at_229 rfl <| aL C ((.ref a2)) at_230 rfl rfl ?_
  have f_10 := (lT Z0 E_4.1)
  have f_11 := (O.ext E_4)
  have f_12 := (A2.ext E_4)
  have f_13 := (lT (Nat.le_refl h0.size) E_4.1)
  refine cP C hw 5 6 4 7 rfl rfl rfl rfl rfl (hi h_1 a_2 f_10 f_11 A_5 f_9 f_8 ge_a_2 f_12 (Ne.symm ne_7)) [(.ref a_2)] [(.ref a2)] pd_25 1 at_232 ⟨rfl, rfl, rfl, rfl, rfl⟩ (by decide) ?_
  intro v_16 h_14 q_15
  obtain ⟨rfl, K_18, b_19, le_20, f_21, f_22, f_23⟩ := q_15
  have ne_24 : a2 ≠ b_19 := ne_ge f_12.lt le_20
  have ne_25 : a_2 ≠ b_19 := ne_ge A_5.lt le_20
  have ge_b_19 : n0 ≤ b_19 := lT f_10 le_20
  have gs_b_19 : h0.size ≤ b_19 := lT f_13 le_20
  show Go _ _ _ _ 3 14 235 _ [(.ref a_2)]
  refine iL C x6 at_235 rfl ?_
  have f_26 := (lT f_10 K_18.1)
  have f_27 := (f_11.keep K_18 (allS ge_a_2 all0))
  have f_28 := (A_5.keep K_18)
  refine cS C hw 31 32 33 34 rfl rfl rfl rfl (ht h_14 a_2 b_19 f_26 f_27 f_28 f_21 f_22 f_23) [] [(.ref a_2), (.int x6)] pd_10 0 at_237 ⟨rfl, rfl, rfl, rfl, rfl⟩ (by decide) ?_
  intro v_31 h_29 q_30
  obtain ⟨r_v, rfl, r_0, r_1, rfl⟩ := q_30
  rw [hr r_v r_0 r_1]
  show Go _ _ _ _ 3 14 240 _ [(.int x10)]
  refine iL C x10 at_240 rfl <| yicmp_n C at_242 (XT.ii_ne_f rfl) <| iC C 1 at_245 rfl <| gT C at_246 250 (by decide) ?_
  refine g_ret C (v := (.int 1)) (ty := .boolean) rfl rfl (Or.inl ⟨rfl, Or.inr (Or.inl rfl), _, rfl⟩) at_250 (by decide) (by decide) ?_
  rfl
theorem rm_tail_5_1 (hw : HW a0 Z) (p0 p1 p2 p3 p4 x5 x6 x8 x9 x10 : Int32) (a2 : Addr) (c0 c1 c2 c3 c4 : Int32) (vs : List Value) (h0 : Heap) (Z0 : n0 ≤ h0.size) (cm : Um Z) (O : Old Z n0 h0) (A2 : Ary Z h0 a2 .char [.int c0, .int c1, .int c2, .int c3, .int c4]) (hi : ∀ (h : Heap) (a : Addr), n0 ≤ h.size → Old Z n0 h → Exa Z h a "java/lang/String" → Fld Z h a "java/lang/String" "value" "[B" .null → Fld Z h a "java/lang/String" "coder" "B" (.int 0) → n0 ≤ a → Ary Z h a2 .char [.int c0, .int c1, .int c2, .int c3, .int c4] → a ≠ a2 → Met1 l Z (⟨"java/lang/String", "<init>", "([C)V"⟩ : MethodName) jdk_42_method_3_code 2 none ({ frames := 5, cells := 2, slots := 15, locals := 74 } : Room) n0 #[(.ref a), (.ref a2)] h (fun v h' => v = none ∧ Keep h h' [a] ∧ ∃ b : Addr, h.size ≤ b ∧ Fld Z h' a "java/lang/String" "value" "[B" (.ref b) ∧ Fld Z h' a "java/lang/String" "coder" "B" (.int 1) ∧ Ary Z h' b .byte vs)) (ht : ∀ (h : Heap) (a b : Addr), n0 ≤ h.size → Old Z n0 h → Exa Z h a "java/lang/String" → Fld Z h a "java/lang/String" "value" "[B" (.ref b) → Fld Z h a "java/lang/String" "coder" "B" (.int 1) → Ary Z h b .byte vs → Met1 l Z (⟨"com/example/poder/poder/format/Markup", "isStartTag", "(Ljava/lang/String;I)Z"⟩ : MethodName) prog_12_method_2_code 3 (some .boolean) ({ frames := 6, cells := 0, slots := 0, locals := 80 } : Room) n0 #[(.ref a), (.int x6)] h (fun v h' => ∃ r : Int32, v = some (.int r) ∧ (x9 = 47 ∨ x9 = 33 ∨ x9 = 63 → r = 0) ∧ (¬ x9 = 47 → ¬ x9 = 33 → ¬ x9 = 63 → r = 1) ∧ h = h')) (hr : ∀ r : Int32, (x9 = 47 ∨ x9 = 33 ∨ x9 = 63 → r = 0) → (¬ x9 = 47 → ¬ x9 = 33 → ¬ x9 = 63 → r = 1) → r = x10) (B : Bod) (C : Ctx B l room_1 code "com/example/poder/poder/format/MarkupIsStartTagPinLaw" "law" 11 (some .boolean) Z) :
    Go B n0 (fun v h => v = some (.int 1)) h0 1 5 226 #[iV p0, iV p1, iV p2, iV p3, iV p4, iV x5, iV x6, aV a2, iV x8, iV x9, iV x10] [] := by
  refine ynew C (oW hw 2 rfl) (oW hw 3 rfl) (oW hw 4 rfl) (by decide) (by decide) at_226 ?_
  intro h_1 a_2 g_3 E_4 A_5 D_6
  have ne_7 : a2 ≠ a_2 := ne_new A2.lt g_3
  have ge_a_2 : n0 ≤ a_2 := lT Z0 (lE g_3.symm)
  have gs_a_2 : h0.size ≤ a_2 := lT (Nat.le_refl h0.size) (lE g_3.symm)
  have f_8 : Fld Z h_1 a_2 "java/lang/String" "coder" "B" (.int 0) := D_6 (Or.inr (oW hw 28 rfl)) (ty := .byte) (by decide)
  have f_9 : Fld Z h_1 a_2 "java/lang/String" "value" "[B" .null := D_6 (Or.inr (oW hw 30 rfl)) (ty := (.array .byte)) (by decide)
  show Go _ _ _ _ 2 9 229 _ [(.ref a_2)]
  refine ydup C at_229 rfl <| aL C ((.ref a2)) at_230 rfl rfl ?_
  have f_10 := (lT Z0 E_4.1)
  have f_11 := (O.ext E_4)
  have f_12 := (A2.ext E_4)
  have f_13 := (lT (Nat.le_refl h0.size) E_4.1)
  refine cP C hw 5 6 4 7 rfl rfl rfl rfl rfl (hi h_1 a_2 f_10 f_11 A_5 f_9 f_8 ge_a_2 f_12 (Ne.symm ne_7)) [(.ref a_2)] [(.ref a2)] pd_25 1 at_232 ⟨rfl, rfl, rfl, rfl, rfl⟩ (by decide) ?_
  intro v_16 h_14 q_15
  obtain ⟨rfl, K_18, b_19, le_20, f_21, f_22, f_23⟩ := q_15
  have ne_24 : a2 ≠ b_19 := ne_ge f_12.lt le_20
  have ne_25 : a_2 ≠ b_19 := ne_ge A_5.lt le_20
  have ge_b_19 : n0 ≤ b_19 := lT f_10 le_20
  have gs_b_19 : h0.size ≤ b_19 := lT f_13 le_20
  show Go _ _ _ _ 4 24 235 _ [(.ref a_2)]
  refine iL C x6 at_235 rfl ?_
  have f_26 := (lT f_10 K_18.1)
  have f_27 := (f_11.keep K_18 (allS ge_a_2 all0))
  have f_28 := (A_5.keep K_18)
  refine cS C hw 31 32 33 34 rfl rfl rfl rfl (ht h_14 a_2 b_19 f_26 f_27 f_28 f_21 f_22 f_23) [] [(.ref a_2), (.int x6)] pd_10 0 at_237 ⟨rfl, rfl, rfl, rfl, rfl⟩ (by decide) ?_
  intro v_31 h_29 q_30
  obtain ⟨r_v, rfl, r_0, r_1, rfl⟩ := q_30
  rw [hr r_v r_0 r_1]
  show Go _ _ _ _ 4 24 240 _ [(.int x10)]
  refine iL C x10 at_240 rfl <| yicmp_n C at_242 (XT.ii_ne_f rfl) <| iC C 1 at_245 rfl <| gT C at_246 250 (by decide) ?_
  refine g_ret C (v := (.int 1)) (ty := .boolean) rfl rfl (Or.inl ⟨rfl, Or.inr (Or.inl rfl), _, rfl⟩) at_250 (by decide) (by decide) ?_
  rfl
theorem pn_0 : plainName "com/example/poder/poder/format/MarkupIsStartTagPinLaw" = true := by first | (simp [plainName, overriddenIn]; done) | decide +kernel
theorem rm_law (hw : HW a0 Z) (p0 p1 p2 p3 p4 : Int32) (h0 : Heap) (Z0 : n0 ≤ h0.size) (cm : Um Z) (O : Old Z n0 h0) :
    Met1 l Z x code maxLocals ret room_1 n0 #[(.int p0), (.int p1), (.int p2), (.int p3), (.int p4)] h0 (fun v h => v = some (.int 1)) := by
  refine met_of (plainFor_of_name pn_0) (L0 := #[.val (.int p0), .val (.int p1), .val (.int p2), .val (.int p3), .val (.int p4), .unset, .unset, .unset, .unset, .unset, .unset]) (by first | (simp [argsToLocals, Value.category, maxLocals]; done) | rfl) ?_
  intro B C
  change Ctx B l room_1 code "com/example/poder/poder/format/MarkupIsStartTagPinLaw" "law" 11 (some .boolean) Z at C
  have cm' := cm
  obtain ⟨⟨cz, Scz, hcz⟩, Sas, Shi, Slo, Sfm⟩ := cm'
  refine iC C 2 at_0 rfl <| iN C p0 at_1 rfl <| iC C 3 at_2 rfl <| yiand C at_3 ?_
  obtain ⟨i_1, hi_2⟩ : ∃ z : Int32, z = (p0 &&& 3) := ⟨_, rfl⟩
  rw [← hi_2]
  rcases own_split4 i_1 (by rw [hi_2]; exact (own_m3 p0).1) (by rw [hi_2]; exact (own_m3 p0).2) with i_1e | i_1e | i_1e | i_1e
  · subst i_1e
    show Go _ _ _ _ 0 0 4 _ [(.int 0), (.int 2)]
    refine yiadd C at_4 <| eS [(.int 2)] rfl <| iS C at_5 (#[iV p0, iV p1, iV p2, iV p3, iV p4, iV 2, uV, uV, uV, uV, uV]) rfl <| iN C p1 at_7 rfl <| yldc C (v := 2147483647) (oW hw 0 rfl) at_8 <| yiand C at_10 <| iL C 2 at_11 rfl <| iC C 1 at_13 rfl <| yisub C at_14 <| eS [(.int 1), (.int (p1 &&& 2147483647))] rfl <| yirem C at_15 (by decide) ?_
    obtain ⟨i_3, hi_4⟩ : ∃ z : Int32, z = ((p1 &&& 2147483647) - ((p1 &&& 2147483647) / 1) * 1) := ⟨_, rfl⟩
    rw [← hi_4]
    rcases own_split1 i_3 (by rw [hi_4]; exact (own_rem1 (own_nn p1)).1) (by rw [hi_4]; exact (own_rem1 (own_nn p1)).2) with i_3e
    · subst i_3e
      show Go _ _ _ _ 0 0 16 _ [(.int 0)]
      refine iS C at_16 (#[iV p0, iV p1, iV p2, iV p3, iV p4, iV 2, iV 0, uV, uV, uV, uV]) rfl <| iL C 2 at_18 rfl <| ynewarray C (oW hw 1 rfl) (ty := .char) rfl (by decide) (cap := 2) (by decide) (by decide) (by decide) (by decide) at_20 ?_
      intro h_5 a_6 g_7 E_8 A_9
      have ge_a_6 : n0 ≤ a_6 := lT Z0 (lE g_7.symm)
      have gs_a_6 : h0.size ≤ a_6 := lT (Nat.le_refl h0.size) (lE g_7.symm)
      have f_10 : Ary Z h_5 a_6 .char [(.int 0), (.int 0)] := A_9
      show Go _ _ _ _ 1 2 22 _ [(.ref a_6)]
      refine aS C at_22 (#[iV p0, iV p1, iV p2, iV p3, iV p4, iV 2, iV 0, aV a_6, uV, uV, uV]) rfl rfl <| aL C ((.ref a_6)) at_24 rfl rfl <| iC C 0 at_26 rfl <| iN C p2 at_27 rfl <| iP C 255 at_28 rfl <| yiand C at_31 <| yi2c C at_32 ?_
      rw [i2c_mask p2]
      obtain ⟨ca, eca⟩ : ∃ z : Int32, z = (p2 &&& 255) := ⟨_, rfl⟩
      have kca : Ch ca := by rw [eca]; exact own_chM p2
      rw [← eca]
      refine ycastore C f_10 (by decide) (i := 0) (by decide) (show 0 < 2 by decide) (w := (.int ca)) (congrArg Value.int kca.1) ge_a_6 at_33 ?_
      intro h_11 K_12 A_13
      have f_14 : Ary Z h_11 a_6 .char [(.int ca), (.int 0)] := A_13
      refine aL C ((.ref a_6)) at_34 rfl rfl <| iC C 1 at_36 rfl <| iN C p2 at_37 rfl <| iB C 8 at_38 rfl <| yiushr C at_40 <| iP C 255 at_41 rfl <| yiand C at_44 <| yi2c C at_45 ?_
      rw [i2c_mask (XT.ushr p2 8)]
      obtain ⟨cb, ecb⟩ : ∃ z : Int32, z = ((XT.ushr p2 8) &&& 255) := ⟨_, rfl⟩
      have kcb : Ch cb := by rw [ecb]; exact own_chM (XT.ushr p2 8)
      rw [← ecb]
      refine ycastore C f_14 (by decide) (i := 1) (by decide) (show 1 < 2 by decide) (w := (.int cb)) (congrArg Value.int kcb.1) ge_a_6 at_46 ?_
      intro h_15 K_16 A_17
      have f_18 : Ary Z h_15 a_6 .char [(.int ca), (.int cb)] := A_17
      refine iL C 2 at_47 rfl <| iC C 2 at_49 rfl <| cY C at_50 (XT.ii_le_t (by decide)) 66 (by decide) <| iL C 2 at_66 rfl <| iC C 3 at_68 rfl <| cY C at_69 (XT.ii_le_t (by decide)) 85 (by decide) <| iL C 2 at_85 rfl <| iC C 4 at_87 rfl <| cY C at_88 (XT.ii_le_t (by decide)) 101 (by decide) <| iL C p4 at_101 rfl <| iB C 16 at_103 rfl <| yiushr C at_105 <| iC C 3 at_106 rfl <| yiand C at_107 ?_
      obtain ⟨i_19, hi_20⟩ : ∃ z : Int32, z = ((XT.ushr p4 16) &&& 3) := ⟨_, rfl⟩
      rw [← hi_20]
      rcases own_split4 i_19 (by rw [hi_20]; exact (own_m3 _).1) (by rw [hi_20]; exact (own_m3 _).2) with i_19e | i_19e | i_19e | i_19e
      · subst i_19e
        show Go _ _ _ _ 1 2 108 _ [(.int 0)]
        refine iS C at_108 (#[iV p0, iV p1, iV p2, iV p3, iV p4, iV 2, iV 0, aV a_6, iV 0, uV, uV]) rfl <| iL C 0 at_110 rfl <| yif_n C at_112 (XT.i0_ne_f (by decide)) <| iB C 47 at_115 rfl <| iS C at_117 (#[iV p0, iV p1, iV p2, iV p3, iV p4, iV 2, iV 0, aV a_6, iV 0, iV 47, uV]) rfl <| gT C at_119 156 (by decide) <| aL C ((.ref a_6)) at_156 rfl rfl <| iL C 0 at_158 rfl <| iB C 60 at_160 rfl <| ycastore C f_18 (by decide) (i := 0) (by decide) (show 0 < 2 by decide) (w := (.int 60)) rfl ge_a_6 at_162 ?_
        intro h_21 K_22 A_23
        have f_24 : Ary Z h_21 a_6 .char [(.int 60), (.int cb)] := A_23
        refine aL C ((.ref a_6)) at_163 rfl rfl <| iL C 0 at_165 rfl <| iC C 1 at_167 rfl <| yiadd C at_168 <| eS [(.int 1), (.ref a_6)] rfl <| iL C 47 at_169 rfl <| ycastore C f_24 (by decide) (i := 1) (by decide) (show 1 < 2 by decide) (w := (.int 47)) rfl ge_a_6 at_171 ?_
        intro h_25 K_26 A_27
        have f_28 : Ary Z h_25 a_6 .char [(.int 60), (.int 47)] := A_27
        refine iL C 0 at_172 rfl <| iC C 3 at_174 rfl <| yicmp_n C at_175 (XT.ii_eq_f (by decide)) <| iC C 0 at_178 rfl <| iS C at_179 (#[iV p0, iV p1, iV p2, iV p3, iV p4, iV 2, iV 0, aV a_6, iV 0, iV 47, iV 0]) rfl <| gT C at_181 226 (by decide) ?_
        have f_29 := (lT (lT (lT (lT (lT Z0 E_8.1) K_12.1) K_16.1) K_22.1) K_26.1)
        have f_30 := (((((O.ext E_8).keep K_12 (allS ge_a_6 all0)).keep K_16 (allS ge_a_6 all0)).keep K_22 (allS ge_a_6 all0)).keep K_26 (allS ge_a_6 all0))
        exact rm_tail_2_0 hw p0 p1 p2 p3 p4 2 0 0 47 0 a_6 60 47 [.int (bY 60), .int (bY 47)] h_25 f_29 cm f_30 f_28 (fun h a q1 q2 q3 q4 q5 q6 q7 q8 => rm_init1_2 hw a a_6 60 47 h q1 cm q2 q3 q4 q5 q6 q7 q8 (by refine ⟨?_, ?_, ?_⟩ <;> decide) (by refine ⟨?_, ?_, ?_⟩ <;> decide)) (fun h a b q1 q2 q3 q4 q5 q6 => rm_isStart_2_0_0 hw a b (bY 60) (bY 47) 47 h q1 cm q2 q3 q4 q5 q6 (own_l1 (c := 60) (by decide) (by decide)) (own_l1 (c := 47) (by decide) (by decide)) (by decide)) (fun r r0 _ => r0 (Or.inl rfl)) B C
      · subst i_19e
        show Go _ _ _ _ 1 2 108 _ [(.int 1)]
        refine iS C at_108 (#[iV p0, iV p1, iV p2, iV p3, iV p4, iV 2, iV 0, aV a_6, iV 1, uV, uV]) rfl <| iL C 1 at_110 rfl <| fY C at_112 (XT.i0_ne_t (by decide)) 122 (by decide) <| iL C 1 at_122 rfl <| iC C 1 at_124 rfl <| yicmp_n C at_125 (XT.ii_ne_f (by decide)) <| iB C 33 at_128 rfl <| iS C at_130 (#[iV p0, iV p1, iV p2, iV p3, iV p4, iV 2, iV 0, aV a_6, iV 1, iV 33, uV]) rfl <| gT C at_132 156 (by decide) <| aL C ((.ref a_6)) at_156 rfl rfl <| iL C 0 at_158 rfl <| iB C 60 at_160 rfl <| ycastore C f_18 (by decide) (i := 0) (by decide) (show 0 < 2 by decide) (w := (.int 60)) rfl ge_a_6 at_162 ?_
        intro h_31 K_32 A_33
        have f_34 : Ary Z h_31 a_6 .char [(.int 60), (.int cb)] := A_33
        refine aL C ((.ref a_6)) at_163 rfl rfl <| iL C 0 at_165 rfl <| iC C 1 at_167 rfl <| yiadd C at_168 <| eS [(.int 1), (.ref a_6)] rfl <| iL C 33 at_169 rfl <| ycastore C f_34 (by decide) (i := 1) (by decide) (show 1 < 2 by decide) (w := (.int 33)) rfl ge_a_6 at_171 ?_
        intro h_35 K_36 A_37
        have f_38 : Ary Z h_35 a_6 .char [(.int 60), (.int 33)] := A_37
        refine iL C 1 at_172 rfl <| iC C 3 at_174 rfl <| yicmp_n C at_175 (XT.ii_eq_f (by decide)) <| iC C 0 at_178 rfl <| iS C at_179 (#[iV p0, iV p1, iV p2, iV p3, iV p4, iV 2, iV 0, aV a_6, iV 1, iV 33, iV 0]) rfl <| gT C at_181 226 (by decide) ?_
        have f_39 := (lT (lT (lT (lT (lT Z0 E_8.1) K_12.1) K_16.1) K_32.1) K_36.1)
        have f_40 := (((((O.ext E_8).keep K_12 (allS ge_a_6 all0)).keep K_16 (allS ge_a_6 all0)).keep K_32 (allS ge_a_6 all0)).keep K_36 (allS ge_a_6 all0))
        exact rm_tail_2_0 hw p0 p1 p2 p3 p4 2 0 1 33 0 a_6 60 33 [.int (bY 60), .int (bY 33)] h_35 f_39 cm f_40 f_38 (fun h a q1 q2 q3 q4 q5 q6 q7 q8 => rm_init1_2 hw a a_6 60 33 h q1 cm q2 q3 q4 q5 q6 q7 q8 (by refine ⟨?_, ?_, ?_⟩ <;> decide) (by refine ⟨?_, ?_, ?_⟩ <;> decide)) (fun h a b q1 q2 q3 q4 q5 q6 => rm_isStart_2_0_0 hw a b (bY 60) (bY 33) 33 h q1 cm q2 q3 q4 q5 q6 (own_l1 (c := 60) (by decide) (by decide)) (own_l1 (c := 33) (by decide) (by decide)) (by decide)) (fun r r0 _ => r0 (Or.inr (Or.inl rfl))) B C
      · subst i_19e
        show Go _ _ _ _ 1 2 108 _ [(.int 2)]
        refine iS C at_108 (#[iV p0, iV p1, iV p2, iV p3, iV p4, iV 2, iV 0, aV a_6, iV 2, uV, uV]) rfl <| iL C 2 at_110 rfl <| fY C at_112 (XT.i0_ne_t (by decide)) 122 (by decide) <| iL C 2 at_122 rfl <| iC C 1 at_124 rfl <| cY C at_125 (XT.ii_ne_t (by decide)) 135 (by decide) <| iL C 2 at_135 rfl <| iC C 2 at_137 rfl <| yicmp_n C at_138 (XT.ii_ne_f (by decide)) <| iB C 63 at_141 rfl <| iS C at_143 (#[iV p0, iV p1, iV p2, iV p3, iV p4, iV 2, iV 0, aV a_6, iV 2, iV 63, uV]) rfl <| gT C at_145 156 (by decide) <| aL C ((.ref a_6)) at_156 rfl rfl <| iL C 0 at_158 rfl <| iB C 60 at_160 rfl <| ycastore C f_18 (by decide) (i := 0) (by decide) (show 0 < 2 by decide) (w := (.int 60)) rfl ge_a_6 at_162 ?_
        intro h_41 K_42 A_43
        have f_44 : Ary Z h_41 a_6 .char [(.int 60), (.int cb)] := A_43
        refine aL C ((.ref a_6)) at_163 rfl rfl <| iL C 0 at_165 rfl <| iC C 1 at_167 rfl <| yiadd C at_168 <| eS [(.int 1), (.ref a_6)] rfl <| iL C 63 at_169 rfl <| ycastore C f_44 (by decide) (i := 1) (by decide) (show 1 < 2 by decide) (w := (.int 63)) rfl ge_a_6 at_171 ?_
        intro h_45 K_46 A_47
        have f_48 : Ary Z h_45 a_6 .char [(.int 60), (.int 63)] := A_47
        refine iL C 2 at_172 rfl <| iC C 3 at_174 rfl <| yicmp_n C at_175 (XT.ii_eq_f (by decide)) <| iC C 0 at_178 rfl <| iS C at_179 (#[iV p0, iV p1, iV p2, iV p3, iV p4, iV 2, iV 0, aV a_6, iV 2, iV 63, iV 0]) rfl <| gT C at_181 226 (by decide) ?_
        have f_49 := (lT (lT (lT (lT (lT Z0 E_8.1) K_12.1) K_16.1) K_42.1) K_46.1)
        have f_50 := (((((O.ext E_8).keep K_12 (allS ge_a_6 all0)).keep K_16 (allS ge_a_6 all0)).keep K_42 (allS ge_a_6 all0)).keep K_46 (allS ge_a_6 all0))
        exact rm_tail_2_0 hw p0 p1 p2 p3 p4 2 0 2 63 0 a_6 60 63 [.int (bY 60), .int (bY 63)] h_45 f_49 cm f_50 f_48 (fun h a q1 q2 q3 q4 q5 q6 q7 q8 => rm_init1_2 hw a a_6 60 63 h q1 cm q2 q3 q4 q5 q6 q7 q8 (by refine ⟨?_, ?_, ?_⟩ <;> decide) (by refine ⟨?_, ?_, ?_⟩ <;> decide)) (fun h a b q1 q2 q3 q4 q5 q6 => rm_isStart_2_0_0 hw a b (bY 60) (bY 63) 63 h q1 cm q2 q3 q4 q5 q6 (own_l1 (c := 60) (by decide) (by decide)) (own_l1 (c := 63) (by decide) (by decide)) (by decide)) (fun r r0 _ => r0 (Or.inr (Or.inr rfl))) B C
      · subst i_19e
        show Go _ _ _ _ 1 2 108 _ [(.int 3)]
        refine iS C at_108 (#[iV p0, iV p1, iV p2, iV p3, iV p4, iV 2, iV 0, aV a_6, iV 3, uV, uV]) rfl <| iL C 3 at_110 rfl <| fY C at_112 (XT.i0_ne_t (by decide)) 122 (by decide) <| iL C 3 at_122 rfl <| iC C 1 at_124 rfl <| cY C at_125 (XT.ii_ne_t (by decide)) 135 (by decide) <| iL C 3 at_135 rfl <| iC C 2 at_137 rfl <| cY C at_138 (XT.ii_ne_t (by decide)) 148 (by decide) <| iL C p4 at_148 rfl <| yldc C (v := 65535) (oW hw 70 rfl) at_150 <| yiand C at_152 <| yi2c C at_153 ?_
        obtain ⟨sv, esv⟩ : ∃ z : Int32, z = (UInt32.toInt32 (UInt16.toUInt32 (UInt32.toUInt16 (Int32.toUInt32 (p4 &&& 65535))))) := ⟨_, rfl⟩
        have ksv : nar .char sv = sv := by rw [esv]; exact own_nari2c _
        rw [← esv]
        refine iS C at_154 (#[iV p0, iV p1, iV p2, iV p3, iV p4, iV 2, iV 0, aV a_6, iV 3, iV sv, uV]) rfl <| aL C ((.ref a_6)) at_156 rfl rfl <| iL C 0 at_158 rfl <| iB C 60 at_160 rfl <| ycastore C f_18 (by decide) (i := 0) (by decide) (show 0 < 2 by decide) (w := (.int 60)) rfl ge_a_6 at_162 ?_
        intro h_51 K_52 A_53
        have f_54 : Ary Z h_51 a_6 .char [(.int 60), (.int cb)] := A_53
        refine aL C ((.ref a_6)) at_163 rfl rfl <| iL C 0 at_165 rfl <| iC C 1 at_167 rfl <| yiadd C at_168 <| eS [(.int 1), (.ref a_6)] rfl <| iL C sv at_169 rfl <| ycastore C f_54 (by decide) (i := 1) (by decide) (show 1 < 2 by decide) (w := (.int sv)) (congrArg Value.int ksv) ge_a_6 at_171 ?_
        intro h_55 K_56 A_57
        have f_58 : Ary Z h_55 a_6 .char [(.int 60), (.int sv)] := A_57
        refine iL C 3 at_172 rfl <| iC C 3 at_174 rfl <| cY C at_175 (XT.ii_eq_t (by decide)) 184 (by decide) <| iL C sv at_184 rfl <| iB C 47 at_186 rfl ?_
        by_cases hb_59 : sv = 47
        · refine yicmp_n C at_188 (XT.ii_ne_f hb_59) <| iC C 0 at_191 rfl <| iS C at_192 (#[iV p0, iV p1, iV p2, iV p3, iV p4, iV 2, iV 0, aV a_6, iV 3, iV sv, iV 0]) rfl <| gT C at_194 226 (by decide) ?_
          have f_60 := (lT (lT (lT (lT (lT Z0 E_8.1) K_12.1) K_16.1) K_52.1) K_56.1)
          have f_61 := (((((O.ext E_8).keep K_12 (allS ge_a_6 all0)).keep K_16 (allS ge_a_6 all0)).keep K_52 (allS ge_a_6 all0)).keep K_56 (allS ge_a_6 all0))
          exact rm_tail_2_0 hw p0 p1 p2 p3 p4 2 0 3 sv 0 a_6 60 sv [.int (bY 60), .int (bY sv)] h_55 f_60 cm f_61 f_58 (fun h a q1 q2 q3 q4 q5 q6 q7 q8 => rm_init1_2 hw a a_6 60 sv h q1 cm q2 q3 q4 q5 q6 q7 q8 (by refine ⟨?_, ?_, ?_⟩ <;> decide) ⟨ksv, (by rw [hb_59]; decide), own_chof ksv⟩) (fun h a b q1 q2 q3 q4 q5 q6 => rm_isStart_2_0_0 hw a b (bY 60) (bY sv) sv h q1 cm q2 q3 q4 q5 q6 (own_l1 (c := 60) (by decide) (by decide)) (own_l1 (c := sv) ksv (show Ch sv from ⟨ksv, (by rw [hb_59]; decide), own_chof ksv⟩).2.1) ksv) (fun r r0 _ => r0 (Or.inl hb_59)) B C
        · refine cY C at_188 (XT.ii_ne_t hb_59) 197 (by decide) <| iL C sv at_197 rfl <| iB C 33 at_199 rfl ?_
          by_cases hb_62 : sv = 33
          · refine yicmp_n C at_201 (XT.ii_ne_f hb_62) <| iC C 0 at_204 rfl <| iS C at_205 (#[iV p0, iV p1, iV p2, iV p3, iV p4, iV 2, iV 0, aV a_6, iV 3, iV sv, iV 0]) rfl <| gT C at_207 226 (by decide) ?_
            have f_63 := (lT (lT (lT (lT (lT Z0 E_8.1) K_12.1) K_16.1) K_52.1) K_56.1)
            have f_64 := (((((O.ext E_8).keep K_12 (allS ge_a_6 all0)).keep K_16 (allS ge_a_6 all0)).keep K_52 (allS ge_a_6 all0)).keep K_56 (allS ge_a_6 all0))
            exact rm_tail_2_0 hw p0 p1 p2 p3 p4 2 0 3 sv 0 a_6 60 sv [.int (bY 60), .int (bY sv)] h_55 f_63 cm f_64 f_58 (fun h a q1 q2 q3 q4 q5 q6 q7 q8 => rm_init1_2 hw a a_6 60 sv h q1 cm q2 q3 q4 q5 q6 q7 q8 (by refine ⟨?_, ?_, ?_⟩ <;> decide) ⟨ksv, (by rw [hb_62]; decide), own_chof ksv⟩) (fun h a b q1 q2 q3 q4 q5 q6 => rm_isStart_2_0_0 hw a b (bY 60) (bY sv) sv h q1 cm q2 q3 q4 q5 q6 (own_l1 (c := 60) (by decide) (by decide)) (own_l1 (c := sv) ksv (show Ch sv from ⟨ksv, (by rw [hb_62]; decide), own_chof ksv⟩).2.1) ksv) (fun r r0 _ => r0 (Or.inr (Or.inl hb_62))) B C
          · refine cY C at_201 (XT.ii_ne_t hb_62) 210 (by decide) <| iL C sv at_210 rfl <| iB C 63 at_212 rfl ?_
            by_cases hb_65 : sv = 63
            · refine yicmp_n C at_214 (XT.ii_ne_f hb_65) <| iC C 0 at_217 rfl <| iS C at_218 (#[iV p0, iV p1, iV p2, iV p3, iV p4, iV 2, iV 0, aV a_6, iV 3, iV sv, iV 0]) rfl <| gT C at_220 226 (by decide) ?_
              have f_66 := (lT (lT (lT (lT (lT Z0 E_8.1) K_12.1) K_16.1) K_52.1) K_56.1)
              have f_67 := (((((O.ext E_8).keep K_12 (allS ge_a_6 all0)).keep K_16 (allS ge_a_6 all0)).keep K_52 (allS ge_a_6 all0)).keep K_56 (allS ge_a_6 all0))
              exact rm_tail_2_0 hw p0 p1 p2 p3 p4 2 0 3 sv 0 a_6 60 sv [.int (bY 60), .int (bY sv)] h_55 f_66 cm f_67 f_58 (fun h a q1 q2 q3 q4 q5 q6 q7 q8 => rm_init1_2 hw a a_6 60 sv h q1 cm q2 q3 q4 q5 q6 q7 q8 (by refine ⟨?_, ?_, ?_⟩ <;> decide) ⟨ksv, (by rw [hb_65]; decide), own_chof ksv⟩) (fun h a b q1 q2 q3 q4 q5 q6 => rm_isStart_2_0_0 hw a b (bY 60) (bY sv) sv h q1 cm q2 q3 q4 q5 q6 (own_l1 (c := 60) (by decide) (by decide)) (own_l1 (c := sv) ksv (show Ch sv from ⟨ksv, (by rw [hb_65]; decide), own_chof ksv⟩).2.1) ksv) (fun r r0 _ => r0 (Or.inr (Or.inr hb_65))) B C
            · refine cY C at_214 (XT.ii_ne_t hb_65) 223 (by decide) <| iC C 1 at_223 rfl <| iS C at_224 (#[iV p0, iV p1, iV p2, iV p3, iV p4, iV 2, iV 0, aV a_6, iV 3, iV sv, iV 1]) rfl ?_
              by_cases hbig : 255 < sv
              · show Go _ _ _ _ 1 2 226 _ []
                have f_68 := (lT (lT (lT (lT (lT Z0 E_8.1) K_12.1) K_16.1) K_52.1) K_56.1)
                have f_69 := (((((O.ext E_8).keep K_12 (allS ge_a_6 all0)).keep K_16 (allS ge_a_6 all0)).keep K_52 (allS ge_a_6 all0)).keep K_56 (allS ge_a_6 all0))
                exact rm_tail_2_1 hw p0 p1 p2 p3 p4 2 0 3 sv 1 a_6 60 sv [.int (bY ((60 : Int32) >>> (0 &&& 31))), .int (bY ((60 : Int32) >>> (8 &&& 31))), .int (bY (sv >>> (0 &&& 31))), .int (bY (sv >>> (8 &&& 31)))] h_55 f_68 cm f_69 f_58 (fun h a q1 q2 q3 q4 q5 q6 q7 q8 => rm_initB_2_1 hw a a_6 60 sv h q1 cm q2 q3 q4 q5 q6 q7 q8 (by refine ⟨?_, ?_, ?_⟩ <;> decide) ⟨ksv, hbig⟩) (fun h a b q1 q2 q3 q4 q5 q6 => rm_isStart_2_0_1 hw a b (bY ((60 : Int32) >>> (0 &&& 31))) (bY ((60 : Int32) >>> (8 &&& 31))) (bY (sv >>> (0 &&& 31))) (bY (sv >>> (8 &&& 31))) sv h q1 cm q2 q3 q4 q5 q6 (own_gc (c := 60) (by decide)) (own_gc (c := sv) ksv) ksv) (fun r _ r1 => r1 hb_59 hb_62 hb_65) B C
              · show Go _ _ _ _ 1 2 226 _ []
                have f_70 := (lT (lT (lT (lT (lT Z0 E_8.1) K_12.1) K_16.1) K_52.1) K_56.1)
                have f_71 := (((((O.ext E_8).keep K_12 (allS ge_a_6 all0)).keep K_16 (allS ge_a_6 all0)).keep K_52 (allS ge_a_6 all0)).keep K_56 (allS ge_a_6 all0))
                exact rm_tail_2_0 hw p0 p1 p2 p3 p4 2 0 3 sv 1 a_6 60 sv [.int (bY 60), .int (bY sv)] h_55 f_70 cm f_71 f_58 (fun h a q1 q2 q3 q4 q5 q6 q7 q8 => rm_init1_2 hw a a_6 60 sv h q1 cm q2 q3 q4 q5 q6 q7 q8 (by refine ⟨?_, ?_, ?_⟩ <;> decide) ⟨ksv, hbig, own_chof ksv⟩) (fun h a b q1 q2 q3 q4 q5 q6 => rm_isStart_2_0_0 hw a b (bY 60) (bY sv) sv h q1 cm q2 q3 q4 q5 q6 (own_l1 (c := 60) (by decide) (by decide)) (own_l1 (c := sv) ksv (show Ch sv from ⟨ksv, hbig, own_chof ksv⟩).2.1) ksv) (fun r _ r1 => r1 hb_59 hb_62 hb_65) B C
  · subst i_1e
    show Go _ _ _ _ 0 0 4 _ [(.int 1), (.int 2)]
    refine yiadd C at_4 <| eS [(.int 3)] rfl <| iS C at_5 (#[iV p0, iV p1, iV p2, iV p3, iV p4, iV 3, uV, uV, uV, uV, uV]) rfl <| iN C p1 at_7 rfl <| yldc C (v := 2147483647) (oW hw 0 rfl) at_8 <| yiand C at_10 <| iL C 3 at_11 rfl <| iC C 1 at_13 rfl <| yisub C at_14 <| eS [(.int 2), (.int (p1 &&& 2147483647))] rfl <| yirem C at_15 (by decide) ?_
    obtain ⟨i_72, hi_73⟩ : ∃ z : Int32, z = ((p1 &&& 2147483647) - ((p1 &&& 2147483647) / 2) * 2) := ⟨_, rfl⟩
    rw [← hi_73]
    rcases own_split2 i_72 (by rw [hi_73]; exact (own_rem2 (own_nn p1)).1) (by rw [hi_73]; exact (own_rem2 (own_nn p1)).2) with i_72e | i_72e
    · subst i_72e
      show Go _ _ _ _ 0 0 16 _ [(.int 0)]
      refine iS C at_16 (#[iV p0, iV p1, iV p2, iV p3, iV p4, iV 3, iV 0, uV, uV, uV, uV]) rfl <| iL C 3 at_18 rfl <| ynewarray C (oW hw 1 rfl) (ty := .char) rfl (by decide) (cap := 3) (by decide) (by decide) (by decide) (by decide) at_20 ?_
      intro h_74 a_75 g_76 E_77 A_78
      have ge_a_75 : n0 ≤ a_75 := lT Z0 (lE g_76.symm)
      have gs_a_75 : h0.size ≤ a_75 := lT (Nat.le_refl h0.size) (lE g_76.symm)
      have f_79 : Ary Z h_74 a_75 .char [(.int 0), (.int 0), (.int 0)] := A_78
      show Go _ _ _ _ 1 3 22 _ [(.ref a_75)]
      refine aS C at_22 (#[iV p0, iV p1, iV p2, iV p3, iV p4, iV 3, iV 0, aV a_75, uV, uV, uV]) rfl rfl <| aL C ((.ref a_75)) at_24 rfl rfl <| iC C 0 at_26 rfl <| iN C p2 at_27 rfl <| iP C 255 at_28 rfl <| yiand C at_31 <| yi2c C at_32 ?_
      rw [i2c_mask p2]
      obtain ⟨ca, eca⟩ : ∃ z : Int32, z = (p2 &&& 255) := ⟨_, rfl⟩
      have kca : Ch ca := by rw [eca]; exact own_chM p2
      rw [← eca]
      refine ycastore C f_79 (by decide) (i := 0) (by decide) (show 0 < 3 by decide) (w := (.int ca)) (congrArg Value.int kca.1) ge_a_75 at_33 ?_
      intro h_80 K_81 A_82
      have f_83 : Ary Z h_80 a_75 .char [(.int ca), (.int 0), (.int 0)] := A_82
      refine aL C ((.ref a_75)) at_34 rfl rfl <| iC C 1 at_36 rfl <| iN C p2 at_37 rfl <| iB C 8 at_38 rfl <| yiushr C at_40 <| iP C 255 at_41 rfl <| yiand C at_44 <| yi2c C at_45 ?_
      rw [i2c_mask (XT.ushr p2 8)]
      obtain ⟨cb, ecb⟩ : ∃ z : Int32, z = ((XT.ushr p2 8) &&& 255) := ⟨_, rfl⟩
      have kcb : Ch cb := by rw [ecb]; exact own_chM (XT.ushr p2 8)
      rw [← ecb]
      refine ycastore C f_83 (by decide) (i := 1) (by decide) (show 1 < 3 by decide) (w := (.int cb)) (congrArg Value.int kcb.1) ge_a_75 at_46 ?_
      intro h_84 K_85 A_86
      have f_87 : Ary Z h_84 a_75 .char [(.int ca), (.int cb), (.int 0)] := A_86
      refine iL C 3 at_47 rfl <| iC C 2 at_49 rfl <| yicmp_n C at_50 (XT.ii_le_f (by decide)) <| aL C ((.ref a_75)) at_53 rfl rfl <| iC C 2 at_55 rfl <| iN C p2 at_56 rfl <| iB C 16 at_57 rfl <| yiushr C at_59 <| iP C 255 at_60 rfl <| yiand C at_63 <| yi2c C at_64 ?_
      rw [i2c_mask (XT.ushr p2 16)]
      obtain ⟨cc, ecc⟩ : ∃ z : Int32, z = ((XT.ushr p2 16) &&& 255) := ⟨_, rfl⟩
      have kcc : Ch cc := by rw [ecc]; exact own_chM (XT.ushr p2 16)
      rw [← ecc]
      refine ycastore C f_87 (by decide) (i := 2) (by decide) (show 2 < 3 by decide) (w := (.int cc)) (congrArg Value.int kcc.1) ge_a_75 at_65 ?_
      intro h_88 K_89 A_90
      have f_91 : Ary Z h_88 a_75 .char [(.int ca), (.int cb), (.int cc)] := A_90
      refine iL C 3 at_66 rfl <| iC C 3 at_68 rfl <| cY C at_69 (XT.ii_le_t (by decide)) 85 (by decide) <| iL C 3 at_85 rfl <| iC C 4 at_87 rfl <| cY C at_88 (XT.ii_le_t (by decide)) 101 (by decide) <| iL C p4 at_101 rfl <| iB C 16 at_103 rfl <| yiushr C at_105 <| iC C 3 at_106 rfl <| yiand C at_107 ?_
      obtain ⟨i_92, hi_93⟩ : ∃ z : Int32, z = ((XT.ushr p4 16) &&& 3) := ⟨_, rfl⟩
      rw [← hi_93]
      rcases own_split4 i_92 (by rw [hi_93]; exact (own_m3 _).1) (by rw [hi_93]; exact (own_m3 _).2) with i_92e | i_92e | i_92e | i_92e
      · subst i_92e
        show Go _ _ _ _ 1 3 108 _ [(.int 0)]
        refine iS C at_108 (#[iV p0, iV p1, iV p2, iV p3, iV p4, iV 3, iV 0, aV a_75, iV 0, uV, uV]) rfl <| iL C 0 at_110 rfl <| yif_n C at_112 (XT.i0_ne_f (by decide)) <| iB C 47 at_115 rfl <| iS C at_117 (#[iV p0, iV p1, iV p2, iV p3, iV p4, iV 3, iV 0, aV a_75, iV 0, iV 47, uV]) rfl <| gT C at_119 156 (by decide) <| aL C ((.ref a_75)) at_156 rfl rfl <| iL C 0 at_158 rfl <| iB C 60 at_160 rfl <| ycastore C f_91 (by decide) (i := 0) (by decide) (show 0 < 3 by decide) (w := (.int 60)) rfl ge_a_75 at_162 ?_
        intro h_94 K_95 A_96
        have f_97 : Ary Z h_94 a_75 .char [(.int 60), (.int cb), (.int cc)] := A_96
        refine aL C ((.ref a_75)) at_163 rfl rfl <| iL C 0 at_165 rfl <| iC C 1 at_167 rfl <| yiadd C at_168 <| eS [(.int 1), (.ref a_75)] rfl <| iL C 47 at_169 rfl <| ycastore C f_97 (by decide) (i := 1) (by decide) (show 1 < 3 by decide) (w := (.int 47)) rfl ge_a_75 at_171 ?_
        intro h_98 K_99 A_100
        have f_101 : Ary Z h_98 a_75 .char [(.int 60), (.int 47), (.int cc)] := A_100
        refine iL C 0 at_172 rfl <| iC C 3 at_174 rfl <| yicmp_n C at_175 (XT.ii_eq_f (by decide)) <| iC C 0 at_178 rfl <| iS C at_179 (#[iV p0, iV p1, iV p2, iV p3, iV p4, iV 3, iV 0, aV a_75, iV 0, iV 47, iV 0]) rfl <| gT C at_181 226 (by decide) ?_
        have f_102 := (lT (lT (lT (lT (lT (lT Z0 E_77.1) K_81.1) K_85.1) K_89.1) K_95.1) K_99.1)
        have f_103 := ((((((O.ext E_77).keep K_81 (allS ge_a_75 all0)).keep K_85 (allS ge_a_75 all0)).keep K_89 (allS ge_a_75 all0)).keep K_95 (allS ge_a_75 all0)).keep K_99 (allS ge_a_75 all0))
        exact rm_tail_3_0 hw p0 p1 p2 p3 p4 3 0 0 47 0 a_75 60 47 cc [.int (bY 60), .int (bY 47), .int (bY cc)] h_98 f_102 cm f_103 f_101 (fun h a q1 q2 q3 q4 q5 q6 q7 q8 => rm_init1_3 hw a a_75 60 47 cc h q1 cm q2 q3 q4 q5 q6 q7 q8 (by refine ⟨?_, ?_, ?_⟩ <;> decide) (by refine ⟨?_, ?_, ?_⟩ <;> decide) kcc) (fun h a b q1 q2 q3 q4 q5 q6 => rm_isStart_3_0_0 hw a b (bY 60) (bY 47) (bY cc) 47 h q1 cm q2 q3 q4 q5 q6 (own_l1 (c := 60) (by decide) (by decide)) (own_l1 (c := 47) (by decide) (by decide)) (by decide)) (fun r r0 _ => r0 (Or.inl rfl)) B C
      · subst i_92e
        show Go _ _ _ _ 1 3 108 _ [(.int 1)]
        refine iS C at_108 (#[iV p0, iV p1, iV p2, iV p3, iV p4, iV 3, iV 0, aV a_75, iV 1, uV, uV]) rfl <| iL C 1 at_110 rfl <| fY C at_112 (XT.i0_ne_t (by decide)) 122 (by decide) <| iL C 1 at_122 rfl <| iC C 1 at_124 rfl <| yicmp_n C at_125 (XT.ii_ne_f (by decide)) <| iB C 33 at_128 rfl <| iS C at_130 (#[iV p0, iV p1, iV p2, iV p3, iV p4, iV 3, iV 0, aV a_75, iV 1, iV 33, uV]) rfl <| gT C at_132 156 (by decide) <| aL C ((.ref a_75)) at_156 rfl rfl <| iL C 0 at_158 rfl <| iB C 60 at_160 rfl <| ycastore C f_91 (by decide) (i := 0) (by decide) (show 0 < 3 by decide) (w := (.int 60)) rfl ge_a_75 at_162 ?_
        intro h_104 K_105 A_106
        have f_107 : Ary Z h_104 a_75 .char [(.int 60), (.int cb), (.int cc)] := A_106
        refine aL C ((.ref a_75)) at_163 rfl rfl <| iL C 0 at_165 rfl <| iC C 1 at_167 rfl <| yiadd C at_168 <| eS [(.int 1), (.ref a_75)] rfl <| iL C 33 at_169 rfl <| ycastore C f_107 (by decide) (i := 1) (by decide) (show 1 < 3 by decide) (w := (.int 33)) rfl ge_a_75 at_171 ?_
        intro h_108 K_109 A_110
        have f_111 : Ary Z h_108 a_75 .char [(.int 60), (.int 33), (.int cc)] := A_110
        refine iL C 1 at_172 rfl <| iC C 3 at_174 rfl <| yicmp_n C at_175 (XT.ii_eq_f (by decide)) <| iC C 0 at_178 rfl <| iS C at_179 (#[iV p0, iV p1, iV p2, iV p3, iV p4, iV 3, iV 0, aV a_75, iV 1, iV 33, iV 0]) rfl <| gT C at_181 226 (by decide) ?_
        have f_112 := (lT (lT (lT (lT (lT (lT Z0 E_77.1) K_81.1) K_85.1) K_89.1) K_105.1) K_109.1)
        have f_113 := ((((((O.ext E_77).keep K_81 (allS ge_a_75 all0)).keep K_85 (allS ge_a_75 all0)).keep K_89 (allS ge_a_75 all0)).keep K_105 (allS ge_a_75 all0)).keep K_109 (allS ge_a_75 all0))
        exact rm_tail_3_0 hw p0 p1 p2 p3 p4 3 0 1 33 0 a_75 60 33 cc [.int (bY 60), .int (bY 33), .int (bY cc)] h_108 f_112 cm f_113 f_111 (fun h a q1 q2 q3 q4 q5 q6 q7 q8 => rm_init1_3 hw a a_75 60 33 cc h q1 cm q2 q3 q4 q5 q6 q7 q8 (by refine ⟨?_, ?_, ?_⟩ <;> decide) (by refine ⟨?_, ?_, ?_⟩ <;> decide) kcc) (fun h a b q1 q2 q3 q4 q5 q6 => rm_isStart_3_0_0 hw a b (bY 60) (bY 33) (bY cc) 33 h q1 cm q2 q3 q4 q5 q6 (own_l1 (c := 60) (by decide) (by decide)) (own_l1 (c := 33) (by decide) (by decide)) (by decide)) (fun r r0 _ => r0 (Or.inr (Or.inl rfl))) B C
      · subst i_92e
        show Go _ _ _ _ 1 3 108 _ [(.int 2)]
        refine iS C at_108 (#[iV p0, iV p1, iV p2, iV p3, iV p4, iV 3, iV 0, aV a_75, iV 2, uV, uV]) rfl <| iL C 2 at_110 rfl <| fY C at_112 (XT.i0_ne_t (by decide)) 122 (by decide) <| iL C 2 at_122 rfl <| iC C 1 at_124 rfl <| cY C at_125 (XT.ii_ne_t (by decide)) 135 (by decide) <| iL C 2 at_135 rfl <| iC C 2 at_137 rfl <| yicmp_n C at_138 (XT.ii_ne_f (by decide)) <| iB C 63 at_141 rfl <| iS C at_143 (#[iV p0, iV p1, iV p2, iV p3, iV p4, iV 3, iV 0, aV a_75, iV 2, iV 63, uV]) rfl <| gT C at_145 156 (by decide) <| aL C ((.ref a_75)) at_156 rfl rfl <| iL C 0 at_158 rfl <| iB C 60 at_160 rfl <| ycastore C f_91 (by decide) (i := 0) (by decide) (show 0 < 3 by decide) (w := (.int 60)) rfl ge_a_75 at_162 ?_
        intro h_114 K_115 A_116
        have f_117 : Ary Z h_114 a_75 .char [(.int 60), (.int cb), (.int cc)] := A_116
        refine aL C ((.ref a_75)) at_163 rfl rfl <| iL C 0 at_165 rfl <| iC C 1 at_167 rfl <| yiadd C at_168 <| eS [(.int 1), (.ref a_75)] rfl <| iL C 63 at_169 rfl <| ycastore C f_117 (by decide) (i := 1) (by decide) (show 1 < 3 by decide) (w := (.int 63)) rfl ge_a_75 at_171 ?_
        intro h_118 K_119 A_120
        have f_121 : Ary Z h_118 a_75 .char [(.int 60), (.int 63), (.int cc)] := A_120
        refine iL C 2 at_172 rfl <| iC C 3 at_174 rfl <| yicmp_n C at_175 (XT.ii_eq_f (by decide)) <| iC C 0 at_178 rfl <| iS C at_179 (#[iV p0, iV p1, iV p2, iV p3, iV p4, iV 3, iV 0, aV a_75, iV 2, iV 63, iV 0]) rfl <| gT C at_181 226 (by decide) ?_
        have f_122 := (lT (lT (lT (lT (lT (lT Z0 E_77.1) K_81.1) K_85.1) K_89.1) K_115.1) K_119.1)
        have f_123 := ((((((O.ext E_77).keep K_81 (allS ge_a_75 all0)).keep K_85 (allS ge_a_75 all0)).keep K_89 (allS ge_a_75 all0)).keep K_115 (allS ge_a_75 all0)).keep K_119 (allS ge_a_75 all0))
        exact rm_tail_3_0 hw p0 p1 p2 p3 p4 3 0 2 63 0 a_75 60 63 cc [.int (bY 60), .int (bY 63), .int (bY cc)] h_118 f_122 cm f_123 f_121 (fun h a q1 q2 q3 q4 q5 q6 q7 q8 => rm_init1_3 hw a a_75 60 63 cc h q1 cm q2 q3 q4 q5 q6 q7 q8 (by refine ⟨?_, ?_, ?_⟩ <;> decide) (by refine ⟨?_, ?_, ?_⟩ <;> decide) kcc) (fun h a b q1 q2 q3 q4 q5 q6 => rm_isStart_3_0_0 hw a b (bY 60) (bY 63) (bY cc) 63 h q1 cm q2 q3 q4 q5 q6 (own_l1 (c := 60) (by decide) (by decide)) (own_l1 (c := 63) (by decide) (by decide)) (by decide)) (fun r r0 _ => r0 (Or.inr (Or.inr rfl))) B C
      · subst i_92e
        show Go _ _ _ _ 1 3 108 _ [(.int 3)]
        refine iS C at_108 (#[iV p0, iV p1, iV p2, iV p3, iV p4, iV 3, iV 0, aV a_75, iV 3, uV, uV]) rfl <| iL C 3 at_110 rfl <| fY C at_112 (XT.i0_ne_t (by decide)) 122 (by decide) <| iL C 3 at_122 rfl <| iC C 1 at_124 rfl <| cY C at_125 (XT.ii_ne_t (by decide)) 135 (by decide) <| iL C 3 at_135 rfl <| iC C 2 at_137 rfl <| cY C at_138 (XT.ii_ne_t (by decide)) 148 (by decide) <| iL C p4 at_148 rfl <| yldc C (v := 65535) (oW hw 70 rfl) at_150 <| yiand C at_152 <| yi2c C at_153 ?_
        obtain ⟨sv, esv⟩ : ∃ z : Int32, z = (UInt32.toInt32 (UInt16.toUInt32 (UInt32.toUInt16 (Int32.toUInt32 (p4 &&& 65535))))) := ⟨_, rfl⟩
        have ksv : nar .char sv = sv := by rw [esv]; exact own_nari2c _
        rw [← esv]
        refine iS C at_154 (#[iV p0, iV p1, iV p2, iV p3, iV p4, iV 3, iV 0, aV a_75, iV 3, iV sv, uV]) rfl <| aL C ((.ref a_75)) at_156 rfl rfl <| iL C 0 at_158 rfl <| iB C 60 at_160 rfl <| ycastore C f_91 (by decide) (i := 0) (by decide) (show 0 < 3 by decide) (w := (.int 60)) rfl ge_a_75 at_162 ?_
        intro h_124 K_125 A_126
        have f_127 : Ary Z h_124 a_75 .char [(.int 60), (.int cb), (.int cc)] := A_126
        refine aL C ((.ref a_75)) at_163 rfl rfl <| iL C 0 at_165 rfl <| iC C 1 at_167 rfl <| yiadd C at_168 <| eS [(.int 1), (.ref a_75)] rfl <| iL C sv at_169 rfl <| ycastore C f_127 (by decide) (i := 1) (by decide) (show 1 < 3 by decide) (w := (.int sv)) (congrArg Value.int ksv) ge_a_75 at_171 ?_
        intro h_128 K_129 A_130
        have f_131 : Ary Z h_128 a_75 .char [(.int 60), (.int sv), (.int cc)] := A_130
        refine iL C 3 at_172 rfl <| iC C 3 at_174 rfl <| cY C at_175 (XT.ii_eq_t (by decide)) 184 (by decide) <| iL C sv at_184 rfl <| iB C 47 at_186 rfl ?_
        by_cases hb_132 : sv = 47
        · refine yicmp_n C at_188 (XT.ii_ne_f hb_132) <| iC C 0 at_191 rfl <| iS C at_192 (#[iV p0, iV p1, iV p2, iV p3, iV p4, iV 3, iV 0, aV a_75, iV 3, iV sv, iV 0]) rfl <| gT C at_194 226 (by decide) ?_
          have f_133 := (lT (lT (lT (lT (lT (lT Z0 E_77.1) K_81.1) K_85.1) K_89.1) K_125.1) K_129.1)
          have f_134 := ((((((O.ext E_77).keep K_81 (allS ge_a_75 all0)).keep K_85 (allS ge_a_75 all0)).keep K_89 (allS ge_a_75 all0)).keep K_125 (allS ge_a_75 all0)).keep K_129 (allS ge_a_75 all0))
          exact rm_tail_3_0 hw p0 p1 p2 p3 p4 3 0 3 sv 0 a_75 60 sv cc [.int (bY 60), .int (bY sv), .int (bY cc)] h_128 f_133 cm f_134 f_131 (fun h a q1 q2 q3 q4 q5 q6 q7 q8 => rm_init1_3 hw a a_75 60 sv cc h q1 cm q2 q3 q4 q5 q6 q7 q8 (by refine ⟨?_, ?_, ?_⟩ <;> decide) ⟨ksv, (by rw [hb_132]; decide), own_chof ksv⟩ kcc) (fun h a b q1 q2 q3 q4 q5 q6 => rm_isStart_3_0_0 hw a b (bY 60) (bY sv) (bY cc) sv h q1 cm q2 q3 q4 q5 q6 (own_l1 (c := 60) (by decide) (by decide)) (own_l1 (c := sv) ksv (show Ch sv from ⟨ksv, (by rw [hb_132]; decide), own_chof ksv⟩).2.1) ksv) (fun r r0 _ => r0 (Or.inl hb_132)) B C
        · refine cY C at_188 (XT.ii_ne_t hb_132) 197 (by decide) <| iL C sv at_197 rfl <| iB C 33 at_199 rfl ?_
          by_cases hb_135 : sv = 33
          · refine yicmp_n C at_201 (XT.ii_ne_f hb_135) <| iC C 0 at_204 rfl <| iS C at_205 (#[iV p0, iV p1, iV p2, iV p3, iV p4, iV 3, iV 0, aV a_75, iV 3, iV sv, iV 0]) rfl <| gT C at_207 226 (by decide) ?_
            have f_136 := (lT (lT (lT (lT (lT (lT Z0 E_77.1) K_81.1) K_85.1) K_89.1) K_125.1) K_129.1)
            have f_137 := ((((((O.ext E_77).keep K_81 (allS ge_a_75 all0)).keep K_85 (allS ge_a_75 all0)).keep K_89 (allS ge_a_75 all0)).keep K_125 (allS ge_a_75 all0)).keep K_129 (allS ge_a_75 all0))
            exact rm_tail_3_0 hw p0 p1 p2 p3 p4 3 0 3 sv 0 a_75 60 sv cc [.int (bY 60), .int (bY sv), .int (bY cc)] h_128 f_136 cm f_137 f_131 (fun h a q1 q2 q3 q4 q5 q6 q7 q8 => rm_init1_3 hw a a_75 60 sv cc h q1 cm q2 q3 q4 q5 q6 q7 q8 (by refine ⟨?_, ?_, ?_⟩ <;> decide) ⟨ksv, (by rw [hb_135]; decide), own_chof ksv⟩ kcc) (fun h a b q1 q2 q3 q4 q5 q6 => rm_isStart_3_0_0 hw a b (bY 60) (bY sv) (bY cc) sv h q1 cm q2 q3 q4 q5 q6 (own_l1 (c := 60) (by decide) (by decide)) (own_l1 (c := sv) ksv (show Ch sv from ⟨ksv, (by rw [hb_135]; decide), own_chof ksv⟩).2.1) ksv) (fun r r0 _ => r0 (Or.inr (Or.inl hb_135))) B C
          · refine cY C at_201 (XT.ii_ne_t hb_135) 210 (by decide) <| iL C sv at_210 rfl <| iB C 63 at_212 rfl ?_
            by_cases hb_138 : sv = 63
            · refine yicmp_n C at_214 (XT.ii_ne_f hb_138) <| iC C 0 at_217 rfl <| iS C at_218 (#[iV p0, iV p1, iV p2, iV p3, iV p4, iV 3, iV 0, aV a_75, iV 3, iV sv, iV 0]) rfl <| gT C at_220 226 (by decide) ?_
              have f_139 := (lT (lT (lT (lT (lT (lT Z0 E_77.1) K_81.1) K_85.1) K_89.1) K_125.1) K_129.1)
              have f_140 := ((((((O.ext E_77).keep K_81 (allS ge_a_75 all0)).keep K_85 (allS ge_a_75 all0)).keep K_89 (allS ge_a_75 all0)).keep K_125 (allS ge_a_75 all0)).keep K_129 (allS ge_a_75 all0))
              exact rm_tail_3_0 hw p0 p1 p2 p3 p4 3 0 3 sv 0 a_75 60 sv cc [.int (bY 60), .int (bY sv), .int (bY cc)] h_128 f_139 cm f_140 f_131 (fun h a q1 q2 q3 q4 q5 q6 q7 q8 => rm_init1_3 hw a a_75 60 sv cc h q1 cm q2 q3 q4 q5 q6 q7 q8 (by refine ⟨?_, ?_, ?_⟩ <;> decide) ⟨ksv, (by rw [hb_138]; decide), own_chof ksv⟩ kcc) (fun h a b q1 q2 q3 q4 q5 q6 => rm_isStart_3_0_0 hw a b (bY 60) (bY sv) (bY cc) sv h q1 cm q2 q3 q4 q5 q6 (own_l1 (c := 60) (by decide) (by decide)) (own_l1 (c := sv) ksv (show Ch sv from ⟨ksv, (by rw [hb_138]; decide), own_chof ksv⟩).2.1) ksv) (fun r r0 _ => r0 (Or.inr (Or.inr hb_138))) B C
            · refine cY C at_214 (XT.ii_ne_t hb_138) 223 (by decide) <| iC C 1 at_223 rfl <| iS C at_224 (#[iV p0, iV p1, iV p2, iV p3, iV p4, iV 3, iV 0, aV a_75, iV 3, iV sv, iV 1]) rfl ?_
              by_cases hbig : 255 < sv
              · show Go _ _ _ _ 1 3 226 _ []
                have f_141 := (lT (lT (lT (lT (lT (lT Z0 E_77.1) K_81.1) K_85.1) K_89.1) K_125.1) K_129.1)
                have f_142 := ((((((O.ext E_77).keep K_81 (allS ge_a_75 all0)).keep K_85 (allS ge_a_75 all0)).keep K_89 (allS ge_a_75 all0)).keep K_125 (allS ge_a_75 all0)).keep K_129 (allS ge_a_75 all0))
                exact rm_tail_3_1 hw p0 p1 p2 p3 p4 3 0 3 sv 1 a_75 60 sv cc [.int (bY ((60 : Int32) >>> (0 &&& 31))), .int (bY ((60 : Int32) >>> (8 &&& 31))), .int (bY (sv >>> (0 &&& 31))), .int (bY (sv >>> (8 &&& 31))), .int (bY (cc >>> (0 &&& 31))), .int (bY (cc >>> (8 &&& 31)))] h_128 f_141 cm f_142 f_131 (fun h a q1 q2 q3 q4 q5 q6 q7 q8 => rm_initB_3_1 hw a a_75 60 sv cc h q1 cm q2 q3 q4 q5 q6 q7 q8 (by refine ⟨?_, ?_, ?_⟩ <;> decide) ⟨ksv, hbig⟩ kcc) (fun h a b q1 q2 q3 q4 q5 q6 => rm_isStart_3_0_1 hw a b (bY ((60 : Int32) >>> (0 &&& 31))) (bY ((60 : Int32) >>> (8 &&& 31))) (bY (sv >>> (0 &&& 31))) (bY (sv >>> (8 &&& 31))) (bY (cc >>> (0 &&& 31))) (bY (cc >>> (8 &&& 31))) sv h q1 cm q2 q3 q4 q5 q6 (own_gc (c := 60) (by decide)) (own_gc (c := sv) ksv) ksv) (fun r _ r1 => r1 hb_132 hb_135 hb_138) B C
              · show Go _ _ _ _ 1 3 226 _ []
                have f_143 := (lT (lT (lT (lT (lT (lT Z0 E_77.1) K_81.1) K_85.1) K_89.1) K_125.1) K_129.1)
                have f_144 := ((((((O.ext E_77).keep K_81 (allS ge_a_75 all0)).keep K_85 (allS ge_a_75 all0)).keep K_89 (allS ge_a_75 all0)).keep K_125 (allS ge_a_75 all0)).keep K_129 (allS ge_a_75 all0))
                exact rm_tail_3_0 hw p0 p1 p2 p3 p4 3 0 3 sv 1 a_75 60 sv cc [.int (bY 60), .int (bY sv), .int (bY cc)] h_128 f_143 cm f_144 f_131 (fun h a q1 q2 q3 q4 q5 q6 q7 q8 => rm_init1_3 hw a a_75 60 sv cc h q1 cm q2 q3 q4 q5 q6 q7 q8 (by refine ⟨?_, ?_, ?_⟩ <;> decide) ⟨ksv, hbig, own_chof ksv⟩ kcc) (fun h a b q1 q2 q3 q4 q5 q6 => rm_isStart_3_0_0 hw a b (bY 60) (bY sv) (bY cc) sv h q1 cm q2 q3 q4 q5 q6 (own_l1 (c := 60) (by decide) (by decide)) (own_l1 (c := sv) ksv (show Ch sv from ⟨ksv, hbig, own_chof ksv⟩).2.1) ksv) (fun r _ r1 => r1 hb_132 hb_135 hb_138) B C
    · subst i_72e
      show Go _ _ _ _ 0 0 16 _ [(.int 1)]
      refine iS C at_16 (#[iV p0, iV p1, iV p2, iV p3, iV p4, iV 3, iV 1, uV, uV, uV, uV]) rfl <| iL C 3 at_18 rfl <| ynewarray C (oW hw 1 rfl) (ty := .char) rfl (by decide) (cap := 3) (by decide) (by decide) (by decide) (by decide) at_20 ?_
      intro h_145 a_146 g_147 E_148 A_149
      have ge_a_146 : n0 ≤ a_146 := lT Z0 (lE g_147.symm)
      have gs_a_146 : h0.size ≤ a_146 := lT (Nat.le_refl h0.size) (lE g_147.symm)
      have f_150 : Ary Z h_145 a_146 .char [(.int 0), (.int 0), (.int 0)] := A_149
      show Go _ _ _ _ 1 3 22 _ [(.ref a_146)]
      refine aS C at_22 (#[iV p0, iV p1, iV p2, iV p3, iV p4, iV 3, iV 1, aV a_146, uV, uV, uV]) rfl rfl <| aL C ((.ref a_146)) at_24 rfl rfl <| iC C 0 at_26 rfl <| iN C p2 at_27 rfl <| iP C 255 at_28 rfl <| yiand C at_31 <| yi2c C at_32 ?_
      rw [i2c_mask p2]
      obtain ⟨ca, eca⟩ : ∃ z : Int32, z = (p2 &&& 255) := ⟨_, rfl⟩
      have kca : Ch ca := by rw [eca]; exact own_chM p2
      rw [← eca]
      refine ycastore C f_150 (by decide) (i := 0) (by decide) (show 0 < 3 by decide) (w := (.int ca)) (congrArg Value.int kca.1) ge_a_146 at_33 ?_
      intro h_151 K_152 A_153
      have f_154 : Ary Z h_151 a_146 .char [(.int ca), (.int 0), (.int 0)] := A_153
      refine aL C ((.ref a_146)) at_34 rfl rfl <| iC C 1 at_36 rfl <| iN C p2 at_37 rfl <| iB C 8 at_38 rfl <| yiushr C at_40 <| iP C 255 at_41 rfl <| yiand C at_44 <| yi2c C at_45 ?_
      rw [i2c_mask (XT.ushr p2 8)]
      obtain ⟨cb, ecb⟩ : ∃ z : Int32, z = ((XT.ushr p2 8) &&& 255) := ⟨_, rfl⟩
      have kcb : Ch cb := by rw [ecb]; exact own_chM (XT.ushr p2 8)
      rw [← ecb]
      refine ycastore C f_154 (by decide) (i := 1) (by decide) (show 1 < 3 by decide) (w := (.int cb)) (congrArg Value.int kcb.1) ge_a_146 at_46 ?_
      intro h_155 K_156 A_157
      have f_158 : Ary Z h_155 a_146 .char [(.int ca), (.int cb), (.int 0)] := A_157
      refine iL C 3 at_47 rfl <| iC C 2 at_49 rfl <| yicmp_n C at_50 (XT.ii_le_f (by decide)) <| aL C ((.ref a_146)) at_53 rfl rfl <| iC C 2 at_55 rfl <| iN C p2 at_56 rfl <| iB C 16 at_57 rfl <| yiushr C at_59 <| iP C 255 at_60 rfl <| yiand C at_63 <| yi2c C at_64 ?_
      rw [i2c_mask (XT.ushr p2 16)]
      obtain ⟨cc, ecc⟩ : ∃ z : Int32, z = ((XT.ushr p2 16) &&& 255) := ⟨_, rfl⟩
      have kcc : Ch cc := by rw [ecc]; exact own_chM (XT.ushr p2 16)
      rw [← ecc]
      refine ycastore C f_158 (by decide) (i := 2) (by decide) (show 2 < 3 by decide) (w := (.int cc)) (congrArg Value.int kcc.1) ge_a_146 at_65 ?_
      intro h_159 K_160 A_161
      have f_162 : Ary Z h_159 a_146 .char [(.int ca), (.int cb), (.int cc)] := A_161
      refine iL C 3 at_66 rfl <| iC C 3 at_68 rfl <| cY C at_69 (XT.ii_le_t (by decide)) 85 (by decide) <| iL C 3 at_85 rfl <| iC C 4 at_87 rfl <| cY C at_88 (XT.ii_le_t (by decide)) 101 (by decide) <| iL C p4 at_101 rfl <| iB C 16 at_103 rfl <| yiushr C at_105 <| iC C 3 at_106 rfl <| yiand C at_107 ?_
      obtain ⟨i_163, hi_164⟩ : ∃ z : Int32, z = ((XT.ushr p4 16) &&& 3) := ⟨_, rfl⟩
      rw [← hi_164]
      rcases own_split4 i_163 (by rw [hi_164]; exact (own_m3 _).1) (by rw [hi_164]; exact (own_m3 _).2) with i_163e | i_163e | i_163e | i_163e
      · subst i_163e
        show Go _ _ _ _ 1 3 108 _ [(.int 0)]
        refine iS C at_108 (#[iV p0, iV p1, iV p2, iV p3, iV p4, iV 3, iV 1, aV a_146, iV 0, uV, uV]) rfl <| iL C 0 at_110 rfl <| yif_n C at_112 (XT.i0_ne_f (by decide)) <| iB C 47 at_115 rfl <| iS C at_117 (#[iV p0, iV p1, iV p2, iV p3, iV p4, iV 3, iV 1, aV a_146, iV 0, iV 47, uV]) rfl <| gT C at_119 156 (by decide) <| aL C ((.ref a_146)) at_156 rfl rfl <| iL C 1 at_158 rfl <| iB C 60 at_160 rfl <| ycastore C f_162 (by decide) (i := 1) (by decide) (show 1 < 3 by decide) (w := (.int 60)) rfl ge_a_146 at_162 ?_
        intro h_165 K_166 A_167
        have f_168 : Ary Z h_165 a_146 .char [(.int ca), (.int 60), (.int cc)] := A_167
        refine aL C ((.ref a_146)) at_163 rfl rfl <| iL C 1 at_165 rfl <| iC C 1 at_167 rfl <| yiadd C at_168 <| eS [(.int 2), (.ref a_146)] rfl <| iL C 47 at_169 rfl <| ycastore C f_168 (by decide) (i := 2) (by decide) (show 2 < 3 by decide) (w := (.int 47)) rfl ge_a_146 at_171 ?_
        intro h_169 K_170 A_171
        have f_172 : Ary Z h_169 a_146 .char [(.int ca), (.int 60), (.int 47)] := A_171
        refine iL C 0 at_172 rfl <| iC C 3 at_174 rfl <| yicmp_n C at_175 (XT.ii_eq_f (by decide)) <| iC C 0 at_178 rfl <| iS C at_179 (#[iV p0, iV p1, iV p2, iV p3, iV p4, iV 3, iV 1, aV a_146, iV 0, iV 47, iV 0]) rfl <| gT C at_181 226 (by decide) ?_
        have f_173 := (lT (lT (lT (lT (lT (lT Z0 E_148.1) K_152.1) K_156.1) K_160.1) K_166.1) K_170.1)
        have f_174 := ((((((O.ext E_148).keep K_152 (allS ge_a_146 all0)).keep K_156 (allS ge_a_146 all0)).keep K_160 (allS ge_a_146 all0)).keep K_166 (allS ge_a_146 all0)).keep K_170 (allS ge_a_146 all0))
        exact rm_tail_3_0 hw p0 p1 p2 p3 p4 3 1 0 47 0 a_146 ca 60 47 [.int (bY ca), .int (bY 60), .int (bY 47)] h_169 f_173 cm f_174 f_172 (fun h a q1 q2 q3 q4 q5 q6 q7 q8 => rm_init1_3 hw a a_146 ca 60 47 h q1 cm q2 q3 q4 q5 q6 q7 q8 kca (by refine ⟨?_, ?_, ?_⟩ <;> decide) (by refine ⟨?_, ?_, ?_⟩ <;> decide)) (fun h a b q1 q2 q3 q4 q5 q6 => rm_isStart_3_1_0 hw a b (bY ca) (bY 60) (bY 47) 47 h q1 cm q2 q3 q4 q5 q6 (own_l1 (c := 60) (by decide) (by decide)) (own_l1 (c := 47) (by decide) (by decide)) (by decide)) (fun r r0 _ => r0 (Or.inl rfl)) B C
      · subst i_163e
        show Go _ _ _ _ 1 3 108 _ [(.int 1)]
        refine iS C at_108 (#[iV p0, iV p1, iV p2, iV p3, iV p4, iV 3, iV 1, aV a_146, iV 1, uV, uV]) rfl <| iL C 1 at_110 rfl <| fY C at_112 (XT.i0_ne_t (by decide)) 122 (by decide) <| iL C 1 at_122 rfl <| iC C 1 at_124 rfl <| yicmp_n C at_125 (XT.ii_ne_f (by decide)) <| iB C 33 at_128 rfl <| iS C at_130 (#[iV p0, iV p1, iV p2, iV p3, iV p4, iV 3, iV 1, aV a_146, iV 1, iV 33, uV]) rfl <| gT C at_132 156 (by decide) <| aL C ((.ref a_146)) at_156 rfl rfl <| iL C 1 at_158 rfl <| iB C 60 at_160 rfl <| ycastore C f_162 (by decide) (i := 1) (by decide) (show 1 < 3 by decide) (w := (.int 60)) rfl ge_a_146 at_162 ?_
        intro h_175 K_176 A_177
        have f_178 : Ary Z h_175 a_146 .char [(.int ca), (.int 60), (.int cc)] := A_177
        refine aL C ((.ref a_146)) at_163 rfl rfl <| iL C 1 at_165 rfl <| iC C 1 at_167 rfl <| yiadd C at_168 <| eS [(.int 2), (.ref a_146)] rfl <| iL C 33 at_169 rfl <| ycastore C f_178 (by decide) (i := 2) (by decide) (show 2 < 3 by decide) (w := (.int 33)) rfl ge_a_146 at_171 ?_
        intro h_179 K_180 A_181
        have f_182 : Ary Z h_179 a_146 .char [(.int ca), (.int 60), (.int 33)] := A_181
        refine iL C 1 at_172 rfl <| iC C 3 at_174 rfl <| yicmp_n C at_175 (XT.ii_eq_f (by decide)) <| iC C 0 at_178 rfl <| iS C at_179 (#[iV p0, iV p1, iV p2, iV p3, iV p4, iV 3, iV 1, aV a_146, iV 1, iV 33, iV 0]) rfl <| gT C at_181 226 (by decide) ?_
        have f_183 := (lT (lT (lT (lT (lT (lT Z0 E_148.1) K_152.1) K_156.1) K_160.1) K_176.1) K_180.1)
        have f_184 := ((((((O.ext E_148).keep K_152 (allS ge_a_146 all0)).keep K_156 (allS ge_a_146 all0)).keep K_160 (allS ge_a_146 all0)).keep K_176 (allS ge_a_146 all0)).keep K_180 (allS ge_a_146 all0))
        exact rm_tail_3_0 hw p0 p1 p2 p3 p4 3 1 1 33 0 a_146 ca 60 33 [.int (bY ca), .int (bY 60), .int (bY 33)] h_179 f_183 cm f_184 f_182 (fun h a q1 q2 q3 q4 q5 q6 q7 q8 => rm_init1_3 hw a a_146 ca 60 33 h q1 cm q2 q3 q4 q5 q6 q7 q8 kca (by refine ⟨?_, ?_, ?_⟩ <;> decide) (by refine ⟨?_, ?_, ?_⟩ <;> decide)) (fun h a b q1 q2 q3 q4 q5 q6 => rm_isStart_3_1_0 hw a b (bY ca) (bY 60) (bY 33) 33 h q1 cm q2 q3 q4 q5 q6 (own_l1 (c := 60) (by decide) (by decide)) (own_l1 (c := 33) (by decide) (by decide)) (by decide)) (fun r r0 _ => r0 (Or.inr (Or.inl rfl))) B C
      · subst i_163e
        show Go _ _ _ _ 1 3 108 _ [(.int 2)]
        refine iS C at_108 (#[iV p0, iV p1, iV p2, iV p3, iV p4, iV 3, iV 1, aV a_146, iV 2, uV, uV]) rfl <| iL C 2 at_110 rfl <| fY C at_112 (XT.i0_ne_t (by decide)) 122 (by decide) <| iL C 2 at_122 rfl <| iC C 1 at_124 rfl <| cY C at_125 (XT.ii_ne_t (by decide)) 135 (by decide) <| iL C 2 at_135 rfl <| iC C 2 at_137 rfl <| yicmp_n C at_138 (XT.ii_ne_f (by decide)) <| iB C 63 at_141 rfl <| iS C at_143 (#[iV p0, iV p1, iV p2, iV p3, iV p4, iV 3, iV 1, aV a_146, iV 2, iV 63, uV]) rfl <| gT C at_145 156 (by decide) <| aL C ((.ref a_146)) at_156 rfl rfl <| iL C 1 at_158 rfl <| iB C 60 at_160 rfl <| ycastore C f_162 (by decide) (i := 1) (by decide) (show 1 < 3 by decide) (w := (.int 60)) rfl ge_a_146 at_162 ?_
        intro h_185 K_186 A_187
        have f_188 : Ary Z h_185 a_146 .char [(.int ca), (.int 60), (.int cc)] := A_187
        refine aL C ((.ref a_146)) at_163 rfl rfl <| iL C 1 at_165 rfl <| iC C 1 at_167 rfl <| yiadd C at_168 <| eS [(.int 2), (.ref a_146)] rfl <| iL C 63 at_169 rfl <| ycastore C f_188 (by decide) (i := 2) (by decide) (show 2 < 3 by decide) (w := (.int 63)) rfl ge_a_146 at_171 ?_
        intro h_189 K_190 A_191
        have f_192 : Ary Z h_189 a_146 .char [(.int ca), (.int 60), (.int 63)] := A_191
        refine iL C 2 at_172 rfl <| iC C 3 at_174 rfl <| yicmp_n C at_175 (XT.ii_eq_f (by decide)) <| iC C 0 at_178 rfl <| iS C at_179 (#[iV p0, iV p1, iV p2, iV p3, iV p4, iV 3, iV 1, aV a_146, iV 2, iV 63, iV 0]) rfl <| gT C at_181 226 (by decide) ?_
        have f_193 := (lT (lT (lT (lT (lT (lT Z0 E_148.1) K_152.1) K_156.1) K_160.1) K_186.1) K_190.1)
        have f_194 := ((((((O.ext E_148).keep K_152 (allS ge_a_146 all0)).keep K_156 (allS ge_a_146 all0)).keep K_160 (allS ge_a_146 all0)).keep K_186 (allS ge_a_146 all0)).keep K_190 (allS ge_a_146 all0))
        exact rm_tail_3_0 hw p0 p1 p2 p3 p4 3 1 2 63 0 a_146 ca 60 63 [.int (bY ca), .int (bY 60), .int (bY 63)] h_189 f_193 cm f_194 f_192 (fun h a q1 q2 q3 q4 q5 q6 q7 q8 => rm_init1_3 hw a a_146 ca 60 63 h q1 cm q2 q3 q4 q5 q6 q7 q8 kca (by refine ⟨?_, ?_, ?_⟩ <;> decide) (by refine ⟨?_, ?_, ?_⟩ <;> decide)) (fun h a b q1 q2 q3 q4 q5 q6 => rm_isStart_3_1_0 hw a b (bY ca) (bY 60) (bY 63) 63 h q1 cm q2 q3 q4 q5 q6 (own_l1 (c := 60) (by decide) (by decide)) (own_l1 (c := 63) (by decide) (by decide)) (by decide)) (fun r r0 _ => r0 (Or.inr (Or.inr rfl))) B C
      · subst i_163e
        show Go _ _ _ _ 1 3 108 _ [(.int 3)]
        refine iS C at_108 (#[iV p0, iV p1, iV p2, iV p3, iV p4, iV 3, iV 1, aV a_146, iV 3, uV, uV]) rfl <| iL C 3 at_110 rfl <| fY C at_112 (XT.i0_ne_t (by decide)) 122 (by decide) <| iL C 3 at_122 rfl <| iC C 1 at_124 rfl <| cY C at_125 (XT.ii_ne_t (by decide)) 135 (by decide) <| iL C 3 at_135 rfl <| iC C 2 at_137 rfl <| cY C at_138 (XT.ii_ne_t (by decide)) 148 (by decide) <| iL C p4 at_148 rfl <| yldc C (v := 65535) (oW hw 70 rfl) at_150 <| yiand C at_152 <| yi2c C at_153 ?_
        obtain ⟨sv, esv⟩ : ∃ z : Int32, z = (UInt32.toInt32 (UInt16.toUInt32 (UInt32.toUInt16 (Int32.toUInt32 (p4 &&& 65535))))) := ⟨_, rfl⟩
        have ksv : nar .char sv = sv := by rw [esv]; exact own_nari2c _
        rw [← esv]
        refine iS C at_154 (#[iV p0, iV p1, iV p2, iV p3, iV p4, iV 3, iV 1, aV a_146, iV 3, iV sv, uV]) rfl <| aL C ((.ref a_146)) at_156 rfl rfl <| iL C 1 at_158 rfl <| iB C 60 at_160 rfl <| ycastore C f_162 (by decide) (i := 1) (by decide) (show 1 < 3 by decide) (w := (.int 60)) rfl ge_a_146 at_162 ?_
        intro h_195 K_196 A_197
        have f_198 : Ary Z h_195 a_146 .char [(.int ca), (.int 60), (.int cc)] := A_197
        refine aL C ((.ref a_146)) at_163 rfl rfl <| iL C 1 at_165 rfl <| iC C 1 at_167 rfl <| yiadd C at_168 <| eS [(.int 2), (.ref a_146)] rfl <| iL C sv at_169 rfl <| ycastore C f_198 (by decide) (i := 2) (by decide) (show 2 < 3 by decide) (w := (.int sv)) (congrArg Value.int ksv) ge_a_146 at_171 ?_
        intro h_199 K_200 A_201
        have f_202 : Ary Z h_199 a_146 .char [(.int ca), (.int 60), (.int sv)] := A_201
        refine iL C 3 at_172 rfl <| iC C 3 at_174 rfl <| cY C at_175 (XT.ii_eq_t (by decide)) 184 (by decide) <| iL C sv at_184 rfl <| iB C 47 at_186 rfl ?_
        by_cases hb_203 : sv = 47
        · refine yicmp_n C at_188 (XT.ii_ne_f hb_203) <| iC C 0 at_191 rfl <| iS C at_192 (#[iV p0, iV p1, iV p2, iV p3, iV p4, iV 3, iV 1, aV a_146, iV 3, iV sv, iV 0]) rfl <| gT C at_194 226 (by decide) ?_
          have f_204 := (lT (lT (lT (lT (lT (lT Z0 E_148.1) K_152.1) K_156.1) K_160.1) K_196.1) K_200.1)
          have f_205 := ((((((O.ext E_148).keep K_152 (allS ge_a_146 all0)).keep K_156 (allS ge_a_146 all0)).keep K_160 (allS ge_a_146 all0)).keep K_196 (allS ge_a_146 all0)).keep K_200 (allS ge_a_146 all0))
          exact rm_tail_3_0 hw p0 p1 p2 p3 p4 3 1 3 sv 0 a_146 ca 60 sv [.int (bY ca), .int (bY 60), .int (bY sv)] h_199 f_204 cm f_205 f_202 (fun h a q1 q2 q3 q4 q5 q6 q7 q8 => rm_init1_3 hw a a_146 ca 60 sv h q1 cm q2 q3 q4 q5 q6 q7 q8 kca (by refine ⟨?_, ?_, ?_⟩ <;> decide) ⟨ksv, (by rw [hb_203]; decide), own_chof ksv⟩) (fun h a b q1 q2 q3 q4 q5 q6 => rm_isStart_3_1_0 hw a b (bY ca) (bY 60) (bY sv) sv h q1 cm q2 q3 q4 q5 q6 (own_l1 (c := 60) (by decide) (by decide)) (own_l1 (c := sv) ksv (show Ch sv from ⟨ksv, (by rw [hb_203]; decide), own_chof ksv⟩).2.1) ksv) (fun r r0 _ => r0 (Or.inl hb_203)) B C
        · refine cY C at_188 (XT.ii_ne_t hb_203) 197 (by decide) <| iL C sv at_197 rfl <| iB C 33 at_199 rfl ?_
          by_cases hb_206 : sv = 33
          · refine yicmp_n C at_201 (XT.ii_ne_f hb_206) <| iC C 0 at_204 rfl <| iS C at_205 (#[iV p0, iV p1, iV p2, iV p3, iV p4, iV 3, iV 1, aV a_146, iV 3, iV sv, iV 0]) rfl <| gT C at_207 226 (by decide) ?_
            have f_207 := (lT (lT (lT (lT (lT (lT Z0 E_148.1) K_152.1) K_156.1) K_160.1) K_196.1) K_200.1)
            have f_208 := ((((((O.ext E_148).keep K_152 (allS ge_a_146 all0)).keep K_156 (allS ge_a_146 all0)).keep K_160 (allS ge_a_146 all0)).keep K_196 (allS ge_a_146 all0)).keep K_200 (allS ge_a_146 all0))
            exact rm_tail_3_0 hw p0 p1 p2 p3 p4 3 1 3 sv 0 a_146 ca 60 sv [.int (bY ca), .int (bY 60), .int (bY sv)] h_199 f_207 cm f_208 f_202 (fun h a q1 q2 q3 q4 q5 q6 q7 q8 => rm_init1_3 hw a a_146 ca 60 sv h q1 cm q2 q3 q4 q5 q6 q7 q8 kca (by refine ⟨?_, ?_, ?_⟩ <;> decide) ⟨ksv, (by rw [hb_206]; decide), own_chof ksv⟩) (fun h a b q1 q2 q3 q4 q5 q6 => rm_isStart_3_1_0 hw a b (bY ca) (bY 60) (bY sv) sv h q1 cm q2 q3 q4 q5 q6 (own_l1 (c := 60) (by decide) (by decide)) (own_l1 (c := sv) ksv (show Ch sv from ⟨ksv, (by rw [hb_206]; decide), own_chof ksv⟩).2.1) ksv) (fun r r0 _ => r0 (Or.inr (Or.inl hb_206))) B C
          · refine cY C at_201 (XT.ii_ne_t hb_206) 210 (by decide) <| iL C sv at_210 rfl <| iB C 63 at_212 rfl ?_
            by_cases hb_209 : sv = 63
            · refine yicmp_n C at_214 (XT.ii_ne_f hb_209) <| iC C 0 at_217 rfl <| iS C at_218 (#[iV p0, iV p1, iV p2, iV p3, iV p4, iV 3, iV 1, aV a_146, iV 3, iV sv, iV 0]) rfl <| gT C at_220 226 (by decide) ?_
              have f_210 := (lT (lT (lT (lT (lT (lT Z0 E_148.1) K_152.1) K_156.1) K_160.1) K_196.1) K_200.1)
              have f_211 := ((((((O.ext E_148).keep K_152 (allS ge_a_146 all0)).keep K_156 (allS ge_a_146 all0)).keep K_160 (allS ge_a_146 all0)).keep K_196 (allS ge_a_146 all0)).keep K_200 (allS ge_a_146 all0))
              exact rm_tail_3_0 hw p0 p1 p2 p3 p4 3 1 3 sv 0 a_146 ca 60 sv [.int (bY ca), .int (bY 60), .int (bY sv)] h_199 f_210 cm f_211 f_202 (fun h a q1 q2 q3 q4 q5 q6 q7 q8 => rm_init1_3 hw a a_146 ca 60 sv h q1 cm q2 q3 q4 q5 q6 q7 q8 kca (by refine ⟨?_, ?_, ?_⟩ <;> decide) ⟨ksv, (by rw [hb_209]; decide), own_chof ksv⟩) (fun h a b q1 q2 q3 q4 q5 q6 => rm_isStart_3_1_0 hw a b (bY ca) (bY 60) (bY sv) sv h q1 cm q2 q3 q4 q5 q6 (own_l1 (c := 60) (by decide) (by decide)) (own_l1 (c := sv) ksv (show Ch sv from ⟨ksv, (by rw [hb_209]; decide), own_chof ksv⟩).2.1) ksv) (fun r r0 _ => r0 (Or.inr (Or.inr hb_209))) B C
            · refine cY C at_214 (XT.ii_ne_t hb_209) 223 (by decide) <| iC C 1 at_223 rfl <| iS C at_224 (#[iV p0, iV p1, iV p2, iV p3, iV p4, iV 3, iV 1, aV a_146, iV 3, iV sv, iV 1]) rfl ?_
              by_cases hbig : 255 < sv
              · show Go _ _ _ _ 1 3 226 _ []
                have f_212 := (lT (lT (lT (lT (lT (lT Z0 E_148.1) K_152.1) K_156.1) K_160.1) K_196.1) K_200.1)
                have f_213 := ((((((O.ext E_148).keep K_152 (allS ge_a_146 all0)).keep K_156 (allS ge_a_146 all0)).keep K_160 (allS ge_a_146 all0)).keep K_196 (allS ge_a_146 all0)).keep K_200 (allS ge_a_146 all0))
                exact rm_tail_3_1 hw p0 p1 p2 p3 p4 3 1 3 sv 1 a_146 ca 60 sv [.int (bY (ca >>> (0 &&& 31))), .int (bY (ca >>> (8 &&& 31))), .int (bY ((60 : Int32) >>> (0 &&& 31))), .int (bY ((60 : Int32) >>> (8 &&& 31))), .int (bY (sv >>> (0 &&& 31))), .int (bY (sv >>> (8 &&& 31)))] h_199 f_212 cm f_213 f_202 (fun h a q1 q2 q3 q4 q5 q6 q7 q8 => rm_initB_3_2 hw a a_146 ca 60 sv h q1 cm q2 q3 q4 q5 q6 q7 q8 kca (by refine ⟨?_, ?_, ?_⟩ <;> decide) ⟨ksv, hbig⟩) (fun h a b q1 q2 q3 q4 q5 q6 => rm_isStart_3_1_1 hw a b (bY (ca >>> (0 &&& 31))) (bY (ca >>> (8 &&& 31))) (bY ((60 : Int32) >>> (0 &&& 31))) (bY ((60 : Int32) >>> (8 &&& 31))) (bY (sv >>> (0 &&& 31))) (bY (sv >>> (8 &&& 31))) sv h q1 cm q2 q3 q4 q5 q6 (own_gc (c := 60) (by decide)) (own_gc (c := sv) ksv) ksv) (fun r _ r1 => r1 hb_203 hb_206 hb_209) B C
              · show Go _ _ _ _ 1 3 226 _ []
                have f_214 := (lT (lT (lT (lT (lT (lT Z0 E_148.1) K_152.1) K_156.1) K_160.1) K_196.1) K_200.1)
                have f_215 := ((((((O.ext E_148).keep K_152 (allS ge_a_146 all0)).keep K_156 (allS ge_a_146 all0)).keep K_160 (allS ge_a_146 all0)).keep K_196 (allS ge_a_146 all0)).keep K_200 (allS ge_a_146 all0))
                exact rm_tail_3_0 hw p0 p1 p2 p3 p4 3 1 3 sv 1 a_146 ca 60 sv [.int (bY ca), .int (bY 60), .int (bY sv)] h_199 f_214 cm f_215 f_202 (fun h a q1 q2 q3 q4 q5 q6 q7 q8 => rm_init1_3 hw a a_146 ca 60 sv h q1 cm q2 q3 q4 q5 q6 q7 q8 kca (by refine ⟨?_, ?_, ?_⟩ <;> decide) ⟨ksv, hbig, own_chof ksv⟩) (fun h a b q1 q2 q3 q4 q5 q6 => rm_isStart_3_1_0 hw a b (bY ca) (bY 60) (bY sv) sv h q1 cm q2 q3 q4 q5 q6 (own_l1 (c := 60) (by decide) (by decide)) (own_l1 (c := sv) ksv (show Ch sv from ⟨ksv, hbig, own_chof ksv⟩).2.1) ksv) (fun r _ r1 => r1 hb_203 hb_206 hb_209) B C
  · subst i_1e
    show Go _ _ _ _ 0 0 4 _ [(.int 2), (.int 2)]
    refine yiadd C at_4 <| eS [(.int 4)] rfl <| iS C at_5 (#[iV p0, iV p1, iV p2, iV p3, iV p4, iV 4, uV, uV, uV, uV, uV]) rfl <| iN C p1 at_7 rfl <| yldc C (v := 2147483647) (oW hw 0 rfl) at_8 <| yiand C at_10 <| iL C 4 at_11 rfl <| iC C 1 at_13 rfl <| yisub C at_14 <| eS [(.int 3), (.int (p1 &&& 2147483647))] rfl <| yirem C at_15 (by decide) ?_
    obtain ⟨i_216, hi_217⟩ : ∃ z : Int32, z = ((p1 &&& 2147483647) - ((p1 &&& 2147483647) / 3) * 3) := ⟨_, rfl⟩
    rw [← hi_217]
    rcases own_split3 i_216 (by rw [hi_217]; exact (own_rem3 (own_nn p1)).1) (by rw [hi_217]; exact (own_rem3 (own_nn p1)).2) with i_216e | i_216e | i_216e
    · subst i_216e
      show Go _ _ _ _ 0 0 16 _ [(.int 0)]
      refine iS C at_16 (#[iV p0, iV p1, iV p2, iV p3, iV p4, iV 4, iV 0, uV, uV, uV, uV]) rfl <| iL C 4 at_18 rfl <| ynewarray C (oW hw 1 rfl) (ty := .char) rfl (by decide) (cap := 4) (by decide) (by decide) (by decide) (by decide) at_20 ?_
      intro h_218 a_219 g_220 E_221 A_222
      have ge_a_219 : n0 ≤ a_219 := lT Z0 (lE g_220.symm)
      have gs_a_219 : h0.size ≤ a_219 := lT (Nat.le_refl h0.size) (lE g_220.symm)
      have f_223 : Ary Z h_218 a_219 .char [(.int 0), (.int 0), (.int 0), (.int 0)] := A_222
      show Go _ _ _ _ 1 4 22 _ [(.ref a_219)]
      refine aS C at_22 (#[iV p0, iV p1, iV p2, iV p3, iV p4, iV 4, iV 0, aV a_219, uV, uV, uV]) rfl rfl <| aL C ((.ref a_219)) at_24 rfl rfl <| iC C 0 at_26 rfl <| iN C p2 at_27 rfl <| iP C 255 at_28 rfl <| yiand C at_31 <| yi2c C at_32 ?_
      rw [i2c_mask p2]
      obtain ⟨ca, eca⟩ : ∃ z : Int32, z = (p2 &&& 255) := ⟨_, rfl⟩
      have kca : Ch ca := by rw [eca]; exact own_chM p2
      rw [← eca]
      refine ycastore C f_223 (by decide) (i := 0) (by decide) (show 0 < 4 by decide) (w := (.int ca)) (congrArg Value.int kca.1) ge_a_219 at_33 ?_
      intro h_224 K_225 A_226
      have f_227 : Ary Z h_224 a_219 .char [(.int ca), (.int 0), (.int 0), (.int 0)] := A_226
      refine aL C ((.ref a_219)) at_34 rfl rfl <| iC C 1 at_36 rfl <| iN C p2 at_37 rfl <| iB C 8 at_38 rfl <| yiushr C at_40 <| iP C 255 at_41 rfl <| yiand C at_44 <| yi2c C at_45 ?_
      rw [i2c_mask (XT.ushr p2 8)]
      obtain ⟨cb, ecb⟩ : ∃ z : Int32, z = ((XT.ushr p2 8) &&& 255) := ⟨_, rfl⟩
      have kcb : Ch cb := by rw [ecb]; exact own_chM (XT.ushr p2 8)
      rw [← ecb]
      refine ycastore C f_227 (by decide) (i := 1) (by decide) (show 1 < 4 by decide) (w := (.int cb)) (congrArg Value.int kcb.1) ge_a_219 at_46 ?_
      intro h_228 K_229 A_230
      have f_231 : Ary Z h_228 a_219 .char [(.int ca), (.int cb), (.int 0), (.int 0)] := A_230
      refine iL C 4 at_47 rfl <| iC C 2 at_49 rfl <| yicmp_n C at_50 (XT.ii_le_f (by decide)) <| aL C ((.ref a_219)) at_53 rfl rfl <| iC C 2 at_55 rfl <| iN C p2 at_56 rfl <| iB C 16 at_57 rfl <| yiushr C at_59 <| iP C 255 at_60 rfl <| yiand C at_63 <| yi2c C at_64 ?_
      rw [i2c_mask (XT.ushr p2 16)]
      obtain ⟨cc, ecc⟩ : ∃ z : Int32, z = ((XT.ushr p2 16) &&& 255) := ⟨_, rfl⟩
      have kcc : Ch cc := by rw [ecc]; exact own_chM (XT.ushr p2 16)
      rw [← ecc]
      refine ycastore C f_231 (by decide) (i := 2) (by decide) (show 2 < 4 by decide) (w := (.int cc)) (congrArg Value.int kcc.1) ge_a_219 at_65 ?_
      intro h_232 K_233 A_234
      have f_235 : Ary Z h_232 a_219 .char [(.int ca), (.int cb), (.int cc), (.int 0)] := A_234
      refine iL C 4 at_66 rfl <| iC C 3 at_68 rfl <| yicmp_n C at_69 (XT.ii_le_f (by decide)) <| aL C ((.ref a_219)) at_72 rfl rfl <| iC C 3 at_74 rfl <| iN C p2 at_75 rfl <| iB C 24 at_76 rfl <| yiushr C at_78 <| iP C 255 at_79 rfl <| yiand C at_82 <| yi2c C at_83 ?_
      rw [i2c_mask (XT.ushr p2 24)]
      obtain ⟨cd, ecd⟩ : ∃ z : Int32, z = ((XT.ushr p2 24) &&& 255) := ⟨_, rfl⟩
      have kcd : Ch cd := by rw [ecd]; exact own_chM (XT.ushr p2 24)
      rw [← ecd]
      refine ycastore C f_235 (by decide) (i := 3) (by decide) (show 3 < 4 by decide) (w := (.int cd)) (congrArg Value.int kcd.1) ge_a_219 at_84 ?_
      intro h_236 K_237 A_238
      have f_239 : Ary Z h_236 a_219 .char [(.int ca), (.int cb), (.int cc), (.int cd)] := A_238
      refine iL C 4 at_85 rfl <| iC C 4 at_87 rfl <| cY C at_88 (XT.ii_le_t (by decide)) 101 (by decide) <| iL C p4 at_101 rfl <| iB C 16 at_103 rfl <| yiushr C at_105 <| iC C 3 at_106 rfl <| yiand C at_107 ?_
      obtain ⟨i_240, hi_241⟩ : ∃ z : Int32, z = ((XT.ushr p4 16) &&& 3) := ⟨_, rfl⟩
      rw [← hi_241]
      rcases own_split4 i_240 (by rw [hi_241]; exact (own_m3 _).1) (by rw [hi_241]; exact (own_m3 _).2) with i_240e | i_240e | i_240e | i_240e
      · subst i_240e
        show Go _ _ _ _ 1 4 108 _ [(.int 0)]
        refine iS C at_108 (#[iV p0, iV p1, iV p2, iV p3, iV p4, iV 4, iV 0, aV a_219, iV 0, uV, uV]) rfl <| iL C 0 at_110 rfl <| yif_n C at_112 (XT.i0_ne_f (by decide)) <| iB C 47 at_115 rfl <| iS C at_117 (#[iV p0, iV p1, iV p2, iV p3, iV p4, iV 4, iV 0, aV a_219, iV 0, iV 47, uV]) rfl <| gT C at_119 156 (by decide) <| aL C ((.ref a_219)) at_156 rfl rfl <| iL C 0 at_158 rfl <| iB C 60 at_160 rfl <| ycastore C f_239 (by decide) (i := 0) (by decide) (show 0 < 4 by decide) (w := (.int 60)) rfl ge_a_219 at_162 ?_
        intro h_242 K_243 A_244
        have f_245 : Ary Z h_242 a_219 .char [(.int 60), (.int cb), (.int cc), (.int cd)] := A_244
        refine aL C ((.ref a_219)) at_163 rfl rfl <| iL C 0 at_165 rfl <| iC C 1 at_167 rfl <| yiadd C at_168 <| eS [(.int 1), (.ref a_219)] rfl <| iL C 47 at_169 rfl <| ycastore C f_245 (by decide) (i := 1) (by decide) (show 1 < 4 by decide) (w := (.int 47)) rfl ge_a_219 at_171 ?_
        intro h_246 K_247 A_248
        have f_249 : Ary Z h_246 a_219 .char [(.int 60), (.int 47), (.int cc), (.int cd)] := A_248
        refine iL C 0 at_172 rfl <| iC C 3 at_174 rfl <| yicmp_n C at_175 (XT.ii_eq_f (by decide)) <| iC C 0 at_178 rfl <| iS C at_179 (#[iV p0, iV p1, iV p2, iV p3, iV p4, iV 4, iV 0, aV a_219, iV 0, iV 47, iV 0]) rfl <| gT C at_181 226 (by decide) ?_
        have f_250 := (lT (lT (lT (lT (lT (lT (lT Z0 E_221.1) K_225.1) K_229.1) K_233.1) K_237.1) K_243.1) K_247.1)
        have f_251 := (((((((O.ext E_221).keep K_225 (allS ge_a_219 all0)).keep K_229 (allS ge_a_219 all0)).keep K_233 (allS ge_a_219 all0)).keep K_237 (allS ge_a_219 all0)).keep K_243 (allS ge_a_219 all0)).keep K_247 (allS ge_a_219 all0))
        exact rm_tail_4_0 hw p0 p1 p2 p3 p4 4 0 0 47 0 a_219 60 47 cc cd [.int (bY 60), .int (bY 47), .int (bY cc), .int (bY cd)] h_246 f_250 cm f_251 f_249 (fun h a q1 q2 q3 q4 q5 q6 q7 q8 => rm_init1_4 hw a a_219 60 47 cc cd h q1 cm q2 q3 q4 q5 q6 q7 q8 (by refine ⟨?_, ?_, ?_⟩ <;> decide) (by refine ⟨?_, ?_, ?_⟩ <;> decide) kcc kcd) (fun h a b q1 q2 q3 q4 q5 q6 => rm_isStart_4_0_0 hw a b (bY 60) (bY 47) (bY cc) (bY cd) 47 h q1 cm q2 q3 q4 q5 q6 (own_l1 (c := 60) (by decide) (by decide)) (own_l1 (c := 47) (by decide) (by decide)) (by decide)) (fun r r0 _ => r0 (Or.inl rfl)) B C
      · subst i_240e
        show Go _ _ _ _ 1 4 108 _ [(.int 1)]
        refine iS C at_108 (#[iV p0, iV p1, iV p2, iV p3, iV p4, iV 4, iV 0, aV a_219, iV 1, uV, uV]) rfl <| iL C 1 at_110 rfl <| fY C at_112 (XT.i0_ne_t (by decide)) 122 (by decide) <| iL C 1 at_122 rfl <| iC C 1 at_124 rfl <| yicmp_n C at_125 (XT.ii_ne_f (by decide)) <| iB C 33 at_128 rfl <| iS C at_130 (#[iV p0, iV p1, iV p2, iV p3, iV p4, iV 4, iV 0, aV a_219, iV 1, iV 33, uV]) rfl <| gT C at_132 156 (by decide) <| aL C ((.ref a_219)) at_156 rfl rfl <| iL C 0 at_158 rfl <| iB C 60 at_160 rfl <| ycastore C f_239 (by decide) (i := 0) (by decide) (show 0 < 4 by decide) (w := (.int 60)) rfl ge_a_219 at_162 ?_
        intro h_252 K_253 A_254
        have f_255 : Ary Z h_252 a_219 .char [(.int 60), (.int cb), (.int cc), (.int cd)] := A_254
        refine aL C ((.ref a_219)) at_163 rfl rfl <| iL C 0 at_165 rfl <| iC C 1 at_167 rfl <| yiadd C at_168 <| eS [(.int 1), (.ref a_219)] rfl <| iL C 33 at_169 rfl <| ycastore C f_255 (by decide) (i := 1) (by decide) (show 1 < 4 by decide) (w := (.int 33)) rfl ge_a_219 at_171 ?_
        intro h_256 K_257 A_258
        have f_259 : Ary Z h_256 a_219 .char [(.int 60), (.int 33), (.int cc), (.int cd)] := A_258
        refine iL C 1 at_172 rfl <| iC C 3 at_174 rfl <| yicmp_n C at_175 (XT.ii_eq_f (by decide)) <| iC C 0 at_178 rfl <| iS C at_179 (#[iV p0, iV p1, iV p2, iV p3, iV p4, iV 4, iV 0, aV a_219, iV 1, iV 33, iV 0]) rfl <| gT C at_181 226 (by decide) ?_
        have f_260 := (lT (lT (lT (lT (lT (lT (lT Z0 E_221.1) K_225.1) K_229.1) K_233.1) K_237.1) K_253.1) K_257.1)
        have f_261 := (((((((O.ext E_221).keep K_225 (allS ge_a_219 all0)).keep K_229 (allS ge_a_219 all0)).keep K_233 (allS ge_a_219 all0)).keep K_237 (allS ge_a_219 all0)).keep K_253 (allS ge_a_219 all0)).keep K_257 (allS ge_a_219 all0))
        exact rm_tail_4_0 hw p0 p1 p2 p3 p4 4 0 1 33 0 a_219 60 33 cc cd [.int (bY 60), .int (bY 33), .int (bY cc), .int (bY cd)] h_256 f_260 cm f_261 f_259 (fun h a q1 q2 q3 q4 q5 q6 q7 q8 => rm_init1_4 hw a a_219 60 33 cc cd h q1 cm q2 q3 q4 q5 q6 q7 q8 (by refine ⟨?_, ?_, ?_⟩ <;> decide) (by refine ⟨?_, ?_, ?_⟩ <;> decide) kcc kcd) (fun h a b q1 q2 q3 q4 q5 q6 => rm_isStart_4_0_0 hw a b (bY 60) (bY 33) (bY cc) (bY cd) 33 h q1 cm q2 q3 q4 q5 q6 (own_l1 (c := 60) (by decide) (by decide)) (own_l1 (c := 33) (by decide) (by decide)) (by decide)) (fun r r0 _ => r0 (Or.inr (Or.inl rfl))) B C
      · subst i_240e
        show Go _ _ _ _ 1 4 108 _ [(.int 2)]
        refine iS C at_108 (#[iV p0, iV p1, iV p2, iV p3, iV p4, iV 4, iV 0, aV a_219, iV 2, uV, uV]) rfl <| iL C 2 at_110 rfl <| fY C at_112 (XT.i0_ne_t (by decide)) 122 (by decide) <| iL C 2 at_122 rfl <| iC C 1 at_124 rfl <| cY C at_125 (XT.ii_ne_t (by decide)) 135 (by decide) <| iL C 2 at_135 rfl <| iC C 2 at_137 rfl <| yicmp_n C at_138 (XT.ii_ne_f (by decide)) <| iB C 63 at_141 rfl <| iS C at_143 (#[iV p0, iV p1, iV p2, iV p3, iV p4, iV 4, iV 0, aV a_219, iV 2, iV 63, uV]) rfl <| gT C at_145 156 (by decide) <| aL C ((.ref a_219)) at_156 rfl rfl <| iL C 0 at_158 rfl <| iB C 60 at_160 rfl <| ycastore C f_239 (by decide) (i := 0) (by decide) (show 0 < 4 by decide) (w := (.int 60)) rfl ge_a_219 at_162 ?_
        intro h_262 K_263 A_264
        have f_265 : Ary Z h_262 a_219 .char [(.int 60), (.int cb), (.int cc), (.int cd)] := A_264
        refine aL C ((.ref a_219)) at_163 rfl rfl <| iL C 0 at_165 rfl <| iC C 1 at_167 rfl <| yiadd C at_168 <| eS [(.int 1), (.ref a_219)] rfl <| iL C 63 at_169 rfl <| ycastore C f_265 (by decide) (i := 1) (by decide) (show 1 < 4 by decide) (w := (.int 63)) rfl ge_a_219 at_171 ?_
        intro h_266 K_267 A_268
        have f_269 : Ary Z h_266 a_219 .char [(.int 60), (.int 63), (.int cc), (.int cd)] := A_268
        refine iL C 2 at_172 rfl <| iC C 3 at_174 rfl <| yicmp_n C at_175 (XT.ii_eq_f (by decide)) <| iC C 0 at_178 rfl <| iS C at_179 (#[iV p0, iV p1, iV p2, iV p3, iV p4, iV 4, iV 0, aV a_219, iV 2, iV 63, iV 0]) rfl <| gT C at_181 226 (by decide) ?_
        have f_270 := (lT (lT (lT (lT (lT (lT (lT Z0 E_221.1) K_225.1) K_229.1) K_233.1) K_237.1) K_263.1) K_267.1)
        have f_271 := (((((((O.ext E_221).keep K_225 (allS ge_a_219 all0)).keep K_229 (allS ge_a_219 all0)).keep K_233 (allS ge_a_219 all0)).keep K_237 (allS ge_a_219 all0)).keep K_263 (allS ge_a_219 all0)).keep K_267 (allS ge_a_219 all0))
        exact rm_tail_4_0 hw p0 p1 p2 p3 p4 4 0 2 63 0 a_219 60 63 cc cd [.int (bY 60), .int (bY 63), .int (bY cc), .int (bY cd)] h_266 f_270 cm f_271 f_269 (fun h a q1 q2 q3 q4 q5 q6 q7 q8 => rm_init1_4 hw a a_219 60 63 cc cd h q1 cm q2 q3 q4 q5 q6 q7 q8 (by refine ⟨?_, ?_, ?_⟩ <;> decide) (by refine ⟨?_, ?_, ?_⟩ <;> decide) kcc kcd) (fun h a b q1 q2 q3 q4 q5 q6 => rm_isStart_4_0_0 hw a b (bY 60) (bY 63) (bY cc) (bY cd) 63 h q1 cm q2 q3 q4 q5 q6 (own_l1 (c := 60) (by decide) (by decide)) (own_l1 (c := 63) (by decide) (by decide)) (by decide)) (fun r r0 _ => r0 (Or.inr (Or.inr rfl))) B C
      · subst i_240e
        show Go _ _ _ _ 1 4 108 _ [(.int 3)]
        refine iS C at_108 (#[iV p0, iV p1, iV p2, iV p3, iV p4, iV 4, iV 0, aV a_219, iV 3, uV, uV]) rfl <| iL C 3 at_110 rfl <| fY C at_112 (XT.i0_ne_t (by decide)) 122 (by decide) <| iL C 3 at_122 rfl <| iC C 1 at_124 rfl <| cY C at_125 (XT.ii_ne_t (by decide)) 135 (by decide) <| iL C 3 at_135 rfl <| iC C 2 at_137 rfl <| cY C at_138 (XT.ii_ne_t (by decide)) 148 (by decide) <| iL C p4 at_148 rfl <| yldc C (v := 65535) (oW hw 70 rfl) at_150 <| yiand C at_152 <| yi2c C at_153 ?_
        obtain ⟨sv, esv⟩ : ∃ z : Int32, z = (UInt32.toInt32 (UInt16.toUInt32 (UInt32.toUInt16 (Int32.toUInt32 (p4 &&& 65535))))) := ⟨_, rfl⟩
        have ksv : nar .char sv = sv := by rw [esv]; exact own_nari2c _
        rw [← esv]
        refine iS C at_154 (#[iV p0, iV p1, iV p2, iV p3, iV p4, iV 4, iV 0, aV a_219, iV 3, iV sv, uV]) rfl <| aL C ((.ref a_219)) at_156 rfl rfl <| iL C 0 at_158 rfl <| iB C 60 at_160 rfl <| ycastore C f_239 (by decide) (i := 0) (by decide) (show 0 < 4 by decide) (w := (.int 60)) rfl ge_a_219 at_162 ?_
        intro h_272 K_273 A_274
        have f_275 : Ary Z h_272 a_219 .char [(.int 60), (.int cb), (.int cc), (.int cd)] := A_274
        refine aL C ((.ref a_219)) at_163 rfl rfl <| iL C 0 at_165 rfl <| iC C 1 at_167 rfl <| yiadd C at_168 <| eS [(.int 1), (.ref a_219)] rfl <| iL C sv at_169 rfl <| ycastore C f_275 (by decide) (i := 1) (by decide) (show 1 < 4 by decide) (w := (.int sv)) (congrArg Value.int ksv) ge_a_219 at_171 ?_
        intro h_276 K_277 A_278
        have f_279 : Ary Z h_276 a_219 .char [(.int 60), (.int sv), (.int cc), (.int cd)] := A_278
        refine iL C 3 at_172 rfl <| iC C 3 at_174 rfl <| cY C at_175 (XT.ii_eq_t (by decide)) 184 (by decide) <| iL C sv at_184 rfl <| iB C 47 at_186 rfl ?_
        by_cases hb_280 : sv = 47
        · refine yicmp_n C at_188 (XT.ii_ne_f hb_280) <| iC C 0 at_191 rfl <| iS C at_192 (#[iV p0, iV p1, iV p2, iV p3, iV p4, iV 4, iV 0, aV a_219, iV 3, iV sv, iV 0]) rfl <| gT C at_194 226 (by decide) ?_
          have f_281 := (lT (lT (lT (lT (lT (lT (lT Z0 E_221.1) K_225.1) K_229.1) K_233.1) K_237.1) K_273.1) K_277.1)
          have f_282 := (((((((O.ext E_221).keep K_225 (allS ge_a_219 all0)).keep K_229 (allS ge_a_219 all0)).keep K_233 (allS ge_a_219 all0)).keep K_237 (allS ge_a_219 all0)).keep K_273 (allS ge_a_219 all0)).keep K_277 (allS ge_a_219 all0))
          exact rm_tail_4_0 hw p0 p1 p2 p3 p4 4 0 3 sv 0 a_219 60 sv cc cd [.int (bY 60), .int (bY sv), .int (bY cc), .int (bY cd)] h_276 f_281 cm f_282 f_279 (fun h a q1 q2 q3 q4 q5 q6 q7 q8 => rm_init1_4 hw a a_219 60 sv cc cd h q1 cm q2 q3 q4 q5 q6 q7 q8 (by refine ⟨?_, ?_, ?_⟩ <;> decide) ⟨ksv, (by rw [hb_280]; decide), own_chof ksv⟩ kcc kcd) (fun h a b q1 q2 q3 q4 q5 q6 => rm_isStart_4_0_0 hw a b (bY 60) (bY sv) (bY cc) (bY cd) sv h q1 cm q2 q3 q4 q5 q6 (own_l1 (c := 60) (by decide) (by decide)) (own_l1 (c := sv) ksv (show Ch sv from ⟨ksv, (by rw [hb_280]; decide), own_chof ksv⟩).2.1) ksv) (fun r r0 _ => r0 (Or.inl hb_280)) B C
        · refine cY C at_188 (XT.ii_ne_t hb_280) 197 (by decide) <| iL C sv at_197 rfl <| iB C 33 at_199 rfl ?_
          by_cases hb_283 : sv = 33
          · refine yicmp_n C at_201 (XT.ii_ne_f hb_283) <| iC C 0 at_204 rfl <| iS C at_205 (#[iV p0, iV p1, iV p2, iV p3, iV p4, iV 4, iV 0, aV a_219, iV 3, iV sv, iV 0]) rfl <| gT C at_207 226 (by decide) ?_
            have f_284 := (lT (lT (lT (lT (lT (lT (lT Z0 E_221.1) K_225.1) K_229.1) K_233.1) K_237.1) K_273.1) K_277.1)
            have f_285 := (((((((O.ext E_221).keep K_225 (allS ge_a_219 all0)).keep K_229 (allS ge_a_219 all0)).keep K_233 (allS ge_a_219 all0)).keep K_237 (allS ge_a_219 all0)).keep K_273 (allS ge_a_219 all0)).keep K_277 (allS ge_a_219 all0))
            exact rm_tail_4_0 hw p0 p1 p2 p3 p4 4 0 3 sv 0 a_219 60 sv cc cd [.int (bY 60), .int (bY sv), .int (bY cc), .int (bY cd)] h_276 f_284 cm f_285 f_279 (fun h a q1 q2 q3 q4 q5 q6 q7 q8 => rm_init1_4 hw a a_219 60 sv cc cd h q1 cm q2 q3 q4 q5 q6 q7 q8 (by refine ⟨?_, ?_, ?_⟩ <;> decide) ⟨ksv, (by rw [hb_283]; decide), own_chof ksv⟩ kcc kcd) (fun h a b q1 q2 q3 q4 q5 q6 => rm_isStart_4_0_0 hw a b (bY 60) (bY sv) (bY cc) (bY cd) sv h q1 cm q2 q3 q4 q5 q6 (own_l1 (c := 60) (by decide) (by decide)) (own_l1 (c := sv) ksv (show Ch sv from ⟨ksv, (by rw [hb_283]; decide), own_chof ksv⟩).2.1) ksv) (fun r r0 _ => r0 (Or.inr (Or.inl hb_283))) B C
          · refine cY C at_201 (XT.ii_ne_t hb_283) 210 (by decide) <| iL C sv at_210 rfl <| iB C 63 at_212 rfl ?_
            by_cases hb_286 : sv = 63
            · refine yicmp_n C at_214 (XT.ii_ne_f hb_286) <| iC C 0 at_217 rfl <| iS C at_218 (#[iV p0, iV p1, iV p2, iV p3, iV p4, iV 4, iV 0, aV a_219, iV 3, iV sv, iV 0]) rfl <| gT C at_220 226 (by decide) ?_
              have f_287 := (lT (lT (lT (lT (lT (lT (lT Z0 E_221.1) K_225.1) K_229.1) K_233.1) K_237.1) K_273.1) K_277.1)
              have f_288 := (((((((O.ext E_221).keep K_225 (allS ge_a_219 all0)).keep K_229 (allS ge_a_219 all0)).keep K_233 (allS ge_a_219 all0)).keep K_237 (allS ge_a_219 all0)).keep K_273 (allS ge_a_219 all0)).keep K_277 (allS ge_a_219 all0))
              exact rm_tail_4_0 hw p0 p1 p2 p3 p4 4 0 3 sv 0 a_219 60 sv cc cd [.int (bY 60), .int (bY sv), .int (bY cc), .int (bY cd)] h_276 f_287 cm f_288 f_279 (fun h a q1 q2 q3 q4 q5 q6 q7 q8 => rm_init1_4 hw a a_219 60 sv cc cd h q1 cm q2 q3 q4 q5 q6 q7 q8 (by refine ⟨?_, ?_, ?_⟩ <;> decide) ⟨ksv, (by rw [hb_286]; decide), own_chof ksv⟩ kcc kcd) (fun h a b q1 q2 q3 q4 q5 q6 => rm_isStart_4_0_0 hw a b (bY 60) (bY sv) (bY cc) (bY cd) sv h q1 cm q2 q3 q4 q5 q6 (own_l1 (c := 60) (by decide) (by decide)) (own_l1 (c := sv) ksv (show Ch sv from ⟨ksv, (by rw [hb_286]; decide), own_chof ksv⟩).2.1) ksv) (fun r r0 _ => r0 (Or.inr (Or.inr hb_286))) B C
            · refine cY C at_214 (XT.ii_ne_t hb_286) 223 (by decide) <| iC C 1 at_223 rfl <| iS C at_224 (#[iV p0, iV p1, iV p2, iV p3, iV p4, iV 4, iV 0, aV a_219, iV 3, iV sv, iV 1]) rfl ?_
              by_cases hbig : 255 < sv
              · show Go _ _ _ _ 1 4 226 _ []
                have f_289 := (lT (lT (lT (lT (lT (lT (lT Z0 E_221.1) K_225.1) K_229.1) K_233.1) K_237.1) K_273.1) K_277.1)
                have f_290 := (((((((O.ext E_221).keep K_225 (allS ge_a_219 all0)).keep K_229 (allS ge_a_219 all0)).keep K_233 (allS ge_a_219 all0)).keep K_237 (allS ge_a_219 all0)).keep K_273 (allS ge_a_219 all0)).keep K_277 (allS ge_a_219 all0))
                exact rm_tail_4_1 hw p0 p1 p2 p3 p4 4 0 3 sv 1 a_219 60 sv cc cd [.int (bY ((60 : Int32) >>> (0 &&& 31))), .int (bY ((60 : Int32) >>> (8 &&& 31))), .int (bY (sv >>> (0 &&& 31))), .int (bY (sv >>> (8 &&& 31))), .int (bY (cc >>> (0 &&& 31))), .int (bY (cc >>> (8 &&& 31))), .int (bY (cd >>> (0 &&& 31))), .int (bY (cd >>> (8 &&& 31)))] h_276 f_289 cm f_290 f_279 (fun h a q1 q2 q3 q4 q5 q6 q7 q8 => rm_initB_4_1 hw a a_219 60 sv cc cd h q1 cm q2 q3 q4 q5 q6 q7 q8 (by refine ⟨?_, ?_, ?_⟩ <;> decide) ⟨ksv, hbig⟩ kcc kcd) (fun h a b q1 q2 q3 q4 q5 q6 => rm_isStart_4_0_1 hw a b (bY ((60 : Int32) >>> (0 &&& 31))) (bY ((60 : Int32) >>> (8 &&& 31))) (bY (sv >>> (0 &&& 31))) (bY (sv >>> (8 &&& 31))) (bY (cc >>> (0 &&& 31))) (bY (cc >>> (8 &&& 31))) (bY (cd >>> (0 &&& 31))) (bY (cd >>> (8 &&& 31))) sv h q1 cm q2 q3 q4 q5 q6 (own_gc (c := 60) (by decide)) (own_gc (c := sv) ksv) ksv) (fun r _ r1 => r1 hb_280 hb_283 hb_286) B C
              · show Go _ _ _ _ 1 4 226 _ []
                have f_291 := (lT (lT (lT (lT (lT (lT (lT Z0 E_221.1) K_225.1) K_229.1) K_233.1) K_237.1) K_273.1) K_277.1)
                have f_292 := (((((((O.ext E_221).keep K_225 (allS ge_a_219 all0)).keep K_229 (allS ge_a_219 all0)).keep K_233 (allS ge_a_219 all0)).keep K_237 (allS ge_a_219 all0)).keep K_273 (allS ge_a_219 all0)).keep K_277 (allS ge_a_219 all0))
                exact rm_tail_4_0 hw p0 p1 p2 p3 p4 4 0 3 sv 1 a_219 60 sv cc cd [.int (bY 60), .int (bY sv), .int (bY cc), .int (bY cd)] h_276 f_291 cm f_292 f_279 (fun h a q1 q2 q3 q4 q5 q6 q7 q8 => rm_init1_4 hw a a_219 60 sv cc cd h q1 cm q2 q3 q4 q5 q6 q7 q8 (by refine ⟨?_, ?_, ?_⟩ <;> decide) ⟨ksv, hbig, own_chof ksv⟩ kcc kcd) (fun h a b q1 q2 q3 q4 q5 q6 => rm_isStart_4_0_0 hw a b (bY 60) (bY sv) (bY cc) (bY cd) sv h q1 cm q2 q3 q4 q5 q6 (own_l1 (c := 60) (by decide) (by decide)) (own_l1 (c := sv) ksv (show Ch sv from ⟨ksv, hbig, own_chof ksv⟩).2.1) ksv) (fun r _ r1 => r1 hb_280 hb_283 hb_286) B C
    · subst i_216e
      show Go _ _ _ _ 0 0 16 _ [(.int 1)]
      refine iS C at_16 (#[iV p0, iV p1, iV p2, iV p3, iV p4, iV 4, iV 1, uV, uV, uV, uV]) rfl <| iL C 4 at_18 rfl <| ynewarray C (oW hw 1 rfl) (ty := .char) rfl (by decide) (cap := 4) (by decide) (by decide) (by decide) (by decide) at_20 ?_
      intro h_293 a_294 g_295 E_296 A_297
      have ge_a_294 : n0 ≤ a_294 := lT Z0 (lE g_295.symm)
      have gs_a_294 : h0.size ≤ a_294 := lT (Nat.le_refl h0.size) (lE g_295.symm)
      have f_298 : Ary Z h_293 a_294 .char [(.int 0), (.int 0), (.int 0), (.int 0)] := A_297
      show Go _ _ _ _ 1 4 22 _ [(.ref a_294)]
      refine aS C at_22 (#[iV p0, iV p1, iV p2, iV p3, iV p4, iV 4, iV 1, aV a_294, uV, uV, uV]) rfl rfl <| aL C ((.ref a_294)) at_24 rfl rfl <| iC C 0 at_26 rfl <| iN C p2 at_27 rfl <| iP C 255 at_28 rfl <| yiand C at_31 <| yi2c C at_32 ?_
      rw [i2c_mask p2]
      obtain ⟨ca, eca⟩ : ∃ z : Int32, z = (p2 &&& 255) := ⟨_, rfl⟩
      have kca : Ch ca := by rw [eca]; exact own_chM p2
      rw [← eca]
      refine ycastore C f_298 (by decide) (i := 0) (by decide) (show 0 < 4 by decide) (w := (.int ca)) (congrArg Value.int kca.1) ge_a_294 at_33 ?_
      intro h_299 K_300 A_301
      have f_302 : Ary Z h_299 a_294 .char [(.int ca), (.int 0), (.int 0), (.int 0)] := A_301
      refine aL C ((.ref a_294)) at_34 rfl rfl <| iC C 1 at_36 rfl <| iN C p2 at_37 rfl <| iB C 8 at_38 rfl <| yiushr C at_40 <| iP C 255 at_41 rfl <| yiand C at_44 <| yi2c C at_45 ?_
      rw [i2c_mask (XT.ushr p2 8)]
      obtain ⟨cb, ecb⟩ : ∃ z : Int32, z = ((XT.ushr p2 8) &&& 255) := ⟨_, rfl⟩
      have kcb : Ch cb := by rw [ecb]; exact own_chM (XT.ushr p2 8)
      rw [← ecb]
      refine ycastore C f_302 (by decide) (i := 1) (by decide) (show 1 < 4 by decide) (w := (.int cb)) (congrArg Value.int kcb.1) ge_a_294 at_46 ?_
      intro h_303 K_304 A_305
      have f_306 : Ary Z h_303 a_294 .char [(.int ca), (.int cb), (.int 0), (.int 0)] := A_305
      refine iL C 4 at_47 rfl <| iC C 2 at_49 rfl <| yicmp_n C at_50 (XT.ii_le_f (by decide)) <| aL C ((.ref a_294)) at_53 rfl rfl <| iC C 2 at_55 rfl <| iN C p2 at_56 rfl <| iB C 16 at_57 rfl <| yiushr C at_59 <| iP C 255 at_60 rfl <| yiand C at_63 <| yi2c C at_64 ?_
      rw [i2c_mask (XT.ushr p2 16)]
      obtain ⟨cc, ecc⟩ : ∃ z : Int32, z = ((XT.ushr p2 16) &&& 255) := ⟨_, rfl⟩
      have kcc : Ch cc := by rw [ecc]; exact own_chM (XT.ushr p2 16)
      rw [← ecc]
      refine ycastore C f_306 (by decide) (i := 2) (by decide) (show 2 < 4 by decide) (w := (.int cc)) (congrArg Value.int kcc.1) ge_a_294 at_65 ?_
      intro h_307 K_308 A_309
      have f_310 : Ary Z h_307 a_294 .char [(.int ca), (.int cb), (.int cc), (.int 0)] := A_309
      refine iL C 4 at_66 rfl <| iC C 3 at_68 rfl <| yicmp_n C at_69 (XT.ii_le_f (by decide)) <| aL C ((.ref a_294)) at_72 rfl rfl <| iC C 3 at_74 rfl <| iN C p2 at_75 rfl <| iB C 24 at_76 rfl <| yiushr C at_78 <| iP C 255 at_79 rfl <| yiand C at_82 <| yi2c C at_83 ?_
      rw [i2c_mask (XT.ushr p2 24)]
      obtain ⟨cd, ecd⟩ : ∃ z : Int32, z = ((XT.ushr p2 24) &&& 255) := ⟨_, rfl⟩
      have kcd : Ch cd := by rw [ecd]; exact own_chM (XT.ushr p2 24)
      rw [← ecd]
      refine ycastore C f_310 (by decide) (i := 3) (by decide) (show 3 < 4 by decide) (w := (.int cd)) (congrArg Value.int kcd.1) ge_a_294 at_84 ?_
      intro h_311 K_312 A_313
      have f_314 : Ary Z h_311 a_294 .char [(.int ca), (.int cb), (.int cc), (.int cd)] := A_313
      refine iL C 4 at_85 rfl <| iC C 4 at_87 rfl <| cY C at_88 (XT.ii_le_t (by decide)) 101 (by decide) <| iL C p4 at_101 rfl <| iB C 16 at_103 rfl <| yiushr C at_105 <| iC C 3 at_106 rfl <| yiand C at_107 ?_
      obtain ⟨i_315, hi_316⟩ : ∃ z : Int32, z = ((XT.ushr p4 16) &&& 3) := ⟨_, rfl⟩
      rw [← hi_316]
      rcases own_split4 i_315 (by rw [hi_316]; exact (own_m3 _).1) (by rw [hi_316]; exact (own_m3 _).2) with i_315e | i_315e | i_315e | i_315e
      · subst i_315e
        show Go _ _ _ _ 1 4 108 _ [(.int 0)]
        refine iS C at_108 (#[iV p0, iV p1, iV p2, iV p3, iV p4, iV 4, iV 1, aV a_294, iV 0, uV, uV]) rfl <| iL C 0 at_110 rfl <| yif_n C at_112 (XT.i0_ne_f (by decide)) <| iB C 47 at_115 rfl <| iS C at_117 (#[iV p0, iV p1, iV p2, iV p3, iV p4, iV 4, iV 1, aV a_294, iV 0, iV 47, uV]) rfl <| gT C at_119 156 (by decide) <| aL C ((.ref a_294)) at_156 rfl rfl <| iL C 1 at_158 rfl <| iB C 60 at_160 rfl <| ycastore C f_314 (by decide) (i := 1) (by decide) (show 1 < 4 by decide) (w := (.int 60)) rfl ge_a_294 at_162 ?_
        intro h_317 K_318 A_319
        have f_320 : Ary Z h_317 a_294 .char [(.int ca), (.int 60), (.int cc), (.int cd)] := A_319
        refine aL C ((.ref a_294)) at_163 rfl rfl <| iL C 1 at_165 rfl <| iC C 1 at_167 rfl <| yiadd C at_168 <| eS [(.int 2), (.ref a_294)] rfl <| iL C 47 at_169 rfl <| ycastore C f_320 (by decide) (i := 2) (by decide) (show 2 < 4 by decide) (w := (.int 47)) rfl ge_a_294 at_171 ?_
        intro h_321 K_322 A_323
        have f_324 : Ary Z h_321 a_294 .char [(.int ca), (.int 60), (.int 47), (.int cd)] := A_323
        refine iL C 0 at_172 rfl <| iC C 3 at_174 rfl <| yicmp_n C at_175 (XT.ii_eq_f (by decide)) <| iC C 0 at_178 rfl <| iS C at_179 (#[iV p0, iV p1, iV p2, iV p3, iV p4, iV 4, iV 1, aV a_294, iV 0, iV 47, iV 0]) rfl <| gT C at_181 226 (by decide) ?_
        have f_325 := (lT (lT (lT (lT (lT (lT (lT Z0 E_296.1) K_300.1) K_304.1) K_308.1) K_312.1) K_318.1) K_322.1)
        have f_326 := (((((((O.ext E_296).keep K_300 (allS ge_a_294 all0)).keep K_304 (allS ge_a_294 all0)).keep K_308 (allS ge_a_294 all0)).keep K_312 (allS ge_a_294 all0)).keep K_318 (allS ge_a_294 all0)).keep K_322 (allS ge_a_294 all0))
        exact rm_tail_4_0 hw p0 p1 p2 p3 p4 4 1 0 47 0 a_294 ca 60 47 cd [.int (bY ca), .int (bY 60), .int (bY 47), .int (bY cd)] h_321 f_325 cm f_326 f_324 (fun h a q1 q2 q3 q4 q5 q6 q7 q8 => rm_init1_4 hw a a_294 ca 60 47 cd h q1 cm q2 q3 q4 q5 q6 q7 q8 kca (by refine ⟨?_, ?_, ?_⟩ <;> decide) (by refine ⟨?_, ?_, ?_⟩ <;> decide) kcd) (fun h a b q1 q2 q3 q4 q5 q6 => rm_isStart_4_1_0 hw a b (bY ca) (bY 60) (bY 47) (bY cd) 47 h q1 cm q2 q3 q4 q5 q6 (own_l1 (c := 60) (by decide) (by decide)) (own_l1 (c := 47) (by decide) (by decide)) (by decide)) (fun r r0 _ => r0 (Or.inl rfl)) B C
      · subst i_315e
        show Go _ _ _ _ 1 4 108 _ [(.int 1)]
        refine iS C at_108 (#[iV p0, iV p1, iV p2, iV p3, iV p4, iV 4, iV 1, aV a_294, iV 1, uV, uV]) rfl <| iL C 1 at_110 rfl <| fY C at_112 (XT.i0_ne_t (by decide)) 122 (by decide) <| iL C 1 at_122 rfl <| iC C 1 at_124 rfl <| yicmp_n C at_125 (XT.ii_ne_f (by decide)) <| iB C 33 at_128 rfl <| iS C at_130 (#[iV p0, iV p1, iV p2, iV p3, iV p4, iV 4, iV 1, aV a_294, iV 1, iV 33, uV]) rfl <| gT C at_132 156 (by decide) <| aL C ((.ref a_294)) at_156 rfl rfl <| iL C 1 at_158 rfl <| iB C 60 at_160 rfl <| ycastore C f_314 (by decide) (i := 1) (by decide) (show 1 < 4 by decide) (w := (.int 60)) rfl ge_a_294 at_162 ?_
        intro h_327 K_328 A_329
        have f_330 : Ary Z h_327 a_294 .char [(.int ca), (.int 60), (.int cc), (.int cd)] := A_329
        refine aL C ((.ref a_294)) at_163 rfl rfl <| iL C 1 at_165 rfl <| iC C 1 at_167 rfl <| yiadd C at_168 <| eS [(.int 2), (.ref a_294)] rfl <| iL C 33 at_169 rfl <| ycastore C f_330 (by decide) (i := 2) (by decide) (show 2 < 4 by decide) (w := (.int 33)) rfl ge_a_294 at_171 ?_
        intro h_331 K_332 A_333
        have f_334 : Ary Z h_331 a_294 .char [(.int ca), (.int 60), (.int 33), (.int cd)] := A_333
        refine iL C 1 at_172 rfl <| iC C 3 at_174 rfl <| yicmp_n C at_175 (XT.ii_eq_f (by decide)) <| iC C 0 at_178 rfl <| iS C at_179 (#[iV p0, iV p1, iV p2, iV p3, iV p4, iV 4, iV 1, aV a_294, iV 1, iV 33, iV 0]) rfl <| gT C at_181 226 (by decide) ?_
        have f_335 := (lT (lT (lT (lT (lT (lT (lT Z0 E_296.1) K_300.1) K_304.1) K_308.1) K_312.1) K_328.1) K_332.1)
        have f_336 := (((((((O.ext E_296).keep K_300 (allS ge_a_294 all0)).keep K_304 (allS ge_a_294 all0)).keep K_308 (allS ge_a_294 all0)).keep K_312 (allS ge_a_294 all0)).keep K_328 (allS ge_a_294 all0)).keep K_332 (allS ge_a_294 all0))
        exact rm_tail_4_0 hw p0 p1 p2 p3 p4 4 1 1 33 0 a_294 ca 60 33 cd [.int (bY ca), .int (bY 60), .int (bY 33), .int (bY cd)] h_331 f_335 cm f_336 f_334 (fun h a q1 q2 q3 q4 q5 q6 q7 q8 => rm_init1_4 hw a a_294 ca 60 33 cd h q1 cm q2 q3 q4 q5 q6 q7 q8 kca (by refine ⟨?_, ?_, ?_⟩ <;> decide) (by refine ⟨?_, ?_, ?_⟩ <;> decide) kcd) (fun h a b q1 q2 q3 q4 q5 q6 => rm_isStart_4_1_0 hw a b (bY ca) (bY 60) (bY 33) (bY cd) 33 h q1 cm q2 q3 q4 q5 q6 (own_l1 (c := 60) (by decide) (by decide)) (own_l1 (c := 33) (by decide) (by decide)) (by decide)) (fun r r0 _ => r0 (Or.inr (Or.inl rfl))) B C
      · subst i_315e
        show Go _ _ _ _ 1 4 108 _ [(.int 2)]
        refine iS C at_108 (#[iV p0, iV p1, iV p2, iV p3, iV p4, iV 4, iV 1, aV a_294, iV 2, uV, uV]) rfl <| iL C 2 at_110 rfl <| fY C at_112 (XT.i0_ne_t (by decide)) 122 (by decide) <| iL C 2 at_122 rfl <| iC C 1 at_124 rfl <| cY C at_125 (XT.ii_ne_t (by decide)) 135 (by decide) <| iL C 2 at_135 rfl <| iC C 2 at_137 rfl <| yicmp_n C at_138 (XT.ii_ne_f (by decide)) <| iB C 63 at_141 rfl <| iS C at_143 (#[iV p0, iV p1, iV p2, iV p3, iV p4, iV 4, iV 1, aV a_294, iV 2, iV 63, uV]) rfl <| gT C at_145 156 (by decide) <| aL C ((.ref a_294)) at_156 rfl rfl <| iL C 1 at_158 rfl <| iB C 60 at_160 rfl <| ycastore C f_314 (by decide) (i := 1) (by decide) (show 1 < 4 by decide) (w := (.int 60)) rfl ge_a_294 at_162 ?_
        intro h_337 K_338 A_339
        have f_340 : Ary Z h_337 a_294 .char [(.int ca), (.int 60), (.int cc), (.int cd)] := A_339
        refine aL C ((.ref a_294)) at_163 rfl rfl <| iL C 1 at_165 rfl <| iC C 1 at_167 rfl <| yiadd C at_168 <| eS [(.int 2), (.ref a_294)] rfl <| iL C 63 at_169 rfl <| ycastore C f_340 (by decide) (i := 2) (by decide) (show 2 < 4 by decide) (w := (.int 63)) rfl ge_a_294 at_171 ?_
        intro h_341 K_342 A_343
        have f_344 : Ary Z h_341 a_294 .char [(.int ca), (.int 60), (.int 63), (.int cd)] := A_343
        refine iL C 2 at_172 rfl <| iC C 3 at_174 rfl <| yicmp_n C at_175 (XT.ii_eq_f (by decide)) <| iC C 0 at_178 rfl <| iS C at_179 (#[iV p0, iV p1, iV p2, iV p3, iV p4, iV 4, iV 1, aV a_294, iV 2, iV 63, iV 0]) rfl <| gT C at_181 226 (by decide) ?_
        have f_345 := (lT (lT (lT (lT (lT (lT (lT Z0 E_296.1) K_300.1) K_304.1) K_308.1) K_312.1) K_338.1) K_342.1)
        have f_346 := (((((((O.ext E_296).keep K_300 (allS ge_a_294 all0)).keep K_304 (allS ge_a_294 all0)).keep K_308 (allS ge_a_294 all0)).keep K_312 (allS ge_a_294 all0)).keep K_338 (allS ge_a_294 all0)).keep K_342 (allS ge_a_294 all0))
        exact rm_tail_4_0 hw p0 p1 p2 p3 p4 4 1 2 63 0 a_294 ca 60 63 cd [.int (bY ca), .int (bY 60), .int (bY 63), .int (bY cd)] h_341 f_345 cm f_346 f_344 (fun h a q1 q2 q3 q4 q5 q6 q7 q8 => rm_init1_4 hw a a_294 ca 60 63 cd h q1 cm q2 q3 q4 q5 q6 q7 q8 kca (by refine ⟨?_, ?_, ?_⟩ <;> decide) (by refine ⟨?_, ?_, ?_⟩ <;> decide) kcd) (fun h a b q1 q2 q3 q4 q5 q6 => rm_isStart_4_1_0 hw a b (bY ca) (bY 60) (bY 63) (bY cd) 63 h q1 cm q2 q3 q4 q5 q6 (own_l1 (c := 60) (by decide) (by decide)) (own_l1 (c := 63) (by decide) (by decide)) (by decide)) (fun r r0 _ => r0 (Or.inr (Or.inr rfl))) B C
      · subst i_315e
        show Go _ _ _ _ 1 4 108 _ [(.int 3)]
        refine iS C at_108 (#[iV p0, iV p1, iV p2, iV p3, iV p4, iV 4, iV 1, aV a_294, iV 3, uV, uV]) rfl <| iL C 3 at_110 rfl <| fY C at_112 (XT.i0_ne_t (by decide)) 122 (by decide) <| iL C 3 at_122 rfl <| iC C 1 at_124 rfl <| cY C at_125 (XT.ii_ne_t (by decide)) 135 (by decide) <| iL C 3 at_135 rfl <| iC C 2 at_137 rfl <| cY C at_138 (XT.ii_ne_t (by decide)) 148 (by decide) <| iL C p4 at_148 rfl <| yldc C (v := 65535) (oW hw 70 rfl) at_150 <| yiand C at_152 <| yi2c C at_153 ?_
        obtain ⟨sv, esv⟩ : ∃ z : Int32, z = (UInt32.toInt32 (UInt16.toUInt32 (UInt32.toUInt16 (Int32.toUInt32 (p4 &&& 65535))))) := ⟨_, rfl⟩
        have ksv : nar .char sv = sv := by rw [esv]; exact own_nari2c _
        rw [← esv]
        refine iS C at_154 (#[iV p0, iV p1, iV p2, iV p3, iV p4, iV 4, iV 1, aV a_294, iV 3, iV sv, uV]) rfl <| aL C ((.ref a_294)) at_156 rfl rfl <| iL C 1 at_158 rfl <| iB C 60 at_160 rfl <| ycastore C f_314 (by decide) (i := 1) (by decide) (show 1 < 4 by decide) (w := (.int 60)) rfl ge_a_294 at_162 ?_
        intro h_347 K_348 A_349
        have f_350 : Ary Z h_347 a_294 .char [(.int ca), (.int 60), (.int cc), (.int cd)] := A_349
        refine aL C ((.ref a_294)) at_163 rfl rfl <| iL C 1 at_165 rfl <| iC C 1 at_167 rfl <| yiadd C at_168 <| eS [(.int 2), (.ref a_294)] rfl <| iL C sv at_169 rfl <| ycastore C f_350 (by decide) (i := 2) (by decide) (show 2 < 4 by decide) (w := (.int sv)) (congrArg Value.int ksv) ge_a_294 at_171 ?_
        intro h_351 K_352 A_353
        have f_354 : Ary Z h_351 a_294 .char [(.int ca), (.int 60), (.int sv), (.int cd)] := A_353
        refine iL C 3 at_172 rfl <| iC C 3 at_174 rfl <| cY C at_175 (XT.ii_eq_t (by decide)) 184 (by decide) <| iL C sv at_184 rfl <| iB C 47 at_186 rfl ?_
        by_cases hb_355 : sv = 47
        · refine yicmp_n C at_188 (XT.ii_ne_f hb_355) <| iC C 0 at_191 rfl <| iS C at_192 (#[iV p0, iV p1, iV p2, iV p3, iV p4, iV 4, iV 1, aV a_294, iV 3, iV sv, iV 0]) rfl <| gT C at_194 226 (by decide) ?_
          have f_356 := (lT (lT (lT (lT (lT (lT (lT Z0 E_296.1) K_300.1) K_304.1) K_308.1) K_312.1) K_348.1) K_352.1)
          have f_357 := (((((((O.ext E_296).keep K_300 (allS ge_a_294 all0)).keep K_304 (allS ge_a_294 all0)).keep K_308 (allS ge_a_294 all0)).keep K_312 (allS ge_a_294 all0)).keep K_348 (allS ge_a_294 all0)).keep K_352 (allS ge_a_294 all0))
          exact rm_tail_4_0 hw p0 p1 p2 p3 p4 4 1 3 sv 0 a_294 ca 60 sv cd [.int (bY ca), .int (bY 60), .int (bY sv), .int (bY cd)] h_351 f_356 cm f_357 f_354 (fun h a q1 q2 q3 q4 q5 q6 q7 q8 => rm_init1_4 hw a a_294 ca 60 sv cd h q1 cm q2 q3 q4 q5 q6 q7 q8 kca (by refine ⟨?_, ?_, ?_⟩ <;> decide) ⟨ksv, (by rw [hb_355]; decide), own_chof ksv⟩ kcd) (fun h a b q1 q2 q3 q4 q5 q6 => rm_isStart_4_1_0 hw a b (bY ca) (bY 60) (bY sv) (bY cd) sv h q1 cm q2 q3 q4 q5 q6 (own_l1 (c := 60) (by decide) (by decide)) (own_l1 (c := sv) ksv (show Ch sv from ⟨ksv, (by rw [hb_355]; decide), own_chof ksv⟩).2.1) ksv) (fun r r0 _ => r0 (Or.inl hb_355)) B C
        · refine cY C at_188 (XT.ii_ne_t hb_355) 197 (by decide) <| iL C sv at_197 rfl <| iB C 33 at_199 rfl ?_
          by_cases hb_358 : sv = 33
          · refine yicmp_n C at_201 (XT.ii_ne_f hb_358) <| iC C 0 at_204 rfl <| iS C at_205 (#[iV p0, iV p1, iV p2, iV p3, iV p4, iV 4, iV 1, aV a_294, iV 3, iV sv, iV 0]) rfl <| gT C at_207 226 (by decide) ?_
            have f_359 := (lT (lT (lT (lT (lT (lT (lT Z0 E_296.1) K_300.1) K_304.1) K_308.1) K_312.1) K_348.1) K_352.1)
            have f_360 := (((((((O.ext E_296).keep K_300 (allS ge_a_294 all0)).keep K_304 (allS ge_a_294 all0)).keep K_308 (allS ge_a_294 all0)).keep K_312 (allS ge_a_294 all0)).keep K_348 (allS ge_a_294 all0)).keep K_352 (allS ge_a_294 all0))
            exact rm_tail_4_0 hw p0 p1 p2 p3 p4 4 1 3 sv 0 a_294 ca 60 sv cd [.int (bY ca), .int (bY 60), .int (bY sv), .int (bY cd)] h_351 f_359 cm f_360 f_354 (fun h a q1 q2 q3 q4 q5 q6 q7 q8 => rm_init1_4 hw a a_294 ca 60 sv cd h q1 cm q2 q3 q4 q5 q6 q7 q8 kca (by refine ⟨?_, ?_, ?_⟩ <;> decide) ⟨ksv, (by rw [hb_358]; decide), own_chof ksv⟩ kcd) (fun h a b q1 q2 q3 q4 q5 q6 => rm_isStart_4_1_0 hw a b (bY ca) (bY 60) (bY sv) (bY cd) sv h q1 cm q2 q3 q4 q5 q6 (own_l1 (c := 60) (by decide) (by decide)) (own_l1 (c := sv) ksv (show Ch sv from ⟨ksv, (by rw [hb_358]; decide), own_chof ksv⟩).2.1) ksv) (fun r r0 _ => r0 (Or.inr (Or.inl hb_358))) B C
          · refine cY C at_201 (XT.ii_ne_t hb_358) 210 (by decide) <| iL C sv at_210 rfl <| iB C 63 at_212 rfl ?_
            by_cases hb_361 : sv = 63
            · refine yicmp_n C at_214 (XT.ii_ne_f hb_361) <| iC C 0 at_217 rfl <| iS C at_218 (#[iV p0, iV p1, iV p2, iV p3, iV p4, iV 4, iV 1, aV a_294, iV 3, iV sv, iV 0]) rfl <| gT C at_220 226 (by decide) ?_
              have f_362 := (lT (lT (lT (lT (lT (lT (lT Z0 E_296.1) K_300.1) K_304.1) K_308.1) K_312.1) K_348.1) K_352.1)
              have f_363 := (((((((O.ext E_296).keep K_300 (allS ge_a_294 all0)).keep K_304 (allS ge_a_294 all0)).keep K_308 (allS ge_a_294 all0)).keep K_312 (allS ge_a_294 all0)).keep K_348 (allS ge_a_294 all0)).keep K_352 (allS ge_a_294 all0))
              exact rm_tail_4_0 hw p0 p1 p2 p3 p4 4 1 3 sv 0 a_294 ca 60 sv cd [.int (bY ca), .int (bY 60), .int (bY sv), .int (bY cd)] h_351 f_362 cm f_363 f_354 (fun h a q1 q2 q3 q4 q5 q6 q7 q8 => rm_init1_4 hw a a_294 ca 60 sv cd h q1 cm q2 q3 q4 q5 q6 q7 q8 kca (by refine ⟨?_, ?_, ?_⟩ <;> decide) ⟨ksv, (by rw [hb_361]; decide), own_chof ksv⟩ kcd) (fun h a b q1 q2 q3 q4 q5 q6 => rm_isStart_4_1_0 hw a b (bY ca) (bY 60) (bY sv) (bY cd) sv h q1 cm q2 q3 q4 q5 q6 (own_l1 (c := 60) (by decide) (by decide)) (own_l1 (c := sv) ksv (show Ch sv from ⟨ksv, (by rw [hb_361]; decide), own_chof ksv⟩).2.1) ksv) (fun r r0 _ => r0 (Or.inr (Or.inr hb_361))) B C
            · refine cY C at_214 (XT.ii_ne_t hb_361) 223 (by decide) <| iC C 1 at_223 rfl <| iS C at_224 (#[iV p0, iV p1, iV p2, iV p3, iV p4, iV 4, iV 1, aV a_294, iV 3, iV sv, iV 1]) rfl ?_
              by_cases hbig : 255 < sv
              · show Go _ _ _ _ 1 4 226 _ []
                have f_364 := (lT (lT (lT (lT (lT (lT (lT Z0 E_296.1) K_300.1) K_304.1) K_308.1) K_312.1) K_348.1) K_352.1)
                have f_365 := (((((((O.ext E_296).keep K_300 (allS ge_a_294 all0)).keep K_304 (allS ge_a_294 all0)).keep K_308 (allS ge_a_294 all0)).keep K_312 (allS ge_a_294 all0)).keep K_348 (allS ge_a_294 all0)).keep K_352 (allS ge_a_294 all0))
                exact rm_tail_4_1 hw p0 p1 p2 p3 p4 4 1 3 sv 1 a_294 ca 60 sv cd [.int (bY (ca >>> (0 &&& 31))), .int (bY (ca >>> (8 &&& 31))), .int (bY ((60 : Int32) >>> (0 &&& 31))), .int (bY ((60 : Int32) >>> (8 &&& 31))), .int (bY (sv >>> (0 &&& 31))), .int (bY (sv >>> (8 &&& 31))), .int (bY (cd >>> (0 &&& 31))), .int (bY (cd >>> (8 &&& 31)))] h_351 f_364 cm f_365 f_354 (fun h a q1 q2 q3 q4 q5 q6 q7 q8 => rm_initB_4_2 hw a a_294 ca 60 sv cd h q1 cm q2 q3 q4 q5 q6 q7 q8 kca (by refine ⟨?_, ?_, ?_⟩ <;> decide) ⟨ksv, hbig⟩ kcd) (fun h a b q1 q2 q3 q4 q5 q6 => rm_isStart_4_1_1 hw a b (bY (ca >>> (0 &&& 31))) (bY (ca >>> (8 &&& 31))) (bY ((60 : Int32) >>> (0 &&& 31))) (bY ((60 : Int32) >>> (8 &&& 31))) (bY (sv >>> (0 &&& 31))) (bY (sv >>> (8 &&& 31))) (bY (cd >>> (0 &&& 31))) (bY (cd >>> (8 &&& 31))) sv h q1 cm q2 q3 q4 q5 q6 (own_gc (c := 60) (by decide)) (own_gc (c := sv) ksv) ksv) (fun r _ r1 => r1 hb_355 hb_358 hb_361) B C
              · show Go _ _ _ _ 1 4 226 _ []
                have f_366 := (lT (lT (lT (lT (lT (lT (lT Z0 E_296.1) K_300.1) K_304.1) K_308.1) K_312.1) K_348.1) K_352.1)
                have f_367 := (((((((O.ext E_296).keep K_300 (allS ge_a_294 all0)).keep K_304 (allS ge_a_294 all0)).keep K_308 (allS ge_a_294 all0)).keep K_312 (allS ge_a_294 all0)).keep K_348 (allS ge_a_294 all0)).keep K_352 (allS ge_a_294 all0))
                exact rm_tail_4_0 hw p0 p1 p2 p3 p4 4 1 3 sv 1 a_294 ca 60 sv cd [.int (bY ca), .int (bY 60), .int (bY sv), .int (bY cd)] h_351 f_366 cm f_367 f_354 (fun h a q1 q2 q3 q4 q5 q6 q7 q8 => rm_init1_4 hw a a_294 ca 60 sv cd h q1 cm q2 q3 q4 q5 q6 q7 q8 kca (by refine ⟨?_, ?_, ?_⟩ <;> decide) ⟨ksv, hbig, own_chof ksv⟩ kcd) (fun h a b q1 q2 q3 q4 q5 q6 => rm_isStart_4_1_0 hw a b (bY ca) (bY 60) (bY sv) (bY cd) sv h q1 cm q2 q3 q4 q5 q6 (own_l1 (c := 60) (by decide) (by decide)) (own_l1 (c := sv) ksv (show Ch sv from ⟨ksv, hbig, own_chof ksv⟩).2.1) ksv) (fun r _ r1 => r1 hb_355 hb_358 hb_361) B C
    · subst i_216e
      show Go _ _ _ _ 0 0 16 _ [(.int 2)]
      refine iS C at_16 (#[iV p0, iV p1, iV p2, iV p3, iV p4, iV 4, iV 2, uV, uV, uV, uV]) rfl <| iL C 4 at_18 rfl <| ynewarray C (oW hw 1 rfl) (ty := .char) rfl (by decide) (cap := 4) (by decide) (by decide) (by decide) (by decide) at_20 ?_
      intro h_368 a_369 g_370 E_371 A_372
      have ge_a_369 : n0 ≤ a_369 := lT Z0 (lE g_370.symm)
      have gs_a_369 : h0.size ≤ a_369 := lT (Nat.le_refl h0.size) (lE g_370.symm)
      have f_373 : Ary Z h_368 a_369 .char [(.int 0), (.int 0), (.int 0), (.int 0)] := A_372
      show Go _ _ _ _ 1 4 22 _ [(.ref a_369)]
      refine aS C at_22 (#[iV p0, iV p1, iV p2, iV p3, iV p4, iV 4, iV 2, aV a_369, uV, uV, uV]) rfl rfl <| aL C ((.ref a_369)) at_24 rfl rfl <| iC C 0 at_26 rfl <| iN C p2 at_27 rfl <| iP C 255 at_28 rfl <| yiand C at_31 <| yi2c C at_32 ?_
      rw [i2c_mask p2]
      obtain ⟨ca, eca⟩ : ∃ z : Int32, z = (p2 &&& 255) := ⟨_, rfl⟩
      have kca : Ch ca := by rw [eca]; exact own_chM p2
      rw [← eca]
      refine ycastore C f_373 (by decide) (i := 0) (by decide) (show 0 < 4 by decide) (w := (.int ca)) (congrArg Value.int kca.1) ge_a_369 at_33 ?_
      intro h_374 K_375 A_376
      have f_377 : Ary Z h_374 a_369 .char [(.int ca), (.int 0), (.int 0), (.int 0)] := A_376
      refine aL C ((.ref a_369)) at_34 rfl rfl <| iC C 1 at_36 rfl <| iN C p2 at_37 rfl <| iB C 8 at_38 rfl <| yiushr C at_40 <| iP C 255 at_41 rfl <| yiand C at_44 <| yi2c C at_45 ?_
      rw [i2c_mask (XT.ushr p2 8)]
      obtain ⟨cb, ecb⟩ : ∃ z : Int32, z = ((XT.ushr p2 8) &&& 255) := ⟨_, rfl⟩
      have kcb : Ch cb := by rw [ecb]; exact own_chM (XT.ushr p2 8)
      rw [← ecb]
      refine ycastore C f_377 (by decide) (i := 1) (by decide) (show 1 < 4 by decide) (w := (.int cb)) (congrArg Value.int kcb.1) ge_a_369 at_46 ?_
      intro h_378 K_379 A_380
      have f_381 : Ary Z h_378 a_369 .char [(.int ca), (.int cb), (.int 0), (.int 0)] := A_380
      refine iL C 4 at_47 rfl <| iC C 2 at_49 rfl <| yicmp_n C at_50 (XT.ii_le_f (by decide)) <| aL C ((.ref a_369)) at_53 rfl rfl <| iC C 2 at_55 rfl <| iN C p2 at_56 rfl <| iB C 16 at_57 rfl <| yiushr C at_59 <| iP C 255 at_60 rfl <| yiand C at_63 <| yi2c C at_64 ?_
      rw [i2c_mask (XT.ushr p2 16)]
      obtain ⟨cc, ecc⟩ : ∃ z : Int32, z = ((XT.ushr p2 16) &&& 255) := ⟨_, rfl⟩
      have kcc : Ch cc := by rw [ecc]; exact own_chM (XT.ushr p2 16)
      rw [← ecc]
      refine ycastore C f_381 (by decide) (i := 2) (by decide) (show 2 < 4 by decide) (w := (.int cc)) (congrArg Value.int kcc.1) ge_a_369 at_65 ?_
      intro h_382 K_383 A_384
      have f_385 : Ary Z h_382 a_369 .char [(.int ca), (.int cb), (.int cc), (.int 0)] := A_384
      refine iL C 4 at_66 rfl <| iC C 3 at_68 rfl <| yicmp_n C at_69 (XT.ii_le_f (by decide)) <| aL C ((.ref a_369)) at_72 rfl rfl <| iC C 3 at_74 rfl <| iN C p2 at_75 rfl <| iB C 24 at_76 rfl <| yiushr C at_78 <| iP C 255 at_79 rfl <| yiand C at_82 <| yi2c C at_83 ?_
      rw [i2c_mask (XT.ushr p2 24)]
      obtain ⟨cd, ecd⟩ : ∃ z : Int32, z = ((XT.ushr p2 24) &&& 255) := ⟨_, rfl⟩
      have kcd : Ch cd := by rw [ecd]; exact own_chM (XT.ushr p2 24)
      rw [← ecd]
      refine ycastore C f_385 (by decide) (i := 3) (by decide) (show 3 < 4 by decide) (w := (.int cd)) (congrArg Value.int kcd.1) ge_a_369 at_84 ?_
      intro h_386 K_387 A_388
      have f_389 : Ary Z h_386 a_369 .char [(.int ca), (.int cb), (.int cc), (.int cd)] := A_388
      refine iL C 4 at_85 rfl <| iC C 4 at_87 rfl <| cY C at_88 (XT.ii_le_t (by decide)) 101 (by decide) <| iL C p4 at_101 rfl <| iB C 16 at_103 rfl <| yiushr C at_105 <| iC C 3 at_106 rfl <| yiand C at_107 ?_
      obtain ⟨i_390, hi_391⟩ : ∃ z : Int32, z = ((XT.ushr p4 16) &&& 3) := ⟨_, rfl⟩
      rw [← hi_391]
      rcases own_split4 i_390 (by rw [hi_391]; exact (own_m3 _).1) (by rw [hi_391]; exact (own_m3 _).2) with i_390e | i_390e | i_390e | i_390e
      · subst i_390e
        show Go _ _ _ _ 1 4 108 _ [(.int 0)]
        refine iS C at_108 (#[iV p0, iV p1, iV p2, iV p3, iV p4, iV 4, iV 2, aV a_369, iV 0, uV, uV]) rfl <| iL C 0 at_110 rfl <| yif_n C at_112 (XT.i0_ne_f (by decide)) <| iB C 47 at_115 rfl <| iS C at_117 (#[iV p0, iV p1, iV p2, iV p3, iV p4, iV 4, iV 2, aV a_369, iV 0, iV 47, uV]) rfl <| gT C at_119 156 (by decide) <| aL C ((.ref a_369)) at_156 rfl rfl <| iL C 2 at_158 rfl <| iB C 60 at_160 rfl <| ycastore C f_389 (by decide) (i := 2) (by decide) (show 2 < 4 by decide) (w := (.int 60)) rfl ge_a_369 at_162 ?_
        intro h_392 K_393 A_394
        have f_395 : Ary Z h_392 a_369 .char [(.int ca), (.int cb), (.int 60), (.int cd)] := A_394
        refine aL C ((.ref a_369)) at_163 rfl rfl <| iL C 2 at_165 rfl <| iC C 1 at_167 rfl <| yiadd C at_168 <| eS [(.int 3), (.ref a_369)] rfl <| iL C 47 at_169 rfl <| ycastore C f_395 (by decide) (i := 3) (by decide) (show 3 < 4 by decide) (w := (.int 47)) rfl ge_a_369 at_171 ?_
        intro h_396 K_397 A_398
        have f_399 : Ary Z h_396 a_369 .char [(.int ca), (.int cb), (.int 60), (.int 47)] := A_398
        refine iL C 0 at_172 rfl <| iC C 3 at_174 rfl <| yicmp_n C at_175 (XT.ii_eq_f (by decide)) <| iC C 0 at_178 rfl <| iS C at_179 (#[iV p0, iV p1, iV p2, iV p3, iV p4, iV 4, iV 2, aV a_369, iV 0, iV 47, iV 0]) rfl <| gT C at_181 226 (by decide) ?_
        have f_400 := (lT (lT (lT (lT (lT (lT (lT Z0 E_371.1) K_375.1) K_379.1) K_383.1) K_387.1) K_393.1) K_397.1)
        have f_401 := (((((((O.ext E_371).keep K_375 (allS ge_a_369 all0)).keep K_379 (allS ge_a_369 all0)).keep K_383 (allS ge_a_369 all0)).keep K_387 (allS ge_a_369 all0)).keep K_393 (allS ge_a_369 all0)).keep K_397 (allS ge_a_369 all0))
        exact rm_tail_4_0 hw p0 p1 p2 p3 p4 4 2 0 47 0 a_369 ca cb 60 47 [.int (bY ca), .int (bY cb), .int (bY 60), .int (bY 47)] h_396 f_400 cm f_401 f_399 (fun h a q1 q2 q3 q4 q5 q6 q7 q8 => rm_init1_4 hw a a_369 ca cb 60 47 h q1 cm q2 q3 q4 q5 q6 q7 q8 kca kcb (by refine ⟨?_, ?_, ?_⟩ <;> decide) (by refine ⟨?_, ?_, ?_⟩ <;> decide)) (fun h a b q1 q2 q3 q4 q5 q6 => rm_isStart_4_2_0 hw a b (bY ca) (bY cb) (bY 60) (bY 47) 47 h q1 cm q2 q3 q4 q5 q6 (own_l1 (c := 60) (by decide) (by decide)) (own_l1 (c := 47) (by decide) (by decide)) (by decide)) (fun r r0 _ => r0 (Or.inl rfl)) B C
      · subst i_390e
        show Go _ _ _ _ 1 4 108 _ [(.int 1)]
        refine iS C at_108 (#[iV p0, iV p1, iV p2, iV p3, iV p4, iV 4, iV 2, aV a_369, iV 1, uV, uV]) rfl <| iL C 1 at_110 rfl <| fY C at_112 (XT.i0_ne_t (by decide)) 122 (by decide) <| iL C 1 at_122 rfl <| iC C 1 at_124 rfl <| yicmp_n C at_125 (XT.ii_ne_f (by decide)) <| iB C 33 at_128 rfl <| iS C at_130 (#[iV p0, iV p1, iV p2, iV p3, iV p4, iV 4, iV 2, aV a_369, iV 1, iV 33, uV]) rfl <| gT C at_132 156 (by decide) <| aL C ((.ref a_369)) at_156 rfl rfl <| iL C 2 at_158 rfl <| iB C 60 at_160 rfl <| ycastore C f_389 (by decide) (i := 2) (by decide) (show 2 < 4 by decide) (w := (.int 60)) rfl ge_a_369 at_162 ?_
        intro h_402 K_403 A_404
        have f_405 : Ary Z h_402 a_369 .char [(.int ca), (.int cb), (.int 60), (.int cd)] := A_404
        refine aL C ((.ref a_369)) at_163 rfl rfl <| iL C 2 at_165 rfl <| iC C 1 at_167 rfl <| yiadd C at_168 <| eS [(.int 3), (.ref a_369)] rfl <| iL C 33 at_169 rfl <| ycastore C f_405 (by decide) (i := 3) (by decide) (show 3 < 4 by decide) (w := (.int 33)) rfl ge_a_369 at_171 ?_
        intro h_406 K_407 A_408
        have f_409 : Ary Z h_406 a_369 .char [(.int ca), (.int cb), (.int 60), (.int 33)] := A_408
        refine iL C 1 at_172 rfl <| iC C 3 at_174 rfl <| yicmp_n C at_175 (XT.ii_eq_f (by decide)) <| iC C 0 at_178 rfl <| iS C at_179 (#[iV p0, iV p1, iV p2, iV p3, iV p4, iV 4, iV 2, aV a_369, iV 1, iV 33, iV 0]) rfl <| gT C at_181 226 (by decide) ?_
        have f_410 := (lT (lT (lT (lT (lT (lT (lT Z0 E_371.1) K_375.1) K_379.1) K_383.1) K_387.1) K_403.1) K_407.1)
        have f_411 := (((((((O.ext E_371).keep K_375 (allS ge_a_369 all0)).keep K_379 (allS ge_a_369 all0)).keep K_383 (allS ge_a_369 all0)).keep K_387 (allS ge_a_369 all0)).keep K_403 (allS ge_a_369 all0)).keep K_407 (allS ge_a_369 all0))
        exact rm_tail_4_0 hw p0 p1 p2 p3 p4 4 2 1 33 0 a_369 ca cb 60 33 [.int (bY ca), .int (bY cb), .int (bY 60), .int (bY 33)] h_406 f_410 cm f_411 f_409 (fun h a q1 q2 q3 q4 q5 q6 q7 q8 => rm_init1_4 hw a a_369 ca cb 60 33 h q1 cm q2 q3 q4 q5 q6 q7 q8 kca kcb (by refine ⟨?_, ?_, ?_⟩ <;> decide) (by refine ⟨?_, ?_, ?_⟩ <;> decide)) (fun h a b q1 q2 q3 q4 q5 q6 => rm_isStart_4_2_0 hw a b (bY ca) (bY cb) (bY 60) (bY 33) 33 h q1 cm q2 q3 q4 q5 q6 (own_l1 (c := 60) (by decide) (by decide)) (own_l1 (c := 33) (by decide) (by decide)) (by decide)) (fun r r0 _ => r0 (Or.inr (Or.inl rfl))) B C
      · subst i_390e
        show Go _ _ _ _ 1 4 108 _ [(.int 2)]
        refine iS C at_108 (#[iV p0, iV p1, iV p2, iV p3, iV p4, iV 4, iV 2, aV a_369, iV 2, uV, uV]) rfl <| iL C 2 at_110 rfl <| fY C at_112 (XT.i0_ne_t (by decide)) 122 (by decide) <| iL C 2 at_122 rfl <| iC C 1 at_124 rfl <| cY C at_125 (XT.ii_ne_t (by decide)) 135 (by decide) <| iL C 2 at_135 rfl <| iC C 2 at_137 rfl <| yicmp_n C at_138 (XT.ii_ne_f (by decide)) <| iB C 63 at_141 rfl <| iS C at_143 (#[iV p0, iV p1, iV p2, iV p3, iV p4, iV 4, iV 2, aV a_369, iV 2, iV 63, uV]) rfl <| gT C at_145 156 (by decide) <| aL C ((.ref a_369)) at_156 rfl rfl <| iL C 2 at_158 rfl <| iB C 60 at_160 rfl <| ycastore C f_389 (by decide) (i := 2) (by decide) (show 2 < 4 by decide) (w := (.int 60)) rfl ge_a_369 at_162 ?_
        intro h_412 K_413 A_414
        have f_415 : Ary Z h_412 a_369 .char [(.int ca), (.int cb), (.int 60), (.int cd)] := A_414
        refine aL C ((.ref a_369)) at_163 rfl rfl <| iL C 2 at_165 rfl <| iC C 1 at_167 rfl <| yiadd C at_168 <| eS [(.int 3), (.ref a_369)] rfl <| iL C 63 at_169 rfl <| ycastore C f_415 (by decide) (i := 3) (by decide) (show 3 < 4 by decide) (w := (.int 63)) rfl ge_a_369 at_171 ?_
        intro h_416 K_417 A_418
        have f_419 : Ary Z h_416 a_369 .char [(.int ca), (.int cb), (.int 60), (.int 63)] := A_418
        refine iL C 2 at_172 rfl <| iC C 3 at_174 rfl <| yicmp_n C at_175 (XT.ii_eq_f (by decide)) <| iC C 0 at_178 rfl <| iS C at_179 (#[iV p0, iV p1, iV p2, iV p3, iV p4, iV 4, iV 2, aV a_369, iV 2, iV 63, iV 0]) rfl <| gT C at_181 226 (by decide) ?_
        have f_420 := (lT (lT (lT (lT (lT (lT (lT Z0 E_371.1) K_375.1) K_379.1) K_383.1) K_387.1) K_413.1) K_417.1)
        have f_421 := (((((((O.ext E_371).keep K_375 (allS ge_a_369 all0)).keep K_379 (allS ge_a_369 all0)).keep K_383 (allS ge_a_369 all0)).keep K_387 (allS ge_a_369 all0)).keep K_413 (allS ge_a_369 all0)).keep K_417 (allS ge_a_369 all0))
        exact rm_tail_4_0 hw p0 p1 p2 p3 p4 4 2 2 63 0 a_369 ca cb 60 63 [.int (bY ca), .int (bY cb), .int (bY 60), .int (bY 63)] h_416 f_420 cm f_421 f_419 (fun h a q1 q2 q3 q4 q5 q6 q7 q8 => rm_init1_4 hw a a_369 ca cb 60 63 h q1 cm q2 q3 q4 q5 q6 q7 q8 kca kcb (by refine ⟨?_, ?_, ?_⟩ <;> decide) (by refine ⟨?_, ?_, ?_⟩ <;> decide)) (fun h a b q1 q2 q3 q4 q5 q6 => rm_isStart_4_2_0 hw a b (bY ca) (bY cb) (bY 60) (bY 63) 63 h q1 cm q2 q3 q4 q5 q6 (own_l1 (c := 60) (by decide) (by decide)) (own_l1 (c := 63) (by decide) (by decide)) (by decide)) (fun r r0 _ => r0 (Or.inr (Or.inr rfl))) B C
      · subst i_390e
        show Go _ _ _ _ 1 4 108 _ [(.int 3)]
        refine iS C at_108 (#[iV p0, iV p1, iV p2, iV p3, iV p4, iV 4, iV 2, aV a_369, iV 3, uV, uV]) rfl <| iL C 3 at_110 rfl <| fY C at_112 (XT.i0_ne_t (by decide)) 122 (by decide) <| iL C 3 at_122 rfl <| iC C 1 at_124 rfl <| cY C at_125 (XT.ii_ne_t (by decide)) 135 (by decide) <| iL C 3 at_135 rfl <| iC C 2 at_137 rfl <| cY C at_138 (XT.ii_ne_t (by decide)) 148 (by decide) <| iL C p4 at_148 rfl <| yldc C (v := 65535) (oW hw 70 rfl) at_150 <| yiand C at_152 <| yi2c C at_153 ?_
        obtain ⟨sv, esv⟩ : ∃ z : Int32, z = (UInt32.toInt32 (UInt16.toUInt32 (UInt32.toUInt16 (Int32.toUInt32 (p4 &&& 65535))))) := ⟨_, rfl⟩
        have ksv : nar .char sv = sv := by rw [esv]; exact own_nari2c _
        rw [← esv]
        refine iS C at_154 (#[iV p0, iV p1, iV p2, iV p3, iV p4, iV 4, iV 2, aV a_369, iV 3, iV sv, uV]) rfl <| aL C ((.ref a_369)) at_156 rfl rfl <| iL C 2 at_158 rfl <| iB C 60 at_160 rfl <| ycastore C f_389 (by decide) (i := 2) (by decide) (show 2 < 4 by decide) (w := (.int 60)) rfl ge_a_369 at_162 ?_
        intro h_422 K_423 A_424
        have f_425 : Ary Z h_422 a_369 .char [(.int ca), (.int cb), (.int 60), (.int cd)] := A_424
        refine aL C ((.ref a_369)) at_163 rfl rfl <| iL C 2 at_165 rfl <| iC C 1 at_167 rfl <| yiadd C at_168 <| eS [(.int 3), (.ref a_369)] rfl <| iL C sv at_169 rfl <| ycastore C f_425 (by decide) (i := 3) (by decide) (show 3 < 4 by decide) (w := (.int sv)) (congrArg Value.int ksv) ge_a_369 at_171 ?_
        intro h_426 K_427 A_428
        have f_429 : Ary Z h_426 a_369 .char [(.int ca), (.int cb), (.int 60), (.int sv)] := A_428
        refine iL C 3 at_172 rfl <| iC C 3 at_174 rfl <| cY C at_175 (XT.ii_eq_t (by decide)) 184 (by decide) <| iL C sv at_184 rfl <| iB C 47 at_186 rfl ?_
        by_cases hb_430 : sv = 47
        · refine yicmp_n C at_188 (XT.ii_ne_f hb_430) <| iC C 0 at_191 rfl <| iS C at_192 (#[iV p0, iV p1, iV p2, iV p3, iV p4, iV 4, iV 2, aV a_369, iV 3, iV sv, iV 0]) rfl <| gT C at_194 226 (by decide) ?_
          have f_431 := (lT (lT (lT (lT (lT (lT (lT Z0 E_371.1) K_375.1) K_379.1) K_383.1) K_387.1) K_423.1) K_427.1)
          have f_432 := (((((((O.ext E_371).keep K_375 (allS ge_a_369 all0)).keep K_379 (allS ge_a_369 all0)).keep K_383 (allS ge_a_369 all0)).keep K_387 (allS ge_a_369 all0)).keep K_423 (allS ge_a_369 all0)).keep K_427 (allS ge_a_369 all0))
          exact rm_tail_4_0 hw p0 p1 p2 p3 p4 4 2 3 sv 0 a_369 ca cb 60 sv [.int (bY ca), .int (bY cb), .int (bY 60), .int (bY sv)] h_426 f_431 cm f_432 f_429 (fun h a q1 q2 q3 q4 q5 q6 q7 q8 => rm_init1_4 hw a a_369 ca cb 60 sv h q1 cm q2 q3 q4 q5 q6 q7 q8 kca kcb (by refine ⟨?_, ?_, ?_⟩ <;> decide) ⟨ksv, (by rw [hb_430]; decide), own_chof ksv⟩) (fun h a b q1 q2 q3 q4 q5 q6 => rm_isStart_4_2_0 hw a b (bY ca) (bY cb) (bY 60) (bY sv) sv h q1 cm q2 q3 q4 q5 q6 (own_l1 (c := 60) (by decide) (by decide)) (own_l1 (c := sv) ksv (show Ch sv from ⟨ksv, (by rw [hb_430]; decide), own_chof ksv⟩).2.1) ksv) (fun r r0 _ => r0 (Or.inl hb_430)) B C
        · refine cY C at_188 (XT.ii_ne_t hb_430) 197 (by decide) <| iL C sv at_197 rfl <| iB C 33 at_199 rfl ?_
          by_cases hb_433 : sv = 33
          · refine yicmp_n C at_201 (XT.ii_ne_f hb_433) <| iC C 0 at_204 rfl <| iS C at_205 (#[iV p0, iV p1, iV p2, iV p3, iV p4, iV 4, iV 2, aV a_369, iV 3, iV sv, iV 0]) rfl <| gT C at_207 226 (by decide) ?_
            have f_434 := (lT (lT (lT (lT (lT (lT (lT Z0 E_371.1) K_375.1) K_379.1) K_383.1) K_387.1) K_423.1) K_427.1)
            have f_435 := (((((((O.ext E_371).keep K_375 (allS ge_a_369 all0)).keep K_379 (allS ge_a_369 all0)).keep K_383 (allS ge_a_369 all0)).keep K_387 (allS ge_a_369 all0)).keep K_423 (allS ge_a_369 all0)).keep K_427 (allS ge_a_369 all0))
            exact rm_tail_4_0 hw p0 p1 p2 p3 p4 4 2 3 sv 0 a_369 ca cb 60 sv [.int (bY ca), .int (bY cb), .int (bY 60), .int (bY sv)] h_426 f_434 cm f_435 f_429 (fun h a q1 q2 q3 q4 q5 q6 q7 q8 => rm_init1_4 hw a a_369 ca cb 60 sv h q1 cm q2 q3 q4 q5 q6 q7 q8 kca kcb (by refine ⟨?_, ?_, ?_⟩ <;> decide) ⟨ksv, (by rw [hb_433]; decide), own_chof ksv⟩) (fun h a b q1 q2 q3 q4 q5 q6 => rm_isStart_4_2_0 hw a b (bY ca) (bY cb) (bY 60) (bY sv) sv h q1 cm q2 q3 q4 q5 q6 (own_l1 (c := 60) (by decide) (by decide)) (own_l1 (c := sv) ksv (show Ch sv from ⟨ksv, (by rw [hb_433]; decide), own_chof ksv⟩).2.1) ksv) (fun r r0 _ => r0 (Or.inr (Or.inl hb_433))) B C
          · refine cY C at_201 (XT.ii_ne_t hb_433) 210 (by decide) <| iL C sv at_210 rfl <| iB C 63 at_212 rfl ?_
            by_cases hb_436 : sv = 63
            · refine yicmp_n C at_214 (XT.ii_ne_f hb_436) <| iC C 0 at_217 rfl <| iS C at_218 (#[iV p0, iV p1, iV p2, iV p3, iV p4, iV 4, iV 2, aV a_369, iV 3, iV sv, iV 0]) rfl <| gT C at_220 226 (by decide) ?_
              have f_437 := (lT (lT (lT (lT (lT (lT (lT Z0 E_371.1) K_375.1) K_379.1) K_383.1) K_387.1) K_423.1) K_427.1)
              have f_438 := (((((((O.ext E_371).keep K_375 (allS ge_a_369 all0)).keep K_379 (allS ge_a_369 all0)).keep K_383 (allS ge_a_369 all0)).keep K_387 (allS ge_a_369 all0)).keep K_423 (allS ge_a_369 all0)).keep K_427 (allS ge_a_369 all0))
              exact rm_tail_4_0 hw p0 p1 p2 p3 p4 4 2 3 sv 0 a_369 ca cb 60 sv [.int (bY ca), .int (bY cb), .int (bY 60), .int (bY sv)] h_426 f_437 cm f_438 f_429 (fun h a q1 q2 q3 q4 q5 q6 q7 q8 => rm_init1_4 hw a a_369 ca cb 60 sv h q1 cm q2 q3 q4 q5 q6 q7 q8 kca kcb (by refine ⟨?_, ?_, ?_⟩ <;> decide) ⟨ksv, (by rw [hb_436]; decide), own_chof ksv⟩) (fun h a b q1 q2 q3 q4 q5 q6 => rm_isStart_4_2_0 hw a b (bY ca) (bY cb) (bY 60) (bY sv) sv h q1 cm q2 q3 q4 q5 q6 (own_l1 (c := 60) (by decide) (by decide)) (own_l1 (c := sv) ksv (show Ch sv from ⟨ksv, (by rw [hb_436]; decide), own_chof ksv⟩).2.1) ksv) (fun r r0 _ => r0 (Or.inr (Or.inr hb_436))) B C
            · refine cY C at_214 (XT.ii_ne_t hb_436) 223 (by decide) <| iC C 1 at_223 rfl <| iS C at_224 (#[iV p0, iV p1, iV p2, iV p3, iV p4, iV 4, iV 2, aV a_369, iV 3, iV sv, iV 1]) rfl ?_
              by_cases hbig : 255 < sv
              · show Go _ _ _ _ 1 4 226 _ []
                have f_439 := (lT (lT (lT (lT (lT (lT (lT Z0 E_371.1) K_375.1) K_379.1) K_383.1) K_387.1) K_423.1) K_427.1)
                have f_440 := (((((((O.ext E_371).keep K_375 (allS ge_a_369 all0)).keep K_379 (allS ge_a_369 all0)).keep K_383 (allS ge_a_369 all0)).keep K_387 (allS ge_a_369 all0)).keep K_423 (allS ge_a_369 all0)).keep K_427 (allS ge_a_369 all0))
                exact rm_tail_4_1 hw p0 p1 p2 p3 p4 4 2 3 sv 1 a_369 ca cb 60 sv [.int (bY (ca >>> (0 &&& 31))), .int (bY (ca >>> (8 &&& 31))), .int (bY (cb >>> (0 &&& 31))), .int (bY (cb >>> (8 &&& 31))), .int (bY ((60 : Int32) >>> (0 &&& 31))), .int (bY ((60 : Int32) >>> (8 &&& 31))), .int (bY (sv >>> (0 &&& 31))), .int (bY (sv >>> (8 &&& 31)))] h_426 f_439 cm f_440 f_429 (fun h a q1 q2 q3 q4 q5 q6 q7 q8 => rm_initB_4_3 hw a a_369 ca cb 60 sv h q1 cm q2 q3 q4 q5 q6 q7 q8 kca kcb (by refine ⟨?_, ?_, ?_⟩ <;> decide) ⟨ksv, hbig⟩) (fun h a b q1 q2 q3 q4 q5 q6 => rm_isStart_4_2_1 hw a b (bY (ca >>> (0 &&& 31))) (bY (ca >>> (8 &&& 31))) (bY (cb >>> (0 &&& 31))) (bY (cb >>> (8 &&& 31))) (bY ((60 : Int32) >>> (0 &&& 31))) (bY ((60 : Int32) >>> (8 &&& 31))) (bY (sv >>> (0 &&& 31))) (bY (sv >>> (8 &&& 31))) sv h q1 cm q2 q3 q4 q5 q6 (own_gc (c := 60) (by decide)) (own_gc (c := sv) ksv) ksv) (fun r _ r1 => r1 hb_430 hb_433 hb_436) B C
              · show Go _ _ _ _ 1 4 226 _ []
                have f_441 := (lT (lT (lT (lT (lT (lT (lT Z0 E_371.1) K_375.1) K_379.1) K_383.1) K_387.1) K_423.1) K_427.1)
                have f_442 := (((((((O.ext E_371).keep K_375 (allS ge_a_369 all0)).keep K_379 (allS ge_a_369 all0)).keep K_383 (allS ge_a_369 all0)).keep K_387 (allS ge_a_369 all0)).keep K_423 (allS ge_a_369 all0)).keep K_427 (allS ge_a_369 all0))
                exact rm_tail_4_0 hw p0 p1 p2 p3 p4 4 2 3 sv 1 a_369 ca cb 60 sv [.int (bY ca), .int (bY cb), .int (bY 60), .int (bY sv)] h_426 f_441 cm f_442 f_429 (fun h a q1 q2 q3 q4 q5 q6 q7 q8 => rm_init1_4 hw a a_369 ca cb 60 sv h q1 cm q2 q3 q4 q5 q6 q7 q8 kca kcb (by refine ⟨?_, ?_, ?_⟩ <;> decide) ⟨ksv, hbig, own_chof ksv⟩) (fun h a b q1 q2 q3 q4 q5 q6 => rm_isStart_4_2_0 hw a b (bY ca) (bY cb) (bY 60) (bY sv) sv h q1 cm q2 q3 q4 q5 q6 (own_l1 (c := 60) (by decide) (by decide)) (own_l1 (c := sv) ksv (show Ch sv from ⟨ksv, hbig, own_chof ksv⟩).2.1) ksv) (fun r _ r1 => r1 hb_430 hb_433 hb_436) B C
  · subst i_1e
    show Go _ _ _ _ 0 0 4 _ [(.int 3), (.int 2)]
    refine yiadd C at_4 <| eS [(.int 5)] rfl <| iS C at_5 (#[iV p0, iV p1, iV p2, iV p3, iV p4, iV 5, uV, uV, uV, uV, uV]) rfl <| iN C p1 at_7 rfl <| yldc C (v := 2147483647) (oW hw 0 rfl) at_8 <| yiand C at_10 <| iL C 5 at_11 rfl <| iC C 1 at_13 rfl <| yisub C at_14 <| eS [(.int 4), (.int (p1 &&& 2147483647))] rfl <| yirem C at_15 (by decide) ?_
    obtain ⟨i_443, hi_444⟩ : ∃ z : Int32, z = ((p1 &&& 2147483647) - ((p1 &&& 2147483647) / 4) * 4) := ⟨_, rfl⟩
    rw [← hi_444]
    rcases own_split4 i_443 (by rw [hi_444]; exact (own_rem4 (own_nn p1)).1) (by rw [hi_444]; exact (own_rem4 (own_nn p1)).2) with i_443e | i_443e | i_443e | i_443e
    · subst i_443e
      show Go _ _ _ _ 0 0 16 _ [(.int 0)]
      refine iS C at_16 (#[iV p0, iV p1, iV p2, iV p3, iV p4, iV 5, iV 0, uV, uV, uV, uV]) rfl <| iL C 5 at_18 rfl <| ynewarray C (oW hw 1 rfl) (ty := .char) rfl (by decide) (cap := 5) (by decide) (by decide) (by decide) (by decide) at_20 ?_
      intro h_445 a_446 g_447 E_448 A_449
      have ge_a_446 : n0 ≤ a_446 := lT Z0 (lE g_447.symm)
      have gs_a_446 : h0.size ≤ a_446 := lT (Nat.le_refl h0.size) (lE g_447.symm)
      have f_450 : Ary Z h_445 a_446 .char [(.int 0), (.int 0), (.int 0), (.int 0), (.int 0)] := A_449
      show Go _ _ _ _ 1 5 22 _ [(.ref a_446)]
      refine aS C at_22 (#[iV p0, iV p1, iV p2, iV p3, iV p4, iV 5, iV 0, aV a_446, uV, uV, uV]) rfl rfl <| aL C ((.ref a_446)) at_24 rfl rfl <| iC C 0 at_26 rfl <| iN C p2 at_27 rfl <| iP C 255 at_28 rfl <| yiand C at_31 <| yi2c C at_32 ?_
      rw [i2c_mask p2]
      obtain ⟨ca, eca⟩ : ∃ z : Int32, z = (p2 &&& 255) := ⟨_, rfl⟩
      have kca : Ch ca := by rw [eca]; exact own_chM p2
      rw [← eca]
      refine ycastore C f_450 (by decide) (i := 0) (by decide) (show 0 < 5 by decide) (w := (.int ca)) (congrArg Value.int kca.1) ge_a_446 at_33 ?_
      intro h_451 K_452 A_453
      have f_454 : Ary Z h_451 a_446 .char [(.int ca), (.int 0), (.int 0), (.int 0), (.int 0)] := A_453
      refine aL C ((.ref a_446)) at_34 rfl rfl <| iC C 1 at_36 rfl <| iN C p2 at_37 rfl <| iB C 8 at_38 rfl <| yiushr C at_40 <| iP C 255 at_41 rfl <| yiand C at_44 <| yi2c C at_45 ?_
      rw [i2c_mask (XT.ushr p2 8)]
      obtain ⟨cb, ecb⟩ : ∃ z : Int32, z = ((XT.ushr p2 8) &&& 255) := ⟨_, rfl⟩
      have kcb : Ch cb := by rw [ecb]; exact own_chM (XT.ushr p2 8)
      rw [← ecb]
      refine ycastore C f_454 (by decide) (i := 1) (by decide) (show 1 < 5 by decide) (w := (.int cb)) (congrArg Value.int kcb.1) ge_a_446 at_46 ?_
      intro h_455 K_456 A_457
      have f_458 : Ary Z h_455 a_446 .char [(.int ca), (.int cb), (.int 0), (.int 0), (.int 0)] := A_457
      refine iL C 5 at_47 rfl <| iC C 2 at_49 rfl <| yicmp_n C at_50 (XT.ii_le_f (by decide)) <| aL C ((.ref a_446)) at_53 rfl rfl <| iC C 2 at_55 rfl <| iN C p2 at_56 rfl <| iB C 16 at_57 rfl <| yiushr C at_59 <| iP C 255 at_60 rfl <| yiand C at_63 <| yi2c C at_64 ?_
      rw [i2c_mask (XT.ushr p2 16)]
      obtain ⟨cc, ecc⟩ : ∃ z : Int32, z = ((XT.ushr p2 16) &&& 255) := ⟨_, rfl⟩
      have kcc : Ch cc := by rw [ecc]; exact own_chM (XT.ushr p2 16)
      rw [← ecc]
      refine ycastore C f_458 (by decide) (i := 2) (by decide) (show 2 < 5 by decide) (w := (.int cc)) (congrArg Value.int kcc.1) ge_a_446 at_65 ?_
      intro h_459 K_460 A_461
      have f_462 : Ary Z h_459 a_446 .char [(.int ca), (.int cb), (.int cc), (.int 0), (.int 0)] := A_461
      refine iL C 5 at_66 rfl <| iC C 3 at_68 rfl <| yicmp_n C at_69 (XT.ii_le_f (by decide)) <| aL C ((.ref a_446)) at_72 rfl rfl <| iC C 3 at_74 rfl <| iN C p2 at_75 rfl <| iB C 24 at_76 rfl <| yiushr C at_78 <| iP C 255 at_79 rfl <| yiand C at_82 <| yi2c C at_83 ?_
      rw [i2c_mask (XT.ushr p2 24)]
      obtain ⟨cd, ecd⟩ : ∃ z : Int32, z = ((XT.ushr p2 24) &&& 255) := ⟨_, rfl⟩
      have kcd : Ch cd := by rw [ecd]; exact own_chM (XT.ushr p2 24)
      rw [← ecd]
      refine ycastore C f_462 (by decide) (i := 3) (by decide) (show 3 < 5 by decide) (w := (.int cd)) (congrArg Value.int kcd.1) ge_a_446 at_84 ?_
      intro h_463 K_464 A_465
      have f_466 : Ary Z h_463 a_446 .char [(.int ca), (.int cb), (.int cc), (.int cd), (.int 0)] := A_465
      refine iL C 5 at_85 rfl <| iC C 4 at_87 rfl <| yicmp_n C at_88 (XT.ii_le_f (by decide)) <| aL C ((.ref a_446)) at_91 rfl rfl <| iC C 4 at_93 rfl <| iN C p3 at_94 rfl <| iP C 255 at_95 rfl <| yiand C at_98 <| yi2c C at_99 ?_
      rw [i2c_mask p3]
      obtain ⟨ce, ece⟩ : ∃ z : Int32, z = (p3 &&& 255) := ⟨_, rfl⟩
      have kce : Ch ce := by rw [ece]; exact own_chM p3
      rw [← ece]
      refine ycastore C f_466 (by decide) (i := 4) (by decide) (show 4 < 5 by decide) (w := (.int ce)) (congrArg Value.int kce.1) ge_a_446 at_100 ?_
      intro h_467 K_468 A_469
      have f_470 : Ary Z h_467 a_446 .char [(.int ca), (.int cb), (.int cc), (.int cd), (.int ce)] := A_469
      refine iL C p4 at_101 rfl <| iB C 16 at_103 rfl <| yiushr C at_105 <| iC C 3 at_106 rfl <| yiand C at_107 ?_
      obtain ⟨i_471, hi_472⟩ : ∃ z : Int32, z = ((XT.ushr p4 16) &&& 3) := ⟨_, rfl⟩
      rw [← hi_472]
      rcases own_split4 i_471 (by rw [hi_472]; exact (own_m3 _).1) (by rw [hi_472]; exact (own_m3 _).2) with i_471e | i_471e | i_471e | i_471e
      · subst i_471e
        show Go _ _ _ _ 1 5 108 _ [(.int 0)]
        refine iS C at_108 (#[iV p0, iV p1, iV p2, iV p3, iV p4, iV 5, iV 0, aV a_446, iV 0, uV, uV]) rfl <| iL C 0 at_110 rfl <| yif_n C at_112 (XT.i0_ne_f (by decide)) <| iB C 47 at_115 rfl <| iS C at_117 (#[iV p0, iV p1, iV p2, iV p3, iV p4, iV 5, iV 0, aV a_446, iV 0, iV 47, uV]) rfl <| gT C at_119 156 (by decide) <| aL C ((.ref a_446)) at_156 rfl rfl <| iL C 0 at_158 rfl <| iB C 60 at_160 rfl <| ycastore C f_470 (by decide) (i := 0) (by decide) (show 0 < 5 by decide) (w := (.int 60)) rfl ge_a_446 at_162 ?_
        intro h_473 K_474 A_475
        have f_476 : Ary Z h_473 a_446 .char [(.int 60), (.int cb), (.int cc), (.int cd), (.int ce)] := A_475
        refine aL C ((.ref a_446)) at_163 rfl rfl <| iL C 0 at_165 rfl <| iC C 1 at_167 rfl <| yiadd C at_168 <| eS [(.int 1), (.ref a_446)] rfl <| iL C 47 at_169 rfl <| ycastore C f_476 (by decide) (i := 1) (by decide) (show 1 < 5 by decide) (w := (.int 47)) rfl ge_a_446 at_171 ?_
        intro h_477 K_478 A_479
        have f_480 : Ary Z h_477 a_446 .char [(.int 60), (.int 47), (.int cc), (.int cd), (.int ce)] := A_479
        refine iL C 0 at_172 rfl <| iC C 3 at_174 rfl <| yicmp_n C at_175 (XT.ii_eq_f (by decide)) <| iC C 0 at_178 rfl <| iS C at_179 (#[iV p0, iV p1, iV p2, iV p3, iV p4, iV 5, iV 0, aV a_446, iV 0, iV 47, iV 0]) rfl <| gT C at_181 226 (by decide) ?_
        have f_481 := (lT (lT (lT (lT (lT (lT (lT (lT Z0 E_448.1) K_452.1) K_456.1) K_460.1) K_464.1) K_468.1) K_474.1) K_478.1)
        have f_482 := ((((((((O.ext E_448).keep K_452 (allS ge_a_446 all0)).keep K_456 (allS ge_a_446 all0)).keep K_460 (allS ge_a_446 all0)).keep K_464 (allS ge_a_446 all0)).keep K_468 (allS ge_a_446 all0)).keep K_474 (allS ge_a_446 all0)).keep K_478 (allS ge_a_446 all0))
        exact rm_tail_5_0 hw p0 p1 p2 p3 p4 5 0 0 47 0 a_446 60 47 cc cd ce [.int (bY 60), .int (bY 47), .int (bY cc), .int (bY cd), .int (bY ce)] h_477 f_481 cm f_482 f_480 (fun h a q1 q2 q3 q4 q5 q6 q7 q8 => rm_init1_5 hw a a_446 60 47 cc cd ce h q1 cm q2 q3 q4 q5 q6 q7 q8 (by refine ⟨?_, ?_, ?_⟩ <;> decide) (by refine ⟨?_, ?_, ?_⟩ <;> decide) kcc kcd kce) (fun h a b q1 q2 q3 q4 q5 q6 => rm_isStart_5_0_0 hw a b (bY 60) (bY 47) (bY cc) (bY cd) (bY ce) 47 h q1 cm q2 q3 q4 q5 q6 (own_l1 (c := 60) (by decide) (by decide)) (own_l1 (c := 47) (by decide) (by decide)) (by decide)) (fun r r0 _ => r0 (Or.inl rfl)) B C
      · subst i_471e
        show Go _ _ _ _ 1 5 108 _ [(.int 1)]
        refine iS C at_108 (#[iV p0, iV p1, iV p2, iV p3, iV p4, iV 5, iV 0, aV a_446, iV 1, uV, uV]) rfl <| iL C 1 at_110 rfl <| fY C at_112 (XT.i0_ne_t (by decide)) 122 (by decide) <| iL C 1 at_122 rfl <| iC C 1 at_124 rfl <| yicmp_n C at_125 (XT.ii_ne_f (by decide)) <| iB C 33 at_128 rfl <| iS C at_130 (#[iV p0, iV p1, iV p2, iV p3, iV p4, iV 5, iV 0, aV a_446, iV 1, iV 33, uV]) rfl <| gT C at_132 156 (by decide) <| aL C ((.ref a_446)) at_156 rfl rfl <| iL C 0 at_158 rfl <| iB C 60 at_160 rfl <| ycastore C f_470 (by decide) (i := 0) (by decide) (show 0 < 5 by decide) (w := (.int 60)) rfl ge_a_446 at_162 ?_
        intro h_483 K_484 A_485
        have f_486 : Ary Z h_483 a_446 .char [(.int 60), (.int cb), (.int cc), (.int cd), (.int ce)] := A_485
        refine aL C ((.ref a_446)) at_163 rfl rfl <| iL C 0 at_165 rfl <| iC C 1 at_167 rfl <| yiadd C at_168 <| eS [(.int 1), (.ref a_446)] rfl <| iL C 33 at_169 rfl <| ycastore C f_486 (by decide) (i := 1) (by decide) (show 1 < 5 by decide) (w := (.int 33)) rfl ge_a_446 at_171 ?_
        intro h_487 K_488 A_489
        have f_490 : Ary Z h_487 a_446 .char [(.int 60), (.int 33), (.int cc), (.int cd), (.int ce)] := A_489
        refine iL C 1 at_172 rfl <| iC C 3 at_174 rfl <| yicmp_n C at_175 (XT.ii_eq_f (by decide)) <| iC C 0 at_178 rfl <| iS C at_179 (#[iV p0, iV p1, iV p2, iV p3, iV p4, iV 5, iV 0, aV a_446, iV 1, iV 33, iV 0]) rfl <| gT C at_181 226 (by decide) ?_
        have f_491 := (lT (lT (lT (lT (lT (lT (lT (lT Z0 E_448.1) K_452.1) K_456.1) K_460.1) K_464.1) K_468.1) K_484.1) K_488.1)
        have f_492 := ((((((((O.ext E_448).keep K_452 (allS ge_a_446 all0)).keep K_456 (allS ge_a_446 all0)).keep K_460 (allS ge_a_446 all0)).keep K_464 (allS ge_a_446 all0)).keep K_468 (allS ge_a_446 all0)).keep K_484 (allS ge_a_446 all0)).keep K_488 (allS ge_a_446 all0))
        exact rm_tail_5_0 hw p0 p1 p2 p3 p4 5 0 1 33 0 a_446 60 33 cc cd ce [.int (bY 60), .int (bY 33), .int (bY cc), .int (bY cd), .int (bY ce)] h_487 f_491 cm f_492 f_490 (fun h a q1 q2 q3 q4 q5 q6 q7 q8 => rm_init1_5 hw a a_446 60 33 cc cd ce h q1 cm q2 q3 q4 q5 q6 q7 q8 (by refine ⟨?_, ?_, ?_⟩ <;> decide) (by refine ⟨?_, ?_, ?_⟩ <;> decide) kcc kcd kce) (fun h a b q1 q2 q3 q4 q5 q6 => rm_isStart_5_0_0 hw a b (bY 60) (bY 33) (bY cc) (bY cd) (bY ce) 33 h q1 cm q2 q3 q4 q5 q6 (own_l1 (c := 60) (by decide) (by decide)) (own_l1 (c := 33) (by decide) (by decide)) (by decide)) (fun r r0 _ => r0 (Or.inr (Or.inl rfl))) B C
      · subst i_471e
        show Go _ _ _ _ 1 5 108 _ [(.int 2)]
        refine iS C at_108 (#[iV p0, iV p1, iV p2, iV p3, iV p4, iV 5, iV 0, aV a_446, iV 2, uV, uV]) rfl <| iL C 2 at_110 rfl <| fY C at_112 (XT.i0_ne_t (by decide)) 122 (by decide) <| iL C 2 at_122 rfl <| iC C 1 at_124 rfl <| cY C at_125 (XT.ii_ne_t (by decide)) 135 (by decide) <| iL C 2 at_135 rfl <| iC C 2 at_137 rfl <| yicmp_n C at_138 (XT.ii_ne_f (by decide)) <| iB C 63 at_141 rfl <| iS C at_143 (#[iV p0, iV p1, iV p2, iV p3, iV p4, iV 5, iV 0, aV a_446, iV 2, iV 63, uV]) rfl <| gT C at_145 156 (by decide) <| aL C ((.ref a_446)) at_156 rfl rfl <| iL C 0 at_158 rfl <| iB C 60 at_160 rfl <| ycastore C f_470 (by decide) (i := 0) (by decide) (show 0 < 5 by decide) (w := (.int 60)) rfl ge_a_446 at_162 ?_
        intro h_493 K_494 A_495
        have f_496 : Ary Z h_493 a_446 .char [(.int 60), (.int cb), (.int cc), (.int cd), (.int ce)] := A_495
        refine aL C ((.ref a_446)) at_163 rfl rfl <| iL C 0 at_165 rfl <| iC C 1 at_167 rfl <| yiadd C at_168 <| eS [(.int 1), (.ref a_446)] rfl <| iL C 63 at_169 rfl <| ycastore C f_496 (by decide) (i := 1) (by decide) (show 1 < 5 by decide) (w := (.int 63)) rfl ge_a_446 at_171 ?_
        intro h_497 K_498 A_499
        have f_500 : Ary Z h_497 a_446 .char [(.int 60), (.int 63), (.int cc), (.int cd), (.int ce)] := A_499
        refine iL C 2 at_172 rfl <| iC C 3 at_174 rfl <| yicmp_n C at_175 (XT.ii_eq_f (by decide)) <| iC C 0 at_178 rfl <| iS C at_179 (#[iV p0, iV p1, iV p2, iV p3, iV p4, iV 5, iV 0, aV a_446, iV 2, iV 63, iV 0]) rfl <| gT C at_181 226 (by decide) ?_
        have f_501 := (lT (lT (lT (lT (lT (lT (lT (lT Z0 E_448.1) K_452.1) K_456.1) K_460.1) K_464.1) K_468.1) K_494.1) K_498.1)
        have f_502 := ((((((((O.ext E_448).keep K_452 (allS ge_a_446 all0)).keep K_456 (allS ge_a_446 all0)).keep K_460 (allS ge_a_446 all0)).keep K_464 (allS ge_a_446 all0)).keep K_468 (allS ge_a_446 all0)).keep K_494 (allS ge_a_446 all0)).keep K_498 (allS ge_a_446 all0))
        exact rm_tail_5_0 hw p0 p1 p2 p3 p4 5 0 2 63 0 a_446 60 63 cc cd ce [.int (bY 60), .int (bY 63), .int (bY cc), .int (bY cd), .int (bY ce)] h_497 f_501 cm f_502 f_500 (fun h a q1 q2 q3 q4 q5 q6 q7 q8 => rm_init1_5 hw a a_446 60 63 cc cd ce h q1 cm q2 q3 q4 q5 q6 q7 q8 (by refine ⟨?_, ?_, ?_⟩ <;> decide) (by refine ⟨?_, ?_, ?_⟩ <;> decide) kcc kcd kce) (fun h a b q1 q2 q3 q4 q5 q6 => rm_isStart_5_0_0 hw a b (bY 60) (bY 63) (bY cc) (bY cd) (bY ce) 63 h q1 cm q2 q3 q4 q5 q6 (own_l1 (c := 60) (by decide) (by decide)) (own_l1 (c := 63) (by decide) (by decide)) (by decide)) (fun r r0 _ => r0 (Or.inr (Or.inr rfl))) B C
      · subst i_471e
        show Go _ _ _ _ 1 5 108 _ [(.int 3)]
        refine iS C at_108 (#[iV p0, iV p1, iV p2, iV p3, iV p4, iV 5, iV 0, aV a_446, iV 3, uV, uV]) rfl <| iL C 3 at_110 rfl <| fY C at_112 (XT.i0_ne_t (by decide)) 122 (by decide) <| iL C 3 at_122 rfl <| iC C 1 at_124 rfl <| cY C at_125 (XT.ii_ne_t (by decide)) 135 (by decide) <| iL C 3 at_135 rfl <| iC C 2 at_137 rfl <| cY C at_138 (XT.ii_ne_t (by decide)) 148 (by decide) <| iL C p4 at_148 rfl <| yldc C (v := 65535) (oW hw 70 rfl) at_150 <| yiand C at_152 <| yi2c C at_153 ?_
        obtain ⟨sv, esv⟩ : ∃ z : Int32, z = (UInt32.toInt32 (UInt16.toUInt32 (UInt32.toUInt16 (Int32.toUInt32 (p4 &&& 65535))))) := ⟨_, rfl⟩
        have ksv : nar .char sv = sv := by rw [esv]; exact own_nari2c _
        rw [← esv]
        refine iS C at_154 (#[iV p0, iV p1, iV p2, iV p3, iV p4, iV 5, iV 0, aV a_446, iV 3, iV sv, uV]) rfl <| aL C ((.ref a_446)) at_156 rfl rfl <| iL C 0 at_158 rfl <| iB C 60 at_160 rfl <| ycastore C f_470 (by decide) (i := 0) (by decide) (show 0 < 5 by decide) (w := (.int 60)) rfl ge_a_446 at_162 ?_
        intro h_503 K_504 A_505
        have f_506 : Ary Z h_503 a_446 .char [(.int 60), (.int cb), (.int cc), (.int cd), (.int ce)] := A_505
        refine aL C ((.ref a_446)) at_163 rfl rfl <| iL C 0 at_165 rfl <| iC C 1 at_167 rfl <| yiadd C at_168 <| eS [(.int 1), (.ref a_446)] rfl <| iL C sv at_169 rfl <| ycastore C f_506 (by decide) (i := 1) (by decide) (show 1 < 5 by decide) (w := (.int sv)) (congrArg Value.int ksv) ge_a_446 at_171 ?_
        intro h_507 K_508 A_509
        have f_510 : Ary Z h_507 a_446 .char [(.int 60), (.int sv), (.int cc), (.int cd), (.int ce)] := A_509
        refine iL C 3 at_172 rfl <| iC C 3 at_174 rfl <| cY C at_175 (XT.ii_eq_t (by decide)) 184 (by decide) <| iL C sv at_184 rfl <| iB C 47 at_186 rfl ?_
        by_cases hb_511 : sv = 47
        · refine yicmp_n C at_188 (XT.ii_ne_f hb_511) <| iC C 0 at_191 rfl <| iS C at_192 (#[iV p0, iV p1, iV p2, iV p3, iV p4, iV 5, iV 0, aV a_446, iV 3, iV sv, iV 0]) rfl <| gT C at_194 226 (by decide) ?_
          have f_512 := (lT (lT (lT (lT (lT (lT (lT (lT Z0 E_448.1) K_452.1) K_456.1) K_460.1) K_464.1) K_468.1) K_504.1) K_508.1)
          have f_513 := ((((((((O.ext E_448).keep K_452 (allS ge_a_446 all0)).keep K_456 (allS ge_a_446 all0)).keep K_460 (allS ge_a_446 all0)).keep K_464 (allS ge_a_446 all0)).keep K_468 (allS ge_a_446 all0)).keep K_504 (allS ge_a_446 all0)).keep K_508 (allS ge_a_446 all0))
          exact rm_tail_5_0 hw p0 p1 p2 p3 p4 5 0 3 sv 0 a_446 60 sv cc cd ce [.int (bY 60), .int (bY sv), .int (bY cc), .int (bY cd), .int (bY ce)] h_507 f_512 cm f_513 f_510 (fun h a q1 q2 q3 q4 q5 q6 q7 q8 => rm_init1_5 hw a a_446 60 sv cc cd ce h q1 cm q2 q3 q4 q5 q6 q7 q8 (by refine ⟨?_, ?_, ?_⟩ <;> decide) ⟨ksv, (by rw [hb_511]; decide), own_chof ksv⟩ kcc kcd kce) (fun h a b q1 q2 q3 q4 q5 q6 => rm_isStart_5_0_0 hw a b (bY 60) (bY sv) (bY cc) (bY cd) (bY ce) sv h q1 cm q2 q3 q4 q5 q6 (own_l1 (c := 60) (by decide) (by decide)) (own_l1 (c := sv) ksv (show Ch sv from ⟨ksv, (by rw [hb_511]; decide), own_chof ksv⟩).2.1) ksv) (fun r r0 _ => r0 (Or.inl hb_511)) B C
        · refine cY C at_188 (XT.ii_ne_t hb_511) 197 (by decide) <| iL C sv at_197 rfl <| iB C 33 at_199 rfl ?_
          by_cases hb_514 : sv = 33
          · refine yicmp_n C at_201 (XT.ii_ne_f hb_514) <| iC C 0 at_204 rfl <| iS C at_205 (#[iV p0, iV p1, iV p2, iV p3, iV p4, iV 5, iV 0, aV a_446, iV 3, iV sv, iV 0]) rfl <| gT C at_207 226 (by decide) ?_
            have f_515 := (lT (lT (lT (lT (lT (lT (lT (lT Z0 E_448.1) K_452.1) K_456.1) K_460.1) K_464.1) K_468.1) K_504.1) K_508.1)
            have f_516 := ((((((((O.ext E_448).keep K_452 (allS ge_a_446 all0)).keep K_456 (allS ge_a_446 all0)).keep K_460 (allS ge_a_446 all0)).keep K_464 (allS ge_a_446 all0)).keep K_468 (allS ge_a_446 all0)).keep K_504 (allS ge_a_446 all0)).keep K_508 (allS ge_a_446 all0))
            exact rm_tail_5_0 hw p0 p1 p2 p3 p4 5 0 3 sv 0 a_446 60 sv cc cd ce [.int (bY 60), .int (bY sv), .int (bY cc), .int (bY cd), .int (bY ce)] h_507 f_515 cm f_516 f_510 (fun h a q1 q2 q3 q4 q5 q6 q7 q8 => rm_init1_5 hw a a_446 60 sv cc cd ce h q1 cm q2 q3 q4 q5 q6 q7 q8 (by refine ⟨?_, ?_, ?_⟩ <;> decide) ⟨ksv, (by rw [hb_514]; decide), own_chof ksv⟩ kcc kcd kce) (fun h a b q1 q2 q3 q4 q5 q6 => rm_isStart_5_0_0 hw a b (bY 60) (bY sv) (bY cc) (bY cd) (bY ce) sv h q1 cm q2 q3 q4 q5 q6 (own_l1 (c := 60) (by decide) (by decide)) (own_l1 (c := sv) ksv (show Ch sv from ⟨ksv, (by rw [hb_514]; decide), own_chof ksv⟩).2.1) ksv) (fun r r0 _ => r0 (Or.inr (Or.inl hb_514))) B C
          · refine cY C at_201 (XT.ii_ne_t hb_514) 210 (by decide) <| iL C sv at_210 rfl <| iB C 63 at_212 rfl ?_
            by_cases hb_517 : sv = 63
            · refine yicmp_n C at_214 (XT.ii_ne_f hb_517) <| iC C 0 at_217 rfl <| iS C at_218 (#[iV p0, iV p1, iV p2, iV p3, iV p4, iV 5, iV 0, aV a_446, iV 3, iV sv, iV 0]) rfl <| gT C at_220 226 (by decide) ?_
              have f_518 := (lT (lT (lT (lT (lT (lT (lT (lT Z0 E_448.1) K_452.1) K_456.1) K_460.1) K_464.1) K_468.1) K_504.1) K_508.1)
              have f_519 := ((((((((O.ext E_448).keep K_452 (allS ge_a_446 all0)).keep K_456 (allS ge_a_446 all0)).keep K_460 (allS ge_a_446 all0)).keep K_464 (allS ge_a_446 all0)).keep K_468 (allS ge_a_446 all0)).keep K_504 (allS ge_a_446 all0)).keep K_508 (allS ge_a_446 all0))
              exact rm_tail_5_0 hw p0 p1 p2 p3 p4 5 0 3 sv 0 a_446 60 sv cc cd ce [.int (bY 60), .int (bY sv), .int (bY cc), .int (bY cd), .int (bY ce)] h_507 f_518 cm f_519 f_510 (fun h a q1 q2 q3 q4 q5 q6 q7 q8 => rm_init1_5 hw a a_446 60 sv cc cd ce h q1 cm q2 q3 q4 q5 q6 q7 q8 (by refine ⟨?_, ?_, ?_⟩ <;> decide) ⟨ksv, (by rw [hb_517]; decide), own_chof ksv⟩ kcc kcd kce) (fun h a b q1 q2 q3 q4 q5 q6 => rm_isStart_5_0_0 hw a b (bY 60) (bY sv) (bY cc) (bY cd) (bY ce) sv h q1 cm q2 q3 q4 q5 q6 (own_l1 (c := 60) (by decide) (by decide)) (own_l1 (c := sv) ksv (show Ch sv from ⟨ksv, (by rw [hb_517]; decide), own_chof ksv⟩).2.1) ksv) (fun r r0 _ => r0 (Or.inr (Or.inr hb_517))) B C
            · refine cY C at_214 (XT.ii_ne_t hb_517) 223 (by decide) <| iC C 1 at_223 rfl <| iS C at_224 (#[iV p0, iV p1, iV p2, iV p3, iV p4, iV 5, iV 0, aV a_446, iV 3, iV sv, iV 1]) rfl ?_
              by_cases hbig : 255 < sv
              · show Go _ _ _ _ 1 5 226 _ []
                have f_520 := (lT (lT (lT (lT (lT (lT (lT (lT Z0 E_448.1) K_452.1) K_456.1) K_460.1) K_464.1) K_468.1) K_504.1) K_508.1)
                have f_521 := ((((((((O.ext E_448).keep K_452 (allS ge_a_446 all0)).keep K_456 (allS ge_a_446 all0)).keep K_460 (allS ge_a_446 all0)).keep K_464 (allS ge_a_446 all0)).keep K_468 (allS ge_a_446 all0)).keep K_504 (allS ge_a_446 all0)).keep K_508 (allS ge_a_446 all0))
                exact rm_tail_5_1 hw p0 p1 p2 p3 p4 5 0 3 sv 1 a_446 60 sv cc cd ce [.int (bY ((60 : Int32) >>> (0 &&& 31))), .int (bY ((60 : Int32) >>> (8 &&& 31))), .int (bY (sv >>> (0 &&& 31))), .int (bY (sv >>> (8 &&& 31))), .int (bY (cc >>> (0 &&& 31))), .int (bY (cc >>> (8 &&& 31))), .int (bY (cd >>> (0 &&& 31))), .int (bY (cd >>> (8 &&& 31))), .int (bY (ce >>> (0 &&& 31))), .int (bY (ce >>> (8 &&& 31)))] h_507 f_520 cm f_521 f_510 (fun h a q1 q2 q3 q4 q5 q6 q7 q8 => rm_initB_5_1 hw a a_446 60 sv cc cd ce h q1 cm q2 q3 q4 q5 q6 q7 q8 (by refine ⟨?_, ?_, ?_⟩ <;> decide) ⟨ksv, hbig⟩ kcc kcd kce) (fun h a b q1 q2 q3 q4 q5 q6 => rm_isStart_5_0_1 hw a b (bY ((60 : Int32) >>> (0 &&& 31))) (bY ((60 : Int32) >>> (8 &&& 31))) (bY (sv >>> (0 &&& 31))) (bY (sv >>> (8 &&& 31))) (bY (cc >>> (0 &&& 31))) (bY (cc >>> (8 &&& 31))) (bY (cd >>> (0 &&& 31))) (bY (cd >>> (8 &&& 31))) (bY (ce >>> (0 &&& 31))) (bY (ce >>> (8 &&& 31))) sv h q1 cm q2 q3 q4 q5 q6 (own_gc (c := 60) (by decide)) (own_gc (c := sv) ksv) ksv) (fun r _ r1 => r1 hb_511 hb_514 hb_517) B C
              · show Go _ _ _ _ 1 5 226 _ []
                have f_522 := (lT (lT (lT (lT (lT (lT (lT (lT Z0 E_448.1) K_452.1) K_456.1) K_460.1) K_464.1) K_468.1) K_504.1) K_508.1)
                have f_523 := ((((((((O.ext E_448).keep K_452 (allS ge_a_446 all0)).keep K_456 (allS ge_a_446 all0)).keep K_460 (allS ge_a_446 all0)).keep K_464 (allS ge_a_446 all0)).keep K_468 (allS ge_a_446 all0)).keep K_504 (allS ge_a_446 all0)).keep K_508 (allS ge_a_446 all0))
                exact rm_tail_5_0 hw p0 p1 p2 p3 p4 5 0 3 sv 1 a_446 60 sv cc cd ce [.int (bY 60), .int (bY sv), .int (bY cc), .int (bY cd), .int (bY ce)] h_507 f_522 cm f_523 f_510 (fun h a q1 q2 q3 q4 q5 q6 q7 q8 => rm_init1_5 hw a a_446 60 sv cc cd ce h q1 cm q2 q3 q4 q5 q6 q7 q8 (by refine ⟨?_, ?_, ?_⟩ <;> decide) ⟨ksv, hbig, own_chof ksv⟩ kcc kcd kce) (fun h a b q1 q2 q3 q4 q5 q6 => rm_isStart_5_0_0 hw a b (bY 60) (bY sv) (bY cc) (bY cd) (bY ce) sv h q1 cm q2 q3 q4 q5 q6 (own_l1 (c := 60) (by decide) (by decide)) (own_l1 (c := sv) ksv (show Ch sv from ⟨ksv, hbig, own_chof ksv⟩).2.1) ksv) (fun r _ r1 => r1 hb_511 hb_514 hb_517) B C
    · subst i_443e
      show Go _ _ _ _ 0 0 16 _ [(.int 1)]
      refine iS C at_16 (#[iV p0, iV p1, iV p2, iV p3, iV p4, iV 5, iV 1, uV, uV, uV, uV]) rfl <| iL C 5 at_18 rfl <| ynewarray C (oW hw 1 rfl) (ty := .char) rfl (by decide) (cap := 5) (by decide) (by decide) (by decide) (by decide) at_20 ?_
      intro h_524 a_525 g_526 E_527 A_528
      have ge_a_525 : n0 ≤ a_525 := lT Z0 (lE g_526.symm)
      have gs_a_525 : h0.size ≤ a_525 := lT (Nat.le_refl h0.size) (lE g_526.symm)
      have f_529 : Ary Z h_524 a_525 .char [(.int 0), (.int 0), (.int 0), (.int 0), (.int 0)] := A_528
      show Go _ _ _ _ 1 5 22 _ [(.ref a_525)]
      refine aS C at_22 (#[iV p0, iV p1, iV p2, iV p3, iV p4, iV 5, iV 1, aV a_525, uV, uV, uV]) rfl rfl <| aL C ((.ref a_525)) at_24 rfl rfl <| iC C 0 at_26 rfl <| iN C p2 at_27 rfl <| iP C 255 at_28 rfl <| yiand C at_31 <| yi2c C at_32 ?_
      rw [i2c_mask p2]
      obtain ⟨ca, eca⟩ : ∃ z : Int32, z = (p2 &&& 255) := ⟨_, rfl⟩
      have kca : Ch ca := by rw [eca]; exact own_chM p2
      rw [← eca]
      refine ycastore C f_529 (by decide) (i := 0) (by decide) (show 0 < 5 by decide) (w := (.int ca)) (congrArg Value.int kca.1) ge_a_525 at_33 ?_
      intro h_530 K_531 A_532
      have f_533 : Ary Z h_530 a_525 .char [(.int ca), (.int 0), (.int 0), (.int 0), (.int 0)] := A_532
      refine aL C ((.ref a_525)) at_34 rfl rfl <| iC C 1 at_36 rfl <| iN C p2 at_37 rfl <| iB C 8 at_38 rfl <| yiushr C at_40 <| iP C 255 at_41 rfl <| yiand C at_44 <| yi2c C at_45 ?_
      rw [i2c_mask (XT.ushr p2 8)]
      obtain ⟨cb, ecb⟩ : ∃ z : Int32, z = ((XT.ushr p2 8) &&& 255) := ⟨_, rfl⟩
      have kcb : Ch cb := by rw [ecb]; exact own_chM (XT.ushr p2 8)
      rw [← ecb]
      refine ycastore C f_533 (by decide) (i := 1) (by decide) (show 1 < 5 by decide) (w := (.int cb)) (congrArg Value.int kcb.1) ge_a_525 at_46 ?_
      intro h_534 K_535 A_536
      have f_537 : Ary Z h_534 a_525 .char [(.int ca), (.int cb), (.int 0), (.int 0), (.int 0)] := A_536
      refine iL C 5 at_47 rfl <| iC C 2 at_49 rfl <| yicmp_n C at_50 (XT.ii_le_f (by decide)) <| aL C ((.ref a_525)) at_53 rfl rfl <| iC C 2 at_55 rfl <| iN C p2 at_56 rfl <| iB C 16 at_57 rfl <| yiushr C at_59 <| iP C 255 at_60 rfl <| yiand C at_63 <| yi2c C at_64 ?_
      rw [i2c_mask (XT.ushr p2 16)]
      obtain ⟨cc, ecc⟩ : ∃ z : Int32, z = ((XT.ushr p2 16) &&& 255) := ⟨_, rfl⟩
      have kcc : Ch cc := by rw [ecc]; exact own_chM (XT.ushr p2 16)
      rw [← ecc]
      refine ycastore C f_537 (by decide) (i := 2) (by decide) (show 2 < 5 by decide) (w := (.int cc)) (congrArg Value.int kcc.1) ge_a_525 at_65 ?_
      intro h_538 K_539 A_540
      have f_541 : Ary Z h_538 a_525 .char [(.int ca), (.int cb), (.int cc), (.int 0), (.int 0)] := A_540
      refine iL C 5 at_66 rfl <| iC C 3 at_68 rfl <| yicmp_n C at_69 (XT.ii_le_f (by decide)) <| aL C ((.ref a_525)) at_72 rfl rfl <| iC C 3 at_74 rfl <| iN C p2 at_75 rfl <| iB C 24 at_76 rfl <| yiushr C at_78 <| iP C 255 at_79 rfl <| yiand C at_82 <| yi2c C at_83 ?_
      rw [i2c_mask (XT.ushr p2 24)]
      obtain ⟨cd, ecd⟩ : ∃ z : Int32, z = ((XT.ushr p2 24) &&& 255) := ⟨_, rfl⟩
      have kcd : Ch cd := by rw [ecd]; exact own_chM (XT.ushr p2 24)
      rw [← ecd]
      refine ycastore C f_541 (by decide) (i := 3) (by decide) (show 3 < 5 by decide) (w := (.int cd)) (congrArg Value.int kcd.1) ge_a_525 at_84 ?_
      intro h_542 K_543 A_544
      have f_545 : Ary Z h_542 a_525 .char [(.int ca), (.int cb), (.int cc), (.int cd), (.int 0)] := A_544
      refine iL C 5 at_85 rfl <| iC C 4 at_87 rfl <| yicmp_n C at_88 (XT.ii_le_f (by decide)) <| aL C ((.ref a_525)) at_91 rfl rfl <| iC C 4 at_93 rfl <| iN C p3 at_94 rfl <| iP C 255 at_95 rfl <| yiand C at_98 <| yi2c C at_99 ?_
      rw [i2c_mask p3]
      obtain ⟨ce, ece⟩ : ∃ z : Int32, z = (p3 &&& 255) := ⟨_, rfl⟩
      have kce : Ch ce := by rw [ece]; exact own_chM p3
      rw [← ece]
      refine ycastore C f_545 (by decide) (i := 4) (by decide) (show 4 < 5 by decide) (w := (.int ce)) (congrArg Value.int kce.1) ge_a_525 at_100 ?_
      intro h_546 K_547 A_548
      have f_549 : Ary Z h_546 a_525 .char [(.int ca), (.int cb), (.int cc), (.int cd), (.int ce)] := A_548
      refine iL C p4 at_101 rfl <| iB C 16 at_103 rfl <| yiushr C at_105 <| iC C 3 at_106 rfl <| yiand C at_107 ?_
      obtain ⟨i_550, hi_551⟩ : ∃ z : Int32, z = ((XT.ushr p4 16) &&& 3) := ⟨_, rfl⟩
      rw [← hi_551]
      rcases own_split4 i_550 (by rw [hi_551]; exact (own_m3 _).1) (by rw [hi_551]; exact (own_m3 _).2) with i_550e | i_550e | i_550e | i_550e
      · subst i_550e
        show Go _ _ _ _ 1 5 108 _ [(.int 0)]
        refine iS C at_108 (#[iV p0, iV p1, iV p2, iV p3, iV p4, iV 5, iV 1, aV a_525, iV 0, uV, uV]) rfl <| iL C 0 at_110 rfl <| yif_n C at_112 (XT.i0_ne_f (by decide)) <| iB C 47 at_115 rfl <| iS C at_117 (#[iV p0, iV p1, iV p2, iV p3, iV p4, iV 5, iV 1, aV a_525, iV 0, iV 47, uV]) rfl <| gT C at_119 156 (by decide) <| aL C ((.ref a_525)) at_156 rfl rfl <| iL C 1 at_158 rfl <| iB C 60 at_160 rfl <| ycastore C f_549 (by decide) (i := 1) (by decide) (show 1 < 5 by decide) (w := (.int 60)) rfl ge_a_525 at_162 ?_
        intro h_552 K_553 A_554
        have f_555 : Ary Z h_552 a_525 .char [(.int ca), (.int 60), (.int cc), (.int cd), (.int ce)] := A_554
        refine aL C ((.ref a_525)) at_163 rfl rfl <| iL C 1 at_165 rfl <| iC C 1 at_167 rfl <| yiadd C at_168 <| eS [(.int 2), (.ref a_525)] rfl <| iL C 47 at_169 rfl <| ycastore C f_555 (by decide) (i := 2) (by decide) (show 2 < 5 by decide) (w := (.int 47)) rfl ge_a_525 at_171 ?_
        intro h_556 K_557 A_558
        have f_559 : Ary Z h_556 a_525 .char [(.int ca), (.int 60), (.int 47), (.int cd), (.int ce)] := A_558
        refine iL C 0 at_172 rfl <| iC C 3 at_174 rfl <| yicmp_n C at_175 (XT.ii_eq_f (by decide)) <| iC C 0 at_178 rfl <| iS C at_179 (#[iV p0, iV p1, iV p2, iV p3, iV p4, iV 5, iV 1, aV a_525, iV 0, iV 47, iV 0]) rfl <| gT C at_181 226 (by decide) ?_
        have f_560 := (lT (lT (lT (lT (lT (lT (lT (lT Z0 E_527.1) K_531.1) K_535.1) K_539.1) K_543.1) K_547.1) K_553.1) K_557.1)
        have f_561 := ((((((((O.ext E_527).keep K_531 (allS ge_a_525 all0)).keep K_535 (allS ge_a_525 all0)).keep K_539 (allS ge_a_525 all0)).keep K_543 (allS ge_a_525 all0)).keep K_547 (allS ge_a_525 all0)).keep K_553 (allS ge_a_525 all0)).keep K_557 (allS ge_a_525 all0))
        exact rm_tail_5_0 hw p0 p1 p2 p3 p4 5 1 0 47 0 a_525 ca 60 47 cd ce [.int (bY ca), .int (bY 60), .int (bY 47), .int (bY cd), .int (bY ce)] h_556 f_560 cm f_561 f_559 (fun h a q1 q2 q3 q4 q5 q6 q7 q8 => rm_init1_5 hw a a_525 ca 60 47 cd ce h q1 cm q2 q3 q4 q5 q6 q7 q8 kca (by refine ⟨?_, ?_, ?_⟩ <;> decide) (by refine ⟨?_, ?_, ?_⟩ <;> decide) kcd kce) (fun h a b q1 q2 q3 q4 q5 q6 => rm_isStart_5_1_0 hw a b (bY ca) (bY 60) (bY 47) (bY cd) (bY ce) 47 h q1 cm q2 q3 q4 q5 q6 (own_l1 (c := 60) (by decide) (by decide)) (own_l1 (c := 47) (by decide) (by decide)) (by decide)) (fun r r0 _ => r0 (Or.inl rfl)) B C
      · subst i_550e
        show Go _ _ _ _ 1 5 108 _ [(.int 1)]
        refine iS C at_108 (#[iV p0, iV p1, iV p2, iV p3, iV p4, iV 5, iV 1, aV a_525, iV 1, uV, uV]) rfl <| iL C 1 at_110 rfl <| fY C at_112 (XT.i0_ne_t (by decide)) 122 (by decide) <| iL C 1 at_122 rfl <| iC C 1 at_124 rfl <| yicmp_n C at_125 (XT.ii_ne_f (by decide)) <| iB C 33 at_128 rfl <| iS C at_130 (#[iV p0, iV p1, iV p2, iV p3, iV p4, iV 5, iV 1, aV a_525, iV 1, iV 33, uV]) rfl <| gT C at_132 156 (by decide) <| aL C ((.ref a_525)) at_156 rfl rfl <| iL C 1 at_158 rfl <| iB C 60 at_160 rfl <| ycastore C f_549 (by decide) (i := 1) (by decide) (show 1 < 5 by decide) (w := (.int 60)) rfl ge_a_525 at_162 ?_
        intro h_562 K_563 A_564
        have f_565 : Ary Z h_562 a_525 .char [(.int ca), (.int 60), (.int cc), (.int cd), (.int ce)] := A_564
        refine aL C ((.ref a_525)) at_163 rfl rfl <| iL C 1 at_165 rfl <| iC C 1 at_167 rfl <| yiadd C at_168 <| eS [(.int 2), (.ref a_525)] rfl <| iL C 33 at_169 rfl <| ycastore C f_565 (by decide) (i := 2) (by decide) (show 2 < 5 by decide) (w := (.int 33)) rfl ge_a_525 at_171 ?_
        intro h_566 K_567 A_568
        have f_569 : Ary Z h_566 a_525 .char [(.int ca), (.int 60), (.int 33), (.int cd), (.int ce)] := A_568
        refine iL C 1 at_172 rfl <| iC C 3 at_174 rfl <| yicmp_n C at_175 (XT.ii_eq_f (by decide)) <| iC C 0 at_178 rfl <| iS C at_179 (#[iV p0, iV p1, iV p2, iV p3, iV p4, iV 5, iV 1, aV a_525, iV 1, iV 33, iV 0]) rfl <| gT C at_181 226 (by decide) ?_
        have f_570 := (lT (lT (lT (lT (lT (lT (lT (lT Z0 E_527.1) K_531.1) K_535.1) K_539.1) K_543.1) K_547.1) K_563.1) K_567.1)
        have f_571 := ((((((((O.ext E_527).keep K_531 (allS ge_a_525 all0)).keep K_535 (allS ge_a_525 all0)).keep K_539 (allS ge_a_525 all0)).keep K_543 (allS ge_a_525 all0)).keep K_547 (allS ge_a_525 all0)).keep K_563 (allS ge_a_525 all0)).keep K_567 (allS ge_a_525 all0))
        exact rm_tail_5_0 hw p0 p1 p2 p3 p4 5 1 1 33 0 a_525 ca 60 33 cd ce [.int (bY ca), .int (bY 60), .int (bY 33), .int (bY cd), .int (bY ce)] h_566 f_570 cm f_571 f_569 (fun h a q1 q2 q3 q4 q5 q6 q7 q8 => rm_init1_5 hw a a_525 ca 60 33 cd ce h q1 cm q2 q3 q4 q5 q6 q7 q8 kca (by refine ⟨?_, ?_, ?_⟩ <;> decide) (by refine ⟨?_, ?_, ?_⟩ <;> decide) kcd kce) (fun h a b q1 q2 q3 q4 q5 q6 => rm_isStart_5_1_0 hw a b (bY ca) (bY 60) (bY 33) (bY cd) (bY ce) 33 h q1 cm q2 q3 q4 q5 q6 (own_l1 (c := 60) (by decide) (by decide)) (own_l1 (c := 33) (by decide) (by decide)) (by decide)) (fun r r0 _ => r0 (Or.inr (Or.inl rfl))) B C
      · subst i_550e
        show Go _ _ _ _ 1 5 108 _ [(.int 2)]
        refine iS C at_108 (#[iV p0, iV p1, iV p2, iV p3, iV p4, iV 5, iV 1, aV a_525, iV 2, uV, uV]) rfl <| iL C 2 at_110 rfl <| fY C at_112 (XT.i0_ne_t (by decide)) 122 (by decide) <| iL C 2 at_122 rfl <| iC C 1 at_124 rfl <| cY C at_125 (XT.ii_ne_t (by decide)) 135 (by decide) <| iL C 2 at_135 rfl <| iC C 2 at_137 rfl <| yicmp_n C at_138 (XT.ii_ne_f (by decide)) <| iB C 63 at_141 rfl <| iS C at_143 (#[iV p0, iV p1, iV p2, iV p3, iV p4, iV 5, iV 1, aV a_525, iV 2, iV 63, uV]) rfl <| gT C at_145 156 (by decide) <| aL C ((.ref a_525)) at_156 rfl rfl <| iL C 1 at_158 rfl <| iB C 60 at_160 rfl <| ycastore C f_549 (by decide) (i := 1) (by decide) (show 1 < 5 by decide) (w := (.int 60)) rfl ge_a_525 at_162 ?_
        intro h_572 K_573 A_574
        have f_575 : Ary Z h_572 a_525 .char [(.int ca), (.int 60), (.int cc), (.int cd), (.int ce)] := A_574
        refine aL C ((.ref a_525)) at_163 rfl rfl <| iL C 1 at_165 rfl <| iC C 1 at_167 rfl <| yiadd C at_168 <| eS [(.int 2), (.ref a_525)] rfl <| iL C 63 at_169 rfl <| ycastore C f_575 (by decide) (i := 2) (by decide) (show 2 < 5 by decide) (w := (.int 63)) rfl ge_a_525 at_171 ?_
        intro h_576 K_577 A_578
        have f_579 : Ary Z h_576 a_525 .char [(.int ca), (.int 60), (.int 63), (.int cd), (.int ce)] := A_578
        refine iL C 2 at_172 rfl <| iC C 3 at_174 rfl <| yicmp_n C at_175 (XT.ii_eq_f (by decide)) <| iC C 0 at_178 rfl <| iS C at_179 (#[iV p0, iV p1, iV p2, iV p3, iV p4, iV 5, iV 1, aV a_525, iV 2, iV 63, iV 0]) rfl <| gT C at_181 226 (by decide) ?_
        have f_580 := (lT (lT (lT (lT (lT (lT (lT (lT Z0 E_527.1) K_531.1) K_535.1) K_539.1) K_543.1) K_547.1) K_573.1) K_577.1)
        have f_581 := ((((((((O.ext E_527).keep K_531 (allS ge_a_525 all0)).keep K_535 (allS ge_a_525 all0)).keep K_539 (allS ge_a_525 all0)).keep K_543 (allS ge_a_525 all0)).keep K_547 (allS ge_a_525 all0)).keep K_573 (allS ge_a_525 all0)).keep K_577 (allS ge_a_525 all0))
        exact rm_tail_5_0 hw p0 p1 p2 p3 p4 5 1 2 63 0 a_525 ca 60 63 cd ce [.int (bY ca), .int (bY 60), .int (bY 63), .int (bY cd), .int (bY ce)] h_576 f_580 cm f_581 f_579 (fun h a q1 q2 q3 q4 q5 q6 q7 q8 => rm_init1_5 hw a a_525 ca 60 63 cd ce h q1 cm q2 q3 q4 q5 q6 q7 q8 kca (by refine ⟨?_, ?_, ?_⟩ <;> decide) (by refine ⟨?_, ?_, ?_⟩ <;> decide) kcd kce) (fun h a b q1 q2 q3 q4 q5 q6 => rm_isStart_5_1_0 hw a b (bY ca) (bY 60) (bY 63) (bY cd) (bY ce) 63 h q1 cm q2 q3 q4 q5 q6 (own_l1 (c := 60) (by decide) (by decide)) (own_l1 (c := 63) (by decide) (by decide)) (by decide)) (fun r r0 _ => r0 (Or.inr (Or.inr rfl))) B C
      · subst i_550e
        show Go _ _ _ _ 1 5 108 _ [(.int 3)]
        refine iS C at_108 (#[iV p0, iV p1, iV p2, iV p3, iV p4, iV 5, iV 1, aV a_525, iV 3, uV, uV]) rfl <| iL C 3 at_110 rfl <| fY C at_112 (XT.i0_ne_t (by decide)) 122 (by decide) <| iL C 3 at_122 rfl <| iC C 1 at_124 rfl <| cY C at_125 (XT.ii_ne_t (by decide)) 135 (by decide) <| iL C 3 at_135 rfl <| iC C 2 at_137 rfl <| cY C at_138 (XT.ii_ne_t (by decide)) 148 (by decide) <| iL C p4 at_148 rfl <| yldc C (v := 65535) (oW hw 70 rfl) at_150 <| yiand C at_152 <| yi2c C at_153 ?_
        obtain ⟨sv, esv⟩ : ∃ z : Int32, z = (UInt32.toInt32 (UInt16.toUInt32 (UInt32.toUInt16 (Int32.toUInt32 (p4 &&& 65535))))) := ⟨_, rfl⟩
        have ksv : nar .char sv = sv := by rw [esv]; exact own_nari2c _
        rw [← esv]
        refine iS C at_154 (#[iV p0, iV p1, iV p2, iV p3, iV p4, iV 5, iV 1, aV a_525, iV 3, iV sv, uV]) rfl <| aL C ((.ref a_525)) at_156 rfl rfl <| iL C 1 at_158 rfl <| iB C 60 at_160 rfl <| ycastore C f_549 (by decide) (i := 1) (by decide) (show 1 < 5 by decide) (w := (.int 60)) rfl ge_a_525 at_162 ?_
        intro h_582 K_583 A_584
        have f_585 : Ary Z h_582 a_525 .char [(.int ca), (.int 60), (.int cc), (.int cd), (.int ce)] := A_584
        refine aL C ((.ref a_525)) at_163 rfl rfl <| iL C 1 at_165 rfl <| iC C 1 at_167 rfl <| yiadd C at_168 <| eS [(.int 2), (.ref a_525)] rfl <| iL C sv at_169 rfl <| ycastore C f_585 (by decide) (i := 2) (by decide) (show 2 < 5 by decide) (w := (.int sv)) (congrArg Value.int ksv) ge_a_525 at_171 ?_
        intro h_586 K_587 A_588
        have f_589 : Ary Z h_586 a_525 .char [(.int ca), (.int 60), (.int sv), (.int cd), (.int ce)] := A_588
        refine iL C 3 at_172 rfl <| iC C 3 at_174 rfl <| cY C at_175 (XT.ii_eq_t (by decide)) 184 (by decide) <| iL C sv at_184 rfl <| iB C 47 at_186 rfl ?_
        by_cases hb_590 : sv = 47
        · refine yicmp_n C at_188 (XT.ii_ne_f hb_590) <| iC C 0 at_191 rfl <| iS C at_192 (#[iV p0, iV p1, iV p2, iV p3, iV p4, iV 5, iV 1, aV a_525, iV 3, iV sv, iV 0]) rfl <| gT C at_194 226 (by decide) ?_
          have f_591 := (lT (lT (lT (lT (lT (lT (lT (lT Z0 E_527.1) K_531.1) K_535.1) K_539.1) K_543.1) K_547.1) K_583.1) K_587.1)
          have f_592 := ((((((((O.ext E_527).keep K_531 (allS ge_a_525 all0)).keep K_535 (allS ge_a_525 all0)).keep K_539 (allS ge_a_525 all0)).keep K_543 (allS ge_a_525 all0)).keep K_547 (allS ge_a_525 all0)).keep K_583 (allS ge_a_525 all0)).keep K_587 (allS ge_a_525 all0))
          exact rm_tail_5_0 hw p0 p1 p2 p3 p4 5 1 3 sv 0 a_525 ca 60 sv cd ce [.int (bY ca), .int (bY 60), .int (bY sv), .int (bY cd), .int (bY ce)] h_586 f_591 cm f_592 f_589 (fun h a q1 q2 q3 q4 q5 q6 q7 q8 => rm_init1_5 hw a a_525 ca 60 sv cd ce h q1 cm q2 q3 q4 q5 q6 q7 q8 kca (by refine ⟨?_, ?_, ?_⟩ <;> decide) ⟨ksv, (by rw [hb_590]; decide), own_chof ksv⟩ kcd kce) (fun h a b q1 q2 q3 q4 q5 q6 => rm_isStart_5_1_0 hw a b (bY ca) (bY 60) (bY sv) (bY cd) (bY ce) sv h q1 cm q2 q3 q4 q5 q6 (own_l1 (c := 60) (by decide) (by decide)) (own_l1 (c := sv) ksv (show Ch sv from ⟨ksv, (by rw [hb_590]; decide), own_chof ksv⟩).2.1) ksv) (fun r r0 _ => r0 (Or.inl hb_590)) B C
        · refine cY C at_188 (XT.ii_ne_t hb_590) 197 (by decide) <| iL C sv at_197 rfl <| iB C 33 at_199 rfl ?_
          by_cases hb_593 : sv = 33
          · refine yicmp_n C at_201 (XT.ii_ne_f hb_593) <| iC C 0 at_204 rfl <| iS C at_205 (#[iV p0, iV p1, iV p2, iV p3, iV p4, iV 5, iV 1, aV a_525, iV 3, iV sv, iV 0]) rfl <| gT C at_207 226 (by decide) ?_
            have f_594 := (lT (lT (lT (lT (lT (lT (lT (lT Z0 E_527.1) K_531.1) K_535.1) K_539.1) K_543.1) K_547.1) K_583.1) K_587.1)
            have f_595 := ((((((((O.ext E_527).keep K_531 (allS ge_a_525 all0)).keep K_535 (allS ge_a_525 all0)).keep K_539 (allS ge_a_525 all0)).keep K_543 (allS ge_a_525 all0)).keep K_547 (allS ge_a_525 all0)).keep K_583 (allS ge_a_525 all0)).keep K_587 (allS ge_a_525 all0))
            exact rm_tail_5_0 hw p0 p1 p2 p3 p4 5 1 3 sv 0 a_525 ca 60 sv cd ce [.int (bY ca), .int (bY 60), .int (bY sv), .int (bY cd), .int (bY ce)] h_586 f_594 cm f_595 f_589 (fun h a q1 q2 q3 q4 q5 q6 q7 q8 => rm_init1_5 hw a a_525 ca 60 sv cd ce h q1 cm q2 q3 q4 q5 q6 q7 q8 kca (by refine ⟨?_, ?_, ?_⟩ <;> decide) ⟨ksv, (by rw [hb_593]; decide), own_chof ksv⟩ kcd kce) (fun h a b q1 q2 q3 q4 q5 q6 => rm_isStart_5_1_0 hw a b (bY ca) (bY 60) (bY sv) (bY cd) (bY ce) sv h q1 cm q2 q3 q4 q5 q6 (own_l1 (c := 60) (by decide) (by decide)) (own_l1 (c := sv) ksv (show Ch sv from ⟨ksv, (by rw [hb_593]; decide), own_chof ksv⟩).2.1) ksv) (fun r r0 _ => r0 (Or.inr (Or.inl hb_593))) B C
          · refine cY C at_201 (XT.ii_ne_t hb_593) 210 (by decide) <| iL C sv at_210 rfl <| iB C 63 at_212 rfl ?_
            by_cases hb_596 : sv = 63
            · refine yicmp_n C at_214 (XT.ii_ne_f hb_596) <| iC C 0 at_217 rfl <| iS C at_218 (#[iV p0, iV p1, iV p2, iV p3, iV p4, iV 5, iV 1, aV a_525, iV 3, iV sv, iV 0]) rfl <| gT C at_220 226 (by decide) ?_
              have f_597 := (lT (lT (lT (lT (lT (lT (lT (lT Z0 E_527.1) K_531.1) K_535.1) K_539.1) K_543.1) K_547.1) K_583.1) K_587.1)
              have f_598 := ((((((((O.ext E_527).keep K_531 (allS ge_a_525 all0)).keep K_535 (allS ge_a_525 all0)).keep K_539 (allS ge_a_525 all0)).keep K_543 (allS ge_a_525 all0)).keep K_547 (allS ge_a_525 all0)).keep K_583 (allS ge_a_525 all0)).keep K_587 (allS ge_a_525 all0))
              exact rm_tail_5_0 hw p0 p1 p2 p3 p4 5 1 3 sv 0 a_525 ca 60 sv cd ce [.int (bY ca), .int (bY 60), .int (bY sv), .int (bY cd), .int (bY ce)] h_586 f_597 cm f_598 f_589 (fun h a q1 q2 q3 q4 q5 q6 q7 q8 => rm_init1_5 hw a a_525 ca 60 sv cd ce h q1 cm q2 q3 q4 q5 q6 q7 q8 kca (by refine ⟨?_, ?_, ?_⟩ <;> decide) ⟨ksv, (by rw [hb_596]; decide), own_chof ksv⟩ kcd kce) (fun h a b q1 q2 q3 q4 q5 q6 => rm_isStart_5_1_0 hw a b (bY ca) (bY 60) (bY sv) (bY cd) (bY ce) sv h q1 cm q2 q3 q4 q5 q6 (own_l1 (c := 60) (by decide) (by decide)) (own_l1 (c := sv) ksv (show Ch sv from ⟨ksv, (by rw [hb_596]; decide), own_chof ksv⟩).2.1) ksv) (fun r r0 _ => r0 (Or.inr (Or.inr hb_596))) B C
            · refine cY C at_214 (XT.ii_ne_t hb_596) 223 (by decide) <| iC C 1 at_223 rfl <| iS C at_224 (#[iV p0, iV p1, iV p2, iV p3, iV p4, iV 5, iV 1, aV a_525, iV 3, iV sv, iV 1]) rfl ?_
              by_cases hbig : 255 < sv
              · show Go _ _ _ _ 1 5 226 _ []
                have f_599 := (lT (lT (lT (lT (lT (lT (lT (lT Z0 E_527.1) K_531.1) K_535.1) K_539.1) K_543.1) K_547.1) K_583.1) K_587.1)
                have f_600 := ((((((((O.ext E_527).keep K_531 (allS ge_a_525 all0)).keep K_535 (allS ge_a_525 all0)).keep K_539 (allS ge_a_525 all0)).keep K_543 (allS ge_a_525 all0)).keep K_547 (allS ge_a_525 all0)).keep K_583 (allS ge_a_525 all0)).keep K_587 (allS ge_a_525 all0))
                exact rm_tail_5_1 hw p0 p1 p2 p3 p4 5 1 3 sv 1 a_525 ca 60 sv cd ce [.int (bY (ca >>> (0 &&& 31))), .int (bY (ca >>> (8 &&& 31))), .int (bY ((60 : Int32) >>> (0 &&& 31))), .int (bY ((60 : Int32) >>> (8 &&& 31))), .int (bY (sv >>> (0 &&& 31))), .int (bY (sv >>> (8 &&& 31))), .int (bY (cd >>> (0 &&& 31))), .int (bY (cd >>> (8 &&& 31))), .int (bY (ce >>> (0 &&& 31))), .int (bY (ce >>> (8 &&& 31)))] h_586 f_599 cm f_600 f_589 (fun h a q1 q2 q3 q4 q5 q6 q7 q8 => rm_initB_5_2 hw a a_525 ca 60 sv cd ce h q1 cm q2 q3 q4 q5 q6 q7 q8 kca (by refine ⟨?_, ?_, ?_⟩ <;> decide) ⟨ksv, hbig⟩ kcd kce) (fun h a b q1 q2 q3 q4 q5 q6 => rm_isStart_5_1_1 hw a b (bY (ca >>> (0 &&& 31))) (bY (ca >>> (8 &&& 31))) (bY ((60 : Int32) >>> (0 &&& 31))) (bY ((60 : Int32) >>> (8 &&& 31))) (bY (sv >>> (0 &&& 31))) (bY (sv >>> (8 &&& 31))) (bY (cd >>> (0 &&& 31))) (bY (cd >>> (8 &&& 31))) (bY (ce >>> (0 &&& 31))) (bY (ce >>> (8 &&& 31))) sv h q1 cm q2 q3 q4 q5 q6 (own_gc (c := 60) (by decide)) (own_gc (c := sv) ksv) ksv) (fun r _ r1 => r1 hb_590 hb_593 hb_596) B C
              · show Go _ _ _ _ 1 5 226 _ []
                have f_601 := (lT (lT (lT (lT (lT (lT (lT (lT Z0 E_527.1) K_531.1) K_535.1) K_539.1) K_543.1) K_547.1) K_583.1) K_587.1)
                have f_602 := ((((((((O.ext E_527).keep K_531 (allS ge_a_525 all0)).keep K_535 (allS ge_a_525 all0)).keep K_539 (allS ge_a_525 all0)).keep K_543 (allS ge_a_525 all0)).keep K_547 (allS ge_a_525 all0)).keep K_583 (allS ge_a_525 all0)).keep K_587 (allS ge_a_525 all0))
                exact rm_tail_5_0 hw p0 p1 p2 p3 p4 5 1 3 sv 1 a_525 ca 60 sv cd ce [.int (bY ca), .int (bY 60), .int (bY sv), .int (bY cd), .int (bY ce)] h_586 f_601 cm f_602 f_589 (fun h a q1 q2 q3 q4 q5 q6 q7 q8 => rm_init1_5 hw a a_525 ca 60 sv cd ce h q1 cm q2 q3 q4 q5 q6 q7 q8 kca (by refine ⟨?_, ?_, ?_⟩ <;> decide) ⟨ksv, hbig, own_chof ksv⟩ kcd kce) (fun h a b q1 q2 q3 q4 q5 q6 => rm_isStart_5_1_0 hw a b (bY ca) (bY 60) (bY sv) (bY cd) (bY ce) sv h q1 cm q2 q3 q4 q5 q6 (own_l1 (c := 60) (by decide) (by decide)) (own_l1 (c := sv) ksv (show Ch sv from ⟨ksv, hbig, own_chof ksv⟩).2.1) ksv) (fun r _ r1 => r1 hb_590 hb_593 hb_596) B C
    · subst i_443e
      show Go _ _ _ _ 0 0 16 _ [(.int 2)]
      refine iS C at_16 (#[iV p0, iV p1, iV p2, iV p3, iV p4, iV 5, iV 2, uV, uV, uV, uV]) rfl <| iL C 5 at_18 rfl <| ynewarray C (oW hw 1 rfl) (ty := .char) rfl (by decide) (cap := 5) (by decide) (by decide) (by decide) (by decide) at_20 ?_
      intro h_603 a_604 g_605 E_606 A_607
      have ge_a_604 : n0 ≤ a_604 := lT Z0 (lE g_605.symm)
      have gs_a_604 : h0.size ≤ a_604 := lT (Nat.le_refl h0.size) (lE g_605.symm)
      have f_608 : Ary Z h_603 a_604 .char [(.int 0), (.int 0), (.int 0), (.int 0), (.int 0)] := A_607
      show Go _ _ _ _ 1 5 22 _ [(.ref a_604)]
      refine aS C at_22 (#[iV p0, iV p1, iV p2, iV p3, iV p4, iV 5, iV 2, aV a_604, uV, uV, uV]) rfl rfl <| aL C ((.ref a_604)) at_24 rfl rfl <| iC C 0 at_26 rfl <| iN C p2 at_27 rfl <| iP C 255 at_28 rfl <| yiand C at_31 <| yi2c C at_32 ?_
      rw [i2c_mask p2]
      obtain ⟨ca, eca⟩ : ∃ z : Int32, z = (p2 &&& 255) := ⟨_, rfl⟩
      have kca : Ch ca := by rw [eca]; exact own_chM p2
      rw [← eca]
      refine ycastore C f_608 (by decide) (i := 0) (by decide) (show 0 < 5 by decide) (w := (.int ca)) (congrArg Value.int kca.1) ge_a_604 at_33 ?_
      intro h_609 K_610 A_611
      have f_612 : Ary Z h_609 a_604 .char [(.int ca), (.int 0), (.int 0), (.int 0), (.int 0)] := A_611
      refine aL C ((.ref a_604)) at_34 rfl rfl <| iC C 1 at_36 rfl <| iN C p2 at_37 rfl <| iB C 8 at_38 rfl <| yiushr C at_40 <| iP C 255 at_41 rfl <| yiand C at_44 <| yi2c C at_45 ?_
      rw [i2c_mask (XT.ushr p2 8)]
      obtain ⟨cb, ecb⟩ : ∃ z : Int32, z = ((XT.ushr p2 8) &&& 255) := ⟨_, rfl⟩
      have kcb : Ch cb := by rw [ecb]; exact own_chM (XT.ushr p2 8)
      rw [← ecb]
      refine ycastore C f_612 (by decide) (i := 1) (by decide) (show 1 < 5 by decide) (w := (.int cb)) (congrArg Value.int kcb.1) ge_a_604 at_46 ?_
      intro h_613 K_614 A_615
      have f_616 : Ary Z h_613 a_604 .char [(.int ca), (.int cb), (.int 0), (.int 0), (.int 0)] := A_615
      refine iL C 5 at_47 rfl <| iC C 2 at_49 rfl <| yicmp_n C at_50 (XT.ii_le_f (by decide)) <| aL C ((.ref a_604)) at_53 rfl rfl <| iC C 2 at_55 rfl <| iN C p2 at_56 rfl <| iB C 16 at_57 rfl <| yiushr C at_59 <| iP C 255 at_60 rfl <| yiand C at_63 <| yi2c C at_64 ?_
      rw [i2c_mask (XT.ushr p2 16)]
      obtain ⟨cc, ecc⟩ : ∃ z : Int32, z = ((XT.ushr p2 16) &&& 255) := ⟨_, rfl⟩
      have kcc : Ch cc := by rw [ecc]; exact own_chM (XT.ushr p2 16)
      rw [← ecc]
      refine ycastore C f_616 (by decide) (i := 2) (by decide) (show 2 < 5 by decide) (w := (.int cc)) (congrArg Value.int kcc.1) ge_a_604 at_65 ?_
      intro h_617 K_618 A_619
      have f_620 : Ary Z h_617 a_604 .char [(.int ca), (.int cb), (.int cc), (.int 0), (.int 0)] := A_619
      refine iL C 5 at_66 rfl <| iC C 3 at_68 rfl <| yicmp_n C at_69 (XT.ii_le_f (by decide)) <| aL C ((.ref a_604)) at_72 rfl rfl <| iC C 3 at_74 rfl <| iN C p2 at_75 rfl <| iB C 24 at_76 rfl <| yiushr C at_78 <| iP C 255 at_79 rfl <| yiand C at_82 <| yi2c C at_83 ?_
      rw [i2c_mask (XT.ushr p2 24)]
      obtain ⟨cd, ecd⟩ : ∃ z : Int32, z = ((XT.ushr p2 24) &&& 255) := ⟨_, rfl⟩
      have kcd : Ch cd := by rw [ecd]; exact own_chM (XT.ushr p2 24)
      rw [← ecd]
      refine ycastore C f_620 (by decide) (i := 3) (by decide) (show 3 < 5 by decide) (w := (.int cd)) (congrArg Value.int kcd.1) ge_a_604 at_84 ?_
      intro h_621 K_622 A_623
      have f_624 : Ary Z h_621 a_604 .char [(.int ca), (.int cb), (.int cc), (.int cd), (.int 0)] := A_623
      refine iL C 5 at_85 rfl <| iC C 4 at_87 rfl <| yicmp_n C at_88 (XT.ii_le_f (by decide)) <| aL C ((.ref a_604)) at_91 rfl rfl <| iC C 4 at_93 rfl <| iN C p3 at_94 rfl <| iP C 255 at_95 rfl <| yiand C at_98 <| yi2c C at_99 ?_
      rw [i2c_mask p3]
      obtain ⟨ce, ece⟩ : ∃ z : Int32, z = (p3 &&& 255) := ⟨_, rfl⟩
      have kce : Ch ce := by rw [ece]; exact own_chM p3
      rw [← ece]
      refine ycastore C f_624 (by decide) (i := 4) (by decide) (show 4 < 5 by decide) (w := (.int ce)) (congrArg Value.int kce.1) ge_a_604 at_100 ?_
      intro h_625 K_626 A_627
      have f_628 : Ary Z h_625 a_604 .char [(.int ca), (.int cb), (.int cc), (.int cd), (.int ce)] := A_627
      refine iL C p4 at_101 rfl <| iB C 16 at_103 rfl <| yiushr C at_105 <| iC C 3 at_106 rfl <| yiand C at_107 ?_
      obtain ⟨i_629, hi_630⟩ : ∃ z : Int32, z = ((XT.ushr p4 16) &&& 3) := ⟨_, rfl⟩
      rw [← hi_630]
      rcases own_split4 i_629 (by rw [hi_630]; exact (own_m3 _).1) (by rw [hi_630]; exact (own_m3 _).2) with i_629e | i_629e | i_629e | i_629e
      · subst i_629e
        show Go _ _ _ _ 1 5 108 _ [(.int 0)]
        refine iS C at_108 (#[iV p0, iV p1, iV p2, iV p3, iV p4, iV 5, iV 2, aV a_604, iV 0, uV, uV]) rfl <| iL C 0 at_110 rfl <| yif_n C at_112 (XT.i0_ne_f (by decide)) <| iB C 47 at_115 rfl <| iS C at_117 (#[iV p0, iV p1, iV p2, iV p3, iV p4, iV 5, iV 2, aV a_604, iV 0, iV 47, uV]) rfl <| gT C at_119 156 (by decide) <| aL C ((.ref a_604)) at_156 rfl rfl <| iL C 2 at_158 rfl <| iB C 60 at_160 rfl <| ycastore C f_628 (by decide) (i := 2) (by decide) (show 2 < 5 by decide) (w := (.int 60)) rfl ge_a_604 at_162 ?_
        intro h_631 K_632 A_633
        have f_634 : Ary Z h_631 a_604 .char [(.int ca), (.int cb), (.int 60), (.int cd), (.int ce)] := A_633
        refine aL C ((.ref a_604)) at_163 rfl rfl <| iL C 2 at_165 rfl <| iC C 1 at_167 rfl <| yiadd C at_168 <| eS [(.int 3), (.ref a_604)] rfl <| iL C 47 at_169 rfl <| ycastore C f_634 (by decide) (i := 3) (by decide) (show 3 < 5 by decide) (w := (.int 47)) rfl ge_a_604 at_171 ?_
        intro h_635 K_636 A_637
        have f_638 : Ary Z h_635 a_604 .char [(.int ca), (.int cb), (.int 60), (.int 47), (.int ce)] := A_637
        refine iL C 0 at_172 rfl <| iC C 3 at_174 rfl <| yicmp_n C at_175 (XT.ii_eq_f (by decide)) <| iC C 0 at_178 rfl <| iS C at_179 (#[iV p0, iV p1, iV p2, iV p3, iV p4, iV 5, iV 2, aV a_604, iV 0, iV 47, iV 0]) rfl <| gT C at_181 226 (by decide) ?_
        have f_639 := (lT (lT (lT (lT (lT (lT (lT (lT Z0 E_606.1) K_610.1) K_614.1) K_618.1) K_622.1) K_626.1) K_632.1) K_636.1)
        have f_640 := ((((((((O.ext E_606).keep K_610 (allS ge_a_604 all0)).keep K_614 (allS ge_a_604 all0)).keep K_618 (allS ge_a_604 all0)).keep K_622 (allS ge_a_604 all0)).keep K_626 (allS ge_a_604 all0)).keep K_632 (allS ge_a_604 all0)).keep K_636 (allS ge_a_604 all0))
        exact rm_tail_5_0 hw p0 p1 p2 p3 p4 5 2 0 47 0 a_604 ca cb 60 47 ce [.int (bY ca), .int (bY cb), .int (bY 60), .int (bY 47), .int (bY ce)] h_635 f_639 cm f_640 f_638 (fun h a q1 q2 q3 q4 q5 q6 q7 q8 => rm_init1_5 hw a a_604 ca cb 60 47 ce h q1 cm q2 q3 q4 q5 q6 q7 q8 kca kcb (by refine ⟨?_, ?_, ?_⟩ <;> decide) (by refine ⟨?_, ?_, ?_⟩ <;> decide) kce) (fun h a b q1 q2 q3 q4 q5 q6 => rm_isStart_5_2_0 hw a b (bY ca) (bY cb) (bY 60) (bY 47) (bY ce) 47 h q1 cm q2 q3 q4 q5 q6 (own_l1 (c := 60) (by decide) (by decide)) (own_l1 (c := 47) (by decide) (by decide)) (by decide)) (fun r r0 _ => r0 (Or.inl rfl)) B C
      · subst i_629e
        show Go _ _ _ _ 1 5 108 _ [(.int 1)]
        refine iS C at_108 (#[iV p0, iV p1, iV p2, iV p3, iV p4, iV 5, iV 2, aV a_604, iV 1, uV, uV]) rfl <| iL C 1 at_110 rfl <| fY C at_112 (XT.i0_ne_t (by decide)) 122 (by decide) <| iL C 1 at_122 rfl <| iC C 1 at_124 rfl <| yicmp_n C at_125 (XT.ii_ne_f (by decide)) <| iB C 33 at_128 rfl <| iS C at_130 (#[iV p0, iV p1, iV p2, iV p3, iV p4, iV 5, iV 2, aV a_604, iV 1, iV 33, uV]) rfl <| gT C at_132 156 (by decide) <| aL C ((.ref a_604)) at_156 rfl rfl <| iL C 2 at_158 rfl <| iB C 60 at_160 rfl <| ycastore C f_628 (by decide) (i := 2) (by decide) (show 2 < 5 by decide) (w := (.int 60)) rfl ge_a_604 at_162 ?_
        intro h_641 K_642 A_643
        have f_644 : Ary Z h_641 a_604 .char [(.int ca), (.int cb), (.int 60), (.int cd), (.int ce)] := A_643
        refine aL C ((.ref a_604)) at_163 rfl rfl <| iL C 2 at_165 rfl <| iC C 1 at_167 rfl <| yiadd C at_168 <| eS [(.int 3), (.ref a_604)] rfl <| iL C 33 at_169 rfl <| ycastore C f_644 (by decide) (i := 3) (by decide) (show 3 < 5 by decide) (w := (.int 33)) rfl ge_a_604 at_171 ?_
        intro h_645 K_646 A_647
        have f_648 : Ary Z h_645 a_604 .char [(.int ca), (.int cb), (.int 60), (.int 33), (.int ce)] := A_647
        refine iL C 1 at_172 rfl <| iC C 3 at_174 rfl <| yicmp_n C at_175 (XT.ii_eq_f (by decide)) <| iC C 0 at_178 rfl <| iS C at_179 (#[iV p0, iV p1, iV p2, iV p3, iV p4, iV 5, iV 2, aV a_604, iV 1, iV 33, iV 0]) rfl <| gT C at_181 226 (by decide) ?_
        have f_649 := (lT (lT (lT (lT (lT (lT (lT (lT Z0 E_606.1) K_610.1) K_614.1) K_618.1) K_622.1) K_626.1) K_642.1) K_646.1)
        have f_650 := ((((((((O.ext E_606).keep K_610 (allS ge_a_604 all0)).keep K_614 (allS ge_a_604 all0)).keep K_618 (allS ge_a_604 all0)).keep K_622 (allS ge_a_604 all0)).keep K_626 (allS ge_a_604 all0)).keep K_642 (allS ge_a_604 all0)).keep K_646 (allS ge_a_604 all0))
        exact rm_tail_5_0 hw p0 p1 p2 p3 p4 5 2 1 33 0 a_604 ca cb 60 33 ce [.int (bY ca), .int (bY cb), .int (bY 60), .int (bY 33), .int (bY ce)] h_645 f_649 cm f_650 f_648 (fun h a q1 q2 q3 q4 q5 q6 q7 q8 => rm_init1_5 hw a a_604 ca cb 60 33 ce h q1 cm q2 q3 q4 q5 q6 q7 q8 kca kcb (by refine ⟨?_, ?_, ?_⟩ <;> decide) (by refine ⟨?_, ?_, ?_⟩ <;> decide) kce) (fun h a b q1 q2 q3 q4 q5 q6 => rm_isStart_5_2_0 hw a b (bY ca) (bY cb) (bY 60) (bY 33) (bY ce) 33 h q1 cm q2 q3 q4 q5 q6 (own_l1 (c := 60) (by decide) (by decide)) (own_l1 (c := 33) (by decide) (by decide)) (by decide)) (fun r r0 _ => r0 (Or.inr (Or.inl rfl))) B C
      · subst i_629e
        show Go _ _ _ _ 1 5 108 _ [(.int 2)]
        refine iS C at_108 (#[iV p0, iV p1, iV p2, iV p3, iV p4, iV 5, iV 2, aV a_604, iV 2, uV, uV]) rfl <| iL C 2 at_110 rfl <| fY C at_112 (XT.i0_ne_t (by decide)) 122 (by decide) <| iL C 2 at_122 rfl <| iC C 1 at_124 rfl <| cY C at_125 (XT.ii_ne_t (by decide)) 135 (by decide) <| iL C 2 at_135 rfl <| iC C 2 at_137 rfl <| yicmp_n C at_138 (XT.ii_ne_f (by decide)) <| iB C 63 at_141 rfl <| iS C at_143 (#[iV p0, iV p1, iV p2, iV p3, iV p4, iV 5, iV 2, aV a_604, iV 2, iV 63, uV]) rfl <| gT C at_145 156 (by decide) <| aL C ((.ref a_604)) at_156 rfl rfl <| iL C 2 at_158 rfl <| iB C 60 at_160 rfl <| ycastore C f_628 (by decide) (i := 2) (by decide) (show 2 < 5 by decide) (w := (.int 60)) rfl ge_a_604 at_162 ?_
        intro h_651 K_652 A_653
        have f_654 : Ary Z h_651 a_604 .char [(.int ca), (.int cb), (.int 60), (.int cd), (.int ce)] := A_653
        refine aL C ((.ref a_604)) at_163 rfl rfl <| iL C 2 at_165 rfl <| iC C 1 at_167 rfl <| yiadd C at_168 <| eS [(.int 3), (.ref a_604)] rfl <| iL C 63 at_169 rfl <| ycastore C f_654 (by decide) (i := 3) (by decide) (show 3 < 5 by decide) (w := (.int 63)) rfl ge_a_604 at_171 ?_
        intro h_655 K_656 A_657
        have f_658 : Ary Z h_655 a_604 .char [(.int ca), (.int cb), (.int 60), (.int 63), (.int ce)] := A_657
        refine iL C 2 at_172 rfl <| iC C 3 at_174 rfl <| yicmp_n C at_175 (XT.ii_eq_f (by decide)) <| iC C 0 at_178 rfl <| iS C at_179 (#[iV p0, iV p1, iV p2, iV p3, iV p4, iV 5, iV 2, aV a_604, iV 2, iV 63, iV 0]) rfl <| gT C at_181 226 (by decide) ?_
        have f_659 := (lT (lT (lT (lT (lT (lT (lT (lT Z0 E_606.1) K_610.1) K_614.1) K_618.1) K_622.1) K_626.1) K_652.1) K_656.1)
        have f_660 := ((((((((O.ext E_606).keep K_610 (allS ge_a_604 all0)).keep K_614 (allS ge_a_604 all0)).keep K_618 (allS ge_a_604 all0)).keep K_622 (allS ge_a_604 all0)).keep K_626 (allS ge_a_604 all0)).keep K_652 (allS ge_a_604 all0)).keep K_656 (allS ge_a_604 all0))
        exact rm_tail_5_0 hw p0 p1 p2 p3 p4 5 2 2 63 0 a_604 ca cb 60 63 ce [.int (bY ca), .int (bY cb), .int (bY 60), .int (bY 63), .int (bY ce)] h_655 f_659 cm f_660 f_658 (fun h a q1 q2 q3 q4 q5 q6 q7 q8 => rm_init1_5 hw a a_604 ca cb 60 63 ce h q1 cm q2 q3 q4 q5 q6 q7 q8 kca kcb (by refine ⟨?_, ?_, ?_⟩ <;> decide) (by refine ⟨?_, ?_, ?_⟩ <;> decide) kce) (fun h a b q1 q2 q3 q4 q5 q6 => rm_isStart_5_2_0 hw a b (bY ca) (bY cb) (bY 60) (bY 63) (bY ce) 63 h q1 cm q2 q3 q4 q5 q6 (own_l1 (c := 60) (by decide) (by decide)) (own_l1 (c := 63) (by decide) (by decide)) (by decide)) (fun r r0 _ => r0 (Or.inr (Or.inr rfl))) B C
      · subst i_629e
        show Go _ _ _ _ 1 5 108 _ [(.int 3)]
        refine iS C at_108 (#[iV p0, iV p1, iV p2, iV p3, iV p4, iV 5, iV 2, aV a_604, iV 3, uV, uV]) rfl <| iL C 3 at_110 rfl <| fY C at_112 (XT.i0_ne_t (by decide)) 122 (by decide) <| iL C 3 at_122 rfl <| iC C 1 at_124 rfl <| cY C at_125 (XT.ii_ne_t (by decide)) 135 (by decide) <| iL C 3 at_135 rfl <| iC C 2 at_137 rfl <| cY C at_138 (XT.ii_ne_t (by decide)) 148 (by decide) <| iL C p4 at_148 rfl <| yldc C (v := 65535) (oW hw 70 rfl) at_150 <| yiand C at_152 <| yi2c C at_153 ?_
        obtain ⟨sv, esv⟩ : ∃ z : Int32, z = (UInt32.toInt32 (UInt16.toUInt32 (UInt32.toUInt16 (Int32.toUInt32 (p4 &&& 65535))))) := ⟨_, rfl⟩
        have ksv : nar .char sv = sv := by rw [esv]; exact own_nari2c _
        rw [← esv]
        refine iS C at_154 (#[iV p0, iV p1, iV p2, iV p3, iV p4, iV 5, iV 2, aV a_604, iV 3, iV sv, uV]) rfl <| aL C ((.ref a_604)) at_156 rfl rfl <| iL C 2 at_158 rfl <| iB C 60 at_160 rfl <| ycastore C f_628 (by decide) (i := 2) (by decide) (show 2 < 5 by decide) (w := (.int 60)) rfl ge_a_604 at_162 ?_
        intro h_661 K_662 A_663
        have f_664 : Ary Z h_661 a_604 .char [(.int ca), (.int cb), (.int 60), (.int cd), (.int ce)] := A_663
        refine aL C ((.ref a_604)) at_163 rfl rfl <| iL C 2 at_165 rfl <| iC C 1 at_167 rfl <| yiadd C at_168 <| eS [(.int 3), (.ref a_604)] rfl <| iL C sv at_169 rfl <| ycastore C f_664 (by decide) (i := 3) (by decide) (show 3 < 5 by decide) (w := (.int sv)) (congrArg Value.int ksv) ge_a_604 at_171 ?_
        intro h_665 K_666 A_667
        have f_668 : Ary Z h_665 a_604 .char [(.int ca), (.int cb), (.int 60), (.int sv), (.int ce)] := A_667
        refine iL C 3 at_172 rfl <| iC C 3 at_174 rfl <| cY C at_175 (XT.ii_eq_t (by decide)) 184 (by decide) <| iL C sv at_184 rfl <| iB C 47 at_186 rfl ?_
        by_cases hb_669 : sv = 47
        · refine yicmp_n C at_188 (XT.ii_ne_f hb_669) <| iC C 0 at_191 rfl <| iS C at_192 (#[iV p0, iV p1, iV p2, iV p3, iV p4, iV 5, iV 2, aV a_604, iV 3, iV sv, iV 0]) rfl <| gT C at_194 226 (by decide) ?_
          have f_670 := (lT (lT (lT (lT (lT (lT (lT (lT Z0 E_606.1) K_610.1) K_614.1) K_618.1) K_622.1) K_626.1) K_662.1) K_666.1)
          have f_671 := ((((((((O.ext E_606).keep K_610 (allS ge_a_604 all0)).keep K_614 (allS ge_a_604 all0)).keep K_618 (allS ge_a_604 all0)).keep K_622 (allS ge_a_604 all0)).keep K_626 (allS ge_a_604 all0)).keep K_662 (allS ge_a_604 all0)).keep K_666 (allS ge_a_604 all0))
          exact rm_tail_5_0 hw p0 p1 p2 p3 p4 5 2 3 sv 0 a_604 ca cb 60 sv ce [.int (bY ca), .int (bY cb), .int (bY 60), .int (bY sv), .int (bY ce)] h_665 f_670 cm f_671 f_668 (fun h a q1 q2 q3 q4 q5 q6 q7 q8 => rm_init1_5 hw a a_604 ca cb 60 sv ce h q1 cm q2 q3 q4 q5 q6 q7 q8 kca kcb (by refine ⟨?_, ?_, ?_⟩ <;> decide) ⟨ksv, (by rw [hb_669]; decide), own_chof ksv⟩ kce) (fun h a b q1 q2 q3 q4 q5 q6 => rm_isStart_5_2_0 hw a b (bY ca) (bY cb) (bY 60) (bY sv) (bY ce) sv h q1 cm q2 q3 q4 q5 q6 (own_l1 (c := 60) (by decide) (by decide)) (own_l1 (c := sv) ksv (show Ch sv from ⟨ksv, (by rw [hb_669]; decide), own_chof ksv⟩).2.1) ksv) (fun r r0 _ => r0 (Or.inl hb_669)) B C
        · refine cY C at_188 (XT.ii_ne_t hb_669) 197 (by decide) <| iL C sv at_197 rfl <| iB C 33 at_199 rfl ?_
          by_cases hb_672 : sv = 33
          · refine yicmp_n C at_201 (XT.ii_ne_f hb_672) <| iC C 0 at_204 rfl <| iS C at_205 (#[iV p0, iV p1, iV p2, iV p3, iV p4, iV 5, iV 2, aV a_604, iV 3, iV sv, iV 0]) rfl <| gT C at_207 226 (by decide) ?_
            have f_673 := (lT (lT (lT (lT (lT (lT (lT (lT Z0 E_606.1) K_610.1) K_614.1) K_618.1) K_622.1) K_626.1) K_662.1) K_666.1)
            have f_674 := ((((((((O.ext E_606).keep K_610 (allS ge_a_604 all0)).keep K_614 (allS ge_a_604 all0)).keep K_618 (allS ge_a_604 all0)).keep K_622 (allS ge_a_604 all0)).keep K_626 (allS ge_a_604 all0)).keep K_662 (allS ge_a_604 all0)).keep K_666 (allS ge_a_604 all0))
            exact rm_tail_5_0 hw p0 p1 p2 p3 p4 5 2 3 sv 0 a_604 ca cb 60 sv ce [.int (bY ca), .int (bY cb), .int (bY 60), .int (bY sv), .int (bY ce)] h_665 f_673 cm f_674 f_668 (fun h a q1 q2 q3 q4 q5 q6 q7 q8 => rm_init1_5 hw a a_604 ca cb 60 sv ce h q1 cm q2 q3 q4 q5 q6 q7 q8 kca kcb (by refine ⟨?_, ?_, ?_⟩ <;> decide) ⟨ksv, (by rw [hb_672]; decide), own_chof ksv⟩ kce) (fun h a b q1 q2 q3 q4 q5 q6 => rm_isStart_5_2_0 hw a b (bY ca) (bY cb) (bY 60) (bY sv) (bY ce) sv h q1 cm q2 q3 q4 q5 q6 (own_l1 (c := 60) (by decide) (by decide)) (own_l1 (c := sv) ksv (show Ch sv from ⟨ksv, (by rw [hb_672]; decide), own_chof ksv⟩).2.1) ksv) (fun r r0 _ => r0 (Or.inr (Or.inl hb_672))) B C
          · refine cY C at_201 (XT.ii_ne_t hb_672) 210 (by decide) <| iL C sv at_210 rfl <| iB C 63 at_212 rfl ?_
            by_cases hb_675 : sv = 63
            · refine yicmp_n C at_214 (XT.ii_ne_f hb_675) <| iC C 0 at_217 rfl <| iS C at_218 (#[iV p0, iV p1, iV p2, iV p3, iV p4, iV 5, iV 2, aV a_604, iV 3, iV sv, iV 0]) rfl <| gT C at_220 226 (by decide) ?_
              have f_676 := (lT (lT (lT (lT (lT (lT (lT (lT Z0 E_606.1) K_610.1) K_614.1) K_618.1) K_622.1) K_626.1) K_662.1) K_666.1)
              have f_677 := ((((((((O.ext E_606).keep K_610 (allS ge_a_604 all0)).keep K_614 (allS ge_a_604 all0)).keep K_618 (allS ge_a_604 all0)).keep K_622 (allS ge_a_604 all0)).keep K_626 (allS ge_a_604 all0)).keep K_662 (allS ge_a_604 all0)).keep K_666 (allS ge_a_604 all0))
              exact rm_tail_5_0 hw p0 p1 p2 p3 p4 5 2 3 sv 0 a_604 ca cb 60 sv ce [.int (bY ca), .int (bY cb), .int (bY 60), .int (bY sv), .int (bY ce)] h_665 f_676 cm f_677 f_668 (fun h a q1 q2 q3 q4 q5 q6 q7 q8 => rm_init1_5 hw a a_604 ca cb 60 sv ce h q1 cm q2 q3 q4 q5 q6 q7 q8 kca kcb (by refine ⟨?_, ?_, ?_⟩ <;> decide) ⟨ksv, (by rw [hb_675]; decide), own_chof ksv⟩ kce) (fun h a b q1 q2 q3 q4 q5 q6 => rm_isStart_5_2_0 hw a b (bY ca) (bY cb) (bY 60) (bY sv) (bY ce) sv h q1 cm q2 q3 q4 q5 q6 (own_l1 (c := 60) (by decide) (by decide)) (own_l1 (c := sv) ksv (show Ch sv from ⟨ksv, (by rw [hb_675]; decide), own_chof ksv⟩).2.1) ksv) (fun r r0 _ => r0 (Or.inr (Or.inr hb_675))) B C
            · refine cY C at_214 (XT.ii_ne_t hb_675) 223 (by decide) <| iC C 1 at_223 rfl <| iS C at_224 (#[iV p0, iV p1, iV p2, iV p3, iV p4, iV 5, iV 2, aV a_604, iV 3, iV sv, iV 1]) rfl ?_
              by_cases hbig : 255 < sv
              · show Go _ _ _ _ 1 5 226 _ []
                have f_678 := (lT (lT (lT (lT (lT (lT (lT (lT Z0 E_606.1) K_610.1) K_614.1) K_618.1) K_622.1) K_626.1) K_662.1) K_666.1)
                have f_679 := ((((((((O.ext E_606).keep K_610 (allS ge_a_604 all0)).keep K_614 (allS ge_a_604 all0)).keep K_618 (allS ge_a_604 all0)).keep K_622 (allS ge_a_604 all0)).keep K_626 (allS ge_a_604 all0)).keep K_662 (allS ge_a_604 all0)).keep K_666 (allS ge_a_604 all0))
                exact rm_tail_5_1 hw p0 p1 p2 p3 p4 5 2 3 sv 1 a_604 ca cb 60 sv ce [.int (bY (ca >>> (0 &&& 31))), .int (bY (ca >>> (8 &&& 31))), .int (bY (cb >>> (0 &&& 31))), .int (bY (cb >>> (8 &&& 31))), .int (bY ((60 : Int32) >>> (0 &&& 31))), .int (bY ((60 : Int32) >>> (8 &&& 31))), .int (bY (sv >>> (0 &&& 31))), .int (bY (sv >>> (8 &&& 31))), .int (bY (ce >>> (0 &&& 31))), .int (bY (ce >>> (8 &&& 31)))] h_665 f_678 cm f_679 f_668 (fun h a q1 q2 q3 q4 q5 q6 q7 q8 => rm_initB_5_3 hw a a_604 ca cb 60 sv ce h q1 cm q2 q3 q4 q5 q6 q7 q8 kca kcb (by refine ⟨?_, ?_, ?_⟩ <;> decide) ⟨ksv, hbig⟩ kce) (fun h a b q1 q2 q3 q4 q5 q6 => rm_isStart_5_2_1 hw a b (bY (ca >>> (0 &&& 31))) (bY (ca >>> (8 &&& 31))) (bY (cb >>> (0 &&& 31))) (bY (cb >>> (8 &&& 31))) (bY ((60 : Int32) >>> (0 &&& 31))) (bY ((60 : Int32) >>> (8 &&& 31))) (bY (sv >>> (0 &&& 31))) (bY (sv >>> (8 &&& 31))) (bY (ce >>> (0 &&& 31))) (bY (ce >>> (8 &&& 31))) sv h q1 cm q2 q3 q4 q5 q6 (own_gc (c := 60) (by decide)) (own_gc (c := sv) ksv) ksv) (fun r _ r1 => r1 hb_669 hb_672 hb_675) B C
              · show Go _ _ _ _ 1 5 226 _ []
                have f_680 := (lT (lT (lT (lT (lT (lT (lT (lT Z0 E_606.1) K_610.1) K_614.1) K_618.1) K_622.1) K_626.1) K_662.1) K_666.1)
                have f_681 := ((((((((O.ext E_606).keep K_610 (allS ge_a_604 all0)).keep K_614 (allS ge_a_604 all0)).keep K_618 (allS ge_a_604 all0)).keep K_622 (allS ge_a_604 all0)).keep K_626 (allS ge_a_604 all0)).keep K_662 (allS ge_a_604 all0)).keep K_666 (allS ge_a_604 all0))
                exact rm_tail_5_0 hw p0 p1 p2 p3 p4 5 2 3 sv 1 a_604 ca cb 60 sv ce [.int (bY ca), .int (bY cb), .int (bY 60), .int (bY sv), .int (bY ce)] h_665 f_680 cm f_681 f_668 (fun h a q1 q2 q3 q4 q5 q6 q7 q8 => rm_init1_5 hw a a_604 ca cb 60 sv ce h q1 cm q2 q3 q4 q5 q6 q7 q8 kca kcb (by refine ⟨?_, ?_, ?_⟩ <;> decide) ⟨ksv, hbig, own_chof ksv⟩ kce) (fun h a b q1 q2 q3 q4 q5 q6 => rm_isStart_5_2_0 hw a b (bY ca) (bY cb) (bY 60) (bY sv) (bY ce) sv h q1 cm q2 q3 q4 q5 q6 (own_l1 (c := 60) (by decide) (by decide)) (own_l1 (c := sv) ksv (show Ch sv from ⟨ksv, hbig, own_chof ksv⟩).2.1) ksv) (fun r _ r1 => r1 hb_669 hb_672 hb_675) B C
    · subst i_443e
      show Go _ _ _ _ 0 0 16 _ [(.int 3)]
      refine iS C at_16 (#[iV p0, iV p1, iV p2, iV p3, iV p4, iV 5, iV 3, uV, uV, uV, uV]) rfl <| iL C 5 at_18 rfl <| ynewarray C (oW hw 1 rfl) (ty := .char) rfl (by decide) (cap := 5) (by decide) (by decide) (by decide) (by decide) at_20 ?_
      intro h_682 a_683 g_684 E_685 A_686
      have ge_a_683 : n0 ≤ a_683 := lT Z0 (lE g_684.symm)
      have gs_a_683 : h0.size ≤ a_683 := lT (Nat.le_refl h0.size) (lE g_684.symm)
      have f_687 : Ary Z h_682 a_683 .char [(.int 0), (.int 0), (.int 0), (.int 0), (.int 0)] := A_686
      show Go _ _ _ _ 1 5 22 _ [(.ref a_683)]
      refine aS C at_22 (#[iV p0, iV p1, iV p2, iV p3, iV p4, iV 5, iV 3, aV a_683, uV, uV, uV]) rfl rfl <| aL C ((.ref a_683)) at_24 rfl rfl <| iC C 0 at_26 rfl <| iN C p2 at_27 rfl <| iP C 255 at_28 rfl <| yiand C at_31 <| yi2c C at_32 ?_
      rw [i2c_mask p2]
      obtain ⟨ca, eca⟩ : ∃ z : Int32, z = (p2 &&& 255) := ⟨_, rfl⟩
      have kca : Ch ca := by rw [eca]; exact own_chM p2
      rw [← eca]
      refine ycastore C f_687 (by decide) (i := 0) (by decide) (show 0 < 5 by decide) (w := (.int ca)) (congrArg Value.int kca.1) ge_a_683 at_33 ?_
      intro h_688 K_689 A_690
      have f_691 : Ary Z h_688 a_683 .char [(.int ca), (.int 0), (.int 0), (.int 0), (.int 0)] := A_690
      refine aL C ((.ref a_683)) at_34 rfl rfl <| iC C 1 at_36 rfl <| iN C p2 at_37 rfl <| iB C 8 at_38 rfl <| yiushr C at_40 <| iP C 255 at_41 rfl <| yiand C at_44 <| yi2c C at_45 ?_
      rw [i2c_mask (XT.ushr p2 8)]
      obtain ⟨cb, ecb⟩ : ∃ z : Int32, z = ((XT.ushr p2 8) &&& 255) := ⟨_, rfl⟩
      have kcb : Ch cb := by rw [ecb]; exact own_chM (XT.ushr p2 8)
      rw [← ecb]
      refine ycastore C f_691 (by decide) (i := 1) (by decide) (show 1 < 5 by decide) (w := (.int cb)) (congrArg Value.int kcb.1) ge_a_683 at_46 ?_
      intro h_692 K_693 A_694
      have f_695 : Ary Z h_692 a_683 .char [(.int ca), (.int cb), (.int 0), (.int 0), (.int 0)] := A_694
      refine iL C 5 at_47 rfl <| iC C 2 at_49 rfl <| yicmp_n C at_50 (XT.ii_le_f (by decide)) <| aL C ((.ref a_683)) at_53 rfl rfl <| iC C 2 at_55 rfl <| iN C p2 at_56 rfl <| iB C 16 at_57 rfl <| yiushr C at_59 <| iP C 255 at_60 rfl <| yiand C at_63 <| yi2c C at_64 ?_
      rw [i2c_mask (XT.ushr p2 16)]
      obtain ⟨cc, ecc⟩ : ∃ z : Int32, z = ((XT.ushr p2 16) &&& 255) := ⟨_, rfl⟩
      have kcc : Ch cc := by rw [ecc]; exact own_chM (XT.ushr p2 16)
      rw [← ecc]
      refine ycastore C f_695 (by decide) (i := 2) (by decide) (show 2 < 5 by decide) (w := (.int cc)) (congrArg Value.int kcc.1) ge_a_683 at_65 ?_
      intro h_696 K_697 A_698
      have f_699 : Ary Z h_696 a_683 .char [(.int ca), (.int cb), (.int cc), (.int 0), (.int 0)] := A_698
      refine iL C 5 at_66 rfl <| iC C 3 at_68 rfl <| yicmp_n C at_69 (XT.ii_le_f (by decide)) <| aL C ((.ref a_683)) at_72 rfl rfl <| iC C 3 at_74 rfl <| iN C p2 at_75 rfl <| iB C 24 at_76 rfl <| yiushr C at_78 <| iP C 255 at_79 rfl <| yiand C at_82 <| yi2c C at_83 ?_
      rw [i2c_mask (XT.ushr p2 24)]
      obtain ⟨cd, ecd⟩ : ∃ z : Int32, z = ((XT.ushr p2 24) &&& 255) := ⟨_, rfl⟩
      have kcd : Ch cd := by rw [ecd]; exact own_chM (XT.ushr p2 24)
      rw [← ecd]
      refine ycastore C f_699 (by decide) (i := 3) (by decide) (show 3 < 5 by decide) (w := (.int cd)) (congrArg Value.int kcd.1) ge_a_683 at_84 ?_
      intro h_700 K_701 A_702
      have f_703 : Ary Z h_700 a_683 .char [(.int ca), (.int cb), (.int cc), (.int cd), (.int 0)] := A_702
      refine iL C 5 at_85 rfl <| iC C 4 at_87 rfl <| yicmp_n C at_88 (XT.ii_le_f (by decide)) <| aL C ((.ref a_683)) at_91 rfl rfl <| iC C 4 at_93 rfl <| iN C p3 at_94 rfl <| iP C 255 at_95 rfl <| yiand C at_98 <| yi2c C at_99 ?_
      rw [i2c_mask p3]
      obtain ⟨ce, ece⟩ : ∃ z : Int32, z = (p3 &&& 255) := ⟨_, rfl⟩
      have kce : Ch ce := by rw [ece]; exact own_chM p3
      rw [← ece]
      refine ycastore C f_703 (by decide) (i := 4) (by decide) (show 4 < 5 by decide) (w := (.int ce)) (congrArg Value.int kce.1) ge_a_683 at_100 ?_
      intro h_704 K_705 A_706
      have f_707 : Ary Z h_704 a_683 .char [(.int ca), (.int cb), (.int cc), (.int cd), (.int ce)] := A_706
      refine iL C p4 at_101 rfl <| iB C 16 at_103 rfl <| yiushr C at_105 <| iC C 3 at_106 rfl <| yiand C at_107 ?_
      obtain ⟨i_708, hi_709⟩ : ∃ z : Int32, z = ((XT.ushr p4 16) &&& 3) := ⟨_, rfl⟩
      rw [← hi_709]
      rcases own_split4 i_708 (by rw [hi_709]; exact (own_m3 _).1) (by rw [hi_709]; exact (own_m3 _).2) with i_708e | i_708e | i_708e | i_708e
      · subst i_708e
        show Go _ _ _ _ 1 5 108 _ [(.int 0)]
        refine iS C at_108 (#[iV p0, iV p1, iV p2, iV p3, iV p4, iV 5, iV 3, aV a_683, iV 0, uV, uV]) rfl <| iL C 0 at_110 rfl <| yif_n C at_112 (XT.i0_ne_f (by decide)) <| iB C 47 at_115 rfl <| iS C at_117 (#[iV p0, iV p1, iV p2, iV p3, iV p4, iV 5, iV 3, aV a_683, iV 0, iV 47, uV]) rfl <| gT C at_119 156 (by decide) <| aL C ((.ref a_683)) at_156 rfl rfl <| iL C 3 at_158 rfl <| iB C 60 at_160 rfl <| ycastore C f_707 (by decide) (i := 3) (by decide) (show 3 < 5 by decide) (w := (.int 60)) rfl ge_a_683 at_162 ?_
        intro h_710 K_711 A_712
        have f_713 : Ary Z h_710 a_683 .char [(.int ca), (.int cb), (.int cc), (.int 60), (.int ce)] := A_712
        refine aL C ((.ref a_683)) at_163 rfl rfl <| iL C 3 at_165 rfl <| iC C 1 at_167 rfl <| yiadd C at_168 <| eS [(.int 4), (.ref a_683)] rfl <| iL C 47 at_169 rfl <| ycastore C f_713 (by decide) (i := 4) (by decide) (show 4 < 5 by decide) (w := (.int 47)) rfl ge_a_683 at_171 ?_
        intro h_714 K_715 A_716
        have f_717 : Ary Z h_714 a_683 .char [(.int ca), (.int cb), (.int cc), (.int 60), (.int 47)] := A_716
        refine iL C 0 at_172 rfl <| iC C 3 at_174 rfl <| yicmp_n C at_175 (XT.ii_eq_f (by decide)) <| iC C 0 at_178 rfl <| iS C at_179 (#[iV p0, iV p1, iV p2, iV p3, iV p4, iV 5, iV 3, aV a_683, iV 0, iV 47, iV 0]) rfl <| gT C at_181 226 (by decide) ?_
        have f_718 := (lT (lT (lT (lT (lT (lT (lT (lT Z0 E_685.1) K_689.1) K_693.1) K_697.1) K_701.1) K_705.1) K_711.1) K_715.1)
        have f_719 := ((((((((O.ext E_685).keep K_689 (allS ge_a_683 all0)).keep K_693 (allS ge_a_683 all0)).keep K_697 (allS ge_a_683 all0)).keep K_701 (allS ge_a_683 all0)).keep K_705 (allS ge_a_683 all0)).keep K_711 (allS ge_a_683 all0)).keep K_715 (allS ge_a_683 all0))
        exact rm_tail_5_0 hw p0 p1 p2 p3 p4 5 3 0 47 0 a_683 ca cb cc 60 47 [.int (bY ca), .int (bY cb), .int (bY cc), .int (bY 60), .int (bY 47)] h_714 f_718 cm f_719 f_717 (fun h a q1 q2 q3 q4 q5 q6 q7 q8 => rm_init1_5 hw a a_683 ca cb cc 60 47 h q1 cm q2 q3 q4 q5 q6 q7 q8 kca kcb kcc (by refine ⟨?_, ?_, ?_⟩ <;> decide) (by refine ⟨?_, ?_, ?_⟩ <;> decide)) (fun h a b q1 q2 q3 q4 q5 q6 => rm_isStart_5_3_0 hw a b (bY ca) (bY cb) (bY cc) (bY 60) (bY 47) 47 h q1 cm q2 q3 q4 q5 q6 (own_l1 (c := 60) (by decide) (by decide)) (own_l1 (c := 47) (by decide) (by decide)) (by decide)) (fun r r0 _ => r0 (Or.inl rfl)) B C
      · subst i_708e
        show Go _ _ _ _ 1 5 108 _ [(.int 1)]
        refine iS C at_108 (#[iV p0, iV p1, iV p2, iV p3, iV p4, iV 5, iV 3, aV a_683, iV 1, uV, uV]) rfl <| iL C 1 at_110 rfl <| fY C at_112 (XT.i0_ne_t (by decide)) 122 (by decide) <| iL C 1 at_122 rfl <| iC C 1 at_124 rfl <| yicmp_n C at_125 (XT.ii_ne_f (by decide)) <| iB C 33 at_128 rfl <| iS C at_130 (#[iV p0, iV p1, iV p2, iV p3, iV p4, iV 5, iV 3, aV a_683, iV 1, iV 33, uV]) rfl <| gT C at_132 156 (by decide) <| aL C ((.ref a_683)) at_156 rfl rfl <| iL C 3 at_158 rfl <| iB C 60 at_160 rfl <| ycastore C f_707 (by decide) (i := 3) (by decide) (show 3 < 5 by decide) (w := (.int 60)) rfl ge_a_683 at_162 ?_
        intro h_720 K_721 A_722
        have f_723 : Ary Z h_720 a_683 .char [(.int ca), (.int cb), (.int cc), (.int 60), (.int ce)] := A_722
        refine aL C ((.ref a_683)) at_163 rfl rfl <| iL C 3 at_165 rfl <| iC C 1 at_167 rfl <| yiadd C at_168 <| eS [(.int 4), (.ref a_683)] rfl <| iL C 33 at_169 rfl <| ycastore C f_723 (by decide) (i := 4) (by decide) (show 4 < 5 by decide) (w := (.int 33)) rfl ge_a_683 at_171 ?_
        intro h_724 K_725 A_726
        have f_727 : Ary Z h_724 a_683 .char [(.int ca), (.int cb), (.int cc), (.int 60), (.int 33)] := A_726
        refine iL C 1 at_172 rfl <| iC C 3 at_174 rfl <| yicmp_n C at_175 (XT.ii_eq_f (by decide)) <| iC C 0 at_178 rfl <| iS C at_179 (#[iV p0, iV p1, iV p2, iV p3, iV p4, iV 5, iV 3, aV a_683, iV 1, iV 33, iV 0]) rfl <| gT C at_181 226 (by decide) ?_
        have f_728 := (lT (lT (lT (lT (lT (lT (lT (lT Z0 E_685.1) K_689.1) K_693.1) K_697.1) K_701.1) K_705.1) K_721.1) K_725.1)
        have f_729 := ((((((((O.ext E_685).keep K_689 (allS ge_a_683 all0)).keep K_693 (allS ge_a_683 all0)).keep K_697 (allS ge_a_683 all0)).keep K_701 (allS ge_a_683 all0)).keep K_705 (allS ge_a_683 all0)).keep K_721 (allS ge_a_683 all0)).keep K_725 (allS ge_a_683 all0))
        exact rm_tail_5_0 hw p0 p1 p2 p3 p4 5 3 1 33 0 a_683 ca cb cc 60 33 [.int (bY ca), .int (bY cb), .int (bY cc), .int (bY 60), .int (bY 33)] h_724 f_728 cm f_729 f_727 (fun h a q1 q2 q3 q4 q5 q6 q7 q8 => rm_init1_5 hw a a_683 ca cb cc 60 33 h q1 cm q2 q3 q4 q5 q6 q7 q8 kca kcb kcc (by refine ⟨?_, ?_, ?_⟩ <;> decide) (by refine ⟨?_, ?_, ?_⟩ <;> decide)) (fun h a b q1 q2 q3 q4 q5 q6 => rm_isStart_5_3_0 hw a b (bY ca) (bY cb) (bY cc) (bY 60) (bY 33) 33 h q1 cm q2 q3 q4 q5 q6 (own_l1 (c := 60) (by decide) (by decide)) (own_l1 (c := 33) (by decide) (by decide)) (by decide)) (fun r r0 _ => r0 (Or.inr (Or.inl rfl))) B C
      · subst i_708e
        show Go _ _ _ _ 1 5 108 _ [(.int 2)]
        refine iS C at_108 (#[iV p0, iV p1, iV p2, iV p3, iV p4, iV 5, iV 3, aV a_683, iV 2, uV, uV]) rfl <| iL C 2 at_110 rfl <| fY C at_112 (XT.i0_ne_t (by decide)) 122 (by decide) <| iL C 2 at_122 rfl <| iC C 1 at_124 rfl <| cY C at_125 (XT.ii_ne_t (by decide)) 135 (by decide) <| iL C 2 at_135 rfl <| iC C 2 at_137 rfl <| yicmp_n C at_138 (XT.ii_ne_f (by decide)) <| iB C 63 at_141 rfl <| iS C at_143 (#[iV p0, iV p1, iV p2, iV p3, iV p4, iV 5, iV 3, aV a_683, iV 2, iV 63, uV]) rfl <| gT C at_145 156 (by decide) <| aL C ((.ref a_683)) at_156 rfl rfl <| iL C 3 at_158 rfl <| iB C 60 at_160 rfl <| ycastore C f_707 (by decide) (i := 3) (by decide) (show 3 < 5 by decide) (w := (.int 60)) rfl ge_a_683 at_162 ?_
        intro h_730 K_731 A_732
        have f_733 : Ary Z h_730 a_683 .char [(.int ca), (.int cb), (.int cc), (.int 60), (.int ce)] := A_732
        refine aL C ((.ref a_683)) at_163 rfl rfl <| iL C 3 at_165 rfl <| iC C 1 at_167 rfl <| yiadd C at_168 <| eS [(.int 4), (.ref a_683)] rfl <| iL C 63 at_169 rfl <| ycastore C f_733 (by decide) (i := 4) (by decide) (show 4 < 5 by decide) (w := (.int 63)) rfl ge_a_683 at_171 ?_
        intro h_734 K_735 A_736
        have f_737 : Ary Z h_734 a_683 .char [(.int ca), (.int cb), (.int cc), (.int 60), (.int 63)] := A_736
        refine iL C 2 at_172 rfl <| iC C 3 at_174 rfl <| yicmp_n C at_175 (XT.ii_eq_f (by decide)) <| iC C 0 at_178 rfl <| iS C at_179 (#[iV p0, iV p1, iV p2, iV p3, iV p4, iV 5, iV 3, aV a_683, iV 2, iV 63, iV 0]) rfl <| gT C at_181 226 (by decide) ?_
        have f_738 := (lT (lT (lT (lT (lT (lT (lT (lT Z0 E_685.1) K_689.1) K_693.1) K_697.1) K_701.1) K_705.1) K_731.1) K_735.1)
        have f_739 := ((((((((O.ext E_685).keep K_689 (allS ge_a_683 all0)).keep K_693 (allS ge_a_683 all0)).keep K_697 (allS ge_a_683 all0)).keep K_701 (allS ge_a_683 all0)).keep K_705 (allS ge_a_683 all0)).keep K_731 (allS ge_a_683 all0)).keep K_735 (allS ge_a_683 all0))
        exact rm_tail_5_0 hw p0 p1 p2 p3 p4 5 3 2 63 0 a_683 ca cb cc 60 63 [.int (bY ca), .int (bY cb), .int (bY cc), .int (bY 60), .int (bY 63)] h_734 f_738 cm f_739 f_737 (fun h a q1 q2 q3 q4 q5 q6 q7 q8 => rm_init1_5 hw a a_683 ca cb cc 60 63 h q1 cm q2 q3 q4 q5 q6 q7 q8 kca kcb kcc (by refine ⟨?_, ?_, ?_⟩ <;> decide) (by refine ⟨?_, ?_, ?_⟩ <;> decide)) (fun h a b q1 q2 q3 q4 q5 q6 => rm_isStart_5_3_0 hw a b (bY ca) (bY cb) (bY cc) (bY 60) (bY 63) 63 h q1 cm q2 q3 q4 q5 q6 (own_l1 (c := 60) (by decide) (by decide)) (own_l1 (c := 63) (by decide) (by decide)) (by decide)) (fun r r0 _ => r0 (Or.inr (Or.inr rfl))) B C
      · subst i_708e
        show Go _ _ _ _ 1 5 108 _ [(.int 3)]
        refine iS C at_108 (#[iV p0, iV p1, iV p2, iV p3, iV p4, iV 5, iV 3, aV a_683, iV 3, uV, uV]) rfl <| iL C 3 at_110 rfl <| fY C at_112 (XT.i0_ne_t (by decide)) 122 (by decide) <| iL C 3 at_122 rfl <| iC C 1 at_124 rfl <| cY C at_125 (XT.ii_ne_t (by decide)) 135 (by decide) <| iL C 3 at_135 rfl <| iC C 2 at_137 rfl <| cY C at_138 (XT.ii_ne_t (by decide)) 148 (by decide) <| iL C p4 at_148 rfl <| yldc C (v := 65535) (oW hw 70 rfl) at_150 <| yiand C at_152 <| yi2c C at_153 ?_
        obtain ⟨sv, esv⟩ : ∃ z : Int32, z = (UInt32.toInt32 (UInt16.toUInt32 (UInt32.toUInt16 (Int32.toUInt32 (p4 &&& 65535))))) := ⟨_, rfl⟩
        have ksv : nar .char sv = sv := by rw [esv]; exact own_nari2c _
        rw [← esv]
        refine iS C at_154 (#[iV p0, iV p1, iV p2, iV p3, iV p4, iV 5, iV 3, aV a_683, iV 3, iV sv, uV]) rfl <| aL C ((.ref a_683)) at_156 rfl rfl <| iL C 3 at_158 rfl <| iB C 60 at_160 rfl <| ycastore C f_707 (by decide) (i := 3) (by decide) (show 3 < 5 by decide) (w := (.int 60)) rfl ge_a_683 at_162 ?_
        intro h_740 K_741 A_742
        have f_743 : Ary Z h_740 a_683 .char [(.int ca), (.int cb), (.int cc), (.int 60), (.int ce)] := A_742
        refine aL C ((.ref a_683)) at_163 rfl rfl <| iL C 3 at_165 rfl <| iC C 1 at_167 rfl <| yiadd C at_168 <| eS [(.int 4), (.ref a_683)] rfl <| iL C sv at_169 rfl <| ycastore C f_743 (by decide) (i := 4) (by decide) (show 4 < 5 by decide) (w := (.int sv)) (congrArg Value.int ksv) ge_a_683 at_171 ?_
        intro h_744 K_745 A_746
        have f_747 : Ary Z h_744 a_683 .char [(.int ca), (.int cb), (.int cc), (.int 60), (.int sv)] := A_746
        refine iL C 3 at_172 rfl <| iC C 3 at_174 rfl <| cY C at_175 (XT.ii_eq_t (by decide)) 184 (by decide) <| iL C sv at_184 rfl <| iB C 47 at_186 rfl ?_
        by_cases hb_748 : sv = 47
        · refine yicmp_n C at_188 (XT.ii_ne_f hb_748) <| iC C 0 at_191 rfl <| iS C at_192 (#[iV p0, iV p1, iV p2, iV p3, iV p4, iV 5, iV 3, aV a_683, iV 3, iV sv, iV 0]) rfl <| gT C at_194 226 (by decide) ?_
          have f_749 := (lT (lT (lT (lT (lT (lT (lT (lT Z0 E_685.1) K_689.1) K_693.1) K_697.1) K_701.1) K_705.1) K_741.1) K_745.1)
          have f_750 := ((((((((O.ext E_685).keep K_689 (allS ge_a_683 all0)).keep K_693 (allS ge_a_683 all0)).keep K_697 (allS ge_a_683 all0)).keep K_701 (allS ge_a_683 all0)).keep K_705 (allS ge_a_683 all0)).keep K_741 (allS ge_a_683 all0)).keep K_745 (allS ge_a_683 all0))
          exact rm_tail_5_0 hw p0 p1 p2 p3 p4 5 3 3 sv 0 a_683 ca cb cc 60 sv [.int (bY ca), .int (bY cb), .int (bY cc), .int (bY 60), .int (bY sv)] h_744 f_749 cm f_750 f_747 (fun h a q1 q2 q3 q4 q5 q6 q7 q8 => rm_init1_5 hw a a_683 ca cb cc 60 sv h q1 cm q2 q3 q4 q5 q6 q7 q8 kca kcb kcc (by refine ⟨?_, ?_, ?_⟩ <;> decide) ⟨ksv, (by rw [hb_748]; decide), own_chof ksv⟩) (fun h a b q1 q2 q3 q4 q5 q6 => rm_isStart_5_3_0 hw a b (bY ca) (bY cb) (bY cc) (bY 60) (bY sv) sv h q1 cm q2 q3 q4 q5 q6 (own_l1 (c := 60) (by decide) (by decide)) (own_l1 (c := sv) ksv (show Ch sv from ⟨ksv, (by rw [hb_748]; decide), own_chof ksv⟩).2.1) ksv) (fun r r0 _ => r0 (Or.inl hb_748)) B C
        · refine cY C at_188 (XT.ii_ne_t hb_748) 197 (by decide) <| iL C sv at_197 rfl <| iB C 33 at_199 rfl ?_
          by_cases hb_751 : sv = 33
          · refine yicmp_n C at_201 (XT.ii_ne_f hb_751) <| iC C 0 at_204 rfl <| iS C at_205 (#[iV p0, iV p1, iV p2, iV p3, iV p4, iV 5, iV 3, aV a_683, iV 3, iV sv, iV 0]) rfl <| gT C at_207 226 (by decide) ?_
            have f_752 := (lT (lT (lT (lT (lT (lT (lT (lT Z0 E_685.1) K_689.1) K_693.1) K_697.1) K_701.1) K_705.1) K_741.1) K_745.1)
            have f_753 := ((((((((O.ext E_685).keep K_689 (allS ge_a_683 all0)).keep K_693 (allS ge_a_683 all0)).keep K_697 (allS ge_a_683 all0)).keep K_701 (allS ge_a_683 all0)).keep K_705 (allS ge_a_683 all0)).keep K_741 (allS ge_a_683 all0)).keep K_745 (allS ge_a_683 all0))
            exact rm_tail_5_0 hw p0 p1 p2 p3 p4 5 3 3 sv 0 a_683 ca cb cc 60 sv [.int (bY ca), .int (bY cb), .int (bY cc), .int (bY 60), .int (bY sv)] h_744 f_752 cm f_753 f_747 (fun h a q1 q2 q3 q4 q5 q6 q7 q8 => rm_init1_5 hw a a_683 ca cb cc 60 sv h q1 cm q2 q3 q4 q5 q6 q7 q8 kca kcb kcc (by refine ⟨?_, ?_, ?_⟩ <;> decide) ⟨ksv, (by rw [hb_751]; decide), own_chof ksv⟩) (fun h a b q1 q2 q3 q4 q5 q6 => rm_isStart_5_3_0 hw a b (bY ca) (bY cb) (bY cc) (bY 60) (bY sv) sv h q1 cm q2 q3 q4 q5 q6 (own_l1 (c := 60) (by decide) (by decide)) (own_l1 (c := sv) ksv (show Ch sv from ⟨ksv, (by rw [hb_751]; decide), own_chof ksv⟩).2.1) ksv) (fun r r0 _ => r0 (Or.inr (Or.inl hb_751))) B C
          · refine cY C at_201 (XT.ii_ne_t hb_751) 210 (by decide) <| iL C sv at_210 rfl <| iB C 63 at_212 rfl ?_
            by_cases hb_754 : sv = 63
            · refine yicmp_n C at_214 (XT.ii_ne_f hb_754) <| iC C 0 at_217 rfl <| iS C at_218 (#[iV p0, iV p1, iV p2, iV p3, iV p4, iV 5, iV 3, aV a_683, iV 3, iV sv, iV 0]) rfl <| gT C at_220 226 (by decide) ?_
              have f_755 := (lT (lT (lT (lT (lT (lT (lT (lT Z0 E_685.1) K_689.1) K_693.1) K_697.1) K_701.1) K_705.1) K_741.1) K_745.1)
              have f_756 := ((((((((O.ext E_685).keep K_689 (allS ge_a_683 all0)).keep K_693 (allS ge_a_683 all0)).keep K_697 (allS ge_a_683 all0)).keep K_701 (allS ge_a_683 all0)).keep K_705 (allS ge_a_683 all0)).keep K_741 (allS ge_a_683 all0)).keep K_745 (allS ge_a_683 all0))
              exact rm_tail_5_0 hw p0 p1 p2 p3 p4 5 3 3 sv 0 a_683 ca cb cc 60 sv [.int (bY ca), .int (bY cb), .int (bY cc), .int (bY 60), .int (bY sv)] h_744 f_755 cm f_756 f_747 (fun h a q1 q2 q3 q4 q5 q6 q7 q8 => rm_init1_5 hw a a_683 ca cb cc 60 sv h q1 cm q2 q3 q4 q5 q6 q7 q8 kca kcb kcc (by refine ⟨?_, ?_, ?_⟩ <;> decide) ⟨ksv, (by rw [hb_754]; decide), own_chof ksv⟩) (fun h a b q1 q2 q3 q4 q5 q6 => rm_isStart_5_3_0 hw a b (bY ca) (bY cb) (bY cc) (bY 60) (bY sv) sv h q1 cm q2 q3 q4 q5 q6 (own_l1 (c := 60) (by decide) (by decide)) (own_l1 (c := sv) ksv (show Ch sv from ⟨ksv, (by rw [hb_754]; decide), own_chof ksv⟩).2.1) ksv) (fun r r0 _ => r0 (Or.inr (Or.inr hb_754))) B C
            · refine cY C at_214 (XT.ii_ne_t hb_754) 223 (by decide) <| iC C 1 at_223 rfl <| iS C at_224 (#[iV p0, iV p1, iV p2, iV p3, iV p4, iV 5, iV 3, aV a_683, iV 3, iV sv, iV 1]) rfl ?_
              by_cases hbig : 255 < sv
              · show Go _ _ _ _ 1 5 226 _ []
                have f_757 := (lT (lT (lT (lT (lT (lT (lT (lT Z0 E_685.1) K_689.1) K_693.1) K_697.1) K_701.1) K_705.1) K_741.1) K_745.1)
                have f_758 := ((((((((O.ext E_685).keep K_689 (allS ge_a_683 all0)).keep K_693 (allS ge_a_683 all0)).keep K_697 (allS ge_a_683 all0)).keep K_701 (allS ge_a_683 all0)).keep K_705 (allS ge_a_683 all0)).keep K_741 (allS ge_a_683 all0)).keep K_745 (allS ge_a_683 all0))
                exact rm_tail_5_1 hw p0 p1 p2 p3 p4 5 3 3 sv 1 a_683 ca cb cc 60 sv [.int (bY (ca >>> (0 &&& 31))), .int (bY (ca >>> (8 &&& 31))), .int (bY (cb >>> (0 &&& 31))), .int (bY (cb >>> (8 &&& 31))), .int (bY (cc >>> (0 &&& 31))), .int (bY (cc >>> (8 &&& 31))), .int (bY ((60 : Int32) >>> (0 &&& 31))), .int (bY ((60 : Int32) >>> (8 &&& 31))), .int (bY (sv >>> (0 &&& 31))), .int (bY (sv >>> (8 &&& 31)))] h_744 f_757 cm f_758 f_747 (fun h a q1 q2 q3 q4 q5 q6 q7 q8 => rm_initB_5_4 hw a a_683 ca cb cc 60 sv h q1 cm q2 q3 q4 q5 q6 q7 q8 kca kcb kcc (by refine ⟨?_, ?_, ?_⟩ <;> decide) ⟨ksv, hbig⟩) (fun h a b q1 q2 q3 q4 q5 q6 => rm_isStart_5_3_1 hw a b (bY (ca >>> (0 &&& 31))) (bY (ca >>> (8 &&& 31))) (bY (cb >>> (0 &&& 31))) (bY (cb >>> (8 &&& 31))) (bY (cc >>> (0 &&& 31))) (bY (cc >>> (8 &&& 31))) (bY ((60 : Int32) >>> (0 &&& 31))) (bY ((60 : Int32) >>> (8 &&& 31))) (bY (sv >>> (0 &&& 31))) (bY (sv >>> (8 &&& 31))) sv h q1 cm q2 q3 q4 q5 q6 (own_gc (c := 60) (by decide)) (own_gc (c := sv) ksv) ksv) (fun r _ r1 => r1 hb_748 hb_751 hb_754) B C
              · show Go _ _ _ _ 1 5 226 _ []
                have f_759 := (lT (lT (lT (lT (lT (lT (lT (lT Z0 E_685.1) K_689.1) K_693.1) K_697.1) K_701.1) K_705.1) K_741.1) K_745.1)
                have f_760 := ((((((((O.ext E_685).keep K_689 (allS ge_a_683 all0)).keep K_693 (allS ge_a_683 all0)).keep K_697 (allS ge_a_683 all0)).keep K_701 (allS ge_a_683 all0)).keep K_705 (allS ge_a_683 all0)).keep K_741 (allS ge_a_683 all0)).keep K_745 (allS ge_a_683 all0))
                exact rm_tail_5_0 hw p0 p1 p2 p3 p4 5 3 3 sv 1 a_683 ca cb cc 60 sv [.int (bY ca), .int (bY cb), .int (bY cc), .int (bY 60), .int (bY sv)] h_744 f_759 cm f_760 f_747 (fun h a q1 q2 q3 q4 q5 q6 q7 q8 => rm_init1_5 hw a a_683 ca cb cc 60 sv h q1 cm q2 q3 q4 q5 q6 q7 q8 kca kcb kcc (by refine ⟨?_, ?_, ?_⟩ <;> decide) ⟨ksv, hbig, own_chof ksv⟩) (fun h a b q1 q2 q3 q4 q5 q6 => rm_isStart_5_3_0 hw a b (bY ca) (bY cb) (bY cc) (bY 60) (bY sv) sv h q1 cm q2 q3 q4 q5 q6 (own_l1 (c := 60) (by decide) (by decide)) (own_l1 (c := sv) ksv (show Ch sv from ⟨ksv, hbig, own_chof ksv⟩).2.1) ksv) (fun r _ r1 => r1 hb_748 hb_751 hb_754) B C
end Rm
theorem comes_1 {Post : Tables → Env → Array Value → State → Outcome → State → Prop} (hpost : ∀ tb e args s v u, (limb_1_1.after args s (.returned v) u = true ∧ limb_1_2.after args s (.returned v) u = true ∧ True) → FrameEnd s (.returned v) u (Jvm.fieldLocs frame_1_writes args s ++ Jvm.arrayLocs frame_1_arrays args s ++ Jvm.staticLocs frame_1_statics s) 16 128 → Post tb e args s (.returned v) u) :
    ArmFor flags0 classFile x code maxLocals ret World_1 tables_1 room_1 Calls_1 rest_1 Pre_1 Post := by
  intro l hfl _ _ p e ha hc hk s m args below hf hA hF happ hP
  obtain ⟨hcalls, hrest, hpre⟩ := hP
  obtain ⟨-, -, -, hnamed, -, -, -, hat⟩ := (Spec.applies_iff hf).mp happ
  obtain ⟨hg, hn⟩ := and_e (Cond.before_iff.mp (show (Jvm.Cond.and given_1 narrow_1).before args s = true from hpre))
  obtain ⟨gc, gr0⟩ := and_e hg
  obtain ⟨ga0, gr1⟩ := and_e gr0
  obtain ⟨ga1, gr2⟩ := and_e gr1
  obtain ⟨ga2, gr3⟩ := and_e gr2
  obtain ⟨ga3, gr4⟩ := and_e gr3
  obtain ⟨w0, w1, w2, w3, w4, rfl⟩ : ∃ w0 w1 w2 w3 w4 : Value, args = #[w0, w1, w2, w3, w4] := by
    have hs : args.size = 5 := by simpa [Cond.value, given_1] using gc
    obtain ⟨L⟩ := args
    match L, hs with
    | [w0, w1, w2, w3, w4], _ => exact ⟨w0, w1, w2, w3, w4, rfl⟩
  have hw := fun d (hd : d ∈ tables_1) => atoms_spec (ws := Jvm.Cond.code x code maxLocals ret :: tables_1) hat d (List.mem_cons_of_mem _ hd)
  have hfit : Fit s := fun {y c} hc i hi => by
    obtain ⟨ha, rfl⟩ := Array.getElem?_eq_some_iff.mp hc
    have q := List.all_eq_true.mp ((Array.all_eq_true_iff_forall_mem.mp hF) _ (Array.getElem_mem ha)) i (List.mem_range.mpr hi)
    simpa [Array.getElem?_eq_getElem hi] using q
  obtain ⟨i0, ei0⟩ := is_v ga0
  obtain rfl : w0 = (.int i0) := Option.some.inj ei0
  obtain ⟨i1, ei1⟩ := is_v ga1
  obtain rfl : w1 = (.int i1) := Option.some.inj ei1
  obtain ⟨i2, ei2⟩ := is_v ga2
  obtain rfl : w2 = (.int i2) := Option.some.inj ei2
  obtain ⟨i3, ei3⟩ := is_v ga3
  obtain rfl : w3 = (.int i3) := Option.some.inj ei3
  obtain ⟨i4, ei4⟩ := is_v gr4
  obtain rfl : w4 = (.int i4) := Option.some.inj ei4
  have hr0 : rest_1_c.before _ s = true := hrest
  rw [rest_1_c_eq] at hr0
  obtain ⟨hjs, -⟩ := atoms_of jdkStatics_1 hr0
  have hj := fun (k : Nat) {d : Jvm.Cond} (e : jdkStatics_1[k]? = some d) => hjs d (List.mem_of_getElem? e)
  have cm : Um s := ⟨own_cmp (hj 0 rfl) (hj 1 rfl) (hj 2 rfl), own_steq (hj 11 rfl) (hj 12 rfl), own_steq (hj 14 rfl) (hj 15 rfl), own_steq (hj 17 rfl) (hj 18 rfl), own_stref (hj 7 rfl) (hj 8 rfl)⟩
  obtain ⟨n, o, h1, h2, h3, _, L, rfl, ⟨N, rfl⟩, hq⟩ := rm_law (l := l) (n0 := s.heap.size) hw i0 i1 i2 i3 i4  s.heap (Nat.le_refl _) cm (Old.start s) tables_1 p e ha hc hk s m _ below hf ((Spec.applies_iff_loose hf).mp happ).1 ⟨rfl, State.Warmed39.refl s, rfl⟩ trivial
  refine ⟨n, _, h1, h2, h3, hpost _ _ _ _ _ _ ⟨Cond.after_iff.mpr rfl, Cond.after_iff.mpr (eq_i res_at (Term.int_eval (1)) rfl), trivial⟩ ⟨hq.1, hq.2.1, (hq.2.2.sift fun y hy => Or.inr (N y hy)).mono (by decide) (by decide)⟩⟩
theorem main_1_1 : Claimed_1_1 := comes_1 fun _ _ _ _ _ _ h hF => ⟨h.1, hF⟩
theorem main_1_2 : Claimed_1_2 := comes_1 fun _ _ _ _ _ _ h hF => ⟨h.2.1, hF⟩
end Jvm.Pilot.@@N@@
namespace Jvm.Pilot.@@N@@
open Jvm Jvm.ClassFile Sem Op Lib Jvm.Free Jvm.Stand Jvm.Pilot.@@N@@.Jvm.D
/-! MADE BY PROGRAM (witnessworld.py) out of the Statement's table words and the real class files: 20 classes; the members and pool entries that the words name. The judged class is class 1, her method 1. -/
namespace start1
open Jvm.ClassFile
def u (s : String) : CpInfo := .utf8 (stringToUtf16 s)
/-- a pool by its gaps: so many unusable entries, then the entry; so many at the end -/
def gap : Nat → List CpInfo → List CpInfo
  | 0, r => r
  | n + 1, r => .unusable :: gap n r
def poolList (es : List (Nat × CpInfo)) (last : Nat) : List CpInfo := es.foldr (fun e r => gap e.1 (e.2 :: r)) (gap last [])
def pool (es : List (Nat × CpInfo)) (last : Nat) : Array CpInfo := ⟨poolList es last⟩
def fileOf (pool : Array CpInfo) (this : Nat) (attrs : Array Attribute := #[]) (ms : Array MethodInfo := #[]) (fl : Nat := 33) (sup : Nat := 0) (ifs : Array Nat := #[]) (fds : Array FieldInfo := #[]) : ClassFile where
  minorVersion := 0
  majorVersion := 65
  constantPool := pool
  accessFlags := fl
  thisClass := this
  superClass := sup
  interfaces := ifs
  fields := fds
  methods := ms
  attributes := attrs
def plain (name : String) (sup : Option ClassId) : Class where
  name := name
  kind := .ordinary
  loader := none
  accessFlags := 33
  super := sup
  interfaces := #[]
  cf := none
  fields := #[]
  methods := #[]
  instanceTypes := #[]
  staticTypes := #[]
  resolved := #[]
  callSites := []
  init := .initialized
  statics := none
  mirror := none

def pool0 : Array CpInfo := pool [(5, u "<init>"), (0, u "()V"), (1, .class_ 10), (1, u "java/lang/Object")] 113

def k0c0 : Code := { maxStack := 0, maxLocals := 1, code := object_method_1_code, exceptionTable := #[], attributes := #[] }
def k0m0 : Method := { name := "<init>", desc := "()V", sig := { parameters := [], returnType := none }, accessFlags := 1, code := some k0c0 }
/-- java/lang/Object -/
def k0 : Class := { plain "java/lang/Object" none with
  accessFlags := 33
  interfaces := #[]
  cf := some (fileOf pool0 8 #[] #[{ accessFlags := 1, nameIndex := 5, descriptorIndex := 6, attributes := #[] }] 33 0 #[] #[])
  fields := #[]
  methods := #[k0m0]
  instanceTypes := #[]
  staticTypes := #[]
  resolved := Array.replicate 124 none
  statics := none }

def pool1 : Array CpInfo := pool [(2, .class_ 4), (1, u "java/lang/Object"), (0, u "<init>"), (0, u "()V"), (0, .integer 2147483647), (0, .integer 65535), (0, .class_ 10), (0, u "java/lang/String"), (0, .methodref 9 12), (0, .nameAndType 5 13), (0, u "([C)V"), (0, .methodref 15 16), (0, .class_ 17), (0, .nameAndType 18 19), (0, u "com/example/poder/poder/format/Markup"), (0, u "isStartTag"), (0, u "(Ljava/lang/String;I)Z"), (0, .class_ 21), (0, u "com/example/poder/poder/format/MarkupIsStartTagPinLaw"), (2, u "law"), (0, u "(IIIII)Z")] 5

def k1m0 : Method := { name := "<init>", desc := "()V", sig := { parameters := [], returnType := none }, accessFlags := 1, code := none }
def k1c1 : Code := { maxStack := 4, maxLocals := 11, code := code, exceptionTable := #[], attributes := #[] }
def k1m1 : Method := { name := "law", desc := "(IIIII)Z", sig := { parameters := [.int, .int, .int, .int, .int], returnType := some .boolean }, accessFlags := 9, code := some k1c1 }
/-- com/example/poder/poder/format/MarkupIsStartTagPinLaw -/
def k1 : Class := { plain "com/example/poder/poder/format/MarkupIsStartTagPinLaw" (some 0) with
  accessFlags := 49
  interfaces := #[]
  cf := some (fileOf pool1 20 #[] #[{ accessFlags := 1, nameIndex := 5, descriptorIndex := 6, attributes := #[] }, { accessFlags := 9, nameIndex := 24, descriptorIndex := 25, attributes := #[] }] 49 2 #[] #[])
  fields := #[]
  methods := #[k1m0, k1m1]
  instanceTypes := #[]
  staticTypes := #[]
  resolved := Array.replicate 31 none
  statics := none }

def pool2 : Array CpInfo := pool [(1, .class_ 2), (0, u "java/io/Serializable"), (0, .class_ 4), (0, u "java/lang/Object")] 2

/-- java/io/Serializable -/
def k2 : Class := { plain "java/io/Serializable" (some 0) with
  accessFlags := 1537
  interfaces := #[]
  cf := some (fileOf pool2 1 #[] #[] 1537 3 #[] #[])
  fields := #[]
  methods := #[]
  instanceTypes := #[]
  staticTypes := #[]
  resolved := Array.replicate 7 none
  statics := none }

def pool3 : Array CpInfo := pool [(1, .class_ 2), (0, u "java/lang/Comparable"), (0, .class_ 4), (0, u "java/lang/Object")] 7

/-- java/lang/Comparable -/
def k3 : Class := { plain "java/lang/Comparable" (some 0) with
  accessFlags := 1537
  interfaces := #[]
  cf := some (fileOf pool3 1 #[] #[] 1537 3 #[] #[])
  fields := #[]
  methods := #[]
  instanceTypes := #[]
  staticTypes := #[]
  resolved := Array.replicate 12 none
  statics := none }

def pool4 : Array CpInfo := pool [(2, .class_ 4), (1, u "java/lang/CharSequence"), (42, .class_ 48), (0, u "java/lang/CharSequence$1CodePointIterator"), (10, .class_ 60), (0, u "java/lang/CharSequence$1CharIterator"), (5, .class_ 67), (0, u "java/lang/Object")] 63

/-- java/lang/CharSequence -/
def k4 : Class := { plain "java/lang/CharSequence" (some 0) with
  accessFlags := 1537
  interfaces := #[]
  cf := some (fileOf pool4 2 #[.nestMembers #[47, 59]] #[] 1537 66 #[] #[])
  fields := #[]
  methods := #[]
  instanceTypes := #[]
  staticTypes := #[]
  resolved := Array.replicate 131 none
  statics := none }

def pool5 : Array CpInfo := pool [(1, .class_ 2), (0, u "java/lang/constant/Constable"), (0, .class_ 4), (0, u "java/lang/Object")] 6

/-- java/lang/constant/Constable -/
def k5 : Class := { plain "java/lang/constant/Constable" (some 0) with
  accessFlags := 1537
  interfaces := #[]
  cf := some (fileOf pool5 1 #[] #[] 1537 3 #[] #[])
  fields := #[]
  methods := #[]
  instanceTypes := #[]
  staticTypes := #[]
  resolved := Array.replicate 11 none
  statics := none }

def pool6 : Array CpInfo := pool [(1, .class_ 2), (0, u "java/lang/constant/ConstantDesc"), (0, .class_ 4), (0, u "java/lang/Object")] 32

/-- java/lang/constant/ConstantDesc -/
def k6 : Class := { plain "java/lang/constant/ConstantDesc" (some 0) with
  accessFlags := 1537
  interfaces := #[]
  cf := some (fileOf pool6 1 #[] #[] 1537 3 #[] #[])
  fields := #[]
  methods := #[]
  instanceTypes := #[]
  staticTypes := #[]
  resolved := Array.replicate 37 none
  statics := none }

def pool7 : Array CpInfo := pool [(1, .methodref 2 3), (0, .class_ 4), (0, .nameAndType 5 6), (0, u "java/lang/Object"), (0, u "<init>"), (0, u "()V"), (2, .fieldref 10 11), (0, .class_ 12), (0, .nameAndType 13 14), (0, u "java/lang/String"), (0, u "value"), (0, u "[B"), (0, .fieldref 10 16), (0, .nameAndType 17 18), (0, u "coder"), (0, u "B"), (2, u "hash"), (0, u "I"), (2, u "hashIsZero"), (0, u "Z"), (0, .methodref 10 28), (0, .nameAndType 5 29), (0, u "([CIILjava/lang/Void;)V"), (8, .fieldref 10 39), (0, .nameAndType 40 26), (0, u "COMPACT_STRINGS"), (1, .class_ 44), (1, u "java/lang/StringUTF16"), (0, u "compress"), (1, .methodref 42 48), (0, .nameAndType 49 50), (0, u "coderFromArrayLen"), (0, u "([BI)B"), (56, .class_ 109), (1, u "java/lang/StringLatin1"), (32, u "()Z"), (34, .methodref 42 178), (0, .nameAndType 45 179), (0, u "([CII)[B"), (154, u "()I"), (0, .methodref 10 336), (0, .nameAndType 17 337), (0, u "()B"), (25, u "([BI)C"), (27, u "(II)V"), (35, u "(I)C"), (64, .methodref 10 493), (0, .nameAndType 494 142), (0, u "isLatin1"), (0, .methodref 107 496), (0, .nameAndType 497 363), (0, u "charAt"), (0, .methodref 42 496), (2, u "checkIndex"), (5, u "length"), (67, .class_ 576), (0, u "java/lang/CharSequence"), (22, u "CASE_INSENSITIVE_ORDER"), (0, u "Ljava/util/Comparator;"), (409, u "([C)V"), (42, .fieldref 1054 1055), (0, .class_ 1056), (0, .nameAndType 1057 1058), (0, u "jdk/internal/util/Preconditions"), (0, u "SIOOBE_FORMATTER"), (0, u "Ljava/util/function/BiFunction;"), (0, .methodref 1054 1060), (0, .nameAndType 501 1061), (0, u "(IILjava/util/function/BiFunction;)I"), (39, u "serialPersistentFields"), (0, u "[Ljava/io/ObjectStreamField;"), (0, .class_ 1104), (0, u "java/lang/String$CaseInsensitiveComparator"), (1, .class_ 1107), (0, u "java/io/Serializable"), (0, .class_ 1109), (0, u "java/lang/Comparable"), (0, .class_ 1111), (0, u "java/lang/constant/Constable"), (0, .class_ 1113), (0, u "java/lang/constant/ConstantDesc"), (2, u "serialVersionUID"), (0, u "J"), (3, u "REPL"), (0, u "C"), (2, u "LATIN1"), (1, u "UTF16")] 323

def k7m0 : Method := { name := "<init>", desc := "()V", sig := { parameters := [], returnType := none }, accessFlags := 1, code := none }
def k7c1 : Code := { maxStack := 5, maxLocals := 2, code := jdk_42_method_3_code, exceptionTable := #[], attributes := #[] }
def k7m1 : Method := { name := "<init>", desc := "([C)V", sig := { parameters := [(.array .char)], returnType := none }, accessFlags := 1, code := some k7c1 }
def k7c2 : Code := { maxStack := 2, maxLocals := 1, code := jdk_42_method_54_code, exceptionTable := #[], attributes := #[] }
def k7m2 : Method := { name := "length", desc := "()I", sig := { parameters := [], returnType := some .int }, accessFlags := 1, code := some k7c2 }
def k7c3 : Code := { maxStack := 2, maxLocals := 2, code := jdk_42_method_56_code, exceptionTable := #[], attributes := #[] }
def k7m3 : Method := { name := "charAt", desc := "(I)C", sig := { parameters := [.int], returnType := some .char }, accessFlags := 1, code := some k7c3 }
def k7c4 : Code := { maxStack := 4, maxLocals := 6, code := jdk_42_method_149_code, exceptionTable := #[], attributes := #[] }
def k7m4 : Method := { name := "<init>", desc := "([CIILjava/lang/Void;)V", sig := { parameters := [(.array .char), .int, .int, (.object "java/lang/Void")], returnType := none }, accessFlags := 2, code := some k7c4 }
def k7c5 : Code := { maxStack := 1, maxLocals := 1, code := jdk_42_method_152_code, exceptionTable := #[], attributes := #[] }
def k7m5 : Method := { name := "coder", desc := "()B", sig := { parameters := [], returnType := some .byte }, accessFlags := 0, code := some k7c5 }
def k7c6 : Code := { maxStack := 1, maxLocals := 1, code := jdk_42_method_154_code, exceptionTable := #[], attributes := #[] }
def k7m6 : Method := { name := "isLatin1", desc := "()Z", sig := { parameters := [], returnType := some .boolean }, accessFlags := 0, code := some k7c6 }
def k7c7 : Code := { maxStack := 3, maxLocals := 2, code := jdk_42_method_155_code, exceptionTable := #[], attributes := #[] }
def k7m7 : Method := { name := "checkIndex", desc := "(II)V", sig := { parameters := [.int, .int], returnType := none }, accessFlags := 8, code := some k7c7 }
/-- java/lang/String -/
def k7 : Class := { plain "java/lang/String" (some 0) with
  accessFlags := 49
  interfaces := #[2, 3, 4, 5, 6]
  cf := some (fileOf pool7 10 #[.nestMembers #[1103]] #[{ accessFlags := 1, nameIndex := 5, descriptorIndex := 6, attributes := #[] }, { accessFlags := 1, nameIndex := 5, descriptorIndex := 1010, attributes := #[] }, { accessFlags := 1, nameIndex := 507, descriptorIndex := 334, attributes := #[] }, { accessFlags := 1, nameIndex := 497, descriptorIndex := 427, attributes := #[] }, { accessFlags := 2, nameIndex := 5, descriptorIndex := 29, attributes := #[] }, { accessFlags := 0, nameIndex := 17, descriptorIndex := 337, attributes := #[] }, { accessFlags := 0, nameIndex := 494, descriptorIndex := 142, attributes := #[] }, { accessFlags := 8, nameIndex := 501, descriptorIndex := 391, attributes := #[] }] 49 2 #[1106, 1108, 575, 1110, 1112] #[{ accessFlags := 18, nameIndex := 13, descriptorIndex := 14, attributes := #[] }, { accessFlags := 18, nameIndex := 17, descriptorIndex := 18, attributes := #[] }, { accessFlags := 2, nameIndex := 21, descriptorIndex := 22, attributes := #[] }, { accessFlags := 2, nameIndex := 25, descriptorIndex := 26, attributes := #[] }, { accessFlags := 26, nameIndex := 1116, descriptorIndex := 1117, attributes := #[] }, { accessFlags := 24, nameIndex := 40, descriptorIndex := 26, attributes := #[] }, { accessFlags := 26, nameIndex := 1101, descriptorIndex := 1102, attributes := #[] }, { accessFlags := 26, nameIndex := 1121, descriptorIndex := 1122, attributes := #[] }, { accessFlags := 25, nameIndex := 599, descriptorIndex := 600, attributes := #[] }, { accessFlags := 24, nameIndex := 1125, descriptorIndex := 18, attributes := #[] }, { accessFlags := 24, nameIndex := 1127, descriptorIndex := 18, attributes := #[] }])
  fields := #[{ name := "value", type := (.array .byte), accessFlags := 18, slot := 0, constantValue := 0 }, { name := "coder", type := .byte, accessFlags := 18, slot := 1, constantValue := 0 }, { name := "hash", type := .int, accessFlags := 2, slot := 2, constantValue := 0 }, { name := "hashIsZero", type := .boolean, accessFlags := 2, slot := 3, constantValue := 0 }, { name := "serialVersionUID", type := .long, accessFlags := 26, slot := 0, constantValue := 0 }, { name := "COMPACT_STRINGS", type := .boolean, accessFlags := 24, slot := 1, constantValue := 0 }, { name := "serialPersistentFields", type := (.array (.object "java/io/ObjectStreamField")), accessFlags := 26, slot := 2, constantValue := 0 }, { name := "REPL", type := .char, accessFlags := 26, slot := 3, constantValue := 0 }, { name := "CASE_INSENSITIVE_ORDER", type := (.object "java/util/Comparator"), accessFlags := 25, slot := 4, constantValue := 0 }, { name := "LATIN1", type := .byte, accessFlags := 24, slot := 5, constantValue := 0 }, { name := "UTF16", type := .byte, accessFlags := 24, slot := 6, constantValue := 0 }]
  methods := #[k7m0, k7m1, k7m2, k7m3, k7m4, k7m5, k7m6, k7m7]
  instanceTypes := #[(.array .byte), .byte, .int, .boolean]
  staticTypes := #[.long, .boolean, (.array (.object "java/io/ObjectStreamField")), .char, (.object "java/util/Comparator"), .byte, .byte]
  resolved := Array.replicate 1451 none
  statics := some 0 }

def pool8 : Array CpInfo := pool [(3, .class_ 4), (0, u "java/lang/String"), (1, .class_ 8), (1, u "java/lang/Object"), (0, u "<init>"), (0, u "()V"), (0, .methodref 12 13), (0, .class_ 14), (0, .nameAndType 15 16), (0, u "java/lang/StringUTF16"), (0, u "newBytesLength"), (0, u "(I)I"), (3, .integer 1073741823), (23, .fieldref 12 45), (0, .nameAndType 46 47), (0, u "$assertionsDisabled"), (0, u "Z"), (0, .methodref 12 49), (0, .nameAndType 50 51), (0, u "length"), (0, u "([B)I"), (7, .fieldref 12 60), (0, .nameAndType 61 62), (0, u "HI_BYTE_SHIFT"), (0, u "I"), (0, .fieldref 12 64), (0, .nameAndType 65 62), (0, u "LO_BYTE_SHIFT"), (1, .methodref 12 68), (0, .nameAndType 69 70), (0, u "checkIndex"), (0, u "(I[B)V"), (0, .methodref 12 72), (0, .nameAndType 73 74), (0, u "getChar"), (0, u "([BI)C"), (32, .methodref 12 108), (0, .nameAndType 109 110), (0, u "newBytesFor"), (0, u "(I)[B"), (0, .methodref 12 112), (0, .nameAndType 113 114), (0, u "putChar"), (0, u "([BII)V"), (0, .methodref 12 116), (0, .nameAndType 117 118), (0, u "compress"), (0, u "([CI[BII)I"), (0, .methodref 12 120), (0, .nameAndType 121 122), (0, u "toBytes"), (0, u "([CII)[B"), (138, u "coderFromArrayLen"), (0, u "([BI)B"), (106, .class_ 371), (1, u "java/lang/StringUTF16$LinesSpliterator"), (20, u "charAt"), (21, .methodref 3 415), (0, .nameAndType 69 416), (0, u "(II)V"), (13, u "MAX_LENGTH"), (196, .class_ 628), (0, u "java/lang/StringUTF16$CodePointsSpliterator"), (0, .class_ 630), (0, u "java/lang/StringUTF16$CharsSpliterator")] 4

def k8m0 : Method := { name := "<init>", desc := "()V", sig := { parameters := [], returnType := none }, accessFlags := 0, code := none }
def k8c1 : Code := { maxStack := 1, maxLocals := 1, code := jdk_52_method_2_code, exceptionTable := #[], attributes := #[] }
def k8m1 : Method := { name := "newBytesFor", desc := "(I)[B", sig := { parameters := [.int], returnType := some (.array .byte) }, accessFlags := 9, code := some k8c1 }
def k8c2 : Code := { maxStack := 4, maxLocals := 1, code := jdk_52_method_3_code, exceptionTable := #[], attributes := #[] }
def k8m2 : Method := { name := "newBytesLength", desc := "(I)I", sig := { parameters := [.int], returnType := some .int }, accessFlags := 9, code := some k8c2 }
def k8c3 : Code := { maxStack := 4, maxLocals := 3, code := jdk_52_method_4_code, exceptionTable := #[], attributes := #[] }
def k8m3 : Method := { name := "putChar", desc := "([BII)V", sig := { parameters := [(.array .byte), .int, .int], returnType := none }, accessFlags := 8, code := some k8c3 }
def k8c4 : Code := { maxStack := 3, maxLocals := 2, code := jdk_52_method_5_code, exceptionTable := #[], attributes := #[] }
def k8m4 : Method := { name := "getChar", desc := "([BI)C", sig := { parameters := [(.array .byte), .int], returnType := some .char }, accessFlags := 8, code := some k8c4 }
def k8c5 : Code := { maxStack := 2, maxLocals := 1, code := jdk_52_method_6_code, exceptionTable := #[], attributes := #[] }
def k8m5 : Method := { name := "length", desc := "([B)I", sig := { parameters := [(.array .byte)], returnType := some .int }, accessFlags := 9, code := some k8c5 }
def k8c6 : Code := { maxStack := 4, maxLocals := 5, code := jdk_52_method_14_code, exceptionTable := #[], attributes := #[] }
def k8m6 : Method := { name := "toBytes", desc := "([CII)[B", sig := { parameters := [(.array .char), .int, .int], returnType := some (.array .byte) }, accessFlags := 9, code := some k8c6 }
def k8c7 : Code := { maxStack := 2, maxLocals := 2, code := jdk_52_method_15_code, exceptionTable := #[], attributes := #[] }
def k8m7 : Method := { name := "coderFromArrayLen", desc := "([BI)B", sig := { parameters := [(.array .byte), .int], returnType := some .byte }, accessFlags := 8, code := some k8c7 }
def k8c8 : Code := { maxStack := 5, maxLocals := 6, code := jdk_52_method_16_code, exceptionTable := #[], attributes := #[] }
def k8m8 : Method := { name := "compress", desc := "([CII)[B", sig := { parameters := [(.array .char), .int, .int], returnType := some (.array .byte) }, accessFlags := 9, code := some k8c8 }
def k8c9 : Code := { maxStack := 3, maxLocals := 7, code := jdk_52_method_21_code, exceptionTable := #[], attributes := #[] }
def k8m9 : Method := { name := "compress", desc := "([CI[BII)I", sig := { parameters := [(.array .char), .int, (.array .byte), .int, .int], returnType := some .int }, accessFlags := 9, code := some k8c9 }
def k8c10 : Code := { maxStack := 2, maxLocals := 2, code := jdk_52_method_83_code, exceptionTable := #[], attributes := #[] }
def k8m10 : Method := { name := "charAt", desc := "([BI)C", sig := { parameters := [(.array .byte), .int], returnType := some .char }, accessFlags := 9, code := some k8c10 }
def k8c11 : Code := { maxStack := 2, maxLocals := 2, code := jdk_52_method_91_code, exceptionTable := #[], attributes := #[] }
def k8m11 : Method := { name := "checkIndex", desc := "(I[B)V", sig := { parameters := [.int, (.array .byte)], returnType := none }, accessFlags := 9, code := some k8c11 }
/-- java/lang/StringUTF16 -/
def k8 : Class := { plain "java/lang/StringUTF16" (some 0) with
  accessFlags := 48
  interfaces := #[]
  cf := some (fileOf pool8 12 #[.nestMembers #[627, 629, 369]] #[{ accessFlags := 0, nameIndex := 9, descriptorIndex := 10, attributes := #[] }, { accessFlags := 9, nameIndex := 109, descriptorIndex := 110, attributes := #[] }, { accessFlags := 9, nameIndex := 15, descriptorIndex := 16, attributes := #[] }, { accessFlags := 8, nameIndex := 113, descriptorIndex := 114, attributes := #[] }, { accessFlags := 8, nameIndex := 73, descriptorIndex := 74, attributes := #[] }, { accessFlags := 9, nameIndex := 50, descriptorIndex := 51, attributes := #[] }, { accessFlags := 9, nameIndex := 121, descriptorIndex := 122, attributes := #[] }, { accessFlags := 8, nameIndex := 261, descriptorIndex := 262, attributes := #[] }, { accessFlags := 9, nameIndex := 117, descriptorIndex := 122, attributes := #[] }, { accessFlags := 9, nameIndex := 117, descriptorIndex := 118, attributes := #[] }, { accessFlags := 9, nameIndex := 392, descriptorIndex := 74, attributes := #[] }, { accessFlags := 9, nameIndex := 69, descriptorIndex := 70, attributes := #[] }] 48 6 #[] #[{ accessFlags := 26, nameIndex := 61, descriptorIndex := 62, attributes := #[] }, { accessFlags := 26, nameIndex := 65, descriptorIndex := 62, attributes := #[] }, { accessFlags := 24, nameIndex := 430, descriptorIndex := 62, attributes := #[] }, { accessFlags := 4120, nameIndex := 46, descriptorIndex := 47, attributes := #[] }])
  fields := #[{ name := "HI_BYTE_SHIFT", type := .int, accessFlags := 26, slot := 0, constantValue := 0 }, { name := "LO_BYTE_SHIFT", type := .int, accessFlags := 26, slot := 1, constantValue := 0 }, { name := "MAX_LENGTH", type := .int, accessFlags := 24, slot := 2, constantValue := 0 }, { name := "$assertionsDisabled", type := .boolean, accessFlags := 4120, slot := 3, constantValue := 0 }]
  methods := #[k8m0, k8m1, k8m2, k8m3, k8m4, k8m5, k8m6, k8m7, k8m8, k8m9, k8m10, k8m11]
  instanceTypes := #[]
  staticTypes := #[.int, .int, .int, .boolean]
  resolved := Array.replicate 635 none
  statics := some 1 }

def pool9 : Array CpInfo := pool [(2, .class_ 4), (1, u "java/lang/Object"), (0, u "<init>"), (0, u "()V"), (0, .methodref 8 9), (0, .class_ 10), (0, .nameAndType 11 12), (0, u "com/example/poder/poder/format/Markup"), (0, u "second"), (0, u "(Ljava/lang/String;I)C"), (3, .class_ 18), (1, u "java/lang/String"), (1, u "(Ljava/lang/String;I)Z"), (12, .methodref 16 34), (0, .nameAndType 35 36), (0, u "length"), (0, u "()I"), (0, .methodref 16 38), (0, .nameAndType 39 40), (0, u "charAt"), (0, u "(I)C"), (21, u "isStartTag"), (31, u "XMLNS"), (0, u "Ljava/lang/String;")] 8

def k9m0 : Method := { name := "<init>", desc := "()V", sig := { parameters := [], returnType := none }, accessFlags := 2, code := none }
def k9c1 : Code := { maxStack := 2, maxLocals := 3, code := prog_12_method_2_code, exceptionTable := #[], attributes := #[] }
def k9m1 : Method := { name := "isStartTag", desc := "(Ljava/lang/String;I)Z", sig := { parameters := [(.object "java/lang/String"), .int], returnType := some .boolean }, accessFlags := 8, code := some k9c1 }
def k9c2 : Code := { maxStack := 3, maxLocals := 3, code := prog_12_method_12_code, exceptionTable := #[], attributes := #[] }
def k9m2 : Method := { name := "second", desc := "(Ljava/lang/String;I)C", sig := { parameters := [(.object "java/lang/String"), .int], returnType := some .char }, accessFlags := 10, code := some k9c2 }
/-- com/example/poder/poder/format/Markup -/
def k9 : Class := { plain "com/example/poder/poder/format/Markup" (some 0) with
  accessFlags := 32
  interfaces := #[]
  cf := some (fileOf pool9 8 #[] #[{ accessFlags := 2, nameIndex := 5, descriptorIndex := 6, attributes := #[] }, { accessFlags := 8, nameIndex := 62, descriptorIndex := 20, attributes := #[] }, { accessFlags := 10, nameIndex := 11, descriptorIndex := 12, attributes := #[] }] 32 2 #[] #[{ accessFlags := 26, nameIndex := 94, descriptorIndex := 95, attributes := #[] }])
  fields := #[{ name := "XMLNS", type := (.object "java/lang/String"), accessFlags := 26, slot := 0, constantValue := 0 }]
  methods := #[k9m0, k9m1, k9m2]
  instanceTypes := #[]
  staticTypes := #[(.object "java/lang/String")]
  resolved := Array.replicate 104 none
  statics := none }

def pool10 : Array CpInfo := pool [(1, .class_ 2), (0, u "java/lang/String"), (1, .class_ 6), (1, u "java/lang/Object"), (0, u "<init>"), (0, u "()V"), (0, .methodref 1 10), (0, .nameAndType 11 12), (0, u "checkIndex"), (0, u "(II)V"), (1, .class_ 16), (1, u "java/lang/StringLatin1"), (36, u "([BI)C"), (67, u "$assertionsDisabled"), (0, u "Z"), (98, .class_ 223), (1, u "java/lang/StringLatin1$LinesSpliterator"), (28, u "charAt"), (137, .class_ 391), (0, u "java/lang/StringLatin1$CharsSpliterator")] 3

def k10m0 : Method := { name := "<init>", desc := "()V", sig := { parameters := [], returnType := none }, accessFlags := 0, code := none }
def k10c1 : Code := { maxStack := 2, maxLocals := 2, code := jdk_43_method_2_code, exceptionTable := #[], attributes := #[] }
def k10m1 : Method := { name := "charAt", desc := "([BI)C", sig := { parameters := [(.array .byte), .int], returnType := some .char }, accessFlags := 9, code := some k10c1 }
/-- java/lang/StringLatin1 -/
def k10 : Class := { plain "java/lang/StringLatin1" (some 0) with
  accessFlags := 48
  interfaces := #[]
  cf := some (fileOf pool10 14 #[.nestMembers #[390, 221]] #[{ accessFlags := 0, nameIndex := 7, descriptorIndex := 8, attributes := #[] }, { accessFlags := 9, nameIndex := 252, descriptorIndex := 53, attributes := #[] }] 48 4 #[] #[{ accessFlags := 4120, nameIndex := 121, descriptorIndex := 122, attributes := #[] }])
  fields := #[{ name := "$assertionsDisabled", type := .boolean, accessFlags := 4120, slot := 0, constantValue := 0 }]
  methods := #[k10m0, k10m1]
  instanceTypes := #[]
  staticTypes := #[.boolean]
  resolved := Array.replicate 395 none
  statics := none }

def pool11 : Array CpInfo := pool [(2, .class_ 4), (1, u "java/lang/Object"), (0, u "<init>"), (0, u "()V"), (17, .class_ 26), (1, u "jdk/internal/util/Preconditions"), (6, u "checkIndex"), (21, .class_ 56), (0, u "jdk/internal/util/Preconditions$4"), (57, .class_ 115), (0, u "jdk/internal/util/Preconditions$1"), (7, u "SIOOBE_FORMATTER"), (0, u "Ljava/util/function/BiFunction;"), (0, .class_ 126), (0, u "jdk/internal/util/Preconditions$2"), (3, u "AIOOBE_FORMATTER"), (0, .class_ 132), (0, u "jdk/internal/util/Preconditions$3"), (3, u "IOOBE_FORMATTER"), (41, u "(IILjava/util/function/BiFunction;)I")] 15

def k11m0 : Method := { name := "<init>", desc := "()V", sig := { parameters := [], returnType := none }, accessFlags := 1, code := none }
def k11c1 : Code := { maxStack := 3, maxLocals := 3, code := jdk_41_method_11_code, exceptionTable := #[], attributes := #[] }
def k11m1 : Method := { name := "checkIndex", desc := "(IILjava/util/function/BiFunction;)I", sig := { parameters := [.int, .int, (.object "java/util/function/BiFunction")], returnType := some .int }, accessFlags := 9, code := some k11c1 }
/-- jdk/internal/util/Preconditions -/
def k11 : Class := { plain "jdk/internal/util/Preconditions" (some 0) with
  accessFlags := 33
  interfaces := #[]
  cf := some (fileOf pool11 24 #[.nestMembers #[55, 131, 125, 114]] #[{ accessFlags := 1, nameIndex := 5, descriptorIndex := 6, attributes := #[] }, { accessFlags := 9, nameIndex := 33, descriptorIndex := 178, attributes := #[] }] 33 2 #[] #[{ accessFlags := 25, nameIndex := 123, descriptorIndex := 124, attributes := #[] }, { accessFlags := 25, nameIndex := 130, descriptorIndex := 124, attributes := #[] }, { accessFlags := 25, nameIndex := 136, descriptorIndex := 124, attributes := #[] }])
  fields := #[{ name := "SIOOBE_FORMATTER", type := (.object "java/util/function/BiFunction"), accessFlags := 25, slot := 0, constantValue := 0 }, { name := "AIOOBE_FORMATTER", type := (.object "java/util/function/BiFunction"), accessFlags := 25, slot := 1, constantValue := 0 }, { name := "IOOBE_FORMATTER", type := (.object "java/util/function/BiFunction"), accessFlags := 25, slot := 2, constantValue := 0 }]
  methods := #[k11m0, k11m1]
  instanceTypes := #[]
  staticTypes := #[(.object "java/util/function/BiFunction"), (.object "java/util/function/BiFunction"), (.object "java/util/function/BiFunction")]
  resolved := Array.replicate 194 none
  statics := some 2 }

def pool12 : Array CpInfo := pool [(9, u "<init>"), (6, .class_ 18), (1, u "java/lang/Object"), (0, u "()V"), (1, .class_ 23), (1, u "jdk/internal/util/ArraysSupport"), (0, u "LOG2_ARRAY_LONG_INDEX_SCALE"), (0, u "I"), (2, u "U"), (0, u "Ljdk/internal/misc/Unsafe;"), (8, u "BIG_ENDIAN"), (0, u "Z"), (8, u "LOG2_BYTE_BIT_SIZE"), (4, u "LOG2_ARRAY_INT_INDEX_SCALE"), (54, u "JLA"), (0, u "Ljdk/internal/access/JavaLangAccess;"), (11, u "LOG2_ARRAY_BOOLEAN_INDEX_SCALE"), (9, u "LOG2_ARRAY_BYTE_INDEX_SCALE"), (5, u "LOG2_ARRAY_CHAR_INDEX_SCALE"), (5, u "LOG2_ARRAY_SHORT_INDEX_SCALE"), (18, u "LOG2_ARRAY_FLOAT_INDEX_SCALE"), (24, u "LOG2_ARRAY_DOUBLE_INDEX_SCALE"), (89, u "T_BOOLEAN"), (2, u "T_CHAR"), (1, u "T_FLOAT"), (1, u "T_DOUBLE"), (1, u "T_BYTE"), (1, u "T_SHORT"), (1, u "T_INT"), (1, u "T_LONG"), (1, u "SOFT_MAX_ARRAY_LENGTH")] 83

def k12m0 : Method := { name := "<init>", desc := "()V", sig := { parameters := [], returnType := none }, accessFlags := 2, code := none }
/-- jdk/internal/util/ArraysSupport -/
def k12 : Class := { plain "jdk/internal/util/ArraysSupport" (some 0) with
  accessFlags := 33
  interfaces := #[]
  cf := some (fileOf pool12 21 #[] #[{ accessFlags := 2, nameIndex := 9, descriptorIndex := 19, attributes := #[] }] 33 16 #[] #[{ accessFlags := 24, nameIndex := 28, descriptorIndex := 29, attributes := #[] }, { accessFlags := 26, nameIndex := 38, descriptorIndex := 39, attributes := #[] }, { accessFlags := 25, nameIndex := 121, descriptorIndex := 25, attributes := #[] }, { accessFlags := 25, nameIndex := 131, descriptorIndex := 25, attributes := #[] }, { accessFlags := 25, nameIndex := 137, descriptorIndex := 25, attributes := #[] }, { accessFlags := 25, nameIndex := 143, descriptorIndex := 25, attributes := #[] }, { accessFlags := 25, nameIndex := 53, descriptorIndex := 25, attributes := #[] }, { accessFlags := 25, nameIndex := 24, descriptorIndex := 25, attributes := #[] }, { accessFlags := 25, nameIndex := 162, descriptorIndex := 25, attributes := #[] }, { accessFlags := 25, nameIndex := 187, descriptorIndex := 25, attributes := #[] }, { accessFlags := 26, nameIndex := 48, descriptorIndex := 25, attributes := #[] }, { accessFlags := 25, nameIndex := 277, descriptorIndex := 25, attributes := #[] }, { accessFlags := 25, nameIndex := 280, descriptorIndex := 25, attributes := #[] }, { accessFlags := 25, nameIndex := 282, descriptorIndex := 25, attributes := #[] }, { accessFlags := 25, nameIndex := 284, descriptorIndex := 25, attributes := #[] }, { accessFlags := 25, nameIndex := 286, descriptorIndex := 25, attributes := #[] }, { accessFlags := 25, nameIndex := 288, descriptorIndex := 25, attributes := #[] }, { accessFlags := 25, nameIndex := 290, descriptorIndex := 25, attributes := #[] }, { accessFlags := 25, nameIndex := 292, descriptorIndex := 25, attributes := #[] }, { accessFlags := 26, nameIndex := 108, descriptorIndex := 109, attributes := #[] }, { accessFlags := 25, nameIndex := 294, descriptorIndex := 25, attributes := #[] }])
  fields := #[{ name := "U", type := (.object "jdk/internal/misc/Unsafe"), accessFlags := 24, slot := 0, constantValue := 0 }, { name := "BIG_ENDIAN", type := .boolean, accessFlags := 26, slot := 1, constantValue := 0 }, { name := "LOG2_ARRAY_BOOLEAN_INDEX_SCALE", type := .int, accessFlags := 25, slot := 2, constantValue := 0 }, { name := "LOG2_ARRAY_BYTE_INDEX_SCALE", type := .int, accessFlags := 25, slot := 3, constantValue := 0 }, { name := "LOG2_ARRAY_CHAR_INDEX_SCALE", type := .int, accessFlags := 25, slot := 4, constantValue := 0 }, { name := "LOG2_ARRAY_SHORT_INDEX_SCALE", type := .int, accessFlags := 25, slot := 5, constantValue := 0 }, { name := "LOG2_ARRAY_INT_INDEX_SCALE", type := .int, accessFlags := 25, slot := 6, constantValue := 0 }, { name := "LOG2_ARRAY_LONG_INDEX_SCALE", type := .int, accessFlags := 25, slot := 7, constantValue := 0 }, { name := "LOG2_ARRAY_FLOAT_INDEX_SCALE", type := .int, accessFlags := 25, slot := 8, constantValue := 0 }, { name := "LOG2_ARRAY_DOUBLE_INDEX_SCALE", type := .int, accessFlags := 25, slot := 9, constantValue := 0 }, { name := "LOG2_BYTE_BIT_SIZE", type := .int, accessFlags := 26, slot := 10, constantValue := 0 }, { name := "T_BOOLEAN", type := .int, accessFlags := 25, slot := 11, constantValue := 0 }, { name := "T_CHAR", type := .int, accessFlags := 25, slot := 12, constantValue := 0 }, { name := "T_FLOAT", type := .int, accessFlags := 25, slot := 13, constantValue := 0 }, { name := "T_DOUBLE", type := .int, accessFlags := 25, slot := 14, constantValue := 0 }, { name := "T_BYTE", type := .int, accessFlags := 25, slot := 15, constantValue := 0 }, { name := "T_SHORT", type := .int, accessFlags := 25, slot := 16, constantValue := 0 }, { name := "T_INT", type := .int, accessFlags := 25, slot := 17, constantValue := 0 }, { name := "T_LONG", type := .int, accessFlags := 25, slot := 18, constantValue := 0 }, { name := "JLA", type := (.object "jdk/internal/access/JavaLangAccess"), accessFlags := 26, slot := 19, constantValue := 0 }, { name := "SOFT_MAX_ARRAY_LENGTH", type := .int, accessFlags := 25, slot := 20, constantValue := 0 }]
  methods := #[k12m0]
  instanceTypes := #[]
  staticTypes := #[(.object "jdk/internal/misc/Unsafe"), .boolean, .int, .int, .int, .int, .int, .int, .int, .int, .int, .int, .int, .int, .int, .int, .int, .int, .int, (.object "jdk/internal/access/JavaLangAccess"), .int]
  resolved := Array.replicate 378 none
  statics := none }

def pool13 : Array CpInfo := pool [(1, u "java/lang/Cloneable"), (0, .class_ 1), (0, u "java/lang/Object"), (0, .class_ 3)] 3

/-- java/lang/Cloneable -/
def k13 : Class := { plain "java/lang/Cloneable" (some 0) with
  accessFlags := 1537
  interfaces := #[]
  cf := some (fileOf pool13 2 #[] #[] 1537 4 #[] #[])
  fields := #[]
  methods := #[]
  instanceTypes := #[]
  staticTypes := #[]
  resolved := Array.replicate 8 none
  statics := none }

/-- the primitive byte -/
def k14 : Class := { plain "byte" none with kind := .primitive 'B', accessFlags := 0x411 }
/-- [B -/
def k15 : Class := { plain "[B" (some 0) with kind := .array 14 .byte, interfaces := #[13, 2], accessFlags := 1041 }

/-- the primitive char -/
def k16 : Class := { plain "char" none with kind := .primitive 'C', accessFlags := 0x411 }
/-- [C -/
def k17 : Class := { plain "[C" (some 0) with kind := .array 16 .char, interfaces := #[13, 2], accessFlags := 1041 }

/-- the primitive int -/
def k18 : Class := { plain "int" none with kind := .primitive 'I', accessFlags := 0x411 }
/-- [I -/
def k19 : Class := { plain "[I" (some 0) with kind := .array 18 .int, interfaces := #[13, 2], accessFlags := 1041 }

def heap : Heap := #[{ cls := 7, slots := #[.long 0, .int 1, .null, .int 0, .null, .int 0, .int 0], vm := .statics 7 },
  { cls := 8, slots := #[.int 0, .int 8, .int 0, .int 1], vm := .statics 8 },
  { cls := 11, slots := #[.null, .null, .null], vm := .statics 11 }]
def classes : Array Class := #[k0, k1, k2, k3, k4, k5, k6, k7, k8, k9, k10, k11, k12, k13, k14, k15, k16, k17, k18, k19]
def interned : List (Array UInt16 × Addr) := []
def slotsUsed : Nat := 14
def theMethod : MethodId := ⟨1, 1⟩
def args0 : Array Value := #[.int 1, .int 2, .int 3, .int 4, .int 5]
def aboutOver (below : List Frame) : State where
  vm := { classes := classes, interned := interned.toArray }
  heap := heap
  slotsUsed := slotsUsed
  threads := #[{ frames := .invoking theMethod args0 :: below }]
def below0 : List Frame := [.native { method := ⟨0, 0⟩, args := #[] }]
def about1 : State := aboutOver below0
def p0 : Program := .bare "" "" ""
def e0 : Env := launch0.env 0 0 0
theorem w_frames : about1.frames = Frame.invoking theMethod args0 :: below0 := rfl
theorem w_args : argsFit about1.vm theMethod args0 = true := by decide +kernel
theorem w_heap : heapFits about1 = true := by decide +kernel
theorem w_runnable : about1.curStatus? = some .runnable := by decide +kernel
theorem w_alone : about1.alone = true := by decide +kernel
theorem w_named : about1.methodNamed? x = some theMethod := by decide +kernel
theorem w_hears : about1.hears theMethod below0 = true := by decide +kernel
theorem w_ripe : about1.ripe theMethod args0 below0 = true := by decide +kernel
theorem w_running : about1.status = .running := rfl
theorem w_room : about1.hasRoom e0.platform room_1 = true :=
  launch0.hasRoom_least _ room_1 (by decide +kernel) (by decide +kernel) (by decide +kernel) (by decide +kernel) (by decide +kernel) (by decide +kernel)
theorem allAtoms_all (ts : List Jvm.Cond) (a : Array Jvm.Value) (st : Jvm.State) : (allAtoms ts).before a st = ts.all (fun c => c.before a st) := by
  induction ts with
  | nil => rfl
  | cons c t ih =>
    show (Jvm.Cond.and c (allAtoms t)).before a st = _
    rw [Jvm.Cond.before_and, ih, List.all_cons]
def words1 : List Jvm.Cond := Jvm.Cond.code x code maxLocals ret :: tables_1
/-- a 'code' word, met by the world's own term for the bytes: nothing is compared byte by byte -/
theorem code_word {y : MethodName} {bytes : ByteArray} {mx : Nat} {rt : Option FieldType} {a : Array Value} {s : State} {m : MethodId} {meth : Method} {c : Code} (h1 : s.methodNamed? y = some m) (h2 : s.vm.method? m = some meth) (h3 : meth.code = some c) (h4 : c.code = bytes)
    (h5 : (c.maxLocals == mx && c.exceptionTable.isEmpty && decide (c.maxStack ≤ mostOperands) && decide (meth.sig.returnType = rt) && !meth.locks && decide (parseMethodDescriptor y.desc = some meth.sig)) = true) : (Jvm.Cond.code y bytes mx rt).before a s = true := by
  simp only [Bool.and_eq_true, beq_iff_eq, Bool.not_eq_true', decide_eq_true_eq] at h5
  obtain ⟨⟨⟨⟨⟨g1, g2⟩, g3⟩, g4⟩, g5⟩, g6⟩ := h5
  simp [Cond.before, Cond.holds, Cond.value, h1, h2, h3, h4, g1, g2, g3, g4, g5, g6]
def isCode : Jvm.Cond → Bool
  | .code _ _ _ _ => true
  | _ => false
theorem all_split {L : List Jvm.Cond} {P : Jvm.Cond → Bool} (h1 : L.all (fun c => isCode c || P c) = true) (h2 : ∀ c ∈ L.filter isCode, P c = true) : L.all P = true := by
  refine List.all_eq_true.mpr fun c hc => ?_
  have h := List.all_eq_true.mp h1 c hc
  rcases Bool.eq_false_or_eq_true (isCode c) with hi | hi
  · exact h2 c (List.mem_filter.mpr ⟨hc, hi⟩)
  · simpa [hi] using h
theorem w_c0 : (Jvm.Cond.code x code maxLocals ret).before args0 about1 = true := code_word (m := ⟨1, 1⟩) (meth := k1m1) (c := k1c1) (by decide +kernel) rfl rfl rfl (by decide +kernel)
theorem w_c1 : (Jvm.Cond.code ({ cls := "java/lang/String", name := "<init>", desc := "([C)V" } : Jvm.MethodName) jdk_42_method_3_code (2 : Nat) (Option.none : Option Jvm.ClassFile.FieldType)).before args0 about1 = true := code_word (m := ⟨7, 1⟩) (meth := k7m1) (c := k7c1) (by decide +kernel) rfl rfl rfl (by decide +kernel)
theorem w_c2 : (Jvm.Cond.code ({ cls := "java/lang/String", name := "<init>", desc := "([CIILjava/lang/Void;)V" } : Jvm.MethodName) jdk_42_method_149_code (6 : Nat) (Option.none : Option Jvm.ClassFile.FieldType)).before args0 about1 = true := code_word (m := ⟨7, 4⟩) (meth := k7m4) (c := k7c4) (by decide +kernel) rfl rfl rfl (by decide +kernel)
theorem w_c3 : (Jvm.Cond.code ({ cls := "java/lang/Object", name := "<init>", desc := "()V" } : Jvm.MethodName) object_method_1_code (1 : Nat) (Option.none : Option Jvm.ClassFile.FieldType)).before args0 about1 = true := code_word (m := ⟨0, 0⟩) (meth := k0m0) (c := k0c0) (by decide +kernel) rfl rfl rfl (by decide +kernel)
theorem w_c4 : (Jvm.Cond.code ({ cls := "java/lang/StringUTF16", name := "compress", desc := "([CII)[B" } : Jvm.MethodName) jdk_52_method_16_code (6 : Nat) (Option.some (Jvm.ClassFile.FieldType.array Jvm.ClassFile.FieldType.byte))).before args0 about1 = true := code_word (m := ⟨8, 8⟩) (meth := k8m8) (c := k8c8) (by decide +kernel) rfl rfl rfl (by decide +kernel)
theorem w_c5 : (Jvm.Cond.code ({ cls := "java/lang/StringUTF16", name := "compress", desc := "([CI[BII)I" } : Jvm.MethodName) jdk_52_method_21_code (7 : Nat) (Option.some Jvm.ClassFile.FieldType.int)).before args0 about1 = true := code_word (m := ⟨8, 9⟩) (meth := k8m9) (c := k8c9) (by decide +kernel) rfl rfl rfl (by decide +kernel)
theorem w_c6 : (Jvm.Cond.code ({ cls := "java/lang/StringUTF16", name := "coderFromArrayLen", desc := "([BI)B" } : Jvm.MethodName) jdk_52_method_15_code (2 : Nat) (Option.some Jvm.ClassFile.FieldType.byte)).before args0 about1 = true := code_word (m := ⟨8, 7⟩) (meth := k8m7) (c := k8c7) (by decide +kernel) rfl rfl rfl (by decide +kernel)
theorem w_c7 : (Jvm.Cond.code ({ cls := "com/example/poder/poder/format/Markup", name := "isStartTag", desc := "(Ljava/lang/String;I)Z" } : Jvm.MethodName) prog_12_method_2_code (3 : Nat) (Option.some Jvm.ClassFile.FieldType.boolean)).before args0 about1 = true := code_word (m := ⟨9, 1⟩) (meth := k9m1) (c := k9c1) (by decide +kernel) rfl rfl rfl (by decide +kernel)
theorem w_c8 : (Jvm.Cond.code ({ cls := "com/example/poder/poder/format/Markup", name := "second", desc := "(Ljava/lang/String;I)C" } : Jvm.MethodName) prog_12_method_12_code (3 : Nat) (Option.some Jvm.ClassFile.FieldType.char)).before args0 about1 = true := code_word (m := ⟨9, 2⟩) (meth := k9m2) (c := k9c2) (by decide +kernel) rfl rfl rfl (by decide +kernel)
theorem w_c9 : (Jvm.Cond.code ({ cls := "java/lang/String", name := "length", desc := "()I" } : Jvm.MethodName) jdk_42_method_54_code (1 : Nat) (Option.some Jvm.ClassFile.FieldType.int)).before args0 about1 = true := code_word (m := ⟨7, 2⟩) (meth := k7m2) (c := k7c2) (by decide +kernel) rfl rfl rfl (by decide +kernel)
theorem w_c10 : (Jvm.Cond.code ({ cls := "java/lang/String", name := "coder", desc := "()B" } : Jvm.MethodName) jdk_42_method_152_code (1 : Nat) (Option.some Jvm.ClassFile.FieldType.byte)).before args0 about1 = true := code_word (m := ⟨7, 5⟩) (meth := k7m5) (c := k7c5) (by decide +kernel) rfl rfl rfl (by decide +kernel)
theorem w_c11 : (Jvm.Cond.code ({ cls := "java/lang/String", name := "charAt", desc := "(I)C" } : Jvm.MethodName) jdk_42_method_56_code (2 : Nat) (Option.some Jvm.ClassFile.FieldType.char)).before args0 about1 = true := code_word (m := ⟨7, 3⟩) (meth := k7m3) (c := k7c3) (by decide +kernel) rfl rfl rfl (by decide +kernel)
theorem w_c12 : (Jvm.Cond.code ({ cls := "java/lang/String", name := "isLatin1", desc := "()Z" } : Jvm.MethodName) jdk_42_method_154_code (1 : Nat) (Option.some Jvm.ClassFile.FieldType.boolean)).before args0 about1 = true := code_word (m := ⟨7, 6⟩) (meth := k7m6) (c := k7c6) (by decide +kernel) rfl rfl rfl (by decide +kernel)
theorem w_c13 : (Jvm.Cond.code ({ cls := "java/lang/StringLatin1", name := "charAt", desc := "([BI)C" } : Jvm.MethodName) jdk_43_method_2_code (2 : Nat) (Option.some Jvm.ClassFile.FieldType.char)).before args0 about1 = true := code_word (m := ⟨10, 1⟩) (meth := k10m1) (c := k10c1) (by decide +kernel) rfl rfl rfl (by decide +kernel)
theorem w_c14 : (Jvm.Cond.code ({ cls := "java/lang/String", name := "checkIndex", desc := "(II)V" } : Jvm.MethodName) jdk_42_method_155_code (2 : Nat) (Option.none : Option Jvm.ClassFile.FieldType)).before args0 about1 = true := code_word (m := ⟨7, 7⟩) (meth := k7m7) (c := k7c7) (by decide +kernel) rfl rfl rfl (by decide +kernel)
theorem w_c15 : (Jvm.Cond.code ({ cls := "jdk/internal/util/Preconditions", name := "checkIndex", desc := "(IILjava/util/function/BiFunction;)I" } : Jvm.MethodName) jdk_41_method_11_code (3 : Nat) (Option.some Jvm.ClassFile.FieldType.int)).before args0 about1 = true := code_word (m := ⟨11, 1⟩) (meth := k11m1) (c := k11c1) (by decide +kernel) rfl rfl rfl (by decide +kernel)
theorem w_c16 : (Jvm.Cond.code ({ cls := "java/lang/StringUTF16", name := "toBytes", desc := "([CII)[B" } : Jvm.MethodName) jdk_52_method_14_code (5 : Nat) (Option.some (Jvm.ClassFile.FieldType.array Jvm.ClassFile.FieldType.byte))).before args0 about1 = true := code_word (m := ⟨8, 6⟩) (meth := k8m6) (c := k8c6) (by decide +kernel) rfl rfl rfl (by decide +kernel)
theorem w_c17 : (Jvm.Cond.code ({ cls := "java/lang/StringUTF16", name := "newBytesFor", desc := "(I)[B" } : Jvm.MethodName) jdk_52_method_2_code (1 : Nat) (Option.some (Jvm.ClassFile.FieldType.array Jvm.ClassFile.FieldType.byte))).before args0 about1 = true := code_word (m := ⟨8, 1⟩) (meth := k8m1) (c := k8c1) (by decide +kernel) rfl rfl rfl (by decide +kernel)
theorem w_c18 : (Jvm.Cond.code ({ cls := "java/lang/StringUTF16", name := "newBytesLength", desc := "(I)I" } : Jvm.MethodName) jdk_52_method_3_code (1 : Nat) (Option.some Jvm.ClassFile.FieldType.int)).before args0 about1 = true := code_word (m := ⟨8, 2⟩) (meth := k8m2) (c := k8c2) (by decide +kernel) rfl rfl rfl (by decide +kernel)
theorem w_c19 : (Jvm.Cond.code ({ cls := "java/lang/StringUTF16", name := "putChar", desc := "([BII)V" } : Jvm.MethodName) jdk_52_method_4_code (3 : Nat) (Option.none : Option Jvm.ClassFile.FieldType)).before args0 about1 = true := code_word (m := ⟨8, 3⟩) (meth := k8m3) (c := k8c3) (by decide +kernel) rfl rfl rfl (by decide +kernel)
theorem w_c20 : (Jvm.Cond.code ({ cls := "java/lang/StringUTF16", name := "getChar", desc := "([BI)C" } : Jvm.MethodName) jdk_52_method_5_code (2 : Nat) (Option.some Jvm.ClassFile.FieldType.char)).before args0 about1 = true := code_word (m := ⟨8, 4⟩) (meth := k8m4) (c := k8c4) (by decide +kernel) rfl rfl rfl (by decide +kernel)
theorem w_c21 : (Jvm.Cond.code ({ cls := "java/lang/StringUTF16", name := "charAt", desc := "([BI)C" } : Jvm.MethodName) jdk_52_method_83_code (2 : Nat) (Option.some Jvm.ClassFile.FieldType.char)).before args0 about1 = true := code_word (m := ⟨8, 10⟩) (meth := k8m10) (c := k8c10) (by decide +kernel) rfl rfl rfl (by decide +kernel)
theorem w_c22 : (Jvm.Cond.code ({ cls := "java/lang/StringUTF16", name := "checkIndex", desc := "(I[B)V" } : Jvm.MethodName) jdk_52_method_91_code (2 : Nat) (Option.none : Option Jvm.ClassFile.FieldType)).before args0 about1 = true := code_word (m := ⟨8, 11⟩) (meth := k8m11) (c := k8c11) (by decide +kernel) rfl rfl rfl (by decide +kernel)
theorem w_c23 : (Jvm.Cond.code ({ cls := "java/lang/StringUTF16", name := "length", desc := "([B)I" } : Jvm.MethodName) jdk_52_method_6_code (1 : Nat) (Option.some Jvm.ClassFile.FieldType.int)).before args0 about1 = true := code_word (m := ⟨8, 5⟩) (meth := k8m5) (c := k8c5) (by decide +kernel) rfl rfl rfl (by decide +kernel)
def codes1 : List Jvm.Cond := [Jvm.Cond.code x code maxLocals ret, Jvm.Cond.code ({ cls := "java/lang/String", name := "<init>", desc := "([C)V" } : Jvm.MethodName) jdk_42_method_3_code (2 : Nat) (Option.none : Option Jvm.ClassFile.FieldType), Jvm.Cond.code ({ cls := "java/lang/String", name := "<init>", desc := "([CIILjava/lang/Void;)V" } : Jvm.MethodName) jdk_42_method_149_code (6 : Nat) (Option.none : Option Jvm.ClassFile.FieldType), Jvm.Cond.code ({ cls := "java/lang/Object", name := "<init>", desc := "()V" } : Jvm.MethodName) object_method_1_code (1 : Nat) (Option.none : Option Jvm.ClassFile.FieldType), Jvm.Cond.code ({ cls := "java/lang/StringUTF16", name := "compress", desc := "([CII)[B" } : Jvm.MethodName) jdk_52_method_16_code (6 : Nat) (Option.some (Jvm.ClassFile.FieldType.array Jvm.ClassFile.FieldType.byte)), Jvm.Cond.code ({ cls := "java/lang/StringUTF16", name := "compress", desc := "([CI[BII)I" } : Jvm.MethodName) jdk_52_method_21_code (7 : Nat) (Option.some Jvm.ClassFile.FieldType.int), Jvm.Cond.code ({ cls := "java/lang/StringUTF16", name := "coderFromArrayLen", desc := "([BI)B" } : Jvm.MethodName) jdk_52_method_15_code (2 : Nat) (Option.some Jvm.ClassFile.FieldType.byte), Jvm.Cond.code ({ cls := "com/example/poder/poder/format/Markup", name := "isStartTag", desc := "(Ljava/lang/String;I)Z" } : Jvm.MethodName) prog_12_method_2_code (3 : Nat) (Option.some Jvm.ClassFile.FieldType.boolean), Jvm.Cond.code ({ cls := "com/example/poder/poder/format/Markup", name := "second", desc := "(Ljava/lang/String;I)C" } : Jvm.MethodName) prog_12_method_12_code (3 : Nat) (Option.some Jvm.ClassFile.FieldType.char), Jvm.Cond.code ({ cls := "java/lang/String", name := "length", desc := "()I" } : Jvm.MethodName) jdk_42_method_54_code (1 : Nat) (Option.some Jvm.ClassFile.FieldType.int), Jvm.Cond.code ({ cls := "java/lang/String", name := "coder", desc := "()B" } : Jvm.MethodName) jdk_42_method_152_code (1 : Nat) (Option.some Jvm.ClassFile.FieldType.byte), Jvm.Cond.code ({ cls := "java/lang/String", name := "charAt", desc := "(I)C" } : Jvm.MethodName) jdk_42_method_56_code (2 : Nat) (Option.some Jvm.ClassFile.FieldType.char), Jvm.Cond.code ({ cls := "java/lang/String", name := "isLatin1", desc := "()Z" } : Jvm.MethodName) jdk_42_method_154_code (1 : Nat) (Option.some Jvm.ClassFile.FieldType.boolean), Jvm.Cond.code ({ cls := "java/lang/StringLatin1", name := "charAt", desc := "([BI)C" } : Jvm.MethodName) jdk_43_method_2_code (2 : Nat) (Option.some Jvm.ClassFile.FieldType.char), Jvm.Cond.code ({ cls := "java/lang/String", name := "checkIndex", desc := "(II)V" } : Jvm.MethodName) jdk_42_method_155_code (2 : Nat) (Option.none : Option Jvm.ClassFile.FieldType), Jvm.Cond.code ({ cls := "jdk/internal/util/Preconditions", name := "checkIndex", desc := "(IILjava/util/function/BiFunction;)I" } : Jvm.MethodName) jdk_41_method_11_code (3 : Nat) (Option.some Jvm.ClassFile.FieldType.int), Jvm.Cond.code ({ cls := "java/lang/StringUTF16", name := "toBytes", desc := "([CII)[B" } : Jvm.MethodName) jdk_52_method_14_code (5 : Nat) (Option.some (Jvm.ClassFile.FieldType.array Jvm.ClassFile.FieldType.byte)), Jvm.Cond.code ({ cls := "java/lang/StringUTF16", name := "newBytesFor", desc := "(I)[B" } : Jvm.MethodName) jdk_52_method_2_code (1 : Nat) (Option.some (Jvm.ClassFile.FieldType.array Jvm.ClassFile.FieldType.byte)), Jvm.Cond.code ({ cls := "java/lang/StringUTF16", name := "newBytesLength", desc := "(I)I" } : Jvm.MethodName) jdk_52_method_3_code (1 : Nat) (Option.some Jvm.ClassFile.FieldType.int), Jvm.Cond.code ({ cls := "java/lang/StringUTF16", name := "putChar", desc := "([BII)V" } : Jvm.MethodName) jdk_52_method_4_code (3 : Nat) (Option.none : Option Jvm.ClassFile.FieldType), Jvm.Cond.code ({ cls := "java/lang/StringUTF16", name := "getChar", desc := "([BI)C" } : Jvm.MethodName) jdk_52_method_5_code (2 : Nat) (Option.some Jvm.ClassFile.FieldType.char), Jvm.Cond.code ({ cls := "java/lang/StringUTF16", name := "charAt", desc := "([BI)C" } : Jvm.MethodName) jdk_52_method_83_code (2 : Nat) (Option.some Jvm.ClassFile.FieldType.char), Jvm.Cond.code ({ cls := "java/lang/StringUTF16", name := "checkIndex", desc := "(I[B)V" } : Jvm.MethodName) jdk_52_method_91_code (2 : Nat) (Option.none : Option Jvm.ClassFile.FieldType), Jvm.Cond.code ({ cls := "java/lang/StringUTF16", name := "length", desc := "([B)I" } : Jvm.MethodName) jdk_52_method_6_code (1 : Nat) (Option.some Jvm.ClassFile.FieldType.int)]
theorem codes_eq : words1.filter isCode = codes1 := rfl
theorem w_codes : ∀ c ∈ words1.filter isCode, c.before args0 about1 = true := by
  rw [codes_eq]
  intro c hc
  simp only [codes1, List.mem_cons, List.not_mem_nil, or_false] at hc
  rcases hc with rfl | rfl | rfl | rfl | rfl | rfl | rfl | rfl | rfl | rfl | rfl | rfl | rfl | rfl | rfl | rfl | rfl | rfl | rfl | rfl | rfl | rfl | rfl | rfl
  · exact w_c0
  · exact w_c1
  · exact w_c2
  · exact w_c3
  · exact w_c4
  · exact w_c5
  · exact w_c6
  · exact w_c7
  · exact w_c8
  · exact w_c9
  · exact w_c10
  · exact w_c11
  · exact w_c12
  · exact w_c13
  · exact w_c14
  · exact w_c15
  · exact w_c16
  · exact w_c17
  · exact w_c18
  · exact w_c19
  · exact w_c20
  · exact w_c21
  · exact w_c22
  · exact w_c23
theorem w_t1 : (words1.take 24).all (fun c => isCode c || c.before args0 about1) = true := by decide +kernel
theorem w_t2 : ((words1.drop 24).take 24).all (fun c => isCode c || c.before args0 about1) = true := by decide +kernel
theorem w_t3 : (((words1.drop 24).drop 24).take 24).all (fun c => isCode c || c.before args0 about1) = true := by decide +kernel
theorem w_t4 : ((((words1.drop 24).drop 24).drop 24).take 24).all (fun c => isCode c || c.before args0 about1) = true := by decide +kernel
theorem w_t5 : ((((words1.drop 24).drop 24).drop 24).drop 24).all (fun c => isCode c || c.before args0 about1) = true := by decide +kernel
theorem w_tables : (allAtoms (Jvm.Cond.code x code maxLocals ret :: tables_1)).before args0 about1 = true := by
  rw [allAtoms_all]
  show words1.all (fun c => c.before args0 about1) = true
  refine all_split ?_ w_codes
  rw [← List.take_append_drop 24 words1, List.all_append, w_t1, ← List.take_append_drop 24 (words1.drop 24), List.all_append, w_t2, ← List.take_append_drop 24 ((words1.drop 24).drop 24), List.all_append, w_t3, ← List.take_append_drop 24 (((words1.drop 24).drop 24).drop 24), List.all_append, w_t4, w_t5]
  rfl
theorem w_rest : rest_1_c.before args0 about1 = true := by decide +kernel
theorem w_case : (Jvm.Cond.and given_1 narrow_1).before args0 about1 = true := by decide +kernel
theorem w_applies : (headSpec (Jvm.Cond.code x code maxLocals ret :: tables_1) room_1).applies x e0.platform about1 = true :=
  (Spec.applies_iff w_frames).mpr ⟨w_running, w_runnable, w_alone, w_named, w_hears, w_ripe, w_room, w_tables⟩
theorem atStart : AtStart classFile x code maxLocals ret World_1 tables_1 room_1 Calls_1 rest_1 Pre_1 launch0 p0 e0 about1 theMethod args0 below0 :=
  ⟨lists_1, trivial, launch0.admits_env _ _ _, launch0.least_env, fairChoices_fair.cas, fairChoices_fair.clock, w_frames, w_args, w_heap, w_applies, trivial, w_rest, w_case⟩
end start1
theorem witness_1 : WitnessClaimed_1 := ⟨start1.p0, start1.e0, start1.about1, start1.theMethod, start1.args0, start1.below0, start1.atStart⟩
end Jvm.Pilot.@@N@@
