import JvmDerived
import JvmDerived.Pilot.@@N@@Statement
import JvmDerived.Pilot.@@N@@Code
set_option linter.unusedVariables false
set_option linter.unusedSimpArgs false
namespace Jvm.RoadKit
open Sem ClassFile Op Lib Jvm.Stand Jvm.Free Jvm.LawKit
section New
variable {p : Program} {l : Launch} {e : Env} {R : Room} {s : State} {m : MethodId} {args : Array Value} {below : List Frame} {meth : Method} {c : Code} {T : State} {locs : List Loc} {cells slots : Nat}
theorem retI (X : Stand p l e R s m args below meth c T locs cells slots) (hx : p.tables.exec = Jvm.exec) {pc : Nat} {Ls : Array Slot} {z : Int32} {rest : List Value} (hret : meth.sig.returnType = some .int) (hd : decode c.code pc = .ok (.ireturn, 1)) {fs : List Frame}
    (hl : ∀ (f : JFrame) (acts : List Action), f.method = m → f.locked = none → f.entered = [] → (doReturn e (T.setTop f) acts (some (.int z))).1 = T.setFrames fs) : Steps p.tables e below (T.setTop (mkF m pc Ls (.int z :: rest))) (T.setFrames fs) := by
  have hm' : T.vm.method? m = some meth := X.method'
  have hn : narrow .int (.int z) = .int z := rfl
  show Steps p.tables e below (T.setTop { method := m, pc := pc, locals := Ls, stack := _ :: rest, locked := none }) _
  jvm_step X.here [X.here.top, hx, hd, hm', hret, hn]
  first | (intro acts; rw [hl _ acts rfl rfl rfl]) | rw [hl _ _ rfl rfl rfl]
  exact Steps.refl _
end New
end Jvm.RoadKit
namespace Jvm.Pilot.@@N@@
open Jvm Jvm.ClassFile Sem Op Lib Jvm.Free Jvm.Stand Jvm.LawKit Jvm.RoadKit Bundle Jvm.Pilot.@@N@@.Jvm.D
/-- the fixed things of one body's walk -/
abbrev Wk : Type := Program × Launch × Env × Room × State × MethodId × Array Value × List Frame × Method × Code
abbrev Wk.p (W : Wk) : Program := W.1
abbrev Wk.l (W : Wk) : Launch := W.2.1
abbrev Wk.e (W : Wk) : Env := W.2.2.1
abbrev Wk.R (W : Wk) : Room := W.2.2.2.1
abbrev Wk.s (W : Wk) : State := W.2.2.2.2.1
abbrev Wk.m (W : Wk) : MethodId := W.2.2.2.2.2.1
abbrev Wk.args (W : Wk) : Array Value := W.2.2.2.2.2.2.1
abbrev Wk.below (W : Wk) : List Frame := W.2.2.2.2.2.2.2.1
abbrev Wk.meth (W : Wk) : Method := W.2.2.2.2.2.2.2.2.1
abbrev Wk.c (W : Wk) : Code := W.2.2.2.2.2.2.2.2.2
abbrev St (W : Wk) (T : State) (L : List Loc) (k n : Nat) : Prop := Stand W.p W.l W.e W.R W.s W.m W.args W.below W.meth W.c T L k n
abbrev Sp (W : Wk) (a b : State) : Prop := Steps W.p.tables W.e W.below a b
/-- what holds throughout the walk -/
def Cx (Z : State) (W : Wk) (rm : Room) (own nm : String) (bytes : ByteArray) (maxL : Nat) (ret : Option FieldType) : Prop :=
  W.p.tables.exec = Jvm.exec ∧ W.c.code = bytes ∧ W.c.maxLocals = maxL ∧ W.s.vm.findClass own = some W.m.cls ∧ W.meth.name = nm ∧ W.meth.sig.returnType = ret ∧ Z.Warmed39 W.s.vm ∧ W.meth.locks = false ∧ W.R = rm
section Cxs
variable {Z : State} {W : Wk} {rm : Room} {own nm : String} {bytes : ByteArray} {maxL : Nat} {ret : Option FieldType}
theorem Cx.x (C : Cx Z W rm own nm bytes maxL ret) : W.p.tables.exec = Jvm.exec := C.1
theorem Cx.b (C : Cx Z W rm own nm bytes maxL ret) : W.c.code = bytes := C.2.1
theorem Cx.ml (C : Cx Z W rm own nm bytes maxL ret) : W.c.maxLocals = maxL := C.2.2.1
theorem Cx.ow (C : Cx Z W rm own nm bytes maxL ret) : W.s.vm.findClass own = some W.m.cls := C.2.2.2.1
theorem Cx.na (C : Cx Z W rm own nm bytes maxL ret) : W.meth.name = nm := C.2.2.2.2.1
theorem Cx.re (C : Cx Z W rm own nm bytes maxL ret) : W.meth.sig.returnType = ret := C.2.2.2.2.2.1
theorem Cx.z (C : Cx Z W rm own nm bytes maxL ret) : Z.Warmed39 W.s.vm := C.2.2.2.2.2.2.1
theorem Cx.lk (C : Cx Z W rm own nm bytes maxL ret) : W.meth.locks = false := C.2.2.2.2.2.2.2.1
theorem Cx.ro (C : Cx Z W rm own nm bytes maxL ret) : W.R = rm := C.2.2.2.2.2.2.2.2
end Cxs
/-- the run comes to the invocation's end, with what Q says -/
def Ends (W : Wk) (n0 : Nat) (Q : Option Value → Heap → Prop) (U : State) : Prop :=
  ∃ s₂ o, Sp W U s₂ ∧ s₂.status = .running ∧ Ended s₂ W.below o ∧ ∃ v L, o = .returned v ∧ (Fr n0 L ∧ Q v s₂.heap) ∧ FrameEnd W.s o s₂ L W.R.cells W.R.slots
/-- from pc, with these locals and this stack, over the heap h, at most k cells of n slots made so far -/
def Go (W : Wk) (n0 : Nat) (Q : Option Value → Heap → Prop) (h : Heap) (k n pc : Nat) (ls : Array Slot) (st : List Value) : Prop :=
  ∀ T L k' n', St W T L k' n' → k' ≤ k → n' ≤ n → Fr n0 L → T.heap = h → Ends W n0 Q (T.setTop (mkF W.m pc ls st))
/-- a body's contract: on these arguments, over the heap h, it ends and Q holds of what it returns and of the heap that it leaves -/
def Met1 (l : Launch) (Z : State) (y : MethodName) (bytes : ByteArray) (maxL : Nat) (ret : Option FieldType) (ws : List Jvm.Cond) (rm : Room) (as : Array Value) (h : Heap) (n0 : Nat) (Q : Option Value → Heap → Prop) : Prop :=
  MetFree l y (head1 (Jvm.Cond.code y bytes maxL ret :: ws) rm) (fun a U => a = as ∧ Z.Warmed39 U.vm ∧ U.heap = h) (fun _ _ _ _ _ => True) (fun _ U o U' => ∃ v L, o = .returned v ∧ (Fr n0 L ∧ Q v U'.heap) ∧ FrameEnd U o U' L rm.cells rm.slots)
theorem met_of_go {l : Launch} {Z : State} {y : MethodName} {bytes : ByteArray} {maxL : Nat} {ret : Option FieldType} {ws : List Jvm.Cond} {rm : Room} {as : Array Value} {h : Heap} {n0 : Nat} {Q : Option Value → Heap → Prop} {ls : Array Slot}
    (hpl : plainFor y = true) (hef : ∀ m, entryFrame m as maxL = mkF m 0 ls [])
    (go : ∀ W : Wk, W.l = l → Cx Z W rm y.cls y.name bytes maxL ret → Go W n0 Q h 0 0 0 ls []) : Met1 l Z y bytes maxL ret ws rm as h n0 Q := by
  refine MetFree.of_bodySF hpl hisR ?_
  intro p e s m args below meth c s₁ Bd hml0 hP hK
  obtain ⟨rfl, hZ, hh⟩ := hP
  have X0 : Stand p l e rm s m args below meth c s₁ [] 0 0 := Stand.of_body Bd
  have e0 : s₁.heap = h := by rw [← hh, Bd.state]; rfl
  obtain ⟨s₂, o, h1, h2, h3, h4⟩ := go (p, l, e, rm, s, m, args, below, meth, c) rfl ⟨Bd.exec, Bd.bytes, hml0, findClass_of_methodNamed Bd.named, (name_of_methodNamed Bd.named Bd.method).1, Bd.returns, hZ, Bd.notSynchronized, rfl⟩ s₁ [] 0 0 X0 (Nat.le_refl _) (Nat.le_refl _) (Fr.nil n0) e0
  exact ⟨s₂, o, castTop (hef m) h1, h2, h3, h4⟩
section Gos
variable {Z : State} {W : Wk} {rm : Room} {own nm : String} {bytes : ByteArray} {maxL : Nat} {ret : Option FieldType} {n0 : Nat} {Q : Option Value → Heap → Prop} {h : Heap} {k n pc q : Nat} {ls : Array Slot} {st : List Value} {a0 : Array Value}
theorem Go.mono {k' n' : Nat} (hk : k ≤ k') (hn : n ≤ n') (g : Go W n0 Q h k' n' pc ls st) : Go W n0 Q h k n pc ls st :=
  fun T L a b X h1 h2 => g T L a b X (Nat.le_trans h1 hk) (Nat.le_trans h2 hn)
theorem Go.stepX {ls' : Array Slot} {st' : List Value} (f : ∀ T L a b tg, St W T L a b → T.heap = h → Sp W (T.setTop (mkF W.m q ls' st')) tg → Sp W (T.setTop (mkF W.m pc ls st)) tg) (hr : Go W n0 Q h k n q ls' st') : Go W n0 Q h k n pc ls st := by
  intro T L a b X hk hn N eT
  obtain ⟨s₂, o, hs, r⟩ := hr T L a b X hk hn N eT
  exact ⟨s₂, o, f T L a b _ X eT hs, r⟩
theorem Go.stepT {ls' : Array Slot} {st' : List Value} (f : ∀ T L a b, St W T L a b → T.heap = h → ∃ T', St W T' L a b ∧ T'.heap = h ∧ ∀ tg, Sp W (T'.setTop (mkF W.m q ls' st')) tg → Sp W (T.setTop (mkF W.m pc ls st)) tg) (hr : Go W n0 Q h k n q ls' st') : Go W n0 Q h k n pc ls st := by
  intro T L a b X hk hn N eT
  obtain ⟨T', X', e', sp⟩ := f T L a b X eT
  obtain ⟨s₂, o, hs, r⟩ := hr T' L a b X' hk hn N e'
  exact ⟨s₂, o, sp _ hs, r⟩

theorem Go.iload (C : Cx Z W rm own nm bytes maxL ret) {j : Nat} {v : Int32} (hd : decode bytes pc = .ok (.iload j, 2)) (hq : pc + 2 = q) (hl : ls[j]? = some (.val (.int v)))
    (hr : Go W n0 Q h k n q ls (.int v :: st)) : Go W n0 Q h k n pc ls st := by
  subst hq
  exact Go.stepX (fun T L a b tg X eT kk => XS.iload X.here C.x rfl (hb C.b hd) hl kk) hr
theorem Go.iloadN (C : Cx Z W rm own nm bytes maxL ret) {j : Fin 4} {v : Int32} (hd : decode bytes pc = .ok (.iload_n j, 1)) (hq : pc + 1 = q) (hl : ls[j.val]? = some (.val (.int v)))
    (hr : Go W n0 Q h k n q ls (.int v :: st)) : Go W n0 Q h k n pc ls st := by
  subst hq
  exact Go.stepX (fun T L a b tg X eT kk => XS.iloadN X.here C.x rfl (hb C.b hd) hl kk) hr
theorem Go.lload (C : Cx Z W rm own nm bytes maxL ret) {j : Nat} {v : Int64} (hd : decode bytes pc = .ok (.lload j, 2)) (hq : pc + 2 = q) (hl : ls[j]? = some (.val (.long v)))
    (hr : Go W n0 Q h k n q ls (.long v :: st)) : Go W n0 Q h k n pc ls st := by
  subst hq
  exact Go.stepX (fun T L a b tg X eT kk => XS.lload X.here C.x rfl (hb C.b hd) hl kk) hr
theorem Go.lloadN (C : Cx Z W rm own nm bytes maxL ret) {j : Fin 4} {v : Int64} (hd : decode bytes pc = .ok (.lload_n j, 1)) (hq : pc + 1 = q) (hl : ls[j.val]? = some (.val (.long v)))
    (hr : Go W n0 Q h k n q ls (.long v :: st)) : Go W n0 Q h k n pc ls st := by
  subst hq
  exact Go.stepX (fun T L a b tg X eT kk => XS.lloadN X.here C.x rfl (hb C.b hd) hl kk) hr
theorem Go.aload (C : Cx Z W rm own nm bytes maxL ret) {j : Nat} {v : Value} (hd : decode bytes pc = .ok (.aload j, 2)) (hq : pc + 2 = q) (hl : ls[j]? = some (.val v)) (hv : v.isRef = true)
    (hr : Go W n0 Q h k n q ls (v :: st)) : Go W n0 Q h k n pc ls st := by
  subst hq
  exact Go.stepX (fun T L a b tg X eT kk => XS.aload X.here C.x rfl (hb C.b hd) hl hv kk) hr
theorem Go.aloadN (C : Cx Z W rm own nm bytes maxL ret) {j : Fin 4} {v : Value} (hd : decode bytes pc = .ok (.aload_n j, 1)) (hq : pc + 1 = q) (hl : ls[j.val]? = some (.val v)) (hv : v.isRef = true)
    (hr : Go W n0 Q h k n q ls (v :: st)) : Go W n0 Q h k n pc ls st := by
  subst hq
  exact Go.stepX (fun T L a b tg X eT kk => XS.aloadN X.here C.x rfl (hb C.b hd) hl hv kk) hr
theorem Go.istore (C : Cx Z W rm own nm bytes maxL ret) {j : Nat} {x : Int32} (hd : decode bytes pc = .ok (.istore j, 2)) (hq : pc + 2 = q) (l' : Int32 → Array Slot) (hl : ∀ v, storeLocals ls j (.int v) = some (l' v))
    (hr : ∀ v, v = x → Go W n0 Q h k n q (l' v) st) : Go W n0 Q h k n pc ls (.int x :: st) := by
  subst hq
  exact Go.stepX (fun T L a b tg X eT kk => XS.istore X.here C.x rfl (hb C.b hd) rfl (hl x) kk) (hr x rfl)
theorem Go.istoreN (C : Cx Z W rm own nm bytes maxL ret) {j : Fin 4} {x : Int32} (hd : decode bytes pc = .ok (.istore_n j, 1)) (hq : pc + 1 = q) (l' : Int32 → Array Slot) (hl : ∀ v, storeLocals ls j.val (.int v) = some (l' v))
    (hr : ∀ v, v = x → Go W n0 Q h k n q (l' v) st) : Go W n0 Q h k n pc ls (.int x :: st) := by
  subst hq
  exact Go.stepX (fun T L a b tg X eT kk => XS.istoreN X.here C.x rfl (hb C.b hd) rfl (hl x) kk) (hr x rfl)
theorem Go.lstore (C : Cx Z W rm own nm bytes maxL ret) {j : Nat} {x : Int64} (hd : decode bytes pc = .ok (.lstore j, 2)) (hq : pc + 2 = q) (l' : Int64 → Array Slot) (hl : ∀ v, storeLocals ls j (.long v) = some (l' v))
    (hr : ∀ v, v = x → Go W n0 Q h k n q (l' v) st) : Go W n0 Q h k n pc ls (.long x :: st) := by
  subst hq
  exact Go.stepX (fun T L a b tg X eT kk => XS.lstore X.here C.x rfl (hb C.b hd) rfl (hl x) kk) (hr x rfl)
theorem Go.lstoreN (C : Cx Z W rm own nm bytes maxL ret) {j : Fin 4} {x : Int64} (hd : decode bytes pc = .ok (.lstore_n j, 1)) (hq : pc + 1 = q) (l' : Int64 → Array Slot) (hl : ∀ v, storeLocals ls j.val (.long v) = some (l' v))
    (hr : ∀ v, v = x → Go W n0 Q h k n q (l' v) st) : Go W n0 Q h k n pc ls (.long x :: st) := by
  subst hq
  exact Go.stepX (fun T L a b tg X eT kk => XS.lstoreN X.here C.x rfl (hb C.b hd) rfl (hl x) kk) (hr x rfl)
theorem Go.astore (C : Cx Z W rm own nm bytes maxL ret) {j : Nat} {x : Value} (hd : decode bytes pc = .ok (.astore j, 2)) (hq : pc + 2 = q) {l' : Array Slot} (hv : x.isRef = true) (hl : storeLocals ls j x = some l')
    (hr : Go W n0 Q h k n q l' st) : Go W n0 Q h k n pc ls (x :: st) := by
  subst hq
  exact Go.stepX (fun T L a b tg X eT kk => XS.astore X.here C.x rfl (hb C.b hd) rfl hv hl kk) hr
theorem Go.astoreN (C : Cx Z W rm own nm bytes maxL ret) {j : Fin 4} {x : Value} (hd : decode bytes pc = .ok (.astore_n j, 1)) (hq : pc + 1 = q) {l' : Array Slot} (hv : x.isRef = true) (hl : storeLocals ls j.val x = some l')
    (hr : Go W n0 Q h k n q l' st) : Go W n0 Q h k n pc ls (x :: st) := by
  subst hq
  exact Go.stepX (fun T L a b tg X eT kk => XS.astoreN X.here C.x rfl (hb C.b hd) rfl hv hl kk) hr
theorem Go.istoreR (C : Cx Z W rm own nm bytes maxL ret) {j : Nat} {x : Int32} (hd : decode bytes pc = .ok (.istore j, 2)) (hq : pc + 2 = q) {l' : Array Slot} (hl : storeLocals ls j (.int x) = some l')
    (hr : Go W n0 Q h k n q l' st) : Go W n0 Q h k n pc ls (.int x :: st) := by
  subst hq
  exact Go.stepX (fun T L a b tg X eT kk => XS.istore X.here C.x rfl (hb C.b hd) rfl hl kk) hr
theorem Go.istoreNR (C : Cx Z W rm own nm bytes maxL ret) {j : Fin 4} {x : Int32} (hd : decode bytes pc = .ok (.istore_n j, 1)) (hq : pc + 1 = q) {l' : Array Slot} (hl : storeLocals ls j.val (.int x) = some l')
    (hr : Go W n0 Q h k n q l' st) : Go W n0 Q h k n pc ls (.int x :: st) := by
  subst hq
  exact Go.stepX (fun T L a b tg X eT kk => XS.istoreN X.here C.x rfl (hb C.b hd) rfl hl kk) hr
theorem Go.lstoreR (C : Cx Z W rm own nm bytes maxL ret) {j : Nat} {x : Int64} (hd : decode bytes pc = .ok (.lstore j, 2)) (hq : pc + 2 = q) {l' : Array Slot} (hl : storeLocals ls j (.long x) = some l')
    (hr : Go W n0 Q h k n q l' st) : Go W n0 Q h k n pc ls (.long x :: st) := by
  subst hq
  exact Go.stepX (fun T L a b tg X eT kk => XS.lstore X.here C.x rfl (hb C.b hd) rfl hl kk) hr
theorem Go.lstoreNR (C : Cx Z W rm own nm bytes maxL ret) {j : Fin 4} {x : Int64} (hd : decode bytes pc = .ok (.lstore_n j, 1)) (hq : pc + 1 = q) {l' : Array Slot} (hl : storeLocals ls j.val (.long x) = some l')
    (hr : Go W n0 Q h k n q l' st) : Go W n0 Q h k n pc ls (.long x :: st) := by
  subst hq
  exact Go.stepX (fun T L a b tg X eT kk => XS.lstoreN X.here C.x rfl (hb C.b hd) rfl hl kk) hr
theorem Go.iincR (C : Cx Z W rm own nm bytes maxL ret) {j : Nat} {cst : Int} {x : Int32} (hd : decode bytes pc = .ok (.iinc j cst, 3)) (hq : pc + 3 = q) (hl0 : ls[j]? = some (.val (.int x))) {l' : Array Slot} (hl : storeLocals ls j (.int (x + Int32.ofInt cst)) = some l')
    (hr : Go W n0 Q h k n q l' st) : Go W n0 Q h k n pc ls st := by
  subst hq
  exact Go.stepX (fun T L a b tg X eT kk => XS.iinc X.here C.x rfl (hb C.b hd) hl0 hl kk) hr
theorem Go.iinc (C : Cx Z W rm own nm bytes maxL ret) {j : Nat} {cst : Int} {x y : Int32} (hd : decode bytes pc = .ok (.iinc j cst, 3)) (hq : pc + 3 = q) (hl0 : ls[j]? = some (.val (.int x))) (hy : Int32.ofInt cst = y) (l' : Int32 → Array Slot) (hl : ∀ v, storeLocals ls j (.int v) = some (l' v))
    (hr : ∀ v, v = x + y → Go W n0 Q h k n q (l' v) st) : Go W n0 Q h k n pc ls st := by
  subst hq hy
  exact Go.stepX (fun T L a b tg X eT kk => XS.iinc X.here C.x rfl (hb C.b hd) hl0 (hl _) kk) (hr _ rfl)
theorem Go.iconst (C : Cx Z W rm own nm bytes maxL ret) {i : Int} (v : Int32) (hd : decode bytes pc = .ok (.iconst i, 1)) (hq : pc + 1 = q) (hv : Int32.ofInt i = v)
    (hr : Go W n0 Q h k n q ls (.int v :: st)) : Go W n0 Q h k n pc ls st := by
  subst hq hv
  exact Go.stepX (fun T L a b tg X eT kk => XS.iconst X.here C.x rfl (hb C.b hd) kk) hr
theorem Go.bipush (C : Cx Z W rm own nm bytes maxL ret) {i : Int} (v : Int32) (hd : decode bytes pc = .ok (.bipush i, 2)) (hq : pc + 2 = q) (hv : (Int8.ofInt i).toInt32 = v)
    (hr : Go W n0 Q h k n q ls (.int v :: st)) : Go W n0 Q h k n pc ls st := by
  subst hq hv
  exact Go.stepX (fun T L a b tg X eT kk => XS.bipush X.here C.x rfl (hb C.b hd) kk) hr
theorem Go.sipush (C : Cx Z W rm own nm bytes maxL ret) {i : Int} (v : Int32) (hd : decode bytes pc = .ok (.sipush i, 3)) (hq : pc + 3 = q) (hv : (Int16.ofInt i).toInt32 = v)
    (hr : Go W n0 Q h k n q ls (.int v :: st)) : Go W n0 Q h k n pc ls st := by
  subst hq hv
  exact Go.stepX (fun T L a b tg X eT kk => XS.sipush X.here C.x rfl (hb C.b hd) kk) hr
theorem Go.lconst (C : Cx Z W rm own nm bytes maxL ret) {i : Fin 2} (v : Int64) (hd : decode bytes pc = .ok (.lconst i, 1)) (hq : pc + 1 = q) (hv : Int64.ofNat i = v)
    (hr : Go W n0 Q h k n q ls (.long v :: st)) : Go W n0 Q h k n pc ls st := by
  subst hq hv
  exact Go.stepX (fun T L a b tg X eT kk => XS.lconst X.here C.x rfl (hb C.b hd) kk) hr
theorem Go.aconstNull (C : Cx Z W rm own nm bytes maxL ret)  (hd : decode bytes pc = .ok (.aconst_null, 1)) (hq : pc + 1 = q)
    (hr : Go W n0 Q h k n q ls (.null :: st)) : Go W n0 Q h k n pc ls st := by
  subst hq
  exact Go.stepX (fun T L a b tg X eT kk => XS.aconstNull X.here C.x rfl (hb C.b hd) kk) hr
theorem Go.ldcI (C : Cx Z W rm own nm bytes maxL ret) {index : Nat} {v : Int32} (w : (Jvm.Cond.constant own index v).before a0 Z = true) (hd : decode bytes pc = .ok (.ldc index, 2)) (hq : pc + 2 = q)
    (hr : Go W n0 Q h k n q ls (.int v :: st)) : Go W n0 Q h k n pc ls st := by
  subst hq
  exact Go.stepX (fun T L a b tg X eT kk => X.ldcInt C.x C.ow (mvT C.z w) (g := mkF W.m pc ls st) rfl (hb C.b hd) _ kk) hr
theorem Go.ldcwI (C : Cx Z W rm own nm bytes maxL ret) {index : Nat} {v : Int32} (w : (Jvm.Cond.constant own index v).before a0 Z = true) (hd : decode bytes pc = .ok (.ldc_w index, 3)) (hq : pc + 3 = q)
    (hr : Go W n0 Q h k n q ls (.int v :: st)) : Go W n0 Q h k n pc ls st := by
  subst hq
  exact Go.stepX (fun T L a b tg X eT kk => X.ldcwInt C.x C.ow (mvT C.z w) (g := mkF W.m pc ls st) rfl (hb C.b hd) _ kk) hr
theorem Go.ldc2J (C : Cx Z W rm own nm bytes maxL ret) {index : Nat} {v : Int64} (w : (Jvm.Cond.constantLong own index v).before a0 Z = true) (hd : decode bytes pc = .ok (.ldc2_w index, 3)) (hq : pc + 3 = q)
    (hr : Go W n0 Q h k n q ls (.long v :: st)) : Go W n0 Q h k n pc ls st := by
  subst hq
  exact Go.stepX (fun T L a b tg X eT kk => X.ldc2Long C.x C.ow (mvT C.z w) (g := mkF W.m pc ls st) rfl (hb C.b hd) _ kk) hr
theorem Go.iadd (C : Cx Z W rm own nm bytes maxL ret) {x y : Int32} (hd : decode bytes pc = .ok (.iadd, 1)) (hq : pc + 1 = q)
    (hr : Go W n0 Q h k n q ls (.int (x + y) :: st)) : Go W n0 Q h k n pc ls (.int y :: .int x :: st) := by
  subst hq
  exact Go.stepX (fun T L a b tg X eT kk => XS.iadd X.here C.x rfl (hb C.b hd) rfl kk) hr
theorem Go.ladd (C : Cx Z W rm own nm bytes maxL ret) {x y : Int64} (hd : decode bytes pc = .ok (.ladd, 1)) (hq : pc + 1 = q)
    (hr : Go W n0 Q h k n q ls (.long (x + y) :: st)) : Go W n0 Q h k n pc ls (.long y :: .long x :: st) := by
  subst hq
  exact Go.stepX (fun T L a b tg X eT kk => XS.ladd X.here C.x rfl (hb C.b hd) rfl kk) hr
theorem Go.isub (C : Cx Z W rm own nm bytes maxL ret) {x y : Int32} (hd : decode bytes pc = .ok (.isub, 1)) (hq : pc + 1 = q)
    (hr : Go W n0 Q h k n q ls (.int (x - y) :: st)) : Go W n0 Q h k n pc ls (.int y :: .int x :: st) := by
  subst hq
  exact Go.stepX (fun T L a b tg X eT kk => XS.isub X.here C.x rfl (hb C.b hd) rfl kk) hr
theorem Go.lsub (C : Cx Z W rm own nm bytes maxL ret) {x y : Int64} (hd : decode bytes pc = .ok (.lsub, 1)) (hq : pc + 1 = q)
    (hr : Go W n0 Q h k n q ls (.long (x - y) :: st)) : Go W n0 Q h k n pc ls (.long y :: .long x :: st) := by
  subst hq
  exact Go.stepX (fun T L a b tg X eT kk => XS.lsub X.here C.x rfl (hb C.b hd) rfl kk) hr
theorem Go.imul (C : Cx Z W rm own nm bytes maxL ret) {x y : Int32} (hd : decode bytes pc = .ok (.imul, 1)) (hq : pc + 1 = q)
    (hr : Go W n0 Q h k n q ls (.int (x * y) :: st)) : Go W n0 Q h k n pc ls (.int y :: .int x :: st) := by
  subst hq
  exact Go.stepX (fun T L a b tg X eT kk => XS.imul X.here C.x rfl (hb C.b hd) rfl kk) hr
theorem Go.lmul (C : Cx Z W rm own nm bytes maxL ret) {x y : Int64} (hd : decode bytes pc = .ok (.lmul, 1)) (hq : pc + 1 = q)
    (hr : Go W n0 Q h k n q ls (.long (x * y) :: st)) : Go W n0 Q h k n pc ls (.long y :: .long x :: st) := by
  subst hq
  exact Go.stepX (fun T L a b tg X eT kk => XS.lmul X.here C.x rfl (hb C.b hd) rfl kk) hr
theorem Go.iand (C : Cx Z W rm own nm bytes maxL ret) {x y : Int32} (hd : decode bytes pc = .ok (.iand, 1)) (hq : pc + 1 = q)
    (hr : Go W n0 Q h k n q ls (.int (x &&& y) :: st)) : Go W n0 Q h k n pc ls (.int y :: .int x :: st) := by
  subst hq
  exact Go.stepX (fun T L a b tg X eT kk => XS.iand X.here C.x rfl (hb C.b hd) rfl kk) hr
theorem Go.land (C : Cx Z W rm own nm bytes maxL ret) {x y : Int64} (hd : decode bytes pc = .ok (.land, 1)) (hq : pc + 1 = q)
    (hr : Go W n0 Q h k n q ls (.long (x &&& y) :: st)) : Go W n0 Q h k n pc ls (.long y :: .long x :: st) := by
  subst hq
  exact Go.stepX (fun T L a b tg X eT kk => XS.land X.here C.x rfl (hb C.b hd) rfl kk) hr
theorem Go.ior (C : Cx Z W rm own nm bytes maxL ret) {x y : Int32} (hd : decode bytes pc = .ok (.ior, 1)) (hq : pc + 1 = q)
    (hr : Go W n0 Q h k n q ls (.int (x ||| y) :: st)) : Go W n0 Q h k n pc ls (.int y :: .int x :: st) := by
  subst hq
  exact Go.stepX (fun T L a b tg X eT kk => XS.ior X.here C.x rfl (hb C.b hd) rfl kk) hr
theorem Go.lor (C : Cx Z W rm own nm bytes maxL ret) {x y : Int64} (hd : decode bytes pc = .ok (.lor, 1)) (hq : pc + 1 = q)
    (hr : Go W n0 Q h k n q ls (.long (x ||| y) :: st)) : Go W n0 Q h k n pc ls (.long y :: .long x :: st) := by
  subst hq
  exact Go.stepX (fun T L a b tg X eT kk => XS.lor X.here C.x rfl (hb C.b hd) rfl kk) hr
theorem Go.ixor (C : Cx Z W rm own nm bytes maxL ret) {x y : Int32} (hd : decode bytes pc = .ok (.ixor, 1)) (hq : pc + 1 = q)
    (hr : Go W n0 Q h k n q ls (.int (x ^^^ y) :: st)) : Go W n0 Q h k n pc ls (.int y :: .int x :: st) := by
  subst hq
  exact Go.stepX (fun T L a b tg X eT kk => XS.ixor X.here C.x rfl (hb C.b hd) rfl kk) hr
theorem Go.lxor (C : Cx Z W rm own nm bytes maxL ret) {x y : Int64} (hd : decode bytes pc = .ok (.lxor, 1)) (hq : pc + 1 = q)
    (hr : Go W n0 Q h k n q ls (.long (x ^^^ y) :: st)) : Go W n0 Q h k n pc ls (.long y :: .long x :: st) := by
  subst hq
  exact Go.stepX (fun T L a b tg X eT kk => XS.lxor X.here C.x rfl (hb C.b hd) rfl kk) hr
theorem Go.irem (C : Cx Z W rm own nm bytes maxL ret) {x y : Int32} (hd : decode bytes pc = .ok (.irem, 1)) (hq : pc + 1 = q) (hy : y ≠ 0)
    (hr : Go W n0 Q h k n q ls (.int (x % y) :: st)) : Go W n0 Q h k n pc ls (.int y :: .int x :: st) := by
  subst hq
  exact Go.stepX (fun T L a b tg X eT kk => iremM X C.x rfl (hb C.b hd) rfl hy kk) hr
theorem Go.idiv (C : Cx Z W rm own nm bytes maxL ret) {x y : Int32} (hd : decode bytes pc = .ok (.idiv, 1)) (hq : pc + 1 = q) (hy : y ≠ 0)
    (hr : Go W n0 Q h k n q ls (.int (x / y) :: st)) : Go W n0 Q h k n pc ls (.int y :: .int x :: st) := by
  subst hq
  exact Go.stepX (fun T L a b tg X eT kk => XS.idiv X.here C.x rfl (hb C.b hd) rfl hy kk) hr
theorem Go.lrem (C : Cx Z W rm own nm bytes maxL ret) {x y : Int64} (hd : decode bytes pc = .ok (.lrem, 1)) (hq : pc + 1 = q) (hy : y ≠ 0)
    (hr : Go W n0 Q h k n q ls (.long (x - (x / y) * y) :: st)) : Go W n0 Q h k n pc ls (.long y :: .long x :: st) := by
  subst hq
  exact Go.stepX (fun T L a b tg X eT kk => XS.lrem X.here C.x rfl (hb C.b hd) rfl hy kk) hr
theorem Go.ldiv (C : Cx Z W rm own nm bytes maxL ret) {x y : Int64} (hd : decode bytes pc = .ok (.ldiv, 1)) (hq : pc + 1 = q) (hy : y ≠ 0)
    (hr : Go W n0 Q h k n q ls (.long (x / y) :: st)) : Go W n0 Q h k n pc ls (.long y :: .long x :: st) := by
  subst hq
  exact Go.stepX (fun T L a b tg X eT kk => XS.ldiv X.here C.x rfl (hb C.b hd) rfl hy kk) hr
theorem Go.ineg (C : Cx Z W rm own nm bytes maxL ret) {x : Int32} (hd : decode bytes pc = .ok (.ineg, 1)) (hq : pc + 1 = q)
    (hr : Go W n0 Q h k n q ls (.int (-x) :: st)) : Go W n0 Q h k n pc ls (.int x :: st) := by
  subst hq
  exact Go.stepX (fun T L a b tg X eT kk => XS.ineg X.here C.x rfl (hb C.b hd) rfl kk) hr
theorem Go.lneg (C : Cx Z W rm own nm bytes maxL ret) {x : Int64} (hd : decode bytes pc = .ok (.lneg, 1)) (hq : pc + 1 = q)
    (hr : Go W n0 Q h k n q ls (.long (-x) :: st)) : Go W n0 Q h k n pc ls (.long x :: st) := by
  subst hq
  exact Go.stepX (fun T L a b tg X eT kk => XS.lneg X.here C.x rfl (hb C.b hd) rfl kk) hr
theorem Go.i2l (C : Cx Z W rm own nm bytes maxL ret) {x : Int32} (hd : decode bytes pc = .ok (.i2l, 1)) (hq : pc + 1 = q)
    (hr : Go W n0 Q h k n q ls (.long x.toInt64 :: st)) : Go W n0 Q h k n pc ls (.int x :: st) := by
  subst hq
  exact Go.stepX (fun T L a b tg X eT kk => XS.i2l X.here C.x rfl (hb C.b hd) rfl kk) hr
theorem Go.l2i (C : Cx Z W rm own nm bytes maxL ret) {x : Int64} (hd : decode bytes pc = .ok (.l2i, 1)) (hq : pc + 1 = q)
    (hr : Go W n0 Q h k n q ls (.int x.toInt32 :: st)) : Go W n0 Q h k n pc ls (.long x :: st) := by
  subst hq
  exact Go.stepX (fun T L a b tg X eT kk => XS.l2i X.here C.x rfl (hb C.b hd) rfl kk) hr
theorem Go.i2b (C : Cx Z W rm own nm bytes maxL ret) {x : Int32} (hd : decode bytes pc = .ok (.i2b, 1)) (hq : pc + 1 = q)
    (hr : Go W n0 Q h k n q ls (.int x.toInt8.toInt32 :: st)) : Go W n0 Q h k n pc ls (.int x :: st) := by
  subst hq
  exact Go.stepX (fun T L a b tg X eT kk => XS.i2b X.here C.x rfl (hb C.b hd) rfl kk) hr
theorem Go.i2s (C : Cx Z W rm own nm bytes maxL ret) {x : Int32} (hd : decode bytes pc = .ok (.i2s, 1)) (hq : pc + 1 = q)
    (hr : Go W n0 Q h k n q ls (.int x.toInt16.toInt32 :: st)) : Go W n0 Q h k n pc ls (.int x :: st) := by
  subst hq
  exact Go.stepX (fun T L a b tg X eT kk => XS.i2s X.here C.x rfl (hb C.b hd) rfl kk) hr
theorem Go.i2c (C : Cx Z W rm own nm bytes maxL ret) {x : Int32} (hd : decode bytes pc = .ok (.i2c, 1)) (hq : pc + 1 = q)
    (hr : Go W n0 Q h k n q ls (.int x.toUInt32.toUInt16.toUInt32.toInt32 :: st)) : Go W n0 Q h k n pc ls (.int x :: st) := by
  subst hq
  exact Go.stepX (fun T L a b tg X eT kk => XS.i2c X.here C.x rfl (hb C.b hd) rfl kk) hr
theorem Go.ishl (C : Cx Z W rm own nm bytes maxL ret) {x : Int32} {y : Int32} (hd : decode bytes pc = .ok (.ishl, 1)) (hq : pc + 1 = q)
    (hr : Go W n0 Q h k n q ls (.int (x <<< (y &&& 31)) :: st)) : Go W n0 Q h k n pc ls (.int y :: .int x :: st) := by
  subst hq
  exact Go.stepX (fun T L a b tg X eT kk => XS.ishl X.here C.x rfl (hb C.b hd) rfl kk) hr
theorem Go.ishr (C : Cx Z W rm own nm bytes maxL ret) {x : Int32} {y : Int32} (hd : decode bytes pc = .ok (.ishr, 1)) (hq : pc + 1 = q)
    (hr : Go W n0 Q h k n q ls (.int (x >>> (y &&& 31)) :: st)) : Go W n0 Q h k n pc ls (.int y :: .int x :: st) := by
  subst hq
  exact Go.stepX (fun T L a b tg X eT kk => XS.ishr X.here C.x rfl (hb C.b hd) rfl kk) hr
theorem Go.iushr (C : Cx Z W rm own nm bytes maxL ret) {x : Int32} {y : Int32} (hd : decode bytes pc = .ok (.iushr, 1)) (hq : pc + 1 = q)
    (hr : Go W n0 Q h k n q ls (.int ((x.toUInt32 >>> (y &&& 31).toUInt32).toInt32) :: st)) : Go W n0 Q h k n pc ls (.int y :: .int x :: st) := by
  subst hq
  exact Go.stepX (fun T L a b tg X eT kk => XS.iushr X.here C.x rfl (hb C.b hd) rfl kk) hr
theorem Go.lshl (C : Cx Z W rm own nm bytes maxL ret) {x : Int64} {y : Int32} (hd : decode bytes pc = .ok (.lshl, 1)) (hq : pc + 1 = q)
    (hr : Go W n0 Q h k n q ls (.long (x <<< (y &&& 0x3f).toInt64) :: st)) : Go W n0 Q h k n pc ls (.int y :: .long x :: st) := by
  subst hq
  exact Go.stepX (fun T L a b tg X eT kk => XS.lshl X.here C.x rfl (hb C.b hd) rfl kk) hr
theorem Go.lshr (C : Cx Z W rm own nm bytes maxL ret) {x : Int64} {y : Int32} (hd : decode bytes pc = .ok (.lshr, 1)) (hq : pc + 1 = q)
    (hr : Go W n0 Q h k n q ls (.long (x >>> (y &&& 0x3f).toInt64) :: st)) : Go W n0 Q h k n pc ls (.int y :: .long x :: st) := by
  subst hq
  exact Go.stepX (fun T L a b tg X eT kk => XS.lshr X.here C.x rfl (hb C.b hd) rfl kk) hr
theorem Go.lushr (C : Cx Z W rm own nm bytes maxL ret) {x : Int64} {y : Int32} (hd : decode bytes pc = .ok (.lushr, 1)) (hq : pc + 1 = q)
    (hr : Go W n0 Q h k n q ls (.long ((x.toUInt64 >>> (y &&& 0x3f).toInt64.toUInt64).toInt64) :: st)) : Go W n0 Q h k n pc ls (.int y :: .long x :: st) := by
  subst hq
  exact Go.stepX (fun T L a b tg X eT kk => XS.lushr X.here C.x rfl (hb C.b hd) rfl kk) hr
theorem Go.lcmp (C : Cx Z W rm own nm bytes maxL ret) {x y : Int64} (hd : decode bytes pc = .ok (.lcmp, 1)) (hq : pc + 1 = q)
    (hr : Go W n0 Q h k n q ls (.int (lcmpW x y) :: st)) : Go W n0 Q h k n pc ls (.long y :: .long x :: st) := by
  subst hq
  exact Go.stepX (fun T L a b tg X eT kk => XS.lcmp X.here C.x rfl (hb C.b hd) rfl kk) hr
theorem Go.pop (C : Cx Z W rm own nm bytes maxL ret) {x : Value} (hd : decode bytes pc = .ok (.pop, 1)) (hq : pc + 1 = q) (hc : x.category = 1)
    (hr : Go W n0 Q h k n q ls st) : Go W n0 Q h k n pc ls (x :: st) := by
  subst hq
  exact Go.stepX (fun T L a b tg X eT kk => XS.pop X.here C.x rfl (hb C.b hd) rfl hc kk) hr
theorem Go.dup (C : Cx Z W rm own nm bytes maxL ret) {x : Value} (hd : decode bytes pc = .ok (.dup, 1)) (hq : pc + 1 = q) (hc : x.category = 1)
    (hr : Go W n0 Q h k n q ls (x :: x :: st)) : Go W n0 Q h k n pc ls (x :: st) := by
  subst hq
  exact Go.stepX (fun T L a b tg X eT kk => XS.dup X.here C.x rfl (hb C.b hd) rfl hc kk) hr
theorem Go.dup2 (C : Cx Z W rm own nm bytes maxL ret) {x y : Value} (hd : decode bytes pc = .ok (.dup2, 1)) (hq : pc + 1 = q) (hc : x.category = 1) (hc' : y.category = 1)
    (hr : Go W n0 Q h k n q ls (x :: y :: x :: y :: st)) : Go W n0 Q h k n pc ls (x :: y :: st) := by
  subst hq
  exact Go.stepX (fun T L a b tg X eT kk => XT.dup2 X.here C.x rfl (hb C.b hd) rfl hc hc' kk) hr
theorem Go.goto (C : Cx Z W rm own nm bytes maxL ret) {o : Int} (hd : decode bytes pc = .ok (.goto o, 3)) (ho : 0 ≤ (pc : Int) + o) (hp : ((pc : Int) + o).toNat = q)
    (hr : Go W n0 Q h k n q ls st) : Go W n0 Q h k n pc ls st :=
  Go.stepX (fun T L a b tg X eT kk => XS.goto X.here C.x rfl (pc0 := pc) rfl (hb C.b hd) ho hp kk) hr
theorem Go.icmp (C : Cx Z W rm own nm bytes maxL ret) {cd : ClassFile.Cond} {o : Int} {x y : Int32} {qt : Nat} {P : Prop} [Decidable P] (hd : decode bytes pc = .ok (.if_icmp cd o, 3)) (hP : if_icmp.holds cd x y = decide P) (ho : 0 ≤ (pc : Int) + o) (hp : ((pc : Int) + o).toNat = qt) (hq : pc + 3 = q)
    (ht : P → Go W n0 Q h k n qt ls st) (hf : ¬ P → Go W n0 Q h k n q ls st) : Go W n0 Q h k n pc ls (.int y :: .int x :: st) := by
  subst hq
  by_cases p : P
  · exact Go.stepX (fun T L a b tg X eT kk => XS.icmpYes X.here C.x rfl (pc0 := pc) rfl (hb C.b hd) rfl (hP.trans (decide_eq_true p)) ho hp kk) (ht p)
  · exact Go.stepX (fun T L a b tg X eT kk => XS.icmpNo X.here C.x rfl (hb C.b hd) rfl (hP.trans (decide_eq_false p)) kk) (hf p)
theorem Go.if0 (C : Cx Z W rm own nm bytes maxL ret) {cd : ClassFile.Cond} {o : Int} {x : Int32} {qt : Nat} {P : Prop} [Decidable P] (hd : decode bytes pc = .ok (.ifCond cd o, 3)) (hP : ifCond.holds cd x = decide P) (ho : 0 ≤ (pc : Int) + o) (hp : ((pc : Int) + o).toNat = qt) (hq : pc + 3 = q)
    (ht : P → Go W n0 Q h k n qt ls st) (hf : ¬ P → Go W n0 Q h k n q ls st) : Go W n0 Q h k n pc ls (.int x :: st) := by
  subst hq
  by_cases p : P
  · exact Go.stepX (fun T L a b tg X eT kk => XS.ifYes X.here C.x rfl (pc0 := pc) rfl (hb C.b hd) rfl (hP.trans (decide_eq_true p)) ho hp kk) (ht p)
  · exact Go.stepX (fun T L a b tg X eT kk => XS.ifNo X.here C.x rfl (hb C.b hd) rfl (hP.trans (decide_eq_false p)) kk) (hf p)
theorem Go.ifnullY (C : Cx Z W rm own nm bytes maxL ret) {o : Int} (hd : decode bytes pc = .ok (.ifnull o, 3)) (ho : 0 ≤ (pc : Int) + o) (hp : ((pc : Int) + o).toNat = q)
    (hr : Go W n0 Q h k n q ls st) : Go W n0 Q h k n pc ls (.null :: st) :=
  Go.stepX (fun T L a b tg X eT kk => XS.ifnullYes X.here C.x rfl (pc0 := pc) rfl (hb C.b hd) rfl ho hp kk) hr
theorem Go.ifnullN (C : Cx Z W rm own nm bytes maxL ret) {o : Int} {a : Addr} (hd : decode bytes pc = .ok (.ifnull o, 3)) (hq : pc + 3 = q)
    (hr : Go W n0 Q h k n q ls st) : Go W n0 Q h k n pc ls (.ref a :: st) := by
  subst hq
  exact Go.stepX (fun T L a b tg X eT kk => XS.ifnullNo X.here C.x rfl (hb C.b hd) rfl kk) hr
theorem Go.ifnonnullY (C : Cx Z W rm own nm bytes maxL ret) {o : Int} {a : Addr} (hd : decode bytes pc = .ok (.ifnonnull o, 3)) (ho : 0 ≤ (pc : Int) + o) (hp : ((pc : Int) + o).toNat = q)
    (hr : Go W n0 Q h k n q ls st) : Go W n0 Q h k n pc ls (.ref a :: st) :=
  Go.stepX (fun T L a b tg X eT kk => XS.ifnonnullYes X.here C.x rfl (pc0 := pc) rfl (hb C.b hd) rfl ho hp kk) hr
theorem Go.ifnonnullN (C : Cx Z W rm own nm bytes maxL ret) {o : Int} (hd : decode bytes pc = .ok (.ifnonnull o, 3)) (hq : pc + 3 = q)
    (hr : Go W n0 Q h k n q ls st) : Go W n0 Q h k n pc ls (.null :: st) := by
  subst hq
  exact Go.stepX (fun T L a b tg X eT kk => XS.ifnonnullNo X.here C.x rfl (hb C.b hd) rfl kk) hr
theorem Go.acmp (C : Cx Z W rm own nm bytes maxL ret) {cd : ACond} {o : Int} {x y : Value} {same : Bool} (hd : decode bytes pc = .ok (.if_acmp cd o, 3)) (h1 : x.isRef = true) (h2 : y.isRef = true) (hs : decide (x = y) = same) (ho : 0 ≤ (pc : Int) + o) (hp : q = if acV cd same = true then ((pc : Int) + o).toNat else pc + 3)
    (hr : Go W n0 Q h k n q ls st) : Go W n0 Q h k n pc ls (y :: x :: st) :=
  Go.stepX (fun T L a b tg X eT kk => Jvm.RoadKit.acmp X C.x rfl h1 h2 (pc0 := pc) rfl (hb C.b hd) rfl hs ho hp kk) hr
theorem n_lt (x y : Int32) : if_icmp.holds .lt x y = decide (x < y) := rfl
theorem n_ge (x y : Int32) : if_icmp.holds .ge x y = decide (¬ x < y) := by simp [if_icmp.holds, Int32.not_lt]
theorem n_gt (x y : Int32) : if_icmp.holds .gt x y = decide (y < x) := rfl
theorem n_le (x y : Int32) : if_icmp.holds .le x y = decide (¬ y < x) := by simp [if_icmp.holds, Int32.not_lt]
theorem n_eq (x y : Int32) : if_icmp.holds .eq x y = decide (x = y) := by by_cases e : x = y <;> simp [if_icmp.holds, e]
theorem n_ne (x y : Int32) : if_icmp.holds .ne x y = decide (¬ x = y) := by by_cases e : x = y <;> simp [if_icmp.holds, e]
theorem z_lt (x : Int32) : ifCond.holds .lt x = decide (x < 0) := (if0 _ x).trans (n_lt x 0)
theorem z_ge (x : Int32) : ifCond.holds .ge x = decide (¬ x < 0) := (if0 _ x).trans (n_ge x 0)
theorem z_gt (x : Int32) : ifCond.holds .gt x = decide (0 < x) := (if0 _ x).trans (n_gt x 0)
theorem z_le (x : Int32) : ifCond.holds .le x = decide (¬ 0 < x) := (if0 _ x).trans (n_le x 0)
theorem z_eq (x : Int32) : ifCond.holds .eq x = decide (x = 0) := (if0 _ x).trans (n_eq x 0)
theorem z_ne (x : Int32) : ifCond.holds .ne x = decide (¬ x = 0) := (if0 _ x).trans (n_ne x 0)
theorem l_lt (x y : Int64) : ifCond.holds .lt (lcmpW x y) = decide (x < y) := by rw [z_lt]; exact decide_eq_decide.mpr (lw_lt x y)
theorem l_ge (x y : Int64) : ifCond.holds .ge (lcmpW x y) = decide (¬ x < y) := by rw [z_ge]; exact decide_eq_decide.mpr (not_congr (lw_lt x y))
theorem l_gt (x y : Int64) : ifCond.holds .gt (lcmpW x y) = decide (y < x) := by rw [z_gt]; exact decide_eq_decide.mpr (lw_gt x y)
theorem l_le (x y : Int64) : ifCond.holds .le (lcmpW x y) = decide (¬ y < x) := by rw [z_le]; exact decide_eq_decide.mpr (not_congr (lw_gt x y))
theorem l_eq (x y : Int64) : ifCond.holds .eq (lcmpW x y) = decide (x = y) := by rw [z_eq]; exact decide_eq_decide.mpr (lw_eq x y)
theorem l_ne (x y : Int64) : ifCond.holds .ne (lcmpW x y) = decide (¬ x = y) := by rw [z_ne]; exact decide_eq_decide.mpr (not_congr (lw_eq x y))
theorem nar_b (x : Int32) : nar .byte x.toInt8.toInt32 = x.toInt8.toInt32 := by
  show x.toInt8.toInt32.toInt8.toInt32 = _
  simp
/-- what the law's own walk leaves -/
def QL : Option Value → Heap → Prop := fun v _ => v = some (.int 1)
/-! the ends -/
theorem Go.out {v : Option Value} (f : ∀ T L a b fs, St W T L a b → (∀ (g : JFrame) (acts : List Action), g.method = W.m → g.locked = none → g.entered = [] → (doReturn W.e (T.setTop g) acts v).1 = T.setFrames fs) → Sp W (T.setTop (mkF W.m pc ls st)) (T.setFrames fs)) (hv : W.meth.sig.returnType = none → v = none) (hlk : W.meth.locks = false) (hk : k ≤ W.R.cells) (hn : n ≤ W.R.slots) (hQ : Q v h) : Go W n0 Q h k n pc ls st := by
  intro T L a b X ha hb N eT
  obtain ⟨fs, hr, hrun, hended, hW, hsame⟩ := X.leave (v := v) hv hlk
  refine ⟨_, _, f T L a b fs X hr, hrun, hended, v, L, rfl, ⟨N, ?_⟩, ⟨_, rfl⟩, hW, hsame.mono (Nat.le_trans ha hk) (Nat.le_trans hb hn)⟩
  have e1 : (T.setFrames fs).heap = T.heap := rfl
  rw [e1, eT]
  exact hQ
theorem Go.retI (C : Cx Z W rm own nm bytes maxL (some .int)) {x : Int32} (hd : decode bytes pc = .ok (.ireturn, 1)) (hk : k ≤ rm.cells) (hn : n ≤ rm.slots) (hQ : Q (some (.int x)) h) : Go W n0 Q h k n pc ls (.int x :: st) :=
  Go.out (v := some (.int x)) (fun T L a b fs X hr => Jvm.RoadKit.retI X C.x C.re (hb C.b hd) hr) (fun e => by rw [C.re] at e; cases e) C.lk (by rw [C.ro]; exact hk) (by rw [C.ro]; exact hn) hQ
theorem Go.retZ {t : FieldType} (ht : t = .boolean ∨ t = .byte ∨ t = .char ∨ t = .short) (C : Cx Z W rm own nm bytes maxL (some t)) {x : Int32} (hd : decode bytes pc = .ok (.ireturn, 1)) (hk : k ≤ rm.cells) (hn : n ≤ rm.slots) (hQ : Q (some (.int (nar t x))) h) : Go W n0 Q h k n pc ls (.int x :: st) :=
  Go.out (v := some (.int (nar t x))) (fun T L a b fs X hr => retN X C.x (t := t) C.re ht (hb C.b hd) hr) (fun e => by rw [C.re] at e; cases e) C.lk (by rw [C.ro]; exact hk) (by rw [C.ro]; exact hn) hQ
theorem Go.retV (C : Cx Z W rm own nm bytes maxL none) (hd : decode bytes pc = .ok (.return_, 1)) (hk : k ≤ rm.cells) (hn : n ≤ rm.slots) (hQ : Q none h) : Go W n0 Q h k n pc ls [] :=
  Go.out (v := none) (fun T L a b fs X hr => X.returnOut C.x C.re (hb C.b hd) hr) (fun _ => rfl) C.lk (by rw [C.ro]; exact hk) (by rw [C.ro]; exact hn) hQ
theorem Go.retJ (C : Cx Z W rm own nm bytes maxL (some .long)) {x : Int64} (hd : decode bytes pc = .ok (.lreturn, 1)) (hk : k ≤ rm.cells) (hn : n ≤ rm.slots) (hQ : Q (some (.long x)) h) : Go W n0 Q h k n pc ls [.long x] :=
  Go.out (v := some (.long x)) (fun T L a b fs X hr => Stand.lreturnOut X C.x C.re (hb C.b hd) hr) (fun e => by rw [C.re] at e; cases e) C.lk (by rw [C.ro]; exact hk) (by rw [C.ro]; exact hn) hQ
theorem Go.retR {t : FieldType} (C : Cx Z W rm own nm bytes maxL (some t)) {v : Value} (hd : decode bytes pc = .ok (.areturn, 1)) (ht : t.isReference = true) (hv : v.isRef = true) (hnw : narrow t v = v) (hk : k ≤ rm.cells) (hn : n ≤ rm.slots) (hQ : Q (some v) h) : Go W n0 Q h k n pc ls (v :: st) :=
  Go.out (v := some v) (fun T L a b fs X hr => retOut X C.x (t := t) (i := .areturn) C.re hnw (Or.inr (Or.inr (Or.inr (Or.inr ⟨rfl, ht, hv⟩)))) (hb C.b hd) hr) (fun e => by rw [C.re] at e; cases e) C.lk (by rw [C.ro]; exact hk) (by rw [C.ro]; exact hn) hQ
/-! the calls -/
theorem met_weak {l : Launch} {y : MethodName} {as : Array Value} {Q' : Option Value → Heap → Prop} (M : Met1 l Z y bytes maxL ret [] rm as h n0 Q) (hQ : ∀ v h', Q v h' → Q' v h') : Met1 l Z y bytes maxL ret [] rm as h n0 Q' := by
  intro p e ha hc hk s m args below hf happ hP hK
  obtain ⟨n, o, h1, h2, h3, v, L, h4, ⟨h5, h6⟩, h7⟩ := M p e ha hc hk s m args below hf happ hP hK
  exact ⟨n, o, h1, h2, h3, v, L, h4, ⟨h5, hQ _ _ h6⟩, h7⟩
theorem Go.callS (C : Cx Z W rm own nm bytes maxL ret) {index : Nat} {y : MethodName} {bytes' : ByteArray} {maxL' : Nat} {ret' : Option FieldType} {rm' : Room} {argsL : List Value} {Q' : Option Value → Heap → Prop} {ps : List FieldType} {rt : Option FieldType} {stk : List Value} {k' n' w : Nat}
    (wl : (Jvm.Cond.methodLink own index y).before a0 Z = true) (wst : (Jvm.Cond.static y).before a0 Z = true) (wi : (Jvm.Cond.initialized y.cls).before a0 Z = true) (wc : (Jvm.Cond.code y bytes' maxL' ret').before a0 Z = true)
    (M : Met1 W.l Z y bytes' maxL' ret' [] rm' argsL.toArray h n0 Q') (hd : decode bytes pc = .ok (.invokestatic index, 3)) (hpd : parseMethodDescriptor y.desc = some ⟨ps, rt⟩) (hq : pc + 3 = q) (hls : ls.size = maxL) (hstk : stk = argsL.reverse ++ st) (hlen : argsL.length = ps.length)
    (hw : (st.map fun v => v.category).sum = w) (hfr : rm'.frames + 1 ≤ rm.frames) (hlo : w + (maxL' + 11) + rm'.locals ≤ rm.locals) (hk : k + rm'.cells = k') (hn : n + rm'.slots = n') (hk' : k' ≤ rm.cells) (hn' : n' ≤ rm.slots)
    (hr : ∀ v h', Q' v h' → Go W n0 Q h' k' n' q ls (v.toList ++ st)) (hy : y.cls ≠ "java/lang/invoke/MethodHandle" ∧ y.cls ≠ "java/lang/invoke/VarHandle" := by decide) : Go W n0 Q h k n pc ls stk := by
  subst hstk hq hk hn hw
  intro T L a b X ha hb' N eT
  have e1 := C.ro
  obtain ⟨v, _, ⟨T2, L2, k2, n2⟩, -, X2, ⟨Lc, ⟨N2, hQ2⟩, l2, y2, z2⟩, sp⟩ := Jvm.LawKit.callS X C.x (y := y) C.ow (mvT C.z wl) (mvT C.z wst) (mvT C.z wi) (mvT C.z wc) hy
    (backOf (W := (st.map fun v => v.category).sum) (Q := fun v h L => Fr n0 L ∧ Q' v h) M C.z wc wi (by rw [e1]; exact hfr) (by rw [e1]; exact hlo)) (g := mkF W.m pc ls (argsL.reverse ++ st)) rfl (by rw [C.ml]; exact hls) (argsL := argsL) (rest := st) (lenOf hpd hlen) rfl (by show 2 * 0 + (st.map fun v => v.category).sum ≤ (st.map fun v => v.category).sum; omega) (hb C.b hd) (fun _ _ => ⟨rfl, eT, by rw [e1]; show a + _ ≤ _; omega, by rw [e1]; show b + _ ≤ _; omega⟩)
  dsimp only [Pt.U, Pt.locs, Pt.cells, Pt.slots] at X2 l2 y2 z2 sp hQ2
  subst l2 y2 z2
  obtain ⟨s₂, o, hs, r⟩ := hr v _ hQ2 T2 _ _ _ X2 (by omega) (by omega) (Fr.app N N2) rfl
  exact ⟨s₂, o, sp _ hs, r⟩
/-- what a callee that changes nothing leaves -/
def Ret (w : Value) (h : Heap) : Option Value → Heap → Prop := fun v h' => v = some w ∧ h' = h
theorem Go.pureS (C : Cx Z W rm own nm bytes maxL ret) {index : Nat} {y : MethodName} {bytes' : ByteArray} {maxL' : Nat} {ret' : Option FieldType} {fr lo : Nat} {argsL : List Value} {res : Value} {ps : List FieldType} {rt : Option FieldType} {stk : List Value} {w : Nat}
    (wl : (Jvm.Cond.methodLink own index y).before a0 Z = true) (wst : (Jvm.Cond.static y).before a0 Z = true) (wi : (Jvm.Cond.initialized y.cls).before a0 Z = true) (wc : (Jvm.Cond.code y bytes' maxL' ret').before a0 Z = true)
    (M : Met1 W.l Z y bytes' maxL' ret' [] ({ frames := fr, cells := 0, slots := 0, locals := lo } : Room) argsL.toArray h n0 (Ret res h)) (hd : decode bytes pc = .ok (.invokestatic index, 3)) (hpd : parseMethodDescriptor y.desc = some ⟨ps, rt⟩) (hq : pc + 3 = q) (hls : ls.size = maxL) (hstk : stk = argsL.reverse ++ st) (hlen : argsL.length = ps.length)
    (hw : (st.map fun v => v.category).sum = w) (hfr : fr + 1 ≤ rm.frames) (hlo : w + (maxL' + 11) + lo ≤ rm.locals) (hk' : k ≤ rm.cells) (hn' : n ≤ rm.slots)
    (hr : Go W n0 Q h k n q ls (res :: st)) (hy : y.cls ≠ "java/lang/invoke/MethodHandle" ∧ y.cls ≠ "java/lang/invoke/VarHandle" := by decide) : Go W n0 Q h k n pc ls stk :=
  Go.callS C wl wst wi wc M hd hpd hq hls hstk hlen hw hfr hlo rfl rfl hk' hn' (fun v h' q => by obtain ⟨rfl, rfl⟩ := q; exact hr) hy
theorem Go.callC (C : Cx Z W rm own nm bytes maxL ret) {index : Nat} {y : MethodName} {bytes' : ByteArray} {maxL' : Nat} {rm' : Room} {argsL : List Value} {Q' : Option Value → Heap → Prop} {ps : List FieldType} {rt : Option FieldType} {stk : List Value} {k' n' w : Nat} {a : Addr}
    (hy1 : y.name = "<init>") (wl : (Jvm.Cond.methodLink own index y).before a0 Z = true) (wst : (Jvm.Cond.instanceMethod y).before a0 Z = true) (wi : (Jvm.Cond.initialized y.cls).before a0 Z = true) (wc : (Jvm.Cond.code y bytes' maxL' none).before a0 Z = true)
    (M : Met1 W.l Z y bytes' maxL' none [] rm' (.ref a :: argsL).toArray h n0 Q') (hd : decode bytes pc = .ok (.invokespecial index, 3)) (hpd : parseMethodDescriptor y.desc = some ⟨ps, rt⟩) (hq : pc + 3 = q) (hls : ls.size = maxL) (hstk : stk = argsL.reverse ++ .ref a :: st) (hlen : argsL.length = ps.length)
    (hw : (st.map fun v => v.category).sum = w) (hfr : rm'.frames + 1 ≤ rm.frames) (hlo : w + (maxL' + 11) + rm'.locals ≤ rm.locals) (hk : k + rm'.cells = k') (hn : n + rm'.slots = n') (hk' : k' ≤ rm.cells) (hn' : n' ≤ rm.slots)
    (hr : ∀ v h', Q' v h' → Go W n0 Q h' k' n' q ls (v.toList ++ st)) (hy : y.cls ≠ "java/lang/invoke/MethodHandle" ∧ y.cls ≠ "java/lang/invoke/VarHandle" := by decide) : Go W n0 Q h k n pc ls stk := by
  subst hstk hq hk hn hw
  intro T L i j X ha hb' N eT
  have e1 := C.ro
  obtain ⟨v, _, ⟨T2, L2, k2, n2⟩, -, X2, ⟨Lc, ⟨N2, hQ2⟩, l2, y2, z2⟩, sp⟩ := X.specialBack C.x (y := y) hy1 C.ow (mvT C.z wl) (mvT C.z wst) (mvT C.z wc) hy
    (backOf (W := (st.map fun v => v.category).sum) (Q := fun v h L => Fr n0 L ∧ Q' v h) M C.z wc wi (by rw [e1]; exact hfr) (by rw [e1]; exact hlo)) (g := mkF W.m pc ls (argsL.reverse ++ .ref a :: st)) rfl (by rw [C.ml]; exact hls) (Steps.refl _) (a := a) (argsL := argsL) (rest := st) (lenOf hpd hlen) rfl (by show 2 * 0 + (st.map fun v => v.category).sum ≤ (st.map fun v => v.category).sum; omega) (hb C.b hd) (fun _ _ => ⟨rfl, eT, by rw [e1]; show i + _ ≤ _; omega, by rw [e1]; show j + _ ≤ _; omega⟩)
  dsimp only [Pt.U, Pt.locs, Pt.cells, Pt.slots] at X2 l2 y2 z2 sp hQ2
  subst l2 y2 z2
  obtain ⟨s₂, o, hs, r⟩ := hr v _ hQ2 T2 _ _ _ X2 (by omega) (by omega) (Fr.app N N2) rfl
  exact ⟨s₂, o, sp.trans hs, r⟩
theorem Go.callV (C : Cx Z W rm own nm bytes maxL ret) {index : Nat} {y z : MethodName} {K : String} {bytes' : ByteArray} {maxL' : Nat} {ret' : Option FieldType} {rm' : Room} {argsL : List Value} {Q' : Option Value → Heap → Prop} {ps : List FieldType} {rt : Option FieldType} {stk : List Value} {k' n' w : Nat} {a : Addr}
    (E : Exa Z h a K) (wl : (Jvm.Cond.methodLink own index y).before a0 Z = true) (wdc : (Jvm.Cond.declares y).before a0 Z = true) (hnf : NotFace W.s y) (wse : (Jvm.Cond.selects K y z).before a0 Z = true) (wst : (Jvm.Cond.instanceMethod z).before a0 Z = true) (wi : (Jvm.Cond.initialized z.cls).before a0 Z = true) (wc : (Jvm.Cond.code z bytes' maxL' ret').before a0 Z = true)
    (M : Met1 W.l Z z bytes' maxL' ret' [] rm' (.ref a :: argsL).toArray h n0 Q') (hd : decode bytes pc = .ok (.invokevirtual index, 3)) (hpd : parseMethodDescriptor y.desc = some ⟨ps, rt⟩) (hq : pc + 3 = q) (hls : ls.size = maxL) (hstk : stk = argsL.reverse ++ .ref a :: st) (hlen : argsL.length = ps.length)
    (hw : (st.map fun v => v.category).sum = w) (hfr : rm'.frames + 1 ≤ rm.frames) (hlo : w + (maxL' + 11) + rm'.locals ≤ rm.locals) (hk : k + rm'.cells = k') (hn : n + rm'.slots = n') (hk' : k' ≤ rm.cells) (hn' : n' ≤ rm.slots)
    (hr : ∀ v h', Q' v h' → Go W n0 Q h' k' n' q ls (v.toList ++ st)) (hy : y.cls ≠ "java/lang/invoke/MethodHandle" ∧ y.cls ≠ "java/lang/invoke/VarHandle" := by decide) : Go W n0 Q h k n pc ls stk := by
  subst hstk hq hk hn hw
  intro T L i j X ha hb' N eT
  have e1 := C.ro
  obtain ⟨cq, kq, qa, qb, qc⟩ := isOf (s := W.s) C.z eT E
  obtain ⟨v, _, ⟨T2, L2, k2, n2⟩, -, X2, ⟨Lc, ⟨N2, hQ2⟩, l2, y2, z2⟩, sp⟩ := X.virtualBack C.x (y := y) (z := z) C.ow (mvT C.z wl) (mvT C.z wdc) hnf (mvT C.z wse) (mvT C.z wst) hy
    (backOf (W := (st.map fun v => v.category).sum) (Q := fun v h L => Fr n0 L ∧ Q' v h) M C.z wc wi (by rw [e1]; exact hfr) (by rw [e1]; exact hlo)) qa qc (g := mkF W.m pc ls (argsL.reverse ++ .ref a :: st)) rfl (by rw [C.ml]; exact hls) (Steps.refl _) (argsL := argsL) (rest := st) (lenOf hpd hlen) rfl (by show 2 * 0 + (st.map fun v => v.category).sum ≤ (st.map fun v => v.category).sum; omega) (hb C.b hd) (fun _ _ => ⟨rfl, eT, by rw [e1]; show i + _ ≤ _; omega, by rw [e1]; show j + _ ≤ _; omega⟩)
  dsimp only [Pt.U, Pt.locs, Pt.cells, Pt.slots] at X2 l2 y2 z2 sp hQ2
  subst l2 y2 z2
  obtain ⟨s₂, o, hs, r⟩ := hr v _ hQ2 T2 _ _ _ X2 (by omega) (by omega) (Fr.app N N2) rfl
  exact ⟨s₂, o, sp.trans hs, r⟩
theorem Go.pureV (C : Cx Z W rm own nm bytes maxL ret) {index : Nat} {y : MethodName} {K : String} {bytes' : ByteArray} {maxL' : Nat} {ret' : Option FieldType} {fr lo : Nat} {argsL : List Value} {res : Value} {ps : List FieldType} {rt : Option FieldType} {stk : List Value} {w : Nat} {a : Addr}
    (E : Exa Z h a K) (wl : (Jvm.Cond.methodLink own index y).before a0 Z = true) (wdc : (Jvm.Cond.declares y).before a0 Z = true) (wse : (Jvm.Cond.selects K y y).before a0 Z = true) (wst : (Jvm.Cond.instanceMethod y).before a0 Z = true) (wi : (Jvm.Cond.initialized y.cls).before a0 Z = true) (wc : (Jvm.Cond.code y bytes' maxL' ret').before a0 Z = true)
    (M : Met1 W.l Z y bytes' maxL' ret' [] ({ frames := fr, cells := 0, slots := 0, locals := lo } : Room) (.ref a :: argsL).toArray h n0 (Ret res h)) (hd : decode bytes pc = .ok (.invokevirtual index, 3)) (hpd : parseMethodDescriptor y.desc = some ⟨ps, rt⟩) (hq : pc + 3 = q) (hls : ls.size = maxL) (hstk : stk = argsL.reverse ++ .ref a :: st) (hlen : argsL.length = ps.length)
    (hw : (st.map fun v => v.category).sum = w) (hfr : fr + 1 ≤ rm.frames) (hlo : w + (maxL' + 11) + lo ≤ rm.locals) (hk' : k ≤ rm.cells) (hn' : n ≤ rm.slots)
    (hr : Go W n0 Q h k n q ls (res :: st)) (hy : y.cls ≠ "java/lang/invoke/MethodHandle" ∧ y.cls ≠ "java/lang/invoke/VarHandle" := by decide) : Go W n0 Q h k n pc ls stk :=
  Go.callV C E wl wdc (notFace_of_selects (args := #[]) (mvT C.z wse)) wse wst wi wc M hd hpd hq hls hstk hlen hw hfr hlo rfl rfl hk' hn' (fun v h' q => by obtain ⟨rfl, rfl⟩ := q; exact hr) hy
/-- a private method, by invokevirtual; zz: any method of its class of which the sheet says what it selects (so the class is no interface) -/
theorem Go.callP (C : Cx Z W rm own nm bytes maxL ret) {index : Nat} {y zz : MethodName} {K KK : String} {bytes' : ByteArray} {maxL' : Nat} {ret' : Option FieldType} {rm' : Room} {argsL : List Value} {Q' : Option Value → Heap → Prop} {ps : List FieldType} {rt : Option FieldType} {stk : List Value} {k' n' w : Nat} {a : Addr}
    (E : Exa Z h a K) (wl : (Jvm.Cond.methodLink own index y).before a0 Z = true) (wse : (Jvm.Cond.selects KK zz zz).before a0 Z = true) (hzz : zz.cls = y.cls) (wpr : (Jvm.Cond.privateMethod y).before a0 Z = true) (wst : (Jvm.Cond.instanceMethod y).before a0 Z = true) (wi : (Jvm.Cond.initialized y.cls).before a0 Z = true) (wc : (Jvm.Cond.code y bytes' maxL' ret').before a0 Z = true)
    (M : Met1 W.l Z y bytes' maxL' ret' [] rm' (.ref a :: argsL).toArray h n0 Q') (hd : decode bytes pc = .ok (.invokevirtual index, 3)) (hpd : parseMethodDescriptor y.desc = some ⟨ps, rt⟩) (hq : pc + 3 = q) (hls : ls.size = maxL) (hstk : stk = argsL.reverse ++ .ref a :: st) (hlen : argsL.length = ps.length)
    (hw : (st.map fun v => v.category).sum = w) (hfr : rm'.frames + 1 ≤ rm.frames) (hlo : w + (maxL' + 11) + rm'.locals ≤ rm.locals) (hk : k + rm'.cells = k') (hn : n + rm'.slots = n') (hk' : k' ≤ rm.cells) (hn' : n' ≤ rm.slots)
    (hr : ∀ v h', Q' v h' → Go W n0 Q h' k' n' q ls (v.toList ++ st)) (hy : y.cls ≠ "java/lang/invoke/MethodHandle" ∧ y.cls ≠ "java/lang/invoke/VarHandle" := by decide) : Go W n0 Q h k n pc ls stk := by
  subst hstk hq hk hn hw
  intro T L i j X ha hb' N eT
  have e1 := C.ro
  obtain ⟨cell, hcell, hobj⟩ := E.cell
  rw [← eT] at hcell
  obtain ⟨mk, methM, hnamed, hmethM, hstM, habM⟩ := Cond.instanceMethod_spec (mvT (args := #[]) C.z wst)
  obtain ⟨methM', cM, hmethM', -, -, -, -, -, -, hsigM⟩ := Cond.code_spec hnamed (mvT (args := #[]) C.z wc)
  cases hmethM.symm.trans hmethM'
  obtain ⟨c2, r2, m2, -, -, q3, -, kP, hkP, hkPi⟩ := Cond.selects_spec (mvT (args := #[]) C.z wse)
  have ec : m2.cls = mk.cls := by
    have u1 := findClass_of_methodNamed q3
    have u2 := findClass_of_methodNamed hnamed
    rw [hzz] at u1
    exact Option.some.inj (u1.symm.trans u2)
  rw [ec] at hkP
  have hsel := selectMethod_private (p := W.e.platform) (c := cell.cls) hmethM (Cond.privateMethod_at (mvP C.z wpr (args := #[])) mk methM hnamed hmethM)
  obtain ⟨vm₁, X₁, hst⟩ := X.invokevirtual C.x C.ow (mvT C.z wl) hnamed hmethM hstM hkP hkPi hy (a := a) (cell := cell) hcell hobj hsel hmethM habM hkP hkPi (g := mkF W.m pc ls (argsL.reverse ++ .ref a :: st)) rfl (argsL := argsL) (rest := st) (lenOf hpd hlen _ hsigM) rfl (hb C.b hd)
  obtain ⟨v, ⟨T2, L2, k2, n2⟩, X2, ⟨Lc, ⟨N2, hQ2⟩, l2, y2, z2⟩, sp⟩ := backOf (len := 3) (W := (st.map fun v => v.category).sum) (Q := fun v h L => Fr n0 L ∧ Q' v h) M C.z wc wi (by rw [e1]; exact hfr) (by rw [e1]; exact hlo) W.m W.meth W.c ⟨T.setVm vm₁, L, i, j⟩ (mkF W.m pc ls st) (.invokevirtual index) mk (.ref a :: argsL).toArray X₁ rfl (by rw [C.ml]; exact hls) (hb C.b hd) (by show 2 * 0 + (st.map fun v => v.category).sum ≤ (st.map fun v => v.category).sum; omega) (X₁.named hnamed) ⟨rfl, eT, by rw [e1]; show i + _ ≤ _; omega, by rw [e1]; show j + _ ≤ _; omega⟩
  dsimp only [Pt.U, Pt.locs, Pt.cells, Pt.slots] at X2 l2 y2 z2 sp hQ2
  subst l2 y2 z2
  obtain ⟨s₂, o, hs, r⟩ := hr v _ hQ2 T2 _ _ _ X2 (by omega) (by omega) (Fr.app N N2) rfl
  exact ⟨s₂, o, (hst _ fun acts => by rw [doInvoke_state]; exact Steps.refl _).trans (sp.trans hs), r⟩
/-! the heap -/
theorem Go.initO (C : Cx Z W rm own nm bytes maxL ret) {index w : Nat} {a : Addr} (w1 : (Jvm.Cond.methodLink own index Lib.objectInit).before a0 Z = true) (w2 : (Jvm.Cond.instanceMethod Lib.objectInit).before a0 Z = true) (w3 : (Jvm.Cond.code Lib.objectInit ⟨#[0xb1]⟩ 1 none).before a0 Z = true)
    (hd : decode bytes pc = .ok (.invokespecial index, 3)) (hq : pc + 3 = q) (hls : ls.size = maxL) (hw : (st.map fun v => v.category).sum = w) (hfr : 1 ≤ rm.frames) (hlo : w + 12 ≤ rm.locals) (hr : Go W n0 Q h k n q ls st) : Go W n0 Q h k n pc ls (.ref a :: st) := by
  subst hq hw
  exact Go.stepT (fun T L i j X eT => Jvm.RoadKit.initO X C.x C.z C.ow w1 w2 w3 eT (g := mkF W.m pc ls (.ref a :: st)) rfl (by rw [C.ml]; exact hls) rfl (hb C.b hd) (by rw [C.ro]; exact hfr) (W := (st.map fun v => v.category).sum) (by show 2 * 0 + (st.map fun v => v.category).sum ≤ (st.map fun v => v.category).sum; omega) (by rw [C.ro]; exact hlo)) hr
theorem Go.getF (C : Cx Z W rm own nm bytes maxL ret) {R0 O f d host : String} {index : Nat} {a : Addr} {v : Value} (w : (Jvm.Cond.fieldLink own index R0 f d).before a0 Z = true ∨ (Jvm.Cond.fieldLinkNest own index R0 f d host).before a0 Z = true) (via : Via Z R0 O f d) (F : Fld Z h a O f d v)
    (hd : decode bytes pc = .ok (.getfield index, 3)) (hq : pc + 3 = q) (hr : Go W n0 Q h k n q ls (v :: st)) : Go W n0 Q h k n pc ls (.ref a :: st) := by
  subst hq
  exact Go.stepT (fun T L i j X eT => Jvm.RoadKit.getF X C.x C.z C.ow w via eT F (g := mkF W.m pc ls (.ref a :: st)) rfl rfl (hb C.b hd)) hr
theorem Go.getS (C : Cx Z W rm own nm bytes maxL ret) {R0 O f d : String} {index : Nat} {v : Value} (w : (Jvm.Cond.fieldLink own index R0 f d).before a0 Z = true) (via : Via Z R0 O f d) (F : Sta Z h O f d v)
    (hd : decode bytes pc = .ok (.getstatic index, 3)) (hq : pc + 3 = q) (hr : Go W n0 Q h k n q ls (v :: st)) : Go W n0 Q h k n pc ls st := by
  subst hq
  exact Go.stepT (fun T L i j X eT => Jvm.RoadKit.getS X C.x C.z (host := "") C.ow w via eT F (g := mkF W.m pc ls st) rfl (hb C.b hd)) hr
theorem Go.putF (C : Cx Z W rm own nm bytes maxL ret) {R0 O f d host K : String} {index kk : Nat} {ty : FieldType} {a : Addr} {v old : Value} (w : (Jvm.Cond.fieldLink own index R0 f d).before a0 Z = true ∨ (Jvm.Cond.fieldLinkNest own index R0 f d host).before a0 Z = true) (via : Via Z R0 O f d) (F : Fld Z h a O f d old) (E : Exa Z h a K)
    (Lw : (Jvm.Cond.lays K O f d).before a0 Z = true ∨ ((Jvm.Cond.laysFinal K O f d).before a0 Z = true ∧ own = O ∧ nm = "<init>")) (wi : (Jvm.Cond.instantiable K kk).before a0 Z = true) (hty : parseFieldDescriptor d = some ty) (hn : narrow ty v = v) (hf : fits ty v = true) (ha : n0 ≤ a)
    (hd : decode bytes pc = .ok (.putfield index, 3)) (hq : pc + 3 = q) (hr : ∀ h', Wr h h' a (Jvm.RoadKit.slotOf Z O f d) v → Go W n0 Q h' k n q ls st) : Go W n0 Q h k n pc ls (v :: .ref a :: st) := by
  subst hq
  intro T L i j X hk hn' N eT
  obtain ⟨T', h', X', e', W', sp⟩ := Jvm.RoadKit.putF X C.x C.z C.ow w via eT F E (Lw.imp id fun z => ⟨z.1, z.2.1, C.na.trans z.2.2⟩) wi hty hn hf (g := mkF W.m pc ls (v :: .ref a :: st)) rfl rfl (hb C.b hd)
  obtain ⟨s₂, o, hs, r⟩ := hr h' W' T' _ _ _ X' hk hn' (Fr.snoc X' N ha) e'
  exact ⟨s₂, o, sp _ hs, r⟩
theorem Go.newO (C : Cx Z W rm own nm bytes maxL ret) {K : String} {index sz k' n' : Nat} (w : (Jvm.Cond.classLink own index K).before a0 Z = true) (wi : (Jvm.Cond.instantiable K sz).before a0 Z = true) (wz : (Jvm.Cond.initialized K).before a0 Z = true)
    (hd : decode bytes pc = .ok (.new index, 3)) (hq : pc + 3 = q) (hk : k + 1 = k') (hn : n + sz = n') (hk' : k' ≤ rm.cells) (hn' : n' ≤ rm.slots)
    (hr : ∀ h' a, a = h.size → Ext h h' → Exa Z h' a K → (∀ {O f d : String} {ty : FieldType}, Laid Z a0 K O f d → parseFieldDescriptor d = some ty → Fld Z h' a O f d (defaultValue ty)) → Go W n0 Q h' k' n' q ls (.ref a :: st)) : Go W n0 Q h k n pc ls st := by
  subst hq hk hn
  intro T L i j X hk0 hn0 N eT
  have e1 := C.ro
  obtain ⟨T', h', X', e', E', A', D', -, sp⟩ := Jvm.RoadKit.newO X C.x C.z C.ow w wi wz eT (g := mkF W.m pc ls st) rfl (hb C.b hd) (by rw [e1]; omega) (by rw [e1]; omega)
  obtain ⟨s₂, o, hs, r⟩ := hr h' _ rfl E' A' D' T' _ _ _ X' (by omega) (by omega) N e'
  exact ⟨s₂, o, sp _ hs, r⟩
theorem Go.newP (C : Cx Z W rm own nm bytes maxL ret) {aty : ArrayType} {z : Int32} {cap k' n' : Nat} (w : (Jvm.Cond.arrayClass (newarray.typeOf aty)).before a0 Z = true) (hz : ¬ z < 0) (hcap : z.toNatClampNeg ≤ cap) (hbig : cap * 8 ≤ 536870912)
    (hd : decode bytes pc = .ok (.newarray aty, 2)) (hq : pc + 2 = q) (hk : k + 1 = k') (hn : n + cap = n') (hk' : k' ≤ rm.cells) (hn' : n' ≤ rm.slots)
    (hr : ∀ h' a cA, a = h.size → Ext h h' → Arv Z h' a cA (newarray.typeOf aty) z [] (defaultValue (newarray.typeOf aty)) → Go W n0 Q h' k' n' q ls (.ref a :: st)) : Go W n0 Q h k n pc ls (.int z :: st) := by
  subst hq hk hn
  intro T L i j X hk0 hn0 N eT
  have e1 := C.ro
  obtain ⟨T', h', cA, X', e', E', A', sp⟩ := Jvm.RoadKit.newP X C.x C.z w eT (g := mkF W.m pc ls (.int z :: st)) rfl (hb C.b hd) rfl hz hcap hbig (by rw [e1]; omega) (by rw [e1]; omega)
  obtain ⟨s₂, o, hs, r⟩ := hr h' _ cA rfl E' (Arv.new A' hz) T' _ _ _ X' (by omega) (by omega) N e'
  exact ⟨s₂, o, sp _ hs, r⟩

/-! arrays: the length n, the values f -/
def Av (Z : State) (h : Heap) (a : Addr) (ty : FieldType) (len : Nat) (f : Nat → Value) : Prop := ∃ c : Cell, Arr Z h a c ty ∧ c.slots.size = len ∧ len < 2 ^ 31 ∧ ∀ i, i < len → c.slots[i]? = some (f i)
def upd {α : Type} (f : Nat → α) (j : Nat) (v : α) : Nat → α := fun i => if i = j then v else f i
theorem upd_eq {α : Type} (f : Nat → α) (j : Nat) (v : α) : upd f j v j = v := if_pos rfl
theorem upd_ne {α : Type} (f : Nat → α) {j i : Nat} (v : α) (e : i ≠ j) : upd f j v i = f i := if_neg e
theorem Av.lt {a : Addr} {ty : FieldType} {len : Nat} {f : Nat → Value} (F : Av Z h a ty len f) : a < h.size := by obtain ⟨c, A, -⟩ := F; exact A.lt
theorem Av.ext {a : Addr} {ty : FieldType} {len : Nat} {f : Nat → Value} {h' : Heap} (F : Av Z h a ty len f) (E : Ext h h') : Av Z h' a ty len f := by obtain ⟨c, A, r⟩ := F; exact ⟨c, A.ext E, r⟩
theorem Av.other {a b : Addr} {ty : FieldType} {len sl : Nat} {v : Value} {f : Nat → Value} {h' : Heap} (F : Av Z h b ty len f) (W : Wr h h' a sl v) (e : b ≠ a) : Av Z h' b ty len f := by obtain ⟨c, A, r⟩ := F; exact ⟨c, A.other W e, r⟩
theorem Av.keep {a : Addr} {ty : FieldType} {len : Nat} {f : Nat → Value} {h' : Heap} {ws : List Addr} (F : Av Z h a ty len f) (K : Keep h h' ws) (e : a ∉ ws) : Av Z h' a ty len f := by obtain ⟨c, A, r⟩ := F; exact ⟨c, ⟨K.2.1 a c A.1 e, A.2⟩, r⟩
theorem Av.same {a : Addr} {ty : FieldType} {len j : Nat} {v : Value} {f : Nat → Value} {h' : Heap} (F : Av Z h a ty len f) (W : Wr h h' a j v) : Av Z h' a ty len (upd f j v) := by
  obtain ⟨c, A, r1, r2, r3⟩ := F
  refine ⟨c.setSlot j v, A.same W, by simp [Cell.setSlot, r1], r2, fun i hi => ?_⟩
  by_cases e : i = j
  · subst e
    rw [upd_eq]
    simp [Cell.setSlot, r1, hi]
  · rw [upd_ne _ _ e, ← r3 i hi]
    exact Array.getElem?_setIfInBounds_ne (Ne.symm e)
def iF (g : Nat → Int32) : Nat → Value := fun i => .int (g i)
def jF (g : Nat → Int64) : Nat → Value := fun i => .long (g i)
theorem upd_iF (g : Nat → Int32) (j : Nat) (x : Int32) : upd (iF g) j (.int x) = iF (upd g j x) := by funext i; by_cases e : i = j <;> simp [upd, iF, e]
theorem upd_jF (g : Nat → Int64) (j : Nat) (x : Int64) : upd (jF g) j (.long x) = jF (upd g j x) := by funext i; by_cases e : i = j <;> simp [upd, jF, e]
theorem Av.sameI {a : Addr} {ty : FieldType} {len j : Nat} {x : Int32} {g : Nat → Int32} {h' : Heap} (F : Av Z h a ty len (iF g)) (W : Wr h h' a j (.int x)) : Av Z h' a ty len (iF (upd g j x)) := upd_iF g j x ▸ F.same W
theorem Av.sameJ {a : Addr} {ty : FieldType} {len j : Nat} {x : Int64} {g : Nat → Int64} {h' : Heap} (F : Av Z h a ty len (jF g)) (W : Wr h h' a j (.long x)) : Av Z h' a ty len (jF (upd g j x)) := upd_jF g j x ▸ F.same W
theorem Av.of {a : Addr} {ty : FieldType} {z : Int32} {cA : ClassId} {d : Value} (F : Arv Z h a cA ty z [] d) : Av Z h a ty z.toNatClampNeg (fun _ => d) := by
  obtain ⟨c, A, -, r1, r2, r3, -⟩ := F
  refine ⟨c, A, r1, ?_, fun i hi => ?_⟩
  · have e1 := z.toInt_lt
    have e2 : z.toNatClampNeg = z.toInt.toNat := rfl
    omega
  · rw [r3 i (by omega)]
    simp
theorem Go.alen (C : Cx Z W rm own nm bytes maxL ret) {a : Addr} {ty : FieldType} {len : Nat} {f : Nat → Value} (F : Av Z h a ty len f) (hd : decode bytes pc = .ok (.arraylength, 1)) (hq : pc + 1 = q)
    (hr : Go W n0 Q h k n q ls (.int len.toInt32 :: st)) : Go W n0 Q h k n pc ls (.ref a :: st) := by
  subst hq
  obtain ⟨c, A, r1, r2, r3⟩ := F
  subst r1
  exact Go.stepX (fun T L i j tg X eT kk => X.arraylength C.x (by rw [eT]; exact A.1) (State.isArrayOf_alike C.z.alike A.2.1) (g := mkF W.m pc ls (.ref a :: st)) rfl rfl (hb C.b hd) _ kk) hr
theorem Go.alenZ (C : Cx Z W rm own nm bytes maxL ret) {a : Addr} {ty : FieldType} {z : Int32} {f : Nat → Value} (F : Av Z h a ty z.toNatClampNeg f) (hz : ¬ z < 0) (hd : decode bytes pc = .ok (.arraylength, 1)) (hq : pc + 1 = q)
    (hr : Go W n0 Q h k n q ls (.int z :: st)) : Go W n0 Q h k n pc ls (.ref a :: st) :=
  Go.alen C F hd hq (by rw [(Jvm.RoadKit.back32 hz).1]; exact hr)

theorem Go.iaload (C : Cx Z W rm own nm bytes maxL ret) {a : Addr} {len : Nat} {f : Nat → Value} {j : Int32} {v : Value} (F : Av Z h a .int len f) (i : Nat) (hji : j.toNatClampNeg = i) (hj : ¬ j < 0) (hi : i < len) (hv : f i = v) (hd : decode bytes pc = .ok (.iaload, 1)) (hq : pc + 1 = q)
    (hr : Go W n0 Q h k n q ls (v :: st)) : Go W n0 Q h k n pc ls (.int j :: .ref a :: st) := by
  subst hq hji hv
  obtain ⟨c, A, r1, r2, r3⟩ := F
  exact Go.stepX (fun T L i' j' tg X eT kk => X.iaload C.x (j := j) (by rw [eT]; exact A.1) (State.isArrayOf_alike C.z.alike A.2.1) A.2.2 (fun z => z.elim hj (fun y => absurd (Nat.lt_of_lt_of_le hi (r1 ▸ y)) (Nat.lt_irrefl _))) (r3 _ hi) (g := mkF W.m pc ls (.int j :: .ref a :: st)) rfl rfl (hb C.b hd) _ kk) hr
theorem Go.laload (C : Cx Z W rm own nm bytes maxL ret) {a : Addr} {len : Nat} {f : Nat → Value} {j : Int32} {v : Value} (F : Av Z h a .long len f) (i : Nat) (hji : j.toNatClampNeg = i) (hj : ¬ j < 0) (hi : i < len) (hv : f i = v) (hd : decode bytes pc = .ok (.laload, 1)) (hq : pc + 1 = q)
    (hr : Go W n0 Q h k n q ls (v :: st)) : Go W n0 Q h k n pc ls (.int j :: .ref a :: st) := by
  subst hq hji hv
  obtain ⟨c, A, r1, r2, r3⟩ := F
  exact Go.stepX (fun T L i' j' tg X eT kk => X.laload C.x (j := j) (by rw [eT]; exact A.1) (State.isArrayOf_alike C.z.alike A.2.1) A.2.2 (fun z => z.elim hj (fun y => absurd (Nat.lt_of_lt_of_le hi (r1 ▸ y)) (Nat.lt_irrefl _))) (r3 _ hi) (g := mkF W.m pc ls (.int j :: .ref a :: st)) rfl rfl (hb C.b hd) _ kk) hr
theorem Go.caload (C : Cx Z W rm own nm bytes maxL ret) {a : Addr} {len : Nat} {f : Nat → Value} {j : Int32} {v : Value} (F : Av Z h a .char len f) (i : Nat) (hji : j.toNatClampNeg = i) (hj : ¬ j < 0) (hi : i < len) (hv : f i = v) (hd : decode bytes pc = .ok (.caload, 1)) (hq : pc + 1 = q)
    (hr : Go W n0 Q h k n q ls (v :: st)) : Go W n0 Q h k n pc ls (.int j :: .ref a :: st) := by
  subst hq hji hv
  obtain ⟨c, A, r1, r2, r3⟩ := F
  exact Go.stepX (fun T L i' j' tg X eT kk => X.caload C.x (j := j) (by rw [eT]; exact A.1) (State.isArrayOf_alike C.z.alike A.2.1) A.2.2 (fun z => z.elim hj (fun y => absurd (Nat.lt_of_lt_of_le hi (r1 ▸ y)) (Nat.lt_irrefl _))) (r3 _ hi) (g := mkF W.m pc ls (.int j :: .ref a :: st)) rfl rfl (hb C.b hd) _ kk) hr
theorem Go.baload (C : Cx Z W rm own nm bytes maxL ret) {a : Addr} {len : Nat} {f : Nat → Value} {j : Int32} {v : Value} (F : Av Z h a .byte len f) (i : Nat) (hji : j.toNatClampNeg = i) (hj : ¬ j < 0) (hi : i < len) (hv : f i = v) (hd : decode bytes pc = .ok (.baload, 1)) (hq : pc + 1 = q)
    (hr : Go W n0 Q h k n q ls (v :: st)) : Go W n0 Q h k n pc ls (.int j :: .ref a :: st) := by
  subst hq hji hv
  obtain ⟨c, A, r1, r2, r3⟩ := F
  exact Go.stepX (fun T L i' j' tg X eT kk => X.baloadBytes C.x (j := j) (by rw [eT]; exact A.1) (State.isArrayOf_alike C.z.alike A.2.1) A.2.2 (fun z => z.elim hj (fun y => absurd (Nat.lt_of_lt_of_le hi (r1 ▸ y)) (Nat.lt_irrefl _))) (r3 _ hi) (g := mkF W.m pc ls (.int j :: .ref a :: st)) rfl rfl (hb C.b hd) _ kk) hr
theorem Go.zaload (C : Cx Z W rm own nm bytes maxL ret) {a : Addr} {len : Nat} {f : Nat → Value} {j : Int32} {v : Value} (F : Av Z h a .boolean len f) (i : Nat) (hji : j.toNatClampNeg = i) (hj : ¬ j < 0) (hi : i < len) (hv : f i = v) (hd : decode bytes pc = .ok (.baload, 1)) (hq : pc + 1 = q)
    (hr : Go W n0 Q h k n q ls (v :: st)) : Go W n0 Q h k n pc ls (.int j :: .ref a :: st) := by
  subst hq hji hv
  obtain ⟨c, A, r1, r2, r3⟩ := F
  exact Go.stepX (fun T L i' j' tg X eT kk => X.baloadBooleans C.x (j := j) (by rw [eT]; exact A.1) (State.isArrayOf_alike C.z.alike A.2.1) A.2.2 (fun z => z.elim hj (fun y => absurd (Nat.lt_of_lt_of_le hi (r1 ▸ y)) (Nat.lt_irrefl _))) (r3 _ hi) (g := mkF W.m pc ls (.int j :: .ref a :: st)) rfl rfl (hb C.b hd) _ kk) hr
theorem Go.iastore (C : Cx Z W rm own nm bytes maxL ret) {a : Addr} {len : Nat} {f : Nat → Value} {j : Int32} {x : Int32} (F : Av Z h a .int len f) (i : Nat) (hji : j.toNatClampNeg = i) (hj : ¬ j < 0) (hi : i < len) (ha : n0 ≤ a) (hd : decode bytes pc = .ok (.iastore, 1)) (hq : pc + 1 = q)
    (hr : ∀ h', Wr h h' a i (.int x) → Go W n0 Q h' k n q ls st) : Go W n0 Q h k n pc ls (.int x :: .int j :: .ref a :: st) := by
  subst hq hji
  obtain ⟨c, A, r1, r2, r3⟩ := F
  intro T L i' j' X hk hn N eT
  obtain ⟨T', h', X', e', W', sp⟩ := Jvm.RoadKit.stI X C.x C.z eT A (j := j) (fun z => z.elim hj (fun y => absurd (Nat.lt_of_lt_of_le hi (r1 ▸ y)) (Nat.lt_irrefl _))) (g := mkF W.m pc ls (.int x :: .int j :: .ref a :: st)) rfl rfl (hb C.b hd)
  obtain ⟨s₂, o, hs, r⟩ := hr h' W' T' _ _ _ X' hk hn (Fr.snoc X' N ha) e'
  exact ⟨s₂, o, sp _ hs, r⟩
theorem Go.lastore (C : Cx Z W rm own nm bytes maxL ret) {a : Addr} {len : Nat} {f : Nat → Value} {j : Int32} {x : Int64} (F : Av Z h a .long len f) (i : Nat) (hji : j.toNatClampNeg = i) (hj : ¬ j < 0) (hi : i < len) (ha : n0 ≤ a) (hd : decode bytes pc = .ok (.lastore, 1)) (hq : pc + 1 = q)
    (hr : ∀ h', Wr h h' a i (.long x) → Go W n0 Q h' k n q ls st) : Go W n0 Q h k n pc ls (.long x :: .int j :: .ref a :: st) := by
  subst hq hji
  obtain ⟨c, A, r1, r2, r3⟩ := F
  intro T L i' j' X hk hn N eT
  obtain ⟨T', h', X', e', W', sp⟩ := Jvm.RoadKit.stJ X C.x C.z eT A (j := j) (fun z => z.elim hj (fun y => absurd (Nat.lt_of_lt_of_le hi (r1 ▸ y)) (Nat.lt_irrefl _))) (g := mkF W.m pc ls (.long x :: .int j :: .ref a :: st)) rfl rfl (hb C.b hd)
  obtain ⟨s₂, o, hs, r⟩ := hr h' W' T' _ _ _ X' hk hn (Fr.snoc X' N ha) e'
  exact ⟨s₂, o, sp _ hs, r⟩
theorem Go.castore (C : Cx Z W rm own nm bytes maxL ret) {a : Addr} {len : Nat} {f : Nat → Value} {j : Int32} {x : Int32} (F : Av Z h a .char len f) (i : Nat) (hji : j.toNatClampNeg = i) (hj : ¬ j < 0) (hi : i < len) (ha : n0 ≤ a) (hd : decode bytes pc = .ok (.castore, 1)) (hq : pc + 1 = q)
    (hr : ∀ h', Wr h h' a i (.int (nar .char x)) → Go W n0 Q h' k n q ls st) : Go W n0 Q h k n pc ls (.int x :: .int j :: .ref a :: st) := by
  subst hq hji
  obtain ⟨c, A, r1, r2, r3⟩ := F
  intro T L i' j' X hk hn N eT
  obtain ⟨T', h', X', e', W', sp⟩ := Jvm.RoadKit.stC X C.x C.z eT A (j := j) (fun z => z.elim hj (fun y => absurd (Nat.lt_of_lt_of_le hi (r1 ▸ y)) (Nat.lt_irrefl _))) (g := mkF W.m pc ls (.int x :: .int j :: .ref a :: st)) rfl rfl (hb C.b hd)
  obtain ⟨s₂, o, hs, r⟩ := hr h' W' T' _ _ _ X' hk hn (Fr.snoc X' N ha) e'
  exact ⟨s₂, o, sp _ hs, r⟩
theorem Go.bastore (C : Cx Z W rm own nm bytes maxL ret) {a : Addr} {len : Nat} {f : Nat → Value} {j : Int32} {x : Int32} (F : Av Z h a .byte len f) (i : Nat) (hji : j.toNatClampNeg = i) (hj : ¬ j < 0) (hi : i < len) (ha : n0 ≤ a) (hd : decode bytes pc = .ok (.bastore, 1)) (hq : pc + 1 = q)
    (hr : ∀ h', Wr h h' a i (.int (nar .byte x)) → Go W n0 Q h' k n q ls st) : Go W n0 Q h k n pc ls (.int x :: .int j :: .ref a :: st) := by
  subst hq hji
  obtain ⟨c, A, r1, r2, r3⟩ := F
  intro T L i' j' X hk hn N eT
  obtain ⟨T', h', X', e', W', sp⟩ := Jvm.RoadKit.stB X C.x C.z eT A (j := j) (fun z => z.elim hj (fun y => absurd (Nat.lt_of_lt_of_le hi (r1 ▸ y)) (Nat.lt_irrefl _))) (g := mkF W.m pc ls (.int x :: .int j :: .ref a :: st)) rfl rfl (hb C.b hd)
  obtain ⟨s₂, o, hs, r⟩ := hr h' W' T' _ _ _ X' hk hn (Fr.snoc X' N ha) e'
  exact ⟨s₂, o, sp _ hs, r⟩
theorem Go.zastore (C : Cx Z W rm own nm bytes maxL ret) {a : Addr} {len : Nat} {f : Nat → Value} {j : Int32} {x : Int32} (F : Av Z h a .boolean len f) (i : Nat) (hji : j.toNatClampNeg = i) (hj : ¬ j < 0) (hi : i < len) (ha : n0 ≤ a) (hd : decode bytes pc = .ok (.bastore, 1)) (hq : pc + 1 = q)
    (hr : ∀ h', Wr h h' a i (.int (nar .boolean x)) → Go W n0 Q h' k n q ls st) : Go W n0 Q h k n pc ls (.int x :: .int j :: .ref a :: st) := by
  subst hq hji
  obtain ⟨c, A, r1, r2, r3⟩ := F
  intro T L i' j' X hk hn N eT
  obtain ⟨T', h', X', e', W', sp⟩ := Jvm.RoadKit.stZ X C.x C.z eT A (j := j) (fun z => z.elim hj (fun y => absurd (Nat.lt_of_lt_of_le hi (r1 ▸ y)) (Nat.lt_irrefl _))) (g := mkF W.m pc ls (.int x :: .int j :: .ref a :: st)) rfl rfl (hb C.b hd)
  obtain ⟨s₂, o, hs, r⟩ := hr h' W' T' _ _ _ X' hk hn (Fr.snoc X' N ha) e'
  exact ⟨s₂, o, sp _ hs, r⟩
end Gos

theorem d2_0 : decode method_3_code 0 = .ok (.iload_n 1, 1) := by decide +kernel
theorem d2_1 : decode method_3_code 1 = .ok (.iload_n 2, 1) := by decide +kernel
theorem d2_2 : decode method_3_code 2 = .ok (.if_icmp .lt 10, 3) := by decide +kernel
theorem d2_12 : decode method_3_code 12 = .ok (.iload 5, 2) := by decide +kernel
theorem d2_14 : decode method_3_code 14 = .ok (.istore 6, 2) := by decide +kernel
theorem d2_16 : decode method_3_code 16 = .ok (.goto 44, 3) := by decide +kernel
theorem d2_60 : decode method_3_code 60 = .ok (.aload_n 0, 1) := by decide +kernel
theorem d2_61 : decode method_3_code 61 = .ok (.iload_n 1, 1) := by decide +kernel
theorem d2_62 : decode method_3_code 62 = .ok (.baload, 1) := by decide +kernel
theorem d2_63 : decode method_3_code 63 = .ok (.iload 6, 2) := by decide +kernel
theorem d2_65 : decode method_3_code 65 = .ok (.i2b, 1) := by decide +kernel
theorem d2_66 : decode method_3_code 66 = .ok (.if_icmp .ne 7, 3) := by decide +kernel
theorem d2_69 : decode method_3_code 69 = .ok (.iconst 1, 1) := by decide +kernel
theorem d2_70 : decode method_3_code 70 = .ok (.goto 4, 3) := by decide +kernel
theorem d2_74 : decode method_3_code 74 = .ok (.ireturn, 1) := by decide +kernel
theorem d2_73 : decode method_3_code 73 = .ok (.iconst 0, 1) := by decide +kernel
theorem d2_5 : decode method_3_code 5 = .ok (.iload_n 1, 1) := by decide +kernel
theorem d2_6 : decode method_3_code 6 = .ok (.iload_n 2, 1) := by decide +kernel
theorem d2_7 : decode method_3_code 7 = .ok (.iload_n 3, 1) := by decide +kernel
theorem d2_8 : decode method_3_code 8 = .ok (.iadd, 1) := by decide +kernel
theorem d2_9 : decode method_3_code 9 = .ok (.if_icmp .lt 10, 3) := by decide +kernel
theorem d2_19 : decode method_3_code 19 = .ok (.iload_n 1, 1) := by decide +kernel
theorem d2_20 : decode method_3_code 20 = .ok (.iload_n 2, 1) := by decide +kernel
theorem d2_21 : decode method_3_code 21 = .ok (.isub, 1) := by decide +kernel
theorem d2_22 : decode method_3_code 22 = .ok (.istore 7, 2) := by decide +kernel
theorem d2_24 : decode method_3_code 24 = .ok (.iload 4, 2) := by decide +kernel
theorem d2_26 : decode method_3_code 26 = .ok (.bipush 7, 2) := by decide +kernel
theorem d2_28 : decode method_3_code 28 = .ok (.iload 7, 2) := by decide +kernel
theorem d2_30 : decode method_3_code 30 = .ok (.imul, 1) := by decide +kernel
theorem d2_31 : decode method_3_code 31 = .ok (.iushr, 1) := by decide +kernel
theorem d2_32 : decode method_3_code 32 = .ok (.bipush 127, 2) := by decide +kernel
theorem d2_34 : decode method_3_code 34 = .ok (.iand, 1) := by decide +kernel
theorem d2_35 : decode method_3_code 35 = .ok (.istore 8, 2) := by decide +kernel
theorem d2_37 : decode method_3_code 37 = .ok (.iload 7, 2) := by decide +kernel
theorem d2_39 : decode method_3_code 39 = .ok (.iload_n 3, 1) := by decide +kernel
theorem d2_40 : decode method_3_code 40 = .ok (.iconst 1, 1) := by decide +kernel
theorem d2_41 : decode method_3_code 41 = .ok (.isub, 1) := by decide +kernel
theorem d2_42 : decode method_3_code 42 = .ok (.if_icmp .ge 14, 3) := by decide +kernel
theorem d2_45 : decode method_3_code 45 = .ok (.iload 8, 2) := by decide +kernel
theorem d2_47 : decode method_3_code 47 = .ok (.sipush 128, 3) := by decide +kernel
theorem d2_50 : decode method_3_code 50 = .ok (.ior, 1) := by decide +kernel
theorem d2_51 : decode method_3_code 51 = .ok (.istore 6, 2) := by decide +kernel
theorem d2_53 : decode method_3_code 53 = .ok (.goto 7, 3) := by decide +kernel
theorem d2_56 : decode method_3_code 56 = .ok (.iload 8, 2) := by decide +kernel
theorem d2_58 : decode method_3_code 58 = .ok (.istore 6, 2) := by decide +kernel
theorem ef_2 (m : MethodId) (x : Addr) (i : Int32) (at' : Int32) (sz : Int32) (vv : Int32) (fl : Int32) : entryFrame m #[(.ref x), (.int i), (.int at'), (.int sz), (.int vv), (.int fl)] 9 = mkF m 0 #[.val (.ref x), .val (.int i), .val (.int at'), .val (.int sz), .val (.int vv), .val (.int fl), .unset, .unset, .unset] [] := by first | (simp [entryFrame, mkF, argsToLocals, Value.category]; done) | rfl
theorem pn_com_example_revleaf_revleaf_NodePutVarintPinLaw : plainName "com/example/revleaf/revleaf/NodePutVarintPinLaw" = true := by first | (simp [plainName, overriddenIn]; done) | decide +kernel
theorem d1_0 : decode prog_26_method_63_code 0 = .ok (.iload_n 2, 1) := by decide +kernel
theorem d1_1 : decode prog_26_method_63_code 1 = .ok (.istore_n 3, 1) := by decide +kernel
theorem d1_2 : decode prog_26_method_63_code 2 = .ok (.iload_n 1, 1) := by decide +kernel
theorem d1_3 : decode prog_26_method_63_code 3 = .ok (.istore 4, 2) := by decide +kernel
theorem d1_5 : decode prog_26_method_63_code 5 = .ok (.iload_n 3, 1) := by decide +kernel
theorem d1_6 : decode prog_26_method_63_code 6 = .ok (.sipush 128, 3) := by decide +kernel
theorem d1_9 : decode prog_26_method_63_code 9 = .ok (.if_icmp .lt 24, 3) := by decide +kernel
theorem d1_33 : decode prog_26_method_63_code 33 = .ok (.aload_n 0, 1) := by decide +kernel
theorem d1_34 : decode prog_26_method_63_code 34 = .ok (.iload 4, 2) := by decide +kernel
theorem d1_36 : decode prog_26_method_63_code 36 = .ok (.iinc 4 1, 3) := by decide +kernel
theorem d1_39 : decode prog_26_method_63_code 39 = .ok (.iload_n 3, 1) := by decide +kernel
theorem d1_40 : decode prog_26_method_63_code 40 = .ok (.i2b, 1) := by decide +kernel
theorem d1_41 : decode prog_26_method_63_code 41 = .ok (.bastore, 1) := by decide +kernel
theorem d1_42 : decode prog_26_method_63_code 42 = .ok (.iload 4, 2) := by decide +kernel
theorem d1_44 : decode prog_26_method_63_code 44 = .ok (.ireturn, 1) := by decide +kernel
theorem ef_1_l1_0Int32 (m : MethodId) (x : Addr) (vv : Int32) : entryFrame m #[(.ref x), (.int (0 : Int32)), (.int vv)] 5 = mkF m 0 #[.val (.ref x), .val (.int (0 : Int32)), .val (.int vv), .unset, .unset] [] := by first | (simp [entryFrame, mkF, argsToLocals, Value.category]; done) | rfl
theorem pn_com_example_revleaf_revleaf_Node : plainName "com/example/revleaf/revleaf/Node" = true := by first | (simp [plainName, overriddenIn]; done) | decide +kernel
theorem d1_12 : decode prog_26_method_63_code 12 = .ok (.aload_n 0, 1) := by decide +kernel
theorem d1_13 : decode prog_26_method_63_code 13 = .ok (.iload 4, 2) := by decide +kernel
theorem d1_15 : decode prog_26_method_63_code 15 = .ok (.iinc 4 1, 3) := by decide +kernel
theorem d1_18 : decode prog_26_method_63_code 18 = .ok (.iload_n 3, 1) := by decide +kernel
theorem d1_19 : decode prog_26_method_63_code 19 = .ok (.sipush 128, 3) := by decide +kernel
theorem d1_22 : decode prog_26_method_63_code 22 = .ok (.ior, 1) := by decide +kernel
theorem d1_23 : decode prog_26_method_63_code 23 = .ok (.i2b, 1) := by decide +kernel
theorem d1_24 : decode prog_26_method_63_code 24 = .ok (.bastore, 1) := by decide +kernel
theorem d1_25 : decode prog_26_method_63_code 25 = .ok (.iload_n 3, 1) := by decide +kernel
theorem d1_26 : decode prog_26_method_63_code 26 = .ok (.bipush 7, 2) := by decide +kernel
theorem d1_28 : decode prog_26_method_63_code 28 = .ok (.iushr, 1) := by decide +kernel
theorem d1_29 : decode prog_26_method_63_code 29 = .ok (.istore_n 3, 1) := by decide +kernel
theorem d1_30 : decode prog_26_method_63_code 30 = .ok (.goto (-25), 3) := by decide +kernel
theorem ef_1_l1_1Int32 (m : MethodId) (x : Addr) (vv : Int32) : entryFrame m #[(.ref x), (.int (1 : Int32)), (.int vv)] 5 = mkF m 0 #[.val (.ref x), .val (.int (1 : Int32)), .val (.int vv), .unset, .unset] [] := by first | (simp [entryFrame, mkF, argsToLocals, Value.category]; done) | rfl
theorem ef_1_l1_2Int32 (m : MethodId) (x : Addr) (vv : Int32) : entryFrame m #[(.ref x), (.int (2 : Int32)), (.int vv)] 5 = mkF m 0 #[.val (.ref x), .val (.int (2 : Int32)), .val (.int vv), .unset, .unset] [] := by first | (simp [entryFrame, mkF, argsToLocals, Value.category]; done) | rfl
theorem ef_1_l1_3Int32 (m : MethodId) (x : Addr) (vv : Int32) : entryFrame m #[(.ref x), (.int (3 : Int32)), (.int vv)] 5 = mkF m 0 #[.val (.ref x), .val (.int (3 : Int32)), .val (.int vv), .unset, .unset] [] := by first | (simp [entryFrame, mkF, argsToLocals, Value.category]; done) | rfl
theorem ef_0 (m : MethodId) (p0 : Int32) (p1 : Int32) (p2 : Int32) (p3 : Int32) : entryFrame m #[(.int p0), (.int p1), (.int p2), (.int p3)] maxLocals = mkF m 0 #[.val (.int p0), .val (.int p1), .val (.int p2), .val (.int p3), .unset, .unset, .unset, .unset, .unset, .unset] [] := by first | (simp [entryFrame, mkF, argsToLocals, Value.category, maxLocals]; done) | rfl
theorem pd__40_91BII_41I : parseMethodDescriptor "([BII)I" = some ⟨[(.array .byte), .int, .int], some .int⟩ := by decide +kernel
theorem pd__40_91BIIIIB_41Z : parseMethodDescriptor "([BIIIIB)Z" = some ⟨[(.array .byte), .int, .int, .int, .int, .byte], some .boolean⟩ := by decide +kernel
theorem own_at4 (p1 v : Int32) (h : v = (p1 &&& (3 : Int32))) : v = 0 ∨ v = 1 ∨ v = 2 ∨ v = 3 := by
  have e := c_mask p1 3 2 (by decide) (by decide)
  rw [← h] at e
  have e0 : (0 : Int32).toInt = 0 := rfl
  have e1 : (1 : Int32).toInt = 1 := rfl
  have e2 : (2 : Int32).toInt = 2 := rfl
  have e3 : (3 : Int32).toInt = 3 := rfl
  simp only [← Int32.toInt_inj]
  omega
theorem own_nn (u v : Int32) (h : v = (u &&& (2147483647 : Int32))) : 0 ≤ v.toInt := by
  have e := c_mask u 2147483647 31 (by decide) (by decide)
  rw [← h] at e
  omega
def own_s (v : Int32) : Int32 := ((v.toUInt32 >>> ((7 : Int32) &&& 31).toUInt32).toInt32)
theorem own_s_v (v : Int32) (h : 0 ≤ v.toInt) : (own_s v).toInt = v.toInt / 128 := by
  have a := c_iushr v 7 7 (by decide) (by decide)
  have r := rng32 v
  unfold own_s
  rw [a]
  omega
theorem own_sizes (v : Int32) (h : 0 ≤ v.toInt) : (v < 128 ∧ v < 128) ∨ (¬ v < 128 ∧ own_s v < 128 ∧ ¬ v < 128 ∧ v < 16384) ∨ (¬ v < 128 ∧ ¬ own_s v < 128 ∧ own_s (own_s v) < 128 ∧ ¬ v < 128 ∧ ¬ v < 16384 ∧ v < 2097152) ∨ (¬ v < 128 ∧ ¬ own_s v < 128 ∧ ¬ own_s (own_s v) < 128 ∧ own_s (own_s (own_s v)) < 128 ∧ ¬ v < 128 ∧ ¬ v < 16384 ∧ ¬ v < 2097152 ∧ v < 268435456) ∨ (¬ v < 128 ∧ ¬ own_s v < 128 ∧ ¬ own_s (own_s v) < 128 ∧ ¬ own_s (own_s (own_s v)) < 128 ∧ own_s (own_s (own_s (own_s v))) < 128 ∧ ¬ v < 128 ∧ ¬ v < 16384 ∧ ¬ v < 2097152 ∧ ¬ v < 268435456) := by
  have a1 := own_s_v v h
  have a2 := own_s_v (own_s v) (by omega)
  have a3 := own_s_v (own_s (own_s v)) (by omega)
  have a4 := own_s_v (own_s (own_s (own_s v))) (by omega)
  have r := rng32 v
  have k1 : (128 : Int32).toInt = 128 := rfl
  have k2 : (16384 : Int32).toInt = 16384 := rfl
  have k3 : (2097152 : Int32).toInt = 2097152 := rfl
  have k4 : (268435456 : Int32).toInt = 268435456 := rfl
  simp only [Int32.lt_iff_toInt_lt]
  omega
theorem own_or128 (w : Int32) : (w ||| (128 : Int32)).toInt8 = ((w &&& (127 : Int32)) ||| (128 : Int32)).toInt8 := by
  apply Int8.toBitVec_inj.mp
  simp only [Int32.toBitVec_toInt8, Int32.toBitVec_or, Int32.toBitVec_and, BitVec.signExtend_or, BitVec.signExtend_and]
  have e1 : BitVec.signExtend 8 (128 : Int32).toBitVec = 128#8 := by decide
  have e2 : BitVec.signExtend 8 (127 : Int32).toBitVec = 127#8 := by decide
  rw [e1, e2]
  generalize BitVec.signExtend 8 w.toBitVec = b
  revert b
  decide
theorem own_pA (w u : Int32) (e : w = u) : nar .byte (w ||| (128 : Int32)).toInt8.toInt32 = ((u &&& (127 : Int32)) ||| (128 : Int32)).toInt8.toInt32 := by
  rw [nar_b, e, own_or128]
theorem own_pB (w u : Int32) (e : w = u) (h0 : 0 ≤ w.toInt) (h : w < 128) : nar .byte w.toInt8.toInt32 = (u &&& (127 : Int32)).toInt8.toInt32 := by
  subst e
  rw [nar_b]
  have a := c_mask w 127 7 (by decide) (by decide)
  have k1 : (128 : Int32).toInt = 128 := rfl
  rw [Int32.lt_iff_toInt_lt] at h
  have e : (w &&& (127 : Int32)) = w := Int32.toInt_inj.mp (by omega)
  rw [e]
theorem own_k0 (v : Int32) : v = ((v.toUInt32 >>> ((0 : Int32) &&& 31).toUInt32).toInt32) := by
  apply Int32.toBitVec_inj.mp
  simp
theorem own_k1 (v : Int32) : own_s v = ((v.toUInt32 >>> ((7 : Int32) &&& 31).toUInt32).toInt32) := rfl
theorem own_k2 (v : Int32) (h : 0 ≤ v.toInt) : own_s (own_s v) = ((v.toUInt32 >>> ((14 : Int32) &&& 31).toUInt32).toInt32) := by
  have a1 := own_s_v v h
  have a2 := own_s_v (own_s v) (by omega)
  have b := c_iushr v 14 14 (by decide) (by decide)
  have r := rng32 v
  apply Int32.toInt_inj.mp
  rw [b]
  omega
theorem own_k3 (v : Int32) (h : 0 ≤ v.toInt) : own_s (own_s (own_s v)) = ((v.toUInt32 >>> ((21 : Int32) &&& 31).toUInt32).toInt32) := by
  have a1 := own_s_v v h
  have a2 := own_s_v (own_s v) (by omega)
  have a3 := own_s_v (own_s (own_s v)) (by omega)
  have b := c_iushr v 21 21 (by decide) (by decide)
  have r := rng32 v
  apply Int32.toInt_inj.mp
  rw [b]
  omega
theorem own_k4 (v : Int32) (h : 0 ≤ v.toInt) : own_s (own_s (own_s (own_s v))) = ((v.toUInt32 >>> ((28 : Int32) &&& 31).toUInt32).toInt32) := by
  have a1 := own_s_v v h
  have a2 := own_s_v (own_s v) (by omega)
  have a3 := own_s_v (own_s (own_s v)) (by omega)
  have a4 := own_s_v (own_s (own_s (own_s v))) (by omega)
  have b := c_iushr v 28 28 (by decide) (by decide)
  have r := rng32 v
  apply Int32.toInt_inj.mp
  rw [b]
  omega
theorem own_n0 (v : Int32) (h : 0 ≤ v.toInt) : 0 ≤ v.toInt := h
theorem own_n1 (v : Int32) (h : 0 ≤ v.toInt) : 0 ≤ (own_s v).toInt := by rw [own_s_v v h]; omega
theorem own_n2 (v : Int32) (h : 0 ≤ v.toInt) : 0 ≤ (own_s (own_s v)).toInt := own_n1 _ (own_n1 v h)
theorem own_n3 (v : Int32) (h : 0 ≤ v.toInt) : 0 ≤ (own_s (own_s (own_s v))).toInt := own_n1 _ (own_n2 v h)
theorem own_n4 (v : Int32) (h : 0 ≤ v.toInt) : 0 ≤ (own_s (own_s (own_s (own_s v)))).toInt := own_n1 _ (own_n3 v h)
def f_ok (e i at' sz vv fl : Int32) : Int32 := (if i < at' then (if e = fl.toInt8.toInt32 then (1 : Int32) else (0 : Int32)) else (if i < (at' + sz) then (if (i - at') < (sz - (1 : Int32)) then (if e = ((((vv.toUInt32 >>> (((7 : Int32) * (i - at')) &&& 31).toUInt32).toInt32) &&& (127 : Int32)) ||| (128 : Int32)).toInt8.toInt32 then (1 : Int32) else (0 : Int32)) else (if e = (((vv.toUInt32 >>> (((7 : Int32) * (i - at')) &&& 31).toUInt32).toInt32) &&& (127 : Int32)).toInt8.toInt32 then (1 : Int32) else (0 : Int32))) else (if e = fl.toInt8.toInt32 then (1 : Int32) else (0 : Int32))))
set_option maxRecDepth 65536 in
theorem c_f_ok (l : Launch) (Z : State) (a0 : Array Value) (hw : ∀ d ∈ tables_1, d.before a0 Z = true) (x : Addr) (i : Int32) (at' : Int32) (sz : Int32) (vv : Int32) (fl : Int32) (h0 : Heap) (n0 : Nat) (g : Nat → Int32) (Z0 : n0 ≤ h0.size) (A0 : Av Z h0 x .byte 8 (iF g)) (hi : ¬ i < 0 ∧ i.toNatClampNeg < 8) : Met1 l Z (⟨"com/example/revleaf/revleaf/NodePutVarintPinLaw", "ok", "([BIIIIB)Z"⟩ : MethodName) method_3_code 9 (some .boolean) [] ({ frames := 0, cells := 0, slots := 0, locals := 0 } : Room) #[(.ref x), (.int i), (.int at'), (.int sz), (.int vv), (.int fl)] h0 n0 (Ret (.int (f_ok (g i.toNatClampNeg) i at' sz vv fl)) h0) := by
  refine met_of_go (plainFor_of_name pn_com_example_revleaf_revleaf_NodePutVarintPinLaw) (fun m => ef_2 m x i at' sz vv fl) ?_
  intro W hl C
  subst hl
  refine Go.iloadN C d2_0 (q := 1) rfl rfl ?_
  refine Go.iloadN C d2_1 (q := 2) rfl rfl ?_
  refine Go.icmp C d2_2 (n_lt _ _) (qt := 12) (q := 5) (by decide) (by decide) rfl (fun b1 => ?_) (fun b1 => ?_)
  ·
    refine Go.iload C d2_12 (q := 14) rfl rfl ?_
    refine Go.istoreR C d2_14 (q := 16) rfl (l' := #[.val (.ref x), .val (.int i), .val (.int at'), .val (.int sz), .val (.int vv), .val (.int fl), .val (.int fl), .unset, .unset]) rfl ?_
    refine Go.goto C d2_16 (q := 60) (by decide) (by decide) ?_
    refine Go.aloadN C d2_60 (q := 61) rfl rfl rfl ?_
    refine Go.iloadN C d2_61 (q := 62) rfl rfl ?_
    refine Go.baload C A0 i.toNatClampNeg (v := (.int (g i.toNatClampNeg))) rfl hi.1 hi.2 rfl d2_62 (q := 63) rfl ?_
    refine Go.iload C d2_63 (q := 65) rfl rfl ?_
    refine Go.i2b C d2_65 (q := 66) rfl ?_
    refine Go.icmp C d2_66 (n_ne _ _) (qt := 73) (q := 69) (by decide) (by decide) rfl (fun b2 => ?_) (fun b2 => ?_)
    ·
      refine Go.iconst C (0 : Int32) d2_73 (q := 74) rfl rfl ?_
      refine Go.retZ (t := .boolean) (by simp) C d2_74 (by decide) (by decide) ⟨?_, rfl⟩
      refine congrArg (fun z => some (Value.int z)) ?_
      show (0 : Int32) = f_ok (g i.toNatClampNeg) i at' sz vv fl
      unfold f_ok
      rw [if_pos b1, if_neg b2]
    ·
      have b2 := Classical.not_not.mp b2
      refine Go.iconst C (1 : Int32) d2_69 (q := 70) rfl rfl ?_
      refine Go.goto C d2_70 (q := 74) (by decide) (by decide) ?_
      refine Go.retZ (t := .boolean) (by simp) C d2_74 (by decide) (by decide) ⟨?_, rfl⟩
      refine congrArg (fun z => some (Value.int z)) ?_
      show (1 : Int32) = f_ok (g i.toNatClampNeg) i at' sz vv fl
      unfold f_ok
      rw [if_pos b1, if_pos b2]
  ·
    refine Go.iloadN C d2_5 (q := 6) rfl rfl ?_
    refine Go.iloadN C d2_6 (q := 7) rfl rfl ?_
    refine Go.iloadN C d2_7 (q := 8) rfl rfl ?_
    refine Go.iadd C d2_8 (q := 9) rfl ?_
    refine Go.icmp C d2_9 (n_lt _ _) (qt := 19) (q := 12) (by decide) (by decide) rfl (fun b3 => ?_) (fun b3 => ?_)
    ·
      refine Go.iloadN C d2_19 (q := 20) rfl rfl ?_
      refine Go.iloadN C d2_20 (q := 21) rfl rfl ?_
      refine Go.isub C d2_21 (q := 22) rfl ?_
      refine Go.istoreR C d2_22 (q := 24) rfl (l' := #[.val (.ref x), .val (.int i), .val (.int at'), .val (.int sz), .val (.int vv), .val (.int fl), .unset, .val (.int (i - at')), .unset]) rfl ?_
      refine Go.iload C d2_24 (q := 26) rfl rfl ?_
      refine Go.bipush C (7 : Int32) d2_26 (q := 28) rfl rfl ?_
      refine Go.iload C d2_28 (q := 30) rfl rfl ?_
      refine Go.imul C d2_30 (q := 31) rfl ?_
      refine Go.iushr C d2_31 (q := 32) rfl ?_
      refine Go.bipush C (127 : Int32) d2_32 (q := 34) rfl rfl ?_
      refine Go.iand C d2_34 (q := 35) rfl ?_
      refine Go.istoreR C d2_35 (q := 37) rfl (l' := #[.val (.ref x), .val (.int i), .val (.int at'), .val (.int sz), .val (.int vv), .val (.int fl), .unset, .val (.int (i - at')), .val (.int (((vv.toUInt32 >>> (((7 : Int32) * (i - at')) &&& 31).toUInt32).toInt32) &&& (127 : Int32)))]) rfl ?_
      refine Go.iload C d2_37 (q := 39) rfl rfl ?_
      refine Go.iloadN C d2_39 (q := 40) rfl rfl ?_
      refine Go.iconst C (1 : Int32) d2_40 (q := 41) rfl rfl ?_
      refine Go.isub C d2_41 (q := 42) rfl ?_
      refine Go.icmp C d2_42 (n_ge _ _) (qt := 56) (q := 45) (by decide) (by decide) rfl (fun b4 => ?_) (fun b4 => ?_)
      ·
        refine Go.iload C d2_56 (q := 58) rfl rfl ?_
        refine Go.istoreR C d2_58 (q := 60) rfl (l' := #[.val (.ref x), .val (.int i), .val (.int at'), .val (.int sz), .val (.int vv), .val (.int fl), .val (.int (((vv.toUInt32 >>> (((7 : Int32) * (i - at')) &&& 31).toUInt32).toInt32) &&& (127 : Int32))), .val (.int (i - at')), .val (.int (((vv.toUInt32 >>> (((7 : Int32) * (i - at')) &&& 31).toUInt32).toInt32) &&& (127 : Int32)))]) rfl ?_
        refine Go.aloadN C d2_60 (q := 61) rfl rfl rfl ?_
        refine Go.iloadN C d2_61 (q := 62) rfl rfl ?_
        refine Go.baload C A0 i.toNatClampNeg (v := (.int (g i.toNatClampNeg))) rfl hi.1 hi.2 rfl d2_62 (q := 63) rfl ?_
        refine Go.iload C d2_63 (q := 65) rfl rfl ?_
        refine Go.i2b C d2_65 (q := 66) rfl ?_
        refine Go.icmp C d2_66 (n_ne _ _) (qt := 73) (q := 69) (by decide) (by decide) rfl (fun b5 => ?_) (fun b5 => ?_)
        ·
          refine Go.iconst C (0 : Int32) d2_73 (q := 74) rfl rfl ?_
          refine Go.retZ (t := .boolean) (by simp) C d2_74 (by decide) (by decide) ⟨?_, rfl⟩
          refine congrArg (fun z => some (Value.int z)) ?_
          show (0 : Int32) = f_ok (g i.toNatClampNeg) i at' sz vv fl
          unfold f_ok
          rw [if_neg b1, if_pos b3, if_neg b4, if_neg b5]
        ·
          have b5 := Classical.not_not.mp b5
          refine Go.iconst C (1 : Int32) d2_69 (q := 70) rfl rfl ?_
          refine Go.goto C d2_70 (q := 74) (by decide) (by decide) ?_
          refine Go.retZ (t := .boolean) (by simp) C d2_74 (by decide) (by decide) ⟨?_, rfl⟩
          refine congrArg (fun z => some (Value.int z)) ?_
          show (1 : Int32) = f_ok (g i.toNatClampNeg) i at' sz vv fl
          unfold f_ok
          rw [if_neg b1, if_pos b3, if_neg b4, if_pos b5]
      ·
        have b4 := Classical.not_not.mp b4
        refine Go.iload C d2_45 (q := 47) rfl rfl ?_
        refine Go.sipush C (128 : Int32) d2_47 (q := 50) rfl rfl ?_
        refine Go.ior C d2_50 (q := 51) rfl ?_
        refine Go.istoreR C d2_51 (q := 53) rfl (l' := #[.val (.ref x), .val (.int i), .val (.int at'), .val (.int sz), .val (.int vv), .val (.int fl), .val (.int ((((vv.toUInt32 >>> (((7 : Int32) * (i - at')) &&& 31).toUInt32).toInt32) &&& (127 : Int32)) ||| (128 : Int32))), .val (.int (i - at')), .val (.int (((vv.toUInt32 >>> (((7 : Int32) * (i - at')) &&& 31).toUInt32).toInt32) &&& (127 : Int32)))]) rfl ?_
        refine Go.goto C d2_53 (q := 60) (by decide) (by decide) ?_
        refine Go.aloadN C d2_60 (q := 61) rfl rfl rfl ?_
        refine Go.iloadN C d2_61 (q := 62) rfl rfl ?_
        refine Go.baload C A0 i.toNatClampNeg (v := (.int (g i.toNatClampNeg))) rfl hi.1 hi.2 rfl d2_62 (q := 63) rfl ?_
        refine Go.iload C d2_63 (q := 65) rfl rfl ?_
        refine Go.i2b C d2_65 (q := 66) rfl ?_
        refine Go.icmp C d2_66 (n_ne _ _) (qt := 73) (q := 69) (by decide) (by decide) rfl (fun b6 => ?_) (fun b6 => ?_)
        ·
          refine Go.iconst C (0 : Int32) d2_73 (q := 74) rfl rfl ?_
          refine Go.retZ (t := .boolean) (by simp) C d2_74 (by decide) (by decide) ⟨?_, rfl⟩
          refine congrArg (fun z => some (Value.int z)) ?_
          show (0 : Int32) = f_ok (g i.toNatClampNeg) i at' sz vv fl
          unfold f_ok
          rw [if_neg b1, if_pos b3, if_pos b4, if_neg b6]
        ·
          have b6 := Classical.not_not.mp b6
          refine Go.iconst C (1 : Int32) d2_69 (q := 70) rfl rfl ?_
          refine Go.goto C d2_70 (q := 74) (by decide) (by decide) ?_
          refine Go.retZ (t := .boolean) (by simp) C d2_74 (by decide) (by decide) ⟨?_, rfl⟩
          refine congrArg (fun z => some (Value.int z)) ?_
          show (1 : Int32) = f_ok (g i.toNatClampNeg) i at' sz vv fl
          unfold f_ok
          rw [if_neg b1, if_pos b3, if_pos b4, if_pos b6]
    ·
      refine Go.iload C d2_12 (q := 14) rfl rfl ?_
      refine Go.istoreR C d2_14 (q := 16) rfl (l' := #[.val (.ref x), .val (.int i), .val (.int at'), .val (.int sz), .val (.int vv), .val (.int fl), .val (.int fl), .unset, .unset]) rfl ?_
      refine Go.goto C d2_16 (q := 60) (by decide) (by decide) ?_
      refine Go.aloadN C d2_60 (q := 61) rfl rfl rfl ?_
      refine Go.iloadN C d2_61 (q := 62) rfl rfl ?_
      refine Go.baload C A0 i.toNatClampNeg (v := (.int (g i.toNatClampNeg))) rfl hi.1 hi.2 rfl d2_62 (q := 63) rfl ?_
      refine Go.iload C d2_63 (q := 65) rfl rfl ?_
      refine Go.i2b C d2_65 (q := 66) rfl ?_
      refine Go.icmp C d2_66 (n_ne _ _) (qt := 73) (q := 69) (by decide) (by decide) rfl (fun b7 => ?_) (fun b7 => ?_)
      ·
        refine Go.iconst C (0 : Int32) d2_73 (q := 74) rfl rfl ?_
        refine Go.retZ (t := .boolean) (by simp) C d2_74 (by decide) (by decide) ⟨?_, rfl⟩
        refine congrArg (fun z => some (Value.int z)) ?_
        show (0 : Int32) = f_ok (g i.toNatClampNeg) i at' sz vv fl
        unfold f_ok
        rw [if_neg b1, if_neg b3, if_neg b7]
      ·
        have b7 := Classical.not_not.mp b7
        refine Go.iconst C (1 : Int32) d2_69 (q := 70) rfl rfl ?_
        refine Go.goto C d2_70 (q := 74) (by decide) (by decide) ?_
        refine Go.retZ (t := .boolean) (by simp) C d2_74 (by decide) (by decide) ⟨?_, rfl⟩
        refine congrArg (fun z => some (Value.int z)) ?_
        show (1 : Int32) = f_ok (g i.toNatClampNeg) i at' sz vv fl
        unfold f_ok
        rw [if_neg b1, if_neg b3, if_pos b7]
set_option maxRecDepth 65536 in
theorem c_put0_1 (l : Launch) (Z : State) (a0 : Array Value) (hw : ∀ d ∈ tables_1, d.before a0 Z = true) (x : Addr) (vv : Int32) (h0 : Heap) (n0 : Nat) (g : Nat → Int32) (Z0 : n0 ≤ h0.size) (A0 : Av Z h0 x .byte 8 (iF g)) (g0 : n0 ≤ x) (c0 : vv < (128 : Int32)) : Met1 l Z (⟨"com/example/revleaf/revleaf/Node", "putVarint", "([BII)I"⟩ : MethodName) prog_26_method_63_code 5 (some .int) [] ({ frames := 0, cells := 0, slots := 0, locals := 0 } : Room) #[(.ref x), (.int (0 : Int32)), (.int vv)] h0 n0 (fun v h => v = some (.int (1 : Int32)) ∧ Keep h0 h [x] ∧ Av Z h x .byte 8 (iF (upd g 0 (nar .byte vv.toInt8.toInt32)))) := by
  refine met_of_go (plainFor_of_name pn_com_example_revleaf_revleaf_Node) (fun m => ef_1_l1_0Int32 m x vv) ?_
  intro W hl C
  subst hl
  refine Go.iloadN C d1_0 (q := 1) rfl rfl ?_
  refine Go.istoreNR C d1_1 (q := 2) rfl (l' := #[.val (.ref x), .val (.int (0 : Int32)), .val (.int vv), .val (.int vv), .unset]) rfl ?_
  refine Go.iloadN C d1_2 (q := 3) rfl rfl ?_
  refine Go.istoreR C d1_3 (q := 5) rfl (l' := #[.val (.ref x), .val (.int (0 : Int32)), .val (.int vv), .val (.int vv), .val (.int (0 : Int32))]) rfl ?_
  refine Go.iloadN C d1_5 (q := 6) rfl rfl ?_
  refine Go.sipush C (128 : Int32) d1_6 (q := 9) rfl rfl ?_
  refine Go.icmp C d1_9 (n_lt _ _) (qt := 33) (q := 12) (by decide) (by decide) rfl (fun _ => ?_) (fun b1 => absurd c0 b1)
  refine Go.aloadN C d1_33 (q := 34) rfl rfl rfl ?_
  refine Go.iload C d1_34 (q := 36) rfl rfl ?_
  refine Go.iincR C d1_36 (q := 39) rfl rfl (l' := #[.val (.ref x), .val (.int (0 : Int32)), .val (.int vv), .val (.int vv), .val (.int (1 : Int32))]) rfl ?_
  refine Go.iloadN C d1_39 (q := 40) rfl rfl ?_
  refine Go.i2b C d1_40 (q := 41) rfl ?_
  refine Go.bastore C A0 0 (by decide) (by decide) (by decide) g0 d1_41 (q := 42) rfl ?_
  intro h2 W3
  have F4 := A0.sameI W3
  refine Go.iload C d1_42 (q := 44) rfl rfl ?_
  exact Go.retI C d1_44 (by decide) (by decide) ⟨rfl, ((Keep.refl h0 [x]).wr W3 (Or.inl (List.mem_of_getElem? (i := 0) rfl))), F4⟩
set_option maxRecDepth 65536 in
theorem c_put0_2 (l : Launch) (Z : State) (a0 : Array Value) (hw : ∀ d ∈ tables_1, d.before a0 Z = true) (x : Addr) (vv : Int32) (h0 : Heap) (n0 : Nat) (g : Nat → Int32) (Z0 : n0 ≤ h0.size) (A0 : Av Z h0 x .byte 8 (iF g)) (g0 : n0 ≤ x) (c0 : ¬ vv < (128 : Int32)) (c1 : ((vv.toUInt32 >>> ((7 : Int32) &&& 31).toUInt32).toInt32) < (128 : Int32)) : Met1 l Z (⟨"com/example/revleaf/revleaf/Node", "putVarint", "([BII)I"⟩ : MethodName) prog_26_method_63_code 5 (some .int) [] ({ frames := 0, cells := 0, slots := 0, locals := 0 } : Room) #[(.ref x), (.int (0 : Int32)), (.int vv)] h0 n0 (fun v h => v = some (.int (2 : Int32)) ∧ Keep h0 h [x] ∧ Av Z h x .byte 8 (iF (upd (upd g 0 (nar .byte (vv ||| (128 : Int32)).toInt8.toInt32)) 1 (nar .byte ((vv.toUInt32 >>> ((7 : Int32) &&& 31).toUInt32).toInt32).toInt8.toInt32)))) := by
  refine met_of_go (plainFor_of_name pn_com_example_revleaf_revleaf_Node) (fun m => ef_1_l1_0Int32 m x vv) ?_
  intro W hl C
  subst hl
  refine Go.iloadN C d1_0 (q := 1) rfl rfl ?_
  refine Go.istoreNR C d1_1 (q := 2) rfl (l' := #[.val (.ref x), .val (.int (0 : Int32)), .val (.int vv), .val (.int vv), .unset]) rfl ?_
  refine Go.iloadN C d1_2 (q := 3) rfl rfl ?_
  refine Go.istoreR C d1_3 (q := 5) rfl (l' := #[.val (.ref x), .val (.int (0 : Int32)), .val (.int vv), .val (.int vv), .val (.int (0 : Int32))]) rfl ?_
  refine Go.iloadN C d1_5 (q := 6) rfl rfl ?_
  refine Go.sipush C (128 : Int32) d1_6 (q := 9) rfl rfl ?_
  refine Go.icmp C d1_9 (n_lt _ _) (qt := 33) (q := 12) (by decide) (by decide) rfl (fun b1 => absurd b1 c0) (fun _ => ?_)
  refine Go.aloadN C d1_12 (q := 13) rfl rfl rfl ?_
  refine Go.iload C d1_13 (q := 15) rfl rfl ?_
  refine Go.iincR C d1_15 (q := 18) rfl rfl (l' := #[.val (.ref x), .val (.int (0 : Int32)), .val (.int vv), .val (.int vv), .val (.int (1 : Int32))]) rfl ?_
  refine Go.iloadN C d1_18 (q := 19) rfl rfl ?_
  refine Go.sipush C (128 : Int32) d1_19 (q := 22) rfl rfl ?_
  refine Go.ior C d1_22 (q := 23) rfl ?_
  refine Go.i2b C d1_23 (q := 24) rfl ?_
  refine Go.bastore C A0 0 (by decide) (by decide) (by decide) g0 d1_24 (q := 25) rfl ?_
  intro h2 W3
  have F4 := A0.sameI W3
  refine Go.iloadN C d1_25 (q := 26) rfl rfl ?_
  refine Go.bipush C (7 : Int32) d1_26 (q := 28) rfl rfl ?_
  refine Go.iushr C d1_28 (q := 29) rfl ?_
  refine Go.istoreNR C d1_29 (q := 30) rfl (l' := #[.val (.ref x), .val (.int (0 : Int32)), .val (.int vv), .val (.int ((vv.toUInt32 >>> ((7 : Int32) &&& 31).toUInt32).toInt32)), .val (.int (1 : Int32))]) rfl ?_
  refine Go.goto C d1_30 (q := 5) (by decide) (by decide) ?_
  refine Go.iloadN C d1_5 (q := 6) rfl rfl ?_
  refine Go.sipush C (128 : Int32) d1_6 (q := 9) rfl rfl ?_
  refine Go.icmp C d1_9 (n_lt _ _) (qt := 33) (q := 12) (by decide) (by decide) rfl (fun _ => ?_) (fun b5 => absurd c1 b5)
  refine Go.aloadN C d1_33 (q := 34) rfl rfl rfl ?_
  refine Go.iload C d1_34 (q := 36) rfl rfl ?_
  refine Go.iincR C d1_36 (q := 39) rfl rfl (l' := #[.val (.ref x), .val (.int (0 : Int32)), .val (.int vv), .val (.int ((vv.toUInt32 >>> ((7 : Int32) &&& 31).toUInt32).toInt32)), .val (.int (2 : Int32))]) rfl ?_
  refine Go.iloadN C d1_39 (q := 40) rfl rfl ?_
  refine Go.i2b C d1_40 (q := 41) rfl ?_
  refine Go.bastore C F4 1 (by decide) (by decide) (by decide) g0 d1_41 (q := 42) rfl ?_
  intro h6 W7
  have F8 := F4.sameI W7
  refine Go.iload C d1_42 (q := 44) rfl rfl ?_
  exact Go.retI C d1_44 (by decide) (by decide) ⟨rfl, (((Keep.refl h0 [x]).wr W3 (Or.inl (List.mem_of_getElem? (i := 0) rfl))).wr W7 (Or.inl (List.mem_of_getElem? (i := 0) rfl))), F8⟩
set_option maxRecDepth 65536 in
theorem c_put0_3 (l : Launch) (Z : State) (a0 : Array Value) (hw : ∀ d ∈ tables_1, d.before a0 Z = true) (x : Addr) (vv : Int32) (h0 : Heap) (n0 : Nat) (g : Nat → Int32) (Z0 : n0 ≤ h0.size) (A0 : Av Z h0 x .byte 8 (iF g)) (g0 : n0 ≤ x) (c0 : ¬ vv < (128 : Int32)) (c1 : ¬ ((vv.toUInt32 >>> ((7 : Int32) &&& 31).toUInt32).toInt32) < (128 : Int32)) (c2 : ((((vv.toUInt32 >>> ((7 : Int32) &&& 31).toUInt32).toInt32).toUInt32 >>> ((7 : Int32) &&& 31).toUInt32).toInt32) < (128 : Int32)) : Met1 l Z (⟨"com/example/revleaf/revleaf/Node", "putVarint", "([BII)I"⟩ : MethodName) prog_26_method_63_code 5 (some .int) [] ({ frames := 0, cells := 0, slots := 0, locals := 0 } : Room) #[(.ref x), (.int (0 : Int32)), (.int vv)] h0 n0 (fun v h => v = some (.int (3 : Int32)) ∧ Keep h0 h [x] ∧ Av Z h x .byte 8 (iF (upd (upd (upd g 0 (nar .byte (vv ||| (128 : Int32)).toInt8.toInt32)) 1 (nar .byte (((vv.toUInt32 >>> ((7 : Int32) &&& 31).toUInt32).toInt32) ||| (128 : Int32)).toInt8.toInt32)) 2 (nar .byte ((((vv.toUInt32 >>> ((7 : Int32) &&& 31).toUInt32).toInt32).toUInt32 >>> ((7 : Int32) &&& 31).toUInt32).toInt32).toInt8.toInt32)))) := by
  refine met_of_go (plainFor_of_name pn_com_example_revleaf_revleaf_Node) (fun m => ef_1_l1_0Int32 m x vv) ?_
  intro W hl C
  subst hl
  refine Go.iloadN C d1_0 (q := 1) rfl rfl ?_
  refine Go.istoreNR C d1_1 (q := 2) rfl (l' := #[.val (.ref x), .val (.int (0 : Int32)), .val (.int vv), .val (.int vv), .unset]) rfl ?_
  refine Go.iloadN C d1_2 (q := 3) rfl rfl ?_
  refine Go.istoreR C d1_3 (q := 5) rfl (l' := #[.val (.ref x), .val (.int (0 : Int32)), .val (.int vv), .val (.int vv), .val (.int (0 : Int32))]) rfl ?_
  refine Go.iloadN C d1_5 (q := 6) rfl rfl ?_
  refine Go.sipush C (128 : Int32) d1_6 (q := 9) rfl rfl ?_
  refine Go.icmp C d1_9 (n_lt _ _) (qt := 33) (q := 12) (by decide) (by decide) rfl (fun b1 => absurd b1 c0) (fun _ => ?_)
  refine Go.aloadN C d1_12 (q := 13) rfl rfl rfl ?_
  refine Go.iload C d1_13 (q := 15) rfl rfl ?_
  refine Go.iincR C d1_15 (q := 18) rfl rfl (l' := #[.val (.ref x), .val (.int (0 : Int32)), .val (.int vv), .val (.int vv), .val (.int (1 : Int32))]) rfl ?_
  refine Go.iloadN C d1_18 (q := 19) rfl rfl ?_
  refine Go.sipush C (128 : Int32) d1_19 (q := 22) rfl rfl ?_
  refine Go.ior C d1_22 (q := 23) rfl ?_
  refine Go.i2b C d1_23 (q := 24) rfl ?_
  refine Go.bastore C A0 0 (by decide) (by decide) (by decide) g0 d1_24 (q := 25) rfl ?_
  intro h2 W3
  have F4 := A0.sameI W3
  refine Go.iloadN C d1_25 (q := 26) rfl rfl ?_
  refine Go.bipush C (7 : Int32) d1_26 (q := 28) rfl rfl ?_
  refine Go.iushr C d1_28 (q := 29) rfl ?_
  refine Go.istoreNR C d1_29 (q := 30) rfl (l' := #[.val (.ref x), .val (.int (0 : Int32)), .val (.int vv), .val (.int ((vv.toUInt32 >>> ((7 : Int32) &&& 31).toUInt32).toInt32)), .val (.int (1 : Int32))]) rfl ?_
  refine Go.goto C d1_30 (q := 5) (by decide) (by decide) ?_
  refine Go.iloadN C d1_5 (q := 6) rfl rfl ?_
  refine Go.sipush C (128 : Int32) d1_6 (q := 9) rfl rfl ?_
  refine Go.icmp C d1_9 (n_lt _ _) (qt := 33) (q := 12) (by decide) (by decide) rfl (fun b5 => absurd b5 c1) (fun _ => ?_)
  refine Go.aloadN C d1_12 (q := 13) rfl rfl rfl ?_
  refine Go.iload C d1_13 (q := 15) rfl rfl ?_
  refine Go.iincR C d1_15 (q := 18) rfl rfl (l' := #[.val (.ref x), .val (.int (0 : Int32)), .val (.int vv), .val (.int ((vv.toUInt32 >>> ((7 : Int32) &&& 31).toUInt32).toInt32)), .val (.int (2 : Int32))]) rfl ?_
  refine Go.iloadN C d1_18 (q := 19) rfl rfl ?_
  refine Go.sipush C (128 : Int32) d1_19 (q := 22) rfl rfl ?_
  refine Go.ior C d1_22 (q := 23) rfl ?_
  refine Go.i2b C d1_23 (q := 24) rfl ?_
  refine Go.bastore C F4 1 (by decide) (by decide) (by decide) g0 d1_24 (q := 25) rfl ?_
  intro h6 W7
  have F8 := F4.sameI W7
  refine Go.iloadN C d1_25 (q := 26) rfl rfl ?_
  refine Go.bipush C (7 : Int32) d1_26 (q := 28) rfl rfl ?_
  refine Go.iushr C d1_28 (q := 29) rfl ?_
  refine Go.istoreNR C d1_29 (q := 30) rfl (l' := #[.val (.ref x), .val (.int (0 : Int32)), .val (.int vv), .val (.int ((((vv.toUInt32 >>> ((7 : Int32) &&& 31).toUInt32).toInt32).toUInt32 >>> ((7 : Int32) &&& 31).toUInt32).toInt32)), .val (.int (2 : Int32))]) rfl ?_
  refine Go.goto C d1_30 (q := 5) (by decide) (by decide) ?_
  refine Go.iloadN C d1_5 (q := 6) rfl rfl ?_
  refine Go.sipush C (128 : Int32) d1_6 (q := 9) rfl rfl ?_
  refine Go.icmp C d1_9 (n_lt _ _) (qt := 33) (q := 12) (by decide) (by decide) rfl (fun _ => ?_) (fun b9 => absurd c2 b9)
  refine Go.aloadN C d1_33 (q := 34) rfl rfl rfl ?_
  refine Go.iload C d1_34 (q := 36) rfl rfl ?_
  refine Go.iincR C d1_36 (q := 39) rfl rfl (l' := #[.val (.ref x), .val (.int (0 : Int32)), .val (.int vv), .val (.int ((((vv.toUInt32 >>> ((7 : Int32) &&& 31).toUInt32).toInt32).toUInt32 >>> ((7 : Int32) &&& 31).toUInt32).toInt32)), .val (.int (3 : Int32))]) rfl ?_
  refine Go.iloadN C d1_39 (q := 40) rfl rfl ?_
  refine Go.i2b C d1_40 (q := 41) rfl ?_
  refine Go.bastore C F8 2 (by decide) (by decide) (by decide) g0 d1_41 (q := 42) rfl ?_
  intro h10 W11
  have F12 := F8.sameI W11
  refine Go.iload C d1_42 (q := 44) rfl rfl ?_
  exact Go.retI C d1_44 (by decide) (by decide) ⟨rfl, ((((Keep.refl h0 [x]).wr W3 (Or.inl (List.mem_of_getElem? (i := 0) rfl))).wr W7 (Or.inl (List.mem_of_getElem? (i := 0) rfl))).wr W11 (Or.inl (List.mem_of_getElem? (i := 0) rfl))), F12⟩
set_option maxRecDepth 65536 in
theorem c_put0_4 (l : Launch) (Z : State) (a0 : Array Value) (hw : ∀ d ∈ tables_1, d.before a0 Z = true) (x : Addr) (vv : Int32) (h0 : Heap) (n0 : Nat) (g : Nat → Int32) (Z0 : n0 ≤ h0.size) (A0 : Av Z h0 x .byte 8 (iF g)) (g0 : n0 ≤ x) (c0 : ¬ vv < (128 : Int32)) (c1 : ¬ ((vv.toUInt32 >>> ((7 : Int32) &&& 31).toUInt32).toInt32) < (128 : Int32)) (c2 : ¬ ((((vv.toUInt32 >>> ((7 : Int32) &&& 31).toUInt32).toInt32).toUInt32 >>> ((7 : Int32) &&& 31).toUInt32).toInt32) < (128 : Int32)) (c3 : ((((((vv.toUInt32 >>> ((7 : Int32) &&& 31).toUInt32).toInt32).toUInt32 >>> ((7 : Int32) &&& 31).toUInt32).toInt32).toUInt32 >>> ((7 : Int32) &&& 31).toUInt32).toInt32) < (128 : Int32)) : Met1 l Z (⟨"com/example/revleaf/revleaf/Node", "putVarint", "([BII)I"⟩ : MethodName) prog_26_method_63_code 5 (some .int) [] ({ frames := 0, cells := 0, slots := 0, locals := 0 } : Room) #[(.ref x), (.int (0 : Int32)), (.int vv)] h0 n0 (fun v h => v = some (.int (4 : Int32)) ∧ Keep h0 h [x] ∧ Av Z h x .byte 8 (iF (upd (upd (upd (upd g 0 (nar .byte (vv ||| (128 : Int32)).toInt8.toInt32)) 1 (nar .byte (((vv.toUInt32 >>> ((7 : Int32) &&& 31).toUInt32).toInt32) ||| (128 : Int32)).toInt8.toInt32)) 2 (nar .byte (((((vv.toUInt32 >>> ((7 : Int32) &&& 31).toUInt32).toInt32).toUInt32 >>> ((7 : Int32) &&& 31).toUInt32).toInt32) ||| (128 : Int32)).toInt8.toInt32)) 3 (nar .byte ((((((vv.toUInt32 >>> ((7 : Int32) &&& 31).toUInt32).toInt32).toUInt32 >>> ((7 : Int32) &&& 31).toUInt32).toInt32).toUInt32 >>> ((7 : Int32) &&& 31).toUInt32).toInt32).toInt8.toInt32)))) := by
  refine met_of_go (plainFor_of_name pn_com_example_revleaf_revleaf_Node) (fun m => ef_1_l1_0Int32 m x vv) ?_
  intro W hl C
  subst hl
  refine Go.iloadN C d1_0 (q := 1) rfl rfl ?_
  refine Go.istoreNR C d1_1 (q := 2) rfl (l' := #[.val (.ref x), .val (.int (0 : Int32)), .val (.int vv), .val (.int vv), .unset]) rfl ?_
  refine Go.iloadN C d1_2 (q := 3) rfl rfl ?_
  refine Go.istoreR C d1_3 (q := 5) rfl (l' := #[.val (.ref x), .val (.int (0 : Int32)), .val (.int vv), .val (.int vv), .val (.int (0 : Int32))]) rfl ?_
  refine Go.iloadN C d1_5 (q := 6) rfl rfl ?_
  refine Go.sipush C (128 : Int32) d1_6 (q := 9) rfl rfl ?_
  refine Go.icmp C d1_9 (n_lt _ _) (qt := 33) (q := 12) (by decide) (by decide) rfl (fun b1 => absurd b1 c0) (fun _ => ?_)
  refine Go.aloadN C d1_12 (q := 13) rfl rfl rfl ?_
  refine Go.iload C d1_13 (q := 15) rfl rfl ?_
  refine Go.iincR C d1_15 (q := 18) rfl rfl (l' := #[.val (.ref x), .val (.int (0 : Int32)), .val (.int vv), .val (.int vv), .val (.int (1 : Int32))]) rfl ?_
  refine Go.iloadN C d1_18 (q := 19) rfl rfl ?_
  refine Go.sipush C (128 : Int32) d1_19 (q := 22) rfl rfl ?_
  refine Go.ior C d1_22 (q := 23) rfl ?_
  refine Go.i2b C d1_23 (q := 24) rfl ?_
  refine Go.bastore C A0 0 (by decide) (by decide) (by decide) g0 d1_24 (q := 25) rfl ?_
  intro h2 W3
  have F4 := A0.sameI W3
  refine Go.iloadN C d1_25 (q := 26) rfl rfl ?_
  refine Go.bipush C (7 : Int32) d1_26 (q := 28) rfl rfl ?_
  refine Go.iushr C d1_28 (q := 29) rfl ?_
  refine Go.istoreNR C d1_29 (q := 30) rfl (l' := #[.val (.ref x), .val (.int (0 : Int32)), .val (.int vv), .val (.int ((vv.toUInt32 >>> ((7 : Int32) &&& 31).toUInt32).toInt32)), .val (.int (1 : Int32))]) rfl ?_
  refine Go.goto C d1_30 (q := 5) (by decide) (by decide) ?_
  refine Go.iloadN C d1_5 (q := 6) rfl rfl ?_
  refine Go.sipush C (128 : Int32) d1_6 (q := 9) rfl rfl ?_
  refine Go.icmp C d1_9 (n_lt _ _) (qt := 33) (q := 12) (by decide) (by decide) rfl (fun b5 => absurd b5 c1) (fun _ => ?_)
  refine Go.aloadN C d1_12 (q := 13) rfl rfl rfl ?_
  refine Go.iload C d1_13 (q := 15) rfl rfl ?_
  refine Go.iincR C d1_15 (q := 18) rfl rfl (l' := #[.val (.ref x), .val (.int (0 : Int32)), .val (.int vv), .val (.int ((vv.toUInt32 >>> ((7 : Int32) &&& 31).toUInt32).toInt32)), .val (.int (2 : Int32))]) rfl ?_
  refine Go.iloadN C d1_18 (q := 19) rfl rfl ?_
  refine Go.sipush C (128 : Int32) d1_19 (q := 22) rfl rfl ?_
  refine Go.ior C d1_22 (q := 23) rfl ?_
  refine Go.i2b C d1_23 (q := 24) rfl ?_
  refine Go.bastore C F4 1 (by decide) (by decide) (by decide) g0 d1_24 (q := 25) rfl ?_
  intro h6 W7
  have F8 := F4.sameI W7
  refine Go.iloadN C d1_25 (q := 26) rfl rfl ?_
  refine Go.bipush C (7 : Int32) d1_26 (q := 28) rfl rfl ?_
  refine Go.iushr C d1_28 (q := 29) rfl ?_
  refine Go.istoreNR C d1_29 (q := 30) rfl (l' := #[.val (.ref x), .val (.int (0 : Int32)), .val (.int vv), .val (.int ((((vv.toUInt32 >>> ((7 : Int32) &&& 31).toUInt32).toInt32).toUInt32 >>> ((7 : Int32) &&& 31).toUInt32).toInt32)), .val (.int (2 : Int32))]) rfl ?_
  refine Go.goto C d1_30 (q := 5) (by decide) (by decide) ?_
  refine Go.iloadN C d1_5 (q := 6) rfl rfl ?_
  refine Go.sipush C (128 : Int32) d1_6 (q := 9) rfl rfl ?_
  refine Go.icmp C d1_9 (n_lt _ _) (qt := 33) (q := 12) (by decide) (by decide) rfl (fun b9 => absurd b9 c2) (fun _ => ?_)
  refine Go.aloadN C d1_12 (q := 13) rfl rfl rfl ?_
  refine Go.iload C d1_13 (q := 15) rfl rfl ?_
  refine Go.iincR C d1_15 (q := 18) rfl rfl (l' := #[.val (.ref x), .val (.int (0 : Int32)), .val (.int vv), .val (.int ((((vv.toUInt32 >>> ((7 : Int32) &&& 31).toUInt32).toInt32).toUInt32 >>> ((7 : Int32) &&& 31).toUInt32).toInt32)), .val (.int (3 : Int32))]) rfl ?_
  refine Go.iloadN C d1_18 (q := 19) rfl rfl ?_
  refine Go.sipush C (128 : Int32) d1_19 (q := 22) rfl rfl ?_
  refine Go.ior C d1_22 (q := 23) rfl ?_
  refine Go.i2b C d1_23 (q := 24) rfl ?_
  refine Go.bastore C F8 2 (by decide) (by decide) (by decide) g0 d1_24 (q := 25) rfl ?_
  intro h10 W11
  have F12 := F8.sameI W11
  refine Go.iloadN C d1_25 (q := 26) rfl rfl ?_
  refine Go.bipush C (7 : Int32) d1_26 (q := 28) rfl rfl ?_
  refine Go.iushr C d1_28 (q := 29) rfl ?_
  refine Go.istoreNR C d1_29 (q := 30) rfl (l' := #[.val (.ref x), .val (.int (0 : Int32)), .val (.int vv), .val (.int ((((((vv.toUInt32 >>> ((7 : Int32) &&& 31).toUInt32).toInt32).toUInt32 >>> ((7 : Int32) &&& 31).toUInt32).toInt32).toUInt32 >>> ((7 : Int32) &&& 31).toUInt32).toInt32)), .val (.int (3 : Int32))]) rfl ?_
  refine Go.goto C d1_30 (q := 5) (by decide) (by decide) ?_
  refine Go.iloadN C d1_5 (q := 6) rfl rfl ?_
  refine Go.sipush C (128 : Int32) d1_6 (q := 9) rfl rfl ?_
  refine Go.icmp C d1_9 (n_lt _ _) (qt := 33) (q := 12) (by decide) (by decide) rfl (fun _ => ?_) (fun b13 => absurd c3 b13)
  refine Go.aloadN C d1_33 (q := 34) rfl rfl rfl ?_
  refine Go.iload C d1_34 (q := 36) rfl rfl ?_
  refine Go.iincR C d1_36 (q := 39) rfl rfl (l' := #[.val (.ref x), .val (.int (0 : Int32)), .val (.int vv), .val (.int ((((((vv.toUInt32 >>> ((7 : Int32) &&& 31).toUInt32).toInt32).toUInt32 >>> ((7 : Int32) &&& 31).toUInt32).toInt32).toUInt32 >>> ((7 : Int32) &&& 31).toUInt32).toInt32)), .val (.int (4 : Int32))]) rfl ?_
  refine Go.iloadN C d1_39 (q := 40) rfl rfl ?_
  refine Go.i2b C d1_40 (q := 41) rfl ?_
  refine Go.bastore C F12 3 (by decide) (by decide) (by decide) g0 d1_41 (q := 42) rfl ?_
  intro h14 W15
  have F16 := F12.sameI W15
  refine Go.iload C d1_42 (q := 44) rfl rfl ?_
  exact Go.retI C d1_44 (by decide) (by decide) ⟨rfl, (((((Keep.refl h0 [x]).wr W3 (Or.inl (List.mem_of_getElem? (i := 0) rfl))).wr W7 (Or.inl (List.mem_of_getElem? (i := 0) rfl))).wr W11 (Or.inl (List.mem_of_getElem? (i := 0) rfl))).wr W15 (Or.inl (List.mem_of_getElem? (i := 0) rfl))), F16⟩
set_option maxRecDepth 65536 in
theorem c_put0_5 (l : Launch) (Z : State) (a0 : Array Value) (hw : ∀ d ∈ tables_1, d.before a0 Z = true) (x : Addr) (vv : Int32) (h0 : Heap) (n0 : Nat) (g : Nat → Int32) (Z0 : n0 ≤ h0.size) (A0 : Av Z h0 x .byte 8 (iF g)) (g0 : n0 ≤ x) (c0 : ¬ vv < (128 : Int32)) (c1 : ¬ ((vv.toUInt32 >>> ((7 : Int32) &&& 31).toUInt32).toInt32) < (128 : Int32)) (c2 : ¬ ((((vv.toUInt32 >>> ((7 : Int32) &&& 31).toUInt32).toInt32).toUInt32 >>> ((7 : Int32) &&& 31).toUInt32).toInt32) < (128 : Int32)) (c3 : ¬ ((((((vv.toUInt32 >>> ((7 : Int32) &&& 31).toUInt32).toInt32).toUInt32 >>> ((7 : Int32) &&& 31).toUInt32).toInt32).toUInt32 >>> ((7 : Int32) &&& 31).toUInt32).toInt32) < (128 : Int32)) (c4 : ((((((((vv.toUInt32 >>> ((7 : Int32) &&& 31).toUInt32).toInt32).toUInt32 >>> ((7 : Int32) &&& 31).toUInt32).toInt32).toUInt32 >>> ((7 : Int32) &&& 31).toUInt32).toInt32).toUInt32 >>> ((7 : Int32) &&& 31).toUInt32).toInt32) < (128 : Int32)) : Met1 l Z (⟨"com/example/revleaf/revleaf/Node", "putVarint", "([BII)I"⟩ : MethodName) prog_26_method_63_code 5 (some .int) [] ({ frames := 0, cells := 0, slots := 0, locals := 0 } : Room) #[(.ref x), (.int (0 : Int32)), (.int vv)] h0 n0 (fun v h => v = some (.int (5 : Int32)) ∧ Keep h0 h [x] ∧ Av Z h x .byte 8 (iF (upd (upd (upd (upd (upd g 0 (nar .byte (vv ||| (128 : Int32)).toInt8.toInt32)) 1 (nar .byte (((vv.toUInt32 >>> ((7 : Int32) &&& 31).toUInt32).toInt32) ||| (128 : Int32)).toInt8.toInt32)) 2 (nar .byte (((((vv.toUInt32 >>> ((7 : Int32) &&& 31).toUInt32).toInt32).toUInt32 >>> ((7 : Int32) &&& 31).toUInt32).toInt32) ||| (128 : Int32)).toInt8.toInt32)) 3 (nar .byte (((((((vv.toUInt32 >>> ((7 : Int32) &&& 31).toUInt32).toInt32).toUInt32 >>> ((7 : Int32) &&& 31).toUInt32).toInt32).toUInt32 >>> ((7 : Int32) &&& 31).toUInt32).toInt32) ||| (128 : Int32)).toInt8.toInt32)) 4 (nar .byte ((((((((vv.toUInt32 >>> ((7 : Int32) &&& 31).toUInt32).toInt32).toUInt32 >>> ((7 : Int32) &&& 31).toUInt32).toInt32).toUInt32 >>> ((7 : Int32) &&& 31).toUInt32).toInt32).toUInt32 >>> ((7 : Int32) &&& 31).toUInt32).toInt32).toInt8.toInt32)))) := by
  refine met_of_go (plainFor_of_name pn_com_example_revleaf_revleaf_Node) (fun m => ef_1_l1_0Int32 m x vv) ?_
  intro W hl C
  subst hl
  refine Go.iloadN C d1_0 (q := 1) rfl rfl ?_
  refine Go.istoreNR C d1_1 (q := 2) rfl (l' := #[.val (.ref x), .val (.int (0 : Int32)), .val (.int vv), .val (.int vv), .unset]) rfl ?_
  refine Go.iloadN C d1_2 (q := 3) rfl rfl ?_
  refine Go.istoreR C d1_3 (q := 5) rfl (l' := #[.val (.ref x), .val (.int (0 : Int32)), .val (.int vv), .val (.int vv), .val (.int (0 : Int32))]) rfl ?_
  refine Go.iloadN C d1_5 (q := 6) rfl rfl ?_
  refine Go.sipush C (128 : Int32) d1_6 (q := 9) rfl rfl ?_
  refine Go.icmp C d1_9 (n_lt _ _) (qt := 33) (q := 12) (by decide) (by decide) rfl (fun b1 => absurd b1 c0) (fun _ => ?_)
  refine Go.aloadN C d1_12 (q := 13) rfl rfl rfl ?_
  refine Go.iload C d1_13 (q := 15) rfl rfl ?_
  refine Go.iincR C d1_15 (q := 18) rfl rfl (l' := #[.val (.ref x), .val (.int (0 : Int32)), .val (.int vv), .val (.int vv), .val (.int (1 : Int32))]) rfl ?_
  refine Go.iloadN C d1_18 (q := 19) rfl rfl ?_
  refine Go.sipush C (128 : Int32) d1_19 (q := 22) rfl rfl ?_
  refine Go.ior C d1_22 (q := 23) rfl ?_
  refine Go.i2b C d1_23 (q := 24) rfl ?_
  refine Go.bastore C A0 0 (by decide) (by decide) (by decide) g0 d1_24 (q := 25) rfl ?_
  intro h2 W3
  have F4 := A0.sameI W3
  refine Go.iloadN C d1_25 (q := 26) rfl rfl ?_
  refine Go.bipush C (7 : Int32) d1_26 (q := 28) rfl rfl ?_
  refine Go.iushr C d1_28 (q := 29) rfl ?_
  refine Go.istoreNR C d1_29 (q := 30) rfl (l' := #[.val (.ref x), .val (.int (0 : Int32)), .val (.int vv), .val (.int ((vv.toUInt32 >>> ((7 : Int32) &&& 31).toUInt32).toInt32)), .val (.int (1 : Int32))]) rfl ?_
  refine Go.goto C d1_30 (q := 5) (by decide) (by decide) ?_
  refine Go.iloadN C d1_5 (q := 6) rfl rfl ?_
  refine Go.sipush C (128 : Int32) d1_6 (q := 9) rfl rfl ?_
  refine Go.icmp C d1_9 (n_lt _ _) (qt := 33) (q := 12) (by decide) (by decide) rfl (fun b5 => absurd b5 c1) (fun _ => ?_)
  refine Go.aloadN C d1_12 (q := 13) rfl rfl rfl ?_
  refine Go.iload C d1_13 (q := 15) rfl rfl ?_
  refine Go.iincR C d1_15 (q := 18) rfl rfl (l' := #[.val (.ref x), .val (.int (0 : Int32)), .val (.int vv), .val (.int ((vv.toUInt32 >>> ((7 : Int32) &&& 31).toUInt32).toInt32)), .val (.int (2 : Int32))]) rfl ?_
  refine Go.iloadN C d1_18 (q := 19) rfl rfl ?_
  refine Go.sipush C (128 : Int32) d1_19 (q := 22) rfl rfl ?_
  refine Go.ior C d1_22 (q := 23) rfl ?_
  refine Go.i2b C d1_23 (q := 24) rfl ?_
  refine Go.bastore C F4 1 (by decide) (by decide) (by decide) g0 d1_24 (q := 25) rfl ?_
  intro h6 W7
  have F8 := F4.sameI W7
  refine Go.iloadN C d1_25 (q := 26) rfl rfl ?_
  refine Go.bipush C (7 : Int32) d1_26 (q := 28) rfl rfl ?_
  refine Go.iushr C d1_28 (q := 29) rfl ?_
  refine Go.istoreNR C d1_29 (q := 30) rfl (l' := #[.val (.ref x), .val (.int (0 : Int32)), .val (.int vv), .val (.int ((((vv.toUInt32 >>> ((7 : Int32) &&& 31).toUInt32).toInt32).toUInt32 >>> ((7 : Int32) &&& 31).toUInt32).toInt32)), .val (.int (2 : Int32))]) rfl ?_
  refine Go.goto C d1_30 (q := 5) (by decide) (by decide) ?_
  refine Go.iloadN C d1_5 (q := 6) rfl rfl ?_
  refine Go.sipush C (128 : Int32) d1_6 (q := 9) rfl rfl ?_
  refine Go.icmp C d1_9 (n_lt _ _) (qt := 33) (q := 12) (by decide) (by decide) rfl (fun b9 => absurd b9 c2) (fun _ => ?_)
  refine Go.aloadN C d1_12 (q := 13) rfl rfl rfl ?_
  refine Go.iload C d1_13 (q := 15) rfl rfl ?_
  refine Go.iincR C d1_15 (q := 18) rfl rfl (l' := #[.val (.ref x), .val (.int (0 : Int32)), .val (.int vv), .val (.int ((((vv.toUInt32 >>> ((7 : Int32) &&& 31).toUInt32).toInt32).toUInt32 >>> ((7 : Int32) &&& 31).toUInt32).toInt32)), .val (.int (3 : Int32))]) rfl ?_
  refine Go.iloadN C d1_18 (q := 19) rfl rfl ?_
  refine Go.sipush C (128 : Int32) d1_19 (q := 22) rfl rfl ?_
  refine Go.ior C d1_22 (q := 23) rfl ?_
  refine Go.i2b C d1_23 (q := 24) rfl ?_
  refine Go.bastore C F8 2 (by decide) (by decide) (by decide) g0 d1_24 (q := 25) rfl ?_
  intro h10 W11
  have F12 := F8.sameI W11
  refine Go.iloadN C d1_25 (q := 26) rfl rfl ?_
  refine Go.bipush C (7 : Int32) d1_26 (q := 28) rfl rfl ?_
  refine Go.iushr C d1_28 (q := 29) rfl ?_
  refine Go.istoreNR C d1_29 (q := 30) rfl (l' := #[.val (.ref x), .val (.int (0 : Int32)), .val (.int vv), .val (.int ((((((vv.toUInt32 >>> ((7 : Int32) &&& 31).toUInt32).toInt32).toUInt32 >>> ((7 : Int32) &&& 31).toUInt32).toInt32).toUInt32 >>> ((7 : Int32) &&& 31).toUInt32).toInt32)), .val (.int (3 : Int32))]) rfl ?_
  refine Go.goto C d1_30 (q := 5) (by decide) (by decide) ?_
  refine Go.iloadN C d1_5 (q := 6) rfl rfl ?_
  refine Go.sipush C (128 : Int32) d1_6 (q := 9) rfl rfl ?_
  refine Go.icmp C d1_9 (n_lt _ _) (qt := 33) (q := 12) (by decide) (by decide) rfl (fun b13 => absurd b13 c3) (fun _ => ?_)
  refine Go.aloadN C d1_12 (q := 13) rfl rfl rfl ?_
  refine Go.iload C d1_13 (q := 15) rfl rfl ?_
  refine Go.iincR C d1_15 (q := 18) rfl rfl (l' := #[.val (.ref x), .val (.int (0 : Int32)), .val (.int vv), .val (.int ((((((vv.toUInt32 >>> ((7 : Int32) &&& 31).toUInt32).toInt32).toUInt32 >>> ((7 : Int32) &&& 31).toUInt32).toInt32).toUInt32 >>> ((7 : Int32) &&& 31).toUInt32).toInt32)), .val (.int (4 : Int32))]) rfl ?_
  refine Go.iloadN C d1_18 (q := 19) rfl rfl ?_
  refine Go.sipush C (128 : Int32) d1_19 (q := 22) rfl rfl ?_
  refine Go.ior C d1_22 (q := 23) rfl ?_
  refine Go.i2b C d1_23 (q := 24) rfl ?_
  refine Go.bastore C F12 3 (by decide) (by decide) (by decide) g0 d1_24 (q := 25) rfl ?_
  intro h14 W15
  have F16 := F12.sameI W15
  refine Go.iloadN C d1_25 (q := 26) rfl rfl ?_
  refine Go.bipush C (7 : Int32) d1_26 (q := 28) rfl rfl ?_
  refine Go.iushr C d1_28 (q := 29) rfl ?_
  refine Go.istoreNR C d1_29 (q := 30) rfl (l' := #[.val (.ref x), .val (.int (0 : Int32)), .val (.int vv), .val (.int ((((((((vv.toUInt32 >>> ((7 : Int32) &&& 31).toUInt32).toInt32).toUInt32 >>> ((7 : Int32) &&& 31).toUInt32).toInt32).toUInt32 >>> ((7 : Int32) &&& 31).toUInt32).toInt32).toUInt32 >>> ((7 : Int32) &&& 31).toUInt32).toInt32)), .val (.int (4 : Int32))]) rfl ?_
  refine Go.goto C d1_30 (q := 5) (by decide) (by decide) ?_
  refine Go.iloadN C d1_5 (q := 6) rfl rfl ?_
  refine Go.sipush C (128 : Int32) d1_6 (q := 9) rfl rfl ?_
  refine Go.icmp C d1_9 (n_lt _ _) (qt := 33) (q := 12) (by decide) (by decide) rfl (fun _ => ?_) (fun b17 => absurd c4 b17)
  refine Go.aloadN C d1_33 (q := 34) rfl rfl rfl ?_
  refine Go.iload C d1_34 (q := 36) rfl rfl ?_
  refine Go.iincR C d1_36 (q := 39) rfl rfl (l' := #[.val (.ref x), .val (.int (0 : Int32)), .val (.int vv), .val (.int ((((((((vv.toUInt32 >>> ((7 : Int32) &&& 31).toUInt32).toInt32).toUInt32 >>> ((7 : Int32) &&& 31).toUInt32).toInt32).toUInt32 >>> ((7 : Int32) &&& 31).toUInt32).toInt32).toUInt32 >>> ((7 : Int32) &&& 31).toUInt32).toInt32)), .val (.int (5 : Int32))]) rfl ?_
  refine Go.iloadN C d1_39 (q := 40) rfl rfl ?_
  refine Go.i2b C d1_40 (q := 41) rfl ?_
  refine Go.bastore C F16 4 (by decide) (by decide) (by decide) g0 d1_41 (q := 42) rfl ?_
  intro h18 W19
  have F20 := F16.sameI W19
  refine Go.iload C d1_42 (q := 44) rfl rfl ?_
  exact Go.retI C d1_44 (by decide) (by decide) ⟨rfl, ((((((Keep.refl h0 [x]).wr W3 (Or.inl (List.mem_of_getElem? (i := 0) rfl))).wr W7 (Or.inl (List.mem_of_getElem? (i := 0) rfl))).wr W11 (Or.inl (List.mem_of_getElem? (i := 0) rfl))).wr W15 (Or.inl (List.mem_of_getElem? (i := 0) rfl))).wr W19 (Or.inl (List.mem_of_getElem? (i := 0) rfl))), F20⟩
set_option maxRecDepth 65536 in
theorem c_put1_1 (l : Launch) (Z : State) (a0 : Array Value) (hw : ∀ d ∈ tables_1, d.before a0 Z = true) (x : Addr) (vv : Int32) (h0 : Heap) (n0 : Nat) (g : Nat → Int32) (Z0 : n0 ≤ h0.size) (A0 : Av Z h0 x .byte 8 (iF g)) (g0 : n0 ≤ x) (c0 : vv < (128 : Int32)) : Met1 l Z (⟨"com/example/revleaf/revleaf/Node", "putVarint", "([BII)I"⟩ : MethodName) prog_26_method_63_code 5 (some .int) [] ({ frames := 0, cells := 0, slots := 0, locals := 0 } : Room) #[(.ref x), (.int (1 : Int32)), (.int vv)] h0 n0 (fun v h => v = some (.int (2 : Int32)) ∧ Keep h0 h [x] ∧ Av Z h x .byte 8 (iF (upd g 1 (nar .byte vv.toInt8.toInt32)))) := by
  refine met_of_go (plainFor_of_name pn_com_example_revleaf_revleaf_Node) (fun m => ef_1_l1_1Int32 m x vv) ?_
  intro W hl C
  subst hl
  refine Go.iloadN C d1_0 (q := 1) rfl rfl ?_
  refine Go.istoreNR C d1_1 (q := 2) rfl (l' := #[.val (.ref x), .val (.int (1 : Int32)), .val (.int vv), .val (.int vv), .unset]) rfl ?_
  refine Go.iloadN C d1_2 (q := 3) rfl rfl ?_
  refine Go.istoreR C d1_3 (q := 5) rfl (l' := #[.val (.ref x), .val (.int (1 : Int32)), .val (.int vv), .val (.int vv), .val (.int (1 : Int32))]) rfl ?_
  refine Go.iloadN C d1_5 (q := 6) rfl rfl ?_
  refine Go.sipush C (128 : Int32) d1_6 (q := 9) rfl rfl ?_
  refine Go.icmp C d1_9 (n_lt _ _) (qt := 33) (q := 12) (by decide) (by decide) rfl (fun _ => ?_) (fun b1 => absurd c0 b1)
  refine Go.aloadN C d1_33 (q := 34) rfl rfl rfl ?_
  refine Go.iload C d1_34 (q := 36) rfl rfl ?_
  refine Go.iincR C d1_36 (q := 39) rfl rfl (l' := #[.val (.ref x), .val (.int (1 : Int32)), .val (.int vv), .val (.int vv), .val (.int (2 : Int32))]) rfl ?_
  refine Go.iloadN C d1_39 (q := 40) rfl rfl ?_
  refine Go.i2b C d1_40 (q := 41) rfl ?_
  refine Go.bastore C A0 1 (by decide) (by decide) (by decide) g0 d1_41 (q := 42) rfl ?_
  intro h2 W3
  have F4 := A0.sameI W3
  refine Go.iload C d1_42 (q := 44) rfl rfl ?_
  exact Go.retI C d1_44 (by decide) (by decide) ⟨rfl, ((Keep.refl h0 [x]).wr W3 (Or.inl (List.mem_of_getElem? (i := 0) rfl))), F4⟩
set_option maxRecDepth 65536 in
theorem c_put1_2 (l : Launch) (Z : State) (a0 : Array Value) (hw : ∀ d ∈ tables_1, d.before a0 Z = true) (x : Addr) (vv : Int32) (h0 : Heap) (n0 : Nat) (g : Nat → Int32) (Z0 : n0 ≤ h0.size) (A0 : Av Z h0 x .byte 8 (iF g)) (g0 : n0 ≤ x) (c0 : ¬ vv < (128 : Int32)) (c1 : ((vv.toUInt32 >>> ((7 : Int32) &&& 31).toUInt32).toInt32) < (128 : Int32)) : Met1 l Z (⟨"com/example/revleaf/revleaf/Node", "putVarint", "([BII)I"⟩ : MethodName) prog_26_method_63_code 5 (some .int) [] ({ frames := 0, cells := 0, slots := 0, locals := 0 } : Room) #[(.ref x), (.int (1 : Int32)), (.int vv)] h0 n0 (fun v h => v = some (.int (3 : Int32)) ∧ Keep h0 h [x] ∧ Av Z h x .byte 8 (iF (upd (upd g 1 (nar .byte (vv ||| (128 : Int32)).toInt8.toInt32)) 2 (nar .byte ((vv.toUInt32 >>> ((7 : Int32) &&& 31).toUInt32).toInt32).toInt8.toInt32)))) := by
  refine met_of_go (plainFor_of_name pn_com_example_revleaf_revleaf_Node) (fun m => ef_1_l1_1Int32 m x vv) ?_
  intro W hl C
  subst hl
  refine Go.iloadN C d1_0 (q := 1) rfl rfl ?_
  refine Go.istoreNR C d1_1 (q := 2) rfl (l' := #[.val (.ref x), .val (.int (1 : Int32)), .val (.int vv), .val (.int vv), .unset]) rfl ?_
  refine Go.iloadN C d1_2 (q := 3) rfl rfl ?_
  refine Go.istoreR C d1_3 (q := 5) rfl (l' := #[.val (.ref x), .val (.int (1 : Int32)), .val (.int vv), .val (.int vv), .val (.int (1 : Int32))]) rfl ?_
  refine Go.iloadN C d1_5 (q := 6) rfl rfl ?_
  refine Go.sipush C (128 : Int32) d1_6 (q := 9) rfl rfl ?_
  refine Go.icmp C d1_9 (n_lt _ _) (qt := 33) (q := 12) (by decide) (by decide) rfl (fun b1 => absurd b1 c0) (fun _ => ?_)
  refine Go.aloadN C d1_12 (q := 13) rfl rfl rfl ?_
  refine Go.iload C d1_13 (q := 15) rfl rfl ?_
  refine Go.iincR C d1_15 (q := 18) rfl rfl (l' := #[.val (.ref x), .val (.int (1 : Int32)), .val (.int vv), .val (.int vv), .val (.int (2 : Int32))]) rfl ?_
  refine Go.iloadN C d1_18 (q := 19) rfl rfl ?_
  refine Go.sipush C (128 : Int32) d1_19 (q := 22) rfl rfl ?_
  refine Go.ior C d1_22 (q := 23) rfl ?_
  refine Go.i2b C d1_23 (q := 24) rfl ?_
  refine Go.bastore C A0 1 (by decide) (by decide) (by decide) g0 d1_24 (q := 25) rfl ?_
  intro h2 W3
  have F4 := A0.sameI W3
  refine Go.iloadN C d1_25 (q := 26) rfl rfl ?_
  refine Go.bipush C (7 : Int32) d1_26 (q := 28) rfl rfl ?_
  refine Go.iushr C d1_28 (q := 29) rfl ?_
  refine Go.istoreNR C d1_29 (q := 30) rfl (l' := #[.val (.ref x), .val (.int (1 : Int32)), .val (.int vv), .val (.int ((vv.toUInt32 >>> ((7 : Int32) &&& 31).toUInt32).toInt32)), .val (.int (2 : Int32))]) rfl ?_
  refine Go.goto C d1_30 (q := 5) (by decide) (by decide) ?_
  refine Go.iloadN C d1_5 (q := 6) rfl rfl ?_
  refine Go.sipush C (128 : Int32) d1_6 (q := 9) rfl rfl ?_
  refine Go.icmp C d1_9 (n_lt _ _) (qt := 33) (q := 12) (by decide) (by decide) rfl (fun _ => ?_) (fun b5 => absurd c1 b5)
  refine Go.aloadN C d1_33 (q := 34) rfl rfl rfl ?_
  refine Go.iload C d1_34 (q := 36) rfl rfl ?_
  refine Go.iincR C d1_36 (q := 39) rfl rfl (l' := #[.val (.ref x), .val (.int (1 : Int32)), .val (.int vv), .val (.int ((vv.toUInt32 >>> ((7 : Int32) &&& 31).toUInt32).toInt32)), .val (.int (3 : Int32))]) rfl ?_
  refine Go.iloadN C d1_39 (q := 40) rfl rfl ?_
  refine Go.i2b C d1_40 (q := 41) rfl ?_
  refine Go.bastore C F4 2 (by decide) (by decide) (by decide) g0 d1_41 (q := 42) rfl ?_
  intro h6 W7
  have F8 := F4.sameI W7
  refine Go.iload C d1_42 (q := 44) rfl rfl ?_
  exact Go.retI C d1_44 (by decide) (by decide) ⟨rfl, (((Keep.refl h0 [x]).wr W3 (Or.inl (List.mem_of_getElem? (i := 0) rfl))).wr W7 (Or.inl (List.mem_of_getElem? (i := 0) rfl))), F8⟩
set_option maxRecDepth 65536 in
theorem c_put1_3 (l : Launch) (Z : State) (a0 : Array Value) (hw : ∀ d ∈ tables_1, d.before a0 Z = true) (x : Addr) (vv : Int32) (h0 : Heap) (n0 : Nat) (g : Nat → Int32) (Z0 : n0 ≤ h0.size) (A0 : Av Z h0 x .byte 8 (iF g)) (g0 : n0 ≤ x) (c0 : ¬ vv < (128 : Int32)) (c1 : ¬ ((vv.toUInt32 >>> ((7 : Int32) &&& 31).toUInt32).toInt32) < (128 : Int32)) (c2 : ((((vv.toUInt32 >>> ((7 : Int32) &&& 31).toUInt32).toInt32).toUInt32 >>> ((7 : Int32) &&& 31).toUInt32).toInt32) < (128 : Int32)) : Met1 l Z (⟨"com/example/revleaf/revleaf/Node", "putVarint", "([BII)I"⟩ : MethodName) prog_26_method_63_code 5 (some .int) [] ({ frames := 0, cells := 0, slots := 0, locals := 0 } : Room) #[(.ref x), (.int (1 : Int32)), (.int vv)] h0 n0 (fun v h => v = some (.int (4 : Int32)) ∧ Keep h0 h [x] ∧ Av Z h x .byte 8 (iF (upd (upd (upd g 1 (nar .byte (vv ||| (128 : Int32)).toInt8.toInt32)) 2 (nar .byte (((vv.toUInt32 >>> ((7 : Int32) &&& 31).toUInt32).toInt32) ||| (128 : Int32)).toInt8.toInt32)) 3 (nar .byte ((((vv.toUInt32 >>> ((7 : Int32) &&& 31).toUInt32).toInt32).toUInt32 >>> ((7 : Int32) &&& 31).toUInt32).toInt32).toInt8.toInt32)))) := by
  refine met_of_go (plainFor_of_name pn_com_example_revleaf_revleaf_Node) (fun m => ef_1_l1_1Int32 m x vv) ?_
  intro W hl C
  subst hl
  refine Go.iloadN C d1_0 (q := 1) rfl rfl ?_
  refine Go.istoreNR C d1_1 (q := 2) rfl (l' := #[.val (.ref x), .val (.int (1 : Int32)), .val (.int vv), .val (.int vv), .unset]) rfl ?_
  refine Go.iloadN C d1_2 (q := 3) rfl rfl ?_
  refine Go.istoreR C d1_3 (q := 5) rfl (l' := #[.val (.ref x), .val (.int (1 : Int32)), .val (.int vv), .val (.int vv), .val (.int (1 : Int32))]) rfl ?_
  refine Go.iloadN C d1_5 (q := 6) rfl rfl ?_
  refine Go.sipush C (128 : Int32) d1_6 (q := 9) rfl rfl ?_
  refine Go.icmp C d1_9 (n_lt _ _) (qt := 33) (q := 12) (by decide) (by decide) rfl (fun b1 => absurd b1 c0) (fun _ => ?_)
  refine Go.aloadN C d1_12 (q := 13) rfl rfl rfl ?_
  refine Go.iload C d1_13 (q := 15) rfl rfl ?_
  refine Go.iincR C d1_15 (q := 18) rfl rfl (l' := #[.val (.ref x), .val (.int (1 : Int32)), .val (.int vv), .val (.int vv), .val (.int (2 : Int32))]) rfl ?_
  refine Go.iloadN C d1_18 (q := 19) rfl rfl ?_
  refine Go.sipush C (128 : Int32) d1_19 (q := 22) rfl rfl ?_
  refine Go.ior C d1_22 (q := 23) rfl ?_
  refine Go.i2b C d1_23 (q := 24) rfl ?_
  refine Go.bastore C A0 1 (by decide) (by decide) (by decide) g0 d1_24 (q := 25) rfl ?_
  intro h2 W3
  have F4 := A0.sameI W3
  refine Go.iloadN C d1_25 (q := 26) rfl rfl ?_
  refine Go.bipush C (7 : Int32) d1_26 (q := 28) rfl rfl ?_
  refine Go.iushr C d1_28 (q := 29) rfl ?_
  refine Go.istoreNR C d1_29 (q := 30) rfl (l' := #[.val (.ref x), .val (.int (1 : Int32)), .val (.int vv), .val (.int ((vv.toUInt32 >>> ((7 : Int32) &&& 31).toUInt32).toInt32)), .val (.int (2 : Int32))]) rfl ?_
  refine Go.goto C d1_30 (q := 5) (by decide) (by decide) ?_
  refine Go.iloadN C d1_5 (q := 6) rfl rfl ?_
  refine Go.sipush C (128 : Int32) d1_6 (q := 9) rfl rfl ?_
  refine Go.icmp C d1_9 (n_lt _ _) (qt := 33) (q := 12) (by decide) (by decide) rfl (fun b5 => absurd b5 c1) (fun _ => ?_)
  refine Go.aloadN C d1_12 (q := 13) rfl rfl rfl ?_
  refine Go.iload C d1_13 (q := 15) rfl rfl ?_
  refine Go.iincR C d1_15 (q := 18) rfl rfl (l' := #[.val (.ref x), .val (.int (1 : Int32)), .val (.int vv), .val (.int ((vv.toUInt32 >>> ((7 : Int32) &&& 31).toUInt32).toInt32)), .val (.int (3 : Int32))]) rfl ?_
  refine Go.iloadN C d1_18 (q := 19) rfl rfl ?_
  refine Go.sipush C (128 : Int32) d1_19 (q := 22) rfl rfl ?_
  refine Go.ior C d1_22 (q := 23) rfl ?_
  refine Go.i2b C d1_23 (q := 24) rfl ?_
  refine Go.bastore C F4 2 (by decide) (by decide) (by decide) g0 d1_24 (q := 25) rfl ?_
  intro h6 W7
  have F8 := F4.sameI W7
  refine Go.iloadN C d1_25 (q := 26) rfl rfl ?_
  refine Go.bipush C (7 : Int32) d1_26 (q := 28) rfl rfl ?_
  refine Go.iushr C d1_28 (q := 29) rfl ?_
  refine Go.istoreNR C d1_29 (q := 30) rfl (l' := #[.val (.ref x), .val (.int (1 : Int32)), .val (.int vv), .val (.int ((((vv.toUInt32 >>> ((7 : Int32) &&& 31).toUInt32).toInt32).toUInt32 >>> ((7 : Int32) &&& 31).toUInt32).toInt32)), .val (.int (3 : Int32))]) rfl ?_
  refine Go.goto C d1_30 (q := 5) (by decide) (by decide) ?_
  refine Go.iloadN C d1_5 (q := 6) rfl rfl ?_
  refine Go.sipush C (128 : Int32) d1_6 (q := 9) rfl rfl ?_
  refine Go.icmp C d1_9 (n_lt _ _) (qt := 33) (q := 12) (by decide) (by decide) rfl (fun _ => ?_) (fun b9 => absurd c2 b9)
  refine Go.aloadN C d1_33 (q := 34) rfl rfl rfl ?_
  refine Go.iload C d1_34 (q := 36) rfl rfl ?_
  refine Go.iincR C d1_36 (q := 39) rfl rfl (l' := #[.val (.ref x), .val (.int (1 : Int32)), .val (.int vv), .val (.int ((((vv.toUInt32 >>> ((7 : Int32) &&& 31).toUInt32).toInt32).toUInt32 >>> ((7 : Int32) &&& 31).toUInt32).toInt32)), .val (.int (4 : Int32))]) rfl ?_
  refine Go.iloadN C d1_39 (q := 40) rfl rfl ?_
  refine Go.i2b C d1_40 (q := 41) rfl ?_
  refine Go.bastore C F8 3 (by decide) (by decide) (by decide) g0 d1_41 (q := 42) rfl ?_
  intro h10 W11
  have F12 := F8.sameI W11
  refine Go.iload C d1_42 (q := 44) rfl rfl ?_
  exact Go.retI C d1_44 (by decide) (by decide) ⟨rfl, ((((Keep.refl h0 [x]).wr W3 (Or.inl (List.mem_of_getElem? (i := 0) rfl))).wr W7 (Or.inl (List.mem_of_getElem? (i := 0) rfl))).wr W11 (Or.inl (List.mem_of_getElem? (i := 0) rfl))), F12⟩
set_option maxRecDepth 65536 in
theorem c_put1_4 (l : Launch) (Z : State) (a0 : Array Value) (hw : ∀ d ∈ tables_1, d.before a0 Z = true) (x : Addr) (vv : Int32) (h0 : Heap) (n0 : Nat) (g : Nat → Int32) (Z0 : n0 ≤ h0.size) (A0 : Av Z h0 x .byte 8 (iF g)) (g0 : n0 ≤ x) (c0 : ¬ vv < (128 : Int32)) (c1 : ¬ ((vv.toUInt32 >>> ((7 : Int32) &&& 31).toUInt32).toInt32) < (128 : Int32)) (c2 : ¬ ((((vv.toUInt32 >>> ((7 : Int32) &&& 31).toUInt32).toInt32).toUInt32 >>> ((7 : Int32) &&& 31).toUInt32).toInt32) < (128 : Int32)) (c3 : ((((((vv.toUInt32 >>> ((7 : Int32) &&& 31).toUInt32).toInt32).toUInt32 >>> ((7 : Int32) &&& 31).toUInt32).toInt32).toUInt32 >>> ((7 : Int32) &&& 31).toUInt32).toInt32) < (128 : Int32)) : Met1 l Z (⟨"com/example/revleaf/revleaf/Node", "putVarint", "([BII)I"⟩ : MethodName) prog_26_method_63_code 5 (some .int) [] ({ frames := 0, cells := 0, slots := 0, locals := 0 } : Room) #[(.ref x), (.int (1 : Int32)), (.int vv)] h0 n0 (fun v h => v = some (.int (5 : Int32)) ∧ Keep h0 h [x] ∧ Av Z h x .byte 8 (iF (upd (upd (upd (upd g 1 (nar .byte (vv ||| (128 : Int32)).toInt8.toInt32)) 2 (nar .byte (((vv.toUInt32 >>> ((7 : Int32) &&& 31).toUInt32).toInt32) ||| (128 : Int32)).toInt8.toInt32)) 3 (nar .byte (((((vv.toUInt32 >>> ((7 : Int32) &&& 31).toUInt32).toInt32).toUInt32 >>> ((7 : Int32) &&& 31).toUInt32).toInt32) ||| (128 : Int32)).toInt8.toInt32)) 4 (nar .byte ((((((vv.toUInt32 >>> ((7 : Int32) &&& 31).toUInt32).toInt32).toUInt32 >>> ((7 : Int32) &&& 31).toUInt32).toInt32).toUInt32 >>> ((7 : Int32) &&& 31).toUInt32).toInt32).toInt8.toInt32)))) := by
  refine met_of_go (plainFor_of_name pn_com_example_revleaf_revleaf_Node) (fun m => ef_1_l1_1Int32 m x vv) ?_
  intro W hl C
  subst hl
  refine Go.iloadN C d1_0 (q := 1) rfl rfl ?_
  refine Go.istoreNR C d1_1 (q := 2) rfl (l' := #[.val (.ref x), .val (.int (1 : Int32)), .val (.int vv), .val (.int vv), .unset]) rfl ?_
  refine Go.iloadN C d1_2 (q := 3) rfl rfl ?_
  refine Go.istoreR C d1_3 (q := 5) rfl (l' := #[.val (.ref x), .val (.int (1 : Int32)), .val (.int vv), .val (.int vv), .val (.int (1 : Int32))]) rfl ?_
  refine Go.iloadN C d1_5 (q := 6) rfl rfl ?_
  refine Go.sipush C (128 : Int32) d1_6 (q := 9) rfl rfl ?_
  refine Go.icmp C d1_9 (n_lt _ _) (qt := 33) (q := 12) (by decide) (by decide) rfl (fun b1 => absurd b1 c0) (fun _ => ?_)
  refine Go.aloadN C d1_12 (q := 13) rfl rfl rfl ?_
  refine Go.iload C d1_13 (q := 15) rfl rfl ?_
  refine Go.iincR C d1_15 (q := 18) rfl rfl (l' := #[.val (.ref x), .val (.int (1 : Int32)), .val (.int vv), .val (.int vv), .val (.int (2 : Int32))]) rfl ?_
  refine Go.iloadN C d1_18 (q := 19) rfl rfl ?_
  refine Go.sipush C (128 : Int32) d1_19 (q := 22) rfl rfl ?_
  refine Go.ior C d1_22 (q := 23) rfl ?_
  refine Go.i2b C d1_23 (q := 24) rfl ?_
  refine Go.bastore C A0 1 (by decide) (by decide) (by decide) g0 d1_24 (q := 25) rfl ?_
  intro h2 W3
  have F4 := A0.sameI W3
  refine Go.iloadN C d1_25 (q := 26) rfl rfl ?_
  refine Go.bipush C (7 : Int32) d1_26 (q := 28) rfl rfl ?_
  refine Go.iushr C d1_28 (q := 29) rfl ?_
  refine Go.istoreNR C d1_29 (q := 30) rfl (l' := #[.val (.ref x), .val (.int (1 : Int32)), .val (.int vv), .val (.int ((vv.toUInt32 >>> ((7 : Int32) &&& 31).toUInt32).toInt32)), .val (.int (2 : Int32))]) rfl ?_
  refine Go.goto C d1_30 (q := 5) (by decide) (by decide) ?_
  refine Go.iloadN C d1_5 (q := 6) rfl rfl ?_
  refine Go.sipush C (128 : Int32) d1_6 (q := 9) rfl rfl ?_
  refine Go.icmp C d1_9 (n_lt _ _) (qt := 33) (q := 12) (by decide) (by decide) rfl (fun b5 => absurd b5 c1) (fun _ => ?_)
  refine Go.aloadN C d1_12 (q := 13) rfl rfl rfl ?_
  refine Go.iload C d1_13 (q := 15) rfl rfl ?_
  refine Go.iincR C d1_15 (q := 18) rfl rfl (l' := #[.val (.ref x), .val (.int (1 : Int32)), .val (.int vv), .val (.int ((vv.toUInt32 >>> ((7 : Int32) &&& 31).toUInt32).toInt32)), .val (.int (3 : Int32))]) rfl ?_
  refine Go.iloadN C d1_18 (q := 19) rfl rfl ?_
  refine Go.sipush C (128 : Int32) d1_19 (q := 22) rfl rfl ?_
  refine Go.ior C d1_22 (q := 23) rfl ?_
  refine Go.i2b C d1_23 (q := 24) rfl ?_
  refine Go.bastore C F4 2 (by decide) (by decide) (by decide) g0 d1_24 (q := 25) rfl ?_
  intro h6 W7
  have F8 := F4.sameI W7
  refine Go.iloadN C d1_25 (q := 26) rfl rfl ?_
  refine Go.bipush C (7 : Int32) d1_26 (q := 28) rfl rfl ?_
  refine Go.iushr C d1_28 (q := 29) rfl ?_
  refine Go.istoreNR C d1_29 (q := 30) rfl (l' := #[.val (.ref x), .val (.int (1 : Int32)), .val (.int vv), .val (.int ((((vv.toUInt32 >>> ((7 : Int32) &&& 31).toUInt32).toInt32).toUInt32 >>> ((7 : Int32) &&& 31).toUInt32).toInt32)), .val (.int (3 : Int32))]) rfl ?_
  refine Go.goto C d1_30 (q := 5) (by decide) (by decide) ?_
  refine Go.iloadN C d1_5 (q := 6) rfl rfl ?_
  refine Go.sipush C (128 : Int32) d1_6 (q := 9) rfl rfl ?_
  refine Go.icmp C d1_9 (n_lt _ _) (qt := 33) (q := 12) (by decide) (by decide) rfl (fun b9 => absurd b9 c2) (fun _ => ?_)
  refine Go.aloadN C d1_12 (q := 13) rfl rfl rfl ?_
  refine Go.iload C d1_13 (q := 15) rfl rfl ?_
  refine Go.iincR C d1_15 (q := 18) rfl rfl (l' := #[.val (.ref x), .val (.int (1 : Int32)), .val (.int vv), .val (.int ((((vv.toUInt32 >>> ((7 : Int32) &&& 31).toUInt32).toInt32).toUInt32 >>> ((7 : Int32) &&& 31).toUInt32).toInt32)), .val (.int (4 : Int32))]) rfl ?_
  refine Go.iloadN C d1_18 (q := 19) rfl rfl ?_
  refine Go.sipush C (128 : Int32) d1_19 (q := 22) rfl rfl ?_
  refine Go.ior C d1_22 (q := 23) rfl ?_
  refine Go.i2b C d1_23 (q := 24) rfl ?_
  refine Go.bastore C F8 3 (by decide) (by decide) (by decide) g0 d1_24 (q := 25) rfl ?_
  intro h10 W11
  have F12 := F8.sameI W11
  refine Go.iloadN C d1_25 (q := 26) rfl rfl ?_
  refine Go.bipush C (7 : Int32) d1_26 (q := 28) rfl rfl ?_
  refine Go.iushr C d1_28 (q := 29) rfl ?_
  refine Go.istoreNR C d1_29 (q := 30) rfl (l' := #[.val (.ref x), .val (.int (1 : Int32)), .val (.int vv), .val (.int ((((((vv.toUInt32 >>> ((7 : Int32) &&& 31).toUInt32).toInt32).toUInt32 >>> ((7 : Int32) &&& 31).toUInt32).toInt32).toUInt32 >>> ((7 : Int32) &&& 31).toUInt32).toInt32)), .val (.int (4 : Int32))]) rfl ?_
  refine Go.goto C d1_30 (q := 5) (by decide) (by decide) ?_
  refine Go.iloadN C d1_5 (q := 6) rfl rfl ?_
  refine Go.sipush C (128 : Int32) d1_6 (q := 9) rfl rfl ?_
  refine Go.icmp C d1_9 (n_lt _ _) (qt := 33) (q := 12) (by decide) (by decide) rfl (fun _ => ?_) (fun b13 => absurd c3 b13)
  refine Go.aloadN C d1_33 (q := 34) rfl rfl rfl ?_
  refine Go.iload C d1_34 (q := 36) rfl rfl ?_
  refine Go.iincR C d1_36 (q := 39) rfl rfl (l' := #[.val (.ref x), .val (.int (1 : Int32)), .val (.int vv), .val (.int ((((((vv.toUInt32 >>> ((7 : Int32) &&& 31).toUInt32).toInt32).toUInt32 >>> ((7 : Int32) &&& 31).toUInt32).toInt32).toUInt32 >>> ((7 : Int32) &&& 31).toUInt32).toInt32)), .val (.int (5 : Int32))]) rfl ?_
  refine Go.iloadN C d1_39 (q := 40) rfl rfl ?_
  refine Go.i2b C d1_40 (q := 41) rfl ?_
  refine Go.bastore C F12 4 (by decide) (by decide) (by decide) g0 d1_41 (q := 42) rfl ?_
  intro h14 W15
  have F16 := F12.sameI W15
  refine Go.iload C d1_42 (q := 44) rfl rfl ?_
  exact Go.retI C d1_44 (by decide) (by decide) ⟨rfl, (((((Keep.refl h0 [x]).wr W3 (Or.inl (List.mem_of_getElem? (i := 0) rfl))).wr W7 (Or.inl (List.mem_of_getElem? (i := 0) rfl))).wr W11 (Or.inl (List.mem_of_getElem? (i := 0) rfl))).wr W15 (Or.inl (List.mem_of_getElem? (i := 0) rfl))), F16⟩
set_option maxRecDepth 65536 in
theorem c_put1_5 (l : Launch) (Z : State) (a0 : Array Value) (hw : ∀ d ∈ tables_1, d.before a0 Z = true) (x : Addr) (vv : Int32) (h0 : Heap) (n0 : Nat) (g : Nat → Int32) (Z0 : n0 ≤ h0.size) (A0 : Av Z h0 x .byte 8 (iF g)) (g0 : n0 ≤ x) (c0 : ¬ vv < (128 : Int32)) (c1 : ¬ ((vv.toUInt32 >>> ((7 : Int32) &&& 31).toUInt32).toInt32) < (128 : Int32)) (c2 : ¬ ((((vv.toUInt32 >>> ((7 : Int32) &&& 31).toUInt32).toInt32).toUInt32 >>> ((7 : Int32) &&& 31).toUInt32).toInt32) < (128 : Int32)) (c3 : ¬ ((((((vv.toUInt32 >>> ((7 : Int32) &&& 31).toUInt32).toInt32).toUInt32 >>> ((7 : Int32) &&& 31).toUInt32).toInt32).toUInt32 >>> ((7 : Int32) &&& 31).toUInt32).toInt32) < (128 : Int32)) (c4 : ((((((((vv.toUInt32 >>> ((7 : Int32) &&& 31).toUInt32).toInt32).toUInt32 >>> ((7 : Int32) &&& 31).toUInt32).toInt32).toUInt32 >>> ((7 : Int32) &&& 31).toUInt32).toInt32).toUInt32 >>> ((7 : Int32) &&& 31).toUInt32).toInt32) < (128 : Int32)) : Met1 l Z (⟨"com/example/revleaf/revleaf/Node", "putVarint", "([BII)I"⟩ : MethodName) prog_26_method_63_code 5 (some .int) [] ({ frames := 0, cells := 0, slots := 0, locals := 0 } : Room) #[(.ref x), (.int (1 : Int32)), (.int vv)] h0 n0 (fun v h => v = some (.int (6 : Int32)) ∧ Keep h0 h [x] ∧ Av Z h x .byte 8 (iF (upd (upd (upd (upd (upd g 1 (nar .byte (vv ||| (128 : Int32)).toInt8.toInt32)) 2 (nar .byte (((vv.toUInt32 >>> ((7 : Int32) &&& 31).toUInt32).toInt32) ||| (128 : Int32)).toInt8.toInt32)) 3 (nar .byte (((((vv.toUInt32 >>> ((7 : Int32) &&& 31).toUInt32).toInt32).toUInt32 >>> ((7 : Int32) &&& 31).toUInt32).toInt32) ||| (128 : Int32)).toInt8.toInt32)) 4 (nar .byte (((((((vv.toUInt32 >>> ((7 : Int32) &&& 31).toUInt32).toInt32).toUInt32 >>> ((7 : Int32) &&& 31).toUInt32).toInt32).toUInt32 >>> ((7 : Int32) &&& 31).toUInt32).toInt32) ||| (128 : Int32)).toInt8.toInt32)) 5 (nar .byte ((((((((vv.toUInt32 >>> ((7 : Int32) &&& 31).toUInt32).toInt32).toUInt32 >>> ((7 : Int32) &&& 31).toUInt32).toInt32).toUInt32 >>> ((7 : Int32) &&& 31).toUInt32).toInt32).toUInt32 >>> ((7 : Int32) &&& 31).toUInt32).toInt32).toInt8.toInt32)))) := by
  refine met_of_go (plainFor_of_name pn_com_example_revleaf_revleaf_Node) (fun m => ef_1_l1_1Int32 m x vv) ?_
  intro W hl C
  subst hl
  refine Go.iloadN C d1_0 (q := 1) rfl rfl ?_
  refine Go.istoreNR C d1_1 (q := 2) rfl (l' := #[.val (.ref x), .val (.int (1 : Int32)), .val (.int vv), .val (.int vv), .unset]) rfl ?_
  refine Go.iloadN C d1_2 (q := 3) rfl rfl ?_
  refine Go.istoreR C d1_3 (q := 5) rfl (l' := #[.val (.ref x), .val (.int (1 : Int32)), .val (.int vv), .val (.int vv), .val (.int (1 : Int32))]) rfl ?_
  refine Go.iloadN C d1_5 (q := 6) rfl rfl ?_
  refine Go.sipush C (128 : Int32) d1_6 (q := 9) rfl rfl ?_
  refine Go.icmp C d1_9 (n_lt _ _) (qt := 33) (q := 12) (by decide) (by decide) rfl (fun b1 => absurd b1 c0) (fun _ => ?_)
  refine Go.aloadN C d1_12 (q := 13) rfl rfl rfl ?_
  refine Go.iload C d1_13 (q := 15) rfl rfl ?_
  refine Go.iincR C d1_15 (q := 18) rfl rfl (l' := #[.val (.ref x), .val (.int (1 : Int32)), .val (.int vv), .val (.int vv), .val (.int (2 : Int32))]) rfl ?_
  refine Go.iloadN C d1_18 (q := 19) rfl rfl ?_
  refine Go.sipush C (128 : Int32) d1_19 (q := 22) rfl rfl ?_
  refine Go.ior C d1_22 (q := 23) rfl ?_
  refine Go.i2b C d1_23 (q := 24) rfl ?_
  refine Go.bastore C A0 1 (by decide) (by decide) (by decide) g0 d1_24 (q := 25) rfl ?_
  intro h2 W3
  have F4 := A0.sameI W3
  refine Go.iloadN C d1_25 (q := 26) rfl rfl ?_
  refine Go.bipush C (7 : Int32) d1_26 (q := 28) rfl rfl ?_
  refine Go.iushr C d1_28 (q := 29) rfl ?_
  refine Go.istoreNR C d1_29 (q := 30) rfl (l' := #[.val (.ref x), .val (.int (1 : Int32)), .val (.int vv), .val (.int ((vv.toUInt32 >>> ((7 : Int32) &&& 31).toUInt32).toInt32)), .val (.int (2 : Int32))]) rfl ?_
  refine Go.goto C d1_30 (q := 5) (by decide) (by decide) ?_
  refine Go.iloadN C d1_5 (q := 6) rfl rfl ?_
  refine Go.sipush C (128 : Int32) d1_6 (q := 9) rfl rfl ?_
  refine Go.icmp C d1_9 (n_lt _ _) (qt := 33) (q := 12) (by decide) (by decide) rfl (fun b5 => absurd b5 c1) (fun _ => ?_)
  refine Go.aloadN C d1_12 (q := 13) rfl rfl rfl ?_
  refine Go.iload C d1_13 (q := 15) rfl rfl ?_
  refine Go.iincR C d1_15 (q := 18) rfl rfl (l' := #[.val (.ref x), .val (.int (1 : Int32)), .val (.int vv), .val (.int ((vv.toUInt32 >>> ((7 : Int32) &&& 31).toUInt32).toInt32)), .val (.int (3 : Int32))]) rfl ?_
  refine Go.iloadN C d1_18 (q := 19) rfl rfl ?_
  refine Go.sipush C (128 : Int32) d1_19 (q := 22) rfl rfl ?_
  refine Go.ior C d1_22 (q := 23) rfl ?_
  refine Go.i2b C d1_23 (q := 24) rfl ?_
  refine Go.bastore C F4 2 (by decide) (by decide) (by decide) g0 d1_24 (q := 25) rfl ?_
  intro h6 W7
  have F8 := F4.sameI W7
  refine Go.iloadN C d1_25 (q := 26) rfl rfl ?_
  refine Go.bipush C (7 : Int32) d1_26 (q := 28) rfl rfl ?_
  refine Go.iushr C d1_28 (q := 29) rfl ?_
  refine Go.istoreNR C d1_29 (q := 30) rfl (l' := #[.val (.ref x), .val (.int (1 : Int32)), .val (.int vv), .val (.int ((((vv.toUInt32 >>> ((7 : Int32) &&& 31).toUInt32).toInt32).toUInt32 >>> ((7 : Int32) &&& 31).toUInt32).toInt32)), .val (.int (3 : Int32))]) rfl ?_
  refine Go.goto C d1_30 (q := 5) (by decide) (by decide) ?_
  refine Go.iloadN C d1_5 (q := 6) rfl rfl ?_
  refine Go.sipush C (128 : Int32) d1_6 (q := 9) rfl rfl ?_
  refine Go.icmp C d1_9 (n_lt _ _) (qt := 33) (q := 12) (by decide) (by decide) rfl (fun b9 => absurd b9 c2) (fun _ => ?_)
  refine Go.aloadN C d1_12 (q := 13) rfl rfl rfl ?_
  refine Go.iload C d1_13 (q := 15) rfl rfl ?_
  refine Go.iincR C d1_15 (q := 18) rfl rfl (l' := #[.val (.ref x), .val (.int (1 : Int32)), .val (.int vv), .val (.int ((((vv.toUInt32 >>> ((7 : Int32) &&& 31).toUInt32).toInt32).toUInt32 >>> ((7 : Int32) &&& 31).toUInt32).toInt32)), .val (.int (4 : Int32))]) rfl ?_
  refine Go.iloadN C d1_18 (q := 19) rfl rfl ?_
  refine Go.sipush C (128 : Int32) d1_19 (q := 22) rfl rfl ?_
  refine Go.ior C d1_22 (q := 23) rfl ?_
  refine Go.i2b C d1_23 (q := 24) rfl ?_
  refine Go.bastore C F8 3 (by decide) (by decide) (by decide) g0 d1_24 (q := 25) rfl ?_
  intro h10 W11
  have F12 := F8.sameI W11
  refine Go.iloadN C d1_25 (q := 26) rfl rfl ?_
  refine Go.bipush C (7 : Int32) d1_26 (q := 28) rfl rfl ?_
  refine Go.iushr C d1_28 (q := 29) rfl ?_
  refine Go.istoreNR C d1_29 (q := 30) rfl (l' := #[.val (.ref x), .val (.int (1 : Int32)), .val (.int vv), .val (.int ((((((vv.toUInt32 >>> ((7 : Int32) &&& 31).toUInt32).toInt32).toUInt32 >>> ((7 : Int32) &&& 31).toUInt32).toInt32).toUInt32 >>> ((7 : Int32) &&& 31).toUInt32).toInt32)), .val (.int (4 : Int32))]) rfl ?_
  refine Go.goto C d1_30 (q := 5) (by decide) (by decide) ?_
  refine Go.iloadN C d1_5 (q := 6) rfl rfl ?_
  refine Go.sipush C (128 : Int32) d1_6 (q := 9) rfl rfl ?_
  refine Go.icmp C d1_9 (n_lt _ _) (qt := 33) (q := 12) (by decide) (by decide) rfl (fun b13 => absurd b13 c3) (fun _ => ?_)
  refine Go.aloadN C d1_12 (q := 13) rfl rfl rfl ?_
  refine Go.iload C d1_13 (q := 15) rfl rfl ?_
  refine Go.iincR C d1_15 (q := 18) rfl rfl (l' := #[.val (.ref x), .val (.int (1 : Int32)), .val (.int vv), .val (.int ((((((vv.toUInt32 >>> ((7 : Int32) &&& 31).toUInt32).toInt32).toUInt32 >>> ((7 : Int32) &&& 31).toUInt32).toInt32).toUInt32 >>> ((7 : Int32) &&& 31).toUInt32).toInt32)), .val (.int (5 : Int32))]) rfl ?_
  refine Go.iloadN C d1_18 (q := 19) rfl rfl ?_
  refine Go.sipush C (128 : Int32) d1_19 (q := 22) rfl rfl ?_
  refine Go.ior C d1_22 (q := 23) rfl ?_
  refine Go.i2b C d1_23 (q := 24) rfl ?_
  refine Go.bastore C F12 4 (by decide) (by decide) (by decide) g0 d1_24 (q := 25) rfl ?_
  intro h14 W15
  have F16 := F12.sameI W15
  refine Go.iloadN C d1_25 (q := 26) rfl rfl ?_
  refine Go.bipush C (7 : Int32) d1_26 (q := 28) rfl rfl ?_
  refine Go.iushr C d1_28 (q := 29) rfl ?_
  refine Go.istoreNR C d1_29 (q := 30) rfl (l' := #[.val (.ref x), .val (.int (1 : Int32)), .val (.int vv), .val (.int ((((((((vv.toUInt32 >>> ((7 : Int32) &&& 31).toUInt32).toInt32).toUInt32 >>> ((7 : Int32) &&& 31).toUInt32).toInt32).toUInt32 >>> ((7 : Int32) &&& 31).toUInt32).toInt32).toUInt32 >>> ((7 : Int32) &&& 31).toUInt32).toInt32)), .val (.int (5 : Int32))]) rfl ?_
  refine Go.goto C d1_30 (q := 5) (by decide) (by decide) ?_
  refine Go.iloadN C d1_5 (q := 6) rfl rfl ?_
  refine Go.sipush C (128 : Int32) d1_6 (q := 9) rfl rfl ?_
  refine Go.icmp C d1_9 (n_lt _ _) (qt := 33) (q := 12) (by decide) (by decide) rfl (fun _ => ?_) (fun b17 => absurd c4 b17)
  refine Go.aloadN C d1_33 (q := 34) rfl rfl rfl ?_
  refine Go.iload C d1_34 (q := 36) rfl rfl ?_
  refine Go.iincR C d1_36 (q := 39) rfl rfl (l' := #[.val (.ref x), .val (.int (1 : Int32)), .val (.int vv), .val (.int ((((((((vv.toUInt32 >>> ((7 : Int32) &&& 31).toUInt32).toInt32).toUInt32 >>> ((7 : Int32) &&& 31).toUInt32).toInt32).toUInt32 >>> ((7 : Int32) &&& 31).toUInt32).toInt32).toUInt32 >>> ((7 : Int32) &&& 31).toUInt32).toInt32)), .val (.int (6 : Int32))]) rfl ?_
  refine Go.iloadN C d1_39 (q := 40) rfl rfl ?_
  refine Go.i2b C d1_40 (q := 41) rfl ?_
  refine Go.bastore C F16 5 (by decide) (by decide) (by decide) g0 d1_41 (q := 42) rfl ?_
  intro h18 W19
  have F20 := F16.sameI W19
  refine Go.iload C d1_42 (q := 44) rfl rfl ?_
  exact Go.retI C d1_44 (by decide) (by decide) ⟨rfl, ((((((Keep.refl h0 [x]).wr W3 (Or.inl (List.mem_of_getElem? (i := 0) rfl))).wr W7 (Or.inl (List.mem_of_getElem? (i := 0) rfl))).wr W11 (Or.inl (List.mem_of_getElem? (i := 0) rfl))).wr W15 (Or.inl (List.mem_of_getElem? (i := 0) rfl))).wr W19 (Or.inl (List.mem_of_getElem? (i := 0) rfl))), F20⟩
set_option maxRecDepth 65536 in
theorem c_put2_1 (l : Launch) (Z : State) (a0 : Array Value) (hw : ∀ d ∈ tables_1, d.before a0 Z = true) (x : Addr) (vv : Int32) (h0 : Heap) (n0 : Nat) (g : Nat → Int32) (Z0 : n0 ≤ h0.size) (A0 : Av Z h0 x .byte 8 (iF g)) (g0 : n0 ≤ x) (c0 : vv < (128 : Int32)) : Met1 l Z (⟨"com/example/revleaf/revleaf/Node", "putVarint", "([BII)I"⟩ : MethodName) prog_26_method_63_code 5 (some .int) [] ({ frames := 0, cells := 0, slots := 0, locals := 0 } : Room) #[(.ref x), (.int (2 : Int32)), (.int vv)] h0 n0 (fun v h => v = some (.int (3 : Int32)) ∧ Keep h0 h [x] ∧ Av Z h x .byte 8 (iF (upd g 2 (nar .byte vv.toInt8.toInt32)))) := by
  refine met_of_go (plainFor_of_name pn_com_example_revleaf_revleaf_Node) (fun m => ef_1_l1_2Int32 m x vv) ?_
  intro W hl C
  subst hl
  refine Go.iloadN C d1_0 (q := 1) rfl rfl ?_
  refine Go.istoreNR C d1_1 (q := 2) rfl (l' := #[.val (.ref x), .val (.int (2 : Int32)), .val (.int vv), .val (.int vv), .unset]) rfl ?_
  refine Go.iloadN C d1_2 (q := 3) rfl rfl ?_
  refine Go.istoreR C d1_3 (q := 5) rfl (l' := #[.val (.ref x), .val (.int (2 : Int32)), .val (.int vv), .val (.int vv), .val (.int (2 : Int32))]) rfl ?_
  refine Go.iloadN C d1_5 (q := 6) rfl rfl ?_
  refine Go.sipush C (128 : Int32) d1_6 (q := 9) rfl rfl ?_
  refine Go.icmp C d1_9 (n_lt _ _) (qt := 33) (q := 12) (by decide) (by decide) rfl (fun _ => ?_) (fun b1 => absurd c0 b1)
  refine Go.aloadN C d1_33 (q := 34) rfl rfl rfl ?_
  refine Go.iload C d1_34 (q := 36) rfl rfl ?_
  refine Go.iincR C d1_36 (q := 39) rfl rfl (l' := #[.val (.ref x), .val (.int (2 : Int32)), .val (.int vv), .val (.int vv), .val (.int (3 : Int32))]) rfl ?_
  refine Go.iloadN C d1_39 (q := 40) rfl rfl ?_
  refine Go.i2b C d1_40 (q := 41) rfl ?_
  refine Go.bastore C A0 2 (by decide) (by decide) (by decide) g0 d1_41 (q := 42) rfl ?_
  intro h2 W3
  have F4 := A0.sameI W3
  refine Go.iload C d1_42 (q := 44) rfl rfl ?_
  exact Go.retI C d1_44 (by decide) (by decide) ⟨rfl, ((Keep.refl h0 [x]).wr W3 (Or.inl (List.mem_of_getElem? (i := 0) rfl))), F4⟩
set_option maxRecDepth 65536 in
theorem c_put2_2 (l : Launch) (Z : State) (a0 : Array Value) (hw : ∀ d ∈ tables_1, d.before a0 Z = true) (x : Addr) (vv : Int32) (h0 : Heap) (n0 : Nat) (g : Nat → Int32) (Z0 : n0 ≤ h0.size) (A0 : Av Z h0 x .byte 8 (iF g)) (g0 : n0 ≤ x) (c0 : ¬ vv < (128 : Int32)) (c1 : ((vv.toUInt32 >>> ((7 : Int32) &&& 31).toUInt32).toInt32) < (128 : Int32)) : Met1 l Z (⟨"com/example/revleaf/revleaf/Node", "putVarint", "([BII)I"⟩ : MethodName) prog_26_method_63_code 5 (some .int) [] ({ frames := 0, cells := 0, slots := 0, locals := 0 } : Room) #[(.ref x), (.int (2 : Int32)), (.int vv)] h0 n0 (fun v h => v = some (.int (4 : Int32)) ∧ Keep h0 h [x] ∧ Av Z h x .byte 8 (iF (upd (upd g 2 (nar .byte (vv ||| (128 : Int32)).toInt8.toInt32)) 3 (nar .byte ((vv.toUInt32 >>> ((7 : Int32) &&& 31).toUInt32).toInt32).toInt8.toInt32)))) := by
  refine met_of_go (plainFor_of_name pn_com_example_revleaf_revleaf_Node) (fun m => ef_1_l1_2Int32 m x vv) ?_
  intro W hl C
  subst hl
  refine Go.iloadN C d1_0 (q := 1) rfl rfl ?_
  refine Go.istoreNR C d1_1 (q := 2) rfl (l' := #[.val (.ref x), .val (.int (2 : Int32)), .val (.int vv), .val (.int vv), .unset]) rfl ?_
  refine Go.iloadN C d1_2 (q := 3) rfl rfl ?_
  refine Go.istoreR C d1_3 (q := 5) rfl (l' := #[.val (.ref x), .val (.int (2 : Int32)), .val (.int vv), .val (.int vv), .val (.int (2 : Int32))]) rfl ?_
  refine Go.iloadN C d1_5 (q := 6) rfl rfl ?_
  refine Go.sipush C (128 : Int32) d1_6 (q := 9) rfl rfl ?_
  refine Go.icmp C d1_9 (n_lt _ _) (qt := 33) (q := 12) (by decide) (by decide) rfl (fun b1 => absurd b1 c0) (fun _ => ?_)
  refine Go.aloadN C d1_12 (q := 13) rfl rfl rfl ?_
  refine Go.iload C d1_13 (q := 15) rfl rfl ?_
  refine Go.iincR C d1_15 (q := 18) rfl rfl (l' := #[.val (.ref x), .val (.int (2 : Int32)), .val (.int vv), .val (.int vv), .val (.int (3 : Int32))]) rfl ?_
  refine Go.iloadN C d1_18 (q := 19) rfl rfl ?_
  refine Go.sipush C (128 : Int32) d1_19 (q := 22) rfl rfl ?_
  refine Go.ior C d1_22 (q := 23) rfl ?_
  refine Go.i2b C d1_23 (q := 24) rfl ?_
  refine Go.bastore C A0 2 (by decide) (by decide) (by decide) g0 d1_24 (q := 25) rfl ?_
  intro h2 W3
  have F4 := A0.sameI W3
  refine Go.iloadN C d1_25 (q := 26) rfl rfl ?_
  refine Go.bipush C (7 : Int32) d1_26 (q := 28) rfl rfl ?_
  refine Go.iushr C d1_28 (q := 29) rfl ?_
  refine Go.istoreNR C d1_29 (q := 30) rfl (l' := #[.val (.ref x), .val (.int (2 : Int32)), .val (.int vv), .val (.int ((vv.toUInt32 >>> ((7 : Int32) &&& 31).toUInt32).toInt32)), .val (.int (3 : Int32))]) rfl ?_
  refine Go.goto C d1_30 (q := 5) (by decide) (by decide) ?_
  refine Go.iloadN C d1_5 (q := 6) rfl rfl ?_
  refine Go.sipush C (128 : Int32) d1_6 (q := 9) rfl rfl ?_
  refine Go.icmp C d1_9 (n_lt _ _) (qt := 33) (q := 12) (by decide) (by decide) rfl (fun _ => ?_) (fun b5 => absurd c1 b5)
  refine Go.aloadN C d1_33 (q := 34) rfl rfl rfl ?_
  refine Go.iload C d1_34 (q := 36) rfl rfl ?_
  refine Go.iincR C d1_36 (q := 39) rfl rfl (l' := #[.val (.ref x), .val (.int (2 : Int32)), .val (.int vv), .val (.int ((vv.toUInt32 >>> ((7 : Int32) &&& 31).toUInt32).toInt32)), .val (.int (4 : Int32))]) rfl ?_
  refine Go.iloadN C d1_39 (q := 40) rfl rfl ?_
  refine Go.i2b C d1_40 (q := 41) rfl ?_
  refine Go.bastore C F4 3 (by decide) (by decide) (by decide) g0 d1_41 (q := 42) rfl ?_
  intro h6 W7
  have F8 := F4.sameI W7
  refine Go.iload C d1_42 (q := 44) rfl rfl ?_
  exact Go.retI C d1_44 (by decide) (by decide) ⟨rfl, (((Keep.refl h0 [x]).wr W3 (Or.inl (List.mem_of_getElem? (i := 0) rfl))).wr W7 (Or.inl (List.mem_of_getElem? (i := 0) rfl))), F8⟩
set_option maxRecDepth 65536 in
theorem c_put2_3 (l : Launch) (Z : State) (a0 : Array Value) (hw : ∀ d ∈ tables_1, d.before a0 Z = true) (x : Addr) (vv : Int32) (h0 : Heap) (n0 : Nat) (g : Nat → Int32) (Z0 : n0 ≤ h0.size) (A0 : Av Z h0 x .byte 8 (iF g)) (g0 : n0 ≤ x) (c0 : ¬ vv < (128 : Int32)) (c1 : ¬ ((vv.toUInt32 >>> ((7 : Int32) &&& 31).toUInt32).toInt32) < (128 : Int32)) (c2 : ((((vv.toUInt32 >>> ((7 : Int32) &&& 31).toUInt32).toInt32).toUInt32 >>> ((7 : Int32) &&& 31).toUInt32).toInt32) < (128 : Int32)) : Met1 l Z (⟨"com/example/revleaf/revleaf/Node", "putVarint", "([BII)I"⟩ : MethodName) prog_26_method_63_code 5 (some .int) [] ({ frames := 0, cells := 0, slots := 0, locals := 0 } : Room) #[(.ref x), (.int (2 : Int32)), (.int vv)] h0 n0 (fun v h => v = some (.int (5 : Int32)) ∧ Keep h0 h [x] ∧ Av Z h x .byte 8 (iF (upd (upd (upd g 2 (nar .byte (vv ||| (128 : Int32)).toInt8.toInt32)) 3 (nar .byte (((vv.toUInt32 >>> ((7 : Int32) &&& 31).toUInt32).toInt32) ||| (128 : Int32)).toInt8.toInt32)) 4 (nar .byte ((((vv.toUInt32 >>> ((7 : Int32) &&& 31).toUInt32).toInt32).toUInt32 >>> ((7 : Int32) &&& 31).toUInt32).toInt32).toInt8.toInt32)))) := by
  refine met_of_go (plainFor_of_name pn_com_example_revleaf_revleaf_Node) (fun m => ef_1_l1_2Int32 m x vv) ?_
  intro W hl C
  subst hl
  refine Go.iloadN C d1_0 (q := 1) rfl rfl ?_
  refine Go.istoreNR C d1_1 (q := 2) rfl (l' := #[.val (.ref x), .val (.int (2 : Int32)), .val (.int vv), .val (.int vv), .unset]) rfl ?_
  refine Go.iloadN C d1_2 (q := 3) rfl rfl ?_
  refine Go.istoreR C d1_3 (q := 5) rfl (l' := #[.val (.ref x), .val (.int (2 : Int32)), .val (.int vv), .val (.int vv), .val (.int (2 : Int32))]) rfl ?_
  refine Go.iloadN C d1_5 (q := 6) rfl rfl ?_
  refine Go.sipush C (128 : Int32) d1_6 (q := 9) rfl rfl ?_
  refine Go.icmp C d1_9 (n_lt _ _) (qt := 33) (q := 12) (by decide) (by decide) rfl (fun b1 => absurd b1 c0) (fun _ => ?_)
  refine Go.aloadN C d1_12 (q := 13) rfl rfl rfl ?_
  refine Go.iload C d1_13 (q := 15) rfl rfl ?_
  refine Go.iincR C d1_15 (q := 18) rfl rfl (l' := #[.val (.ref x), .val (.int (2 : Int32)), .val (.int vv), .val (.int vv), .val (.int (3 : Int32))]) rfl ?_
  refine Go.iloadN C d1_18 (q := 19) rfl rfl ?_
  refine Go.sipush C (128 : Int32) d1_19 (q := 22) rfl rfl ?_
  refine Go.ior C d1_22 (q := 23) rfl ?_
  refine Go.i2b C d1_23 (q := 24) rfl ?_
  refine Go.bastore C A0 2 (by decide) (by decide) (by decide) g0 d1_24 (q := 25) rfl ?_
  intro h2 W3
  have F4 := A0.sameI W3
  refine Go.iloadN C d1_25 (q := 26) rfl rfl ?_
  refine Go.bipush C (7 : Int32) d1_26 (q := 28) rfl rfl ?_
  refine Go.iushr C d1_28 (q := 29) rfl ?_
  refine Go.istoreNR C d1_29 (q := 30) rfl (l' := #[.val (.ref x), .val (.int (2 : Int32)), .val (.int vv), .val (.int ((vv.toUInt32 >>> ((7 : Int32) &&& 31).toUInt32).toInt32)), .val (.int (3 : Int32))]) rfl ?_
  refine Go.goto C d1_30 (q := 5) (by decide) (by decide) ?_
  refine Go.iloadN C d1_5 (q := 6) rfl rfl ?_
  refine Go.sipush C (128 : Int32) d1_6 (q := 9) rfl rfl ?_
  refine Go.icmp C d1_9 (n_lt _ _) (qt := 33) (q := 12) (by decide) (by decide) rfl (fun b5 => absurd b5 c1) (fun _ => ?_)
  refine Go.aloadN C d1_12 (q := 13) rfl rfl rfl ?_
  refine Go.iload C d1_13 (q := 15) rfl rfl ?_
  refine Go.iincR C d1_15 (q := 18) rfl rfl (l' := #[.val (.ref x), .val (.int (2 : Int32)), .val (.int vv), .val (.int ((vv.toUInt32 >>> ((7 : Int32) &&& 31).toUInt32).toInt32)), .val (.int (4 : Int32))]) rfl ?_
  refine Go.iloadN C d1_18 (q := 19) rfl rfl ?_
  refine Go.sipush C (128 : Int32) d1_19 (q := 22) rfl rfl ?_
  refine Go.ior C d1_22 (q := 23) rfl ?_
  refine Go.i2b C d1_23 (q := 24) rfl ?_
  refine Go.bastore C F4 3 (by decide) (by decide) (by decide) g0 d1_24 (q := 25) rfl ?_
  intro h6 W7
  have F8 := F4.sameI W7
  refine Go.iloadN C d1_25 (q := 26) rfl rfl ?_
  refine Go.bipush C (7 : Int32) d1_26 (q := 28) rfl rfl ?_
  refine Go.iushr C d1_28 (q := 29) rfl ?_
  refine Go.istoreNR C d1_29 (q := 30) rfl (l' := #[.val (.ref x), .val (.int (2 : Int32)), .val (.int vv), .val (.int ((((vv.toUInt32 >>> ((7 : Int32) &&& 31).toUInt32).toInt32).toUInt32 >>> ((7 : Int32) &&& 31).toUInt32).toInt32)), .val (.int (4 : Int32))]) rfl ?_
  refine Go.goto C d1_30 (q := 5) (by decide) (by decide) ?_
  refine Go.iloadN C d1_5 (q := 6) rfl rfl ?_
  refine Go.sipush C (128 : Int32) d1_6 (q := 9) rfl rfl ?_
  refine Go.icmp C d1_9 (n_lt _ _) (qt := 33) (q := 12) (by decide) (by decide) rfl (fun _ => ?_) (fun b9 => absurd c2 b9)
  refine Go.aloadN C d1_33 (q := 34) rfl rfl rfl ?_
  refine Go.iload C d1_34 (q := 36) rfl rfl ?_
  refine Go.iincR C d1_36 (q := 39) rfl rfl (l' := #[.val (.ref x), .val (.int (2 : Int32)), .val (.int vv), .val (.int ((((vv.toUInt32 >>> ((7 : Int32) &&& 31).toUInt32).toInt32).toUInt32 >>> ((7 : Int32) &&& 31).toUInt32).toInt32)), .val (.int (5 : Int32))]) rfl ?_
  refine Go.iloadN C d1_39 (q := 40) rfl rfl ?_
  refine Go.i2b C d1_40 (q := 41) rfl ?_
  refine Go.bastore C F8 4 (by decide) (by decide) (by decide) g0 d1_41 (q := 42) rfl ?_
  intro h10 W11
  have F12 := F8.sameI W11
  refine Go.iload C d1_42 (q := 44) rfl rfl ?_
  exact Go.retI C d1_44 (by decide) (by decide) ⟨rfl, ((((Keep.refl h0 [x]).wr W3 (Or.inl (List.mem_of_getElem? (i := 0) rfl))).wr W7 (Or.inl (List.mem_of_getElem? (i := 0) rfl))).wr W11 (Or.inl (List.mem_of_getElem? (i := 0) rfl))), F12⟩
set_option maxRecDepth 65536 in
theorem c_put2_4 (l : Launch) (Z : State) (a0 : Array Value) (hw : ∀ d ∈ tables_1, d.before a0 Z = true) (x : Addr) (vv : Int32) (h0 : Heap) (n0 : Nat) (g : Nat → Int32) (Z0 : n0 ≤ h0.size) (A0 : Av Z h0 x .byte 8 (iF g)) (g0 : n0 ≤ x) (c0 : ¬ vv < (128 : Int32)) (c1 : ¬ ((vv.toUInt32 >>> ((7 : Int32) &&& 31).toUInt32).toInt32) < (128 : Int32)) (c2 : ¬ ((((vv.toUInt32 >>> ((7 : Int32) &&& 31).toUInt32).toInt32).toUInt32 >>> ((7 : Int32) &&& 31).toUInt32).toInt32) < (128 : Int32)) (c3 : ((((((vv.toUInt32 >>> ((7 : Int32) &&& 31).toUInt32).toInt32).toUInt32 >>> ((7 : Int32) &&& 31).toUInt32).toInt32).toUInt32 >>> ((7 : Int32) &&& 31).toUInt32).toInt32) < (128 : Int32)) : Met1 l Z (⟨"com/example/revleaf/revleaf/Node", "putVarint", "([BII)I"⟩ : MethodName) prog_26_method_63_code 5 (some .int) [] ({ frames := 0, cells := 0, slots := 0, locals := 0 } : Room) #[(.ref x), (.int (2 : Int32)), (.int vv)] h0 n0 (fun v h => v = some (.int (6 : Int32)) ∧ Keep h0 h [x] ∧ Av Z h x .byte 8 (iF (upd (upd (upd (upd g 2 (nar .byte (vv ||| (128 : Int32)).toInt8.toInt32)) 3 (nar .byte (((vv.toUInt32 >>> ((7 : Int32) &&& 31).toUInt32).toInt32) ||| (128 : Int32)).toInt8.toInt32)) 4 (nar .byte (((((vv.toUInt32 >>> ((7 : Int32) &&& 31).toUInt32).toInt32).toUInt32 >>> ((7 : Int32) &&& 31).toUInt32).toInt32) ||| (128 : Int32)).toInt8.toInt32)) 5 (nar .byte ((((((vv.toUInt32 >>> ((7 : Int32) &&& 31).toUInt32).toInt32).toUInt32 >>> ((7 : Int32) &&& 31).toUInt32).toInt32).toUInt32 >>> ((7 : Int32) &&& 31).toUInt32).toInt32).toInt8.toInt32)))) := by
  refine met_of_go (plainFor_of_name pn_com_example_revleaf_revleaf_Node) (fun m => ef_1_l1_2Int32 m x vv) ?_
  intro W hl C
  subst hl
  refine Go.iloadN C d1_0 (q := 1) rfl rfl ?_
  refine Go.istoreNR C d1_1 (q := 2) rfl (l' := #[.val (.ref x), .val (.int (2 : Int32)), .val (.int vv), .val (.int vv), .unset]) rfl ?_
  refine Go.iloadN C d1_2 (q := 3) rfl rfl ?_
  refine Go.istoreR C d1_3 (q := 5) rfl (l' := #[.val (.ref x), .val (.int (2 : Int32)), .val (.int vv), .val (.int vv), .val (.int (2 : Int32))]) rfl ?_
  refine Go.iloadN C d1_5 (q := 6) rfl rfl ?_
  refine Go.sipush C (128 : Int32) d1_6 (q := 9) rfl rfl ?_
  refine Go.icmp C d1_9 (n_lt _ _) (qt := 33) (q := 12) (by decide) (by decide) rfl (fun b1 => absurd b1 c0) (fun _ => ?_)
  refine Go.aloadN C d1_12 (q := 13) rfl rfl rfl ?_
  refine Go.iload C d1_13 (q := 15) rfl rfl ?_
  refine Go.iincR C d1_15 (q := 18) rfl rfl (l' := #[.val (.ref x), .val (.int (2 : Int32)), .val (.int vv), .val (.int vv), .val (.int (3 : Int32))]) rfl ?_
  refine Go.iloadN C d1_18 (q := 19) rfl rfl ?_
  refine Go.sipush C (128 : Int32) d1_19 (q := 22) rfl rfl ?_
  refine Go.ior C d1_22 (q := 23) rfl ?_
  refine Go.i2b C d1_23 (q := 24) rfl ?_
  refine Go.bastore C A0 2 (by decide) (by decide) (by decide) g0 d1_24 (q := 25) rfl ?_
  intro h2 W3
  have F4 := A0.sameI W3
  refine Go.iloadN C d1_25 (q := 26) rfl rfl ?_
  refine Go.bipush C (7 : Int32) d1_26 (q := 28) rfl rfl ?_
  refine Go.iushr C d1_28 (q := 29) rfl ?_
  refine Go.istoreNR C d1_29 (q := 30) rfl (l' := #[.val (.ref x), .val (.int (2 : Int32)), .val (.int vv), .val (.int ((vv.toUInt32 >>> ((7 : Int32) &&& 31).toUInt32).toInt32)), .val (.int (3 : Int32))]) rfl ?_
  refine Go.goto C d1_30 (q := 5) (by decide) (by decide) ?_
  refine Go.iloadN C d1_5 (q := 6) rfl rfl ?_
  refine Go.sipush C (128 : Int32) d1_6 (q := 9) rfl rfl ?_
  refine Go.icmp C d1_9 (n_lt _ _) (qt := 33) (q := 12) (by decide) (by decide) rfl (fun b5 => absurd b5 c1) (fun _ => ?_)
  refine Go.aloadN C d1_12 (q := 13) rfl rfl rfl ?_
  refine Go.iload C d1_13 (q := 15) rfl rfl ?_
  refine Go.iincR C d1_15 (q := 18) rfl rfl (l' := #[.val (.ref x), .val (.int (2 : Int32)), .val (.int vv), .val (.int ((vv.toUInt32 >>> ((7 : Int32) &&& 31).toUInt32).toInt32)), .val (.int (4 : Int32))]) rfl ?_
  refine Go.iloadN C d1_18 (q := 19) rfl rfl ?_
  refine Go.sipush C (128 : Int32) d1_19 (q := 22) rfl rfl ?_
  refine Go.ior C d1_22 (q := 23) rfl ?_
  refine Go.i2b C d1_23 (q := 24) rfl ?_
  refine Go.bastore C F4 3 (by decide) (by decide) (by decide) g0 d1_24 (q := 25) rfl ?_
  intro h6 W7
  have F8 := F4.sameI W7
  refine Go.iloadN C d1_25 (q := 26) rfl rfl ?_
  refine Go.bipush C (7 : Int32) d1_26 (q := 28) rfl rfl ?_
  refine Go.iushr C d1_28 (q := 29) rfl ?_
  refine Go.istoreNR C d1_29 (q := 30) rfl (l' := #[.val (.ref x), .val (.int (2 : Int32)), .val (.int vv), .val (.int ((((vv.toUInt32 >>> ((7 : Int32) &&& 31).toUInt32).toInt32).toUInt32 >>> ((7 : Int32) &&& 31).toUInt32).toInt32)), .val (.int (4 : Int32))]) rfl ?_
  refine Go.goto C d1_30 (q := 5) (by decide) (by decide) ?_
  refine Go.iloadN C d1_5 (q := 6) rfl rfl ?_
  refine Go.sipush C (128 : Int32) d1_6 (q := 9) rfl rfl ?_
  refine Go.icmp C d1_9 (n_lt _ _) (qt := 33) (q := 12) (by decide) (by decide) rfl (fun b9 => absurd b9 c2) (fun _ => ?_)
  refine Go.aloadN C d1_12 (q := 13) rfl rfl rfl ?_
  refine Go.iload C d1_13 (q := 15) rfl rfl ?_
  refine Go.iincR C d1_15 (q := 18) rfl rfl (l' := #[.val (.ref x), .val (.int (2 : Int32)), .val (.int vv), .val (.int ((((vv.toUInt32 >>> ((7 : Int32) &&& 31).toUInt32).toInt32).toUInt32 >>> ((7 : Int32) &&& 31).toUInt32).toInt32)), .val (.int (5 : Int32))]) rfl ?_
  refine Go.iloadN C d1_18 (q := 19) rfl rfl ?_
  refine Go.sipush C (128 : Int32) d1_19 (q := 22) rfl rfl ?_
  refine Go.ior C d1_22 (q := 23) rfl ?_
  refine Go.i2b C d1_23 (q := 24) rfl ?_
  refine Go.bastore C F8 4 (by decide) (by decide) (by decide) g0 d1_24 (q := 25) rfl ?_
  intro h10 W11
  have F12 := F8.sameI W11
  refine Go.iloadN C d1_25 (q := 26) rfl rfl ?_
  refine Go.bipush C (7 : Int32) d1_26 (q := 28) rfl rfl ?_
  refine Go.iushr C d1_28 (q := 29) rfl ?_
  refine Go.istoreNR C d1_29 (q := 30) rfl (l' := #[.val (.ref x), .val (.int (2 : Int32)), .val (.int vv), .val (.int ((((((vv.toUInt32 >>> ((7 : Int32) &&& 31).toUInt32).toInt32).toUInt32 >>> ((7 : Int32) &&& 31).toUInt32).toInt32).toUInt32 >>> ((7 : Int32) &&& 31).toUInt32).toInt32)), .val (.int (5 : Int32))]) rfl ?_
  refine Go.goto C d1_30 (q := 5) (by decide) (by decide) ?_
  refine Go.iloadN C d1_5 (q := 6) rfl rfl ?_
  refine Go.sipush C (128 : Int32) d1_6 (q := 9) rfl rfl ?_
  refine Go.icmp C d1_9 (n_lt _ _) (qt := 33) (q := 12) (by decide) (by decide) rfl (fun _ => ?_) (fun b13 => absurd c3 b13)
  refine Go.aloadN C d1_33 (q := 34) rfl rfl rfl ?_
  refine Go.iload C d1_34 (q := 36) rfl rfl ?_
  refine Go.iincR C d1_36 (q := 39) rfl rfl (l' := #[.val (.ref x), .val (.int (2 : Int32)), .val (.int vv), .val (.int ((((((vv.toUInt32 >>> ((7 : Int32) &&& 31).toUInt32).toInt32).toUInt32 >>> ((7 : Int32) &&& 31).toUInt32).toInt32).toUInt32 >>> ((7 : Int32) &&& 31).toUInt32).toInt32)), .val (.int (6 : Int32))]) rfl ?_
  refine Go.iloadN C d1_39 (q := 40) rfl rfl ?_
  refine Go.i2b C d1_40 (q := 41) rfl ?_
  refine Go.bastore C F12 5 (by decide) (by decide) (by decide) g0 d1_41 (q := 42) rfl ?_
  intro h14 W15
  have F16 := F12.sameI W15
  refine Go.iload C d1_42 (q := 44) rfl rfl ?_
  exact Go.retI C d1_44 (by decide) (by decide) ⟨rfl, (((((Keep.refl h0 [x]).wr W3 (Or.inl (List.mem_of_getElem? (i := 0) rfl))).wr W7 (Or.inl (List.mem_of_getElem? (i := 0) rfl))).wr W11 (Or.inl (List.mem_of_getElem? (i := 0) rfl))).wr W15 (Or.inl (List.mem_of_getElem? (i := 0) rfl))), F16⟩
set_option maxRecDepth 65536 in
theorem c_put2_5 (l : Launch) (Z : State) (a0 : Array Value) (hw : ∀ d ∈ tables_1, d.before a0 Z = true) (x : Addr) (vv : Int32) (h0 : Heap) (n0 : Nat) (g : Nat → Int32) (Z0 : n0 ≤ h0.size) (A0 : Av Z h0 x .byte 8 (iF g)) (g0 : n0 ≤ x) (c0 : ¬ vv < (128 : Int32)) (c1 : ¬ ((vv.toUInt32 >>> ((7 : Int32) &&& 31).toUInt32).toInt32) < (128 : Int32)) (c2 : ¬ ((((vv.toUInt32 >>> ((7 : Int32) &&& 31).toUInt32).toInt32).toUInt32 >>> ((7 : Int32) &&& 31).toUInt32).toInt32) < (128 : Int32)) (c3 : ¬ ((((((vv.toUInt32 >>> ((7 : Int32) &&& 31).toUInt32).toInt32).toUInt32 >>> ((7 : Int32) &&& 31).toUInt32).toInt32).toUInt32 >>> ((7 : Int32) &&& 31).toUInt32).toInt32) < (128 : Int32)) (c4 : ((((((((vv.toUInt32 >>> ((7 : Int32) &&& 31).toUInt32).toInt32).toUInt32 >>> ((7 : Int32) &&& 31).toUInt32).toInt32).toUInt32 >>> ((7 : Int32) &&& 31).toUInt32).toInt32).toUInt32 >>> ((7 : Int32) &&& 31).toUInt32).toInt32) < (128 : Int32)) : Met1 l Z (⟨"com/example/revleaf/revleaf/Node", "putVarint", "([BII)I"⟩ : MethodName) prog_26_method_63_code 5 (some .int) [] ({ frames := 0, cells := 0, slots := 0, locals := 0 } : Room) #[(.ref x), (.int (2 : Int32)), (.int vv)] h0 n0 (fun v h => v = some (.int (7 : Int32)) ∧ Keep h0 h [x] ∧ Av Z h x .byte 8 (iF (upd (upd (upd (upd (upd g 2 (nar .byte (vv ||| (128 : Int32)).toInt8.toInt32)) 3 (nar .byte (((vv.toUInt32 >>> ((7 : Int32) &&& 31).toUInt32).toInt32) ||| (128 : Int32)).toInt8.toInt32)) 4 (nar .byte (((((vv.toUInt32 >>> ((7 : Int32) &&& 31).toUInt32).toInt32).toUInt32 >>> ((7 : Int32) &&& 31).toUInt32).toInt32) ||| (128 : Int32)).toInt8.toInt32)) 5 (nar .byte (((((((vv.toUInt32 >>> ((7 : Int32) &&& 31).toUInt32).toInt32).toUInt32 >>> ((7 : Int32) &&& 31).toUInt32).toInt32).toUInt32 >>> ((7 : Int32) &&& 31).toUInt32).toInt32) ||| (128 : Int32)).toInt8.toInt32)) 6 (nar .byte ((((((((vv.toUInt32 >>> ((7 : Int32) &&& 31).toUInt32).toInt32).toUInt32 >>> ((7 : Int32) &&& 31).toUInt32).toInt32).toUInt32 >>> ((7 : Int32) &&& 31).toUInt32).toInt32).toUInt32 >>> ((7 : Int32) &&& 31).toUInt32).toInt32).toInt8.toInt32)))) := by
  refine met_of_go (plainFor_of_name pn_com_example_revleaf_revleaf_Node) (fun m => ef_1_l1_2Int32 m x vv) ?_
  intro W hl C
  subst hl
  refine Go.iloadN C d1_0 (q := 1) rfl rfl ?_
  refine Go.istoreNR C d1_1 (q := 2) rfl (l' := #[.val (.ref x), .val (.int (2 : Int32)), .val (.int vv), .val (.int vv), .unset]) rfl ?_
  refine Go.iloadN C d1_2 (q := 3) rfl rfl ?_
  refine Go.istoreR C d1_3 (q := 5) rfl (l' := #[.val (.ref x), .val (.int (2 : Int32)), .val (.int vv), .val (.int vv), .val (.int (2 : Int32))]) rfl ?_
  refine Go.iloadN C d1_5 (q := 6) rfl rfl ?_
  refine Go.sipush C (128 : Int32) d1_6 (q := 9) rfl rfl ?_
  refine Go.icmp C d1_9 (n_lt _ _) (qt := 33) (q := 12) (by decide) (by decide) rfl (fun b1 => absurd b1 c0) (fun _ => ?_)
  refine Go.aloadN C d1_12 (q := 13) rfl rfl rfl ?_
  refine Go.iload C d1_13 (q := 15) rfl rfl ?_
  refine Go.iincR C d1_15 (q := 18) rfl rfl (l' := #[.val (.ref x), .val (.int (2 : Int32)), .val (.int vv), .val (.int vv), .val (.int (3 : Int32))]) rfl ?_
  refine Go.iloadN C d1_18 (q := 19) rfl rfl ?_
  refine Go.sipush C (128 : Int32) d1_19 (q := 22) rfl rfl ?_
  refine Go.ior C d1_22 (q := 23) rfl ?_
  refine Go.i2b C d1_23 (q := 24) rfl ?_
  refine Go.bastore C A0 2 (by decide) (by decide) (by decide) g0 d1_24 (q := 25) rfl ?_
  intro h2 W3
  have F4 := A0.sameI W3
  refine Go.iloadN C d1_25 (q := 26) rfl rfl ?_
  refine Go.bipush C (7 : Int32) d1_26 (q := 28) rfl rfl ?_
  refine Go.iushr C d1_28 (q := 29) rfl ?_
  refine Go.istoreNR C d1_29 (q := 30) rfl (l' := #[.val (.ref x), .val (.int (2 : Int32)), .val (.int vv), .val (.int ((vv.toUInt32 >>> ((7 : Int32) &&& 31).toUInt32).toInt32)), .val (.int (3 : Int32))]) rfl ?_
  refine Go.goto C d1_30 (q := 5) (by decide) (by decide) ?_
  refine Go.iloadN C d1_5 (q := 6) rfl rfl ?_
  refine Go.sipush C (128 : Int32) d1_6 (q := 9) rfl rfl ?_
  refine Go.icmp C d1_9 (n_lt _ _) (qt := 33) (q := 12) (by decide) (by decide) rfl (fun b5 => absurd b5 c1) (fun _ => ?_)
  refine Go.aloadN C d1_12 (q := 13) rfl rfl rfl ?_
  refine Go.iload C d1_13 (q := 15) rfl rfl ?_
  refine Go.iincR C d1_15 (q := 18) rfl rfl (l' := #[.val (.ref x), .val (.int (2 : Int32)), .val (.int vv), .val (.int ((vv.toUInt32 >>> ((7 : Int32) &&& 31).toUInt32).toInt32)), .val (.int (4 : Int32))]) rfl ?_
  refine Go.iloadN C d1_18 (q := 19) rfl rfl ?_
  refine Go.sipush C (128 : Int32) d1_19 (q := 22) rfl rfl ?_
  refine Go.ior C d1_22 (q := 23) rfl ?_
  refine Go.i2b C d1_23 (q := 24) rfl ?_
  refine Go.bastore C F4 3 (by decide) (by decide) (by decide) g0 d1_24 (q := 25) rfl ?_
  intro h6 W7
  have F8 := F4.sameI W7
  refine Go.iloadN C d1_25 (q := 26) rfl rfl ?_
  refine Go.bipush C (7 : Int32) d1_26 (q := 28) rfl rfl ?_
  refine Go.iushr C d1_28 (q := 29) rfl ?_
  refine Go.istoreNR C d1_29 (q := 30) rfl (l' := #[.val (.ref x), .val (.int (2 : Int32)), .val (.int vv), .val (.int ((((vv.toUInt32 >>> ((7 : Int32) &&& 31).toUInt32).toInt32).toUInt32 >>> ((7 : Int32) &&& 31).toUInt32).toInt32)), .val (.int (4 : Int32))]) rfl ?_
  refine Go.goto C d1_30 (q := 5) (by decide) (by decide) ?_
  refine Go.iloadN C d1_5 (q := 6) rfl rfl ?_
  refine Go.sipush C (128 : Int32) d1_6 (q := 9) rfl rfl ?_
  refine Go.icmp C d1_9 (n_lt _ _) (qt := 33) (q := 12) (by decide) (by decide) rfl (fun b9 => absurd b9 c2) (fun _ => ?_)
  refine Go.aloadN C d1_12 (q := 13) rfl rfl rfl ?_
  refine Go.iload C d1_13 (q := 15) rfl rfl ?_
  refine Go.iincR C d1_15 (q := 18) rfl rfl (l' := #[.val (.ref x), .val (.int (2 : Int32)), .val (.int vv), .val (.int ((((vv.toUInt32 >>> ((7 : Int32) &&& 31).toUInt32).toInt32).toUInt32 >>> ((7 : Int32) &&& 31).toUInt32).toInt32)), .val (.int (5 : Int32))]) rfl ?_
  refine Go.iloadN C d1_18 (q := 19) rfl rfl ?_
  refine Go.sipush C (128 : Int32) d1_19 (q := 22) rfl rfl ?_
  refine Go.ior C d1_22 (q := 23) rfl ?_
  refine Go.i2b C d1_23 (q := 24) rfl ?_
  refine Go.bastore C F8 4 (by decide) (by decide) (by decide) g0 d1_24 (q := 25) rfl ?_
  intro h10 W11
  have F12 := F8.sameI W11
  refine Go.iloadN C d1_25 (q := 26) rfl rfl ?_
  refine Go.bipush C (7 : Int32) d1_26 (q := 28) rfl rfl ?_
  refine Go.iushr C d1_28 (q := 29) rfl ?_
  refine Go.istoreNR C d1_29 (q := 30) rfl (l' := #[.val (.ref x), .val (.int (2 : Int32)), .val (.int vv), .val (.int ((((((vv.toUInt32 >>> ((7 : Int32) &&& 31).toUInt32).toInt32).toUInt32 >>> ((7 : Int32) &&& 31).toUInt32).toInt32).toUInt32 >>> ((7 : Int32) &&& 31).toUInt32).toInt32)), .val (.int (5 : Int32))]) rfl ?_
  refine Go.goto C d1_30 (q := 5) (by decide) (by decide) ?_
  refine Go.iloadN C d1_5 (q := 6) rfl rfl ?_
  refine Go.sipush C (128 : Int32) d1_6 (q := 9) rfl rfl ?_
  refine Go.icmp C d1_9 (n_lt _ _) (qt := 33) (q := 12) (by decide) (by decide) rfl (fun b13 => absurd b13 c3) (fun _ => ?_)
  refine Go.aloadN C d1_12 (q := 13) rfl rfl rfl ?_
  refine Go.iload C d1_13 (q := 15) rfl rfl ?_
  refine Go.iincR C d1_15 (q := 18) rfl rfl (l' := #[.val (.ref x), .val (.int (2 : Int32)), .val (.int vv), .val (.int ((((((vv.toUInt32 >>> ((7 : Int32) &&& 31).toUInt32).toInt32).toUInt32 >>> ((7 : Int32) &&& 31).toUInt32).toInt32).toUInt32 >>> ((7 : Int32) &&& 31).toUInt32).toInt32)), .val (.int (6 : Int32))]) rfl ?_
  refine Go.iloadN C d1_18 (q := 19) rfl rfl ?_
  refine Go.sipush C (128 : Int32) d1_19 (q := 22) rfl rfl ?_
  refine Go.ior C d1_22 (q := 23) rfl ?_
  refine Go.i2b C d1_23 (q := 24) rfl ?_
  refine Go.bastore C F12 5 (by decide) (by decide) (by decide) g0 d1_24 (q := 25) rfl ?_
  intro h14 W15
  have F16 := F12.sameI W15
  refine Go.iloadN C d1_25 (q := 26) rfl rfl ?_
  refine Go.bipush C (7 : Int32) d1_26 (q := 28) rfl rfl ?_
  refine Go.iushr C d1_28 (q := 29) rfl ?_
  refine Go.istoreNR C d1_29 (q := 30) rfl (l' := #[.val (.ref x), .val (.int (2 : Int32)), .val (.int vv), .val (.int ((((((((vv.toUInt32 >>> ((7 : Int32) &&& 31).toUInt32).toInt32).toUInt32 >>> ((7 : Int32) &&& 31).toUInt32).toInt32).toUInt32 >>> ((7 : Int32) &&& 31).toUInt32).toInt32).toUInt32 >>> ((7 : Int32) &&& 31).toUInt32).toInt32)), .val (.int (6 : Int32))]) rfl ?_
  refine Go.goto C d1_30 (q := 5) (by decide) (by decide) ?_
  refine Go.iloadN C d1_5 (q := 6) rfl rfl ?_
  refine Go.sipush C (128 : Int32) d1_6 (q := 9) rfl rfl ?_
  refine Go.icmp C d1_9 (n_lt _ _) (qt := 33) (q := 12) (by decide) (by decide) rfl (fun _ => ?_) (fun b17 => absurd c4 b17)
  refine Go.aloadN C d1_33 (q := 34) rfl rfl rfl ?_
  refine Go.iload C d1_34 (q := 36) rfl rfl ?_
  refine Go.iincR C d1_36 (q := 39) rfl rfl (l' := #[.val (.ref x), .val (.int (2 : Int32)), .val (.int vv), .val (.int ((((((((vv.toUInt32 >>> ((7 : Int32) &&& 31).toUInt32).toInt32).toUInt32 >>> ((7 : Int32) &&& 31).toUInt32).toInt32).toUInt32 >>> ((7 : Int32) &&& 31).toUInt32).toInt32).toUInt32 >>> ((7 : Int32) &&& 31).toUInt32).toInt32)), .val (.int (7 : Int32))]) rfl ?_
  refine Go.iloadN C d1_39 (q := 40) rfl rfl ?_
  refine Go.i2b C d1_40 (q := 41) rfl ?_
  refine Go.bastore C F16 6 (by decide) (by decide) (by decide) g0 d1_41 (q := 42) rfl ?_
  intro h18 W19
  have F20 := F16.sameI W19
  refine Go.iload C d1_42 (q := 44) rfl rfl ?_
  exact Go.retI C d1_44 (by decide) (by decide) ⟨rfl, ((((((Keep.refl h0 [x]).wr W3 (Or.inl (List.mem_of_getElem? (i := 0) rfl))).wr W7 (Or.inl (List.mem_of_getElem? (i := 0) rfl))).wr W11 (Or.inl (List.mem_of_getElem? (i := 0) rfl))).wr W15 (Or.inl (List.mem_of_getElem? (i := 0) rfl))).wr W19 (Or.inl (List.mem_of_getElem? (i := 0) rfl))), F20⟩
set_option maxRecDepth 65536 in
theorem c_put3_1 (l : Launch) (Z : State) (a0 : Array Value) (hw : ∀ d ∈ tables_1, d.before a0 Z = true) (x : Addr) (vv : Int32) (h0 : Heap) (n0 : Nat) (g : Nat → Int32) (Z0 : n0 ≤ h0.size) (A0 : Av Z h0 x .byte 8 (iF g)) (g0 : n0 ≤ x) (c0 : vv < (128 : Int32)) : Met1 l Z (⟨"com/example/revleaf/revleaf/Node", "putVarint", "([BII)I"⟩ : MethodName) prog_26_method_63_code 5 (some .int) [] ({ frames := 0, cells := 0, slots := 0, locals := 0 } : Room) #[(.ref x), (.int (3 : Int32)), (.int vv)] h0 n0 (fun v h => v = some (.int (4 : Int32)) ∧ Keep h0 h [x] ∧ Av Z h x .byte 8 (iF (upd g 3 (nar .byte vv.toInt8.toInt32)))) := by
  refine met_of_go (plainFor_of_name pn_com_example_revleaf_revleaf_Node) (fun m => ef_1_l1_3Int32 m x vv) ?_
  intro W hl C
  subst hl
  refine Go.iloadN C d1_0 (q := 1) rfl rfl ?_
  refine Go.istoreNR C d1_1 (q := 2) rfl (l' := #[.val (.ref x), .val (.int (3 : Int32)), .val (.int vv), .val (.int vv), .unset]) rfl ?_
  refine Go.iloadN C d1_2 (q := 3) rfl rfl ?_
  refine Go.istoreR C d1_3 (q := 5) rfl (l' := #[.val (.ref x), .val (.int (3 : Int32)), .val (.int vv), .val (.int vv), .val (.int (3 : Int32))]) rfl ?_
  refine Go.iloadN C d1_5 (q := 6) rfl rfl ?_
  refine Go.sipush C (128 : Int32) d1_6 (q := 9) rfl rfl ?_
  refine Go.icmp C d1_9 (n_lt _ _) (qt := 33) (q := 12) (by decide) (by decide) rfl (fun _ => ?_) (fun b1 => absurd c0 b1)
  refine Go.aloadN C d1_33 (q := 34) rfl rfl rfl ?_
  refine Go.iload C d1_34 (q := 36) rfl rfl ?_
  refine Go.iincR C d1_36 (q := 39) rfl rfl (l' := #[.val (.ref x), .val (.int (3 : Int32)), .val (.int vv), .val (.int vv), .val (.int (4 : Int32))]) rfl ?_
  refine Go.iloadN C d1_39 (q := 40) rfl rfl ?_
  refine Go.i2b C d1_40 (q := 41) rfl ?_
  refine Go.bastore C A0 3 (by decide) (by decide) (by decide) g0 d1_41 (q := 42) rfl ?_
  intro h2 W3
  have F4 := A0.sameI W3
  refine Go.iload C d1_42 (q := 44) rfl rfl ?_
  exact Go.retI C d1_44 (by decide) (by decide) ⟨rfl, ((Keep.refl h0 [x]).wr W3 (Or.inl (List.mem_of_getElem? (i := 0) rfl))), F4⟩
set_option maxRecDepth 65536 in
theorem c_put3_2 (l : Launch) (Z : State) (a0 : Array Value) (hw : ∀ d ∈ tables_1, d.before a0 Z = true) (x : Addr) (vv : Int32) (h0 : Heap) (n0 : Nat) (g : Nat → Int32) (Z0 : n0 ≤ h0.size) (A0 : Av Z h0 x .byte 8 (iF g)) (g0 : n0 ≤ x) (c0 : ¬ vv < (128 : Int32)) (c1 : ((vv.toUInt32 >>> ((7 : Int32) &&& 31).toUInt32).toInt32) < (128 : Int32)) : Met1 l Z (⟨"com/example/revleaf/revleaf/Node", "putVarint", "([BII)I"⟩ : MethodName) prog_26_method_63_code 5 (some .int) [] ({ frames := 0, cells := 0, slots := 0, locals := 0 } : Room) #[(.ref x), (.int (3 : Int32)), (.int vv)] h0 n0 (fun v h => v = some (.int (5 : Int32)) ∧ Keep h0 h [x] ∧ Av Z h x .byte 8 (iF (upd (upd g 3 (nar .byte (vv ||| (128 : Int32)).toInt8.toInt32)) 4 (nar .byte ((vv.toUInt32 >>> ((7 : Int32) &&& 31).toUInt32).toInt32).toInt8.toInt32)))) := by
  refine met_of_go (plainFor_of_name pn_com_example_revleaf_revleaf_Node) (fun m => ef_1_l1_3Int32 m x vv) ?_
  intro W hl C
  subst hl
  refine Go.iloadN C d1_0 (q := 1) rfl rfl ?_
  refine Go.istoreNR C d1_1 (q := 2) rfl (l' := #[.val (.ref x), .val (.int (3 : Int32)), .val (.int vv), .val (.int vv), .unset]) rfl ?_
  refine Go.iloadN C d1_2 (q := 3) rfl rfl ?_
  refine Go.istoreR C d1_3 (q := 5) rfl (l' := #[.val (.ref x), .val (.int (3 : Int32)), .val (.int vv), .val (.int vv), .val (.int (3 : Int32))]) rfl ?_
  refine Go.iloadN C d1_5 (q := 6) rfl rfl ?_
  refine Go.sipush C (128 : Int32) d1_6 (q := 9) rfl rfl ?_
  refine Go.icmp C d1_9 (n_lt _ _) (qt := 33) (q := 12) (by decide) (by decide) rfl (fun b1 => absurd b1 c0) (fun _ => ?_)
  refine Go.aloadN C d1_12 (q := 13) rfl rfl rfl ?_
  refine Go.iload C d1_13 (q := 15) rfl rfl ?_
  refine Go.iincR C d1_15 (q := 18) rfl rfl (l' := #[.val (.ref x), .val (.int (3 : Int32)), .val (.int vv), .val (.int vv), .val (.int (4 : Int32))]) rfl ?_
  refine Go.iloadN C d1_18 (q := 19) rfl rfl ?_
  refine Go.sipush C (128 : Int32) d1_19 (q := 22) rfl rfl ?_
  refine Go.ior C d1_22 (q := 23) rfl ?_
  refine Go.i2b C d1_23 (q := 24) rfl ?_
  refine Go.bastore C A0 3 (by decide) (by decide) (by decide) g0 d1_24 (q := 25) rfl ?_
  intro h2 W3
  have F4 := A0.sameI W3
  refine Go.iloadN C d1_25 (q := 26) rfl rfl ?_
  refine Go.bipush C (7 : Int32) d1_26 (q := 28) rfl rfl ?_
  refine Go.iushr C d1_28 (q := 29) rfl ?_
  refine Go.istoreNR C d1_29 (q := 30) rfl (l' := #[.val (.ref x), .val (.int (3 : Int32)), .val (.int vv), .val (.int ((vv.toUInt32 >>> ((7 : Int32) &&& 31).toUInt32).toInt32)), .val (.int (4 : Int32))]) rfl ?_
  refine Go.goto C d1_30 (q := 5) (by decide) (by decide) ?_
  refine Go.iloadN C d1_5 (q := 6) rfl rfl ?_
  refine Go.sipush C (128 : Int32) d1_6 (q := 9) rfl rfl ?_
  refine Go.icmp C d1_9 (n_lt _ _) (qt := 33) (q := 12) (by decide) (by decide) rfl (fun _ => ?_) (fun b5 => absurd c1 b5)
  refine Go.aloadN C d1_33 (q := 34) rfl rfl rfl ?_
  refine Go.iload C d1_34 (q := 36) rfl rfl ?_
  refine Go.iincR C d1_36 (q := 39) rfl rfl (l' := #[.val (.ref x), .val (.int (3 : Int32)), .val (.int vv), .val (.int ((vv.toUInt32 >>> ((7 : Int32) &&& 31).toUInt32).toInt32)), .val (.int (5 : Int32))]) rfl ?_
  refine Go.iloadN C d1_39 (q := 40) rfl rfl ?_
  refine Go.i2b C d1_40 (q := 41) rfl ?_
  refine Go.bastore C F4 4 (by decide) (by decide) (by decide) g0 d1_41 (q := 42) rfl ?_
  intro h6 W7
  have F8 := F4.sameI W7
  refine Go.iload C d1_42 (q := 44) rfl rfl ?_
  exact Go.retI C d1_44 (by decide) (by decide) ⟨rfl, (((Keep.refl h0 [x]).wr W3 (Or.inl (List.mem_of_getElem? (i := 0) rfl))).wr W7 (Or.inl (List.mem_of_getElem? (i := 0) rfl))), F8⟩
set_option maxRecDepth 65536 in
theorem c_put3_3 (l : Launch) (Z : State) (a0 : Array Value) (hw : ∀ d ∈ tables_1, d.before a0 Z = true) (x : Addr) (vv : Int32) (h0 : Heap) (n0 : Nat) (g : Nat → Int32) (Z0 : n0 ≤ h0.size) (A0 : Av Z h0 x .byte 8 (iF g)) (g0 : n0 ≤ x) (c0 : ¬ vv < (128 : Int32)) (c1 : ¬ ((vv.toUInt32 >>> ((7 : Int32) &&& 31).toUInt32).toInt32) < (128 : Int32)) (c2 : ((((vv.toUInt32 >>> ((7 : Int32) &&& 31).toUInt32).toInt32).toUInt32 >>> ((7 : Int32) &&& 31).toUInt32).toInt32) < (128 : Int32)) : Met1 l Z (⟨"com/example/revleaf/revleaf/Node", "putVarint", "([BII)I"⟩ : MethodName) prog_26_method_63_code 5 (some .int) [] ({ frames := 0, cells := 0, slots := 0, locals := 0 } : Room) #[(.ref x), (.int (3 : Int32)), (.int vv)] h0 n0 (fun v h => v = some (.int (6 : Int32)) ∧ Keep h0 h [x] ∧ Av Z h x .byte 8 (iF (upd (upd (upd g 3 (nar .byte (vv ||| (128 : Int32)).toInt8.toInt32)) 4 (nar .byte (((vv.toUInt32 >>> ((7 : Int32) &&& 31).toUInt32).toInt32) ||| (128 : Int32)).toInt8.toInt32)) 5 (nar .byte ((((vv.toUInt32 >>> ((7 : Int32) &&& 31).toUInt32).toInt32).toUInt32 >>> ((7 : Int32) &&& 31).toUInt32).toInt32).toInt8.toInt32)))) := by
  refine met_of_go (plainFor_of_name pn_com_example_revleaf_revleaf_Node) (fun m => ef_1_l1_3Int32 m x vv) ?_
  intro W hl C
  subst hl
  refine Go.iloadN C d1_0 (q := 1) rfl rfl ?_
  refine Go.istoreNR C d1_1 (q := 2) rfl (l' := #[.val (.ref x), .val (.int (3 : Int32)), .val (.int vv), .val (.int vv), .unset]) rfl ?_
  refine Go.iloadN C d1_2 (q := 3) rfl rfl ?_
  refine Go.istoreR C d1_3 (q := 5) rfl (l' := #[.val (.ref x), .val (.int (3 : Int32)), .val (.int vv), .val (.int vv), .val (.int (3 : Int32))]) rfl ?_
  refine Go.iloadN C d1_5 (q := 6) rfl rfl ?_
  refine Go.sipush C (128 : Int32) d1_6 (q := 9) rfl rfl ?_
  refine Go.icmp C d1_9 (n_lt _ _) (qt := 33) (q := 12) (by decide) (by decide) rfl (fun b1 => absurd b1 c0) (fun _ => ?_)
  refine Go.aloadN C d1_12 (q := 13) rfl rfl rfl ?_
  refine Go.iload C d1_13 (q := 15) rfl rfl ?_
  refine Go.iincR C d1_15 (q := 18) rfl rfl (l' := #[.val (.ref x), .val (.int (3 : Int32)), .val (.int vv), .val (.int vv), .val (.int (4 : Int32))]) rfl ?_
  refine Go.iloadN C d1_18 (q := 19) rfl rfl ?_
  refine Go.sipush C (128 : Int32) d1_19 (q := 22) rfl rfl ?_
  refine Go.ior C d1_22 (q := 23) rfl ?_
  refine Go.i2b C d1_23 (q := 24) rfl ?_
  refine Go.bastore C A0 3 (by decide) (by decide) (by decide) g0 d1_24 (q := 25) rfl ?_
  intro h2 W3
  have F4 := A0.sameI W3
  refine Go.iloadN C d1_25 (q := 26) rfl rfl ?_
  refine Go.bipush C (7 : Int32) d1_26 (q := 28) rfl rfl ?_
  refine Go.iushr C d1_28 (q := 29) rfl ?_
  refine Go.istoreNR C d1_29 (q := 30) rfl (l' := #[.val (.ref x), .val (.int (3 : Int32)), .val (.int vv), .val (.int ((vv.toUInt32 >>> ((7 : Int32) &&& 31).toUInt32).toInt32)), .val (.int (4 : Int32))]) rfl ?_
  refine Go.goto C d1_30 (q := 5) (by decide) (by decide) ?_
  refine Go.iloadN C d1_5 (q := 6) rfl rfl ?_
  refine Go.sipush C (128 : Int32) d1_6 (q := 9) rfl rfl ?_
  refine Go.icmp C d1_9 (n_lt _ _) (qt := 33) (q := 12) (by decide) (by decide) rfl (fun b5 => absurd b5 c1) (fun _ => ?_)
  refine Go.aloadN C d1_12 (q := 13) rfl rfl rfl ?_
  refine Go.iload C d1_13 (q := 15) rfl rfl ?_
  refine Go.iincR C d1_15 (q := 18) rfl rfl (l' := #[.val (.ref x), .val (.int (3 : Int32)), .val (.int vv), .val (.int ((vv.toUInt32 >>> ((7 : Int32) &&& 31).toUInt32).toInt32)), .val (.int (5 : Int32))]) rfl ?_
  refine Go.iloadN C d1_18 (q := 19) rfl rfl ?_
  refine Go.sipush C (128 : Int32) d1_19 (q := 22) rfl rfl ?_
  refine Go.ior C d1_22 (q := 23) rfl ?_
  refine Go.i2b C d1_23 (q := 24) rfl ?_
  refine Go.bastore C F4 4 (by decide) (by decide) (by decide) g0 d1_24 (q := 25) rfl ?_
  intro h6 W7
  have F8 := F4.sameI W7
  refine Go.iloadN C d1_25 (q := 26) rfl rfl ?_
  refine Go.bipush C (7 : Int32) d1_26 (q := 28) rfl rfl ?_
  refine Go.iushr C d1_28 (q := 29) rfl ?_
  refine Go.istoreNR C d1_29 (q := 30) rfl (l' := #[.val (.ref x), .val (.int (3 : Int32)), .val (.int vv), .val (.int ((((vv.toUInt32 >>> ((7 : Int32) &&& 31).toUInt32).toInt32).toUInt32 >>> ((7 : Int32) &&& 31).toUInt32).toInt32)), .val (.int (5 : Int32))]) rfl ?_
  refine Go.goto C d1_30 (q := 5) (by decide) (by decide) ?_
  refine Go.iloadN C d1_5 (q := 6) rfl rfl ?_
  refine Go.sipush C (128 : Int32) d1_6 (q := 9) rfl rfl ?_
  refine Go.icmp C d1_9 (n_lt _ _) (qt := 33) (q := 12) (by decide) (by decide) rfl (fun _ => ?_) (fun b9 => absurd c2 b9)
  refine Go.aloadN C d1_33 (q := 34) rfl rfl rfl ?_
  refine Go.iload C d1_34 (q := 36) rfl rfl ?_
  refine Go.iincR C d1_36 (q := 39) rfl rfl (l' := #[.val (.ref x), .val (.int (3 : Int32)), .val (.int vv), .val (.int ((((vv.toUInt32 >>> ((7 : Int32) &&& 31).toUInt32).toInt32).toUInt32 >>> ((7 : Int32) &&& 31).toUInt32).toInt32)), .val (.int (6 : Int32))]) rfl ?_
  refine Go.iloadN C d1_39 (q := 40) rfl rfl ?_
  refine Go.i2b C d1_40 (q := 41) rfl ?_
  refine Go.bastore C F8 5 (by decide) (by decide) (by decide) g0 d1_41 (q := 42) rfl ?_
  intro h10 W11
  have F12 := F8.sameI W11
  refine Go.iload C d1_42 (q := 44) rfl rfl ?_
  exact Go.retI C d1_44 (by decide) (by decide) ⟨rfl, ((((Keep.refl h0 [x]).wr W3 (Or.inl (List.mem_of_getElem? (i := 0) rfl))).wr W7 (Or.inl (List.mem_of_getElem? (i := 0) rfl))).wr W11 (Or.inl (List.mem_of_getElem? (i := 0) rfl))), F12⟩
set_option maxRecDepth 65536 in
theorem c_put3_4 (l : Launch) (Z : State) (a0 : Array Value) (hw : ∀ d ∈ tables_1, d.before a0 Z = true) (x : Addr) (vv : Int32) (h0 : Heap) (n0 : Nat) (g : Nat → Int32) (Z0 : n0 ≤ h0.size) (A0 : Av Z h0 x .byte 8 (iF g)) (g0 : n0 ≤ x) (c0 : ¬ vv < (128 : Int32)) (c1 : ¬ ((vv.toUInt32 >>> ((7 : Int32) &&& 31).toUInt32).toInt32) < (128 : Int32)) (c2 : ¬ ((((vv.toUInt32 >>> ((7 : Int32) &&& 31).toUInt32).toInt32).toUInt32 >>> ((7 : Int32) &&& 31).toUInt32).toInt32) < (128 : Int32)) (c3 : ((((((vv.toUInt32 >>> ((7 : Int32) &&& 31).toUInt32).toInt32).toUInt32 >>> ((7 : Int32) &&& 31).toUInt32).toInt32).toUInt32 >>> ((7 : Int32) &&& 31).toUInt32).toInt32) < (128 : Int32)) : Met1 l Z (⟨"com/example/revleaf/revleaf/Node", "putVarint", "([BII)I"⟩ : MethodName) prog_26_method_63_code 5 (some .int) [] ({ frames := 0, cells := 0, slots := 0, locals := 0 } : Room) #[(.ref x), (.int (3 : Int32)), (.int vv)] h0 n0 (fun v h => v = some (.int (7 : Int32)) ∧ Keep h0 h [x] ∧ Av Z h x .byte 8 (iF (upd (upd (upd (upd g 3 (nar .byte (vv ||| (128 : Int32)).toInt8.toInt32)) 4 (nar .byte (((vv.toUInt32 >>> ((7 : Int32) &&& 31).toUInt32).toInt32) ||| (128 : Int32)).toInt8.toInt32)) 5 (nar .byte (((((vv.toUInt32 >>> ((7 : Int32) &&& 31).toUInt32).toInt32).toUInt32 >>> ((7 : Int32) &&& 31).toUInt32).toInt32) ||| (128 : Int32)).toInt8.toInt32)) 6 (nar .byte ((((((vv.toUInt32 >>> ((7 : Int32) &&& 31).toUInt32).toInt32).toUInt32 >>> ((7 : Int32) &&& 31).toUInt32).toInt32).toUInt32 >>> ((7 : Int32) &&& 31).toUInt32).toInt32).toInt8.toInt32)))) := by
  refine met_of_go (plainFor_of_name pn_com_example_revleaf_revleaf_Node) (fun m => ef_1_l1_3Int32 m x vv) ?_
  intro W hl C
  subst hl
  refine Go.iloadN C d1_0 (q := 1) rfl rfl ?_
  refine Go.istoreNR C d1_1 (q := 2) rfl (l' := #[.val (.ref x), .val (.int (3 : Int32)), .val (.int vv), .val (.int vv), .unset]) rfl ?_
  refine Go.iloadN C d1_2 (q := 3) rfl rfl ?_
  refine Go.istoreR C d1_3 (q := 5) rfl (l' := #[.val (.ref x), .val (.int (3 : Int32)), .val (.int vv), .val (.int vv), .val (.int (3 : Int32))]) rfl ?_
  refine Go.iloadN C d1_5 (q := 6) rfl rfl ?_
  refine Go.sipush C (128 : Int32) d1_6 (q := 9) rfl rfl ?_
  refine Go.icmp C d1_9 (n_lt _ _) (qt := 33) (q := 12) (by decide) (by decide) rfl (fun b1 => absurd b1 c0) (fun _ => ?_)
  refine Go.aloadN C d1_12 (q := 13) rfl rfl rfl ?_
  refine Go.iload C d1_13 (q := 15) rfl rfl ?_
  refine Go.iincR C d1_15 (q := 18) rfl rfl (l' := #[.val (.ref x), .val (.int (3 : Int32)), .val (.int vv), .val (.int vv), .val (.int (4 : Int32))]) rfl ?_
  refine Go.iloadN C d1_18 (q := 19) rfl rfl ?_
  refine Go.sipush C (128 : Int32) d1_19 (q := 22) rfl rfl ?_
  refine Go.ior C d1_22 (q := 23) rfl ?_
  refine Go.i2b C d1_23 (q := 24) rfl ?_
  refine Go.bastore C A0 3 (by decide) (by decide) (by decide) g0 d1_24 (q := 25) rfl ?_
  intro h2 W3
  have F4 := A0.sameI W3
  refine Go.iloadN C d1_25 (q := 26) rfl rfl ?_
  refine Go.bipush C (7 : Int32) d1_26 (q := 28) rfl rfl ?_
  refine Go.iushr C d1_28 (q := 29) rfl ?_
  refine Go.istoreNR C d1_29 (q := 30) rfl (l' := #[.val (.ref x), .val (.int (3 : Int32)), .val (.int vv), .val (.int ((vv.toUInt32 >>> ((7 : Int32) &&& 31).toUInt32).toInt32)), .val (.int (4 : Int32))]) rfl ?_
  refine Go.goto C d1_30 (q := 5) (by decide) (by decide) ?_
  refine Go.iloadN C d1_5 (q := 6) rfl rfl ?_
  refine Go.sipush C (128 : Int32) d1_6 (q := 9) rfl rfl ?_
  refine Go.icmp C d1_9 (n_lt _ _) (qt := 33) (q := 12) (by decide) (by decide) rfl (fun b5 => absurd b5 c1) (fun _ => ?_)
  refine Go.aloadN C d1_12 (q := 13) rfl rfl rfl ?_
  refine Go.iload C d1_13 (q := 15) rfl rfl ?_
  refine Go.iincR C d1_15 (q := 18) rfl rfl (l' := #[.val (.ref x), .val (.int (3 : Int32)), .val (.int vv), .val (.int ((vv.toUInt32 >>> ((7 : Int32) &&& 31).toUInt32).toInt32)), .val (.int (5 : Int32))]) rfl ?_
  refine Go.iloadN C d1_18 (q := 19) rfl rfl ?_
  refine Go.sipush C (128 : Int32) d1_19 (q := 22) rfl rfl ?_
  refine Go.ior C d1_22 (q := 23) rfl ?_
  refine Go.i2b C d1_23 (q := 24) rfl ?_
  refine Go.bastore C F4 4 (by decide) (by decide) (by decide) g0 d1_24 (q := 25) rfl ?_
  intro h6 W7
  have F8 := F4.sameI W7
  refine Go.iloadN C d1_25 (q := 26) rfl rfl ?_
  refine Go.bipush C (7 : Int32) d1_26 (q := 28) rfl rfl ?_
  refine Go.iushr C d1_28 (q := 29) rfl ?_
  refine Go.istoreNR C d1_29 (q := 30) rfl (l' := #[.val (.ref x), .val (.int (3 : Int32)), .val (.int vv), .val (.int ((((vv.toUInt32 >>> ((7 : Int32) &&& 31).toUInt32).toInt32).toUInt32 >>> ((7 : Int32) &&& 31).toUInt32).toInt32)), .val (.int (5 : Int32))]) rfl ?_
  refine Go.goto C d1_30 (q := 5) (by decide) (by decide) ?_
  refine Go.iloadN C d1_5 (q := 6) rfl rfl ?_
  refine Go.sipush C (128 : Int32) d1_6 (q := 9) rfl rfl ?_
  refine Go.icmp C d1_9 (n_lt _ _) (qt := 33) (q := 12) (by decide) (by decide) rfl (fun b9 => absurd b9 c2) (fun _ => ?_)
  refine Go.aloadN C d1_12 (q := 13) rfl rfl rfl ?_
  refine Go.iload C d1_13 (q := 15) rfl rfl ?_
  refine Go.iincR C d1_15 (q := 18) rfl rfl (l' := #[.val (.ref x), .val (.int (3 : Int32)), .val (.int vv), .val (.int ((((vv.toUInt32 >>> ((7 : Int32) &&& 31).toUInt32).toInt32).toUInt32 >>> ((7 : Int32) &&& 31).toUInt32).toInt32)), .val (.int (6 : Int32))]) rfl ?_
  refine Go.iloadN C d1_18 (q := 19) rfl rfl ?_
  refine Go.sipush C (128 : Int32) d1_19 (q := 22) rfl rfl ?_
  refine Go.ior C d1_22 (q := 23) rfl ?_
  refine Go.i2b C d1_23 (q := 24) rfl ?_
  refine Go.bastore C F8 5 (by decide) (by decide) (by decide) g0 d1_24 (q := 25) rfl ?_
  intro h10 W11
  have F12 := F8.sameI W11
  refine Go.iloadN C d1_25 (q := 26) rfl rfl ?_
  refine Go.bipush C (7 : Int32) d1_26 (q := 28) rfl rfl ?_
  refine Go.iushr C d1_28 (q := 29) rfl ?_
  refine Go.istoreNR C d1_29 (q := 30) rfl (l' := #[.val (.ref x), .val (.int (3 : Int32)), .val (.int vv), .val (.int ((((((vv.toUInt32 >>> ((7 : Int32) &&& 31).toUInt32).toInt32).toUInt32 >>> ((7 : Int32) &&& 31).toUInt32).toInt32).toUInt32 >>> ((7 : Int32) &&& 31).toUInt32).toInt32)), .val (.int (6 : Int32))]) rfl ?_
  refine Go.goto C d1_30 (q := 5) (by decide) (by decide) ?_
  refine Go.iloadN C d1_5 (q := 6) rfl rfl ?_
  refine Go.sipush C (128 : Int32) d1_6 (q := 9) rfl rfl ?_
  refine Go.icmp C d1_9 (n_lt _ _) (qt := 33) (q := 12) (by decide) (by decide) rfl (fun _ => ?_) (fun b13 => absurd c3 b13)
  refine Go.aloadN C d1_33 (q := 34) rfl rfl rfl ?_
  refine Go.iload C d1_34 (q := 36) rfl rfl ?_
  refine Go.iincR C d1_36 (q := 39) rfl rfl (l' := #[.val (.ref x), .val (.int (3 : Int32)), .val (.int vv), .val (.int ((((((vv.toUInt32 >>> ((7 : Int32) &&& 31).toUInt32).toInt32).toUInt32 >>> ((7 : Int32) &&& 31).toUInt32).toInt32).toUInt32 >>> ((7 : Int32) &&& 31).toUInt32).toInt32)), .val (.int (7 : Int32))]) rfl ?_
  refine Go.iloadN C d1_39 (q := 40) rfl rfl ?_
  refine Go.i2b C d1_40 (q := 41) rfl ?_
  refine Go.bastore C F12 6 (by decide) (by decide) (by decide) g0 d1_41 (q := 42) rfl ?_
  intro h14 W15
  have F16 := F12.sameI W15
  refine Go.iload C d1_42 (q := 44) rfl rfl ?_
  exact Go.retI C d1_44 (by decide) (by decide) ⟨rfl, (((((Keep.refl h0 [x]).wr W3 (Or.inl (List.mem_of_getElem? (i := 0) rfl))).wr W7 (Or.inl (List.mem_of_getElem? (i := 0) rfl))).wr W11 (Or.inl (List.mem_of_getElem? (i := 0) rfl))).wr W15 (Or.inl (List.mem_of_getElem? (i := 0) rfl))), F16⟩
set_option maxRecDepth 65536 in
theorem c_put3_5 (l : Launch) (Z : State) (a0 : Array Value) (hw : ∀ d ∈ tables_1, d.before a0 Z = true) (x : Addr) (vv : Int32) (h0 : Heap) (n0 : Nat) (g : Nat → Int32) (Z0 : n0 ≤ h0.size) (A0 : Av Z h0 x .byte 8 (iF g)) (g0 : n0 ≤ x) (c0 : ¬ vv < (128 : Int32)) (c1 : ¬ ((vv.toUInt32 >>> ((7 : Int32) &&& 31).toUInt32).toInt32) < (128 : Int32)) (c2 : ¬ ((((vv.toUInt32 >>> ((7 : Int32) &&& 31).toUInt32).toInt32).toUInt32 >>> ((7 : Int32) &&& 31).toUInt32).toInt32) < (128 : Int32)) (c3 : ¬ ((((((vv.toUInt32 >>> ((7 : Int32) &&& 31).toUInt32).toInt32).toUInt32 >>> ((7 : Int32) &&& 31).toUInt32).toInt32).toUInt32 >>> ((7 : Int32) &&& 31).toUInt32).toInt32) < (128 : Int32)) (c4 : ((((((((vv.toUInt32 >>> ((7 : Int32) &&& 31).toUInt32).toInt32).toUInt32 >>> ((7 : Int32) &&& 31).toUInt32).toInt32).toUInt32 >>> ((7 : Int32) &&& 31).toUInt32).toInt32).toUInt32 >>> ((7 : Int32) &&& 31).toUInt32).toInt32) < (128 : Int32)) : Met1 l Z (⟨"com/example/revleaf/revleaf/Node", "putVarint", "([BII)I"⟩ : MethodName) prog_26_method_63_code 5 (some .int) [] ({ frames := 0, cells := 0, slots := 0, locals := 0 } : Room) #[(.ref x), (.int (3 : Int32)), (.int vv)] h0 n0 (fun v h => v = some (.int (8 : Int32)) ∧ Keep h0 h [x] ∧ Av Z h x .byte 8 (iF (upd (upd (upd (upd (upd g 3 (nar .byte (vv ||| (128 : Int32)).toInt8.toInt32)) 4 (nar .byte (((vv.toUInt32 >>> ((7 : Int32) &&& 31).toUInt32).toInt32) ||| (128 : Int32)).toInt8.toInt32)) 5 (nar .byte (((((vv.toUInt32 >>> ((7 : Int32) &&& 31).toUInt32).toInt32).toUInt32 >>> ((7 : Int32) &&& 31).toUInt32).toInt32) ||| (128 : Int32)).toInt8.toInt32)) 6 (nar .byte (((((((vv.toUInt32 >>> ((7 : Int32) &&& 31).toUInt32).toInt32).toUInt32 >>> ((7 : Int32) &&& 31).toUInt32).toInt32).toUInt32 >>> ((7 : Int32) &&& 31).toUInt32).toInt32) ||| (128 : Int32)).toInt8.toInt32)) 7 (nar .byte ((((((((vv.toUInt32 >>> ((7 : Int32) &&& 31).toUInt32).toInt32).toUInt32 >>> ((7 : Int32) &&& 31).toUInt32).toInt32).toUInt32 >>> ((7 : Int32) &&& 31).toUInt32).toInt32).toUInt32 >>> ((7 : Int32) &&& 31).toUInt32).toInt32).toInt8.toInt32)))) := by
  refine met_of_go (plainFor_of_name pn_com_example_revleaf_revleaf_Node) (fun m => ef_1_l1_3Int32 m x vv) ?_
  intro W hl C
  subst hl
  refine Go.iloadN C d1_0 (q := 1) rfl rfl ?_
  refine Go.istoreNR C d1_1 (q := 2) rfl (l' := #[.val (.ref x), .val (.int (3 : Int32)), .val (.int vv), .val (.int vv), .unset]) rfl ?_
  refine Go.iloadN C d1_2 (q := 3) rfl rfl ?_
  refine Go.istoreR C d1_3 (q := 5) rfl (l' := #[.val (.ref x), .val (.int (3 : Int32)), .val (.int vv), .val (.int vv), .val (.int (3 : Int32))]) rfl ?_
  refine Go.iloadN C d1_5 (q := 6) rfl rfl ?_
  refine Go.sipush C (128 : Int32) d1_6 (q := 9) rfl rfl ?_
  refine Go.icmp C d1_9 (n_lt _ _) (qt := 33) (q := 12) (by decide) (by decide) rfl (fun b1 => absurd b1 c0) (fun _ => ?_)
  refine Go.aloadN C d1_12 (q := 13) rfl rfl rfl ?_
  refine Go.iload C d1_13 (q := 15) rfl rfl ?_
  refine Go.iincR C d1_15 (q := 18) rfl rfl (l' := #[.val (.ref x), .val (.int (3 : Int32)), .val (.int vv), .val (.int vv), .val (.int (4 : Int32))]) rfl ?_
  refine Go.iloadN C d1_18 (q := 19) rfl rfl ?_
  refine Go.sipush C (128 : Int32) d1_19 (q := 22) rfl rfl ?_
  refine Go.ior C d1_22 (q := 23) rfl ?_
  refine Go.i2b C d1_23 (q := 24) rfl ?_
  refine Go.bastore C A0 3 (by decide) (by decide) (by decide) g0 d1_24 (q := 25) rfl ?_
  intro h2 W3
  have F4 := A0.sameI W3
  refine Go.iloadN C d1_25 (q := 26) rfl rfl ?_
  refine Go.bipush C (7 : Int32) d1_26 (q := 28) rfl rfl ?_
  refine Go.iushr C d1_28 (q := 29) rfl ?_
  refine Go.istoreNR C d1_29 (q := 30) rfl (l' := #[.val (.ref x), .val (.int (3 : Int32)), .val (.int vv), .val (.int ((vv.toUInt32 >>> ((7 : Int32) &&& 31).toUInt32).toInt32)), .val (.int (4 : Int32))]) rfl ?_
  refine Go.goto C d1_30 (q := 5) (by decide) (by decide) ?_
  refine Go.iloadN C d1_5 (q := 6) rfl rfl ?_
  refine Go.sipush C (128 : Int32) d1_6 (q := 9) rfl rfl ?_
  refine Go.icmp C d1_9 (n_lt _ _) (qt := 33) (q := 12) (by decide) (by decide) rfl (fun b5 => absurd b5 c1) (fun _ => ?_)
  refine Go.aloadN C d1_12 (q := 13) rfl rfl rfl ?_
  refine Go.iload C d1_13 (q := 15) rfl rfl ?_
  refine Go.iincR C d1_15 (q := 18) rfl rfl (l' := #[.val (.ref x), .val (.int (3 : Int32)), .val (.int vv), .val (.int ((vv.toUInt32 >>> ((7 : Int32) &&& 31).toUInt32).toInt32)), .val (.int (5 : Int32))]) rfl ?_
  refine Go.iloadN C d1_18 (q := 19) rfl rfl ?_
  refine Go.sipush C (128 : Int32) d1_19 (q := 22) rfl rfl ?_
  refine Go.ior C d1_22 (q := 23) rfl ?_
  refine Go.i2b C d1_23 (q := 24) rfl ?_
  refine Go.bastore C F4 4 (by decide) (by decide) (by decide) g0 d1_24 (q := 25) rfl ?_
  intro h6 W7
  have F8 := F4.sameI W7
  refine Go.iloadN C d1_25 (q := 26) rfl rfl ?_
  refine Go.bipush C (7 : Int32) d1_26 (q := 28) rfl rfl ?_
  refine Go.iushr C d1_28 (q := 29) rfl ?_
  refine Go.istoreNR C d1_29 (q := 30) rfl (l' := #[.val (.ref x), .val (.int (3 : Int32)), .val (.int vv), .val (.int ((((vv.toUInt32 >>> ((7 : Int32) &&& 31).toUInt32).toInt32).toUInt32 >>> ((7 : Int32) &&& 31).toUInt32).toInt32)), .val (.int (5 : Int32))]) rfl ?_
  refine Go.goto C d1_30 (q := 5) (by decide) (by decide) ?_
  refine Go.iloadN C d1_5 (q := 6) rfl rfl ?_
  refine Go.sipush C (128 : Int32) d1_6 (q := 9) rfl rfl ?_
  refine Go.icmp C d1_9 (n_lt _ _) (qt := 33) (q := 12) (by decide) (by decide) rfl (fun b9 => absurd b9 c2) (fun _ => ?_)
  refine Go.aloadN C d1_12 (q := 13) rfl rfl rfl ?_
  refine Go.iload C d1_13 (q := 15) rfl rfl ?_
  refine Go.iincR C d1_15 (q := 18) rfl rfl (l' := #[.val (.ref x), .val (.int (3 : Int32)), .val (.int vv), .val (.int ((((vv.toUInt32 >>> ((7 : Int32) &&& 31).toUInt32).toInt32).toUInt32 >>> ((7 : Int32) &&& 31).toUInt32).toInt32)), .val (.int (6 : Int32))]) rfl ?_
  refine Go.iloadN C d1_18 (q := 19) rfl rfl ?_
  refine Go.sipush C (128 : Int32) d1_19 (q := 22) rfl rfl ?_
  refine Go.ior C d1_22 (q := 23) rfl ?_
  refine Go.i2b C d1_23 (q := 24) rfl ?_
  refine Go.bastore C F8 5 (by decide) (by decide) (by decide) g0 d1_24 (q := 25) rfl ?_
  intro h10 W11
  have F12 := F8.sameI W11
  refine Go.iloadN C d1_25 (q := 26) rfl rfl ?_
  refine Go.bipush C (7 : Int32) d1_26 (q := 28) rfl rfl ?_
  refine Go.iushr C d1_28 (q := 29) rfl ?_
  refine Go.istoreNR C d1_29 (q := 30) rfl (l' := #[.val (.ref x), .val (.int (3 : Int32)), .val (.int vv), .val (.int ((((((vv.toUInt32 >>> ((7 : Int32) &&& 31).toUInt32).toInt32).toUInt32 >>> ((7 : Int32) &&& 31).toUInt32).toInt32).toUInt32 >>> ((7 : Int32) &&& 31).toUInt32).toInt32)), .val (.int (6 : Int32))]) rfl ?_
  refine Go.goto C d1_30 (q := 5) (by decide) (by decide) ?_
  refine Go.iloadN C d1_5 (q := 6) rfl rfl ?_
  refine Go.sipush C (128 : Int32) d1_6 (q := 9) rfl rfl ?_
  refine Go.icmp C d1_9 (n_lt _ _) (qt := 33) (q := 12) (by decide) (by decide) rfl (fun b13 => absurd b13 c3) (fun _ => ?_)
  refine Go.aloadN C d1_12 (q := 13) rfl rfl rfl ?_
  refine Go.iload C d1_13 (q := 15) rfl rfl ?_
  refine Go.iincR C d1_15 (q := 18) rfl rfl (l' := #[.val (.ref x), .val (.int (3 : Int32)), .val (.int vv), .val (.int ((((((vv.toUInt32 >>> ((7 : Int32) &&& 31).toUInt32).toInt32).toUInt32 >>> ((7 : Int32) &&& 31).toUInt32).toInt32).toUInt32 >>> ((7 : Int32) &&& 31).toUInt32).toInt32)), .val (.int (7 : Int32))]) rfl ?_
  refine Go.iloadN C d1_18 (q := 19) rfl rfl ?_
  refine Go.sipush C (128 : Int32) d1_19 (q := 22) rfl rfl ?_
  refine Go.ior C d1_22 (q := 23) rfl ?_
  refine Go.i2b C d1_23 (q := 24) rfl ?_
  refine Go.bastore C F12 6 (by decide) (by decide) (by decide) g0 d1_24 (q := 25) rfl ?_
  intro h14 W15
  have F16 := F12.sameI W15
  refine Go.iloadN C d1_25 (q := 26) rfl rfl ?_
  refine Go.bipush C (7 : Int32) d1_26 (q := 28) rfl rfl ?_
  refine Go.iushr C d1_28 (q := 29) rfl ?_
  refine Go.istoreNR C d1_29 (q := 30) rfl (l' := #[.val (.ref x), .val (.int (3 : Int32)), .val (.int vv), .val (.int ((((((((vv.toUInt32 >>> ((7 : Int32) &&& 31).toUInt32).toInt32).toUInt32 >>> ((7 : Int32) &&& 31).toUInt32).toInt32).toUInt32 >>> ((7 : Int32) &&& 31).toUInt32).toInt32).toUInt32 >>> ((7 : Int32) &&& 31).toUInt32).toInt32)), .val (.int (7 : Int32))]) rfl ?_
  refine Go.goto C d1_30 (q := 5) (by decide) (by decide) ?_
  refine Go.iloadN C d1_5 (q := 6) rfl rfl ?_
  refine Go.sipush C (128 : Int32) d1_6 (q := 9) rfl rfl ?_
  refine Go.icmp C d1_9 (n_lt _ _) (qt := 33) (q := 12) (by decide) (by decide) rfl (fun _ => ?_) (fun b17 => absurd c4 b17)
  refine Go.aloadN C d1_33 (q := 34) rfl rfl rfl ?_
  refine Go.iload C d1_34 (q := 36) rfl rfl ?_
  refine Go.iincR C d1_36 (q := 39) rfl rfl (l' := #[.val (.ref x), .val (.int (3 : Int32)), .val (.int vv), .val (.int ((((((((vv.toUInt32 >>> ((7 : Int32) &&& 31).toUInt32).toInt32).toUInt32 >>> ((7 : Int32) &&& 31).toUInt32).toInt32).toUInt32 >>> ((7 : Int32) &&& 31).toUInt32).toInt32).toUInt32 >>> ((7 : Int32) &&& 31).toUInt32).toInt32)), .val (.int (8 : Int32))]) rfl ?_
  refine Go.iloadN C d1_39 (q := 40) rfl rfl ?_
  refine Go.i2b C d1_40 (q := 41) rfl ?_
  refine Go.bastore C F16 7 (by decide) (by decide) (by decide) g0 d1_41 (q := 42) rfl ?_
  intro h18 W19
  have F20 := F16.sameI W19
  refine Go.iload C d1_42 (q := 44) rfl rfl ?_
  exact Go.retI C d1_44 (by decide) (by decide) ⟨rfl, ((((((Keep.refl h0 [x]).wr W3 (Or.inl (List.mem_of_getElem? (i := 0) rfl))).wr W7 (Or.inl (List.mem_of_getElem? (i := 0) rfl))).wr W11 (Or.inl (List.mem_of_getElem? (i := 0) rfl))).wr W15 (Or.inl (List.mem_of_getElem? (i := 0) rfl))).wr W19 (Or.inl (List.mem_of_getElem? (i := 0) rfl))), F20⟩
theorem fin0 (p0 : Int32) (p1 : Int32) (p2 : Int32) (p3 : Int32) (v1 : Int32) (hv1 : v1 = (((p0.toUInt32 >>> ((p1 &&& (31 : Int32)) &&& 31).toUInt32).toInt32) &&& (2147483647 : Int32))) (hv2 : (0 : Int32) = (p2 &&& (3 : Int32))) (w0 : v1 < (128 : Int32)) (v3 : Int32) (hv3 : v3 = p3.toInt8.toInt32) (v43 : Int32) (hv43 : v43 = (if (f_ok (nar .byte v1.toInt8.toInt32) (0 : Int32) (0 : Int32) (1 : Int32) v1 v3) = (0 : Int32) then (0 : Int32) else (if (f_ok (nar .byte v3) (1 : Int32) (0 : Int32) (1 : Int32) v1 v3) = (0 : Int32) then (0 : Int32) else (if (f_ok (nar .byte v3) (2 : Int32) (0 : Int32) (1 : Int32) v1 v3) = (0 : Int32) then (0 : Int32) else (if (f_ok (nar .byte v3) (3 : Int32) (0 : Int32) (1 : Int32) v1 v3) = (0 : Int32) then (0 : Int32) else (if (f_ok (nar .byte v3) (4 : Int32) (0 : Int32) (1 : Int32) v1 v3) = (0 : Int32) then (0 : Int32) else (if (f_ok (nar .byte v3) (5 : Int32) (0 : Int32) (1 : Int32) v1 v3) = (0 : Int32) then (0 : Int32) else (if (f_ok (nar .byte v3) (6 : Int32) (0 : Int32) (1 : Int32) v1 v3) = (0 : Int32) then (0 : Int32) else (if (f_ok (nar .byte v3) (7 : Int32) (0 : Int32) (1 : Int32) v1 v3) = (0 : Int32) then (0 : Int32) else (1 : Int32)))))))))) : nar .boolean v43 = 1 := by
  have h0 := own_nn _ _ hv1
  have o0 : f_ok (nar .byte v1.toInt8.toInt32) (0 : Int32) (0 : Int32) (1 : Int32) v1 v3 = 1 := by
    unfold f_ok
    rw [if_neg (by decide), if_pos (by decide), if_neg (by decide)]
    exact if_pos (own_pB v1 _ (own_k0 v1) (own_n0 v1 h0) w0)
  have o1 : f_ok (nar .byte v3) (1 : Int32) (0 : Int32) (1 : Int32) v1 v3 = 1 := by
    unfold f_ok
    rw [if_neg (by decide), if_neg (by decide)]
    exact if_pos (rfl)
  have o2 : f_ok (nar .byte v3) (2 : Int32) (0 : Int32) (1 : Int32) v1 v3 = 1 := by
    unfold f_ok
    rw [if_neg (by decide), if_neg (by decide)]
    exact if_pos (rfl)
  have o3 : f_ok (nar .byte v3) (3 : Int32) (0 : Int32) (1 : Int32) v1 v3 = 1 := by
    unfold f_ok
    rw [if_neg (by decide), if_neg (by decide)]
    exact if_pos (rfl)
  have o4 : f_ok (nar .byte v3) (4 : Int32) (0 : Int32) (1 : Int32) v1 v3 = 1 := by
    unfold f_ok
    rw [if_neg (by decide), if_neg (by decide)]
    exact if_pos (rfl)
  have o5 : f_ok (nar .byte v3) (5 : Int32) (0 : Int32) (1 : Int32) v1 v3 = 1 := by
    unfold f_ok
    rw [if_neg (by decide), if_neg (by decide)]
    exact if_pos (rfl)
  have o6 : f_ok (nar .byte v3) (6 : Int32) (0 : Int32) (1 : Int32) v1 v3 = 1 := by
    unfold f_ok
    rw [if_neg (by decide), if_neg (by decide)]
    exact if_pos (rfl)
  have o7 : f_ok (nar .byte v3) (7 : Int32) (0 : Int32) (1 : Int32) v1 v3 = 1 := by
    unfold f_ok
    rw [if_neg (by decide), if_neg (by decide)]
    exact if_pos (rfl)
  rw [hv43, o0, if_neg (by decide), o1, if_neg (by decide), o2, if_neg (by decide), o3, if_neg (by decide), o4, if_neg (by decide), o5, if_neg (by decide), o6, if_neg (by decide), o7, if_neg (by decide)]
  rfl
theorem fin1 (p0 : Int32) (p1 : Int32) (p2 : Int32) (p3 : Int32) (v1 : Int32) (hv1 : v1 = (((p0.toUInt32 >>> ((p1 &&& (31 : Int32)) &&& 31).toUInt32).toInt32) &&& (2147483647 : Int32))) (hv2 : (0 : Int32) = (p2 &&& (3 : Int32))) (w0 : ¬ v1 < (128 : Int32)) (w1 : ((v1.toUInt32 >>> ((7 : Int32) &&& 31).toUInt32).toInt32) < (128 : Int32)) (v53 : Int32) (hv53 : v53 = p3.toInt8.toInt32) (v94 : Int32) (hv94 : v94 = (if (f_ok (nar .byte (v1 ||| (128 : Int32)).toInt8.toInt32) (0 : Int32) (0 : Int32) (2 : Int32) v1 v53) = (0 : Int32) then (0 : Int32) else (if (f_ok (nar .byte ((v1.toUInt32 >>> ((7 : Int32) &&& 31).toUInt32).toInt32).toInt8.toInt32) (1 : Int32) (0 : Int32) (2 : Int32) v1 v53) = (0 : Int32) then (0 : Int32) else (if (f_ok (nar .byte v53) (2 : Int32) (0 : Int32) (2 : Int32) v1 v53) = (0 : Int32) then (0 : Int32) else (if (f_ok (nar .byte v53) (3 : Int32) (0 : Int32) (2 : Int32) v1 v53) = (0 : Int32) then (0 : Int32) else (if (f_ok (nar .byte v53) (4 : Int32) (0 : Int32) (2 : Int32) v1 v53) = (0 : Int32) then (0 : Int32) else (if (f_ok (nar .byte v53) (5 : Int32) (0 : Int32) (2 : Int32) v1 v53) = (0 : Int32) then (0 : Int32) else (if (f_ok (nar .byte v53) (6 : Int32) (0 : Int32) (2 : Int32) v1 v53) = (0 : Int32) then (0 : Int32) else (if (f_ok (nar .byte v53) (7 : Int32) (0 : Int32) (2 : Int32) v1 v53) = (0 : Int32) then (0 : Int32) else (1 : Int32)))))))))) : nar .boolean v94 = 1 := by
  have h0 := own_nn _ _ hv1
  have o0 : f_ok (nar .byte (v1 ||| (128 : Int32)).toInt8.toInt32) (0 : Int32) (0 : Int32) (2 : Int32) v1 v53 = 1 := by
    unfold f_ok
    rw [if_neg (by decide), if_pos (by decide), if_pos (by decide)]
    exact if_pos (own_pA v1 _ (own_k0 v1))
  have o1 : f_ok (nar .byte ((v1.toUInt32 >>> ((7 : Int32) &&& 31).toUInt32).toInt32).toInt8.toInt32) (1 : Int32) (0 : Int32) (2 : Int32) v1 v53 = 1 := by
    unfold f_ok
    rw [if_neg (by decide), if_pos (by decide), if_neg (by decide)]
    exact if_pos (own_pB (own_s v1) _ (own_k1 v1) (own_n1 v1 h0) w1)
  have o2 : f_ok (nar .byte v53) (2 : Int32) (0 : Int32) (2 : Int32) v1 v53 = 1 := by
    unfold f_ok
    rw [if_neg (by decide), if_neg (by decide)]
    exact if_pos (rfl)
  have o3 : f_ok (nar .byte v53) (3 : Int32) (0 : Int32) (2 : Int32) v1 v53 = 1 := by
    unfold f_ok
    rw [if_neg (by decide), if_neg (by decide)]
    exact if_pos (rfl)
  have o4 : f_ok (nar .byte v53) (4 : Int32) (0 : Int32) (2 : Int32) v1 v53 = 1 := by
    unfold f_ok
    rw [if_neg (by decide), if_neg (by decide)]
    exact if_pos (rfl)
  have o5 : f_ok (nar .byte v53) (5 : Int32) (0 : Int32) (2 : Int32) v1 v53 = 1 := by
    unfold f_ok
    rw [if_neg (by decide), if_neg (by decide)]
    exact if_pos (rfl)
  have o6 : f_ok (nar .byte v53) (6 : Int32) (0 : Int32) (2 : Int32) v1 v53 = 1 := by
    unfold f_ok
    rw [if_neg (by decide), if_neg (by decide)]
    exact if_pos (rfl)
  have o7 : f_ok (nar .byte v53) (7 : Int32) (0 : Int32) (2 : Int32) v1 v53 = 1 := by
    unfold f_ok
    rw [if_neg (by decide), if_neg (by decide)]
    exact if_pos (rfl)
  rw [hv94, o0, if_neg (by decide), o1, if_neg (by decide), o2, if_neg (by decide), o3, if_neg (by decide), o4, if_neg (by decide), o5, if_neg (by decide), o6, if_neg (by decide), o7, if_neg (by decide)]
  rfl
theorem fin2 (p0 : Int32) (p1 : Int32) (p2 : Int32) (p3 : Int32) (v1 : Int32) (hv1 : v1 = (((p0.toUInt32 >>> ((p1 &&& (31 : Int32)) &&& 31).toUInt32).toInt32) &&& (2147483647 : Int32))) (hv2 : (0 : Int32) = (p2 &&& (3 : Int32))) (w0 : ¬ v1 < (128 : Int32)) (w1 : ¬ ((v1.toUInt32 >>> ((7 : Int32) &&& 31).toUInt32).toInt32) < (128 : Int32)) (w2 : ((((v1.toUInt32 >>> ((7 : Int32) &&& 31).toUInt32).toInt32).toUInt32 >>> ((7 : Int32) &&& 31).toUInt32).toInt32) < (128 : Int32)) (v104 : Int32) (hv104 : v104 = p3.toInt8.toInt32) (v146 : Int32) (hv146 : v146 = (if (f_ok (nar .byte (v1 ||| (128 : Int32)).toInt8.toInt32) (0 : Int32) (0 : Int32) (3 : Int32) v1 v104) = (0 : Int32) then (0 : Int32) else (if (f_ok (nar .byte (((v1.toUInt32 >>> ((7 : Int32) &&& 31).toUInt32).toInt32) ||| (128 : Int32)).toInt8.toInt32) (1 : Int32) (0 : Int32) (3 : Int32) v1 v104) = (0 : Int32) then (0 : Int32) else (if (f_ok (nar .byte ((((v1.toUInt32 >>> ((7 : Int32) &&& 31).toUInt32).toInt32).toUInt32 >>> ((7 : Int32) &&& 31).toUInt32).toInt32).toInt8.toInt32) (2 : Int32) (0 : Int32) (3 : Int32) v1 v104) = (0 : Int32) then (0 : Int32) else (if (f_ok (nar .byte v104) (3 : Int32) (0 : Int32) (3 : Int32) v1 v104) = (0 : Int32) then (0 : Int32) else (if (f_ok (nar .byte v104) (4 : Int32) (0 : Int32) (3 : Int32) v1 v104) = (0 : Int32) then (0 : Int32) else (if (f_ok (nar .byte v104) (5 : Int32) (0 : Int32) (3 : Int32) v1 v104) = (0 : Int32) then (0 : Int32) else (if (f_ok (nar .byte v104) (6 : Int32) (0 : Int32) (3 : Int32) v1 v104) = (0 : Int32) then (0 : Int32) else (if (f_ok (nar .byte v104) (7 : Int32) (0 : Int32) (3 : Int32) v1 v104) = (0 : Int32) then (0 : Int32) else (1 : Int32)))))))))) : nar .boolean v146 = 1 := by
  have h0 := own_nn _ _ hv1
  have o0 : f_ok (nar .byte (v1 ||| (128 : Int32)).toInt8.toInt32) (0 : Int32) (0 : Int32) (3 : Int32) v1 v104 = 1 := by
    unfold f_ok
    rw [if_neg (by decide), if_pos (by decide), if_pos (by decide)]
    exact if_pos (own_pA v1 _ (own_k0 v1))
  have o1 : f_ok (nar .byte (((v1.toUInt32 >>> ((7 : Int32) &&& 31).toUInt32).toInt32) ||| (128 : Int32)).toInt8.toInt32) (1 : Int32) (0 : Int32) (3 : Int32) v1 v104 = 1 := by
    unfold f_ok
    rw [if_neg (by decide), if_pos (by decide), if_pos (by decide)]
    exact if_pos (own_pA (own_s v1) _ (own_k1 v1))
  have o2 : f_ok (nar .byte ((((v1.toUInt32 >>> ((7 : Int32) &&& 31).toUInt32).toInt32).toUInt32 >>> ((7 : Int32) &&& 31).toUInt32).toInt32).toInt8.toInt32) (2 : Int32) (0 : Int32) (3 : Int32) v1 v104 = 1 := by
    unfold f_ok
    rw [if_neg (by decide), if_pos (by decide), if_neg (by decide)]
    exact if_pos (own_pB (own_s (own_s v1)) _ (own_k2 v1 h0) (own_n2 v1 h0) w2)
  have o3 : f_ok (nar .byte v104) (3 : Int32) (0 : Int32) (3 : Int32) v1 v104 = 1 := by
    unfold f_ok
    rw [if_neg (by decide), if_neg (by decide)]
    exact if_pos (rfl)
  have o4 : f_ok (nar .byte v104) (4 : Int32) (0 : Int32) (3 : Int32) v1 v104 = 1 := by
    unfold f_ok
    rw [if_neg (by decide), if_neg (by decide)]
    exact if_pos (rfl)
  have o5 : f_ok (nar .byte v104) (5 : Int32) (0 : Int32) (3 : Int32) v1 v104 = 1 := by
    unfold f_ok
    rw [if_neg (by decide), if_neg (by decide)]
    exact if_pos (rfl)
  have o6 : f_ok (nar .byte v104) (6 : Int32) (0 : Int32) (3 : Int32) v1 v104 = 1 := by
    unfold f_ok
    rw [if_neg (by decide), if_neg (by decide)]
    exact if_pos (rfl)
  have o7 : f_ok (nar .byte v104) (7 : Int32) (0 : Int32) (3 : Int32) v1 v104 = 1 := by
    unfold f_ok
    rw [if_neg (by decide), if_neg (by decide)]
    exact if_pos (rfl)
  rw [hv146, o0, if_neg (by decide), o1, if_neg (by decide), o2, if_neg (by decide), o3, if_neg (by decide), o4, if_neg (by decide), o5, if_neg (by decide), o6, if_neg (by decide), o7, if_neg (by decide)]
  rfl
theorem fin3 (p0 : Int32) (p1 : Int32) (p2 : Int32) (p3 : Int32) (v1 : Int32) (hv1 : v1 = (((p0.toUInt32 >>> ((p1 &&& (31 : Int32)) &&& 31).toUInt32).toInt32) &&& (2147483647 : Int32))) (hv2 : (0 : Int32) = (p2 &&& (3 : Int32))) (w0 : ¬ v1 < (128 : Int32)) (w1 : ¬ ((v1.toUInt32 >>> ((7 : Int32) &&& 31).toUInt32).toInt32) < (128 : Int32)) (w2 : ¬ ((((v1.toUInt32 >>> ((7 : Int32) &&& 31).toUInt32).toInt32).toUInt32 >>> ((7 : Int32) &&& 31).toUInt32).toInt32) < (128 : Int32)) (w3 : ((((((v1.toUInt32 >>> ((7 : Int32) &&& 31).toUInt32).toInt32).toUInt32 >>> ((7 : Int32) &&& 31).toUInt32).toInt32).toUInt32 >>> ((7 : Int32) &&& 31).toUInt32).toInt32) < (128 : Int32)) (v156 : Int32) (hv156 : v156 = p3.toInt8.toInt32) (v199 : Int32) (hv199 : v199 = (if (f_ok (nar .byte (v1 ||| (128 : Int32)).toInt8.toInt32) (0 : Int32) (0 : Int32) (4 : Int32) v1 v156) = (0 : Int32) then (0 : Int32) else (if (f_ok (nar .byte (((v1.toUInt32 >>> ((7 : Int32) &&& 31).toUInt32).toInt32) ||| (128 : Int32)).toInt8.toInt32) (1 : Int32) (0 : Int32) (4 : Int32) v1 v156) = (0 : Int32) then (0 : Int32) else (if (f_ok (nar .byte (((((v1.toUInt32 >>> ((7 : Int32) &&& 31).toUInt32).toInt32).toUInt32 >>> ((7 : Int32) &&& 31).toUInt32).toInt32) ||| (128 : Int32)).toInt8.toInt32) (2 : Int32) (0 : Int32) (4 : Int32) v1 v156) = (0 : Int32) then (0 : Int32) else (if (f_ok (nar .byte ((((((v1.toUInt32 >>> ((7 : Int32) &&& 31).toUInt32).toInt32).toUInt32 >>> ((7 : Int32) &&& 31).toUInt32).toInt32).toUInt32 >>> ((7 : Int32) &&& 31).toUInt32).toInt32).toInt8.toInt32) (3 : Int32) (0 : Int32) (4 : Int32) v1 v156) = (0 : Int32) then (0 : Int32) else (if (f_ok (nar .byte v156) (4 : Int32) (0 : Int32) (4 : Int32) v1 v156) = (0 : Int32) then (0 : Int32) else (if (f_ok (nar .byte v156) (5 : Int32) (0 : Int32) (4 : Int32) v1 v156) = (0 : Int32) then (0 : Int32) else (if (f_ok (nar .byte v156) (6 : Int32) (0 : Int32) (4 : Int32) v1 v156) = (0 : Int32) then (0 : Int32) else (if (f_ok (nar .byte v156) (7 : Int32) (0 : Int32) (4 : Int32) v1 v156) = (0 : Int32) then (0 : Int32) else (1 : Int32)))))))))) : nar .boolean v199 = 1 := by
  have h0 := own_nn _ _ hv1
  have o0 : f_ok (nar .byte (v1 ||| (128 : Int32)).toInt8.toInt32) (0 : Int32) (0 : Int32) (4 : Int32) v1 v156 = 1 := by
    unfold f_ok
    rw [if_neg (by decide), if_pos (by decide), if_pos (by decide)]
    exact if_pos (own_pA v1 _ (own_k0 v1))
  have o1 : f_ok (nar .byte (((v1.toUInt32 >>> ((7 : Int32) &&& 31).toUInt32).toInt32) ||| (128 : Int32)).toInt8.toInt32) (1 : Int32) (0 : Int32) (4 : Int32) v1 v156 = 1 := by
    unfold f_ok
    rw [if_neg (by decide), if_pos (by decide), if_pos (by decide)]
    exact if_pos (own_pA (own_s v1) _ (own_k1 v1))
  have o2 : f_ok (nar .byte (((((v1.toUInt32 >>> ((7 : Int32) &&& 31).toUInt32).toInt32).toUInt32 >>> ((7 : Int32) &&& 31).toUInt32).toInt32) ||| (128 : Int32)).toInt8.toInt32) (2 : Int32) (0 : Int32) (4 : Int32) v1 v156 = 1 := by
    unfold f_ok
    rw [if_neg (by decide), if_pos (by decide), if_pos (by decide)]
    exact if_pos (own_pA (own_s (own_s v1)) _ (own_k2 v1 h0))
  have o3 : f_ok (nar .byte ((((((v1.toUInt32 >>> ((7 : Int32) &&& 31).toUInt32).toInt32).toUInt32 >>> ((7 : Int32) &&& 31).toUInt32).toInt32).toUInt32 >>> ((7 : Int32) &&& 31).toUInt32).toInt32).toInt8.toInt32) (3 : Int32) (0 : Int32) (4 : Int32) v1 v156 = 1 := by
    unfold f_ok
    rw [if_neg (by decide), if_pos (by decide), if_neg (by decide)]
    exact if_pos (own_pB (own_s (own_s (own_s v1))) _ (own_k3 v1 h0) (own_n3 v1 h0) w3)
  have o4 : f_ok (nar .byte v156) (4 : Int32) (0 : Int32) (4 : Int32) v1 v156 = 1 := by
    unfold f_ok
    rw [if_neg (by decide), if_neg (by decide)]
    exact if_pos (rfl)
  have o5 : f_ok (nar .byte v156) (5 : Int32) (0 : Int32) (4 : Int32) v1 v156 = 1 := by
    unfold f_ok
    rw [if_neg (by decide), if_neg (by decide)]
    exact if_pos (rfl)
  have o6 : f_ok (nar .byte v156) (6 : Int32) (0 : Int32) (4 : Int32) v1 v156 = 1 := by
    unfold f_ok
    rw [if_neg (by decide), if_neg (by decide)]
    exact if_pos (rfl)
  have o7 : f_ok (nar .byte v156) (7 : Int32) (0 : Int32) (4 : Int32) v1 v156 = 1 := by
    unfold f_ok
    rw [if_neg (by decide), if_neg (by decide)]
    exact if_pos (rfl)
  rw [hv199, o0, if_neg (by decide), o1, if_neg (by decide), o2, if_neg (by decide), o3, if_neg (by decide), o4, if_neg (by decide), o5, if_neg (by decide), o6, if_neg (by decide), o7, if_neg (by decide)]
  rfl
theorem fin4 (p0 : Int32) (p1 : Int32) (p2 : Int32) (p3 : Int32) (v1 : Int32) (hv1 : v1 = (((p0.toUInt32 >>> ((p1 &&& (31 : Int32)) &&& 31).toUInt32).toInt32) &&& (2147483647 : Int32))) (hv2 : (0 : Int32) = (p2 &&& (3 : Int32))) (w0 : ¬ v1 < (128 : Int32)) (w1 : ¬ ((v1.toUInt32 >>> ((7 : Int32) &&& 31).toUInt32).toInt32) < (128 : Int32)) (w2 : ¬ ((((v1.toUInt32 >>> ((7 : Int32) &&& 31).toUInt32).toInt32).toUInt32 >>> ((7 : Int32) &&& 31).toUInt32).toInt32) < (128 : Int32)) (w3 : ¬ ((((((v1.toUInt32 >>> ((7 : Int32) &&& 31).toUInt32).toInt32).toUInt32 >>> ((7 : Int32) &&& 31).toUInt32).toInt32).toUInt32 >>> ((7 : Int32) &&& 31).toUInt32).toInt32) < (128 : Int32)) (w4 : ((((((((v1.toUInt32 >>> ((7 : Int32) &&& 31).toUInt32).toInt32).toUInt32 >>> ((7 : Int32) &&& 31).toUInt32).toInt32).toUInt32 >>> ((7 : Int32) &&& 31).toUInt32).toInt32).toUInt32 >>> ((7 : Int32) &&& 31).toUInt32).toInt32) < (128 : Int32)) (v209 : Int32) (hv209 : v209 = p3.toInt8.toInt32) (v252 : Int32) (hv252 : v252 = (if (f_ok (nar .byte (v1 ||| (128 : Int32)).toInt8.toInt32) (0 : Int32) (0 : Int32) (5 : Int32) v1 v209) = (0 : Int32) then (0 : Int32) else (if (f_ok (nar .byte (((v1.toUInt32 >>> ((7 : Int32) &&& 31).toUInt32).toInt32) ||| (128 : Int32)).toInt8.toInt32) (1 : Int32) (0 : Int32) (5 : Int32) v1 v209) = (0 : Int32) then (0 : Int32) else (if (f_ok (nar .byte (((((v1.toUInt32 >>> ((7 : Int32) &&& 31).toUInt32).toInt32).toUInt32 >>> ((7 : Int32) &&& 31).toUInt32).toInt32) ||| (128 : Int32)).toInt8.toInt32) (2 : Int32) (0 : Int32) (5 : Int32) v1 v209) = (0 : Int32) then (0 : Int32) else (if (f_ok (nar .byte (((((((v1.toUInt32 >>> ((7 : Int32) &&& 31).toUInt32).toInt32).toUInt32 >>> ((7 : Int32) &&& 31).toUInt32).toInt32).toUInt32 >>> ((7 : Int32) &&& 31).toUInt32).toInt32) ||| (128 : Int32)).toInt8.toInt32) (3 : Int32) (0 : Int32) (5 : Int32) v1 v209) = (0 : Int32) then (0 : Int32) else (if (f_ok (nar .byte ((((((((v1.toUInt32 >>> ((7 : Int32) &&& 31).toUInt32).toInt32).toUInt32 >>> ((7 : Int32) &&& 31).toUInt32).toInt32).toUInt32 >>> ((7 : Int32) &&& 31).toUInt32).toInt32).toUInt32 >>> ((7 : Int32) &&& 31).toUInt32).toInt32).toInt8.toInt32) (4 : Int32) (0 : Int32) (5 : Int32) v1 v209) = (0 : Int32) then (0 : Int32) else (if (f_ok (nar .byte v209) (5 : Int32) (0 : Int32) (5 : Int32) v1 v209) = (0 : Int32) then (0 : Int32) else (if (f_ok (nar .byte v209) (6 : Int32) (0 : Int32) (5 : Int32) v1 v209) = (0 : Int32) then (0 : Int32) else (if (f_ok (nar .byte v209) (7 : Int32) (0 : Int32) (5 : Int32) v1 v209) = (0 : Int32) then (0 : Int32) else (1 : Int32)))))))))) : nar .boolean v252 = 1 := by
  have h0 := own_nn _ _ hv1
  have o0 : f_ok (nar .byte (v1 ||| (128 : Int32)).toInt8.toInt32) (0 : Int32) (0 : Int32) (5 : Int32) v1 v209 = 1 := by
    unfold f_ok
    rw [if_neg (by decide), if_pos (by decide), if_pos (by decide)]
    exact if_pos (own_pA v1 _ (own_k0 v1))
  have o1 : f_ok (nar .byte (((v1.toUInt32 >>> ((7 : Int32) &&& 31).toUInt32).toInt32) ||| (128 : Int32)).toInt8.toInt32) (1 : Int32) (0 : Int32) (5 : Int32) v1 v209 = 1 := by
    unfold f_ok
    rw [if_neg (by decide), if_pos (by decide), if_pos (by decide)]
    exact if_pos (own_pA (own_s v1) _ (own_k1 v1))
  have o2 : f_ok (nar .byte (((((v1.toUInt32 >>> ((7 : Int32) &&& 31).toUInt32).toInt32).toUInt32 >>> ((7 : Int32) &&& 31).toUInt32).toInt32) ||| (128 : Int32)).toInt8.toInt32) (2 : Int32) (0 : Int32) (5 : Int32) v1 v209 = 1 := by
    unfold f_ok
    rw [if_neg (by decide), if_pos (by decide), if_pos (by decide)]
    exact if_pos (own_pA (own_s (own_s v1)) _ (own_k2 v1 h0))
  have o3 : f_ok (nar .byte (((((((v1.toUInt32 >>> ((7 : Int32) &&& 31).toUInt32).toInt32).toUInt32 >>> ((7 : Int32) &&& 31).toUInt32).toInt32).toUInt32 >>> ((7 : Int32) &&& 31).toUInt32).toInt32) ||| (128 : Int32)).toInt8.toInt32) (3 : Int32) (0 : Int32) (5 : Int32) v1 v209 = 1 := by
    unfold f_ok
    rw [if_neg (by decide), if_pos (by decide), if_pos (by decide)]
    exact if_pos (own_pA (own_s (own_s (own_s v1))) _ (own_k3 v1 h0))
  have o4 : f_ok (nar .byte ((((((((v1.toUInt32 >>> ((7 : Int32) &&& 31).toUInt32).toInt32).toUInt32 >>> ((7 : Int32) &&& 31).toUInt32).toInt32).toUInt32 >>> ((7 : Int32) &&& 31).toUInt32).toInt32).toUInt32 >>> ((7 : Int32) &&& 31).toUInt32).toInt32).toInt8.toInt32) (4 : Int32) (0 : Int32) (5 : Int32) v1 v209 = 1 := by
    unfold f_ok
    rw [if_neg (by decide), if_pos (by decide), if_neg (by decide)]
    exact if_pos (own_pB (own_s (own_s (own_s (own_s v1)))) _ (own_k4 v1 h0) (own_n4 v1 h0) w4)
  have o5 : f_ok (nar .byte v209) (5 : Int32) (0 : Int32) (5 : Int32) v1 v209 = 1 := by
    unfold f_ok
    rw [if_neg (by decide), if_neg (by decide)]
    exact if_pos (rfl)
  have o6 : f_ok (nar .byte v209) (6 : Int32) (0 : Int32) (5 : Int32) v1 v209 = 1 := by
    unfold f_ok
    rw [if_neg (by decide), if_neg (by decide)]
    exact if_pos (rfl)
  have o7 : f_ok (nar .byte v209) (7 : Int32) (0 : Int32) (5 : Int32) v1 v209 = 1 := by
    unfold f_ok
    rw [if_neg (by decide), if_neg (by decide)]
    exact if_pos (rfl)
  rw [hv252, o0, if_neg (by decide), o1, if_neg (by decide), o2, if_neg (by decide), o3, if_neg (by decide), o4, if_neg (by decide), o5, if_neg (by decide), o6, if_neg (by decide), o7, if_neg (by decide)]
  rfl
theorem fin5 (p0 : Int32) (p1 : Int32) (p2 : Int32) (p3 : Int32) (v1 : Int32) (hv1 : v1 = (((p0.toUInt32 >>> ((p1 &&& (31 : Int32)) &&& 31).toUInt32).toInt32) &&& (2147483647 : Int32))) (hv2 : (1 : Int32) = (p2 &&& (3 : Int32))) (w0 : v1 < (128 : Int32)) (v262 : Int32) (hv262 : v262 = p3.toInt8.toInt32) (v302 : Int32) (hv302 : v302 = (if (f_ok (nar .byte v262) (0 : Int32) (1 : Int32) (1 : Int32) v1 v262) = (0 : Int32) then (0 : Int32) else (if (f_ok (nar .byte v1.toInt8.toInt32) (1 : Int32) (1 : Int32) (1 : Int32) v1 v262) = (0 : Int32) then (0 : Int32) else (if (f_ok (nar .byte v262) (2 : Int32) (1 : Int32) (1 : Int32) v1 v262) = (0 : Int32) then (0 : Int32) else (if (f_ok (nar .byte v262) (3 : Int32) (1 : Int32) (1 : Int32) v1 v262) = (0 : Int32) then (0 : Int32) else (if (f_ok (nar .byte v262) (4 : Int32) (1 : Int32) (1 : Int32) v1 v262) = (0 : Int32) then (0 : Int32) else (if (f_ok (nar .byte v262) (5 : Int32) (1 : Int32) (1 : Int32) v1 v262) = (0 : Int32) then (0 : Int32) else (if (f_ok (nar .byte v262) (6 : Int32) (1 : Int32) (1 : Int32) v1 v262) = (0 : Int32) then (0 : Int32) else (if (f_ok (nar .byte v262) (7 : Int32) (1 : Int32) (1 : Int32) v1 v262) = (0 : Int32) then (0 : Int32) else (1 : Int32)))))))))) : nar .boolean v302 = 1 := by
  have h0 := own_nn _ _ hv1
  have o0 : f_ok (nar .byte v262) (0 : Int32) (1 : Int32) (1 : Int32) v1 v262 = 1 := by
    unfold f_ok
    rw [if_pos (by decide)]
    exact if_pos (rfl)
  have o1 : f_ok (nar .byte v1.toInt8.toInt32) (1 : Int32) (1 : Int32) (1 : Int32) v1 v262 = 1 := by
    unfold f_ok
    rw [if_neg (by decide), if_pos (by decide), if_neg (by decide)]
    exact if_pos (own_pB v1 _ (own_k0 v1) (own_n0 v1 h0) w0)
  have o2 : f_ok (nar .byte v262) (2 : Int32) (1 : Int32) (1 : Int32) v1 v262 = 1 := by
    unfold f_ok
    rw [if_neg (by decide), if_neg (by decide)]
    exact if_pos (rfl)
  have o3 : f_ok (nar .byte v262) (3 : Int32) (1 : Int32) (1 : Int32) v1 v262 = 1 := by
    unfold f_ok
    rw [if_neg (by decide), if_neg (by decide)]
    exact if_pos (rfl)
  have o4 : f_ok (nar .byte v262) (4 : Int32) (1 : Int32) (1 : Int32) v1 v262 = 1 := by
    unfold f_ok
    rw [if_neg (by decide), if_neg (by decide)]
    exact if_pos (rfl)
  have o5 : f_ok (nar .byte v262) (5 : Int32) (1 : Int32) (1 : Int32) v1 v262 = 1 := by
    unfold f_ok
    rw [if_neg (by decide), if_neg (by decide)]
    exact if_pos (rfl)
  have o6 : f_ok (nar .byte v262) (6 : Int32) (1 : Int32) (1 : Int32) v1 v262 = 1 := by
    unfold f_ok
    rw [if_neg (by decide), if_neg (by decide)]
    exact if_pos (rfl)
  have o7 : f_ok (nar .byte v262) (7 : Int32) (1 : Int32) (1 : Int32) v1 v262 = 1 := by
    unfold f_ok
    rw [if_neg (by decide), if_neg (by decide)]
    exact if_pos (rfl)
  rw [hv302, o0, if_neg (by decide), o1, if_neg (by decide), o2, if_neg (by decide), o3, if_neg (by decide), o4, if_neg (by decide), o5, if_neg (by decide), o6, if_neg (by decide), o7, if_neg (by decide)]
  rfl
theorem fin6 (p0 : Int32) (p1 : Int32) (p2 : Int32) (p3 : Int32) (v1 : Int32) (hv1 : v1 = (((p0.toUInt32 >>> ((p1 &&& (31 : Int32)) &&& 31).toUInt32).toInt32) &&& (2147483647 : Int32))) (hv2 : (1 : Int32) = (p2 &&& (3 : Int32))) (w0 : ¬ v1 < (128 : Int32)) (w1 : ((v1.toUInt32 >>> ((7 : Int32) &&& 31).toUInt32).toInt32) < (128 : Int32)) (v312 : Int32) (hv312 : v312 = p3.toInt8.toInt32) (v353 : Int32) (hv353 : v353 = (if (f_ok (nar .byte v312) (0 : Int32) (1 : Int32) (2 : Int32) v1 v312) = (0 : Int32) then (0 : Int32) else (if (f_ok (nar .byte (v1 ||| (128 : Int32)).toInt8.toInt32) (1 : Int32) (1 : Int32) (2 : Int32) v1 v312) = (0 : Int32) then (0 : Int32) else (if (f_ok (nar .byte ((v1.toUInt32 >>> ((7 : Int32) &&& 31).toUInt32).toInt32).toInt8.toInt32) (2 : Int32) (1 : Int32) (2 : Int32) v1 v312) = (0 : Int32) then (0 : Int32) else (if (f_ok (nar .byte v312) (3 : Int32) (1 : Int32) (2 : Int32) v1 v312) = (0 : Int32) then (0 : Int32) else (if (f_ok (nar .byte v312) (4 : Int32) (1 : Int32) (2 : Int32) v1 v312) = (0 : Int32) then (0 : Int32) else (if (f_ok (nar .byte v312) (5 : Int32) (1 : Int32) (2 : Int32) v1 v312) = (0 : Int32) then (0 : Int32) else (if (f_ok (nar .byte v312) (6 : Int32) (1 : Int32) (2 : Int32) v1 v312) = (0 : Int32) then (0 : Int32) else (if (f_ok (nar .byte v312) (7 : Int32) (1 : Int32) (2 : Int32) v1 v312) = (0 : Int32) then (0 : Int32) else (1 : Int32)))))))))) : nar .boolean v353 = 1 := by
  have h0 := own_nn _ _ hv1
  have o0 : f_ok (nar .byte v312) (0 : Int32) (1 : Int32) (2 : Int32) v1 v312 = 1 := by
    unfold f_ok
    rw [if_pos (by decide)]
    exact if_pos (rfl)
  have o1 : f_ok (nar .byte (v1 ||| (128 : Int32)).toInt8.toInt32) (1 : Int32) (1 : Int32) (2 : Int32) v1 v312 = 1 := by
    unfold f_ok
    rw [if_neg (by decide), if_pos (by decide), if_pos (by decide)]
    exact if_pos (own_pA v1 _ (own_k0 v1))
  have o2 : f_ok (nar .byte ((v1.toUInt32 >>> ((7 : Int32) &&& 31).toUInt32).toInt32).toInt8.toInt32) (2 : Int32) (1 : Int32) (2 : Int32) v1 v312 = 1 := by
    unfold f_ok
    rw [if_neg (by decide), if_pos (by decide), if_neg (by decide)]
    exact if_pos (own_pB (own_s v1) _ (own_k1 v1) (own_n1 v1 h0) w1)
  have o3 : f_ok (nar .byte v312) (3 : Int32) (1 : Int32) (2 : Int32) v1 v312 = 1 := by
    unfold f_ok
    rw [if_neg (by decide), if_neg (by decide)]
    exact if_pos (rfl)
  have o4 : f_ok (nar .byte v312) (4 : Int32) (1 : Int32) (2 : Int32) v1 v312 = 1 := by
    unfold f_ok
    rw [if_neg (by decide), if_neg (by decide)]
    exact if_pos (rfl)
  have o5 : f_ok (nar .byte v312) (5 : Int32) (1 : Int32) (2 : Int32) v1 v312 = 1 := by
    unfold f_ok
    rw [if_neg (by decide), if_neg (by decide)]
    exact if_pos (rfl)
  have o6 : f_ok (nar .byte v312) (6 : Int32) (1 : Int32) (2 : Int32) v1 v312 = 1 := by
    unfold f_ok
    rw [if_neg (by decide), if_neg (by decide)]
    exact if_pos (rfl)
  have o7 : f_ok (nar .byte v312) (7 : Int32) (1 : Int32) (2 : Int32) v1 v312 = 1 := by
    unfold f_ok
    rw [if_neg (by decide), if_neg (by decide)]
    exact if_pos (rfl)
  rw [hv353, o0, if_neg (by decide), o1, if_neg (by decide), o2, if_neg (by decide), o3, if_neg (by decide), o4, if_neg (by decide), o5, if_neg (by decide), o6, if_neg (by decide), o7, if_neg (by decide)]
  rfl
theorem fin7 (p0 : Int32) (p1 : Int32) (p2 : Int32) (p3 : Int32) (v1 : Int32) (hv1 : v1 = (((p0.toUInt32 >>> ((p1 &&& (31 : Int32)) &&& 31).toUInt32).toInt32) &&& (2147483647 : Int32))) (hv2 : (1 : Int32) = (p2 &&& (3 : Int32))) (w0 : ¬ v1 < (128 : Int32)) (w1 : ¬ ((v1.toUInt32 >>> ((7 : Int32) &&& 31).toUInt32).toInt32) < (128 : Int32)) (w2 : ((((v1.toUInt32 >>> ((7 : Int32) &&& 31).toUInt32).toInt32).toUInt32 >>> ((7 : Int32) &&& 31).toUInt32).toInt32) < (128 : Int32)) (v363 : Int32) (hv363 : v363 = p3.toInt8.toInt32) (v405 : Int32) (hv405 : v405 = (if (f_ok (nar .byte v363) (0 : Int32) (1 : Int32) (3 : Int32) v1 v363) = (0 : Int32) then (0 : Int32) else (if (f_ok (nar .byte (v1 ||| (128 : Int32)).toInt8.toInt32) (1 : Int32) (1 : Int32) (3 : Int32) v1 v363) = (0 : Int32) then (0 : Int32) else (if (f_ok (nar .byte (((v1.toUInt32 >>> ((7 : Int32) &&& 31).toUInt32).toInt32) ||| (128 : Int32)).toInt8.toInt32) (2 : Int32) (1 : Int32) (3 : Int32) v1 v363) = (0 : Int32) then (0 : Int32) else (if (f_ok (nar .byte ((((v1.toUInt32 >>> ((7 : Int32) &&& 31).toUInt32).toInt32).toUInt32 >>> ((7 : Int32) &&& 31).toUInt32).toInt32).toInt8.toInt32) (3 : Int32) (1 : Int32) (3 : Int32) v1 v363) = (0 : Int32) then (0 : Int32) else (if (f_ok (nar .byte v363) (4 : Int32) (1 : Int32) (3 : Int32) v1 v363) = (0 : Int32) then (0 : Int32) else (if (f_ok (nar .byte v363) (5 : Int32) (1 : Int32) (3 : Int32) v1 v363) = (0 : Int32) then (0 : Int32) else (if (f_ok (nar .byte v363) (6 : Int32) (1 : Int32) (3 : Int32) v1 v363) = (0 : Int32) then (0 : Int32) else (if (f_ok (nar .byte v363) (7 : Int32) (1 : Int32) (3 : Int32) v1 v363) = (0 : Int32) then (0 : Int32) else (1 : Int32)))))))))) : nar .boolean v405 = 1 := by
  have h0 := own_nn _ _ hv1
  have o0 : f_ok (nar .byte v363) (0 : Int32) (1 : Int32) (3 : Int32) v1 v363 = 1 := by
    unfold f_ok
    rw [if_pos (by decide)]
    exact if_pos (rfl)
  have o1 : f_ok (nar .byte (v1 ||| (128 : Int32)).toInt8.toInt32) (1 : Int32) (1 : Int32) (3 : Int32) v1 v363 = 1 := by
    unfold f_ok
    rw [if_neg (by decide), if_pos (by decide), if_pos (by decide)]
    exact if_pos (own_pA v1 _ (own_k0 v1))
  have o2 : f_ok (nar .byte (((v1.toUInt32 >>> ((7 : Int32) &&& 31).toUInt32).toInt32) ||| (128 : Int32)).toInt8.toInt32) (2 : Int32) (1 : Int32) (3 : Int32) v1 v363 = 1 := by
    unfold f_ok
    rw [if_neg (by decide), if_pos (by decide), if_pos (by decide)]
    exact if_pos (own_pA (own_s v1) _ (own_k1 v1))
  have o3 : f_ok (nar .byte ((((v1.toUInt32 >>> ((7 : Int32) &&& 31).toUInt32).toInt32).toUInt32 >>> ((7 : Int32) &&& 31).toUInt32).toInt32).toInt8.toInt32) (3 : Int32) (1 : Int32) (3 : Int32) v1 v363 = 1 := by
    unfold f_ok
    rw [if_neg (by decide), if_pos (by decide), if_neg (by decide)]
    exact if_pos (own_pB (own_s (own_s v1)) _ (own_k2 v1 h0) (own_n2 v1 h0) w2)
  have o4 : f_ok (nar .byte v363) (4 : Int32) (1 : Int32) (3 : Int32) v1 v363 = 1 := by
    unfold f_ok
    rw [if_neg (by decide), if_neg (by decide)]
    exact if_pos (rfl)
  have o5 : f_ok (nar .byte v363) (5 : Int32) (1 : Int32) (3 : Int32) v1 v363 = 1 := by
    unfold f_ok
    rw [if_neg (by decide), if_neg (by decide)]
    exact if_pos (rfl)
  have o6 : f_ok (nar .byte v363) (6 : Int32) (1 : Int32) (3 : Int32) v1 v363 = 1 := by
    unfold f_ok
    rw [if_neg (by decide), if_neg (by decide)]
    exact if_pos (rfl)
  have o7 : f_ok (nar .byte v363) (7 : Int32) (1 : Int32) (3 : Int32) v1 v363 = 1 := by
    unfold f_ok
    rw [if_neg (by decide), if_neg (by decide)]
    exact if_pos (rfl)
  rw [hv405, o0, if_neg (by decide), o1, if_neg (by decide), o2, if_neg (by decide), o3, if_neg (by decide), o4, if_neg (by decide), o5, if_neg (by decide), o6, if_neg (by decide), o7, if_neg (by decide)]
  rfl
theorem fin8 (p0 : Int32) (p1 : Int32) (p2 : Int32) (p3 : Int32) (v1 : Int32) (hv1 : v1 = (((p0.toUInt32 >>> ((p1 &&& (31 : Int32)) &&& 31).toUInt32).toInt32) &&& (2147483647 : Int32))) (hv2 : (1 : Int32) = (p2 &&& (3 : Int32))) (w0 : ¬ v1 < (128 : Int32)) (w1 : ¬ ((v1.toUInt32 >>> ((7 : Int32) &&& 31).toUInt32).toInt32) < (128 : Int32)) (w2 : ¬ ((((v1.toUInt32 >>> ((7 : Int32) &&& 31).toUInt32).toInt32).toUInt32 >>> ((7 : Int32) &&& 31).toUInt32).toInt32) < (128 : Int32)) (w3 : ((((((v1.toUInt32 >>> ((7 : Int32) &&& 31).toUInt32).toInt32).toUInt32 >>> ((7 : Int32) &&& 31).toUInt32).toInt32).toUInt32 >>> ((7 : Int32) &&& 31).toUInt32).toInt32) < (128 : Int32)) (v415 : Int32) (hv415 : v415 = p3.toInt8.toInt32) (v458 : Int32) (hv458 : v458 = (if (f_ok (nar .byte v415) (0 : Int32) (1 : Int32) (4 : Int32) v1 v415) = (0 : Int32) then (0 : Int32) else (if (f_ok (nar .byte (v1 ||| (128 : Int32)).toInt8.toInt32) (1 : Int32) (1 : Int32) (4 : Int32) v1 v415) = (0 : Int32) then (0 : Int32) else (if (f_ok (nar .byte (((v1.toUInt32 >>> ((7 : Int32) &&& 31).toUInt32).toInt32) ||| (128 : Int32)).toInt8.toInt32) (2 : Int32) (1 : Int32) (4 : Int32) v1 v415) = (0 : Int32) then (0 : Int32) else (if (f_ok (nar .byte (((((v1.toUInt32 >>> ((7 : Int32) &&& 31).toUInt32).toInt32).toUInt32 >>> ((7 : Int32) &&& 31).toUInt32).toInt32) ||| (128 : Int32)).toInt8.toInt32) (3 : Int32) (1 : Int32) (4 : Int32) v1 v415) = (0 : Int32) then (0 : Int32) else (if (f_ok (nar .byte ((((((v1.toUInt32 >>> ((7 : Int32) &&& 31).toUInt32).toInt32).toUInt32 >>> ((7 : Int32) &&& 31).toUInt32).toInt32).toUInt32 >>> ((7 : Int32) &&& 31).toUInt32).toInt32).toInt8.toInt32) (4 : Int32) (1 : Int32) (4 : Int32) v1 v415) = (0 : Int32) then (0 : Int32) else (if (f_ok (nar .byte v415) (5 : Int32) (1 : Int32) (4 : Int32) v1 v415) = (0 : Int32) then (0 : Int32) else (if (f_ok (nar .byte v415) (6 : Int32) (1 : Int32) (4 : Int32) v1 v415) = (0 : Int32) then (0 : Int32) else (if (f_ok (nar .byte v415) (7 : Int32) (1 : Int32) (4 : Int32) v1 v415) = (0 : Int32) then (0 : Int32) else (1 : Int32)))))))))) : nar .boolean v458 = 1 := by
  have h0 := own_nn _ _ hv1
  have o0 : f_ok (nar .byte v415) (0 : Int32) (1 : Int32) (4 : Int32) v1 v415 = 1 := by
    unfold f_ok
    rw [if_pos (by decide)]
    exact if_pos (rfl)
  have o1 : f_ok (nar .byte (v1 ||| (128 : Int32)).toInt8.toInt32) (1 : Int32) (1 : Int32) (4 : Int32) v1 v415 = 1 := by
    unfold f_ok
    rw [if_neg (by decide), if_pos (by decide), if_pos (by decide)]
    exact if_pos (own_pA v1 _ (own_k0 v1))
  have o2 : f_ok (nar .byte (((v1.toUInt32 >>> ((7 : Int32) &&& 31).toUInt32).toInt32) ||| (128 : Int32)).toInt8.toInt32) (2 : Int32) (1 : Int32) (4 : Int32) v1 v415 = 1 := by
    unfold f_ok
    rw [if_neg (by decide), if_pos (by decide), if_pos (by decide)]
    exact if_pos (own_pA (own_s v1) _ (own_k1 v1))
  have o3 : f_ok (nar .byte (((((v1.toUInt32 >>> ((7 : Int32) &&& 31).toUInt32).toInt32).toUInt32 >>> ((7 : Int32) &&& 31).toUInt32).toInt32) ||| (128 : Int32)).toInt8.toInt32) (3 : Int32) (1 : Int32) (4 : Int32) v1 v415 = 1 := by
    unfold f_ok
    rw [if_neg (by decide), if_pos (by decide), if_pos (by decide)]
    exact if_pos (own_pA (own_s (own_s v1)) _ (own_k2 v1 h0))
  have o4 : f_ok (nar .byte ((((((v1.toUInt32 >>> ((7 : Int32) &&& 31).toUInt32).toInt32).toUInt32 >>> ((7 : Int32) &&& 31).toUInt32).toInt32).toUInt32 >>> ((7 : Int32) &&& 31).toUInt32).toInt32).toInt8.toInt32) (4 : Int32) (1 : Int32) (4 : Int32) v1 v415 = 1 := by
    unfold f_ok
    rw [if_neg (by decide), if_pos (by decide), if_neg (by decide)]
    exact if_pos (own_pB (own_s (own_s (own_s v1))) _ (own_k3 v1 h0) (own_n3 v1 h0) w3)
  have o5 : f_ok (nar .byte v415) (5 : Int32) (1 : Int32) (4 : Int32) v1 v415 = 1 := by
    unfold f_ok
    rw [if_neg (by decide), if_neg (by decide)]
    exact if_pos (rfl)
  have o6 : f_ok (nar .byte v415) (6 : Int32) (1 : Int32) (4 : Int32) v1 v415 = 1 := by
    unfold f_ok
    rw [if_neg (by decide), if_neg (by decide)]
    exact if_pos (rfl)
  have o7 : f_ok (nar .byte v415) (7 : Int32) (1 : Int32) (4 : Int32) v1 v415 = 1 := by
    unfold f_ok
    rw [if_neg (by decide), if_neg (by decide)]
    exact if_pos (rfl)
  rw [hv458, o0, if_neg (by decide), o1, if_neg (by decide), o2, if_neg (by decide), o3, if_neg (by decide), o4, if_neg (by decide), o5, if_neg (by decide), o6, if_neg (by decide), o7, if_neg (by decide)]
  rfl
theorem fin9 (p0 : Int32) (p1 : Int32) (p2 : Int32) (p3 : Int32) (v1 : Int32) (hv1 : v1 = (((p0.toUInt32 >>> ((p1 &&& (31 : Int32)) &&& 31).toUInt32).toInt32) &&& (2147483647 : Int32))) (hv2 : (1 : Int32) = (p2 &&& (3 : Int32))) (w0 : ¬ v1 < (128 : Int32)) (w1 : ¬ ((v1.toUInt32 >>> ((7 : Int32) &&& 31).toUInt32).toInt32) < (128 : Int32)) (w2 : ¬ ((((v1.toUInt32 >>> ((7 : Int32) &&& 31).toUInt32).toInt32).toUInt32 >>> ((7 : Int32) &&& 31).toUInt32).toInt32) < (128 : Int32)) (w3 : ¬ ((((((v1.toUInt32 >>> ((7 : Int32) &&& 31).toUInt32).toInt32).toUInt32 >>> ((7 : Int32) &&& 31).toUInt32).toInt32).toUInt32 >>> ((7 : Int32) &&& 31).toUInt32).toInt32) < (128 : Int32)) (w4 : ((((((((v1.toUInt32 >>> ((7 : Int32) &&& 31).toUInt32).toInt32).toUInt32 >>> ((7 : Int32) &&& 31).toUInt32).toInt32).toUInt32 >>> ((7 : Int32) &&& 31).toUInt32).toInt32).toUInt32 >>> ((7 : Int32) &&& 31).toUInt32).toInt32) < (128 : Int32)) (v468 : Int32) (hv468 : v468 = p3.toInt8.toInt32) (v511 : Int32) (hv511 : v511 = (if (f_ok (nar .byte v468) (0 : Int32) (1 : Int32) (5 : Int32) v1 v468) = (0 : Int32) then (0 : Int32) else (if (f_ok (nar .byte (v1 ||| (128 : Int32)).toInt8.toInt32) (1 : Int32) (1 : Int32) (5 : Int32) v1 v468) = (0 : Int32) then (0 : Int32) else (if (f_ok (nar .byte (((v1.toUInt32 >>> ((7 : Int32) &&& 31).toUInt32).toInt32) ||| (128 : Int32)).toInt8.toInt32) (2 : Int32) (1 : Int32) (5 : Int32) v1 v468) = (0 : Int32) then (0 : Int32) else (if (f_ok (nar .byte (((((v1.toUInt32 >>> ((7 : Int32) &&& 31).toUInt32).toInt32).toUInt32 >>> ((7 : Int32) &&& 31).toUInt32).toInt32) ||| (128 : Int32)).toInt8.toInt32) (3 : Int32) (1 : Int32) (5 : Int32) v1 v468) = (0 : Int32) then (0 : Int32) else (if (f_ok (nar .byte (((((((v1.toUInt32 >>> ((7 : Int32) &&& 31).toUInt32).toInt32).toUInt32 >>> ((7 : Int32) &&& 31).toUInt32).toInt32).toUInt32 >>> ((7 : Int32) &&& 31).toUInt32).toInt32) ||| (128 : Int32)).toInt8.toInt32) (4 : Int32) (1 : Int32) (5 : Int32) v1 v468) = (0 : Int32) then (0 : Int32) else (if (f_ok (nar .byte ((((((((v1.toUInt32 >>> ((7 : Int32) &&& 31).toUInt32).toInt32).toUInt32 >>> ((7 : Int32) &&& 31).toUInt32).toInt32).toUInt32 >>> ((7 : Int32) &&& 31).toUInt32).toInt32).toUInt32 >>> ((7 : Int32) &&& 31).toUInt32).toInt32).toInt8.toInt32) (5 : Int32) (1 : Int32) (5 : Int32) v1 v468) = (0 : Int32) then (0 : Int32) else (if (f_ok (nar .byte v468) (6 : Int32) (1 : Int32) (5 : Int32) v1 v468) = (0 : Int32) then (0 : Int32) else (if (f_ok (nar .byte v468) (7 : Int32) (1 : Int32) (5 : Int32) v1 v468) = (0 : Int32) then (0 : Int32) else (1 : Int32)))))))))) : nar .boolean v511 = 1 := by
  have h0 := own_nn _ _ hv1
  have o0 : f_ok (nar .byte v468) (0 : Int32) (1 : Int32) (5 : Int32) v1 v468 = 1 := by
    unfold f_ok
    rw [if_pos (by decide)]
    exact if_pos (rfl)
  have o1 : f_ok (nar .byte (v1 ||| (128 : Int32)).toInt8.toInt32) (1 : Int32) (1 : Int32) (5 : Int32) v1 v468 = 1 := by
    unfold f_ok
    rw [if_neg (by decide), if_pos (by decide), if_pos (by decide)]
    exact if_pos (own_pA v1 _ (own_k0 v1))
  have o2 : f_ok (nar .byte (((v1.toUInt32 >>> ((7 : Int32) &&& 31).toUInt32).toInt32) ||| (128 : Int32)).toInt8.toInt32) (2 : Int32) (1 : Int32) (5 : Int32) v1 v468 = 1 := by
    unfold f_ok
    rw [if_neg (by decide), if_pos (by decide), if_pos (by decide)]
    exact if_pos (own_pA (own_s v1) _ (own_k1 v1))
  have o3 : f_ok (nar .byte (((((v1.toUInt32 >>> ((7 : Int32) &&& 31).toUInt32).toInt32).toUInt32 >>> ((7 : Int32) &&& 31).toUInt32).toInt32) ||| (128 : Int32)).toInt8.toInt32) (3 : Int32) (1 : Int32) (5 : Int32) v1 v468 = 1 := by
    unfold f_ok
    rw [if_neg (by decide), if_pos (by decide), if_pos (by decide)]
    exact if_pos (own_pA (own_s (own_s v1)) _ (own_k2 v1 h0))
  have o4 : f_ok (nar .byte (((((((v1.toUInt32 >>> ((7 : Int32) &&& 31).toUInt32).toInt32).toUInt32 >>> ((7 : Int32) &&& 31).toUInt32).toInt32).toUInt32 >>> ((7 : Int32) &&& 31).toUInt32).toInt32) ||| (128 : Int32)).toInt8.toInt32) (4 : Int32) (1 : Int32) (5 : Int32) v1 v468 = 1 := by
    unfold f_ok
    rw [if_neg (by decide), if_pos (by decide), if_pos (by decide)]
    exact if_pos (own_pA (own_s (own_s (own_s v1))) _ (own_k3 v1 h0))
  have o5 : f_ok (nar .byte ((((((((v1.toUInt32 >>> ((7 : Int32) &&& 31).toUInt32).toInt32).toUInt32 >>> ((7 : Int32) &&& 31).toUInt32).toInt32).toUInt32 >>> ((7 : Int32) &&& 31).toUInt32).toInt32).toUInt32 >>> ((7 : Int32) &&& 31).toUInt32).toInt32).toInt8.toInt32) (5 : Int32) (1 : Int32) (5 : Int32) v1 v468 = 1 := by
    unfold f_ok
    rw [if_neg (by decide), if_pos (by decide), if_neg (by decide)]
    exact if_pos (own_pB (own_s (own_s (own_s (own_s v1)))) _ (own_k4 v1 h0) (own_n4 v1 h0) w4)
  have o6 : f_ok (nar .byte v468) (6 : Int32) (1 : Int32) (5 : Int32) v1 v468 = 1 := by
    unfold f_ok
    rw [if_neg (by decide), if_neg (by decide)]
    exact if_pos (rfl)
  have o7 : f_ok (nar .byte v468) (7 : Int32) (1 : Int32) (5 : Int32) v1 v468 = 1 := by
    unfold f_ok
    rw [if_neg (by decide), if_neg (by decide)]
    exact if_pos (rfl)
  rw [hv511, o0, if_neg (by decide), o1, if_neg (by decide), o2, if_neg (by decide), o3, if_neg (by decide), o4, if_neg (by decide), o5, if_neg (by decide), o6, if_neg (by decide), o7, if_neg (by decide)]
  rfl
theorem fin10 (p0 : Int32) (p1 : Int32) (p2 : Int32) (p3 : Int32) (v1 : Int32) (hv1 : v1 = (((p0.toUInt32 >>> ((p1 &&& (31 : Int32)) &&& 31).toUInt32).toInt32) &&& (2147483647 : Int32))) (hv2 : (2 : Int32) = (p2 &&& (3 : Int32))) (w0 : v1 < (128 : Int32)) (v521 : Int32) (hv521 : v521 = p3.toInt8.toInt32) (v561 : Int32) (hv561 : v561 = (if (f_ok (nar .byte v521) (0 : Int32) (2 : Int32) (1 : Int32) v1 v521) = (0 : Int32) then (0 : Int32) else (if (f_ok (nar .byte v521) (1 : Int32) (2 : Int32) (1 : Int32) v1 v521) = (0 : Int32) then (0 : Int32) else (if (f_ok (nar .byte v1.toInt8.toInt32) (2 : Int32) (2 : Int32) (1 : Int32) v1 v521) = (0 : Int32) then (0 : Int32) else (if (f_ok (nar .byte v521) (3 : Int32) (2 : Int32) (1 : Int32) v1 v521) = (0 : Int32) then (0 : Int32) else (if (f_ok (nar .byte v521) (4 : Int32) (2 : Int32) (1 : Int32) v1 v521) = (0 : Int32) then (0 : Int32) else (if (f_ok (nar .byte v521) (5 : Int32) (2 : Int32) (1 : Int32) v1 v521) = (0 : Int32) then (0 : Int32) else (if (f_ok (nar .byte v521) (6 : Int32) (2 : Int32) (1 : Int32) v1 v521) = (0 : Int32) then (0 : Int32) else (if (f_ok (nar .byte v521) (7 : Int32) (2 : Int32) (1 : Int32) v1 v521) = (0 : Int32) then (0 : Int32) else (1 : Int32)))))))))) : nar .boolean v561 = 1 := by
  have h0 := own_nn _ _ hv1
  have o0 : f_ok (nar .byte v521) (0 : Int32) (2 : Int32) (1 : Int32) v1 v521 = 1 := by
    unfold f_ok
    rw [if_pos (by decide)]
    exact if_pos (rfl)
  have o1 : f_ok (nar .byte v521) (1 : Int32) (2 : Int32) (1 : Int32) v1 v521 = 1 := by
    unfold f_ok
    rw [if_pos (by decide)]
    exact if_pos (rfl)
  have o2 : f_ok (nar .byte v1.toInt8.toInt32) (2 : Int32) (2 : Int32) (1 : Int32) v1 v521 = 1 := by
    unfold f_ok
    rw [if_neg (by decide), if_pos (by decide), if_neg (by decide)]
    exact if_pos (own_pB v1 _ (own_k0 v1) (own_n0 v1 h0) w0)
  have o3 : f_ok (nar .byte v521) (3 : Int32) (2 : Int32) (1 : Int32) v1 v521 = 1 := by
    unfold f_ok
    rw [if_neg (by decide), if_neg (by decide)]
    exact if_pos (rfl)
  have o4 : f_ok (nar .byte v521) (4 : Int32) (2 : Int32) (1 : Int32) v1 v521 = 1 := by
    unfold f_ok
    rw [if_neg (by decide), if_neg (by decide)]
    exact if_pos (rfl)
  have o5 : f_ok (nar .byte v521) (5 : Int32) (2 : Int32) (1 : Int32) v1 v521 = 1 := by
    unfold f_ok
    rw [if_neg (by decide), if_neg (by decide)]
    exact if_pos (rfl)
  have o6 : f_ok (nar .byte v521) (6 : Int32) (2 : Int32) (1 : Int32) v1 v521 = 1 := by
    unfold f_ok
    rw [if_neg (by decide), if_neg (by decide)]
    exact if_pos (rfl)
  have o7 : f_ok (nar .byte v521) (7 : Int32) (2 : Int32) (1 : Int32) v1 v521 = 1 := by
    unfold f_ok
    rw [if_neg (by decide), if_neg (by decide)]
    exact if_pos (rfl)
  rw [hv561, o0, if_neg (by decide), o1, if_neg (by decide), o2, if_neg (by decide), o3, if_neg (by decide), o4, if_neg (by decide), o5, if_neg (by decide), o6, if_neg (by decide), o7, if_neg (by decide)]
  rfl
theorem fin11 (p0 : Int32) (p1 : Int32) (p2 : Int32) (p3 : Int32) (v1 : Int32) (hv1 : v1 = (((p0.toUInt32 >>> ((p1 &&& (31 : Int32)) &&& 31).toUInt32).toInt32) &&& (2147483647 : Int32))) (hv2 : (2 : Int32) = (p2 &&& (3 : Int32))) (w0 : ¬ v1 < (128 : Int32)) (w1 : ((v1.toUInt32 >>> ((7 : Int32) &&& 31).toUInt32).toInt32) < (128 : Int32)) (v571 : Int32) (hv571 : v571 = p3.toInt8.toInt32) (v612 : Int32) (hv612 : v612 = (if (f_ok (nar .byte v571) (0 : Int32) (2 : Int32) (2 : Int32) v1 v571) = (0 : Int32) then (0 : Int32) else (if (f_ok (nar .byte v571) (1 : Int32) (2 : Int32) (2 : Int32) v1 v571) = (0 : Int32) then (0 : Int32) else (if (f_ok (nar .byte (v1 ||| (128 : Int32)).toInt8.toInt32) (2 : Int32) (2 : Int32) (2 : Int32) v1 v571) = (0 : Int32) then (0 : Int32) else (if (f_ok (nar .byte ((v1.toUInt32 >>> ((7 : Int32) &&& 31).toUInt32).toInt32).toInt8.toInt32) (3 : Int32) (2 : Int32) (2 : Int32) v1 v571) = (0 : Int32) then (0 : Int32) else (if (f_ok (nar .byte v571) (4 : Int32) (2 : Int32) (2 : Int32) v1 v571) = (0 : Int32) then (0 : Int32) else (if (f_ok (nar .byte v571) (5 : Int32) (2 : Int32) (2 : Int32) v1 v571) = (0 : Int32) then (0 : Int32) else (if (f_ok (nar .byte v571) (6 : Int32) (2 : Int32) (2 : Int32) v1 v571) = (0 : Int32) then (0 : Int32) else (if (f_ok (nar .byte v571) (7 : Int32) (2 : Int32) (2 : Int32) v1 v571) = (0 : Int32) then (0 : Int32) else (1 : Int32)))))))))) : nar .boolean v612 = 1 := by
  have h0 := own_nn _ _ hv1
  have o0 : f_ok (nar .byte v571) (0 : Int32) (2 : Int32) (2 : Int32) v1 v571 = 1 := by
    unfold f_ok
    rw [if_pos (by decide)]
    exact if_pos (rfl)
  have o1 : f_ok (nar .byte v571) (1 : Int32) (2 : Int32) (2 : Int32) v1 v571 = 1 := by
    unfold f_ok
    rw [if_pos (by decide)]
    exact if_pos (rfl)
  have o2 : f_ok (nar .byte (v1 ||| (128 : Int32)).toInt8.toInt32) (2 : Int32) (2 : Int32) (2 : Int32) v1 v571 = 1 := by
    unfold f_ok
    rw [if_neg (by decide), if_pos (by decide), if_pos (by decide)]
    exact if_pos (own_pA v1 _ (own_k0 v1))
  have o3 : f_ok (nar .byte ((v1.toUInt32 >>> ((7 : Int32) &&& 31).toUInt32).toInt32).toInt8.toInt32) (3 : Int32) (2 : Int32) (2 : Int32) v1 v571 = 1 := by
    unfold f_ok
    rw [if_neg (by decide), if_pos (by decide), if_neg (by decide)]
    exact if_pos (own_pB (own_s v1) _ (own_k1 v1) (own_n1 v1 h0) w1)
  have o4 : f_ok (nar .byte v571) (4 : Int32) (2 : Int32) (2 : Int32) v1 v571 = 1 := by
    unfold f_ok
    rw [if_neg (by decide), if_neg (by decide)]
    exact if_pos (rfl)
  have o5 : f_ok (nar .byte v571) (5 : Int32) (2 : Int32) (2 : Int32) v1 v571 = 1 := by
    unfold f_ok
    rw [if_neg (by decide), if_neg (by decide)]
    exact if_pos (rfl)
  have o6 : f_ok (nar .byte v571) (6 : Int32) (2 : Int32) (2 : Int32) v1 v571 = 1 := by
    unfold f_ok
    rw [if_neg (by decide), if_neg (by decide)]
    exact if_pos (rfl)
  have o7 : f_ok (nar .byte v571) (7 : Int32) (2 : Int32) (2 : Int32) v1 v571 = 1 := by
    unfold f_ok
    rw [if_neg (by decide), if_neg (by decide)]
    exact if_pos (rfl)
  rw [hv612, o0, if_neg (by decide), o1, if_neg (by decide), o2, if_neg (by decide), o3, if_neg (by decide), o4, if_neg (by decide), o5, if_neg (by decide), o6, if_neg (by decide), o7, if_neg (by decide)]
  rfl
theorem fin12 (p0 : Int32) (p1 : Int32) (p2 : Int32) (p3 : Int32) (v1 : Int32) (hv1 : v1 = (((p0.toUInt32 >>> ((p1 &&& (31 : Int32)) &&& 31).toUInt32).toInt32) &&& (2147483647 : Int32))) (hv2 : (2 : Int32) = (p2 &&& (3 : Int32))) (w0 : ¬ v1 < (128 : Int32)) (w1 : ¬ ((v1.toUInt32 >>> ((7 : Int32) &&& 31).toUInt32).toInt32) < (128 : Int32)) (w2 : ((((v1.toUInt32 >>> ((7 : Int32) &&& 31).toUInt32).toInt32).toUInt32 >>> ((7 : Int32) &&& 31).toUInt32).toInt32) < (128 : Int32)) (v622 : Int32) (hv622 : v622 = p3.toInt8.toInt32) (v664 : Int32) (hv664 : v664 = (if (f_ok (nar .byte v622) (0 : Int32) (2 : Int32) (3 : Int32) v1 v622) = (0 : Int32) then (0 : Int32) else (if (f_ok (nar .byte v622) (1 : Int32) (2 : Int32) (3 : Int32) v1 v622) = (0 : Int32) then (0 : Int32) else (if (f_ok (nar .byte (v1 ||| (128 : Int32)).toInt8.toInt32) (2 : Int32) (2 : Int32) (3 : Int32) v1 v622) = (0 : Int32) then (0 : Int32) else (if (f_ok (nar .byte (((v1.toUInt32 >>> ((7 : Int32) &&& 31).toUInt32).toInt32) ||| (128 : Int32)).toInt8.toInt32) (3 : Int32) (2 : Int32) (3 : Int32) v1 v622) = (0 : Int32) then (0 : Int32) else (if (f_ok (nar .byte ((((v1.toUInt32 >>> ((7 : Int32) &&& 31).toUInt32).toInt32).toUInt32 >>> ((7 : Int32) &&& 31).toUInt32).toInt32).toInt8.toInt32) (4 : Int32) (2 : Int32) (3 : Int32) v1 v622) = (0 : Int32) then (0 : Int32) else (if (f_ok (nar .byte v622) (5 : Int32) (2 : Int32) (3 : Int32) v1 v622) = (0 : Int32) then (0 : Int32) else (if (f_ok (nar .byte v622) (6 : Int32) (2 : Int32) (3 : Int32) v1 v622) = (0 : Int32) then (0 : Int32) else (if (f_ok (nar .byte v622) (7 : Int32) (2 : Int32) (3 : Int32) v1 v622) = (0 : Int32) then (0 : Int32) else (1 : Int32)))))))))) : nar .boolean v664 = 1 := by
  have h0 := own_nn _ _ hv1
  have o0 : f_ok (nar .byte v622) (0 : Int32) (2 : Int32) (3 : Int32) v1 v622 = 1 := by
    unfold f_ok
    rw [if_pos (by decide)]
    exact if_pos (rfl)
  have o1 : f_ok (nar .byte v622) (1 : Int32) (2 : Int32) (3 : Int32) v1 v622 = 1 := by
    unfold f_ok
    rw [if_pos (by decide)]
    exact if_pos (rfl)
  have o2 : f_ok (nar .byte (v1 ||| (128 : Int32)).toInt8.toInt32) (2 : Int32) (2 : Int32) (3 : Int32) v1 v622 = 1 := by
    unfold f_ok
    rw [if_neg (by decide), if_pos (by decide), if_pos (by decide)]
    exact if_pos (own_pA v1 _ (own_k0 v1))
  have o3 : f_ok (nar .byte (((v1.toUInt32 >>> ((7 : Int32) &&& 31).toUInt32).toInt32) ||| (128 : Int32)).toInt8.toInt32) (3 : Int32) (2 : Int32) (3 : Int32) v1 v622 = 1 := by
    unfold f_ok
    rw [if_neg (by decide), if_pos (by decide), if_pos (by decide)]
    exact if_pos (own_pA (own_s v1) _ (own_k1 v1))
  have o4 : f_ok (nar .byte ((((v1.toUInt32 >>> ((7 : Int32) &&& 31).toUInt32).toInt32).toUInt32 >>> ((7 : Int32) &&& 31).toUInt32).toInt32).toInt8.toInt32) (4 : Int32) (2 : Int32) (3 : Int32) v1 v622 = 1 := by
    unfold f_ok
    rw [if_neg (by decide), if_pos (by decide), if_neg (by decide)]
    exact if_pos (own_pB (own_s (own_s v1)) _ (own_k2 v1 h0) (own_n2 v1 h0) w2)
  have o5 : f_ok (nar .byte v622) (5 : Int32) (2 : Int32) (3 : Int32) v1 v622 = 1 := by
    unfold f_ok
    rw [if_neg (by decide), if_neg (by decide)]
    exact if_pos (rfl)
  have o6 : f_ok (nar .byte v622) (6 : Int32) (2 : Int32) (3 : Int32) v1 v622 = 1 := by
    unfold f_ok
    rw [if_neg (by decide), if_neg (by decide)]
    exact if_pos (rfl)
  have o7 : f_ok (nar .byte v622) (7 : Int32) (2 : Int32) (3 : Int32) v1 v622 = 1 := by
    unfold f_ok
    rw [if_neg (by decide), if_neg (by decide)]
    exact if_pos (rfl)
  rw [hv664, o0, if_neg (by decide), o1, if_neg (by decide), o2, if_neg (by decide), o3, if_neg (by decide), o4, if_neg (by decide), o5, if_neg (by decide), o6, if_neg (by decide), o7, if_neg (by decide)]
  rfl
theorem fin13 (p0 : Int32) (p1 : Int32) (p2 : Int32) (p3 : Int32) (v1 : Int32) (hv1 : v1 = (((p0.toUInt32 >>> ((p1 &&& (31 : Int32)) &&& 31).toUInt32).toInt32) &&& (2147483647 : Int32))) (hv2 : (2 : Int32) = (p2 &&& (3 : Int32))) (w0 : ¬ v1 < (128 : Int32)) (w1 : ¬ ((v1.toUInt32 >>> ((7 : Int32) &&& 31).toUInt32).toInt32) < (128 : Int32)) (w2 : ¬ ((((v1.toUInt32 >>> ((7 : Int32) &&& 31).toUInt32).toInt32).toUInt32 >>> ((7 : Int32) &&& 31).toUInt32).toInt32) < (128 : Int32)) (w3 : ((((((v1.toUInt32 >>> ((7 : Int32) &&& 31).toUInt32).toInt32).toUInt32 >>> ((7 : Int32) &&& 31).toUInt32).toInt32).toUInt32 >>> ((7 : Int32) &&& 31).toUInt32).toInt32) < (128 : Int32)) (v674 : Int32) (hv674 : v674 = p3.toInt8.toInt32) (v717 : Int32) (hv717 : v717 = (if (f_ok (nar .byte v674) (0 : Int32) (2 : Int32) (4 : Int32) v1 v674) = (0 : Int32) then (0 : Int32) else (if (f_ok (nar .byte v674) (1 : Int32) (2 : Int32) (4 : Int32) v1 v674) = (0 : Int32) then (0 : Int32) else (if (f_ok (nar .byte (v1 ||| (128 : Int32)).toInt8.toInt32) (2 : Int32) (2 : Int32) (4 : Int32) v1 v674) = (0 : Int32) then (0 : Int32) else (if (f_ok (nar .byte (((v1.toUInt32 >>> ((7 : Int32) &&& 31).toUInt32).toInt32) ||| (128 : Int32)).toInt8.toInt32) (3 : Int32) (2 : Int32) (4 : Int32) v1 v674) = (0 : Int32) then (0 : Int32) else (if (f_ok (nar .byte (((((v1.toUInt32 >>> ((7 : Int32) &&& 31).toUInt32).toInt32).toUInt32 >>> ((7 : Int32) &&& 31).toUInt32).toInt32) ||| (128 : Int32)).toInt8.toInt32) (4 : Int32) (2 : Int32) (4 : Int32) v1 v674) = (0 : Int32) then (0 : Int32) else (if (f_ok (nar .byte ((((((v1.toUInt32 >>> ((7 : Int32) &&& 31).toUInt32).toInt32).toUInt32 >>> ((7 : Int32) &&& 31).toUInt32).toInt32).toUInt32 >>> ((7 : Int32) &&& 31).toUInt32).toInt32).toInt8.toInt32) (5 : Int32) (2 : Int32) (4 : Int32) v1 v674) = (0 : Int32) then (0 : Int32) else (if (f_ok (nar .byte v674) (6 : Int32) (2 : Int32) (4 : Int32) v1 v674) = (0 : Int32) then (0 : Int32) else (if (f_ok (nar .byte v674) (7 : Int32) (2 : Int32) (4 : Int32) v1 v674) = (0 : Int32) then (0 : Int32) else (1 : Int32)))))))))) : nar .boolean v717 = 1 := by
  have h0 := own_nn _ _ hv1
  have o0 : f_ok (nar .byte v674) (0 : Int32) (2 : Int32) (4 : Int32) v1 v674 = 1 := by
    unfold f_ok
    rw [if_pos (by decide)]
    exact if_pos (rfl)
  have o1 : f_ok (nar .byte v674) (1 : Int32) (2 : Int32) (4 : Int32) v1 v674 = 1 := by
    unfold f_ok
    rw [if_pos (by decide)]
    exact if_pos (rfl)
  have o2 : f_ok (nar .byte (v1 ||| (128 : Int32)).toInt8.toInt32) (2 : Int32) (2 : Int32) (4 : Int32) v1 v674 = 1 := by
    unfold f_ok
    rw [if_neg (by decide), if_pos (by decide), if_pos (by decide)]
    exact if_pos (own_pA v1 _ (own_k0 v1))
  have o3 : f_ok (nar .byte (((v1.toUInt32 >>> ((7 : Int32) &&& 31).toUInt32).toInt32) ||| (128 : Int32)).toInt8.toInt32) (3 : Int32) (2 : Int32) (4 : Int32) v1 v674 = 1 := by
    unfold f_ok
    rw [if_neg (by decide), if_pos (by decide), if_pos (by decide)]
    exact if_pos (own_pA (own_s v1) _ (own_k1 v1))
  have o4 : f_ok (nar .byte (((((v1.toUInt32 >>> ((7 : Int32) &&& 31).toUInt32).toInt32).toUInt32 >>> ((7 : Int32) &&& 31).toUInt32).toInt32) ||| (128 : Int32)).toInt8.toInt32) (4 : Int32) (2 : Int32) (4 : Int32) v1 v674 = 1 := by
    unfold f_ok
    rw [if_neg (by decide), if_pos (by decide), if_pos (by decide)]
    exact if_pos (own_pA (own_s (own_s v1)) _ (own_k2 v1 h0))
  have o5 : f_ok (nar .byte ((((((v1.toUInt32 >>> ((7 : Int32) &&& 31).toUInt32).toInt32).toUInt32 >>> ((7 : Int32) &&& 31).toUInt32).toInt32).toUInt32 >>> ((7 : Int32) &&& 31).toUInt32).toInt32).toInt8.toInt32) (5 : Int32) (2 : Int32) (4 : Int32) v1 v674 = 1 := by
    unfold f_ok
    rw [if_neg (by decide), if_pos (by decide), if_neg (by decide)]
    exact if_pos (own_pB (own_s (own_s (own_s v1))) _ (own_k3 v1 h0) (own_n3 v1 h0) w3)
  have o6 : f_ok (nar .byte v674) (6 : Int32) (2 : Int32) (4 : Int32) v1 v674 = 1 := by
    unfold f_ok
    rw [if_neg (by decide), if_neg (by decide)]
    exact if_pos (rfl)
  have o7 : f_ok (nar .byte v674) (7 : Int32) (2 : Int32) (4 : Int32) v1 v674 = 1 := by
    unfold f_ok
    rw [if_neg (by decide), if_neg (by decide)]
    exact if_pos (rfl)
  rw [hv717, o0, if_neg (by decide), o1, if_neg (by decide), o2, if_neg (by decide), o3, if_neg (by decide), o4, if_neg (by decide), o5, if_neg (by decide), o6, if_neg (by decide), o7, if_neg (by decide)]
  rfl
theorem fin14 (p0 : Int32) (p1 : Int32) (p2 : Int32) (p3 : Int32) (v1 : Int32) (hv1 : v1 = (((p0.toUInt32 >>> ((p1 &&& (31 : Int32)) &&& 31).toUInt32).toInt32) &&& (2147483647 : Int32))) (hv2 : (2 : Int32) = (p2 &&& (3 : Int32))) (w0 : ¬ v1 < (128 : Int32)) (w1 : ¬ ((v1.toUInt32 >>> ((7 : Int32) &&& 31).toUInt32).toInt32) < (128 : Int32)) (w2 : ¬ ((((v1.toUInt32 >>> ((7 : Int32) &&& 31).toUInt32).toInt32).toUInt32 >>> ((7 : Int32) &&& 31).toUInt32).toInt32) < (128 : Int32)) (w3 : ¬ ((((((v1.toUInt32 >>> ((7 : Int32) &&& 31).toUInt32).toInt32).toUInt32 >>> ((7 : Int32) &&& 31).toUInt32).toInt32).toUInt32 >>> ((7 : Int32) &&& 31).toUInt32).toInt32) < (128 : Int32)) (w4 : ((((((((v1.toUInt32 >>> ((7 : Int32) &&& 31).toUInt32).toInt32).toUInt32 >>> ((7 : Int32) &&& 31).toUInt32).toInt32).toUInt32 >>> ((7 : Int32) &&& 31).toUInt32).toInt32).toUInt32 >>> ((7 : Int32) &&& 31).toUInt32).toInt32) < (128 : Int32)) (v727 : Int32) (hv727 : v727 = p3.toInt8.toInt32) (v770 : Int32) (hv770 : v770 = (if (f_ok (nar .byte v727) (0 : Int32) (2 : Int32) (5 : Int32) v1 v727) = (0 : Int32) then (0 : Int32) else (if (f_ok (nar .byte v727) (1 : Int32) (2 : Int32) (5 : Int32) v1 v727) = (0 : Int32) then (0 : Int32) else (if (f_ok (nar .byte (v1 ||| (128 : Int32)).toInt8.toInt32) (2 : Int32) (2 : Int32) (5 : Int32) v1 v727) = (0 : Int32) then (0 : Int32) else (if (f_ok (nar .byte (((v1.toUInt32 >>> ((7 : Int32) &&& 31).toUInt32).toInt32) ||| (128 : Int32)).toInt8.toInt32) (3 : Int32) (2 : Int32) (5 : Int32) v1 v727) = (0 : Int32) then (0 : Int32) else (if (f_ok (nar .byte (((((v1.toUInt32 >>> ((7 : Int32) &&& 31).toUInt32).toInt32).toUInt32 >>> ((7 : Int32) &&& 31).toUInt32).toInt32) ||| (128 : Int32)).toInt8.toInt32) (4 : Int32) (2 : Int32) (5 : Int32) v1 v727) = (0 : Int32) then (0 : Int32) else (if (f_ok (nar .byte (((((((v1.toUInt32 >>> ((7 : Int32) &&& 31).toUInt32).toInt32).toUInt32 >>> ((7 : Int32) &&& 31).toUInt32).toInt32).toUInt32 >>> ((7 : Int32) &&& 31).toUInt32).toInt32) ||| (128 : Int32)).toInt8.toInt32) (5 : Int32) (2 : Int32) (5 : Int32) v1 v727) = (0 : Int32) then (0 : Int32) else (if (f_ok (nar .byte ((((((((v1.toUInt32 >>> ((7 : Int32) &&& 31).toUInt32).toInt32).toUInt32 >>> ((7 : Int32) &&& 31).toUInt32).toInt32).toUInt32 >>> ((7 : Int32) &&& 31).toUInt32).toInt32).toUInt32 >>> ((7 : Int32) &&& 31).toUInt32).toInt32).toInt8.toInt32) (6 : Int32) (2 : Int32) (5 : Int32) v1 v727) = (0 : Int32) then (0 : Int32) else (if (f_ok (nar .byte v727) (7 : Int32) (2 : Int32) (5 : Int32) v1 v727) = (0 : Int32) then (0 : Int32) else (1 : Int32)))))))))) : nar .boolean v770 = 1 := by
  have h0 := own_nn _ _ hv1
  have o0 : f_ok (nar .byte v727) (0 : Int32) (2 : Int32) (5 : Int32) v1 v727 = 1 := by
    unfold f_ok
    rw [if_pos (by decide)]
    exact if_pos (rfl)
  have o1 : f_ok (nar .byte v727) (1 : Int32) (2 : Int32) (5 : Int32) v1 v727 = 1 := by
    unfold f_ok
    rw [if_pos (by decide)]
    exact if_pos (rfl)
  have o2 : f_ok (nar .byte (v1 ||| (128 : Int32)).toInt8.toInt32) (2 : Int32) (2 : Int32) (5 : Int32) v1 v727 = 1 := by
    unfold f_ok
    rw [if_neg (by decide), if_pos (by decide), if_pos (by decide)]
    exact if_pos (own_pA v1 _ (own_k0 v1))
  have o3 : f_ok (nar .byte (((v1.toUInt32 >>> ((7 : Int32) &&& 31).toUInt32).toInt32) ||| (128 : Int32)).toInt8.toInt32) (3 : Int32) (2 : Int32) (5 : Int32) v1 v727 = 1 := by
    unfold f_ok
    rw [if_neg (by decide), if_pos (by decide), if_pos (by decide)]
    exact if_pos (own_pA (own_s v1) _ (own_k1 v1))
  have o4 : f_ok (nar .byte (((((v1.toUInt32 >>> ((7 : Int32) &&& 31).toUInt32).toInt32).toUInt32 >>> ((7 : Int32) &&& 31).toUInt32).toInt32) ||| (128 : Int32)).toInt8.toInt32) (4 : Int32) (2 : Int32) (5 : Int32) v1 v727 = 1 := by
    unfold f_ok
    rw [if_neg (by decide), if_pos (by decide), if_pos (by decide)]
    exact if_pos (own_pA (own_s (own_s v1)) _ (own_k2 v1 h0))
  have o5 : f_ok (nar .byte (((((((v1.toUInt32 >>> ((7 : Int32) &&& 31).toUInt32).toInt32).toUInt32 >>> ((7 : Int32) &&& 31).toUInt32).toInt32).toUInt32 >>> ((7 : Int32) &&& 31).toUInt32).toInt32) ||| (128 : Int32)).toInt8.toInt32) (5 : Int32) (2 : Int32) (5 : Int32) v1 v727 = 1 := by
    unfold f_ok
    rw [if_neg (by decide), if_pos (by decide), if_pos (by decide)]
    exact if_pos (own_pA (own_s (own_s (own_s v1))) _ (own_k3 v1 h0))
  have o6 : f_ok (nar .byte ((((((((v1.toUInt32 >>> ((7 : Int32) &&& 31).toUInt32).toInt32).toUInt32 >>> ((7 : Int32) &&& 31).toUInt32).toInt32).toUInt32 >>> ((7 : Int32) &&& 31).toUInt32).toInt32).toUInt32 >>> ((7 : Int32) &&& 31).toUInt32).toInt32).toInt8.toInt32) (6 : Int32) (2 : Int32) (5 : Int32) v1 v727 = 1 := by
    unfold f_ok
    rw [if_neg (by decide), if_pos (by decide), if_neg (by decide)]
    exact if_pos (own_pB (own_s (own_s (own_s (own_s v1)))) _ (own_k4 v1 h0) (own_n4 v1 h0) w4)
  have o7 : f_ok (nar .byte v727) (7 : Int32) (2 : Int32) (5 : Int32) v1 v727 = 1 := by
    unfold f_ok
    rw [if_neg (by decide), if_neg (by decide)]
    exact if_pos (rfl)
  rw [hv770, o0, if_neg (by decide), o1, if_neg (by decide), o2, if_neg (by decide), o3, if_neg (by decide), o4, if_neg (by decide), o5, if_neg (by decide), o6, if_neg (by decide), o7, if_neg (by decide)]
  rfl
theorem fin15 (p0 : Int32) (p1 : Int32) (p2 : Int32) (p3 : Int32) (v1 : Int32) (hv1 : v1 = (((p0.toUInt32 >>> ((p1 &&& (31 : Int32)) &&& 31).toUInt32).toInt32) &&& (2147483647 : Int32))) (hv2 : (3 : Int32) = (p2 &&& (3 : Int32))) (w0 : v1 < (128 : Int32)) (v780 : Int32) (hv780 : v780 = p3.toInt8.toInt32) (v820 : Int32) (hv820 : v820 = (if (f_ok (nar .byte v780) (0 : Int32) (3 : Int32) (1 : Int32) v1 v780) = (0 : Int32) then (0 : Int32) else (if (f_ok (nar .byte v780) (1 : Int32) (3 : Int32) (1 : Int32) v1 v780) = (0 : Int32) then (0 : Int32) else (if (f_ok (nar .byte v780) (2 : Int32) (3 : Int32) (1 : Int32) v1 v780) = (0 : Int32) then (0 : Int32) else (if (f_ok (nar .byte v1.toInt8.toInt32) (3 : Int32) (3 : Int32) (1 : Int32) v1 v780) = (0 : Int32) then (0 : Int32) else (if (f_ok (nar .byte v780) (4 : Int32) (3 : Int32) (1 : Int32) v1 v780) = (0 : Int32) then (0 : Int32) else (if (f_ok (nar .byte v780) (5 : Int32) (3 : Int32) (1 : Int32) v1 v780) = (0 : Int32) then (0 : Int32) else (if (f_ok (nar .byte v780) (6 : Int32) (3 : Int32) (1 : Int32) v1 v780) = (0 : Int32) then (0 : Int32) else (if (f_ok (nar .byte v780) (7 : Int32) (3 : Int32) (1 : Int32) v1 v780) = (0 : Int32) then (0 : Int32) else (1 : Int32)))))))))) : nar .boolean v820 = 1 := by
  have h0 := own_nn _ _ hv1
  have o0 : f_ok (nar .byte v780) (0 : Int32) (3 : Int32) (1 : Int32) v1 v780 = 1 := by
    unfold f_ok
    rw [if_pos (by decide)]
    exact if_pos (rfl)
  have o1 : f_ok (nar .byte v780) (1 : Int32) (3 : Int32) (1 : Int32) v1 v780 = 1 := by
    unfold f_ok
    rw [if_pos (by decide)]
    exact if_pos (rfl)
  have o2 : f_ok (nar .byte v780) (2 : Int32) (3 : Int32) (1 : Int32) v1 v780 = 1 := by
    unfold f_ok
    rw [if_pos (by decide)]
    exact if_pos (rfl)
  have o3 : f_ok (nar .byte v1.toInt8.toInt32) (3 : Int32) (3 : Int32) (1 : Int32) v1 v780 = 1 := by
    unfold f_ok
    rw [if_neg (by decide), if_pos (by decide), if_neg (by decide)]
    exact if_pos (own_pB v1 _ (own_k0 v1) (own_n0 v1 h0) w0)
  have o4 : f_ok (nar .byte v780) (4 : Int32) (3 : Int32) (1 : Int32) v1 v780 = 1 := by
    unfold f_ok
    rw [if_neg (by decide), if_neg (by decide)]
    exact if_pos (rfl)
  have o5 : f_ok (nar .byte v780) (5 : Int32) (3 : Int32) (1 : Int32) v1 v780 = 1 := by
    unfold f_ok
    rw [if_neg (by decide), if_neg (by decide)]
    exact if_pos (rfl)
  have o6 : f_ok (nar .byte v780) (6 : Int32) (3 : Int32) (1 : Int32) v1 v780 = 1 := by
    unfold f_ok
    rw [if_neg (by decide), if_neg (by decide)]
    exact if_pos (rfl)
  have o7 : f_ok (nar .byte v780) (7 : Int32) (3 : Int32) (1 : Int32) v1 v780 = 1 := by
    unfold f_ok
    rw [if_neg (by decide), if_neg (by decide)]
    exact if_pos (rfl)
  rw [hv820, o0, if_neg (by decide), o1, if_neg (by decide), o2, if_neg (by decide), o3, if_neg (by decide), o4, if_neg (by decide), o5, if_neg (by decide), o6, if_neg (by decide), o7, if_neg (by decide)]
  rfl
theorem fin16 (p0 : Int32) (p1 : Int32) (p2 : Int32) (p3 : Int32) (v1 : Int32) (hv1 : v1 = (((p0.toUInt32 >>> ((p1 &&& (31 : Int32)) &&& 31).toUInt32).toInt32) &&& (2147483647 : Int32))) (hv2 : (3 : Int32) = (p2 &&& (3 : Int32))) (w0 : ¬ v1 < (128 : Int32)) (w1 : ((v1.toUInt32 >>> ((7 : Int32) &&& 31).toUInt32).toInt32) < (128 : Int32)) (v830 : Int32) (hv830 : v830 = p3.toInt8.toInt32) (v871 : Int32) (hv871 : v871 = (if (f_ok (nar .byte v830) (0 : Int32) (3 : Int32) (2 : Int32) v1 v830) = (0 : Int32) then (0 : Int32) else (if (f_ok (nar .byte v830) (1 : Int32) (3 : Int32) (2 : Int32) v1 v830) = (0 : Int32) then (0 : Int32) else (if (f_ok (nar .byte v830) (2 : Int32) (3 : Int32) (2 : Int32) v1 v830) = (0 : Int32) then (0 : Int32) else (if (f_ok (nar .byte (v1 ||| (128 : Int32)).toInt8.toInt32) (3 : Int32) (3 : Int32) (2 : Int32) v1 v830) = (0 : Int32) then (0 : Int32) else (if (f_ok (nar .byte ((v1.toUInt32 >>> ((7 : Int32) &&& 31).toUInt32).toInt32).toInt8.toInt32) (4 : Int32) (3 : Int32) (2 : Int32) v1 v830) = (0 : Int32) then (0 : Int32) else (if (f_ok (nar .byte v830) (5 : Int32) (3 : Int32) (2 : Int32) v1 v830) = (0 : Int32) then (0 : Int32) else (if (f_ok (nar .byte v830) (6 : Int32) (3 : Int32) (2 : Int32) v1 v830) = (0 : Int32) then (0 : Int32) else (if (f_ok (nar .byte v830) (7 : Int32) (3 : Int32) (2 : Int32) v1 v830) = (0 : Int32) then (0 : Int32) else (1 : Int32)))))))))) : nar .boolean v871 = 1 := by
  have h0 := own_nn _ _ hv1
  have o0 : f_ok (nar .byte v830) (0 : Int32) (3 : Int32) (2 : Int32) v1 v830 = 1 := by
    unfold f_ok
    rw [if_pos (by decide)]
    exact if_pos (rfl)
  have o1 : f_ok (nar .byte v830) (1 : Int32) (3 : Int32) (2 : Int32) v1 v830 = 1 := by
    unfold f_ok
    rw [if_pos (by decide)]
    exact if_pos (rfl)
  have o2 : f_ok (nar .byte v830) (2 : Int32) (3 : Int32) (2 : Int32) v1 v830 = 1 := by
    unfold f_ok
    rw [if_pos (by decide)]
    exact if_pos (rfl)
  have o3 : f_ok (nar .byte (v1 ||| (128 : Int32)).toInt8.toInt32) (3 : Int32) (3 : Int32) (2 : Int32) v1 v830 = 1 := by
    unfold f_ok
    rw [if_neg (by decide), if_pos (by decide), if_pos (by decide)]
    exact if_pos (own_pA v1 _ (own_k0 v1))
  have o4 : f_ok (nar .byte ((v1.toUInt32 >>> ((7 : Int32) &&& 31).toUInt32).toInt32).toInt8.toInt32) (4 : Int32) (3 : Int32) (2 : Int32) v1 v830 = 1 := by
    unfold f_ok
    rw [if_neg (by decide), if_pos (by decide), if_neg (by decide)]
    exact if_pos (own_pB (own_s v1) _ (own_k1 v1) (own_n1 v1 h0) w1)
  have o5 : f_ok (nar .byte v830) (5 : Int32) (3 : Int32) (2 : Int32) v1 v830 = 1 := by
    unfold f_ok
    rw [if_neg (by decide), if_neg (by decide)]
    exact if_pos (rfl)
  have o6 : f_ok (nar .byte v830) (6 : Int32) (3 : Int32) (2 : Int32) v1 v830 = 1 := by
    unfold f_ok
    rw [if_neg (by decide), if_neg (by decide)]
    exact if_pos (rfl)
  have o7 : f_ok (nar .byte v830) (7 : Int32) (3 : Int32) (2 : Int32) v1 v830 = 1 := by
    unfold f_ok
    rw [if_neg (by decide), if_neg (by decide)]
    exact if_pos (rfl)
  rw [hv871, o0, if_neg (by decide), o1, if_neg (by decide), o2, if_neg (by decide), o3, if_neg (by decide), o4, if_neg (by decide), o5, if_neg (by decide), o6, if_neg (by decide), o7, if_neg (by decide)]
  rfl
theorem fin17 (p0 : Int32) (p1 : Int32) (p2 : Int32) (p3 : Int32) (v1 : Int32) (hv1 : v1 = (((p0.toUInt32 >>> ((p1 &&& (31 : Int32)) &&& 31).toUInt32).toInt32) &&& (2147483647 : Int32))) (hv2 : (3 : Int32) = (p2 &&& (3 : Int32))) (w0 : ¬ v1 < (128 : Int32)) (w1 : ¬ ((v1.toUInt32 >>> ((7 : Int32) &&& 31).toUInt32).toInt32) < (128 : Int32)) (w2 : ((((v1.toUInt32 >>> ((7 : Int32) &&& 31).toUInt32).toInt32).toUInt32 >>> ((7 : Int32) &&& 31).toUInt32).toInt32) < (128 : Int32)) (v881 : Int32) (hv881 : v881 = p3.toInt8.toInt32) (v923 : Int32) (hv923 : v923 = (if (f_ok (nar .byte v881) (0 : Int32) (3 : Int32) (3 : Int32) v1 v881) = (0 : Int32) then (0 : Int32) else (if (f_ok (nar .byte v881) (1 : Int32) (3 : Int32) (3 : Int32) v1 v881) = (0 : Int32) then (0 : Int32) else (if (f_ok (nar .byte v881) (2 : Int32) (3 : Int32) (3 : Int32) v1 v881) = (0 : Int32) then (0 : Int32) else (if (f_ok (nar .byte (v1 ||| (128 : Int32)).toInt8.toInt32) (3 : Int32) (3 : Int32) (3 : Int32) v1 v881) = (0 : Int32) then (0 : Int32) else (if (f_ok (nar .byte (((v1.toUInt32 >>> ((7 : Int32) &&& 31).toUInt32).toInt32) ||| (128 : Int32)).toInt8.toInt32) (4 : Int32) (3 : Int32) (3 : Int32) v1 v881) = (0 : Int32) then (0 : Int32) else (if (f_ok (nar .byte ((((v1.toUInt32 >>> ((7 : Int32) &&& 31).toUInt32).toInt32).toUInt32 >>> ((7 : Int32) &&& 31).toUInt32).toInt32).toInt8.toInt32) (5 : Int32) (3 : Int32) (3 : Int32) v1 v881) = (0 : Int32) then (0 : Int32) else (if (f_ok (nar .byte v881) (6 : Int32) (3 : Int32) (3 : Int32) v1 v881) = (0 : Int32) then (0 : Int32) else (if (f_ok (nar .byte v881) (7 : Int32) (3 : Int32) (3 : Int32) v1 v881) = (0 : Int32) then (0 : Int32) else (1 : Int32)))))))))) : nar .boolean v923 = 1 := by
  have h0 := own_nn _ _ hv1
  have o0 : f_ok (nar .byte v881) (0 : Int32) (3 : Int32) (3 : Int32) v1 v881 = 1 := by
    unfold f_ok
    rw [if_pos (by decide)]
    exact if_pos (rfl)
  have o1 : f_ok (nar .byte v881) (1 : Int32) (3 : Int32) (3 : Int32) v1 v881 = 1 := by
    unfold f_ok
    rw [if_pos (by decide)]
    exact if_pos (rfl)
  have o2 : f_ok (nar .byte v881) (2 : Int32) (3 : Int32) (3 : Int32) v1 v881 = 1 := by
    unfold f_ok
    rw [if_pos (by decide)]
    exact if_pos (rfl)
  have o3 : f_ok (nar .byte (v1 ||| (128 : Int32)).toInt8.toInt32) (3 : Int32) (3 : Int32) (3 : Int32) v1 v881 = 1 := by
    unfold f_ok
    rw [if_neg (by decide), if_pos (by decide), if_pos (by decide)]
    exact if_pos (own_pA v1 _ (own_k0 v1))
  have o4 : f_ok (nar .byte (((v1.toUInt32 >>> ((7 : Int32) &&& 31).toUInt32).toInt32) ||| (128 : Int32)).toInt8.toInt32) (4 : Int32) (3 : Int32) (3 : Int32) v1 v881 = 1 := by
    unfold f_ok
    rw [if_neg (by decide), if_pos (by decide), if_pos (by decide)]
    exact if_pos (own_pA (own_s v1) _ (own_k1 v1))
  have o5 : f_ok (nar .byte ((((v1.toUInt32 >>> ((7 : Int32) &&& 31).toUInt32).toInt32).toUInt32 >>> ((7 : Int32) &&& 31).toUInt32).toInt32).toInt8.toInt32) (5 : Int32) (3 : Int32) (3 : Int32) v1 v881 = 1 := by
    unfold f_ok
    rw [if_neg (by decide), if_pos (by decide), if_neg (by decide)]
    exact if_pos (own_pB (own_s (own_s v1)) _ (own_k2 v1 h0) (own_n2 v1 h0) w2)
  have o6 : f_ok (nar .byte v881) (6 : Int32) (3 : Int32) (3 : Int32) v1 v881 = 1 := by
    unfold f_ok
    rw [if_neg (by decide), if_neg (by decide)]
    exact if_pos (rfl)
  have o7 : f_ok (nar .byte v881) (7 : Int32) (3 : Int32) (3 : Int32) v1 v881 = 1 := by
    unfold f_ok
    rw [if_neg (by decide), if_neg (by decide)]
    exact if_pos (rfl)
  rw [hv923, o0, if_neg (by decide), o1, if_neg (by decide), o2, if_neg (by decide), o3, if_neg (by decide), o4, if_neg (by decide), o5, if_neg (by decide), o6, if_neg (by decide), o7, if_neg (by decide)]
  rfl
theorem fin18 (p0 : Int32) (p1 : Int32) (p2 : Int32) (p3 : Int32) (v1 : Int32) (hv1 : v1 = (((p0.toUInt32 >>> ((p1 &&& (31 : Int32)) &&& 31).toUInt32).toInt32) &&& (2147483647 : Int32))) (hv2 : (3 : Int32) = (p2 &&& (3 : Int32))) (w0 : ¬ v1 < (128 : Int32)) (w1 : ¬ ((v1.toUInt32 >>> ((7 : Int32) &&& 31).toUInt32).toInt32) < (128 : Int32)) (w2 : ¬ ((((v1.toUInt32 >>> ((7 : Int32) &&& 31).toUInt32).toInt32).toUInt32 >>> ((7 : Int32) &&& 31).toUInt32).toInt32) < (128 : Int32)) (w3 : ((((((v1.toUInt32 >>> ((7 : Int32) &&& 31).toUInt32).toInt32).toUInt32 >>> ((7 : Int32) &&& 31).toUInt32).toInt32).toUInt32 >>> ((7 : Int32) &&& 31).toUInt32).toInt32) < (128 : Int32)) (v933 : Int32) (hv933 : v933 = p3.toInt8.toInt32) (v976 : Int32) (hv976 : v976 = (if (f_ok (nar .byte v933) (0 : Int32) (3 : Int32) (4 : Int32) v1 v933) = (0 : Int32) then (0 : Int32) else (if (f_ok (nar .byte v933) (1 : Int32) (3 : Int32) (4 : Int32) v1 v933) = (0 : Int32) then (0 : Int32) else (if (f_ok (nar .byte v933) (2 : Int32) (3 : Int32) (4 : Int32) v1 v933) = (0 : Int32) then (0 : Int32) else (if (f_ok (nar .byte (v1 ||| (128 : Int32)).toInt8.toInt32) (3 : Int32) (3 : Int32) (4 : Int32) v1 v933) = (0 : Int32) then (0 : Int32) else (if (f_ok (nar .byte (((v1.toUInt32 >>> ((7 : Int32) &&& 31).toUInt32).toInt32) ||| (128 : Int32)).toInt8.toInt32) (4 : Int32) (3 : Int32) (4 : Int32) v1 v933) = (0 : Int32) then (0 : Int32) else (if (f_ok (nar .byte (((((v1.toUInt32 >>> ((7 : Int32) &&& 31).toUInt32).toInt32).toUInt32 >>> ((7 : Int32) &&& 31).toUInt32).toInt32) ||| (128 : Int32)).toInt8.toInt32) (5 : Int32) (3 : Int32) (4 : Int32) v1 v933) = (0 : Int32) then (0 : Int32) else (if (f_ok (nar .byte ((((((v1.toUInt32 >>> ((7 : Int32) &&& 31).toUInt32).toInt32).toUInt32 >>> ((7 : Int32) &&& 31).toUInt32).toInt32).toUInt32 >>> ((7 : Int32) &&& 31).toUInt32).toInt32).toInt8.toInt32) (6 : Int32) (3 : Int32) (4 : Int32) v1 v933) = (0 : Int32) then (0 : Int32) else (if (f_ok (nar .byte v933) (7 : Int32) (3 : Int32) (4 : Int32) v1 v933) = (0 : Int32) then (0 : Int32) else (1 : Int32)))))))))) : nar .boolean v976 = 1 := by
  have h0 := own_nn _ _ hv1
  have o0 : f_ok (nar .byte v933) (0 : Int32) (3 : Int32) (4 : Int32) v1 v933 = 1 := by
    unfold f_ok
    rw [if_pos (by decide)]
    exact if_pos (rfl)
  have o1 : f_ok (nar .byte v933) (1 : Int32) (3 : Int32) (4 : Int32) v1 v933 = 1 := by
    unfold f_ok
    rw [if_pos (by decide)]
    exact if_pos (rfl)
  have o2 : f_ok (nar .byte v933) (2 : Int32) (3 : Int32) (4 : Int32) v1 v933 = 1 := by
    unfold f_ok
    rw [if_pos (by decide)]
    exact if_pos (rfl)
  have o3 : f_ok (nar .byte (v1 ||| (128 : Int32)).toInt8.toInt32) (3 : Int32) (3 : Int32) (4 : Int32) v1 v933 = 1 := by
    unfold f_ok
    rw [if_neg (by decide), if_pos (by decide), if_pos (by decide)]
    exact if_pos (own_pA v1 _ (own_k0 v1))
  have o4 : f_ok (nar .byte (((v1.toUInt32 >>> ((7 : Int32) &&& 31).toUInt32).toInt32) ||| (128 : Int32)).toInt8.toInt32) (4 : Int32) (3 : Int32) (4 : Int32) v1 v933 = 1 := by
    unfold f_ok
    rw [if_neg (by decide), if_pos (by decide), if_pos (by decide)]
    exact if_pos (own_pA (own_s v1) _ (own_k1 v1))
  have o5 : f_ok (nar .byte (((((v1.toUInt32 >>> ((7 : Int32) &&& 31).toUInt32).toInt32).toUInt32 >>> ((7 : Int32) &&& 31).toUInt32).toInt32) ||| (128 : Int32)).toInt8.toInt32) (5 : Int32) (3 : Int32) (4 : Int32) v1 v933 = 1 := by
    unfold f_ok
    rw [if_neg (by decide), if_pos (by decide), if_pos (by decide)]
    exact if_pos (own_pA (own_s (own_s v1)) _ (own_k2 v1 h0))
  have o6 : f_ok (nar .byte ((((((v1.toUInt32 >>> ((7 : Int32) &&& 31).toUInt32).toInt32).toUInt32 >>> ((7 : Int32) &&& 31).toUInt32).toInt32).toUInt32 >>> ((7 : Int32) &&& 31).toUInt32).toInt32).toInt8.toInt32) (6 : Int32) (3 : Int32) (4 : Int32) v1 v933 = 1 := by
    unfold f_ok
    rw [if_neg (by decide), if_pos (by decide), if_neg (by decide)]
    exact if_pos (own_pB (own_s (own_s (own_s v1))) _ (own_k3 v1 h0) (own_n3 v1 h0) w3)
  have o7 : f_ok (nar .byte v933) (7 : Int32) (3 : Int32) (4 : Int32) v1 v933 = 1 := by
    unfold f_ok
    rw [if_neg (by decide), if_neg (by decide)]
    exact if_pos (rfl)
  rw [hv976, o0, if_neg (by decide), o1, if_neg (by decide), o2, if_neg (by decide), o3, if_neg (by decide), o4, if_neg (by decide), o5, if_neg (by decide), o6, if_neg (by decide), o7, if_neg (by decide)]
  rfl
theorem fin19 (p0 : Int32) (p1 : Int32) (p2 : Int32) (p3 : Int32) (v1 : Int32) (hv1 : v1 = (((p0.toUInt32 >>> ((p1 &&& (31 : Int32)) &&& 31).toUInt32).toInt32) &&& (2147483647 : Int32))) (hv2 : (3 : Int32) = (p2 &&& (3 : Int32))) (w0 : ¬ v1 < (128 : Int32)) (w1 : ¬ ((v1.toUInt32 >>> ((7 : Int32) &&& 31).toUInt32).toInt32) < (128 : Int32)) (w2 : ¬ ((((v1.toUInt32 >>> ((7 : Int32) &&& 31).toUInt32).toInt32).toUInt32 >>> ((7 : Int32) &&& 31).toUInt32).toInt32) < (128 : Int32)) (w3 : ¬ ((((((v1.toUInt32 >>> ((7 : Int32) &&& 31).toUInt32).toInt32).toUInt32 >>> ((7 : Int32) &&& 31).toUInt32).toInt32).toUInt32 >>> ((7 : Int32) &&& 31).toUInt32).toInt32) < (128 : Int32)) (w4 : ((((((((v1.toUInt32 >>> ((7 : Int32) &&& 31).toUInt32).toInt32).toUInt32 >>> ((7 : Int32) &&& 31).toUInt32).toInt32).toUInt32 >>> ((7 : Int32) &&& 31).toUInt32).toInt32).toUInt32 >>> ((7 : Int32) &&& 31).toUInt32).toInt32) < (128 : Int32)) (v986 : Int32) (hv986 : v986 = p3.toInt8.toInt32) (v1029 : Int32) (hv1029 : v1029 = (if (f_ok (nar .byte v986) (0 : Int32) (3 : Int32) (5 : Int32) v1 v986) = (0 : Int32) then (0 : Int32) else (if (f_ok (nar .byte v986) (1 : Int32) (3 : Int32) (5 : Int32) v1 v986) = (0 : Int32) then (0 : Int32) else (if (f_ok (nar .byte v986) (2 : Int32) (3 : Int32) (5 : Int32) v1 v986) = (0 : Int32) then (0 : Int32) else (if (f_ok (nar .byte (v1 ||| (128 : Int32)).toInt8.toInt32) (3 : Int32) (3 : Int32) (5 : Int32) v1 v986) = (0 : Int32) then (0 : Int32) else (if (f_ok (nar .byte (((v1.toUInt32 >>> ((7 : Int32) &&& 31).toUInt32).toInt32) ||| (128 : Int32)).toInt8.toInt32) (4 : Int32) (3 : Int32) (5 : Int32) v1 v986) = (0 : Int32) then (0 : Int32) else (if (f_ok (nar .byte (((((v1.toUInt32 >>> ((7 : Int32) &&& 31).toUInt32).toInt32).toUInt32 >>> ((7 : Int32) &&& 31).toUInt32).toInt32) ||| (128 : Int32)).toInt8.toInt32) (5 : Int32) (3 : Int32) (5 : Int32) v1 v986) = (0 : Int32) then (0 : Int32) else (if (f_ok (nar .byte (((((((v1.toUInt32 >>> ((7 : Int32) &&& 31).toUInt32).toInt32).toUInt32 >>> ((7 : Int32) &&& 31).toUInt32).toInt32).toUInt32 >>> ((7 : Int32) &&& 31).toUInt32).toInt32) ||| (128 : Int32)).toInt8.toInt32) (6 : Int32) (3 : Int32) (5 : Int32) v1 v986) = (0 : Int32) then (0 : Int32) else (if (f_ok (nar .byte ((((((((v1.toUInt32 >>> ((7 : Int32) &&& 31).toUInt32).toInt32).toUInt32 >>> ((7 : Int32) &&& 31).toUInt32).toInt32).toUInt32 >>> ((7 : Int32) &&& 31).toUInt32).toInt32).toUInt32 >>> ((7 : Int32) &&& 31).toUInt32).toInt32).toInt8.toInt32) (7 : Int32) (3 : Int32) (5 : Int32) v1 v986) = (0 : Int32) then (0 : Int32) else (1 : Int32)))))))))) : nar .boolean v1029 = 1 := by
  have h0 := own_nn _ _ hv1
  have o0 : f_ok (nar .byte v986) (0 : Int32) (3 : Int32) (5 : Int32) v1 v986 = 1 := by
    unfold f_ok
    rw [if_pos (by decide)]
    exact if_pos (rfl)
  have o1 : f_ok (nar .byte v986) (1 : Int32) (3 : Int32) (5 : Int32) v1 v986 = 1 := by
    unfold f_ok
    rw [if_pos (by decide)]
    exact if_pos (rfl)
  have o2 : f_ok (nar .byte v986) (2 : Int32) (3 : Int32) (5 : Int32) v1 v986 = 1 := by
    unfold f_ok
    rw [if_pos (by decide)]
    exact if_pos (rfl)
  have o3 : f_ok (nar .byte (v1 ||| (128 : Int32)).toInt8.toInt32) (3 : Int32) (3 : Int32) (5 : Int32) v1 v986 = 1 := by
    unfold f_ok
    rw [if_neg (by decide), if_pos (by decide), if_pos (by decide)]
    exact if_pos (own_pA v1 _ (own_k0 v1))
  have o4 : f_ok (nar .byte (((v1.toUInt32 >>> ((7 : Int32) &&& 31).toUInt32).toInt32) ||| (128 : Int32)).toInt8.toInt32) (4 : Int32) (3 : Int32) (5 : Int32) v1 v986 = 1 := by
    unfold f_ok
    rw [if_neg (by decide), if_pos (by decide), if_pos (by decide)]
    exact if_pos (own_pA (own_s v1) _ (own_k1 v1))
  have o5 : f_ok (nar .byte (((((v1.toUInt32 >>> ((7 : Int32) &&& 31).toUInt32).toInt32).toUInt32 >>> ((7 : Int32) &&& 31).toUInt32).toInt32) ||| (128 : Int32)).toInt8.toInt32) (5 : Int32) (3 : Int32) (5 : Int32) v1 v986 = 1 := by
    unfold f_ok
    rw [if_neg (by decide), if_pos (by decide), if_pos (by decide)]
    exact if_pos (own_pA (own_s (own_s v1)) _ (own_k2 v1 h0))
  have o6 : f_ok (nar .byte (((((((v1.toUInt32 >>> ((7 : Int32) &&& 31).toUInt32).toInt32).toUInt32 >>> ((7 : Int32) &&& 31).toUInt32).toInt32).toUInt32 >>> ((7 : Int32) &&& 31).toUInt32).toInt32) ||| (128 : Int32)).toInt8.toInt32) (6 : Int32) (3 : Int32) (5 : Int32) v1 v986 = 1 := by
    unfold f_ok
    rw [if_neg (by decide), if_pos (by decide), if_pos (by decide)]
    exact if_pos (own_pA (own_s (own_s (own_s v1))) _ (own_k3 v1 h0))
  have o7 : f_ok (nar .byte ((((((((v1.toUInt32 >>> ((7 : Int32) &&& 31).toUInt32).toInt32).toUInt32 >>> ((7 : Int32) &&& 31).toUInt32).toInt32).toUInt32 >>> ((7 : Int32) &&& 31).toUInt32).toInt32).toUInt32 >>> ((7 : Int32) &&& 31).toUInt32).toInt32).toInt8.toInt32) (7 : Int32) (3 : Int32) (5 : Int32) v1 v986 = 1 := by
    unfold f_ok
    rw [if_neg (by decide), if_pos (by decide), if_neg (by decide)]
    exact if_pos (own_pB (own_s (own_s (own_s (own_s v1)))) _ (own_k4 v1 h0) (own_n4 v1 h0) w4)
  rw [hv1029, o0, if_neg (by decide), o1, if_neg (by decide), o2, if_neg (by decide), o3, if_neg (by decide), o4, if_neg (by decide), o5, if_neg (by decide), o6, if_neg (by decide), o7, if_neg (by decide)]
  rfl
set_option maxRecDepth 65536 in
set_option maxHeartbeats 4000000 in
theorem rm0 (l : Launch) (Z : State) (a0 : Array Value) (hw : ∀ d ∈ tables_1, d.before a0 Z = true) (p0 : Int32) (p1 : Int32) (p2 : Int32) (p3 : Int32) (h0 : Heap) (n0 : Nat) (Z0 : n0 ≤ h0.size) : Met1 l Z x code maxLocals ret tables_1 room_1 #[(.int p0), (.int p1), (.int p2), (.int p3)] h0 n0 QL := by
  refine met_of_go (plainFor_of_name pn_com_example_revleaf_revleaf_NodePutVarintPinLaw) (fun m => ef_0 m p0 p1 p2 p3) ?_
  intro W hl C
  subst hl
  refine Go.iloadN C at_0 (q := 1) rfl rfl ?_
  refine Go.iloadN C at_1 (q := 2) rfl rfl ?_
  refine Go.bipush C (31 : Int32) at_2 (q := 4) rfl rfl ?_
  refine Go.iand C at_4 (q := 5) rfl ?_
  refine Go.iushr C at_5 (q := 6) rfl ?_
  refine Go.ldcI C (hw _ (List.mem_of_getElem? (i := 0) rfl)) at_6 (q := 8) rfl ?_
  refine Go.iand C at_8 (q := 9) rfl ?_
  refine Go.istore C at_9 (q := 11) rfl (fun z => #[.val (.int p0), .val (.int p1), .val (.int p2), .val (.int p3), .val (.int z), .unset, .unset, .unset, .unset, .unset]) (fun _ => rfl) ?_
  intro v1 hv1
  refine Go.iloadN C at_11 (q := 12) rfl rfl ?_
  refine Go.iconst C (3 : Int32) at_12 (q := 13) rfl rfl ?_
  refine Go.iand C at_13 (q := 14) rfl ?_
  refine Go.istore C at_14 (q := 16) rfl (fun z => #[.val (.int p0), .val (.int p1), .val (.int p2), .val (.int p3), .val (.int v1), .val (.int z), .unset, .unset, .unset, .unset]) (fun _ => rfl) ?_
  intro v2 hv2
  refine Go.iloadN C at_16 (q := 17) rfl rfl ?_
  refine Go.i2b C at_17 (q := 18) rfl ?_
  rcases (own_at4 p2 v2 hv2) with rfl | rfl | rfl | rfl
  ·
    rcases own_sizes v1 (own_nn _ _ hv1) with ⟨w0, t0⟩ | ⟨w0, w1, t0, t1⟩ | ⟨w0, w1, w2, t0, t1, t2⟩ | ⟨w0, w1, w2, w3, t0, t1, t2, t3⟩ | ⟨w0, w1, w2, w3, w4, t0, t1, t2, t3⟩
    ·
      refine Go.istore C at_18 (q := 20) rfl (fun z => #[.val (.int p0), .val (.int p1), .val (.int p2), .val (.int p3), .val (.int v1), .val (.int (0 : Int32)), .val (.int z), .unset, .unset, .unset]) (fun _ => rfl) ?_
      intro v3 hv3
      refine Go.bipush C (8 : Int32) at_20 (q := 22) rfl rfl ?_
      refine Go.newP C (hw _ (List.mem_of_getElem? (i := 1) rfl)) (by decide) (cap := 8) (by decide) (by decide) at_22 (q := 24) rfl (k' := 1) rfl (n' := 8) rfl (by decide) (by decide) ?_
      intro h4 a5 cA6 g7 E8 Fn9
      have g11 : n0 ≤ a5 := g7 ▸ Z0
      have F10 : Av Z h4 a5 .byte 8 (iF (fun _ => (0 : Int32))) := Av.of Fn9
      refine Go.astore C at_24 (q := 26) rfl (l' := #[.val (.int p0), .val (.int p1), .val (.int p2), .val (.int p3), .val (.int v1), .val (.int (0 : Int32)), .val (.int v3), .val (.ref a5), .unset, .unset]) rfl rfl ?_
      refine Go.aload C at_26 (q := 28) rfl rfl rfl ?_
      refine Go.iconst C (0 : Int32) at_28 (q := 29) rfl rfl ?_
      refine Go.iload C at_29 (q := 31) rfl rfl ?_
      refine Go.bastore C F10 0 (by decide) (by decide) (by decide) g11 at_31 (q := 32) rfl ?_
      intro h12 W13
      have F14 := F10.sameI W13
      refine Go.aload C at_32 (q := 34) rfl rfl rfl ?_
      refine Go.iconst C (1 : Int32) at_34 (q := 35) rfl rfl ?_
      refine Go.iload C at_35 (q := 37) rfl rfl ?_
      refine Go.bastore C F14 1 (by decide) (by decide) (by decide) g11 at_37 (q := 38) rfl ?_
      intro h15 W16
      have F17 := F14.sameI W16
      refine Go.aload C at_38 (q := 40) rfl rfl rfl ?_
      refine Go.iconst C (2 : Int32) at_40 (q := 41) rfl rfl ?_
      refine Go.iload C at_41 (q := 43) rfl rfl ?_
      refine Go.bastore C F17 2 (by decide) (by decide) (by decide) g11 at_43 (q := 44) rfl ?_
      intro h18 W19
      have F20 := F17.sameI W19
      refine Go.aload C at_44 (q := 46) rfl rfl rfl ?_
      refine Go.iconst C (3 : Int32) at_46 (q := 47) rfl rfl ?_
      refine Go.iload C at_47 (q := 49) rfl rfl ?_
      refine Go.bastore C F20 3 (by decide) (by decide) (by decide) g11 at_49 (q := 50) rfl ?_
      intro h21 W22
      have F23 := F20.sameI W22
      refine Go.aload C at_50 (q := 52) rfl rfl rfl ?_
      refine Go.iconst C (4 : Int32) at_52 (q := 53) rfl rfl ?_
      refine Go.iload C at_53 (q := 55) rfl rfl ?_
      refine Go.bastore C F23 4 (by decide) (by decide) (by decide) g11 at_55 (q := 56) rfl ?_
      intro h24 W25
      have F26 := F23.sameI W25
      refine Go.aload C at_56 (q := 58) rfl rfl rfl ?_
      refine Go.iconst C (5 : Int32) at_58 (q := 59) rfl rfl ?_
      refine Go.iload C at_59 (q := 61) rfl rfl ?_
      refine Go.bastore C F26 5 (by decide) (by decide) (by decide) g11 at_61 (q := 62) rfl ?_
      intro h27 W28
      have F29 := F26.sameI W28
      refine Go.aload C at_62 (q := 64) rfl rfl rfl ?_
      refine Go.bipush C (6 : Int32) at_64 (q := 66) rfl rfl ?_
      refine Go.iload C at_66 (q := 68) rfl rfl ?_
      refine Go.bastore C F29 6 (by decide) (by decide) (by decide) g11 at_68 (q := 69) rfl ?_
      intro h30 W31
      have F32 := F29.sameI W31
      refine Go.aload C at_69 (q := 71) rfl rfl rfl ?_
      refine Go.bipush C (7 : Int32) at_71 (q := 73) rfl rfl ?_
      refine Go.iload C at_73 (q := 75) rfl rfl ?_
      refine Go.bastore C F32 7 (by decide) (by decide) (by decide) g11 at_75 (q := 76) rfl ?_
      intro h33 W34
      have F35 := F32.sameI W34
      refine Go.aload C at_76 (q := 78) rfl rfl rfl ?_
      refine Go.iload C at_78 (q := 80) rfl rfl ?_
      refine Go.iload C at_80 (q := 82) rfl rfl ?_
      have F36 := (Nat.le_trans (Nat.le_trans (Nat.le_trans (Nat.le_trans (Nat.le_trans (Nat.le_trans (Nat.le_trans (Nat.le_trans (Nat.le_trans Z0 E8.1) (Nat.le_of_eq W13.size.symm)) (Nat.le_of_eq W16.size.symm)) (Nat.le_of_eq W19.size.symm)) (Nat.le_of_eq W22.size.symm)) (Nat.le_of_eq W25.size.symm)) (Nat.le_of_eq W28.size.symm)) (Nat.le_of_eq W31.size.symm)) (Nat.le_of_eq W34.size.symm))
      refine Go.callS C (hw _ (List.mem_of_getElem? (i := 2) rfl)) (hw _ (List.mem_of_getElem? (i := 3) rfl)) (hw _ (List.mem_of_getElem? (i := 4) rfl)) (hw _ (List.mem_of_getElem? (i := 5) rfl)) (c_put0_1 W.l Z a0 hw a5 v1 h33 n0 (upd (upd (upd (upd (upd (upd (upd (upd (fun _ => (0 : Int32)) 0 (nar .byte v3)) 1 (nar .byte v3)) 2 (nar .byte v3)) 3 (nar .byte v3)) 4 (nar .byte v3)) 5 (nar .byte v3)) 6 (nar .byte v3)) 7 (nar .byte v3)) F36 F35 g11 w0) at_82 pd__40_91BII_41I (q := 85) rfl rfl (argsL := [(.ref a5), (.int (0 : Int32)), (.int v1)]) (st := []) rfl rfl (w := 0) rfl (by decide) (by decide) (k' := 1) rfl (n' := 8) rfl (by decide) (by decide) ?_
      intro v h37 q
      obtain ⟨rfl, K38, F39⟩ := q
      show Go W n0 QL h37 1 8 85 #[.val (.int p0), .val (.int p1), .val (.int p2), .val (.int p3), .val (.int v1), .val (.int (0 : Int32)), .val (.int v3), .val (.ref a5), .unset, .unset] [(.int (1 : Int32))]
      refine Go.istoreR C at_85 (q := 87) rfl (l' := #[.val (.int p0), .val (.int p1), .val (.int p2), .val (.int p3), .val (.int v1), .val (.int (0 : Int32)), .val (.int v3), .val (.ref a5), .val (.int (1 : Int32)), .unset]) rfl ?_
      refine Go.iload C at_87 (q := 89) rfl rfl ?_
      refine Go.sipush C (128 : Int32) at_89 (q := 92) rfl rfl ?_
      refine Go.icmp C at_92 (n_ge _ _) (qt := 101) (q := 95) (by decide) (by decide) rfl (fun b40 => absurd t0 b40) (fun _ => ?_)
      refine Go.iconst C (1 : Int32) at_95 (q := 96) rfl rfl ?_
      refine Go.istoreR C at_96 (q := 98) rfl (l' := #[.val (.int p0), .val (.int p1), .val (.int p2), .val (.int p3), .val (.int v1), .val (.int (0 : Int32)), .val (.int v3), .val (.ref a5), .val (.int (1 : Int32)), .val (.int (1 : Int32))]) rfl ?_
      refine Go.goto C at_98 (q := 144) (by decide) (by decide) ?_
      refine Go.iload C at_144 (q := 146) rfl rfl ?_
      refine Go.iload C at_146 (q := 148) rfl rfl ?_
      refine Go.iload C at_148 (q := 150) rfl rfl ?_
      refine Go.iadd C at_150 (q := 151) rfl ?_
      refine Go.icmp C at_151 (n_eq _ _) (qt := 156) (q := 154) (by decide) (by decide) rfl (fun _ => ?_) (fun b41 => absurd b41 (by decide))
      refine Go.aload C at_156 (q := 158) rfl rfl rfl ?_
      refine Go.iconst C (0 : Int32) at_158 (q := 159) rfl rfl ?_
      refine Go.iload C at_159 (q := 161) rfl rfl ?_
      refine Go.iload C at_161 (q := 163) rfl rfl ?_
      refine Go.iload C at_163 (q := 165) rfl rfl ?_
      refine Go.iload C at_165 (q := 167) rfl rfl ?_
      have F42 := (Nat.le_trans F36 K38.1)
      refine Go.pureS C (hw _ (List.mem_of_getElem? (i := 6) rfl)) (hw _ (List.mem_of_getElem? (i := 7) rfl)) (hw _ (List.mem_of_getElem? (i := 8) rfl)) (hw _ (List.mem_of_getElem? (i := 9) rfl)) (c_f_ok W.l Z a0 hw a5 (0 : Int32) (0 : Int32) (1 : Int32) v1 v3 h37 n0 (upd (upd (upd (upd (upd (upd (upd (upd (upd (fun _ => (0 : Int32)) 0 (nar .byte v3)) 1 (nar .byte v3)) 2 (nar .byte v3)) 3 (nar .byte v3)) 4 (nar .byte v3)) 5 (nar .byte v3)) 6 (nar .byte v3)) 7 (nar .byte v3)) 0 (nar .byte v1.toInt8.toInt32)) F42 F39 (by decide)) at_167 pd__40_91BIIIIB_41Z (q := 170) rfl rfl (argsL := [(.ref a5), (.int (0 : Int32)), (.int (0 : Int32)), (.int (1 : Int32)), (.int v1), (.int v3)]) (st := []) rfl rfl (w := 0) rfl (by decide) (by decide) (by decide) (by decide) (res := .int (f_ok (nar .byte v1.toInt8.toInt32) (0 : Int32) (0 : Int32) (1 : Int32) v1 v3)) ?_
      suffices J44 : ∀ v43 : Int32, v43 = (if (f_ok (nar .byte v1.toInt8.toInt32) (0 : Int32) (0 : Int32) (1 : Int32) v1 v3) = (0 : Int32) then (0 : Int32) else (if (f_ok (nar .byte v3) (1 : Int32) (0 : Int32) (1 : Int32) v1 v3) = (0 : Int32) then (0 : Int32) else (if (f_ok (nar .byte v3) (2 : Int32) (0 : Int32) (1 : Int32) v1 v3) = (0 : Int32) then (0 : Int32) else (if (f_ok (nar .byte v3) (3 : Int32) (0 : Int32) (1 : Int32) v1 v3) = (0 : Int32) then (0 : Int32) else (if (f_ok (nar .byte v3) (4 : Int32) (0 : Int32) (1 : Int32) v1 v3) = (0 : Int32) then (0 : Int32) else (if (f_ok (nar .byte v3) (5 : Int32) (0 : Int32) (1 : Int32) v1 v3) = (0 : Int32) then (0 : Int32) else (if (f_ok (nar .byte v3) (6 : Int32) (0 : Int32) (1 : Int32) v1 v3) = (0 : Int32) then (0 : Int32) else (if (f_ok (nar .byte v3) (7 : Int32) (0 : Int32) (1 : Int32) v1 v3) = (0 : Int32) then (0 : Int32) else (1 : Int32))))))))) → Go W n0 QL h37 1 8 299 #[.val (.int p0), .val (.int p1), .val (.int p2), .val (.int p3), .val (.int v1), .val (.int (0 : Int32)), .val (.int v3), .val (.ref a5), .val (.int (1 : Int32)), .val (.int (1 : Int32))] [(.int v43)] by
        refine Go.if0 C at_170 (z_eq _) (qt := 298) (q := 173) (by decide) (by decide) rfl (fun b45 => ?_) (fun b45 => ?_)
        ·
          refine Go.iconst C (0 : Int32) at_298 (q := 299) rfl rfl ?_
          exact J44 _ (by rw [if_pos b45])
        ·
          refine Go.aload C at_173 (q := 175) rfl rfl rfl ?_
          refine Go.iconst C (1 : Int32) at_175 (q := 176) rfl rfl ?_
          refine Go.iload C at_176 (q := 178) rfl rfl ?_
          refine Go.iload C at_178 (q := 180) rfl rfl ?_
          refine Go.iload C at_180 (q := 182) rfl rfl ?_
          refine Go.iload C at_182 (q := 184) rfl rfl ?_
          refine Go.pureS C (hw _ (List.mem_of_getElem? (i := 6) rfl)) (hw _ (List.mem_of_getElem? (i := 7) rfl)) (hw _ (List.mem_of_getElem? (i := 8) rfl)) (hw _ (List.mem_of_getElem? (i := 9) rfl)) (c_f_ok W.l Z a0 hw a5 (1 : Int32) (0 : Int32) (1 : Int32) v1 v3 h37 n0 (upd (upd (upd (upd (upd (upd (upd (upd (upd (fun _ => (0 : Int32)) 0 (nar .byte v3)) 1 (nar .byte v3)) 2 (nar .byte v3)) 3 (nar .byte v3)) 4 (nar .byte v3)) 5 (nar .byte v3)) 6 (nar .byte v3)) 7 (nar .byte v3)) 0 (nar .byte v1.toInt8.toInt32)) F42 F39 (by decide)) at_184 pd__40_91BIIIIB_41Z (q := 187) rfl rfl (argsL := [(.ref a5), (.int (1 : Int32)), (.int (0 : Int32)), (.int (1 : Int32)), (.int v1), (.int v3)]) (st := []) rfl rfl (w := 0) rfl (by decide) (by decide) (by decide) (by decide) (res := .int (f_ok (nar .byte v3) (1 : Int32) (0 : Int32) (1 : Int32) v1 v3)) ?_
          refine Go.if0 C at_187 (z_eq _) (qt := 298) (q := 190) (by decide) (by decide) rfl (fun b46 => ?_) (fun b46 => ?_)
          ·
            refine Go.iconst C (0 : Int32) at_298 (q := 299) rfl rfl ?_
            exact J44 _ (by rw [if_neg b45, if_pos b46])
          ·
            refine Go.aload C at_190 (q := 192) rfl rfl rfl ?_
            refine Go.iconst C (2 : Int32) at_192 (q := 193) rfl rfl ?_
            refine Go.iload C at_193 (q := 195) rfl rfl ?_
            refine Go.iload C at_195 (q := 197) rfl rfl ?_
            refine Go.iload C at_197 (q := 199) rfl rfl ?_
            refine Go.iload C at_199 (q := 201) rfl rfl ?_
            refine Go.pureS C (hw _ (List.mem_of_getElem? (i := 6) rfl)) (hw _ (List.mem_of_getElem? (i := 7) rfl)) (hw _ (List.mem_of_getElem? (i := 8) rfl)) (hw _ (List.mem_of_getElem? (i := 9) rfl)) (c_f_ok W.l Z a0 hw a5 (2 : Int32) (0 : Int32) (1 : Int32) v1 v3 h37 n0 (upd (upd (upd (upd (upd (upd (upd (upd (upd (fun _ => (0 : Int32)) 0 (nar .byte v3)) 1 (nar .byte v3)) 2 (nar .byte v3)) 3 (nar .byte v3)) 4 (nar .byte v3)) 5 (nar .byte v3)) 6 (nar .byte v3)) 7 (nar .byte v3)) 0 (nar .byte v1.toInt8.toInt32)) F42 F39 (by decide)) at_201 pd__40_91BIIIIB_41Z (q := 204) rfl rfl (argsL := [(.ref a5), (.int (2 : Int32)), (.int (0 : Int32)), (.int (1 : Int32)), (.int v1), (.int v3)]) (st := []) rfl rfl (w := 0) rfl (by decide) (by decide) (by decide) (by decide) (res := .int (f_ok (nar .byte v3) (2 : Int32) (0 : Int32) (1 : Int32) v1 v3)) ?_
            refine Go.if0 C at_204 (z_eq _) (qt := 298) (q := 207) (by decide) (by decide) rfl (fun b47 => ?_) (fun b47 => ?_)
            ·
              refine Go.iconst C (0 : Int32) at_298 (q := 299) rfl rfl ?_
              exact J44 _ (by rw [if_neg b45, if_neg b46, if_pos b47])
            ·
              refine Go.aload C at_207 (q := 209) rfl rfl rfl ?_
              refine Go.iconst C (3 : Int32) at_209 (q := 210) rfl rfl ?_
              refine Go.iload C at_210 (q := 212) rfl rfl ?_
              refine Go.iload C at_212 (q := 214) rfl rfl ?_
              refine Go.iload C at_214 (q := 216) rfl rfl ?_
              refine Go.iload C at_216 (q := 218) rfl rfl ?_
              refine Go.pureS C (hw _ (List.mem_of_getElem? (i := 6) rfl)) (hw _ (List.mem_of_getElem? (i := 7) rfl)) (hw _ (List.mem_of_getElem? (i := 8) rfl)) (hw _ (List.mem_of_getElem? (i := 9) rfl)) (c_f_ok W.l Z a0 hw a5 (3 : Int32) (0 : Int32) (1 : Int32) v1 v3 h37 n0 (upd (upd (upd (upd (upd (upd (upd (upd (upd (fun _ => (0 : Int32)) 0 (nar .byte v3)) 1 (nar .byte v3)) 2 (nar .byte v3)) 3 (nar .byte v3)) 4 (nar .byte v3)) 5 (nar .byte v3)) 6 (nar .byte v3)) 7 (nar .byte v3)) 0 (nar .byte v1.toInt8.toInt32)) F42 F39 (by decide)) at_218 pd__40_91BIIIIB_41Z (q := 221) rfl rfl (argsL := [(.ref a5), (.int (3 : Int32)), (.int (0 : Int32)), (.int (1 : Int32)), (.int v1), (.int v3)]) (st := []) rfl rfl (w := 0) rfl (by decide) (by decide) (by decide) (by decide) (res := .int (f_ok (nar .byte v3) (3 : Int32) (0 : Int32) (1 : Int32) v1 v3)) ?_
              refine Go.if0 C at_221 (z_eq _) (qt := 298) (q := 224) (by decide) (by decide) rfl (fun b48 => ?_) (fun b48 => ?_)
              ·
                refine Go.iconst C (0 : Int32) at_298 (q := 299) rfl rfl ?_
                exact J44 _ (by rw [if_neg b45, if_neg b46, if_neg b47, if_pos b48])
              ·
                refine Go.aload C at_224 (q := 226) rfl rfl rfl ?_
                refine Go.iconst C (4 : Int32) at_226 (q := 227) rfl rfl ?_
                refine Go.iload C at_227 (q := 229) rfl rfl ?_
                refine Go.iload C at_229 (q := 231) rfl rfl ?_
                refine Go.iload C at_231 (q := 233) rfl rfl ?_
                refine Go.iload C at_233 (q := 235) rfl rfl ?_
                refine Go.pureS C (hw _ (List.mem_of_getElem? (i := 6) rfl)) (hw _ (List.mem_of_getElem? (i := 7) rfl)) (hw _ (List.mem_of_getElem? (i := 8) rfl)) (hw _ (List.mem_of_getElem? (i := 9) rfl)) (c_f_ok W.l Z a0 hw a5 (4 : Int32) (0 : Int32) (1 : Int32) v1 v3 h37 n0 (upd (upd (upd (upd (upd (upd (upd (upd (upd (fun _ => (0 : Int32)) 0 (nar .byte v3)) 1 (nar .byte v3)) 2 (nar .byte v3)) 3 (nar .byte v3)) 4 (nar .byte v3)) 5 (nar .byte v3)) 6 (nar .byte v3)) 7 (nar .byte v3)) 0 (nar .byte v1.toInt8.toInt32)) F42 F39 (by decide)) at_235 pd__40_91BIIIIB_41Z (q := 238) rfl rfl (argsL := [(.ref a5), (.int (4 : Int32)), (.int (0 : Int32)), (.int (1 : Int32)), (.int v1), (.int v3)]) (st := []) rfl rfl (w := 0) rfl (by decide) (by decide) (by decide) (by decide) (res := .int (f_ok (nar .byte v3) (4 : Int32) (0 : Int32) (1 : Int32) v1 v3)) ?_
                refine Go.if0 C at_238 (z_eq _) (qt := 298) (q := 241) (by decide) (by decide) rfl (fun b49 => ?_) (fun b49 => ?_)
                ·
                  refine Go.iconst C (0 : Int32) at_298 (q := 299) rfl rfl ?_
                  exact J44 _ (by rw [if_neg b45, if_neg b46, if_neg b47, if_neg b48, if_pos b49])
                ·
                  refine Go.aload C at_241 (q := 243) rfl rfl rfl ?_
                  refine Go.iconst C (5 : Int32) at_243 (q := 244) rfl rfl ?_
                  refine Go.iload C at_244 (q := 246) rfl rfl ?_
                  refine Go.iload C at_246 (q := 248) rfl rfl ?_
                  refine Go.iload C at_248 (q := 250) rfl rfl ?_
                  refine Go.iload C at_250 (q := 252) rfl rfl ?_
                  refine Go.pureS C (hw _ (List.mem_of_getElem? (i := 6) rfl)) (hw _ (List.mem_of_getElem? (i := 7) rfl)) (hw _ (List.mem_of_getElem? (i := 8) rfl)) (hw _ (List.mem_of_getElem? (i := 9) rfl)) (c_f_ok W.l Z a0 hw a5 (5 : Int32) (0 : Int32) (1 : Int32) v1 v3 h37 n0 (upd (upd (upd (upd (upd (upd (upd (upd (upd (fun _ => (0 : Int32)) 0 (nar .byte v3)) 1 (nar .byte v3)) 2 (nar .byte v3)) 3 (nar .byte v3)) 4 (nar .byte v3)) 5 (nar .byte v3)) 6 (nar .byte v3)) 7 (nar .byte v3)) 0 (nar .byte v1.toInt8.toInt32)) F42 F39 (by decide)) at_252 pd__40_91BIIIIB_41Z (q := 255) rfl rfl (argsL := [(.ref a5), (.int (5 : Int32)), (.int (0 : Int32)), (.int (1 : Int32)), (.int v1), (.int v3)]) (st := []) rfl rfl (w := 0) rfl (by decide) (by decide) (by decide) (by decide) (res := .int (f_ok (nar .byte v3) (5 : Int32) (0 : Int32) (1 : Int32) v1 v3)) ?_
                  refine Go.if0 C at_255 (z_eq _) (qt := 298) (q := 258) (by decide) (by decide) rfl (fun b50 => ?_) (fun b50 => ?_)
                  ·
                    refine Go.iconst C (0 : Int32) at_298 (q := 299) rfl rfl ?_
                    exact J44 _ (by rw [if_neg b45, if_neg b46, if_neg b47, if_neg b48, if_neg b49, if_pos b50])
                  ·
                    refine Go.aload C at_258 (q := 260) rfl rfl rfl ?_
                    refine Go.bipush C (6 : Int32) at_260 (q := 262) rfl rfl ?_
                    refine Go.iload C at_262 (q := 264) rfl rfl ?_
                    refine Go.iload C at_264 (q := 266) rfl rfl ?_
                    refine Go.iload C at_266 (q := 268) rfl rfl ?_
                    refine Go.iload C at_268 (q := 270) rfl rfl ?_
                    refine Go.pureS C (hw _ (List.mem_of_getElem? (i := 6) rfl)) (hw _ (List.mem_of_getElem? (i := 7) rfl)) (hw _ (List.mem_of_getElem? (i := 8) rfl)) (hw _ (List.mem_of_getElem? (i := 9) rfl)) (c_f_ok W.l Z a0 hw a5 (6 : Int32) (0 : Int32) (1 : Int32) v1 v3 h37 n0 (upd (upd (upd (upd (upd (upd (upd (upd (upd (fun _ => (0 : Int32)) 0 (nar .byte v3)) 1 (nar .byte v3)) 2 (nar .byte v3)) 3 (nar .byte v3)) 4 (nar .byte v3)) 5 (nar .byte v3)) 6 (nar .byte v3)) 7 (nar .byte v3)) 0 (nar .byte v1.toInt8.toInt32)) F42 F39 (by decide)) at_270 pd__40_91BIIIIB_41Z (q := 273) rfl rfl (argsL := [(.ref a5), (.int (6 : Int32)), (.int (0 : Int32)), (.int (1 : Int32)), (.int v1), (.int v3)]) (st := []) rfl rfl (w := 0) rfl (by decide) (by decide) (by decide) (by decide) (res := .int (f_ok (nar .byte v3) (6 : Int32) (0 : Int32) (1 : Int32) v1 v3)) ?_
                    refine Go.if0 C at_273 (z_eq _) (qt := 298) (q := 276) (by decide) (by decide) rfl (fun b51 => ?_) (fun b51 => ?_)
                    ·
                      refine Go.iconst C (0 : Int32) at_298 (q := 299) rfl rfl ?_
                      exact J44 _ (by rw [if_neg b45, if_neg b46, if_neg b47, if_neg b48, if_neg b49, if_neg b50, if_pos b51])
                    ·
                      refine Go.aload C at_276 (q := 278) rfl rfl rfl ?_
                      refine Go.bipush C (7 : Int32) at_278 (q := 280) rfl rfl ?_
                      refine Go.iload C at_280 (q := 282) rfl rfl ?_
                      refine Go.iload C at_282 (q := 284) rfl rfl ?_
                      refine Go.iload C at_284 (q := 286) rfl rfl ?_
                      refine Go.iload C at_286 (q := 288) rfl rfl ?_
                      refine Go.pureS C (hw _ (List.mem_of_getElem? (i := 6) rfl)) (hw _ (List.mem_of_getElem? (i := 7) rfl)) (hw _ (List.mem_of_getElem? (i := 8) rfl)) (hw _ (List.mem_of_getElem? (i := 9) rfl)) (c_f_ok W.l Z a0 hw a5 (7 : Int32) (0 : Int32) (1 : Int32) v1 v3 h37 n0 (upd (upd (upd (upd (upd (upd (upd (upd (upd (fun _ => (0 : Int32)) 0 (nar .byte v3)) 1 (nar .byte v3)) 2 (nar .byte v3)) 3 (nar .byte v3)) 4 (nar .byte v3)) 5 (nar .byte v3)) 6 (nar .byte v3)) 7 (nar .byte v3)) 0 (nar .byte v1.toInt8.toInt32)) F42 F39 (by decide)) at_288 pd__40_91BIIIIB_41Z (q := 291) rfl rfl (argsL := [(.ref a5), (.int (7 : Int32)), (.int (0 : Int32)), (.int (1 : Int32)), (.int v1), (.int v3)]) (st := []) rfl rfl (w := 0) rfl (by decide) (by decide) (by decide) (by decide) (res := .int (f_ok (nar .byte v3) (7 : Int32) (0 : Int32) (1 : Int32) v1 v3)) ?_
                      refine Go.if0 C at_291 (z_eq _) (qt := 298) (q := 294) (by decide) (by decide) rfl (fun b52 => ?_) (fun b52 => ?_)
                      ·
                        refine Go.iconst C (0 : Int32) at_298 (q := 299) rfl rfl ?_
                        exact J44 _ (by rw [if_neg b45, if_neg b46, if_neg b47, if_neg b48, if_neg b49, if_neg b50, if_neg b51, if_pos b52])
                      ·
                        refine Go.iconst C (1 : Int32) at_294 (q := 295) rfl rfl ?_
                        refine Go.goto C at_295 (q := 299) (by decide) (by decide) ?_
                        exact J44 _ (by rw [if_neg b45, if_neg b46, if_neg b47, if_neg b48, if_neg b49, if_neg b50, if_neg b51, if_neg b52])
      intro v43 hv43
      exact Go.retZ (t := .boolean) (by simp) C at_299 (by decide) (by decide) (congrArg (fun z => some (Value.int z)) (fin0 p0 p1 p2 p3 v1 hv1  hv2  w0 v3 hv3 v43 hv43))
    ·
      refine Go.istore C at_18 (q := 20) rfl (fun z => #[.val (.int p0), .val (.int p1), .val (.int p2), .val (.int p3), .val (.int v1), .val (.int (0 : Int32)), .val (.int z), .unset, .unset, .unset]) (fun _ => rfl) ?_
      intro v53 hv53
      refine Go.bipush C (8 : Int32) at_20 (q := 22) rfl rfl ?_
      refine Go.newP C (hw _ (List.mem_of_getElem? (i := 1) rfl)) (by decide) (cap := 8) (by decide) (by decide) at_22 (q := 24) rfl (k' := 1) rfl (n' := 8) rfl (by decide) (by decide) ?_
      intro h54 a55 cA56 g57 E58 Fn59
      have g61 : n0 ≤ a55 := g57 ▸ Z0
      have F60 : Av Z h54 a55 .byte 8 (iF (fun _ => (0 : Int32))) := Av.of Fn59
      refine Go.astore C at_24 (q := 26) rfl (l' := #[.val (.int p0), .val (.int p1), .val (.int p2), .val (.int p3), .val (.int v1), .val (.int (0 : Int32)), .val (.int v53), .val (.ref a55), .unset, .unset]) rfl rfl ?_
      refine Go.aload C at_26 (q := 28) rfl rfl rfl ?_
      refine Go.iconst C (0 : Int32) at_28 (q := 29) rfl rfl ?_
      refine Go.iload C at_29 (q := 31) rfl rfl ?_
      refine Go.bastore C F60 0 (by decide) (by decide) (by decide) g61 at_31 (q := 32) rfl ?_
      intro h62 W63
      have F64 := F60.sameI W63
      refine Go.aload C at_32 (q := 34) rfl rfl rfl ?_
      refine Go.iconst C (1 : Int32) at_34 (q := 35) rfl rfl ?_
      refine Go.iload C at_35 (q := 37) rfl rfl ?_
      refine Go.bastore C F64 1 (by decide) (by decide) (by decide) g61 at_37 (q := 38) rfl ?_
      intro h65 W66
      have F67 := F64.sameI W66
      refine Go.aload C at_38 (q := 40) rfl rfl rfl ?_
      refine Go.iconst C (2 : Int32) at_40 (q := 41) rfl rfl ?_
      refine Go.iload C at_41 (q := 43) rfl rfl ?_
      refine Go.bastore C F67 2 (by decide) (by decide) (by decide) g61 at_43 (q := 44) rfl ?_
      intro h68 W69
      have F70 := F67.sameI W69
      refine Go.aload C at_44 (q := 46) rfl rfl rfl ?_
      refine Go.iconst C (3 : Int32) at_46 (q := 47) rfl rfl ?_
      refine Go.iload C at_47 (q := 49) rfl rfl ?_
      refine Go.bastore C F70 3 (by decide) (by decide) (by decide) g61 at_49 (q := 50) rfl ?_
      intro h71 W72
      have F73 := F70.sameI W72
      refine Go.aload C at_50 (q := 52) rfl rfl rfl ?_
      refine Go.iconst C (4 : Int32) at_52 (q := 53) rfl rfl ?_
      refine Go.iload C at_53 (q := 55) rfl rfl ?_
      refine Go.bastore C F73 4 (by decide) (by decide) (by decide) g61 at_55 (q := 56) rfl ?_
      intro h74 W75
      have F76 := F73.sameI W75
      refine Go.aload C at_56 (q := 58) rfl rfl rfl ?_
      refine Go.iconst C (5 : Int32) at_58 (q := 59) rfl rfl ?_
      refine Go.iload C at_59 (q := 61) rfl rfl ?_
      refine Go.bastore C F76 5 (by decide) (by decide) (by decide) g61 at_61 (q := 62) rfl ?_
      intro h77 W78
      have F79 := F76.sameI W78
      refine Go.aload C at_62 (q := 64) rfl rfl rfl ?_
      refine Go.bipush C (6 : Int32) at_64 (q := 66) rfl rfl ?_
      refine Go.iload C at_66 (q := 68) rfl rfl ?_
      refine Go.bastore C F79 6 (by decide) (by decide) (by decide) g61 at_68 (q := 69) rfl ?_
      intro h80 W81
      have F82 := F79.sameI W81
      refine Go.aload C at_69 (q := 71) rfl rfl rfl ?_
      refine Go.bipush C (7 : Int32) at_71 (q := 73) rfl rfl ?_
      refine Go.iload C at_73 (q := 75) rfl rfl ?_
      refine Go.bastore C F82 7 (by decide) (by decide) (by decide) g61 at_75 (q := 76) rfl ?_
      intro h83 W84
      have F85 := F82.sameI W84
      refine Go.aload C at_76 (q := 78) rfl rfl rfl ?_
      refine Go.iload C at_78 (q := 80) rfl rfl ?_
      refine Go.iload C at_80 (q := 82) rfl rfl ?_
      have F86 := (Nat.le_trans (Nat.le_trans (Nat.le_trans (Nat.le_trans (Nat.le_trans (Nat.le_trans (Nat.le_trans (Nat.le_trans (Nat.le_trans Z0 E58.1) (Nat.le_of_eq W63.size.symm)) (Nat.le_of_eq W66.size.symm)) (Nat.le_of_eq W69.size.symm)) (Nat.le_of_eq W72.size.symm)) (Nat.le_of_eq W75.size.symm)) (Nat.le_of_eq W78.size.symm)) (Nat.le_of_eq W81.size.symm)) (Nat.le_of_eq W84.size.symm))
      refine Go.callS C (hw _ (List.mem_of_getElem? (i := 2) rfl)) (hw _ (List.mem_of_getElem? (i := 3) rfl)) (hw _ (List.mem_of_getElem? (i := 4) rfl)) (hw _ (List.mem_of_getElem? (i := 5) rfl)) (c_put0_2 W.l Z a0 hw a55 v1 h83 n0 (upd (upd (upd (upd (upd (upd (upd (upd (fun _ => (0 : Int32)) 0 (nar .byte v53)) 1 (nar .byte v53)) 2 (nar .byte v53)) 3 (nar .byte v53)) 4 (nar .byte v53)) 5 (nar .byte v53)) 6 (nar .byte v53)) 7 (nar .byte v53)) F86 F85 g61 w0 w1) at_82 pd__40_91BII_41I (q := 85) rfl rfl (argsL := [(.ref a55), (.int (0 : Int32)), (.int v1)]) (st := []) rfl rfl (w := 0) rfl (by decide) (by decide) (k' := 1) rfl (n' := 8) rfl (by decide) (by decide) ?_
      intro v h87 q
      obtain ⟨rfl, K88, F89⟩ := q
      show Go W n0 QL h87 1 8 85 #[.val (.int p0), .val (.int p1), .val (.int p2), .val (.int p3), .val (.int v1), .val (.int (0 : Int32)), .val (.int v53), .val (.ref a55), .unset, .unset] [(.int (2 : Int32))]
      refine Go.istoreR C at_85 (q := 87) rfl (l' := #[.val (.int p0), .val (.int p1), .val (.int p2), .val (.int p3), .val (.int v1), .val (.int (0 : Int32)), .val (.int v53), .val (.ref a55), .val (.int (2 : Int32)), .unset]) rfl ?_
      refine Go.iload C at_87 (q := 89) rfl rfl ?_
      refine Go.sipush C (128 : Int32) at_89 (q := 92) rfl rfl ?_
      refine Go.icmp C at_92 (n_ge _ _) (qt := 101) (q := 95) (by decide) (by decide) rfl (fun _ => ?_) (fun b90 => absurd t0 b90)
      refine Go.iload C at_101 (q := 103) rfl rfl ?_
      refine Go.sipush C (16384 : Int32) at_103 (q := 106) rfl rfl ?_
      refine Go.icmp C at_106 (n_ge _ _) (qt := 115) (q := 109) (by decide) (by decide) rfl (fun b91 => absurd t1 b91) (fun _ => ?_)
      refine Go.iconst C (2 : Int32) at_109 (q := 110) rfl rfl ?_
      refine Go.istoreR C at_110 (q := 112) rfl (l' := #[.val (.int p0), .val (.int p1), .val (.int p2), .val (.int p3), .val (.int v1), .val (.int (0 : Int32)), .val (.int v53), .val (.ref a55), .val (.int (2 : Int32)), .val (.int (2 : Int32))]) rfl ?_
      refine Go.goto C at_112 (q := 144) (by decide) (by decide) ?_
      refine Go.iload C at_144 (q := 146) rfl rfl ?_
      refine Go.iload C at_146 (q := 148) rfl rfl ?_
      refine Go.iload C at_148 (q := 150) rfl rfl ?_
      refine Go.iadd C at_150 (q := 151) rfl ?_
      refine Go.icmp C at_151 (n_eq _ _) (qt := 156) (q := 154) (by decide) (by decide) rfl (fun _ => ?_) (fun b92 => absurd b92 (by decide))
      refine Go.aload C at_156 (q := 158) rfl rfl rfl ?_
      refine Go.iconst C (0 : Int32) at_158 (q := 159) rfl rfl ?_
      refine Go.iload C at_159 (q := 161) rfl rfl ?_
      refine Go.iload C at_161 (q := 163) rfl rfl ?_
      refine Go.iload C at_163 (q := 165) rfl rfl ?_
      refine Go.iload C at_165 (q := 167) rfl rfl ?_
      have F93 := (Nat.le_trans F86 K88.1)
      refine Go.pureS C (hw _ (List.mem_of_getElem? (i := 6) rfl)) (hw _ (List.mem_of_getElem? (i := 7) rfl)) (hw _ (List.mem_of_getElem? (i := 8) rfl)) (hw _ (List.mem_of_getElem? (i := 9) rfl)) (c_f_ok W.l Z a0 hw a55 (0 : Int32) (0 : Int32) (2 : Int32) v1 v53 h87 n0 (upd (upd (upd (upd (upd (upd (upd (upd (upd (upd (fun _ => (0 : Int32)) 0 (nar .byte v53)) 1 (nar .byte v53)) 2 (nar .byte v53)) 3 (nar .byte v53)) 4 (nar .byte v53)) 5 (nar .byte v53)) 6 (nar .byte v53)) 7 (nar .byte v53)) 0 (nar .byte (v1 ||| (128 : Int32)).toInt8.toInt32)) 1 (nar .byte ((v1.toUInt32 >>> ((7 : Int32) &&& 31).toUInt32).toInt32).toInt8.toInt32)) F93 F89 (by decide)) at_167 pd__40_91BIIIIB_41Z (q := 170) rfl rfl (argsL := [(.ref a55), (.int (0 : Int32)), (.int (0 : Int32)), (.int (2 : Int32)), (.int v1), (.int v53)]) (st := []) rfl rfl (w := 0) rfl (by decide) (by decide) (by decide) (by decide) (res := .int (f_ok (nar .byte (v1 ||| (128 : Int32)).toInt8.toInt32) (0 : Int32) (0 : Int32) (2 : Int32) v1 v53)) ?_
      suffices J95 : ∀ v94 : Int32, v94 = (if (f_ok (nar .byte (v1 ||| (128 : Int32)).toInt8.toInt32) (0 : Int32) (0 : Int32) (2 : Int32) v1 v53) = (0 : Int32) then (0 : Int32) else (if (f_ok (nar .byte ((v1.toUInt32 >>> ((7 : Int32) &&& 31).toUInt32).toInt32).toInt8.toInt32) (1 : Int32) (0 : Int32) (2 : Int32) v1 v53) = (0 : Int32) then (0 : Int32) else (if (f_ok (nar .byte v53) (2 : Int32) (0 : Int32) (2 : Int32) v1 v53) = (0 : Int32) then (0 : Int32) else (if (f_ok (nar .byte v53) (3 : Int32) (0 : Int32) (2 : Int32) v1 v53) = (0 : Int32) then (0 : Int32) else (if (f_ok (nar .byte v53) (4 : Int32) (0 : Int32) (2 : Int32) v1 v53) = (0 : Int32) then (0 : Int32) else (if (f_ok (nar .byte v53) (5 : Int32) (0 : Int32) (2 : Int32) v1 v53) = (0 : Int32) then (0 : Int32) else (if (f_ok (nar .byte v53) (6 : Int32) (0 : Int32) (2 : Int32) v1 v53) = (0 : Int32) then (0 : Int32) else (if (f_ok (nar .byte v53) (7 : Int32) (0 : Int32) (2 : Int32) v1 v53) = (0 : Int32) then (0 : Int32) else (1 : Int32))))))))) → Go W n0 QL h87 1 8 299 #[.val (.int p0), .val (.int p1), .val (.int p2), .val (.int p3), .val (.int v1), .val (.int (0 : Int32)), .val (.int v53), .val (.ref a55), .val (.int (2 : Int32)), .val (.int (2 : Int32))] [(.int v94)] by
        refine Go.if0 C at_170 (z_eq _) (qt := 298) (q := 173) (by decide) (by decide) rfl (fun b96 => ?_) (fun b96 => ?_)
        ·
          refine Go.iconst C (0 : Int32) at_298 (q := 299) rfl rfl ?_
          exact J95 _ (by rw [if_pos b96])
        ·
          refine Go.aload C at_173 (q := 175) rfl rfl rfl ?_
          refine Go.iconst C (1 : Int32) at_175 (q := 176) rfl rfl ?_
          refine Go.iload C at_176 (q := 178) rfl rfl ?_
          refine Go.iload C at_178 (q := 180) rfl rfl ?_
          refine Go.iload C at_180 (q := 182) rfl rfl ?_
          refine Go.iload C at_182 (q := 184) rfl rfl ?_
          refine Go.pureS C (hw _ (List.mem_of_getElem? (i := 6) rfl)) (hw _ (List.mem_of_getElem? (i := 7) rfl)) (hw _ (List.mem_of_getElem? (i := 8) rfl)) (hw _ (List.mem_of_getElem? (i := 9) rfl)) (c_f_ok W.l Z a0 hw a55 (1 : Int32) (0 : Int32) (2 : Int32) v1 v53 h87 n0 (upd (upd (upd (upd (upd (upd (upd (upd (upd (upd (fun _ => (0 : Int32)) 0 (nar .byte v53)) 1 (nar .byte v53)) 2 (nar .byte v53)) 3 (nar .byte v53)) 4 (nar .byte v53)) 5 (nar .byte v53)) 6 (nar .byte v53)) 7 (nar .byte v53)) 0 (nar .byte (v1 ||| (128 : Int32)).toInt8.toInt32)) 1 (nar .byte ((v1.toUInt32 >>> ((7 : Int32) &&& 31).toUInt32).toInt32).toInt8.toInt32)) F93 F89 (by decide)) at_184 pd__40_91BIIIIB_41Z (q := 187) rfl rfl (argsL := [(.ref a55), (.int (1 : Int32)), (.int (0 : Int32)), (.int (2 : Int32)), (.int v1), (.int v53)]) (st := []) rfl rfl (w := 0) rfl (by decide) (by decide) (by decide) (by decide) (res := .int (f_ok (nar .byte ((v1.toUInt32 >>> ((7 : Int32) &&& 31).toUInt32).toInt32).toInt8.toInt32) (1 : Int32) (0 : Int32) (2 : Int32) v1 v53)) ?_
          refine Go.if0 C at_187 (z_eq _) (qt := 298) (q := 190) (by decide) (by decide) rfl (fun b97 => ?_) (fun b97 => ?_)
          ·
            refine Go.iconst C (0 : Int32) at_298 (q := 299) rfl rfl ?_
            exact J95 _ (by rw [if_neg b96, if_pos b97])
          ·
            refine Go.aload C at_190 (q := 192) rfl rfl rfl ?_
            refine Go.iconst C (2 : Int32) at_192 (q := 193) rfl rfl ?_
            refine Go.iload C at_193 (q := 195) rfl rfl ?_
            refine Go.iload C at_195 (q := 197) rfl rfl ?_
            refine Go.iload C at_197 (q := 199) rfl rfl ?_
            refine Go.iload C at_199 (q := 201) rfl rfl ?_
            refine Go.pureS C (hw _ (List.mem_of_getElem? (i := 6) rfl)) (hw _ (List.mem_of_getElem? (i := 7) rfl)) (hw _ (List.mem_of_getElem? (i := 8) rfl)) (hw _ (List.mem_of_getElem? (i := 9) rfl)) (c_f_ok W.l Z a0 hw a55 (2 : Int32) (0 : Int32) (2 : Int32) v1 v53 h87 n0 (upd (upd (upd (upd (upd (upd (upd (upd (upd (upd (fun _ => (0 : Int32)) 0 (nar .byte v53)) 1 (nar .byte v53)) 2 (nar .byte v53)) 3 (nar .byte v53)) 4 (nar .byte v53)) 5 (nar .byte v53)) 6 (nar .byte v53)) 7 (nar .byte v53)) 0 (nar .byte (v1 ||| (128 : Int32)).toInt8.toInt32)) 1 (nar .byte ((v1.toUInt32 >>> ((7 : Int32) &&& 31).toUInt32).toInt32).toInt8.toInt32)) F93 F89 (by decide)) at_201 pd__40_91BIIIIB_41Z (q := 204) rfl rfl (argsL := [(.ref a55), (.int (2 : Int32)), (.int (0 : Int32)), (.int (2 : Int32)), (.int v1), (.int v53)]) (st := []) rfl rfl (w := 0) rfl (by decide) (by decide) (by decide) (by decide) (res := .int (f_ok (nar .byte v53) (2 : Int32) (0 : Int32) (2 : Int32) v1 v53)) ?_
            refine Go.if0 C at_204 (z_eq _) (qt := 298) (q := 207) (by decide) (by decide) rfl (fun b98 => ?_) (fun b98 => ?_)
            ·
              refine Go.iconst C (0 : Int32) at_298 (q := 299) rfl rfl ?_
              exact J95 _ (by rw [if_neg b96, if_neg b97, if_pos b98])
            ·
              refine Go.aload C at_207 (q := 209) rfl rfl rfl ?_
              refine Go.iconst C (3 : Int32) at_209 (q := 210) rfl rfl ?_
              refine Go.iload C at_210 (q := 212) rfl rfl ?_
              refine Go.iload C at_212 (q := 214) rfl rfl ?_
              refine Go.iload C at_214 (q := 216) rfl rfl ?_
              refine Go.iload C at_216 (q := 218) rfl rfl ?_
              refine Go.pureS C (hw _ (List.mem_of_getElem? (i := 6) rfl)) (hw _ (List.mem_of_getElem? (i := 7) rfl)) (hw _ (List.mem_of_getElem? (i := 8) rfl)) (hw _ (List.mem_of_getElem? (i := 9) rfl)) (c_f_ok W.l Z a0 hw a55 (3 : Int32) (0 : Int32) (2 : Int32) v1 v53 h87 n0 (upd (upd (upd (upd (upd (upd (upd (upd (upd (upd (fun _ => (0 : Int32)) 0 (nar .byte v53)) 1 (nar .byte v53)) 2 (nar .byte v53)) 3 (nar .byte v53)) 4 (nar .byte v53)) 5 (nar .byte v53)) 6 (nar .byte v53)) 7 (nar .byte v53)) 0 (nar .byte (v1 ||| (128 : Int32)).toInt8.toInt32)) 1 (nar .byte ((v1.toUInt32 >>> ((7 : Int32) &&& 31).toUInt32).toInt32).toInt8.toInt32)) F93 F89 (by decide)) at_218 pd__40_91BIIIIB_41Z (q := 221) rfl rfl (argsL := [(.ref a55), (.int (3 : Int32)), (.int (0 : Int32)), (.int (2 : Int32)), (.int v1), (.int v53)]) (st := []) rfl rfl (w := 0) rfl (by decide) (by decide) (by decide) (by decide) (res := .int (f_ok (nar .byte v53) (3 : Int32) (0 : Int32) (2 : Int32) v1 v53)) ?_
              refine Go.if0 C at_221 (z_eq _) (qt := 298) (q := 224) (by decide) (by decide) rfl (fun b99 => ?_) (fun b99 => ?_)
              ·
                refine Go.iconst C (0 : Int32) at_298 (q := 299) rfl rfl ?_
                exact J95 _ (by rw [if_neg b96, if_neg b97, if_neg b98, if_pos b99])
              ·
                refine Go.aload C at_224 (q := 226) rfl rfl rfl ?_
                refine Go.iconst C (4 : Int32) at_226 (q := 227) rfl rfl ?_
                refine Go.iload C at_227 (q := 229) rfl rfl ?_
                refine Go.iload C at_229 (q := 231) rfl rfl ?_
                refine Go.iload C at_231 (q := 233) rfl rfl ?_
                refine Go.iload C at_233 (q := 235) rfl rfl ?_
                refine Go.pureS C (hw _ (List.mem_of_getElem? (i := 6) rfl)) (hw _ (List.mem_of_getElem? (i := 7) rfl)) (hw _ (List.mem_of_getElem? (i := 8) rfl)) (hw _ (List.mem_of_getElem? (i := 9) rfl)) (c_f_ok W.l Z a0 hw a55 (4 : Int32) (0 : Int32) (2 : Int32) v1 v53 h87 n0 (upd (upd (upd (upd (upd (upd (upd (upd (upd (upd (fun _ => (0 : Int32)) 0 (nar .byte v53)) 1 (nar .byte v53)) 2 (nar .byte v53)) 3 (nar .byte v53)) 4 (nar .byte v53)) 5 (nar .byte v53)) 6 (nar .byte v53)) 7 (nar .byte v53)) 0 (nar .byte (v1 ||| (128 : Int32)).toInt8.toInt32)) 1 (nar .byte ((v1.toUInt32 >>> ((7 : Int32) &&& 31).toUInt32).toInt32).toInt8.toInt32)) F93 F89 (by decide)) at_235 pd__40_91BIIIIB_41Z (q := 238) rfl rfl (argsL := [(.ref a55), (.int (4 : Int32)), (.int (0 : Int32)), (.int (2 : Int32)), (.int v1), (.int v53)]) (st := []) rfl rfl (w := 0) rfl (by decide) (by decide) (by decide) (by decide) (res := .int (f_ok (nar .byte v53) (4 : Int32) (0 : Int32) (2 : Int32) v1 v53)) ?_
                refine Go.if0 C at_238 (z_eq _) (qt := 298) (q := 241) (by decide) (by decide) rfl (fun b100 => ?_) (fun b100 => ?_)
                ·
                  refine Go.iconst C (0 : Int32) at_298 (q := 299) rfl rfl ?_
                  exact J95 _ (by rw [if_neg b96, if_neg b97, if_neg b98, if_neg b99, if_pos b100])
                ·
                  refine Go.aload C at_241 (q := 243) rfl rfl rfl ?_
                  refine Go.iconst C (5 : Int32) at_243 (q := 244) rfl rfl ?_
                  refine Go.iload C at_244 (q := 246) rfl rfl ?_
                  refine Go.iload C at_246 (q := 248) rfl rfl ?_
                  refine Go.iload C at_248 (q := 250) rfl rfl ?_
                  refine Go.iload C at_250 (q := 252) rfl rfl ?_
                  refine Go.pureS C (hw _ (List.mem_of_getElem? (i := 6) rfl)) (hw _ (List.mem_of_getElem? (i := 7) rfl)) (hw _ (List.mem_of_getElem? (i := 8) rfl)) (hw _ (List.mem_of_getElem? (i := 9) rfl)) (c_f_ok W.l Z a0 hw a55 (5 : Int32) (0 : Int32) (2 : Int32) v1 v53 h87 n0 (upd (upd (upd (upd (upd (upd (upd (upd (upd (upd (fun _ => (0 : Int32)) 0 (nar .byte v53)) 1 (nar .byte v53)) 2 (nar .byte v53)) 3 (nar .byte v53)) 4 (nar .byte v53)) 5 (nar .byte v53)) 6 (nar .byte v53)) 7 (nar .byte v53)) 0 (nar .byte (v1 ||| (128 : Int32)).toInt8.toInt32)) 1 (nar .byte ((v1.toUInt32 >>> ((7 : Int32) &&& 31).toUInt32).toInt32).toInt8.toInt32)) F93 F89 (by decide)) at_252 pd__40_91BIIIIB_41Z (q := 255) rfl rfl (argsL := [(.ref a55), (.int (5 : Int32)), (.int (0 : Int32)), (.int (2 : Int32)), (.int v1), (.int v53)]) (st := []) rfl rfl (w := 0) rfl (by decide) (by decide) (by decide) (by decide) (res := .int (f_ok (nar .byte v53) (5 : Int32) (0 : Int32) (2 : Int32) v1 v53)) ?_
                  refine Go.if0 C at_255 (z_eq _) (qt := 298) (q := 258) (by decide) (by decide) rfl (fun b101 => ?_) (fun b101 => ?_)
                  ·
                    refine Go.iconst C (0 : Int32) at_298 (q := 299) rfl rfl ?_
                    exact J95 _ (by rw [if_neg b96, if_neg b97, if_neg b98, if_neg b99, if_neg b100, if_pos b101])
                  ·
                    refine Go.aload C at_258 (q := 260) rfl rfl rfl ?_
                    refine Go.bipush C (6 : Int32) at_260 (q := 262) rfl rfl ?_
                    refine Go.iload C at_262 (q := 264) rfl rfl ?_
                    refine Go.iload C at_264 (q := 266) rfl rfl ?_
                    refine Go.iload C at_266 (q := 268) rfl rfl ?_
                    refine Go.iload C at_268 (q := 270) rfl rfl ?_
                    refine Go.pureS C (hw _ (List.mem_of_getElem? (i := 6) rfl)) (hw _ (List.mem_of_getElem? (i := 7) rfl)) (hw _ (List.mem_of_getElem? (i := 8) rfl)) (hw _ (List.mem_of_getElem? (i := 9) rfl)) (c_f_ok W.l Z a0 hw a55 (6 : Int32) (0 : Int32) (2 : Int32) v1 v53 h87 n0 (upd (upd (upd (upd (upd (upd (upd (upd (upd (upd (fun _ => (0 : Int32)) 0 (nar .byte v53)) 1 (nar .byte v53)) 2 (nar .byte v53)) 3 (nar .byte v53)) 4 (nar .byte v53)) 5 (nar .byte v53)) 6 (nar .byte v53)) 7 (nar .byte v53)) 0 (nar .byte (v1 ||| (128 : Int32)).toInt8.toInt32)) 1 (nar .byte ((v1.toUInt32 >>> ((7 : Int32) &&& 31).toUInt32).toInt32).toInt8.toInt32)) F93 F89 (by decide)) at_270 pd__40_91BIIIIB_41Z (q := 273) rfl rfl (argsL := [(.ref a55), (.int (6 : Int32)), (.int (0 : Int32)), (.int (2 : Int32)), (.int v1), (.int v53)]) (st := []) rfl rfl (w := 0) rfl (by decide) (by decide) (by decide) (by decide) (res := .int (f_ok (nar .byte v53) (6 : Int32) (0 : Int32) (2 : Int32) v1 v53)) ?_
                    refine Go.if0 C at_273 (z_eq _) (qt := 298) (q := 276) (by decide) (by decide) rfl (fun b102 => ?_) (fun b102 => ?_)
                    ·
                      refine Go.iconst C (0 : Int32) at_298 (q := 299) rfl rfl ?_
                      exact J95 _ (by rw [if_neg b96, if_neg b97, if_neg b98, if_neg b99, if_neg b100, if_neg b101, if_pos b102])
                    ·
                      refine Go.aload C at_276 (q := 278) rfl rfl rfl ?_
                      refine Go.bipush C (7 : Int32) at_278 (q := 280) rfl rfl ?_
                      refine Go.iload C at_280 (q := 282) rfl rfl ?_
                      refine Go.iload C at_282 (q := 284) rfl rfl ?_
                      refine Go.iload C at_284 (q := 286) rfl rfl ?_
                      refine Go.iload C at_286 (q := 288) rfl rfl ?_
                      refine Go.pureS C (hw _ (List.mem_of_getElem? (i := 6) rfl)) (hw _ (List.mem_of_getElem? (i := 7) rfl)) (hw _ (List.mem_of_getElem? (i := 8) rfl)) (hw _ (List.mem_of_getElem? (i := 9) rfl)) (c_f_ok W.l Z a0 hw a55 (7 : Int32) (0 : Int32) (2 : Int32) v1 v53 h87 n0 (upd (upd (upd (upd (upd (upd (upd (upd (upd (upd (fun _ => (0 : Int32)) 0 (nar .byte v53)) 1 (nar .byte v53)) 2 (nar .byte v53)) 3 (nar .byte v53)) 4 (nar .byte v53)) 5 (nar .byte v53)) 6 (nar .byte v53)) 7 (nar .byte v53)) 0 (nar .byte (v1 ||| (128 : Int32)).toInt8.toInt32)) 1 (nar .byte ((v1.toUInt32 >>> ((7 : Int32) &&& 31).toUInt32).toInt32).toInt8.toInt32)) F93 F89 (by decide)) at_288 pd__40_91BIIIIB_41Z (q := 291) rfl rfl (argsL := [(.ref a55), (.int (7 : Int32)), (.int (0 : Int32)), (.int (2 : Int32)), (.int v1), (.int v53)]) (st := []) rfl rfl (w := 0) rfl (by decide) (by decide) (by decide) (by decide) (res := .int (f_ok (nar .byte v53) (7 : Int32) (0 : Int32) (2 : Int32) v1 v53)) ?_
                      refine Go.if0 C at_291 (z_eq _) (qt := 298) (q := 294) (by decide) (by decide) rfl (fun b103 => ?_) (fun b103 => ?_)
                      ·
                        refine Go.iconst C (0 : Int32) at_298 (q := 299) rfl rfl ?_
                        exact J95 _ (by rw [if_neg b96, if_neg b97, if_neg b98, if_neg b99, if_neg b100, if_neg b101, if_neg b102, if_pos b103])
                      ·
                        refine Go.iconst C (1 : Int32) at_294 (q := 295) rfl rfl ?_
                        refine Go.goto C at_295 (q := 299) (by decide) (by decide) ?_
                        exact J95 _ (by rw [if_neg b96, if_neg b97, if_neg b98, if_neg b99, if_neg b100, if_neg b101, if_neg b102, if_neg b103])
      intro v94 hv94
      exact Go.retZ (t := .boolean) (by simp) C at_299 (by decide) (by decide) (congrArg (fun z => some (Value.int z)) (fin1 p0 p1 p2 p3 v1 hv1  hv2  w0  w1 v53 hv53 v94 hv94))
    ·
      refine Go.istore C at_18 (q := 20) rfl (fun z => #[.val (.int p0), .val (.int p1), .val (.int p2), .val (.int p3), .val (.int v1), .val (.int (0 : Int32)), .val (.int z), .unset, .unset, .unset]) (fun _ => rfl) ?_
      intro v104 hv104
      refine Go.bipush C (8 : Int32) at_20 (q := 22) rfl rfl ?_
      refine Go.newP C (hw _ (List.mem_of_getElem? (i := 1) rfl)) (by decide) (cap := 8) (by decide) (by decide) at_22 (q := 24) rfl (k' := 1) rfl (n' := 8) rfl (by decide) (by decide) ?_
      intro h105 a106 cA107 g108 E109 Fn110
      have g112 : n0 ≤ a106 := g108 ▸ Z0
      have F111 : Av Z h105 a106 .byte 8 (iF (fun _ => (0 : Int32))) := Av.of Fn110
      refine Go.astore C at_24 (q := 26) rfl (l' := #[.val (.int p0), .val (.int p1), .val (.int p2), .val (.int p3), .val (.int v1), .val (.int (0 : Int32)), .val (.int v104), .val (.ref a106), .unset, .unset]) rfl rfl ?_
      refine Go.aload C at_26 (q := 28) rfl rfl rfl ?_
      refine Go.iconst C (0 : Int32) at_28 (q := 29) rfl rfl ?_
      refine Go.iload C at_29 (q := 31) rfl rfl ?_
      refine Go.bastore C F111 0 (by decide) (by decide) (by decide) g112 at_31 (q := 32) rfl ?_
      intro h113 W114
      have F115 := F111.sameI W114
      refine Go.aload C at_32 (q := 34) rfl rfl rfl ?_
      refine Go.iconst C (1 : Int32) at_34 (q := 35) rfl rfl ?_
      refine Go.iload C at_35 (q := 37) rfl rfl ?_
      refine Go.bastore C F115 1 (by decide) (by decide) (by decide) g112 at_37 (q := 38) rfl ?_
      intro h116 W117
      have F118 := F115.sameI W117
      refine Go.aload C at_38 (q := 40) rfl rfl rfl ?_
      refine Go.iconst C (2 : Int32) at_40 (q := 41) rfl rfl ?_
      refine Go.iload C at_41 (q := 43) rfl rfl ?_
      refine Go.bastore C F118 2 (by decide) (by decide) (by decide) g112 at_43 (q := 44) rfl ?_
      intro h119 W120
      have F121 := F118.sameI W120
      refine Go.aload C at_44 (q := 46) rfl rfl rfl ?_
      refine Go.iconst C (3 : Int32) at_46 (q := 47) rfl rfl ?_
      refine Go.iload C at_47 (q := 49) rfl rfl ?_
      refine Go.bastore C F121 3 (by decide) (by decide) (by decide) g112 at_49 (q := 50) rfl ?_
      intro h122 W123
      have F124 := F121.sameI W123
      refine Go.aload C at_50 (q := 52) rfl rfl rfl ?_
      refine Go.iconst C (4 : Int32) at_52 (q := 53) rfl rfl ?_
      refine Go.iload C at_53 (q := 55) rfl rfl ?_
      refine Go.bastore C F124 4 (by decide) (by decide) (by decide) g112 at_55 (q := 56) rfl ?_
      intro h125 W126
      have F127 := F124.sameI W126
      refine Go.aload C at_56 (q := 58) rfl rfl rfl ?_
      refine Go.iconst C (5 : Int32) at_58 (q := 59) rfl rfl ?_
      refine Go.iload C at_59 (q := 61) rfl rfl ?_
      refine Go.bastore C F127 5 (by decide) (by decide) (by decide) g112 at_61 (q := 62) rfl ?_
      intro h128 W129
      have F130 := F127.sameI W129
      refine Go.aload C at_62 (q := 64) rfl rfl rfl ?_
      refine Go.bipush C (6 : Int32) at_64 (q := 66) rfl rfl ?_
      refine Go.iload C at_66 (q := 68) rfl rfl ?_
      refine Go.bastore C F130 6 (by decide) (by decide) (by decide) g112 at_68 (q := 69) rfl ?_
      intro h131 W132
      have F133 := F130.sameI W132
      refine Go.aload C at_69 (q := 71) rfl rfl rfl ?_
      refine Go.bipush C (7 : Int32) at_71 (q := 73) rfl rfl ?_
      refine Go.iload C at_73 (q := 75) rfl rfl ?_
      refine Go.bastore C F133 7 (by decide) (by decide) (by decide) g112 at_75 (q := 76) rfl ?_
      intro h134 W135
      have F136 := F133.sameI W135
      refine Go.aload C at_76 (q := 78) rfl rfl rfl ?_
      refine Go.iload C at_78 (q := 80) rfl rfl ?_
      refine Go.iload C at_80 (q := 82) rfl rfl ?_
      have F137 := (Nat.le_trans (Nat.le_trans (Nat.le_trans (Nat.le_trans (Nat.le_trans (Nat.le_trans (Nat.le_trans (Nat.le_trans (Nat.le_trans Z0 E109.1) (Nat.le_of_eq W114.size.symm)) (Nat.le_of_eq W117.size.symm)) (Nat.le_of_eq W120.size.symm)) (Nat.le_of_eq W123.size.symm)) (Nat.le_of_eq W126.size.symm)) (Nat.le_of_eq W129.size.symm)) (Nat.le_of_eq W132.size.symm)) (Nat.le_of_eq W135.size.symm))
      refine Go.callS C (hw _ (List.mem_of_getElem? (i := 2) rfl)) (hw _ (List.mem_of_getElem? (i := 3) rfl)) (hw _ (List.mem_of_getElem? (i := 4) rfl)) (hw _ (List.mem_of_getElem? (i := 5) rfl)) (c_put0_3 W.l Z a0 hw a106 v1 h134 n0 (upd (upd (upd (upd (upd (upd (upd (upd (fun _ => (0 : Int32)) 0 (nar .byte v104)) 1 (nar .byte v104)) 2 (nar .byte v104)) 3 (nar .byte v104)) 4 (nar .byte v104)) 5 (nar .byte v104)) 6 (nar .byte v104)) 7 (nar .byte v104)) F137 F136 g112 w0 w1 w2) at_82 pd__40_91BII_41I (q := 85) rfl rfl (argsL := [(.ref a106), (.int (0 : Int32)), (.int v1)]) (st := []) rfl rfl (w := 0) rfl (by decide) (by decide) (k' := 1) rfl (n' := 8) rfl (by decide) (by decide) ?_
      intro v h138 q
      obtain ⟨rfl, K139, F140⟩ := q
      show Go W n0 QL h138 1 8 85 #[.val (.int p0), .val (.int p1), .val (.int p2), .val (.int p3), .val (.int v1), .val (.int (0 : Int32)), .val (.int v104), .val (.ref a106), .unset, .unset] [(.int (3 : Int32))]
      refine Go.istoreR C at_85 (q := 87) rfl (l' := #[.val (.int p0), .val (.int p1), .val (.int p2), .val (.int p3), .val (.int v1), .val (.int (0 : Int32)), .val (.int v104), .val (.ref a106), .val (.int (3 : Int32)), .unset]) rfl ?_
      refine Go.iload C at_87 (q := 89) rfl rfl ?_
      refine Go.sipush C (128 : Int32) at_89 (q := 92) rfl rfl ?_
      refine Go.icmp C at_92 (n_ge _ _) (qt := 101) (q := 95) (by decide) (by decide) rfl (fun _ => ?_) (fun b141 => absurd t0 b141)
      refine Go.iload C at_101 (q := 103) rfl rfl ?_
      refine Go.sipush C (16384 : Int32) at_103 (q := 106) rfl rfl ?_
      refine Go.icmp C at_106 (n_ge _ _) (qt := 115) (q := 109) (by decide) (by decide) rfl (fun _ => ?_) (fun b142 => absurd t1 b142)
      refine Go.iload C at_115 (q := 117) rfl rfl ?_
      refine Go.ldcI C (hw _ (List.mem_of_getElem? (i := 10) rfl)) at_117 (q := 119) rfl ?_
      refine Go.icmp C at_119 (n_ge _ _) (qt := 128) (q := 122) (by decide) (by decide) rfl (fun b143 => absurd t2 b143) (fun _ => ?_)
      refine Go.iconst C (3 : Int32) at_122 (q := 123) rfl rfl ?_
      refine Go.istoreR C at_123 (q := 125) rfl (l' := #[.val (.int p0), .val (.int p1), .val (.int p2), .val (.int p3), .val (.int v1), .val (.int (0 : Int32)), .val (.int v104), .val (.ref a106), .val (.int (3 : Int32)), .val (.int (3 : Int32))]) rfl ?_
      refine Go.goto C at_125 (q := 144) (by decide) (by decide) ?_
      refine Go.iload C at_144 (q := 146) rfl rfl ?_
      refine Go.iload C at_146 (q := 148) rfl rfl ?_
      refine Go.iload C at_148 (q := 150) rfl rfl ?_
      refine Go.iadd C at_150 (q := 151) rfl ?_
      refine Go.icmp C at_151 (n_eq _ _) (qt := 156) (q := 154) (by decide) (by decide) rfl (fun _ => ?_) (fun b144 => absurd b144 (by decide))
      refine Go.aload C at_156 (q := 158) rfl rfl rfl ?_
      refine Go.iconst C (0 : Int32) at_158 (q := 159) rfl rfl ?_
      refine Go.iload C at_159 (q := 161) rfl rfl ?_
      refine Go.iload C at_161 (q := 163) rfl rfl ?_
      refine Go.iload C at_163 (q := 165) rfl rfl ?_
      refine Go.iload C at_165 (q := 167) rfl rfl ?_
      have F145 := (Nat.le_trans F137 K139.1)
      refine Go.pureS C (hw _ (List.mem_of_getElem? (i := 6) rfl)) (hw _ (List.mem_of_getElem? (i := 7) rfl)) (hw _ (List.mem_of_getElem? (i := 8) rfl)) (hw _ (List.mem_of_getElem? (i := 9) rfl)) (c_f_ok W.l Z a0 hw a106 (0 : Int32) (0 : Int32) (3 : Int32) v1 v104 h138 n0 (upd (upd (upd (upd (upd (upd (upd (upd (upd (upd (upd (fun _ => (0 : Int32)) 0 (nar .byte v104)) 1 (nar .byte v104)) 2 (nar .byte v104)) 3 (nar .byte v104)) 4 (nar .byte v104)) 5 (nar .byte v104)) 6 (nar .byte v104)) 7 (nar .byte v104)) 0 (nar .byte (v1 ||| (128 : Int32)).toInt8.toInt32)) 1 (nar .byte (((v1.toUInt32 >>> ((7 : Int32) &&& 31).toUInt32).toInt32) ||| (128 : Int32)).toInt8.toInt32)) 2 (nar .byte ((((v1.toUInt32 >>> ((7 : Int32) &&& 31).toUInt32).toInt32).toUInt32 >>> ((7 : Int32) &&& 31).toUInt32).toInt32).toInt8.toInt32)) F145 F140 (by decide)) at_167 pd__40_91BIIIIB_41Z (q := 170) rfl rfl (argsL := [(.ref a106), (.int (0 : Int32)), (.int (0 : Int32)), (.int (3 : Int32)), (.int v1), (.int v104)]) (st := []) rfl rfl (w := 0) rfl (by decide) (by decide) (by decide) (by decide) (res := .int (f_ok (nar .byte (v1 ||| (128 : Int32)).toInt8.toInt32) (0 : Int32) (0 : Int32) (3 : Int32) v1 v104)) ?_
      suffices J147 : ∀ v146 : Int32, v146 = (if (f_ok (nar .byte (v1 ||| (128 : Int32)).toInt8.toInt32) (0 : Int32) (0 : Int32) (3 : Int32) v1 v104) = (0 : Int32) then (0 : Int32) else (if (f_ok (nar .byte (((v1.toUInt32 >>> ((7 : Int32) &&& 31).toUInt32).toInt32) ||| (128 : Int32)).toInt8.toInt32) (1 : Int32) (0 : Int32) (3 : Int32) v1 v104) = (0 : Int32) then (0 : Int32) else (if (f_ok (nar .byte ((((v1.toUInt32 >>> ((7 : Int32) &&& 31).toUInt32).toInt32).toUInt32 >>> ((7 : Int32) &&& 31).toUInt32).toInt32).toInt8.toInt32) (2 : Int32) (0 : Int32) (3 : Int32) v1 v104) = (0 : Int32) then (0 : Int32) else (if (f_ok (nar .byte v104) (3 : Int32) (0 : Int32) (3 : Int32) v1 v104) = (0 : Int32) then (0 : Int32) else (if (f_ok (nar .byte v104) (4 : Int32) (0 : Int32) (3 : Int32) v1 v104) = (0 : Int32) then (0 : Int32) else (if (f_ok (nar .byte v104) (5 : Int32) (0 : Int32) (3 : Int32) v1 v104) = (0 : Int32) then (0 : Int32) else (if (f_ok (nar .byte v104) (6 : Int32) (0 : Int32) (3 : Int32) v1 v104) = (0 : Int32) then (0 : Int32) else (if (f_ok (nar .byte v104) (7 : Int32) (0 : Int32) (3 : Int32) v1 v104) = (0 : Int32) then (0 : Int32) else (1 : Int32))))))))) → Go W n0 QL h138 1 8 299 #[.val (.int p0), .val (.int p1), .val (.int p2), .val (.int p3), .val (.int v1), .val (.int (0 : Int32)), .val (.int v104), .val (.ref a106), .val (.int (3 : Int32)), .val (.int (3 : Int32))] [(.int v146)] by
        refine Go.if0 C at_170 (z_eq _) (qt := 298) (q := 173) (by decide) (by decide) rfl (fun b148 => ?_) (fun b148 => ?_)
        ·
          refine Go.iconst C (0 : Int32) at_298 (q := 299) rfl rfl ?_
          exact J147 _ (by rw [if_pos b148])
        ·
          refine Go.aload C at_173 (q := 175) rfl rfl rfl ?_
          refine Go.iconst C (1 : Int32) at_175 (q := 176) rfl rfl ?_
          refine Go.iload C at_176 (q := 178) rfl rfl ?_
          refine Go.iload C at_178 (q := 180) rfl rfl ?_
          refine Go.iload C at_180 (q := 182) rfl rfl ?_
          refine Go.iload C at_182 (q := 184) rfl rfl ?_
          refine Go.pureS C (hw _ (List.mem_of_getElem? (i := 6) rfl)) (hw _ (List.mem_of_getElem? (i := 7) rfl)) (hw _ (List.mem_of_getElem? (i := 8) rfl)) (hw _ (List.mem_of_getElem? (i := 9) rfl)) (c_f_ok W.l Z a0 hw a106 (1 : Int32) (0 : Int32) (3 : Int32) v1 v104 h138 n0 (upd (upd (upd (upd (upd (upd (upd (upd (upd (upd (upd (fun _ => (0 : Int32)) 0 (nar .byte v104)) 1 (nar .byte v104)) 2 (nar .byte v104)) 3 (nar .byte v104)) 4 (nar .byte v104)) 5 (nar .byte v104)) 6 (nar .byte v104)) 7 (nar .byte v104)) 0 (nar .byte (v1 ||| (128 : Int32)).toInt8.toInt32)) 1 (nar .byte (((v1.toUInt32 >>> ((7 : Int32) &&& 31).toUInt32).toInt32) ||| (128 : Int32)).toInt8.toInt32)) 2 (nar .byte ((((v1.toUInt32 >>> ((7 : Int32) &&& 31).toUInt32).toInt32).toUInt32 >>> ((7 : Int32) &&& 31).toUInt32).toInt32).toInt8.toInt32)) F145 F140 (by decide)) at_184 pd__40_91BIIIIB_41Z (q := 187) rfl rfl (argsL := [(.ref a106), (.int (1 : Int32)), (.int (0 : Int32)), (.int (3 : Int32)), (.int v1), (.int v104)]) (st := []) rfl rfl (w := 0) rfl (by decide) (by decide) (by decide) (by decide) (res := .int (f_ok (nar .byte (((v1.toUInt32 >>> ((7 : Int32) &&& 31).toUInt32).toInt32) ||| (128 : Int32)).toInt8.toInt32) (1 : Int32) (0 : Int32) (3 : Int32) v1 v104)) ?_
          refine Go.if0 C at_187 (z_eq _) (qt := 298) (q := 190) (by decide) (by decide) rfl (fun b149 => ?_) (fun b149 => ?_)
          ·
            refine Go.iconst C (0 : Int32) at_298 (q := 299) rfl rfl ?_
            exact J147 _ (by rw [if_neg b148, if_pos b149])
          ·
            refine Go.aload C at_190 (q := 192) rfl rfl rfl ?_
            refine Go.iconst C (2 : Int32) at_192 (q := 193) rfl rfl ?_
            refine Go.iload C at_193 (q := 195) rfl rfl ?_
            refine Go.iload C at_195 (q := 197) rfl rfl ?_
            refine Go.iload C at_197 (q := 199) rfl rfl ?_
            refine Go.iload C at_199 (q := 201) rfl rfl ?_
            refine Go.pureS C (hw _ (List.mem_of_getElem? (i := 6) rfl)) (hw _ (List.mem_of_getElem? (i := 7) rfl)) (hw _ (List.mem_of_getElem? (i := 8) rfl)) (hw _ (List.mem_of_getElem? (i := 9) rfl)) (c_f_ok W.l Z a0 hw a106 (2 : Int32) (0 : Int32) (3 : Int32) v1 v104 h138 n0 (upd (upd (upd (upd (upd (upd (upd (upd (upd (upd (upd (fun _ => (0 : Int32)) 0 (nar .byte v104)) 1 (nar .byte v104)) 2 (nar .byte v104)) 3 (nar .byte v104)) 4 (nar .byte v104)) 5 (nar .byte v104)) 6 (nar .byte v104)) 7 (nar .byte v104)) 0 (nar .byte (v1 ||| (128 : Int32)).toInt8.toInt32)) 1 (nar .byte (((v1.toUInt32 >>> ((7 : Int32) &&& 31).toUInt32).toInt32) ||| (128 : Int32)).toInt8.toInt32)) 2 (nar .byte ((((v1.toUInt32 >>> ((7 : Int32) &&& 31).toUInt32).toInt32).toUInt32 >>> ((7 : Int32) &&& 31).toUInt32).toInt32).toInt8.toInt32)) F145 F140 (by decide)) at_201 pd__40_91BIIIIB_41Z (q := 204) rfl rfl (argsL := [(.ref a106), (.int (2 : Int32)), (.int (0 : Int32)), (.int (3 : Int32)), (.int v1), (.int v104)]) (st := []) rfl rfl (w := 0) rfl (by decide) (by decide) (by decide) (by decide) (res := .int (f_ok (nar .byte ((((v1.toUInt32 >>> ((7 : Int32) &&& 31).toUInt32).toInt32).toUInt32 >>> ((7 : Int32) &&& 31).toUInt32).toInt32).toInt8.toInt32) (2 : Int32) (0 : Int32) (3 : Int32) v1 v104)) ?_
            refine Go.if0 C at_204 (z_eq _) (qt := 298) (q := 207) (by decide) (by decide) rfl (fun b150 => ?_) (fun b150 => ?_)
            ·
              refine Go.iconst C (0 : Int32) at_298 (q := 299) rfl rfl ?_
              exact J147 _ (by rw [if_neg b148, if_neg b149, if_pos b150])
            ·
              refine Go.aload C at_207 (q := 209) rfl rfl rfl ?_
              refine Go.iconst C (3 : Int32) at_209 (q := 210) rfl rfl ?_
              refine Go.iload C at_210 (q := 212) rfl rfl ?_
              refine Go.iload C at_212 (q := 214) rfl rfl ?_
              refine Go.iload C at_214 (q := 216) rfl rfl ?_
              refine Go.iload C at_216 (q := 218) rfl rfl ?_
              refine Go.pureS C (hw _ (List.mem_of_getElem? (i := 6) rfl)) (hw _ (List.mem_of_getElem? (i := 7) rfl)) (hw _ (List.mem_of_getElem? (i := 8) rfl)) (hw _ (List.mem_of_getElem? (i := 9) rfl)) (c_f_ok W.l Z a0 hw a106 (3 : Int32) (0 : Int32) (3 : Int32) v1 v104 h138 n0 (upd (upd (upd (upd (upd (upd (upd (upd (upd (upd (upd (fun _ => (0 : Int32)) 0 (nar .byte v104)) 1 (nar .byte v104)) 2 (nar .byte v104)) 3 (nar .byte v104)) 4 (nar .byte v104)) 5 (nar .byte v104)) 6 (nar .byte v104)) 7 (nar .byte v104)) 0 (nar .byte (v1 ||| (128 : Int32)).toInt8.toInt32)) 1 (nar .byte (((v1.toUInt32 >>> ((7 : Int32) &&& 31).toUInt32).toInt32) ||| (128 : Int32)).toInt8.toInt32)) 2 (nar .byte ((((v1.toUInt32 >>> ((7 : Int32) &&& 31).toUInt32).toInt32).toUInt32 >>> ((7 : Int32) &&& 31).toUInt32).toInt32).toInt8.toInt32)) F145 F140 (by decide)) at_218 pd__40_91BIIIIB_41Z (q := 221) rfl rfl (argsL := [(.ref a106), (.int (3 : Int32)), (.int (0 : Int32)), (.int (3 : Int32)), (.int v1), (.int v104)]) (st := []) rfl rfl (w := 0) rfl (by decide) (by decide) (by decide) (by decide) (res := .int (f_ok (nar .byte v104) (3 : Int32) (0 : Int32) (3 : Int32) v1 v104)) ?_
              refine Go.if0 C at_221 (z_eq _) (qt := 298) (q := 224) (by decide) (by decide) rfl (fun b151 => ?_) (fun b151 => ?_)
              ·
                refine Go.iconst C (0 : Int32) at_298 (q := 299) rfl rfl ?_
                exact J147 _ (by rw [if_neg b148, if_neg b149, if_neg b150, if_pos b151])
              ·
                refine Go.aload C at_224 (q := 226) rfl rfl rfl ?_
                refine Go.iconst C (4 : Int32) at_226 (q := 227) rfl rfl ?_
                refine Go.iload C at_227 (q := 229) rfl rfl ?_
                refine Go.iload C at_229 (q := 231) rfl rfl ?_
                refine Go.iload C at_231 (q := 233) rfl rfl ?_
                refine Go.iload C at_233 (q := 235) rfl rfl ?_
                refine Go.pureS C (hw _ (List.mem_of_getElem? (i := 6) rfl)) (hw _ (List.mem_of_getElem? (i := 7) rfl)) (hw _ (List.mem_of_getElem? (i := 8) rfl)) (hw _ (List.mem_of_getElem? (i := 9) rfl)) (c_f_ok W.l Z a0 hw a106 (4 : Int32) (0 : Int32) (3 : Int32) v1 v104 h138 n0 (upd (upd (upd (upd (upd (upd (upd (upd (upd (upd (upd (fun _ => (0 : Int32)) 0 (nar .byte v104)) 1 (nar .byte v104)) 2 (nar .byte v104)) 3 (nar .byte v104)) 4 (nar .byte v104)) 5 (nar .byte v104)) 6 (nar .byte v104)) 7 (nar .byte v104)) 0 (nar .byte (v1 ||| (128 : Int32)).toInt8.toInt32)) 1 (nar .byte (((v1.toUInt32 >>> ((7 : Int32) &&& 31).toUInt32).toInt32) ||| (128 : Int32)).toInt8.toInt32)) 2 (nar .byte ((((v1.toUInt32 >>> ((7 : Int32) &&& 31).toUInt32).toInt32).toUInt32 >>> ((7 : Int32) &&& 31).toUInt32).toInt32).toInt8.toInt32)) F145 F140 (by decide)) at_235 pd__40_91BIIIIB_41Z (q := 238) rfl rfl (argsL := [(.ref a106), (.int (4 : Int32)), (.int (0 : Int32)), (.int (3 : Int32)), (.int v1), (.int v104)]) (st := []) rfl rfl (w := 0) rfl (by decide) (by decide) (by decide) (by decide) (res := .int (f_ok (nar .byte v104) (4 : Int32) (0 : Int32) (3 : Int32) v1 v104)) ?_
                refine Go.if0 C at_238 (z_eq _) (qt := 298) (q := 241) (by decide) (by decide) rfl (fun b152 => ?_) (fun b152 => ?_)
                ·
                  refine Go.iconst C (0 : Int32) at_298 (q := 299) rfl rfl ?_
                  exact J147 _ (by rw [if_neg b148, if_neg b149, if_neg b150, if_neg b151, if_pos b152])
                ·
                  refine Go.aload C at_241 (q := 243) rfl rfl rfl ?_
                  refine Go.iconst C (5 : Int32) at_243 (q := 244) rfl rfl ?_
                  refine Go.iload C at_244 (q := 246) rfl rfl ?_
                  refine Go.iload C at_246 (q := 248) rfl rfl ?_
                  refine Go.iload C at_248 (q := 250) rfl rfl ?_
                  refine Go.iload C at_250 (q := 252) rfl rfl ?_
                  refine Go.pureS C (hw _ (List.mem_of_getElem? (i := 6) rfl)) (hw _ (List.mem_of_getElem? (i := 7) rfl)) (hw _ (List.mem_of_getElem? (i := 8) rfl)) (hw _ (List.mem_of_getElem? (i := 9) rfl)) (c_f_ok W.l Z a0 hw a106 (5 : Int32) (0 : Int32) (3 : Int32) v1 v104 h138 n0 (upd (upd (upd (upd (upd (upd (upd (upd (upd (upd (upd (fun _ => (0 : Int32)) 0 (nar .byte v104)) 1 (nar .byte v104)) 2 (nar .byte v104)) 3 (nar .byte v104)) 4 (nar .byte v104)) 5 (nar .byte v104)) 6 (nar .byte v104)) 7 (nar .byte v104)) 0 (nar .byte (v1 ||| (128 : Int32)).toInt8.toInt32)) 1 (nar .byte (((v1.toUInt32 >>> ((7 : Int32) &&& 31).toUInt32).toInt32) ||| (128 : Int32)).toInt8.toInt32)) 2 (nar .byte ((((v1.toUInt32 >>> ((7 : Int32) &&& 31).toUInt32).toInt32).toUInt32 >>> ((7 : Int32) &&& 31).toUInt32).toInt32).toInt8.toInt32)) F145 F140 (by decide)) at_252 pd__40_91BIIIIB_41Z (q := 255) rfl rfl (argsL := [(.ref a106), (.int (5 : Int32)), (.int (0 : Int32)), (.int (3 : Int32)), (.int v1), (.int v104)]) (st := []) rfl rfl (w := 0) rfl (by decide) (by decide) (by decide) (by decide) (res := .int (f_ok (nar .byte v104) (5 : Int32) (0 : Int32) (3 : Int32) v1 v104)) ?_
                  refine Go.if0 C at_255 (z_eq _) (qt := 298) (q := 258) (by decide) (by decide) rfl (fun b153 => ?_) (fun b153 => ?_)
                  ·
                    refine Go.iconst C (0 : Int32) at_298 (q := 299) rfl rfl ?_
                    exact J147 _ (by rw [if_neg b148, if_neg b149, if_neg b150, if_neg b151, if_neg b152, if_pos b153])
                  ·
                    refine Go.aload C at_258 (q := 260) rfl rfl rfl ?_
                    refine Go.bipush C (6 : Int32) at_260 (q := 262) rfl rfl ?_
                    refine Go.iload C at_262 (q := 264) rfl rfl ?_
                    refine Go.iload C at_264 (q := 266) rfl rfl ?_
                    refine Go.iload C at_266 (q := 268) rfl rfl ?_
                    refine Go.iload C at_268 (q := 270) rfl rfl ?_
                    refine Go.pureS C (hw _ (List.mem_of_getElem? (i := 6) rfl)) (hw _ (List.mem_of_getElem? (i := 7) rfl)) (hw _ (List.mem_of_getElem? (i := 8) rfl)) (hw _ (List.mem_of_getElem? (i := 9) rfl)) (c_f_ok W.l Z a0 hw a106 (6 : Int32) (0 : Int32) (3 : Int32) v1 v104 h138 n0 (upd (upd (upd (upd (upd (upd (upd (upd (upd (upd (upd (fun _ => (0 : Int32)) 0 (nar .byte v104)) 1 (nar .byte v104)) 2 (nar .byte v104)) 3 (nar .byte v104)) 4 (nar .byte v104)) 5 (nar .byte v104)) 6 (nar .byte v104)) 7 (nar .byte v104)) 0 (nar .byte (v1 ||| (128 : Int32)).toInt8.toInt32)) 1 (nar .byte (((v1.toUInt32 >>> ((7 : Int32) &&& 31).toUInt32).toInt32) ||| (128 : Int32)).toInt8.toInt32)) 2 (nar .byte ((((v1.toUInt32 >>> ((7 : Int32) &&& 31).toUInt32).toInt32).toUInt32 >>> ((7 : Int32) &&& 31).toUInt32).toInt32).toInt8.toInt32)) F145 F140 (by decide)) at_270 pd__40_91BIIIIB_41Z (q := 273) rfl rfl (argsL := [(.ref a106), (.int (6 : Int32)), (.int (0 : Int32)), (.int (3 : Int32)), (.int v1), (.int v104)]) (st := []) rfl rfl (w := 0) rfl (by decide) (by decide) (by decide) (by decide) (res := .int (f_ok (nar .byte v104) (6 : Int32) (0 : Int32) (3 : Int32) v1 v104)) ?_
                    refine Go.if0 C at_273 (z_eq _) (qt := 298) (q := 276) (by decide) (by decide) rfl (fun b154 => ?_) (fun b154 => ?_)
                    ·
                      refine Go.iconst C (0 : Int32) at_298 (q := 299) rfl rfl ?_
                      exact J147 _ (by rw [if_neg b148, if_neg b149, if_neg b150, if_neg b151, if_neg b152, if_neg b153, if_pos b154])
                    ·
                      refine Go.aload C at_276 (q := 278) rfl rfl rfl ?_
                      refine Go.bipush C (7 : Int32) at_278 (q := 280) rfl rfl ?_
                      refine Go.iload C at_280 (q := 282) rfl rfl ?_
                      refine Go.iload C at_282 (q := 284) rfl rfl ?_
                      refine Go.iload C at_284 (q := 286) rfl rfl ?_
                      refine Go.iload C at_286 (q := 288) rfl rfl ?_
                      refine Go.pureS C (hw _ (List.mem_of_getElem? (i := 6) rfl)) (hw _ (List.mem_of_getElem? (i := 7) rfl)) (hw _ (List.mem_of_getElem? (i := 8) rfl)) (hw _ (List.mem_of_getElem? (i := 9) rfl)) (c_f_ok W.l Z a0 hw a106 (7 : Int32) (0 : Int32) (3 : Int32) v1 v104 h138 n0 (upd (upd (upd (upd (upd (upd (upd (upd (upd (upd (upd (fun _ => (0 : Int32)) 0 (nar .byte v104)) 1 (nar .byte v104)) 2 (nar .byte v104)) 3 (nar .byte v104)) 4 (nar .byte v104)) 5 (nar .byte v104)) 6 (nar .byte v104)) 7 (nar .byte v104)) 0 (nar .byte (v1 ||| (128 : Int32)).toInt8.toInt32)) 1 (nar .byte (((v1.toUInt32 >>> ((7 : Int32) &&& 31).toUInt32).toInt32) ||| (128 : Int32)).toInt8.toInt32)) 2 (nar .byte ((((v1.toUInt32 >>> ((7 : Int32) &&& 31).toUInt32).toInt32).toUInt32 >>> ((7 : Int32) &&& 31).toUInt32).toInt32).toInt8.toInt32)) F145 F140 (by decide)) at_288 pd__40_91BIIIIB_41Z (q := 291) rfl rfl (argsL := [(.ref a106), (.int (7 : Int32)), (.int (0 : Int32)), (.int (3 : Int32)), (.int v1), (.int v104)]) (st := []) rfl rfl (w := 0) rfl (by decide) (by decide) (by decide) (by decide) (res := .int (f_ok (nar .byte v104) (7 : Int32) (0 : Int32) (3 : Int32) v1 v104)) ?_
                      refine Go.if0 C at_291 (z_eq _) (qt := 298) (q := 294) (by decide) (by decide) rfl (fun b155 => ?_) (fun b155 => ?_)
                      ·
                        refine Go.iconst C (0 : Int32) at_298 (q := 299) rfl rfl ?_
                        exact J147 _ (by rw [if_neg b148, if_neg b149, if_neg b150, if_neg b151, if_neg b152, if_neg b153, if_neg b154, if_pos b155])
                      ·
                        refine Go.iconst C (1 : Int32) at_294 (q := 295) rfl rfl ?_
                        refine Go.goto C at_295 (q := 299) (by decide) (by decide) ?_
                        exact J147 _ (by rw [if_neg b148, if_neg b149, if_neg b150, if_neg b151, if_neg b152, if_neg b153, if_neg b154, if_neg b155])
      intro v146 hv146
      exact Go.retZ (t := .boolean) (by simp) C at_299 (by decide) (by decide) (congrArg (fun z => some (Value.int z)) (fin2 p0 p1 p2 p3 v1 hv1  hv2  w0  w1  w2 v104 hv104 v146 hv146))
    ·
      refine Go.istore C at_18 (q := 20) rfl (fun z => #[.val (.int p0), .val (.int p1), .val (.int p2), .val (.int p3), .val (.int v1), .val (.int (0 : Int32)), .val (.int z), .unset, .unset, .unset]) (fun _ => rfl) ?_
      intro v156 hv156
      refine Go.bipush C (8 : Int32) at_20 (q := 22) rfl rfl ?_
      refine Go.newP C (hw _ (List.mem_of_getElem? (i := 1) rfl)) (by decide) (cap := 8) (by decide) (by decide) at_22 (q := 24) rfl (k' := 1) rfl (n' := 8) rfl (by decide) (by decide) ?_
      intro h157 a158 cA159 g160 E161 Fn162
      have g164 : n0 ≤ a158 := g160 ▸ Z0
      have F163 : Av Z h157 a158 .byte 8 (iF (fun _ => (0 : Int32))) := Av.of Fn162
      refine Go.astore C at_24 (q := 26) rfl (l' := #[.val (.int p0), .val (.int p1), .val (.int p2), .val (.int p3), .val (.int v1), .val (.int (0 : Int32)), .val (.int v156), .val (.ref a158), .unset, .unset]) rfl rfl ?_
      refine Go.aload C at_26 (q := 28) rfl rfl rfl ?_
      refine Go.iconst C (0 : Int32) at_28 (q := 29) rfl rfl ?_
      refine Go.iload C at_29 (q := 31) rfl rfl ?_
      refine Go.bastore C F163 0 (by decide) (by decide) (by decide) g164 at_31 (q := 32) rfl ?_
      intro h165 W166
      have F167 := F163.sameI W166
      refine Go.aload C at_32 (q := 34) rfl rfl rfl ?_
      refine Go.iconst C (1 : Int32) at_34 (q := 35) rfl rfl ?_
      refine Go.iload C at_35 (q := 37) rfl rfl ?_
      refine Go.bastore C F167 1 (by decide) (by decide) (by decide) g164 at_37 (q := 38) rfl ?_
      intro h168 W169
      have F170 := F167.sameI W169
      refine Go.aload C at_38 (q := 40) rfl rfl rfl ?_
      refine Go.iconst C (2 : Int32) at_40 (q := 41) rfl rfl ?_
      refine Go.iload C at_41 (q := 43) rfl rfl ?_
      refine Go.bastore C F170 2 (by decide) (by decide) (by decide) g164 at_43 (q := 44) rfl ?_
      intro h171 W172
      have F173 := F170.sameI W172
      refine Go.aload C at_44 (q := 46) rfl rfl rfl ?_
      refine Go.iconst C (3 : Int32) at_46 (q := 47) rfl rfl ?_
      refine Go.iload C at_47 (q := 49) rfl rfl ?_
      refine Go.bastore C F173 3 (by decide) (by decide) (by decide) g164 at_49 (q := 50) rfl ?_
      intro h174 W175
      have F176 := F173.sameI W175
      refine Go.aload C at_50 (q := 52) rfl rfl rfl ?_
      refine Go.iconst C (4 : Int32) at_52 (q := 53) rfl rfl ?_
      refine Go.iload C at_53 (q := 55) rfl rfl ?_
      refine Go.bastore C F176 4 (by decide) (by decide) (by decide) g164 at_55 (q := 56) rfl ?_
      intro h177 W178
      have F179 := F176.sameI W178
      refine Go.aload C at_56 (q := 58) rfl rfl rfl ?_
      refine Go.iconst C (5 : Int32) at_58 (q := 59) rfl rfl ?_
      refine Go.iload C at_59 (q := 61) rfl rfl ?_
      refine Go.bastore C F179 5 (by decide) (by decide) (by decide) g164 at_61 (q := 62) rfl ?_
      intro h180 W181
      have F182 := F179.sameI W181
      refine Go.aload C at_62 (q := 64) rfl rfl rfl ?_
      refine Go.bipush C (6 : Int32) at_64 (q := 66) rfl rfl ?_
      refine Go.iload C at_66 (q := 68) rfl rfl ?_
      refine Go.bastore C F182 6 (by decide) (by decide) (by decide) g164 at_68 (q := 69) rfl ?_
      intro h183 W184
      have F185 := F182.sameI W184
      refine Go.aload C at_69 (q := 71) rfl rfl rfl ?_
      refine Go.bipush C (7 : Int32) at_71 (q := 73) rfl rfl ?_
      refine Go.iload C at_73 (q := 75) rfl rfl ?_
      refine Go.bastore C F185 7 (by decide) (by decide) (by decide) g164 at_75 (q := 76) rfl ?_
      intro h186 W187
      have F188 := F185.sameI W187
      refine Go.aload C at_76 (q := 78) rfl rfl rfl ?_
      refine Go.iload C at_78 (q := 80) rfl rfl ?_
      refine Go.iload C at_80 (q := 82) rfl rfl ?_
      have F189 := (Nat.le_trans (Nat.le_trans (Nat.le_trans (Nat.le_trans (Nat.le_trans (Nat.le_trans (Nat.le_trans (Nat.le_trans (Nat.le_trans Z0 E161.1) (Nat.le_of_eq W166.size.symm)) (Nat.le_of_eq W169.size.symm)) (Nat.le_of_eq W172.size.symm)) (Nat.le_of_eq W175.size.symm)) (Nat.le_of_eq W178.size.symm)) (Nat.le_of_eq W181.size.symm)) (Nat.le_of_eq W184.size.symm)) (Nat.le_of_eq W187.size.symm))
      refine Go.callS C (hw _ (List.mem_of_getElem? (i := 2) rfl)) (hw _ (List.mem_of_getElem? (i := 3) rfl)) (hw _ (List.mem_of_getElem? (i := 4) rfl)) (hw _ (List.mem_of_getElem? (i := 5) rfl)) (c_put0_4 W.l Z a0 hw a158 v1 h186 n0 (upd (upd (upd (upd (upd (upd (upd (upd (fun _ => (0 : Int32)) 0 (nar .byte v156)) 1 (nar .byte v156)) 2 (nar .byte v156)) 3 (nar .byte v156)) 4 (nar .byte v156)) 5 (nar .byte v156)) 6 (nar .byte v156)) 7 (nar .byte v156)) F189 F188 g164 w0 w1 w2 w3) at_82 pd__40_91BII_41I (q := 85) rfl rfl (argsL := [(.ref a158), (.int (0 : Int32)), (.int v1)]) (st := []) rfl rfl (w := 0) rfl (by decide) (by decide) (k' := 1) rfl (n' := 8) rfl (by decide) (by decide) ?_
      intro v h190 q
      obtain ⟨rfl, K191, F192⟩ := q
      show Go W n0 QL h190 1 8 85 #[.val (.int p0), .val (.int p1), .val (.int p2), .val (.int p3), .val (.int v1), .val (.int (0 : Int32)), .val (.int v156), .val (.ref a158), .unset, .unset] [(.int (4 : Int32))]
      refine Go.istoreR C at_85 (q := 87) rfl (l' := #[.val (.int p0), .val (.int p1), .val (.int p2), .val (.int p3), .val (.int v1), .val (.int (0 : Int32)), .val (.int v156), .val (.ref a158), .val (.int (4 : Int32)), .unset]) rfl ?_
      refine Go.iload C at_87 (q := 89) rfl rfl ?_
      refine Go.sipush C (128 : Int32) at_89 (q := 92) rfl rfl ?_
      refine Go.icmp C at_92 (n_ge _ _) (qt := 101) (q := 95) (by decide) (by decide) rfl (fun _ => ?_) (fun b193 => absurd t0 b193)
      refine Go.iload C at_101 (q := 103) rfl rfl ?_
      refine Go.sipush C (16384 : Int32) at_103 (q := 106) rfl rfl ?_
      refine Go.icmp C at_106 (n_ge _ _) (qt := 115) (q := 109) (by decide) (by decide) rfl (fun _ => ?_) (fun b194 => absurd t1 b194)
      refine Go.iload C at_115 (q := 117) rfl rfl ?_
      refine Go.ldcI C (hw _ (List.mem_of_getElem? (i := 10) rfl)) at_117 (q := 119) rfl ?_
      refine Go.icmp C at_119 (n_ge _ _) (qt := 128) (q := 122) (by decide) (by decide) rfl (fun _ => ?_) (fun b195 => absurd t2 b195)
      refine Go.iload C at_128 (q := 130) rfl rfl ?_
      refine Go.ldcI C (hw _ (List.mem_of_getElem? (i := 11) rfl)) at_130 (q := 132) rfl ?_
      refine Go.icmp C at_132 (n_ge _ _) (qt := 141) (q := 135) (by decide) (by decide) rfl (fun b196 => absurd t3 b196) (fun _ => ?_)
      refine Go.iconst C (4 : Int32) at_135 (q := 136) rfl rfl ?_
      refine Go.istoreR C at_136 (q := 138) rfl (l' := #[.val (.int p0), .val (.int p1), .val (.int p2), .val (.int p3), .val (.int v1), .val (.int (0 : Int32)), .val (.int v156), .val (.ref a158), .val (.int (4 : Int32)), .val (.int (4 : Int32))]) rfl ?_
      refine Go.goto C at_138 (q := 144) (by decide) (by decide) ?_
      refine Go.iload C at_144 (q := 146) rfl rfl ?_
      refine Go.iload C at_146 (q := 148) rfl rfl ?_
      refine Go.iload C at_148 (q := 150) rfl rfl ?_
      refine Go.iadd C at_150 (q := 151) rfl ?_
      refine Go.icmp C at_151 (n_eq _ _) (qt := 156) (q := 154) (by decide) (by decide) rfl (fun _ => ?_) (fun b197 => absurd b197 (by decide))
      refine Go.aload C at_156 (q := 158) rfl rfl rfl ?_
      refine Go.iconst C (0 : Int32) at_158 (q := 159) rfl rfl ?_
      refine Go.iload C at_159 (q := 161) rfl rfl ?_
      refine Go.iload C at_161 (q := 163) rfl rfl ?_
      refine Go.iload C at_163 (q := 165) rfl rfl ?_
      refine Go.iload C at_165 (q := 167) rfl rfl ?_
      have F198 := (Nat.le_trans F189 K191.1)
      refine Go.pureS C (hw _ (List.mem_of_getElem? (i := 6) rfl)) (hw _ (List.mem_of_getElem? (i := 7) rfl)) (hw _ (List.mem_of_getElem? (i := 8) rfl)) (hw _ (List.mem_of_getElem? (i := 9) rfl)) (c_f_ok W.l Z a0 hw a158 (0 : Int32) (0 : Int32) (4 : Int32) v1 v156 h190 n0 (upd (upd (upd (upd (upd (upd (upd (upd (upd (upd (upd (upd (fun _ => (0 : Int32)) 0 (nar .byte v156)) 1 (nar .byte v156)) 2 (nar .byte v156)) 3 (nar .byte v156)) 4 (nar .byte v156)) 5 (nar .byte v156)) 6 (nar .byte v156)) 7 (nar .byte v156)) 0 (nar .byte (v1 ||| (128 : Int32)).toInt8.toInt32)) 1 (nar .byte (((v1.toUInt32 >>> ((7 : Int32) &&& 31).toUInt32).toInt32) ||| (128 : Int32)).toInt8.toInt32)) 2 (nar .byte (((((v1.toUInt32 >>> ((7 : Int32) &&& 31).toUInt32).toInt32).toUInt32 >>> ((7 : Int32) &&& 31).toUInt32).toInt32) ||| (128 : Int32)).toInt8.toInt32)) 3 (nar .byte ((((((v1.toUInt32 >>> ((7 : Int32) &&& 31).toUInt32).toInt32).toUInt32 >>> ((7 : Int32) &&& 31).toUInt32).toInt32).toUInt32 >>> ((7 : Int32) &&& 31).toUInt32).toInt32).toInt8.toInt32)) F198 F192 (by decide)) at_167 pd__40_91BIIIIB_41Z (q := 170) rfl rfl (argsL := [(.ref a158), (.int (0 : Int32)), (.int (0 : Int32)), (.int (4 : Int32)), (.int v1), (.int v156)]) (st := []) rfl rfl (w := 0) rfl (by decide) (by decide) (by decide) (by decide) (res := .int (f_ok (nar .byte (v1 ||| (128 : Int32)).toInt8.toInt32) (0 : Int32) (0 : Int32) (4 : Int32) v1 v156)) ?_
      suffices J200 : ∀ v199 : Int32, v199 = (if (f_ok (nar .byte (v1 ||| (128 : Int32)).toInt8.toInt32) (0 : Int32) (0 : Int32) (4 : Int32) v1 v156) = (0 : Int32) then (0 : Int32) else (if (f_ok (nar .byte (((v1.toUInt32 >>> ((7 : Int32) &&& 31).toUInt32).toInt32) ||| (128 : Int32)).toInt8.toInt32) (1 : Int32) (0 : Int32) (4 : Int32) v1 v156) = (0 : Int32) then (0 : Int32) else (if (f_ok (nar .byte (((((v1.toUInt32 >>> ((7 : Int32) &&& 31).toUInt32).toInt32).toUInt32 >>> ((7 : Int32) &&& 31).toUInt32).toInt32) ||| (128 : Int32)).toInt8.toInt32) (2 : Int32) (0 : Int32) (4 : Int32) v1 v156) = (0 : Int32) then (0 : Int32) else (if (f_ok (nar .byte ((((((v1.toUInt32 >>> ((7 : Int32) &&& 31).toUInt32).toInt32).toUInt32 >>> ((7 : Int32) &&& 31).toUInt32).toInt32).toUInt32 >>> ((7 : Int32) &&& 31).toUInt32).toInt32).toInt8.toInt32) (3 : Int32) (0 : Int32) (4 : Int32) v1 v156) = (0 : Int32) then (0 : Int32) else (if (f_ok (nar .byte v156) (4 : Int32) (0 : Int32) (4 : Int32) v1 v156) = (0 : Int32) then (0 : Int32) else (if (f_ok (nar .byte v156) (5 : Int32) (0 : Int32) (4 : Int32) v1 v156) = (0 : Int32) then (0 : Int32) else (if (f_ok (nar .byte v156) (6 : Int32) (0 : Int32) (4 : Int32) v1 v156) = (0 : Int32) then (0 : Int32) else (if (f_ok (nar .byte v156) (7 : Int32) (0 : Int32) (4 : Int32) v1 v156) = (0 : Int32) then (0 : Int32) else (1 : Int32))))))))) → Go W n0 QL h190 1 8 299 #[.val (.int p0), .val (.int p1), .val (.int p2), .val (.int p3), .val (.int v1), .val (.int (0 : Int32)), .val (.int v156), .val (.ref a158), .val (.int (4 : Int32)), .val (.int (4 : Int32))] [(.int v199)] by
        refine Go.if0 C at_170 (z_eq _) (qt := 298) (q := 173) (by decide) (by decide) rfl (fun b201 => ?_) (fun b201 => ?_)
        ·
          refine Go.iconst C (0 : Int32) at_298 (q := 299) rfl rfl ?_
          exact J200 _ (by rw [if_pos b201])
        ·
          refine Go.aload C at_173 (q := 175) rfl rfl rfl ?_
          refine Go.iconst C (1 : Int32) at_175 (q := 176) rfl rfl ?_
          refine Go.iload C at_176 (q := 178) rfl rfl ?_
          refine Go.iload C at_178 (q := 180) rfl rfl ?_
          refine Go.iload C at_180 (q := 182) rfl rfl ?_
          refine Go.iload C at_182 (q := 184) rfl rfl ?_
          refine Go.pureS C (hw _ (List.mem_of_getElem? (i := 6) rfl)) (hw _ (List.mem_of_getElem? (i := 7) rfl)) (hw _ (List.mem_of_getElem? (i := 8) rfl)) (hw _ (List.mem_of_getElem? (i := 9) rfl)) (c_f_ok W.l Z a0 hw a158 (1 : Int32) (0 : Int32) (4 : Int32) v1 v156 h190 n0 (upd (upd (upd (upd (upd (upd (upd (upd (upd (upd (upd (upd (fun _ => (0 : Int32)) 0 (nar .byte v156)) 1 (nar .byte v156)) 2 (nar .byte v156)) 3 (nar .byte v156)) 4 (nar .byte v156)) 5 (nar .byte v156)) 6 (nar .byte v156)) 7 (nar .byte v156)) 0 (nar .byte (v1 ||| (128 : Int32)).toInt8.toInt32)) 1 (nar .byte (((v1.toUInt32 >>> ((7 : Int32) &&& 31).toUInt32).toInt32) ||| (128 : Int32)).toInt8.toInt32)) 2 (nar .byte (((((v1.toUInt32 >>> ((7 : Int32) &&& 31).toUInt32).toInt32).toUInt32 >>> ((7 : Int32) &&& 31).toUInt32).toInt32) ||| (128 : Int32)).toInt8.toInt32)) 3 (nar .byte ((((((v1.toUInt32 >>> ((7 : Int32) &&& 31).toUInt32).toInt32).toUInt32 >>> ((7 : Int32) &&& 31).toUInt32).toInt32).toUInt32 >>> ((7 : Int32) &&& 31).toUInt32).toInt32).toInt8.toInt32)) F198 F192 (by decide)) at_184 pd__40_91BIIIIB_41Z (q := 187) rfl rfl (argsL := [(.ref a158), (.int (1 : Int32)), (.int (0 : Int32)), (.int (4 : Int32)), (.int v1), (.int v156)]) (st := []) rfl rfl (w := 0) rfl (by decide) (by decide) (by decide) (by decide) (res := .int (f_ok (nar .byte (((v1.toUInt32 >>> ((7 : Int32) &&& 31).toUInt32).toInt32) ||| (128 : Int32)).toInt8.toInt32) (1 : Int32) (0 : Int32) (4 : Int32) v1 v156)) ?_
          refine Go.if0 C at_187 (z_eq _) (qt := 298) (q := 190) (by decide) (by decide) rfl (fun b202 => ?_) (fun b202 => ?_)
          ·
            refine Go.iconst C (0 : Int32) at_298 (q := 299) rfl rfl ?_
            exact J200 _ (by rw [if_neg b201, if_pos b202])
          ·
            refine Go.aload C at_190 (q := 192) rfl rfl rfl ?_
            refine Go.iconst C (2 : Int32) at_192 (q := 193) rfl rfl ?_
            refine Go.iload C at_193 (q := 195) rfl rfl ?_
            refine Go.iload C at_195 (q := 197) rfl rfl ?_
            refine Go.iload C at_197 (q := 199) rfl rfl ?_
            refine Go.iload C at_199 (q := 201) rfl rfl ?_
            refine Go.pureS C (hw _ (List.mem_of_getElem? (i := 6) rfl)) (hw _ (List.mem_of_getElem? (i := 7) rfl)) (hw _ (List.mem_of_getElem? (i := 8) rfl)) (hw _ (List.mem_of_getElem? (i := 9) rfl)) (c_f_ok W.l Z a0 hw a158 (2 : Int32) (0 : Int32) (4 : Int32) v1 v156 h190 n0 (upd (upd (upd (upd (upd (upd (upd (upd (upd (upd (upd (upd (fun _ => (0 : Int32)) 0 (nar .byte v156)) 1 (nar .byte v156)) 2 (nar .byte v156)) 3 (nar .byte v156)) 4 (nar .byte v156)) 5 (nar .byte v156)) 6 (nar .byte v156)) 7 (nar .byte v156)) 0 (nar .byte (v1 ||| (128 : Int32)).toInt8.toInt32)) 1 (nar .byte (((v1.toUInt32 >>> ((7 : Int32) &&& 31).toUInt32).toInt32) ||| (128 : Int32)).toInt8.toInt32)) 2 (nar .byte (((((v1.toUInt32 >>> ((7 : Int32) &&& 31).toUInt32).toInt32).toUInt32 >>> ((7 : Int32) &&& 31).toUInt32).toInt32) ||| (128 : Int32)).toInt8.toInt32)) 3 (nar .byte ((((((v1.toUInt32 >>> ((7 : Int32) &&& 31).toUInt32).toInt32).toUInt32 >>> ((7 : Int32) &&& 31).toUInt32).toInt32).toUInt32 >>> ((7 : Int32) &&& 31).toUInt32).toInt32).toInt8.toInt32)) F198 F192 (by decide)) at_201 pd__40_91BIIIIB_41Z (q := 204) rfl rfl (argsL := [(.ref a158), (.int (2 : Int32)), (.int (0 : Int32)), (.int (4 : Int32)), (.int v1), (.int v156)]) (st := []) rfl rfl (w := 0) rfl (by decide) (by decide) (by decide) (by decide) (res := .int (f_ok (nar .byte (((((v1.toUInt32 >>> ((7 : Int32) &&& 31).toUInt32).toInt32).toUInt32 >>> ((7 : Int32) &&& 31).toUInt32).toInt32) ||| (128 : Int32)).toInt8.toInt32) (2 : Int32) (0 : Int32) (4 : Int32) v1 v156)) ?_
            refine Go.if0 C at_204 (z_eq _) (qt := 298) (q := 207) (by decide) (by decide) rfl (fun b203 => ?_) (fun b203 => ?_)
            ·
              refine Go.iconst C (0 : Int32) at_298 (q := 299) rfl rfl ?_
              exact J200 _ (by rw [if_neg b201, if_neg b202, if_pos b203])
            ·
              refine Go.aload C at_207 (q := 209) rfl rfl rfl ?_
              refine Go.iconst C (3 : Int32) at_209 (q := 210) rfl rfl ?_
              refine Go.iload C at_210 (q := 212) rfl rfl ?_
              refine Go.iload C at_212 (q := 214) rfl rfl ?_
              refine Go.iload C at_214 (q := 216) rfl rfl ?_
              refine Go.iload C at_216 (q := 218) rfl rfl ?_
              refine Go.pureS C (hw _ (List.mem_of_getElem? (i := 6) rfl)) (hw _ (List.mem_of_getElem? (i := 7) rfl)) (hw _ (List.mem_of_getElem? (i := 8) rfl)) (hw _ (List.mem_of_getElem? (i := 9) rfl)) (c_f_ok W.l Z a0 hw a158 (3 : Int32) (0 : Int32) (4 : Int32) v1 v156 h190 n0 (upd (upd (upd (upd (upd (upd (upd (upd (upd (upd (upd (upd (fun _ => (0 : Int32)) 0 (nar .byte v156)) 1 (nar .byte v156)) 2 (nar .byte v156)) 3 (nar .byte v156)) 4 (nar .byte v156)) 5 (nar .byte v156)) 6 (nar .byte v156)) 7 (nar .byte v156)) 0 (nar .byte (v1 ||| (128 : Int32)).toInt8.toInt32)) 1 (nar .byte (((v1.toUInt32 >>> ((7 : Int32) &&& 31).toUInt32).toInt32) ||| (128 : Int32)).toInt8.toInt32)) 2 (nar .byte (((((v1.toUInt32 >>> ((7 : Int32) &&& 31).toUInt32).toInt32).toUInt32 >>> ((7 : Int32) &&& 31).toUInt32).toInt32) ||| (128 : Int32)).toInt8.toInt32)) 3 (nar .byte ((((((v1.toUInt32 >>> ((7 : Int32) &&& 31).toUInt32).toInt32).toUInt32 >>> ((7 : Int32) &&& 31).toUInt32).toInt32).toUInt32 >>> ((7 : Int32) &&& 31).toUInt32).toInt32).toInt8.toInt32)) F198 F192 (by decide)) at_218 pd__40_91BIIIIB_41Z (q := 221) rfl rfl (argsL := [(.ref a158), (.int (3 : Int32)), (.int (0 : Int32)), (.int (4 : Int32)), (.int v1), (.int v156)]) (st := []) rfl rfl (w := 0) rfl (by decide) (by decide) (by decide) (by decide) (res := .int (f_ok (nar .byte ((((((v1.toUInt32 >>> ((7 : Int32) &&& 31).toUInt32).toInt32).toUInt32 >>> ((7 : Int32) &&& 31).toUInt32).toInt32).toUInt32 >>> ((7 : Int32) &&& 31).toUInt32).toInt32).toInt8.toInt32) (3 : Int32) (0 : Int32) (4 : Int32) v1 v156)) ?_
              refine Go.if0 C at_221 (z_eq _) (qt := 298) (q := 224) (by decide) (by decide) rfl (fun b204 => ?_) (fun b204 => ?_)
              ·
                refine Go.iconst C (0 : Int32) at_298 (q := 299) rfl rfl ?_
                exact J200 _ (by rw [if_neg b201, if_neg b202, if_neg b203, if_pos b204])
              ·
                refine Go.aload C at_224 (q := 226) rfl rfl rfl ?_
                refine Go.iconst C (4 : Int32) at_226 (q := 227) rfl rfl ?_
                refine Go.iload C at_227 (q := 229) rfl rfl ?_
                refine Go.iload C at_229 (q := 231) rfl rfl ?_
                refine Go.iload C at_231 (q := 233) rfl rfl ?_
                refine Go.iload C at_233 (q := 235) rfl rfl ?_
                refine Go.pureS C (hw _ (List.mem_of_getElem? (i := 6) rfl)) (hw _ (List.mem_of_getElem? (i := 7) rfl)) (hw _ (List.mem_of_getElem? (i := 8) rfl)) (hw _ (List.mem_of_getElem? (i := 9) rfl)) (c_f_ok W.l Z a0 hw a158 (4 : Int32) (0 : Int32) (4 : Int32) v1 v156 h190 n0 (upd (upd (upd (upd (upd (upd (upd (upd (upd (upd (upd (upd (fun _ => (0 : Int32)) 0 (nar .byte v156)) 1 (nar .byte v156)) 2 (nar .byte v156)) 3 (nar .byte v156)) 4 (nar .byte v156)) 5 (nar .byte v156)) 6 (nar .byte v156)) 7 (nar .byte v156)) 0 (nar .byte (v1 ||| (128 : Int32)).toInt8.toInt32)) 1 (nar .byte (((v1.toUInt32 >>> ((7 : Int32) &&& 31).toUInt32).toInt32) ||| (128 : Int32)).toInt8.toInt32)) 2 (nar .byte (((((v1.toUInt32 >>> ((7 : Int32) &&& 31).toUInt32).toInt32).toUInt32 >>> ((7 : Int32) &&& 31).toUInt32).toInt32) ||| (128 : Int32)).toInt8.toInt32)) 3 (nar .byte ((((((v1.toUInt32 >>> ((7 : Int32) &&& 31).toUInt32).toInt32).toUInt32 >>> ((7 : Int32) &&& 31).toUInt32).toInt32).toUInt32 >>> ((7 : Int32) &&& 31).toUInt32).toInt32).toInt8.toInt32)) F198 F192 (by decide)) at_235 pd__40_91BIIIIB_41Z (q := 238) rfl rfl (argsL := [(.ref a158), (.int (4 : Int32)), (.int (0 : Int32)), (.int (4 : Int32)), (.int v1), (.int v156)]) (st := []) rfl rfl (w := 0) rfl (by decide) (by decide) (by decide) (by decide) (res := .int (f_ok (nar .byte v156) (4 : Int32) (0 : Int32) (4 : Int32) v1 v156)) ?_
                refine Go.if0 C at_238 (z_eq _) (qt := 298) (q := 241) (by decide) (by decide) rfl (fun b205 => ?_) (fun b205 => ?_)
                ·
                  refine Go.iconst C (0 : Int32) at_298 (q := 299) rfl rfl ?_
                  exact J200 _ (by rw [if_neg b201, if_neg b202, if_neg b203, if_neg b204, if_pos b205])
                ·
                  refine Go.aload C at_241 (q := 243) rfl rfl rfl ?_
                  refine Go.iconst C (5 : Int32) at_243 (q := 244) rfl rfl ?_
                  refine Go.iload C at_244 (q := 246) rfl rfl ?_
                  refine Go.iload C at_246 (q := 248) rfl rfl ?_
                  refine Go.iload C at_248 (q := 250) rfl rfl ?_
                  refine Go.iload C at_250 (q := 252) rfl rfl ?_
                  refine Go.pureS C (hw _ (List.mem_of_getElem? (i := 6) rfl)) (hw _ (List.mem_of_getElem? (i := 7) rfl)) (hw _ (List.mem_of_getElem? (i := 8) rfl)) (hw _ (List.mem_of_getElem? (i := 9) rfl)) (c_f_ok W.l Z a0 hw a158 (5 : Int32) (0 : Int32) (4 : Int32) v1 v156 h190 n0 (upd (upd (upd (upd (upd (upd (upd (upd (upd (upd (upd (upd (fun _ => (0 : Int32)) 0 (nar .byte v156)) 1 (nar .byte v156)) 2 (nar .byte v156)) 3 (nar .byte v156)) 4 (nar .byte v156)) 5 (nar .byte v156)) 6 (nar .byte v156)) 7 (nar .byte v156)) 0 (nar .byte (v1 ||| (128 : Int32)).toInt8.toInt32)) 1 (nar .byte (((v1.toUInt32 >>> ((7 : Int32) &&& 31).toUInt32).toInt32) ||| (128 : Int32)).toInt8.toInt32)) 2 (nar .byte (((((v1.toUInt32 >>> ((7 : Int32) &&& 31).toUInt32).toInt32).toUInt32 >>> ((7 : Int32) &&& 31).toUInt32).toInt32) ||| (128 : Int32)).toInt8.toInt32)) 3 (nar .byte ((((((v1.toUInt32 >>> ((7 : Int32) &&& 31).toUInt32).toInt32).toUInt32 >>> ((7 : Int32) &&& 31).toUInt32).toInt32).toUInt32 >>> ((7 : Int32) &&& 31).toUInt32).toInt32).toInt8.toInt32)) F198 F192 (by decide)) at_252 pd__40_91BIIIIB_41Z (q := 255) rfl rfl (argsL := [(.ref a158), (.int (5 : Int32)), (.int (0 : Int32)), (.int (4 : Int32)), (.int v1), (.int v156)]) (st := []) rfl rfl (w := 0) rfl (by decide) (by decide) (by decide) (by decide) (res := .int (f_ok (nar .byte v156) (5 : Int32) (0 : Int32) (4 : Int32) v1 v156)) ?_
                  refine Go.if0 C at_255 (z_eq _) (qt := 298) (q := 258) (by decide) (by decide) rfl (fun b206 => ?_) (fun b206 => ?_)
                  ·
                    refine Go.iconst C (0 : Int32) at_298 (q := 299) rfl rfl ?_
                    exact J200 _ (by rw [if_neg b201, if_neg b202, if_neg b203, if_neg b204, if_neg b205, if_pos b206])
                  ·
                    refine Go.aload C at_258 (q := 260) rfl rfl rfl ?_
                    refine Go.bipush C (6 : Int32) at_260 (q := 262) rfl rfl ?_
                    refine Go.iload C at_262 (q := 264) rfl rfl ?_
                    refine Go.iload C at_264 (q := 266) rfl rfl ?_
                    refine Go.iload C at_266 (q := 268) rfl rfl ?_
                    refine Go.iload C at_268 (q := 270) rfl rfl ?_
                    refine Go.pureS C (hw _ (List.mem_of_getElem? (i := 6) rfl)) (hw _ (List.mem_of_getElem? (i := 7) rfl)) (hw _ (List.mem_of_getElem? (i := 8) rfl)) (hw _ (List.mem_of_getElem? (i := 9) rfl)) (c_f_ok W.l Z a0 hw a158 (6 : Int32) (0 : Int32) (4 : Int32) v1 v156 h190 n0 (upd (upd (upd (upd (upd (upd (upd (upd (upd (upd (upd (upd (fun _ => (0 : Int32)) 0 (nar .byte v156)) 1 (nar .byte v156)) 2 (nar .byte v156)) 3 (nar .byte v156)) 4 (nar .byte v156)) 5 (nar .byte v156)) 6 (nar .byte v156)) 7 (nar .byte v156)) 0 (nar .byte (v1 ||| (128 : Int32)).toInt8.toInt32)) 1 (nar .byte (((v1.toUInt32 >>> ((7 : Int32) &&& 31).toUInt32).toInt32) ||| (128 : Int32)).toInt8.toInt32)) 2 (nar .byte (((((v1.toUInt32 >>> ((7 : Int32) &&& 31).toUInt32).toInt32).toUInt32 >>> ((7 : Int32) &&& 31).toUInt32).toInt32) ||| (128 : Int32)).toInt8.toInt32)) 3 (nar .byte ((((((v1.toUInt32 >>> ((7 : Int32) &&& 31).toUInt32).toInt32).toUInt32 >>> ((7 : Int32) &&& 31).toUInt32).toInt32).toUInt32 >>> ((7 : Int32) &&& 31).toUInt32).toInt32).toInt8.toInt32)) F198 F192 (by decide)) at_270 pd__40_91BIIIIB_41Z (q := 273) rfl rfl (argsL := [(.ref a158), (.int (6 : Int32)), (.int (0 : Int32)), (.int (4 : Int32)), (.int v1), (.int v156)]) (st := []) rfl rfl (w := 0) rfl (by decide) (by decide) (by decide) (by decide) (res := .int (f_ok (nar .byte v156) (6 : Int32) (0 : Int32) (4 : Int32) v1 v156)) ?_
                    refine Go.if0 C at_273 (z_eq _) (qt := 298) (q := 276) (by decide) (by decide) rfl (fun b207 => ?_) (fun b207 => ?_)
                    ·
                      refine Go.iconst C (0 : Int32) at_298 (q := 299) rfl rfl ?_
                      exact J200 _ (by rw [if_neg b201, if_neg b202, if_neg b203, if_neg b204, if_neg b205, if_neg b206, if_pos b207])
                    ·
                      refine Go.aload C at_276 (q := 278) rfl rfl rfl ?_
                      refine Go.bipush C (7 : Int32) at_278 (q := 280) rfl rfl ?_
                      refine Go.iload C at_280 (q := 282) rfl rfl ?_
                      refine Go.iload C at_282 (q := 284) rfl rfl ?_
                      refine Go.iload C at_284 (q := 286) rfl rfl ?_
                      refine Go.iload C at_286 (q := 288) rfl rfl ?_
                      refine Go.pureS C (hw _ (List.mem_of_getElem? (i := 6) rfl)) (hw _ (List.mem_of_getElem? (i := 7) rfl)) (hw _ (List.mem_of_getElem? (i := 8) rfl)) (hw _ (List.mem_of_getElem? (i := 9) rfl)) (c_f_ok W.l Z a0 hw a158 (7 : Int32) (0 : Int32) (4 : Int32) v1 v156 h190 n0 (upd (upd (upd (upd (upd (upd (upd (upd (upd (upd (upd (upd (fun _ => (0 : Int32)) 0 (nar .byte v156)) 1 (nar .byte v156)) 2 (nar .byte v156)) 3 (nar .byte v156)) 4 (nar .byte v156)) 5 (nar .byte v156)) 6 (nar .byte v156)) 7 (nar .byte v156)) 0 (nar .byte (v1 ||| (128 : Int32)).toInt8.toInt32)) 1 (nar .byte (((v1.toUInt32 >>> ((7 : Int32) &&& 31).toUInt32).toInt32) ||| (128 : Int32)).toInt8.toInt32)) 2 (nar .byte (((((v1.toUInt32 >>> ((7 : Int32) &&& 31).toUInt32).toInt32).toUInt32 >>> ((7 : Int32) &&& 31).toUInt32).toInt32) ||| (128 : Int32)).toInt8.toInt32)) 3 (nar .byte ((((((v1.toUInt32 >>> ((7 : Int32) &&& 31).toUInt32).toInt32).toUInt32 >>> ((7 : Int32) &&& 31).toUInt32).toInt32).toUInt32 >>> ((7 : Int32) &&& 31).toUInt32).toInt32).toInt8.toInt32)) F198 F192 (by decide)) at_288 pd__40_91BIIIIB_41Z (q := 291) rfl rfl (argsL := [(.ref a158), (.int (7 : Int32)), (.int (0 : Int32)), (.int (4 : Int32)), (.int v1), (.int v156)]) (st := []) rfl rfl (w := 0) rfl (by decide) (by decide) (by decide) (by decide) (res := .int (f_ok (nar .byte v156) (7 : Int32) (0 : Int32) (4 : Int32) v1 v156)) ?_
                      refine Go.if0 C at_291 (z_eq _) (qt := 298) (q := 294) (by decide) (by decide) rfl (fun b208 => ?_) (fun b208 => ?_)
                      ·
                        refine Go.iconst C (0 : Int32) at_298 (q := 299) rfl rfl ?_
                        exact J200 _ (by rw [if_neg b201, if_neg b202, if_neg b203, if_neg b204, if_neg b205, if_neg b206, if_neg b207, if_pos b208])
                      ·
                        refine Go.iconst C (1 : Int32) at_294 (q := 295) rfl rfl ?_
                        refine Go.goto C at_295 (q := 299) (by decide) (by decide) ?_
                        exact J200 _ (by rw [if_neg b201, if_neg b202, if_neg b203, if_neg b204, if_neg b205, if_neg b206, if_neg b207, if_neg b208])
      intro v199 hv199
      exact Go.retZ (t := .boolean) (by simp) C at_299 (by decide) (by decide) (congrArg (fun z => some (Value.int z)) (fin3 p0 p1 p2 p3 v1 hv1  hv2  w0  w1  w2  w3 v156 hv156 v199 hv199))
    ·
      refine Go.istore C at_18 (q := 20) rfl (fun z => #[.val (.int p0), .val (.int p1), .val (.int p2), .val (.int p3), .val (.int v1), .val (.int (0 : Int32)), .val (.int z), .unset, .unset, .unset]) (fun _ => rfl) ?_
      intro v209 hv209
      refine Go.bipush C (8 : Int32) at_20 (q := 22) rfl rfl ?_
      refine Go.newP C (hw _ (List.mem_of_getElem? (i := 1) rfl)) (by decide) (cap := 8) (by decide) (by decide) at_22 (q := 24) rfl (k' := 1) rfl (n' := 8) rfl (by decide) (by decide) ?_
      intro h210 a211 cA212 g213 E214 Fn215
      have g217 : n0 ≤ a211 := g213 ▸ Z0
      have F216 : Av Z h210 a211 .byte 8 (iF (fun _ => (0 : Int32))) := Av.of Fn215
      refine Go.astore C at_24 (q := 26) rfl (l' := #[.val (.int p0), .val (.int p1), .val (.int p2), .val (.int p3), .val (.int v1), .val (.int (0 : Int32)), .val (.int v209), .val (.ref a211), .unset, .unset]) rfl rfl ?_
      refine Go.aload C at_26 (q := 28) rfl rfl rfl ?_
      refine Go.iconst C (0 : Int32) at_28 (q := 29) rfl rfl ?_
      refine Go.iload C at_29 (q := 31) rfl rfl ?_
      refine Go.bastore C F216 0 (by decide) (by decide) (by decide) g217 at_31 (q := 32) rfl ?_
      intro h218 W219
      have F220 := F216.sameI W219
      refine Go.aload C at_32 (q := 34) rfl rfl rfl ?_
      refine Go.iconst C (1 : Int32) at_34 (q := 35) rfl rfl ?_
      refine Go.iload C at_35 (q := 37) rfl rfl ?_
      refine Go.bastore C F220 1 (by decide) (by decide) (by decide) g217 at_37 (q := 38) rfl ?_
      intro h221 W222
      have F223 := F220.sameI W222
      refine Go.aload C at_38 (q := 40) rfl rfl rfl ?_
      refine Go.iconst C (2 : Int32) at_40 (q := 41) rfl rfl ?_
      refine Go.iload C at_41 (q := 43) rfl rfl ?_
      refine Go.bastore C F223 2 (by decide) (by decide) (by decide) g217 at_43 (q := 44) rfl ?_
      intro h224 W225
      have F226 := F223.sameI W225
      refine Go.aload C at_44 (q := 46) rfl rfl rfl ?_
      refine Go.iconst C (3 : Int32) at_46 (q := 47) rfl rfl ?_
      refine Go.iload C at_47 (q := 49) rfl rfl ?_
      refine Go.bastore C F226 3 (by decide) (by decide) (by decide) g217 at_49 (q := 50) rfl ?_
      intro h227 W228
      have F229 := F226.sameI W228
      refine Go.aload C at_50 (q := 52) rfl rfl rfl ?_
      refine Go.iconst C (4 : Int32) at_52 (q := 53) rfl rfl ?_
      refine Go.iload C at_53 (q := 55) rfl rfl ?_
      refine Go.bastore C F229 4 (by decide) (by decide) (by decide) g217 at_55 (q := 56) rfl ?_
      intro h230 W231
      have F232 := F229.sameI W231
      refine Go.aload C at_56 (q := 58) rfl rfl rfl ?_
      refine Go.iconst C (5 : Int32) at_58 (q := 59) rfl rfl ?_
      refine Go.iload C at_59 (q := 61) rfl rfl ?_
      refine Go.bastore C F232 5 (by decide) (by decide) (by decide) g217 at_61 (q := 62) rfl ?_
      intro h233 W234
      have F235 := F232.sameI W234
      refine Go.aload C at_62 (q := 64) rfl rfl rfl ?_
      refine Go.bipush C (6 : Int32) at_64 (q := 66) rfl rfl ?_
      refine Go.iload C at_66 (q := 68) rfl rfl ?_
      refine Go.bastore C F235 6 (by decide) (by decide) (by decide) g217 at_68 (q := 69) rfl ?_
      intro h236 W237
      have F238 := F235.sameI W237
      refine Go.aload C at_69 (q := 71) rfl rfl rfl ?_
      refine Go.bipush C (7 : Int32) at_71 (q := 73) rfl rfl ?_
      refine Go.iload C at_73 (q := 75) rfl rfl ?_
      refine Go.bastore C F238 7 (by decide) (by decide) (by decide) g217 at_75 (q := 76) rfl ?_
      intro h239 W240
      have F241 := F238.sameI W240
      refine Go.aload C at_76 (q := 78) rfl rfl rfl ?_
      refine Go.iload C at_78 (q := 80) rfl rfl ?_
      refine Go.iload C at_80 (q := 82) rfl rfl ?_
      have F242 := (Nat.le_trans (Nat.le_trans (Nat.le_trans (Nat.le_trans (Nat.le_trans (Nat.le_trans (Nat.le_trans (Nat.le_trans (Nat.le_trans Z0 E214.1) (Nat.le_of_eq W219.size.symm)) (Nat.le_of_eq W222.size.symm)) (Nat.le_of_eq W225.size.symm)) (Nat.le_of_eq W228.size.symm)) (Nat.le_of_eq W231.size.symm)) (Nat.le_of_eq W234.size.symm)) (Nat.le_of_eq W237.size.symm)) (Nat.le_of_eq W240.size.symm))
      refine Go.callS C (hw _ (List.mem_of_getElem? (i := 2) rfl)) (hw _ (List.mem_of_getElem? (i := 3) rfl)) (hw _ (List.mem_of_getElem? (i := 4) rfl)) (hw _ (List.mem_of_getElem? (i := 5) rfl)) (c_put0_5 W.l Z a0 hw a211 v1 h239 n0 (upd (upd (upd (upd (upd (upd (upd (upd (fun _ => (0 : Int32)) 0 (nar .byte v209)) 1 (nar .byte v209)) 2 (nar .byte v209)) 3 (nar .byte v209)) 4 (nar .byte v209)) 5 (nar .byte v209)) 6 (nar .byte v209)) 7 (nar .byte v209)) F242 F241 g217 w0 w1 w2 w3 w4) at_82 pd__40_91BII_41I (q := 85) rfl rfl (argsL := [(.ref a211), (.int (0 : Int32)), (.int v1)]) (st := []) rfl rfl (w := 0) rfl (by decide) (by decide) (k' := 1) rfl (n' := 8) rfl (by decide) (by decide) ?_
      intro v h243 q
      obtain ⟨rfl, K244, F245⟩ := q
      show Go W n0 QL h243 1 8 85 #[.val (.int p0), .val (.int p1), .val (.int p2), .val (.int p3), .val (.int v1), .val (.int (0 : Int32)), .val (.int v209), .val (.ref a211), .unset, .unset] [(.int (5 : Int32))]
      refine Go.istoreR C at_85 (q := 87) rfl (l' := #[.val (.int p0), .val (.int p1), .val (.int p2), .val (.int p3), .val (.int v1), .val (.int (0 : Int32)), .val (.int v209), .val (.ref a211), .val (.int (5 : Int32)), .unset]) rfl ?_
      refine Go.iload C at_87 (q := 89) rfl rfl ?_
      refine Go.sipush C (128 : Int32) at_89 (q := 92) rfl rfl ?_
      refine Go.icmp C at_92 (n_ge _ _) (qt := 101) (q := 95) (by decide) (by decide) rfl (fun _ => ?_) (fun b246 => absurd t0 b246)
      refine Go.iload C at_101 (q := 103) rfl rfl ?_
      refine Go.sipush C (16384 : Int32) at_103 (q := 106) rfl rfl ?_
      refine Go.icmp C at_106 (n_ge _ _) (qt := 115) (q := 109) (by decide) (by decide) rfl (fun _ => ?_) (fun b247 => absurd t1 b247)
      refine Go.iload C at_115 (q := 117) rfl rfl ?_
      refine Go.ldcI C (hw _ (List.mem_of_getElem? (i := 10) rfl)) at_117 (q := 119) rfl ?_
      refine Go.icmp C at_119 (n_ge _ _) (qt := 128) (q := 122) (by decide) (by decide) rfl (fun _ => ?_) (fun b248 => absurd t2 b248)
      refine Go.iload C at_128 (q := 130) rfl rfl ?_
      refine Go.ldcI C (hw _ (List.mem_of_getElem? (i := 11) rfl)) at_130 (q := 132) rfl ?_
      refine Go.icmp C at_132 (n_ge _ _) (qt := 141) (q := 135) (by decide) (by decide) rfl (fun _ => ?_) (fun b249 => absurd t3 b249)
      refine Go.iconst C (5 : Int32) at_141 (q := 142) rfl rfl ?_
      refine Go.istoreR C at_142 (q := 144) rfl (l' := #[.val (.int p0), .val (.int p1), .val (.int p2), .val (.int p3), .val (.int v1), .val (.int (0 : Int32)), .val (.int v209), .val (.ref a211), .val (.int (5 : Int32)), .val (.int (5 : Int32))]) rfl ?_
      refine Go.iload C at_144 (q := 146) rfl rfl ?_
      refine Go.iload C at_146 (q := 148) rfl rfl ?_
      refine Go.iload C at_148 (q := 150) rfl rfl ?_
      refine Go.iadd C at_150 (q := 151) rfl ?_
      refine Go.icmp C at_151 (n_eq _ _) (qt := 156) (q := 154) (by decide) (by decide) rfl (fun _ => ?_) (fun b250 => absurd b250 (by decide))
      refine Go.aload C at_156 (q := 158) rfl rfl rfl ?_
      refine Go.iconst C (0 : Int32) at_158 (q := 159) rfl rfl ?_
      refine Go.iload C at_159 (q := 161) rfl rfl ?_
      refine Go.iload C at_161 (q := 163) rfl rfl ?_
      refine Go.iload C at_163 (q := 165) rfl rfl ?_
      refine Go.iload C at_165 (q := 167) rfl rfl ?_
      have F251 := (Nat.le_trans F242 K244.1)
      refine Go.pureS C (hw _ (List.mem_of_getElem? (i := 6) rfl)) (hw _ (List.mem_of_getElem? (i := 7) rfl)) (hw _ (List.mem_of_getElem? (i := 8) rfl)) (hw _ (List.mem_of_getElem? (i := 9) rfl)) (c_f_ok W.l Z a0 hw a211 (0 : Int32) (0 : Int32) (5 : Int32) v1 v209 h243 n0 (upd (upd (upd (upd (upd (upd (upd (upd (upd (upd (upd (upd (upd (fun _ => (0 : Int32)) 0 (nar .byte v209)) 1 (nar .byte v209)) 2 (nar .byte v209)) 3 (nar .byte v209)) 4 (nar .byte v209)) 5 (nar .byte v209)) 6 (nar .byte v209)) 7 (nar .byte v209)) 0 (nar .byte (v1 ||| (128 : Int32)).toInt8.toInt32)) 1 (nar .byte (((v1.toUInt32 >>> ((7 : Int32) &&& 31).toUInt32).toInt32) ||| (128 : Int32)).toInt8.toInt32)) 2 (nar .byte (((((v1.toUInt32 >>> ((7 : Int32) &&& 31).toUInt32).toInt32).toUInt32 >>> ((7 : Int32) &&& 31).toUInt32).toInt32) ||| (128 : Int32)).toInt8.toInt32)) 3 (nar .byte (((((((v1.toUInt32 >>> ((7 : Int32) &&& 31).toUInt32).toInt32).toUInt32 >>> ((7 : Int32) &&& 31).toUInt32).toInt32).toUInt32 >>> ((7 : Int32) &&& 31).toUInt32).toInt32) ||| (128 : Int32)).toInt8.toInt32)) 4 (nar .byte ((((((((v1.toUInt32 >>> ((7 : Int32) &&& 31).toUInt32).toInt32).toUInt32 >>> ((7 : Int32) &&& 31).toUInt32).toInt32).toUInt32 >>> ((7 : Int32) &&& 31).toUInt32).toInt32).toUInt32 >>> ((7 : Int32) &&& 31).toUInt32).toInt32).toInt8.toInt32)) F251 F245 (by decide)) at_167 pd__40_91BIIIIB_41Z (q := 170) rfl rfl (argsL := [(.ref a211), (.int (0 : Int32)), (.int (0 : Int32)), (.int (5 : Int32)), (.int v1), (.int v209)]) (st := []) rfl rfl (w := 0) rfl (by decide) (by decide) (by decide) (by decide) (res := .int (f_ok (nar .byte (v1 ||| (128 : Int32)).toInt8.toInt32) (0 : Int32) (0 : Int32) (5 : Int32) v1 v209)) ?_
      suffices J253 : ∀ v252 : Int32, v252 = (if (f_ok (nar .byte (v1 ||| (128 : Int32)).toInt8.toInt32) (0 : Int32) (0 : Int32) (5 : Int32) v1 v209) = (0 : Int32) then (0 : Int32) else (if (f_ok (nar .byte (((v1.toUInt32 >>> ((7 : Int32) &&& 31).toUInt32).toInt32) ||| (128 : Int32)).toInt8.toInt32) (1 : Int32) (0 : Int32) (5 : Int32) v1 v209) = (0 : Int32) then (0 : Int32) else (if (f_ok (nar .byte (((((v1.toUInt32 >>> ((7 : Int32) &&& 31).toUInt32).toInt32).toUInt32 >>> ((7 : Int32) &&& 31).toUInt32).toInt32) ||| (128 : Int32)).toInt8.toInt32) (2 : Int32) (0 : Int32) (5 : Int32) v1 v209) = (0 : Int32) then (0 : Int32) else (if (f_ok (nar .byte (((((((v1.toUInt32 >>> ((7 : Int32) &&& 31).toUInt32).toInt32).toUInt32 >>> ((7 : Int32) &&& 31).toUInt32).toInt32).toUInt32 >>> ((7 : Int32) &&& 31).toUInt32).toInt32) ||| (128 : Int32)).toInt8.toInt32) (3 : Int32) (0 : Int32) (5 : Int32) v1 v209) = (0 : Int32) then (0 : Int32) else (if (f_ok (nar .byte ((((((((v1.toUInt32 >>> ((7 : Int32) &&& 31).toUInt32).toInt32).toUInt32 >>> ((7 : Int32) &&& 31).toUInt32).toInt32).toUInt32 >>> ((7 : Int32) &&& 31).toUInt32).toInt32).toUInt32 >>> ((7 : Int32) &&& 31).toUInt32).toInt32).toInt8.toInt32) (4 : Int32) (0 : Int32) (5 : Int32) v1 v209) = (0 : Int32) then (0 : Int32) else (if (f_ok (nar .byte v209) (5 : Int32) (0 : Int32) (5 : Int32) v1 v209) = (0 : Int32) then (0 : Int32) else (if (f_ok (nar .byte v209) (6 : Int32) (0 : Int32) (5 : Int32) v1 v209) = (0 : Int32) then (0 : Int32) else (if (f_ok (nar .byte v209) (7 : Int32) (0 : Int32) (5 : Int32) v1 v209) = (0 : Int32) then (0 : Int32) else (1 : Int32))))))))) → Go W n0 QL h243 1 8 299 #[.val (.int p0), .val (.int p1), .val (.int p2), .val (.int p3), .val (.int v1), .val (.int (0 : Int32)), .val (.int v209), .val (.ref a211), .val (.int (5 : Int32)), .val (.int (5 : Int32))] [(.int v252)] by
        refine Go.if0 C at_170 (z_eq _) (qt := 298) (q := 173) (by decide) (by decide) rfl (fun b254 => ?_) (fun b254 => ?_)
        ·
          refine Go.iconst C (0 : Int32) at_298 (q := 299) rfl rfl ?_
          exact J253 _ (by rw [if_pos b254])
        ·
          refine Go.aload C at_173 (q := 175) rfl rfl rfl ?_
          refine Go.iconst C (1 : Int32) at_175 (q := 176) rfl rfl ?_
          refine Go.iload C at_176 (q := 178) rfl rfl ?_
          refine Go.iload C at_178 (q := 180) rfl rfl ?_
          refine Go.iload C at_180 (q := 182) rfl rfl ?_
          refine Go.iload C at_182 (q := 184) rfl rfl ?_
          refine Go.pureS C (hw _ (List.mem_of_getElem? (i := 6) rfl)) (hw _ (List.mem_of_getElem? (i := 7) rfl)) (hw _ (List.mem_of_getElem? (i := 8) rfl)) (hw _ (List.mem_of_getElem? (i := 9) rfl)) (c_f_ok W.l Z a0 hw a211 (1 : Int32) (0 : Int32) (5 : Int32) v1 v209 h243 n0 (upd (upd (upd (upd (upd (upd (upd (upd (upd (upd (upd (upd (upd (fun _ => (0 : Int32)) 0 (nar .byte v209)) 1 (nar .byte v209)) 2 (nar .byte v209)) 3 (nar .byte v209)) 4 (nar .byte v209)) 5 (nar .byte v209)) 6 (nar .byte v209)) 7 (nar .byte v209)) 0 (nar .byte (v1 ||| (128 : Int32)).toInt8.toInt32)) 1 (nar .byte (((v1.toUInt32 >>> ((7 : Int32) &&& 31).toUInt32).toInt32) ||| (128 : Int32)).toInt8.toInt32)) 2 (nar .byte (((((v1.toUInt32 >>> ((7 : Int32) &&& 31).toUInt32).toInt32).toUInt32 >>> ((7 : Int32) &&& 31).toUInt32).toInt32) ||| (128 : Int32)).toInt8.toInt32)) 3 (nar .byte (((((((v1.toUInt32 >>> ((7 : Int32) &&& 31).toUInt32).toInt32).toUInt32 >>> ((7 : Int32) &&& 31).toUInt32).toInt32).toUInt32 >>> ((7 : Int32) &&& 31).toUInt32).toInt32) ||| (128 : Int32)).toInt8.toInt32)) 4 (nar .byte ((((((((v1.toUInt32 >>> ((7 : Int32) &&& 31).toUInt32).toInt32).toUInt32 >>> ((7 : Int32) &&& 31).toUInt32).toInt32).toUInt32 >>> ((7 : Int32) &&& 31).toUInt32).toInt32).toUInt32 >>> ((7 : Int32) &&& 31).toUInt32).toInt32).toInt8.toInt32)) F251 F245 (by decide)) at_184 pd__40_91BIIIIB_41Z (q := 187) rfl rfl (argsL := [(.ref a211), (.int (1 : Int32)), (.int (0 : Int32)), (.int (5 : Int32)), (.int v1), (.int v209)]) (st := []) rfl rfl (w := 0) rfl (by decide) (by decide) (by decide) (by decide) (res := .int (f_ok (nar .byte (((v1.toUInt32 >>> ((7 : Int32) &&& 31).toUInt32).toInt32) ||| (128 : Int32)).toInt8.toInt32) (1 : Int32) (0 : Int32) (5 : Int32) v1 v209)) ?_
          refine Go.if0 C at_187 (z_eq _) (qt := 298) (q := 190) (by decide) (by decide) rfl (fun b255 => ?_) (fun b255 => ?_)
          ·
            refine Go.iconst C (0 : Int32) at_298 (q := 299) rfl rfl ?_
            exact J253 _ (by rw [if_neg b254, if_pos b255])
          ·
            refine Go.aload C at_190 (q := 192) rfl rfl rfl ?_
            refine Go.iconst C (2 : Int32) at_192 (q := 193) rfl rfl ?_
            refine Go.iload C at_193 (q := 195) rfl rfl ?_
            refine Go.iload C at_195 (q := 197) rfl rfl ?_
            refine Go.iload C at_197 (q := 199) rfl rfl ?_
            refine Go.iload C at_199 (q := 201) rfl rfl ?_
            refine Go.pureS C (hw _ (List.mem_of_getElem? (i := 6) rfl)) (hw _ (List.mem_of_getElem? (i := 7) rfl)) (hw _ (List.mem_of_getElem? (i := 8) rfl)) (hw _ (List.mem_of_getElem? (i := 9) rfl)) (c_f_ok W.l Z a0 hw a211 (2 : Int32) (0 : Int32) (5 : Int32) v1 v209 h243 n0 (upd (upd (upd (upd (upd (upd (upd (upd (upd (upd (upd (upd (upd (fun _ => (0 : Int32)) 0 (nar .byte v209)) 1 (nar .byte v209)) 2 (nar .byte v209)) 3 (nar .byte v209)) 4 (nar .byte v209)) 5 (nar .byte v209)) 6 (nar .byte v209)) 7 (nar .byte v209)) 0 (nar .byte (v1 ||| (128 : Int32)).toInt8.toInt32)) 1 (nar .byte (((v1.toUInt32 >>> ((7 : Int32) &&& 31).toUInt32).toInt32) ||| (128 : Int32)).toInt8.toInt32)) 2 (nar .byte (((((v1.toUInt32 >>> ((7 : Int32) &&& 31).toUInt32).toInt32).toUInt32 >>> ((7 : Int32) &&& 31).toUInt32).toInt32) ||| (128 : Int32)).toInt8.toInt32)) 3 (nar .byte (((((((v1.toUInt32 >>> ((7 : Int32) &&& 31).toUInt32).toInt32).toUInt32 >>> ((7 : Int32) &&& 31).toUInt32).toInt32).toUInt32 >>> ((7 : Int32) &&& 31).toUInt32).toInt32) ||| (128 : Int32)).toInt8.toInt32)) 4 (nar .byte ((((((((v1.toUInt32 >>> ((7 : Int32) &&& 31).toUInt32).toInt32).toUInt32 >>> ((7 : Int32) &&& 31).toUInt32).toInt32).toUInt32 >>> ((7 : Int32) &&& 31).toUInt32).toInt32).toUInt32 >>> ((7 : Int32) &&& 31).toUInt32).toInt32).toInt8.toInt32)) F251 F245 (by decide)) at_201 pd__40_91BIIIIB_41Z (q := 204) rfl rfl (argsL := [(.ref a211), (.int (2 : Int32)), (.int (0 : Int32)), (.int (5 : Int32)), (.int v1), (.int v209)]) (st := []) rfl rfl (w := 0) rfl (by decide) (by decide) (by decide) (by decide) (res := .int (f_ok (nar .byte (((((v1.toUInt32 >>> ((7 : Int32) &&& 31).toUInt32).toInt32).toUInt32 >>> ((7 : Int32) &&& 31).toUInt32).toInt32) ||| (128 : Int32)).toInt8.toInt32) (2 : Int32) (0 : Int32) (5 : Int32) v1 v209)) ?_
            refine Go.if0 C at_204 (z_eq _) (qt := 298) (q := 207) (by decide) (by decide) rfl (fun b256 => ?_) (fun b256 => ?_)
            ·
              refine Go.iconst C (0 : Int32) at_298 (q := 299) rfl rfl ?_
              exact J253 _ (by rw [if_neg b254, if_neg b255, if_pos b256])
            ·
              refine Go.aload C at_207 (q := 209) rfl rfl rfl ?_
              refine Go.iconst C (3 : Int32) at_209 (q := 210) rfl rfl ?_
              refine Go.iload C at_210 (q := 212) rfl rfl ?_
              refine Go.iload C at_212 (q := 214) rfl rfl ?_
              refine Go.iload C at_214 (q := 216) rfl rfl ?_
              refine Go.iload C at_216 (q := 218) rfl rfl ?_
              refine Go.pureS C (hw _ (List.mem_of_getElem? (i := 6) rfl)) (hw _ (List.mem_of_getElem? (i := 7) rfl)) (hw _ (List.mem_of_getElem? (i := 8) rfl)) (hw _ (List.mem_of_getElem? (i := 9) rfl)) (c_f_ok W.l Z a0 hw a211 (3 : Int32) (0 : Int32) (5 : Int32) v1 v209 h243 n0 (upd (upd (upd (upd (upd (upd (upd (upd (upd (upd (upd (upd (upd (fun _ => (0 : Int32)) 0 (nar .byte v209)) 1 (nar .byte v209)) 2 (nar .byte v209)) 3 (nar .byte v209)) 4 (nar .byte v209)) 5 (nar .byte v209)) 6 (nar .byte v209)) 7 (nar .byte v209)) 0 (nar .byte (v1 ||| (128 : Int32)).toInt8.toInt32)) 1 (nar .byte (((v1.toUInt32 >>> ((7 : Int32) &&& 31).toUInt32).toInt32) ||| (128 : Int32)).toInt8.toInt32)) 2 (nar .byte (((((v1.toUInt32 >>> ((7 : Int32) &&& 31).toUInt32).toInt32).toUInt32 >>> ((7 : Int32) &&& 31).toUInt32).toInt32) ||| (128 : Int32)).toInt8.toInt32)) 3 (nar .byte (((((((v1.toUInt32 >>> ((7 : Int32) &&& 31).toUInt32).toInt32).toUInt32 >>> ((7 : Int32) &&& 31).toUInt32).toInt32).toUInt32 >>> ((7 : Int32) &&& 31).toUInt32).toInt32) ||| (128 : Int32)).toInt8.toInt32)) 4 (nar .byte ((((((((v1.toUInt32 >>> ((7 : Int32) &&& 31).toUInt32).toInt32).toUInt32 >>> ((7 : Int32) &&& 31).toUInt32).toInt32).toUInt32 >>> ((7 : Int32) &&& 31).toUInt32).toInt32).toUInt32 >>> ((7 : Int32) &&& 31).toUInt32).toInt32).toInt8.toInt32)) F251 F245 (by decide)) at_218 pd__40_91BIIIIB_41Z (q := 221) rfl rfl (argsL := [(.ref a211), (.int (3 : Int32)), (.int (0 : Int32)), (.int (5 : Int32)), (.int v1), (.int v209)]) (st := []) rfl rfl (w := 0) rfl (by decide) (by decide) (by decide) (by decide) (res := .int (f_ok (nar .byte (((((((v1.toUInt32 >>> ((7 : Int32) &&& 31).toUInt32).toInt32).toUInt32 >>> ((7 : Int32) &&& 31).toUInt32).toInt32).toUInt32 >>> ((7 : Int32) &&& 31).toUInt32).toInt32) ||| (128 : Int32)).toInt8.toInt32) (3 : Int32) (0 : Int32) (5 : Int32) v1 v209)) ?_
              refine Go.if0 C at_221 (z_eq _) (qt := 298) (q := 224) (by decide) (by decide) rfl (fun b257 => ?_) (fun b257 => ?_)
              ·
                refine Go.iconst C (0 : Int32) at_298 (q := 299) rfl rfl ?_
                exact J253 _ (by rw [if_neg b254, if_neg b255, if_neg b256, if_pos b257])
              ·
                refine Go.aload C at_224 (q := 226) rfl rfl rfl ?_
                refine Go.iconst C (4 : Int32) at_226 (q := 227) rfl rfl ?_
                refine Go.iload C at_227 (q := 229) rfl rfl ?_
                refine Go.iload C at_229 (q := 231) rfl rfl ?_
                refine Go.iload C at_231 (q := 233) rfl rfl ?_
                refine Go.iload C at_233 (q := 235) rfl rfl ?_
                refine Go.pureS C (hw _ (List.mem_of_getElem? (i := 6) rfl)) (hw _ (List.mem_of_getElem? (i := 7) rfl)) (hw _ (List.mem_of_getElem? (i := 8) rfl)) (hw _ (List.mem_of_getElem? (i := 9) rfl)) (c_f_ok W.l Z a0 hw a211 (4 : Int32) (0 : Int32) (5 : Int32) v1 v209 h243 n0 (upd (upd (upd (upd (upd (upd (upd (upd (upd (upd (upd (upd (upd (fun _ => (0 : Int32)) 0 (nar .byte v209)) 1 (nar .byte v209)) 2 (nar .byte v209)) 3 (nar .byte v209)) 4 (nar .byte v209)) 5 (nar .byte v209)) 6 (nar .byte v209)) 7 (nar .byte v209)) 0 (nar .byte (v1 ||| (128 : Int32)).toInt8.toInt32)) 1 (nar .byte (((v1.toUInt32 >>> ((7 : Int32) &&& 31).toUInt32).toInt32) ||| (128 : Int32)).toInt8.toInt32)) 2 (nar .byte (((((v1.toUInt32 >>> ((7 : Int32) &&& 31).toUInt32).toInt32).toUInt32 >>> ((7 : Int32) &&& 31).toUInt32).toInt32) ||| (128 : Int32)).toInt8.toInt32)) 3 (nar .byte (((((((v1.toUInt32 >>> ((7 : Int32) &&& 31).toUInt32).toInt32).toUInt32 >>> ((7 : Int32) &&& 31).toUInt32).toInt32).toUInt32 >>> ((7 : Int32) &&& 31).toUInt32).toInt32) ||| (128 : Int32)).toInt8.toInt32)) 4 (nar .byte ((((((((v1.toUInt32 >>> ((7 : Int32) &&& 31).toUInt32).toInt32).toUInt32 >>> ((7 : Int32) &&& 31).toUInt32).toInt32).toUInt32 >>> ((7 : Int32) &&& 31).toUInt32).toInt32).toUInt32 >>> ((7 : Int32) &&& 31).toUInt32).toInt32).toInt8.toInt32)) F251 F245 (by decide)) at_235 pd__40_91BIIIIB_41Z (q := 238) rfl rfl (argsL := [(.ref a211), (.int (4 : Int32)), (.int (0 : Int32)), (.int (5 : Int32)), (.int v1), (.int v209)]) (st := []) rfl rfl (w := 0) rfl (by decide) (by decide) (by decide) (by decide) (res := .int (f_ok (nar .byte ((((((((v1.toUInt32 >>> ((7 : Int32) &&& 31).toUInt32).toInt32).toUInt32 >>> ((7 : Int32) &&& 31).toUInt32).toInt32).toUInt32 >>> ((7 : Int32) &&& 31).toUInt32).toInt32).toUInt32 >>> ((7 : Int32) &&& 31).toUInt32).toInt32).toInt8.toInt32) (4 : Int32) (0 : Int32) (5 : Int32) v1 v209)) ?_
                refine Go.if0 C at_238 (z_eq _) (qt := 298) (q := 241) (by decide) (by decide) rfl (fun b258 => ?_) (fun b258 => ?_)
                ·
                  refine Go.iconst C (0 : Int32) at_298 (q := 299) rfl rfl ?_
                  exact J253 _ (by rw [if_neg b254, if_neg b255, if_neg b256, if_neg b257, if_pos b258])
                ·
                  refine Go.aload C at_241 (q := 243) rfl rfl rfl ?_
                  refine Go.iconst C (5 : Int32) at_243 (q := 244) rfl rfl ?_
                  refine Go.iload C at_244 (q := 246) rfl rfl ?_
                  refine Go.iload C at_246 (q := 248) rfl rfl ?_
                  refine Go.iload C at_248 (q := 250) rfl rfl ?_
                  refine Go.iload C at_250 (q := 252) rfl rfl ?_
                  refine Go.pureS C (hw _ (List.mem_of_getElem? (i := 6) rfl)) (hw _ (List.mem_of_getElem? (i := 7) rfl)) (hw _ (List.mem_of_getElem? (i := 8) rfl)) (hw _ (List.mem_of_getElem? (i := 9) rfl)) (c_f_ok W.l Z a0 hw a211 (5 : Int32) (0 : Int32) (5 : Int32) v1 v209 h243 n0 (upd (upd (upd (upd (upd (upd (upd (upd (upd (upd (upd (upd (upd (fun _ => (0 : Int32)) 0 (nar .byte v209)) 1 (nar .byte v209)) 2 (nar .byte v209)) 3 (nar .byte v209)) 4 (nar .byte v209)) 5 (nar .byte v209)) 6 (nar .byte v209)) 7 (nar .byte v209)) 0 (nar .byte (v1 ||| (128 : Int32)).toInt8.toInt32)) 1 (nar .byte (((v1.toUInt32 >>> ((7 : Int32) &&& 31).toUInt32).toInt32) ||| (128 : Int32)).toInt8.toInt32)) 2 (nar .byte (((((v1.toUInt32 >>> ((7 : Int32) &&& 31).toUInt32).toInt32).toUInt32 >>> ((7 : Int32) &&& 31).toUInt32).toInt32) ||| (128 : Int32)).toInt8.toInt32)) 3 (nar .byte (((((((v1.toUInt32 >>> ((7 : Int32) &&& 31).toUInt32).toInt32).toUInt32 >>> ((7 : Int32) &&& 31).toUInt32).toInt32).toUInt32 >>> ((7 : Int32) &&& 31).toUInt32).toInt32) ||| (128 : Int32)).toInt8.toInt32)) 4 (nar .byte ((((((((v1.toUInt32 >>> ((7 : Int32) &&& 31).toUInt32).toInt32).toUInt32 >>> ((7 : Int32) &&& 31).toUInt32).toInt32).toUInt32 >>> ((7 : Int32) &&& 31).toUInt32).toInt32).toUInt32 >>> ((7 : Int32) &&& 31).toUInt32).toInt32).toInt8.toInt32)) F251 F245 (by decide)) at_252 pd__40_91BIIIIB_41Z (q := 255) rfl rfl (argsL := [(.ref a211), (.int (5 : Int32)), (.int (0 : Int32)), (.int (5 : Int32)), (.int v1), (.int v209)]) (st := []) rfl rfl (w := 0) rfl (by decide) (by decide) (by decide) (by decide) (res := .int (f_ok (nar .byte v209) (5 : Int32) (0 : Int32) (5 : Int32) v1 v209)) ?_
                  refine Go.if0 C at_255 (z_eq _) (qt := 298) (q := 258) (by decide) (by decide) rfl (fun b259 => ?_) (fun b259 => ?_)
                  ·
                    refine Go.iconst C (0 : Int32) at_298 (q := 299) rfl rfl ?_
                    exact J253 _ (by rw [if_neg b254, if_neg b255, if_neg b256, if_neg b257, if_neg b258, if_pos b259])
                  ·
                    refine Go.aload C at_258 (q := 260) rfl rfl rfl ?_
                    refine Go.bipush C (6 : Int32) at_260 (q := 262) rfl rfl ?_
                    refine Go.iload C at_262 (q := 264) rfl rfl ?_
                    refine Go.iload C at_264 (q := 266) rfl rfl ?_
                    refine Go.iload C at_266 (q := 268) rfl rfl ?_
                    refine Go.iload C at_268 (q := 270) rfl rfl ?_
                    refine Go.pureS C (hw _ (List.mem_of_getElem? (i := 6) rfl)) (hw _ (List.mem_of_getElem? (i := 7) rfl)) (hw _ (List.mem_of_getElem? (i := 8) rfl)) (hw _ (List.mem_of_getElem? (i := 9) rfl)) (c_f_ok W.l Z a0 hw a211 (6 : Int32) (0 : Int32) (5 : Int32) v1 v209 h243 n0 (upd (upd (upd (upd (upd (upd (upd (upd (upd (upd (upd (upd (upd (fun _ => (0 : Int32)) 0 (nar .byte v209)) 1 (nar .byte v209)) 2 (nar .byte v209)) 3 (nar .byte v209)) 4 (nar .byte v209)) 5 (nar .byte v209)) 6 (nar .byte v209)) 7 (nar .byte v209)) 0 (nar .byte (v1 ||| (128 : Int32)).toInt8.toInt32)) 1 (nar .byte (((v1.toUInt32 >>> ((7 : Int32) &&& 31).toUInt32).toInt32) ||| (128 : Int32)).toInt8.toInt32)) 2 (nar .byte (((((v1.toUInt32 >>> ((7 : Int32) &&& 31).toUInt32).toInt32).toUInt32 >>> ((7 : Int32) &&& 31).toUInt32).toInt32) ||| (128 : Int32)).toInt8.toInt32)) 3 (nar .byte (((((((v1.toUInt32 >>> ((7 : Int32) &&& 31).toUInt32).toInt32).toUInt32 >>> ((7 : Int32) &&& 31).toUInt32).toInt32).toUInt32 >>> ((7 : Int32) &&& 31).toUInt32).toInt32) ||| (128 : Int32)).toInt8.toInt32)) 4 (nar .byte ((((((((v1.toUInt32 >>> ((7 : Int32) &&& 31).toUInt32).toInt32).toUInt32 >>> ((7 : Int32) &&& 31).toUInt32).toInt32).toUInt32 >>> ((7 : Int32) &&& 31).toUInt32).toInt32).toUInt32 >>> ((7 : Int32) &&& 31).toUInt32).toInt32).toInt8.toInt32)) F251 F245 (by decide)) at_270 pd__40_91BIIIIB_41Z (q := 273) rfl rfl (argsL := [(.ref a211), (.int (6 : Int32)), (.int (0 : Int32)), (.int (5 : Int32)), (.int v1), (.int v209)]) (st := []) rfl rfl (w := 0) rfl (by decide) (by decide) (by decide) (by decide) (res := .int (f_ok (nar .byte v209) (6 : Int32) (0 : Int32) (5 : Int32) v1 v209)) ?_
                    refine Go.if0 C at_273 (z_eq _) (qt := 298) (q := 276) (by decide) (by decide) rfl (fun b260 => ?_) (fun b260 => ?_)
                    ·
                      refine Go.iconst C (0 : Int32) at_298 (q := 299) rfl rfl ?_
                      exact J253 _ (by rw [if_neg b254, if_neg b255, if_neg b256, if_neg b257, if_neg b258, if_neg b259, if_pos b260])
                    ·
                      refine Go.aload C at_276 (q := 278) rfl rfl rfl ?_
                      refine Go.bipush C (7 : Int32) at_278 (q := 280) rfl rfl ?_
                      refine Go.iload C at_280 (q := 282) rfl rfl ?_
                      refine Go.iload C at_282 (q := 284) rfl rfl ?_
                      refine Go.iload C at_284 (q := 286) rfl rfl ?_
                      refine Go.iload C at_286 (q := 288) rfl rfl ?_
                      refine Go.pureS C (hw _ (List.mem_of_getElem? (i := 6) rfl)) (hw _ (List.mem_of_getElem? (i := 7) rfl)) (hw _ (List.mem_of_getElem? (i := 8) rfl)) (hw _ (List.mem_of_getElem? (i := 9) rfl)) (c_f_ok W.l Z a0 hw a211 (7 : Int32) (0 : Int32) (5 : Int32) v1 v209 h243 n0 (upd (upd (upd (upd (upd (upd (upd (upd (upd (upd (upd (upd (upd (fun _ => (0 : Int32)) 0 (nar .byte v209)) 1 (nar .byte v209)) 2 (nar .byte v209)) 3 (nar .byte v209)) 4 (nar .byte v209)) 5 (nar .byte v209)) 6 (nar .byte v209)) 7 (nar .byte v209)) 0 (nar .byte (v1 ||| (128 : Int32)).toInt8.toInt32)) 1 (nar .byte (((v1.toUInt32 >>> ((7 : Int32) &&& 31).toUInt32).toInt32) ||| (128 : Int32)).toInt8.toInt32)) 2 (nar .byte (((((v1.toUInt32 >>> ((7 : Int32) &&& 31).toUInt32).toInt32).toUInt32 >>> ((7 : Int32) &&& 31).toUInt32).toInt32) ||| (128 : Int32)).toInt8.toInt32)) 3 (nar .byte (((((((v1.toUInt32 >>> ((7 : Int32) &&& 31).toUInt32).toInt32).toUInt32 >>> ((7 : Int32) &&& 31).toUInt32).toInt32).toUInt32 >>> ((7 : Int32) &&& 31).toUInt32).toInt32) ||| (128 : Int32)).toInt8.toInt32)) 4 (nar .byte ((((((((v1.toUInt32 >>> ((7 : Int32) &&& 31).toUInt32).toInt32).toUInt32 >>> ((7 : Int32) &&& 31).toUInt32).toInt32).toUInt32 >>> ((7 : Int32) &&& 31).toUInt32).toInt32).toUInt32 >>> ((7 : Int32) &&& 31).toUInt32).toInt32).toInt8.toInt32)) F251 F245 (by decide)) at_288 pd__40_91BIIIIB_41Z (q := 291) rfl rfl (argsL := [(.ref a211), (.int (7 : Int32)), (.int (0 : Int32)), (.int (5 : Int32)), (.int v1), (.int v209)]) (st := []) rfl rfl (w := 0) rfl (by decide) (by decide) (by decide) (by decide) (res := .int (f_ok (nar .byte v209) (7 : Int32) (0 : Int32) (5 : Int32) v1 v209)) ?_
                      refine Go.if0 C at_291 (z_eq _) (qt := 298) (q := 294) (by decide) (by decide) rfl (fun b261 => ?_) (fun b261 => ?_)
                      ·
                        refine Go.iconst C (0 : Int32) at_298 (q := 299) rfl rfl ?_
                        exact J253 _ (by rw [if_neg b254, if_neg b255, if_neg b256, if_neg b257, if_neg b258, if_neg b259, if_neg b260, if_pos b261])
                      ·
                        refine Go.iconst C (1 : Int32) at_294 (q := 295) rfl rfl ?_
                        refine Go.goto C at_295 (q := 299) (by decide) (by decide) ?_
                        exact J253 _ (by rw [if_neg b254, if_neg b255, if_neg b256, if_neg b257, if_neg b258, if_neg b259, if_neg b260, if_neg b261])
      intro v252 hv252
      exact Go.retZ (t := .boolean) (by simp) C at_299 (by decide) (by decide) (congrArg (fun z => some (Value.int z)) (fin4 p0 p1 p2 p3 v1 hv1  hv2  w0  w1  w2  w3  w4 v209 hv209 v252 hv252))
  ·
    rcases own_sizes v1 (own_nn _ _ hv1) with ⟨w0, t0⟩ | ⟨w0, w1, t0, t1⟩ | ⟨w0, w1, w2, t0, t1, t2⟩ | ⟨w0, w1, w2, w3, t0, t1, t2, t3⟩ | ⟨w0, w1, w2, w3, w4, t0, t1, t2, t3⟩
    ·
      refine Go.istore C at_18 (q := 20) rfl (fun z => #[.val (.int p0), .val (.int p1), .val (.int p2), .val (.int p3), .val (.int v1), .val (.int (1 : Int32)), .val (.int z), .unset, .unset, .unset]) (fun _ => rfl) ?_
      intro v262 hv262
      refine Go.bipush C (8 : Int32) at_20 (q := 22) rfl rfl ?_
      refine Go.newP C (hw _ (List.mem_of_getElem? (i := 1) rfl)) (by decide) (cap := 8) (by decide) (by decide) at_22 (q := 24) rfl (k' := 1) rfl (n' := 8) rfl (by decide) (by decide) ?_
      intro h263 a264 cA265 g266 E267 Fn268
      have g270 : n0 ≤ a264 := g266 ▸ Z0
      have F269 : Av Z h263 a264 .byte 8 (iF (fun _ => (0 : Int32))) := Av.of Fn268
      refine Go.astore C at_24 (q := 26) rfl (l' := #[.val (.int p0), .val (.int p1), .val (.int p2), .val (.int p3), .val (.int v1), .val (.int (1 : Int32)), .val (.int v262), .val (.ref a264), .unset, .unset]) rfl rfl ?_
      refine Go.aload C at_26 (q := 28) rfl rfl rfl ?_
      refine Go.iconst C (0 : Int32) at_28 (q := 29) rfl rfl ?_
      refine Go.iload C at_29 (q := 31) rfl rfl ?_
      refine Go.bastore C F269 0 (by decide) (by decide) (by decide) g270 at_31 (q := 32) rfl ?_
      intro h271 W272
      have F273 := F269.sameI W272
      refine Go.aload C at_32 (q := 34) rfl rfl rfl ?_
      refine Go.iconst C (1 : Int32) at_34 (q := 35) rfl rfl ?_
      refine Go.iload C at_35 (q := 37) rfl rfl ?_
      refine Go.bastore C F273 1 (by decide) (by decide) (by decide) g270 at_37 (q := 38) rfl ?_
      intro h274 W275
      have F276 := F273.sameI W275
      refine Go.aload C at_38 (q := 40) rfl rfl rfl ?_
      refine Go.iconst C (2 : Int32) at_40 (q := 41) rfl rfl ?_
      refine Go.iload C at_41 (q := 43) rfl rfl ?_
      refine Go.bastore C F276 2 (by decide) (by decide) (by decide) g270 at_43 (q := 44) rfl ?_
      intro h277 W278
      have F279 := F276.sameI W278
      refine Go.aload C at_44 (q := 46) rfl rfl rfl ?_
      refine Go.iconst C (3 : Int32) at_46 (q := 47) rfl rfl ?_
      refine Go.iload C at_47 (q := 49) rfl rfl ?_
      refine Go.bastore C F279 3 (by decide) (by decide) (by decide) g270 at_49 (q := 50) rfl ?_
      intro h280 W281
      have F282 := F279.sameI W281
      refine Go.aload C at_50 (q := 52) rfl rfl rfl ?_
      refine Go.iconst C (4 : Int32) at_52 (q := 53) rfl rfl ?_
      refine Go.iload C at_53 (q := 55) rfl rfl ?_
      refine Go.bastore C F282 4 (by decide) (by decide) (by decide) g270 at_55 (q := 56) rfl ?_
      intro h283 W284
      have F285 := F282.sameI W284
      refine Go.aload C at_56 (q := 58) rfl rfl rfl ?_
      refine Go.iconst C (5 : Int32) at_58 (q := 59) rfl rfl ?_
      refine Go.iload C at_59 (q := 61) rfl rfl ?_
      refine Go.bastore C F285 5 (by decide) (by decide) (by decide) g270 at_61 (q := 62) rfl ?_
      intro h286 W287
      have F288 := F285.sameI W287
      refine Go.aload C at_62 (q := 64) rfl rfl rfl ?_
      refine Go.bipush C (6 : Int32) at_64 (q := 66) rfl rfl ?_
      refine Go.iload C at_66 (q := 68) rfl rfl ?_
      refine Go.bastore C F288 6 (by decide) (by decide) (by decide) g270 at_68 (q := 69) rfl ?_
      intro h289 W290
      have F291 := F288.sameI W290
      refine Go.aload C at_69 (q := 71) rfl rfl rfl ?_
      refine Go.bipush C (7 : Int32) at_71 (q := 73) rfl rfl ?_
      refine Go.iload C at_73 (q := 75) rfl rfl ?_
      refine Go.bastore C F291 7 (by decide) (by decide) (by decide) g270 at_75 (q := 76) rfl ?_
      intro h292 W293
      have F294 := F291.sameI W293
      refine Go.aload C at_76 (q := 78) rfl rfl rfl ?_
      refine Go.iload C at_78 (q := 80) rfl rfl ?_
      refine Go.iload C at_80 (q := 82) rfl rfl ?_
      have F295 := (Nat.le_trans (Nat.le_trans (Nat.le_trans (Nat.le_trans (Nat.le_trans (Nat.le_trans (Nat.le_trans (Nat.le_trans (Nat.le_trans Z0 E267.1) (Nat.le_of_eq W272.size.symm)) (Nat.le_of_eq W275.size.symm)) (Nat.le_of_eq W278.size.symm)) (Nat.le_of_eq W281.size.symm)) (Nat.le_of_eq W284.size.symm)) (Nat.le_of_eq W287.size.symm)) (Nat.le_of_eq W290.size.symm)) (Nat.le_of_eq W293.size.symm))
      refine Go.callS C (hw _ (List.mem_of_getElem? (i := 2) rfl)) (hw _ (List.mem_of_getElem? (i := 3) rfl)) (hw _ (List.mem_of_getElem? (i := 4) rfl)) (hw _ (List.mem_of_getElem? (i := 5) rfl)) (c_put1_1 W.l Z a0 hw a264 v1 h292 n0 (upd (upd (upd (upd (upd (upd (upd (upd (fun _ => (0 : Int32)) 0 (nar .byte v262)) 1 (nar .byte v262)) 2 (nar .byte v262)) 3 (nar .byte v262)) 4 (nar .byte v262)) 5 (nar .byte v262)) 6 (nar .byte v262)) 7 (nar .byte v262)) F295 F294 g270 w0) at_82 pd__40_91BII_41I (q := 85) rfl rfl (argsL := [(.ref a264), (.int (1 : Int32)), (.int v1)]) (st := []) rfl rfl (w := 0) rfl (by decide) (by decide) (k' := 1) rfl (n' := 8) rfl (by decide) (by decide) ?_
      intro v h296 q
      obtain ⟨rfl, K297, F298⟩ := q
      show Go W n0 QL h296 1 8 85 #[.val (.int p0), .val (.int p1), .val (.int p2), .val (.int p3), .val (.int v1), .val (.int (1 : Int32)), .val (.int v262), .val (.ref a264), .unset, .unset] [(.int (2 : Int32))]
      refine Go.istoreR C at_85 (q := 87) rfl (l' := #[.val (.int p0), .val (.int p1), .val (.int p2), .val (.int p3), .val (.int v1), .val (.int (1 : Int32)), .val (.int v262), .val (.ref a264), .val (.int (2 : Int32)), .unset]) rfl ?_
      refine Go.iload C at_87 (q := 89) rfl rfl ?_
      refine Go.sipush C (128 : Int32) at_89 (q := 92) rfl rfl ?_
      refine Go.icmp C at_92 (n_ge _ _) (qt := 101) (q := 95) (by decide) (by decide) rfl (fun b299 => absurd t0 b299) (fun _ => ?_)
      refine Go.iconst C (1 : Int32) at_95 (q := 96) rfl rfl ?_
      refine Go.istoreR C at_96 (q := 98) rfl (l' := #[.val (.int p0), .val (.int p1), .val (.int p2), .val (.int p3), .val (.int v1), .val (.int (1 : Int32)), .val (.int v262), .val (.ref a264), .val (.int (2 : Int32)), .val (.int (1 : Int32))]) rfl ?_
      refine Go.goto C at_98 (q := 144) (by decide) (by decide) ?_
      refine Go.iload C at_144 (q := 146) rfl rfl ?_
      refine Go.iload C at_146 (q := 148) rfl rfl ?_
      refine Go.iload C at_148 (q := 150) rfl rfl ?_
      refine Go.iadd C at_150 (q := 151) rfl ?_
      refine Go.icmp C at_151 (n_eq _ _) (qt := 156) (q := 154) (by decide) (by decide) rfl (fun _ => ?_) (fun b300 => absurd b300 (by decide))
      refine Go.aload C at_156 (q := 158) rfl rfl rfl ?_
      refine Go.iconst C (0 : Int32) at_158 (q := 159) rfl rfl ?_
      refine Go.iload C at_159 (q := 161) rfl rfl ?_
      refine Go.iload C at_161 (q := 163) rfl rfl ?_
      refine Go.iload C at_163 (q := 165) rfl rfl ?_
      refine Go.iload C at_165 (q := 167) rfl rfl ?_
      have F301 := (Nat.le_trans F295 K297.1)
      refine Go.pureS C (hw _ (List.mem_of_getElem? (i := 6) rfl)) (hw _ (List.mem_of_getElem? (i := 7) rfl)) (hw _ (List.mem_of_getElem? (i := 8) rfl)) (hw _ (List.mem_of_getElem? (i := 9) rfl)) (c_f_ok W.l Z a0 hw a264 (0 : Int32) (1 : Int32) (1 : Int32) v1 v262 h296 n0 (upd (upd (upd (upd (upd (upd (upd (upd (upd (fun _ => (0 : Int32)) 0 (nar .byte v262)) 1 (nar .byte v262)) 2 (nar .byte v262)) 3 (nar .byte v262)) 4 (nar .byte v262)) 5 (nar .byte v262)) 6 (nar .byte v262)) 7 (nar .byte v262)) 1 (nar .byte v1.toInt8.toInt32)) F301 F298 (by decide)) at_167 pd__40_91BIIIIB_41Z (q := 170) rfl rfl (argsL := [(.ref a264), (.int (0 : Int32)), (.int (1 : Int32)), (.int (1 : Int32)), (.int v1), (.int v262)]) (st := []) rfl rfl (w := 0) rfl (by decide) (by decide) (by decide) (by decide) (res := .int (f_ok (nar .byte v262) (0 : Int32) (1 : Int32) (1 : Int32) v1 v262)) ?_
      suffices J303 : ∀ v302 : Int32, v302 = (if (f_ok (nar .byte v262) (0 : Int32) (1 : Int32) (1 : Int32) v1 v262) = (0 : Int32) then (0 : Int32) else (if (f_ok (nar .byte v1.toInt8.toInt32) (1 : Int32) (1 : Int32) (1 : Int32) v1 v262) = (0 : Int32) then (0 : Int32) else (if (f_ok (nar .byte v262) (2 : Int32) (1 : Int32) (1 : Int32) v1 v262) = (0 : Int32) then (0 : Int32) else (if (f_ok (nar .byte v262) (3 : Int32) (1 : Int32) (1 : Int32) v1 v262) = (0 : Int32) then (0 : Int32) else (if (f_ok (nar .byte v262) (4 : Int32) (1 : Int32) (1 : Int32) v1 v262) = (0 : Int32) then (0 : Int32) else (if (f_ok (nar .byte v262) (5 : Int32) (1 : Int32) (1 : Int32) v1 v262) = (0 : Int32) then (0 : Int32) else (if (f_ok (nar .byte v262) (6 : Int32) (1 : Int32) (1 : Int32) v1 v262) = (0 : Int32) then (0 : Int32) else (if (f_ok (nar .byte v262) (7 : Int32) (1 : Int32) (1 : Int32) v1 v262) = (0 : Int32) then (0 : Int32) else (1 : Int32))))))))) → Go W n0 QL h296 1 8 299 #[.val (.int p0), .val (.int p1), .val (.int p2), .val (.int p3), .val (.int v1), .val (.int (1 : Int32)), .val (.int v262), .val (.ref a264), .val (.int (2 : Int32)), .val (.int (1 : Int32))] [(.int v302)] by
        refine Go.if0 C at_170 (z_eq _) (qt := 298) (q := 173) (by decide) (by decide) rfl (fun b304 => ?_) (fun b304 => ?_)
        ·
          refine Go.iconst C (0 : Int32) at_298 (q := 299) rfl rfl ?_
          exact J303 _ (by rw [if_pos b304])
        ·
          refine Go.aload C at_173 (q := 175) rfl rfl rfl ?_
          refine Go.iconst C (1 : Int32) at_175 (q := 176) rfl rfl ?_
          refine Go.iload C at_176 (q := 178) rfl rfl ?_
          refine Go.iload C at_178 (q := 180) rfl rfl ?_
          refine Go.iload C at_180 (q := 182) rfl rfl ?_
          refine Go.iload C at_182 (q := 184) rfl rfl ?_
          refine Go.pureS C (hw _ (List.mem_of_getElem? (i := 6) rfl)) (hw _ (List.mem_of_getElem? (i := 7) rfl)) (hw _ (List.mem_of_getElem? (i := 8) rfl)) (hw _ (List.mem_of_getElem? (i := 9) rfl)) (c_f_ok W.l Z a0 hw a264 (1 : Int32) (1 : Int32) (1 : Int32) v1 v262 h296 n0 (upd (upd (upd (upd (upd (upd (upd (upd (upd (fun _ => (0 : Int32)) 0 (nar .byte v262)) 1 (nar .byte v262)) 2 (nar .byte v262)) 3 (nar .byte v262)) 4 (nar .byte v262)) 5 (nar .byte v262)) 6 (nar .byte v262)) 7 (nar .byte v262)) 1 (nar .byte v1.toInt8.toInt32)) F301 F298 (by decide)) at_184 pd__40_91BIIIIB_41Z (q := 187) rfl rfl (argsL := [(.ref a264), (.int (1 : Int32)), (.int (1 : Int32)), (.int (1 : Int32)), (.int v1), (.int v262)]) (st := []) rfl rfl (w := 0) rfl (by decide) (by decide) (by decide) (by decide) (res := .int (f_ok (nar .byte v1.toInt8.toInt32) (1 : Int32) (1 : Int32) (1 : Int32) v1 v262)) ?_
          refine Go.if0 C at_187 (z_eq _) (qt := 298) (q := 190) (by decide) (by decide) rfl (fun b305 => ?_) (fun b305 => ?_)
          ·
            refine Go.iconst C (0 : Int32) at_298 (q := 299) rfl rfl ?_
            exact J303 _ (by rw [if_neg b304, if_pos b305])
          ·
            refine Go.aload C at_190 (q := 192) rfl rfl rfl ?_
            refine Go.iconst C (2 : Int32) at_192 (q := 193) rfl rfl ?_
            refine Go.iload C at_193 (q := 195) rfl rfl ?_
            refine Go.iload C at_195 (q := 197) rfl rfl ?_
            refine Go.iload C at_197 (q := 199) rfl rfl ?_
            refine Go.iload C at_199 (q := 201) rfl rfl ?_
            refine Go.pureS C (hw _ (List.mem_of_getElem? (i := 6) rfl)) (hw _ (List.mem_of_getElem? (i := 7) rfl)) (hw _ (List.mem_of_getElem? (i := 8) rfl)) (hw _ (List.mem_of_getElem? (i := 9) rfl)) (c_f_ok W.l Z a0 hw a264 (2 : Int32) (1 : Int32) (1 : Int32) v1 v262 h296 n0 (upd (upd (upd (upd (upd (upd (upd (upd (upd (fun _ => (0 : Int32)) 0 (nar .byte v262)) 1 (nar .byte v262)) 2 (nar .byte v262)) 3 (nar .byte v262)) 4 (nar .byte v262)) 5 (nar .byte v262)) 6 (nar .byte v262)) 7 (nar .byte v262)) 1 (nar .byte v1.toInt8.toInt32)) F301 F298 (by decide)) at_201 pd__40_91BIIIIB_41Z (q := 204) rfl rfl (argsL := [(.ref a264), (.int (2 : Int32)), (.int (1 : Int32)), (.int (1 : Int32)), (.int v1), (.int v262)]) (st := []) rfl rfl (w := 0) rfl (by decide) (by decide) (by decide) (by decide) (res := .int (f_ok (nar .byte v262) (2 : Int32) (1 : Int32) (1 : Int32) v1 v262)) ?_
            refine Go.if0 C at_204 (z_eq _) (qt := 298) (q := 207) (by decide) (by decide) rfl (fun b306 => ?_) (fun b306 => ?_)
            ·
              refine Go.iconst C (0 : Int32) at_298 (q := 299) rfl rfl ?_
              exact J303 _ (by rw [if_neg b304, if_neg b305, if_pos b306])
            ·
              refine Go.aload C at_207 (q := 209) rfl rfl rfl ?_
              refine Go.iconst C (3 : Int32) at_209 (q := 210) rfl rfl ?_
              refine Go.iload C at_210 (q := 212) rfl rfl ?_
              refine Go.iload C at_212 (q := 214) rfl rfl ?_
              refine Go.iload C at_214 (q := 216) rfl rfl ?_
              refine Go.iload C at_216 (q := 218) rfl rfl ?_
              refine Go.pureS C (hw _ (List.mem_of_getElem? (i := 6) rfl)) (hw _ (List.mem_of_getElem? (i := 7) rfl)) (hw _ (List.mem_of_getElem? (i := 8) rfl)) (hw _ (List.mem_of_getElem? (i := 9) rfl)) (c_f_ok W.l Z a0 hw a264 (3 : Int32) (1 : Int32) (1 : Int32) v1 v262 h296 n0 (upd (upd (upd (upd (upd (upd (upd (upd (upd (fun _ => (0 : Int32)) 0 (nar .byte v262)) 1 (nar .byte v262)) 2 (nar .byte v262)) 3 (nar .byte v262)) 4 (nar .byte v262)) 5 (nar .byte v262)) 6 (nar .byte v262)) 7 (nar .byte v262)) 1 (nar .byte v1.toInt8.toInt32)) F301 F298 (by decide)) at_218 pd__40_91BIIIIB_41Z (q := 221) rfl rfl (argsL := [(.ref a264), (.int (3 : Int32)), (.int (1 : Int32)), (.int (1 : Int32)), (.int v1), (.int v262)]) (st := []) rfl rfl (w := 0) rfl (by decide) (by decide) (by decide) (by decide) (res := .int (f_ok (nar .byte v262) (3 : Int32) (1 : Int32) (1 : Int32) v1 v262)) ?_
              refine Go.if0 C at_221 (z_eq _) (qt := 298) (q := 224) (by decide) (by decide) rfl (fun b307 => ?_) (fun b307 => ?_)
              ·
                refine Go.iconst C (0 : Int32) at_298 (q := 299) rfl rfl ?_
                exact J303 _ (by rw [if_neg b304, if_neg b305, if_neg b306, if_pos b307])
              ·
                refine Go.aload C at_224 (q := 226) rfl rfl rfl ?_
                refine Go.iconst C (4 : Int32) at_226 (q := 227) rfl rfl ?_
                refine Go.iload C at_227 (q := 229) rfl rfl ?_
                refine Go.iload C at_229 (q := 231) rfl rfl ?_
                refine Go.iload C at_231 (q := 233) rfl rfl ?_
                refine Go.iload C at_233 (q := 235) rfl rfl ?_
                refine Go.pureS C (hw _ (List.mem_of_getElem? (i := 6) rfl)) (hw _ (List.mem_of_getElem? (i := 7) rfl)) (hw _ (List.mem_of_getElem? (i := 8) rfl)) (hw _ (List.mem_of_getElem? (i := 9) rfl)) (c_f_ok W.l Z a0 hw a264 (4 : Int32) (1 : Int32) (1 : Int32) v1 v262 h296 n0 (upd (upd (upd (upd (upd (upd (upd (upd (upd (fun _ => (0 : Int32)) 0 (nar .byte v262)) 1 (nar .byte v262)) 2 (nar .byte v262)) 3 (nar .byte v262)) 4 (nar .byte v262)) 5 (nar .byte v262)) 6 (nar .byte v262)) 7 (nar .byte v262)) 1 (nar .byte v1.toInt8.toInt32)) F301 F298 (by decide)) at_235 pd__40_91BIIIIB_41Z (q := 238) rfl rfl (argsL := [(.ref a264), (.int (4 : Int32)), (.int (1 : Int32)), (.int (1 : Int32)), (.int v1), (.int v262)]) (st := []) rfl rfl (w := 0) rfl (by decide) (by decide) (by decide) (by decide) (res := .int (f_ok (nar .byte v262) (4 : Int32) (1 : Int32) (1 : Int32) v1 v262)) ?_
                refine Go.if0 C at_238 (z_eq _) (qt := 298) (q := 241) (by decide) (by decide) rfl (fun b308 => ?_) (fun b308 => ?_)
                ·
                  refine Go.iconst C (0 : Int32) at_298 (q := 299) rfl rfl ?_
                  exact J303 _ (by rw [if_neg b304, if_neg b305, if_neg b306, if_neg b307, if_pos b308])
                ·
                  refine Go.aload C at_241 (q := 243) rfl rfl rfl ?_
                  refine Go.iconst C (5 : Int32) at_243 (q := 244) rfl rfl ?_
                  refine Go.iload C at_244 (q := 246) rfl rfl ?_
                  refine Go.iload C at_246 (q := 248) rfl rfl ?_
                  refine Go.iload C at_248 (q := 250) rfl rfl ?_
                  refine Go.iload C at_250 (q := 252) rfl rfl ?_
                  refine Go.pureS C (hw _ (List.mem_of_getElem? (i := 6) rfl)) (hw _ (List.mem_of_getElem? (i := 7) rfl)) (hw _ (List.mem_of_getElem? (i := 8) rfl)) (hw _ (List.mem_of_getElem? (i := 9) rfl)) (c_f_ok W.l Z a0 hw a264 (5 : Int32) (1 : Int32) (1 : Int32) v1 v262 h296 n0 (upd (upd (upd (upd (upd (upd (upd (upd (upd (fun _ => (0 : Int32)) 0 (nar .byte v262)) 1 (nar .byte v262)) 2 (nar .byte v262)) 3 (nar .byte v262)) 4 (nar .byte v262)) 5 (nar .byte v262)) 6 (nar .byte v262)) 7 (nar .byte v262)) 1 (nar .byte v1.toInt8.toInt32)) F301 F298 (by decide)) at_252 pd__40_91BIIIIB_41Z (q := 255) rfl rfl (argsL := [(.ref a264), (.int (5 : Int32)), (.int (1 : Int32)), (.int (1 : Int32)), (.int v1), (.int v262)]) (st := []) rfl rfl (w := 0) rfl (by decide) (by decide) (by decide) (by decide) (res := .int (f_ok (nar .byte v262) (5 : Int32) (1 : Int32) (1 : Int32) v1 v262)) ?_
                  refine Go.if0 C at_255 (z_eq _) (qt := 298) (q := 258) (by decide) (by decide) rfl (fun b309 => ?_) (fun b309 => ?_)
                  ·
                    refine Go.iconst C (0 : Int32) at_298 (q := 299) rfl rfl ?_
                    exact J303 _ (by rw [if_neg b304, if_neg b305, if_neg b306, if_neg b307, if_neg b308, if_pos b309])
                  ·
                    refine Go.aload C at_258 (q := 260) rfl rfl rfl ?_
                    refine Go.bipush C (6 : Int32) at_260 (q := 262) rfl rfl ?_
                    refine Go.iload C at_262 (q := 264) rfl rfl ?_
                    refine Go.iload C at_264 (q := 266) rfl rfl ?_
                    refine Go.iload C at_266 (q := 268) rfl rfl ?_
                    refine Go.iload C at_268 (q := 270) rfl rfl ?_
                    refine Go.pureS C (hw _ (List.mem_of_getElem? (i := 6) rfl)) (hw _ (List.mem_of_getElem? (i := 7) rfl)) (hw _ (List.mem_of_getElem? (i := 8) rfl)) (hw _ (List.mem_of_getElem? (i := 9) rfl)) (c_f_ok W.l Z a0 hw a264 (6 : Int32) (1 : Int32) (1 : Int32) v1 v262 h296 n0 (upd (upd (upd (upd (upd (upd (upd (upd (upd (fun _ => (0 : Int32)) 0 (nar .byte v262)) 1 (nar .byte v262)) 2 (nar .byte v262)) 3 (nar .byte v262)) 4 (nar .byte v262)) 5 (nar .byte v262)) 6 (nar .byte v262)) 7 (nar .byte v262)) 1 (nar .byte v1.toInt8.toInt32)) F301 F298 (by decide)) at_270 pd__40_91BIIIIB_41Z (q := 273) rfl rfl (argsL := [(.ref a264), (.int (6 : Int32)), (.int (1 : Int32)), (.int (1 : Int32)), (.int v1), (.int v262)]) (st := []) rfl rfl (w := 0) rfl (by decide) (by decide) (by decide) (by decide) (res := .int (f_ok (nar .byte v262) (6 : Int32) (1 : Int32) (1 : Int32) v1 v262)) ?_
                    refine Go.if0 C at_273 (z_eq _) (qt := 298) (q := 276) (by decide) (by decide) rfl (fun b310 => ?_) (fun b310 => ?_)
                    ·
                      refine Go.iconst C (0 : Int32) at_298 (q := 299) rfl rfl ?_
                      exact J303 _ (by rw [if_neg b304, if_neg b305, if_neg b306, if_neg b307, if_neg b308, if_neg b309, if_pos b310])
                    ·
                      refine Go.aload C at_276 (q := 278) rfl rfl rfl ?_
                      refine Go.bipush C (7 : Int32) at_278 (q := 280) rfl rfl ?_
                      refine Go.iload C at_280 (q := 282) rfl rfl ?_
                      refine Go.iload C at_282 (q := 284) rfl rfl ?_
                      refine Go.iload C at_284 (q := 286) rfl rfl ?_
                      refine Go.iload C at_286 (q := 288) rfl rfl ?_
                      refine Go.pureS C (hw _ (List.mem_of_getElem? (i := 6) rfl)) (hw _ (List.mem_of_getElem? (i := 7) rfl)) (hw _ (List.mem_of_getElem? (i := 8) rfl)) (hw _ (List.mem_of_getElem? (i := 9) rfl)) (c_f_ok W.l Z a0 hw a264 (7 : Int32) (1 : Int32) (1 : Int32) v1 v262 h296 n0 (upd (upd (upd (upd (upd (upd (upd (upd (upd (fun _ => (0 : Int32)) 0 (nar .byte v262)) 1 (nar .byte v262)) 2 (nar .byte v262)) 3 (nar .byte v262)) 4 (nar .byte v262)) 5 (nar .byte v262)) 6 (nar .byte v262)) 7 (nar .byte v262)) 1 (nar .byte v1.toInt8.toInt32)) F301 F298 (by decide)) at_288 pd__40_91BIIIIB_41Z (q := 291) rfl rfl (argsL := [(.ref a264), (.int (7 : Int32)), (.int (1 : Int32)), (.int (1 : Int32)), (.int v1), (.int v262)]) (st := []) rfl rfl (w := 0) rfl (by decide) (by decide) (by decide) (by decide) (res := .int (f_ok (nar .byte v262) (7 : Int32) (1 : Int32) (1 : Int32) v1 v262)) ?_
                      refine Go.if0 C at_291 (z_eq _) (qt := 298) (q := 294) (by decide) (by decide) rfl (fun b311 => ?_) (fun b311 => ?_)
                      ·
                        refine Go.iconst C (0 : Int32) at_298 (q := 299) rfl rfl ?_
                        exact J303 _ (by rw [if_neg b304, if_neg b305, if_neg b306, if_neg b307, if_neg b308, if_neg b309, if_neg b310, if_pos b311])
                      ·
                        refine Go.iconst C (1 : Int32) at_294 (q := 295) rfl rfl ?_
                        refine Go.goto C at_295 (q := 299) (by decide) (by decide) ?_
                        exact J303 _ (by rw [if_neg b304, if_neg b305, if_neg b306, if_neg b307, if_neg b308, if_neg b309, if_neg b310, if_neg b311])
      intro v302 hv302
      exact Go.retZ (t := .boolean) (by simp) C at_299 (by decide) (by decide) (congrArg (fun z => some (Value.int z)) (fin5 p0 p1 p2 p3 v1 hv1  hv2  w0 v262 hv262 v302 hv302))
    ·
      refine Go.istore C at_18 (q := 20) rfl (fun z => #[.val (.int p0), .val (.int p1), .val (.int p2), .val (.int p3), .val (.int v1), .val (.int (1 : Int32)), .val (.int z), .unset, .unset, .unset]) (fun _ => rfl) ?_
      intro v312 hv312
      refine Go.bipush C (8 : Int32) at_20 (q := 22) rfl rfl ?_
      refine Go.newP C (hw _ (List.mem_of_getElem? (i := 1) rfl)) (by decide) (cap := 8) (by decide) (by decide) at_22 (q := 24) rfl (k' := 1) rfl (n' := 8) rfl (by decide) (by decide) ?_
      intro h313 a314 cA315 g316 E317 Fn318
      have g320 : n0 ≤ a314 := g316 ▸ Z0
      have F319 : Av Z h313 a314 .byte 8 (iF (fun _ => (0 : Int32))) := Av.of Fn318
      refine Go.astore C at_24 (q := 26) rfl (l' := #[.val (.int p0), .val (.int p1), .val (.int p2), .val (.int p3), .val (.int v1), .val (.int (1 : Int32)), .val (.int v312), .val (.ref a314), .unset, .unset]) rfl rfl ?_
      refine Go.aload C at_26 (q := 28) rfl rfl rfl ?_
      refine Go.iconst C (0 : Int32) at_28 (q := 29) rfl rfl ?_
      refine Go.iload C at_29 (q := 31) rfl rfl ?_
      refine Go.bastore C F319 0 (by decide) (by decide) (by decide) g320 at_31 (q := 32) rfl ?_
      intro h321 W322
      have F323 := F319.sameI W322
      refine Go.aload C at_32 (q := 34) rfl rfl rfl ?_
      refine Go.iconst C (1 : Int32) at_34 (q := 35) rfl rfl ?_
      refine Go.iload C at_35 (q := 37) rfl rfl ?_
      refine Go.bastore C F323 1 (by decide) (by decide) (by decide) g320 at_37 (q := 38) rfl ?_
      intro h324 W325
      have F326 := F323.sameI W325
      refine Go.aload C at_38 (q := 40) rfl rfl rfl ?_
      refine Go.iconst C (2 : Int32) at_40 (q := 41) rfl rfl ?_
      refine Go.iload C at_41 (q := 43) rfl rfl ?_
      refine Go.bastore C F326 2 (by decide) (by decide) (by decide) g320 at_43 (q := 44) rfl ?_
      intro h327 W328
      have F329 := F326.sameI W328
      refine Go.aload C at_44 (q := 46) rfl rfl rfl ?_
      refine Go.iconst C (3 : Int32) at_46 (q := 47) rfl rfl ?_
      refine Go.iload C at_47 (q := 49) rfl rfl ?_
      refine Go.bastore C F329 3 (by decide) (by decide) (by decide) g320 at_49 (q := 50) rfl ?_
      intro h330 W331
      have F332 := F329.sameI W331
      refine Go.aload C at_50 (q := 52) rfl rfl rfl ?_
      refine Go.iconst C (4 : Int32) at_52 (q := 53) rfl rfl ?_
      refine Go.iload C at_53 (q := 55) rfl rfl ?_
      refine Go.bastore C F332 4 (by decide) (by decide) (by decide) g320 at_55 (q := 56) rfl ?_
      intro h333 W334
      have F335 := F332.sameI W334
      refine Go.aload C at_56 (q := 58) rfl rfl rfl ?_
      refine Go.iconst C (5 : Int32) at_58 (q := 59) rfl rfl ?_
      refine Go.iload C at_59 (q := 61) rfl rfl ?_
      refine Go.bastore C F335 5 (by decide) (by decide) (by decide) g320 at_61 (q := 62) rfl ?_
      intro h336 W337
      have F338 := F335.sameI W337
      refine Go.aload C at_62 (q := 64) rfl rfl rfl ?_
      refine Go.bipush C (6 : Int32) at_64 (q := 66) rfl rfl ?_
      refine Go.iload C at_66 (q := 68) rfl rfl ?_
      refine Go.bastore C F338 6 (by decide) (by decide) (by decide) g320 at_68 (q := 69) rfl ?_
      intro h339 W340
      have F341 := F338.sameI W340
      refine Go.aload C at_69 (q := 71) rfl rfl rfl ?_
      refine Go.bipush C (7 : Int32) at_71 (q := 73) rfl rfl ?_
      refine Go.iload C at_73 (q := 75) rfl rfl ?_
      refine Go.bastore C F341 7 (by decide) (by decide) (by decide) g320 at_75 (q := 76) rfl ?_
      intro h342 W343
      have F344 := F341.sameI W343
      refine Go.aload C at_76 (q := 78) rfl rfl rfl ?_
      refine Go.iload C at_78 (q := 80) rfl rfl ?_
      refine Go.iload C at_80 (q := 82) rfl rfl ?_
      have F345 := (Nat.le_trans (Nat.le_trans (Nat.le_trans (Nat.le_trans (Nat.le_trans (Nat.le_trans (Nat.le_trans (Nat.le_trans (Nat.le_trans Z0 E317.1) (Nat.le_of_eq W322.size.symm)) (Nat.le_of_eq W325.size.symm)) (Nat.le_of_eq W328.size.symm)) (Nat.le_of_eq W331.size.symm)) (Nat.le_of_eq W334.size.symm)) (Nat.le_of_eq W337.size.symm)) (Nat.le_of_eq W340.size.symm)) (Nat.le_of_eq W343.size.symm))
      refine Go.callS C (hw _ (List.mem_of_getElem? (i := 2) rfl)) (hw _ (List.mem_of_getElem? (i := 3) rfl)) (hw _ (List.mem_of_getElem? (i := 4) rfl)) (hw _ (List.mem_of_getElem? (i := 5) rfl)) (c_put1_2 W.l Z a0 hw a314 v1 h342 n0 (upd (upd (upd (upd (upd (upd (upd (upd (fun _ => (0 : Int32)) 0 (nar .byte v312)) 1 (nar .byte v312)) 2 (nar .byte v312)) 3 (nar .byte v312)) 4 (nar .byte v312)) 5 (nar .byte v312)) 6 (nar .byte v312)) 7 (nar .byte v312)) F345 F344 g320 w0 w1) at_82 pd__40_91BII_41I (q := 85) rfl rfl (argsL := [(.ref a314), (.int (1 : Int32)), (.int v1)]) (st := []) rfl rfl (w := 0) rfl (by decide) (by decide) (k' := 1) rfl (n' := 8) rfl (by decide) (by decide) ?_
      intro v h346 q
      obtain ⟨rfl, K347, F348⟩ := q
      show Go W n0 QL h346 1 8 85 #[.val (.int p0), .val (.int p1), .val (.int p2), .val (.int p3), .val (.int v1), .val (.int (1 : Int32)), .val (.int v312), .val (.ref a314), .unset, .unset] [(.int (3 : Int32))]
      refine Go.istoreR C at_85 (q := 87) rfl (l' := #[.val (.int p0), .val (.int p1), .val (.int p2), .val (.int p3), .val (.int v1), .val (.int (1 : Int32)), .val (.int v312), .val (.ref a314), .val (.int (3 : Int32)), .unset]) rfl ?_
      refine Go.iload C at_87 (q := 89) rfl rfl ?_
      refine Go.sipush C (128 : Int32) at_89 (q := 92) rfl rfl ?_
      refine Go.icmp C at_92 (n_ge _ _) (qt := 101) (q := 95) (by decide) (by decide) rfl (fun _ => ?_) (fun b349 => absurd t0 b349)
      refine Go.iload C at_101 (q := 103) rfl rfl ?_
      refine Go.sipush C (16384 : Int32) at_103 (q := 106) rfl rfl ?_
      refine Go.icmp C at_106 (n_ge _ _) (qt := 115) (q := 109) (by decide) (by decide) rfl (fun b350 => absurd t1 b350) (fun _ => ?_)
      refine Go.iconst C (2 : Int32) at_109 (q := 110) rfl rfl ?_
      refine Go.istoreR C at_110 (q := 112) rfl (l' := #[.val (.int p0), .val (.int p1), .val (.int p2), .val (.int p3), .val (.int v1), .val (.int (1 : Int32)), .val (.int v312), .val (.ref a314), .val (.int (3 : Int32)), .val (.int (2 : Int32))]) rfl ?_
      refine Go.goto C at_112 (q := 144) (by decide) (by decide) ?_
      refine Go.iload C at_144 (q := 146) rfl rfl ?_
      refine Go.iload C at_146 (q := 148) rfl rfl ?_
      refine Go.iload C at_148 (q := 150) rfl rfl ?_
      refine Go.iadd C at_150 (q := 151) rfl ?_
      refine Go.icmp C at_151 (n_eq _ _) (qt := 156) (q := 154) (by decide) (by decide) rfl (fun _ => ?_) (fun b351 => absurd b351 (by decide))
      refine Go.aload C at_156 (q := 158) rfl rfl rfl ?_
      refine Go.iconst C (0 : Int32) at_158 (q := 159) rfl rfl ?_
      refine Go.iload C at_159 (q := 161) rfl rfl ?_
      refine Go.iload C at_161 (q := 163) rfl rfl ?_
      refine Go.iload C at_163 (q := 165) rfl rfl ?_
      refine Go.iload C at_165 (q := 167) rfl rfl ?_
      have F352 := (Nat.le_trans F345 K347.1)
      refine Go.pureS C (hw _ (List.mem_of_getElem? (i := 6) rfl)) (hw _ (List.mem_of_getElem? (i := 7) rfl)) (hw _ (List.mem_of_getElem? (i := 8) rfl)) (hw _ (List.mem_of_getElem? (i := 9) rfl)) (c_f_ok W.l Z a0 hw a314 (0 : Int32) (1 : Int32) (2 : Int32) v1 v312 h346 n0 (upd (upd (upd (upd (upd (upd (upd (upd (upd (upd (fun _ => (0 : Int32)) 0 (nar .byte v312)) 1 (nar .byte v312)) 2 (nar .byte v312)) 3 (nar .byte v312)) 4 (nar .byte v312)) 5 (nar .byte v312)) 6 (nar .byte v312)) 7 (nar .byte v312)) 1 (nar .byte (v1 ||| (128 : Int32)).toInt8.toInt32)) 2 (nar .byte ((v1.toUInt32 >>> ((7 : Int32) &&& 31).toUInt32).toInt32).toInt8.toInt32)) F352 F348 (by decide)) at_167 pd__40_91BIIIIB_41Z (q := 170) rfl rfl (argsL := [(.ref a314), (.int (0 : Int32)), (.int (1 : Int32)), (.int (2 : Int32)), (.int v1), (.int v312)]) (st := []) rfl rfl (w := 0) rfl (by decide) (by decide) (by decide) (by decide) (res := .int (f_ok (nar .byte v312) (0 : Int32) (1 : Int32) (2 : Int32) v1 v312)) ?_
      suffices J354 : ∀ v353 : Int32, v353 = (if (f_ok (nar .byte v312) (0 : Int32) (1 : Int32) (2 : Int32) v1 v312) = (0 : Int32) then (0 : Int32) else (if (f_ok (nar .byte (v1 ||| (128 : Int32)).toInt8.toInt32) (1 : Int32) (1 : Int32) (2 : Int32) v1 v312) = (0 : Int32) then (0 : Int32) else (if (f_ok (nar .byte ((v1.toUInt32 >>> ((7 : Int32) &&& 31).toUInt32).toInt32).toInt8.toInt32) (2 : Int32) (1 : Int32) (2 : Int32) v1 v312) = (0 : Int32) then (0 : Int32) else (if (f_ok (nar .byte v312) (3 : Int32) (1 : Int32) (2 : Int32) v1 v312) = (0 : Int32) then (0 : Int32) else (if (f_ok (nar .byte v312) (4 : Int32) (1 : Int32) (2 : Int32) v1 v312) = (0 : Int32) then (0 : Int32) else (if (f_ok (nar .byte v312) (5 : Int32) (1 : Int32) (2 : Int32) v1 v312) = (0 : Int32) then (0 : Int32) else (if (f_ok (nar .byte v312) (6 : Int32) (1 : Int32) (2 : Int32) v1 v312) = (0 : Int32) then (0 : Int32) else (if (f_ok (nar .byte v312) (7 : Int32) (1 : Int32) (2 : Int32) v1 v312) = (0 : Int32) then (0 : Int32) else (1 : Int32))))))))) → Go W n0 QL h346 1 8 299 #[.val (.int p0), .val (.int p1), .val (.int p2), .val (.int p3), .val (.int v1), .val (.int (1 : Int32)), .val (.int v312), .val (.ref a314), .val (.int (3 : Int32)), .val (.int (2 : Int32))] [(.int v353)] by
        refine Go.if0 C at_170 (z_eq _) (qt := 298) (q := 173) (by decide) (by decide) rfl (fun b355 => ?_) (fun b355 => ?_)
        ·
          refine Go.iconst C (0 : Int32) at_298 (q := 299) rfl rfl ?_
          exact J354 _ (by rw [if_pos b355])
        ·
          refine Go.aload C at_173 (q := 175) rfl rfl rfl ?_
          refine Go.iconst C (1 : Int32) at_175 (q := 176) rfl rfl ?_
          refine Go.iload C at_176 (q := 178) rfl rfl ?_
          refine Go.iload C at_178 (q := 180) rfl rfl ?_
          refine Go.iload C at_180 (q := 182) rfl rfl ?_
          refine Go.iload C at_182 (q := 184) rfl rfl ?_
          refine Go.pureS C (hw _ (List.mem_of_getElem? (i := 6) rfl)) (hw _ (List.mem_of_getElem? (i := 7) rfl)) (hw _ (List.mem_of_getElem? (i := 8) rfl)) (hw _ (List.mem_of_getElem? (i := 9) rfl)) (c_f_ok W.l Z a0 hw a314 (1 : Int32) (1 : Int32) (2 : Int32) v1 v312 h346 n0 (upd (upd (upd (upd (upd (upd (upd (upd (upd (upd (fun _ => (0 : Int32)) 0 (nar .byte v312)) 1 (nar .byte v312)) 2 (nar .byte v312)) 3 (nar .byte v312)) 4 (nar .byte v312)) 5 (nar .byte v312)) 6 (nar .byte v312)) 7 (nar .byte v312)) 1 (nar .byte (v1 ||| (128 : Int32)).toInt8.toInt32)) 2 (nar .byte ((v1.toUInt32 >>> ((7 : Int32) &&& 31).toUInt32).toInt32).toInt8.toInt32)) F352 F348 (by decide)) at_184 pd__40_91BIIIIB_41Z (q := 187) rfl rfl (argsL := [(.ref a314), (.int (1 : Int32)), (.int (1 : Int32)), (.int (2 : Int32)), (.int v1), (.int v312)]) (st := []) rfl rfl (w := 0) rfl (by decide) (by decide) (by decide) (by decide) (res := .int (f_ok (nar .byte (v1 ||| (128 : Int32)).toInt8.toInt32) (1 : Int32) (1 : Int32) (2 : Int32) v1 v312)) ?_
          refine Go.if0 C at_187 (z_eq _) (qt := 298) (q := 190) (by decide) (by decide) rfl (fun b356 => ?_) (fun b356 => ?_)
          ·
            refine Go.iconst C (0 : Int32) at_298 (q := 299) rfl rfl ?_
            exact J354 _ (by rw [if_neg b355, if_pos b356])
          ·
            refine Go.aload C at_190 (q := 192) rfl rfl rfl ?_
            refine Go.iconst C (2 : Int32) at_192 (q := 193) rfl rfl ?_
            refine Go.iload C at_193 (q := 195) rfl rfl ?_
            refine Go.iload C at_195 (q := 197) rfl rfl ?_
            refine Go.iload C at_197 (q := 199) rfl rfl ?_
            refine Go.iload C at_199 (q := 201) rfl rfl ?_
            refine Go.pureS C (hw _ (List.mem_of_getElem? (i := 6) rfl)) (hw _ (List.mem_of_getElem? (i := 7) rfl)) (hw _ (List.mem_of_getElem? (i := 8) rfl)) (hw _ (List.mem_of_getElem? (i := 9) rfl)) (c_f_ok W.l Z a0 hw a314 (2 : Int32) (1 : Int32) (2 : Int32) v1 v312 h346 n0 (upd (upd (upd (upd (upd (upd (upd (upd (upd (upd (fun _ => (0 : Int32)) 0 (nar .byte v312)) 1 (nar .byte v312)) 2 (nar .byte v312)) 3 (nar .byte v312)) 4 (nar .byte v312)) 5 (nar .byte v312)) 6 (nar .byte v312)) 7 (nar .byte v312)) 1 (nar .byte (v1 ||| (128 : Int32)).toInt8.toInt32)) 2 (nar .byte ((v1.toUInt32 >>> ((7 : Int32) &&& 31).toUInt32).toInt32).toInt8.toInt32)) F352 F348 (by decide)) at_201 pd__40_91BIIIIB_41Z (q := 204) rfl rfl (argsL := [(.ref a314), (.int (2 : Int32)), (.int (1 : Int32)), (.int (2 : Int32)), (.int v1), (.int v312)]) (st := []) rfl rfl (w := 0) rfl (by decide) (by decide) (by decide) (by decide) (res := .int (f_ok (nar .byte ((v1.toUInt32 >>> ((7 : Int32) &&& 31).toUInt32).toInt32).toInt8.toInt32) (2 : Int32) (1 : Int32) (2 : Int32) v1 v312)) ?_
            refine Go.if0 C at_204 (z_eq _) (qt := 298) (q := 207) (by decide) (by decide) rfl (fun b357 => ?_) (fun b357 => ?_)
            ·
              refine Go.iconst C (0 : Int32) at_298 (q := 299) rfl rfl ?_
              exact J354 _ (by rw [if_neg b355, if_neg b356, if_pos b357])
            ·
              refine Go.aload C at_207 (q := 209) rfl rfl rfl ?_
              refine Go.iconst C (3 : Int32) at_209 (q := 210) rfl rfl ?_
              refine Go.iload C at_210 (q := 212) rfl rfl ?_
              refine Go.iload C at_212 (q := 214) rfl rfl ?_
              refine Go.iload C at_214 (q := 216) rfl rfl ?_
              refine Go.iload C at_216 (q := 218) rfl rfl ?_
              refine Go.pureS C (hw _ (List.mem_of_getElem? (i := 6) rfl)) (hw _ (List.mem_of_getElem? (i := 7) rfl)) (hw _ (List.mem_of_getElem? (i := 8) rfl)) (hw _ (List.mem_of_getElem? (i := 9) rfl)) (c_f_ok W.l Z a0 hw a314 (3 : Int32) (1 : Int32) (2 : Int32) v1 v312 h346 n0 (upd (upd (upd (upd (upd (upd (upd (upd (upd (upd (fun _ => (0 : Int32)) 0 (nar .byte v312)) 1 (nar .byte v312)) 2 (nar .byte v312)) 3 (nar .byte v312)) 4 (nar .byte v312)) 5 (nar .byte v312)) 6 (nar .byte v312)) 7 (nar .byte v312)) 1 (nar .byte (v1 ||| (128 : Int32)).toInt8.toInt32)) 2 (nar .byte ((v1.toUInt32 >>> ((7 : Int32) &&& 31).toUInt32).toInt32).toInt8.toInt32)) F352 F348 (by decide)) at_218 pd__40_91BIIIIB_41Z (q := 221) rfl rfl (argsL := [(.ref a314), (.int (3 : Int32)), (.int (1 : Int32)), (.int (2 : Int32)), (.int v1), (.int v312)]) (st := []) rfl rfl (w := 0) rfl (by decide) (by decide) (by decide) (by decide) (res := .int (f_ok (nar .byte v312) (3 : Int32) (1 : Int32) (2 : Int32) v1 v312)) ?_
              refine Go.if0 C at_221 (z_eq _) (qt := 298) (q := 224) (by decide) (by decide) rfl (fun b358 => ?_) (fun b358 => ?_)
              ·
                refine Go.iconst C (0 : Int32) at_298 (q := 299) rfl rfl ?_
                exact J354 _ (by rw [if_neg b355, if_neg b356, if_neg b357, if_pos b358])
              ·
                refine Go.aload C at_224 (q := 226) rfl rfl rfl ?_
                refine Go.iconst C (4 : Int32) at_226 (q := 227) rfl rfl ?_
                refine Go.iload C at_227 (q := 229) rfl rfl ?_
                refine Go.iload C at_229 (q := 231) rfl rfl ?_
                refine Go.iload C at_231 (q := 233) rfl rfl ?_
                refine Go.iload C at_233 (q := 235) rfl rfl ?_
                refine Go.pureS C (hw _ (List.mem_of_getElem? (i := 6) rfl)) (hw _ (List.mem_of_getElem? (i := 7) rfl)) (hw _ (List.mem_of_getElem? (i := 8) rfl)) (hw _ (List.mem_of_getElem? (i := 9) rfl)) (c_f_ok W.l Z a0 hw a314 (4 : Int32) (1 : Int32) (2 : Int32) v1 v312 h346 n0 (upd (upd (upd (upd (upd (upd (upd (upd (upd (upd (fun _ => (0 : Int32)) 0 (nar .byte v312)) 1 (nar .byte v312)) 2 (nar .byte v312)) 3 (nar .byte v312)) 4 (nar .byte v312)) 5 (nar .byte v312)) 6 (nar .byte v312)) 7 (nar .byte v312)) 1 (nar .byte (v1 ||| (128 : Int32)).toInt8.toInt32)) 2 (nar .byte ((v1.toUInt32 >>> ((7 : Int32) &&& 31).toUInt32).toInt32).toInt8.toInt32)) F352 F348 (by decide)) at_235 pd__40_91BIIIIB_41Z (q := 238) rfl rfl (argsL := [(.ref a314), (.int (4 : Int32)), (.int (1 : Int32)), (.int (2 : Int32)), (.int v1), (.int v312)]) (st := []) rfl rfl (w := 0) rfl (by decide) (by decide) (by decide) (by decide) (res := .int (f_ok (nar .byte v312) (4 : Int32) (1 : Int32) (2 : Int32) v1 v312)) ?_
                refine Go.if0 C at_238 (z_eq _) (qt := 298) (q := 241) (by decide) (by decide) rfl (fun b359 => ?_) (fun b359 => ?_)
                ·
                  refine Go.iconst C (0 : Int32) at_298 (q := 299) rfl rfl ?_
                  exact J354 _ (by rw [if_neg b355, if_neg b356, if_neg b357, if_neg b358, if_pos b359])
                ·
                  refine Go.aload C at_241 (q := 243) rfl rfl rfl ?_
                  refine Go.iconst C (5 : Int32) at_243 (q := 244) rfl rfl ?_
                  refine Go.iload C at_244 (q := 246) rfl rfl ?_
                  refine Go.iload C at_246 (q := 248) rfl rfl ?_
                  refine Go.iload C at_248 (q := 250) rfl rfl ?_
                  refine Go.iload C at_250 (q := 252) rfl rfl ?_
                  refine Go.pureS C (hw _ (List.mem_of_getElem? (i := 6) rfl)) (hw _ (List.mem_of_getElem? (i := 7) rfl)) (hw _ (List.mem_of_getElem? (i := 8) rfl)) (hw _ (List.mem_of_getElem? (i := 9) rfl)) (c_f_ok W.l Z a0 hw a314 (5 : Int32) (1 : Int32) (2 : Int32) v1 v312 h346 n0 (upd (upd (upd (upd (upd (upd (upd (upd (upd (upd (fun _ => (0 : Int32)) 0 (nar .byte v312)) 1 (nar .byte v312)) 2 (nar .byte v312)) 3 (nar .byte v312)) 4 (nar .byte v312)) 5 (nar .byte v312)) 6 (nar .byte v312)) 7 (nar .byte v312)) 1 (nar .byte (v1 ||| (128 : Int32)).toInt8.toInt32)) 2 (nar .byte ((v1.toUInt32 >>> ((7 : Int32) &&& 31).toUInt32).toInt32).toInt8.toInt32)) F352 F348 (by decide)) at_252 pd__40_91BIIIIB_41Z (q := 255) rfl rfl (argsL := [(.ref a314), (.int (5 : Int32)), (.int (1 : Int32)), (.int (2 : Int32)), (.int v1), (.int v312)]) (st := []) rfl rfl (w := 0) rfl (by decide) (by decide) (by decide) (by decide) (res := .int (f_ok (nar .byte v312) (5 : Int32) (1 : Int32) (2 : Int32) v1 v312)) ?_
                  refine Go.if0 C at_255 (z_eq _) (qt := 298) (q := 258) (by decide) (by decide) rfl (fun b360 => ?_) (fun b360 => ?_)
                  ·
                    refine Go.iconst C (0 : Int32) at_298 (q := 299) rfl rfl ?_
                    exact J354 _ (by rw [if_neg b355, if_neg b356, if_neg b357, if_neg b358, if_neg b359, if_pos b360])
                  ·
                    refine Go.aload C at_258 (q := 260) rfl rfl rfl ?_
                    refine Go.bipush C (6 : Int32) at_260 (q := 262) rfl rfl ?_
                    refine Go.iload C at_262 (q := 264) rfl rfl ?_
                    refine Go.iload C at_264 (q := 266) rfl rfl ?_
                    refine Go.iload C at_266 (q := 268) rfl rfl ?_
                    refine Go.iload C at_268 (q := 270) rfl rfl ?_
                    refine Go.pureS C (hw _ (List.mem_of_getElem? (i := 6) rfl)) (hw _ (List.mem_of_getElem? (i := 7) rfl)) (hw _ (List.mem_of_getElem? (i := 8) rfl)) (hw _ (List.mem_of_getElem? (i := 9) rfl)) (c_f_ok W.l Z a0 hw a314 (6 : Int32) (1 : Int32) (2 : Int32) v1 v312 h346 n0 (upd (upd (upd (upd (upd (upd (upd (upd (upd (upd (fun _ => (0 : Int32)) 0 (nar .byte v312)) 1 (nar .byte v312)) 2 (nar .byte v312)) 3 (nar .byte v312)) 4 (nar .byte v312)) 5 (nar .byte v312)) 6 (nar .byte v312)) 7 (nar .byte v312)) 1 (nar .byte (v1 ||| (128 : Int32)).toInt8.toInt32)) 2 (nar .byte ((v1.toUInt32 >>> ((7 : Int32) &&& 31).toUInt32).toInt32).toInt8.toInt32)) F352 F348 (by decide)) at_270 pd__40_91BIIIIB_41Z (q := 273) rfl rfl (argsL := [(.ref a314), (.int (6 : Int32)), (.int (1 : Int32)), (.int (2 : Int32)), (.int v1), (.int v312)]) (st := []) rfl rfl (w := 0) rfl (by decide) (by decide) (by decide) (by decide) (res := .int (f_ok (nar .byte v312) (6 : Int32) (1 : Int32) (2 : Int32) v1 v312)) ?_
                    refine Go.if0 C at_273 (z_eq _) (qt := 298) (q := 276) (by decide) (by decide) rfl (fun b361 => ?_) (fun b361 => ?_)
                    ·
                      refine Go.iconst C (0 : Int32) at_298 (q := 299) rfl rfl ?_
                      exact J354 _ (by rw [if_neg b355, if_neg b356, if_neg b357, if_neg b358, if_neg b359, if_neg b360, if_pos b361])
                    ·
                      refine Go.aload C at_276 (q := 278) rfl rfl rfl ?_
                      refine Go.bipush C (7 : Int32) at_278 (q := 280) rfl rfl ?_
                      refine Go.iload C at_280 (q := 282) rfl rfl ?_
                      refine Go.iload C at_282 (q := 284) rfl rfl ?_
                      refine Go.iload C at_284 (q := 286) rfl rfl ?_
                      refine Go.iload C at_286 (q := 288) rfl rfl ?_
                      refine Go.pureS C (hw _ (List.mem_of_getElem? (i := 6) rfl)) (hw _ (List.mem_of_getElem? (i := 7) rfl)) (hw _ (List.mem_of_getElem? (i := 8) rfl)) (hw _ (List.mem_of_getElem? (i := 9) rfl)) (c_f_ok W.l Z a0 hw a314 (7 : Int32) (1 : Int32) (2 : Int32) v1 v312 h346 n0 (upd (upd (upd (upd (upd (upd (upd (upd (upd (upd (fun _ => (0 : Int32)) 0 (nar .byte v312)) 1 (nar .byte v312)) 2 (nar .byte v312)) 3 (nar .byte v312)) 4 (nar .byte v312)) 5 (nar .byte v312)) 6 (nar .byte v312)) 7 (nar .byte v312)) 1 (nar .byte (v1 ||| (128 : Int32)).toInt8.toInt32)) 2 (nar .byte ((v1.toUInt32 >>> ((7 : Int32) &&& 31).toUInt32).toInt32).toInt8.toInt32)) F352 F348 (by decide)) at_288 pd__40_91BIIIIB_41Z (q := 291) rfl rfl (argsL := [(.ref a314), (.int (7 : Int32)), (.int (1 : Int32)), (.int (2 : Int32)), (.int v1), (.int v312)]) (st := []) rfl rfl (w := 0) rfl (by decide) (by decide) (by decide) (by decide) (res := .int (f_ok (nar .byte v312) (7 : Int32) (1 : Int32) (2 : Int32) v1 v312)) ?_
                      refine Go.if0 C at_291 (z_eq _) (qt := 298) (q := 294) (by decide) (by decide) rfl (fun b362 => ?_) (fun b362 => ?_)
                      ·
                        refine Go.iconst C (0 : Int32) at_298 (q := 299) rfl rfl ?_
                        exact J354 _ (by rw [if_neg b355, if_neg b356, if_neg b357, if_neg b358, if_neg b359, if_neg b360, if_neg b361, if_pos b362])
                      ·
                        refine Go.iconst C (1 : Int32) at_294 (q := 295) rfl rfl ?_
                        refine Go.goto C at_295 (q := 299) (by decide) (by decide) ?_
                        exact J354 _ (by rw [if_neg b355, if_neg b356, if_neg b357, if_neg b358, if_neg b359, if_neg b360, if_neg b361, if_neg b362])
      intro v353 hv353
      exact Go.retZ (t := .boolean) (by simp) C at_299 (by decide) (by decide) (congrArg (fun z => some (Value.int z)) (fin6 p0 p1 p2 p3 v1 hv1  hv2  w0  w1 v312 hv312 v353 hv353))
    ·
      refine Go.istore C at_18 (q := 20) rfl (fun z => #[.val (.int p0), .val (.int p1), .val (.int p2), .val (.int p3), .val (.int v1), .val (.int (1 : Int32)), .val (.int z), .unset, .unset, .unset]) (fun _ => rfl) ?_
      intro v363 hv363
      refine Go.bipush C (8 : Int32) at_20 (q := 22) rfl rfl ?_
      refine Go.newP C (hw _ (List.mem_of_getElem? (i := 1) rfl)) (by decide) (cap := 8) (by decide) (by decide) at_22 (q := 24) rfl (k' := 1) rfl (n' := 8) rfl (by decide) (by decide) ?_
      intro h364 a365 cA366 g367 E368 Fn369
      have g371 : n0 ≤ a365 := g367 ▸ Z0
      have F370 : Av Z h364 a365 .byte 8 (iF (fun _ => (0 : Int32))) := Av.of Fn369
      refine Go.astore C at_24 (q := 26) rfl (l' := #[.val (.int p0), .val (.int p1), .val (.int p2), .val (.int p3), .val (.int v1), .val (.int (1 : Int32)), .val (.int v363), .val (.ref a365), .unset, .unset]) rfl rfl ?_
      refine Go.aload C at_26 (q := 28) rfl rfl rfl ?_
      refine Go.iconst C (0 : Int32) at_28 (q := 29) rfl rfl ?_
      refine Go.iload C at_29 (q := 31) rfl rfl ?_
      refine Go.bastore C F370 0 (by decide) (by decide) (by decide) g371 at_31 (q := 32) rfl ?_
      intro h372 W373
      have F374 := F370.sameI W373
      refine Go.aload C at_32 (q := 34) rfl rfl rfl ?_
      refine Go.iconst C (1 : Int32) at_34 (q := 35) rfl rfl ?_
      refine Go.iload C at_35 (q := 37) rfl rfl ?_
      refine Go.bastore C F374 1 (by decide) (by decide) (by decide) g371 at_37 (q := 38) rfl ?_
      intro h375 W376
      have F377 := F374.sameI W376
      refine Go.aload C at_38 (q := 40) rfl rfl rfl ?_
      refine Go.iconst C (2 : Int32) at_40 (q := 41) rfl rfl ?_
      refine Go.iload C at_41 (q := 43) rfl rfl ?_
      refine Go.bastore C F377 2 (by decide) (by decide) (by decide) g371 at_43 (q := 44) rfl ?_
      intro h378 W379
      have F380 := F377.sameI W379
      refine Go.aload C at_44 (q := 46) rfl rfl rfl ?_
      refine Go.iconst C (3 : Int32) at_46 (q := 47) rfl rfl ?_
      refine Go.iload C at_47 (q := 49) rfl rfl ?_
      refine Go.bastore C F380 3 (by decide) (by decide) (by decide) g371 at_49 (q := 50) rfl ?_
      intro h381 W382
      have F383 := F380.sameI W382
      refine Go.aload C at_50 (q := 52) rfl rfl rfl ?_
      refine Go.iconst C (4 : Int32) at_52 (q := 53) rfl rfl ?_
      refine Go.iload C at_53 (q := 55) rfl rfl ?_
      refine Go.bastore C F383 4 (by decide) (by decide) (by decide) g371 at_55 (q := 56) rfl ?_
      intro h384 W385
      have F386 := F383.sameI W385
      refine Go.aload C at_56 (q := 58) rfl rfl rfl ?_
      refine Go.iconst C (5 : Int32) at_58 (q := 59) rfl rfl ?_
      refine Go.iload C at_59 (q := 61) rfl rfl ?_
      refine Go.bastore C F386 5 (by decide) (by decide) (by decide) g371 at_61 (q := 62) rfl ?_
      intro h387 W388
      have F389 := F386.sameI W388
      refine Go.aload C at_62 (q := 64) rfl rfl rfl ?_
      refine Go.bipush C (6 : Int32) at_64 (q := 66) rfl rfl ?_
      refine Go.iload C at_66 (q := 68) rfl rfl ?_
      refine Go.bastore C F389 6 (by decide) (by decide) (by decide) g371 at_68 (q := 69) rfl ?_
      intro h390 W391
      have F392 := F389.sameI W391
      refine Go.aload C at_69 (q := 71) rfl rfl rfl ?_
      refine Go.bipush C (7 : Int32) at_71 (q := 73) rfl rfl ?_
      refine Go.iload C at_73 (q := 75) rfl rfl ?_
      refine Go.bastore C F392 7 (by decide) (by decide) (by decide) g371 at_75 (q := 76) rfl ?_
      intro h393 W394
      have F395 := F392.sameI W394
      refine Go.aload C at_76 (q := 78) rfl rfl rfl ?_
      refine Go.iload C at_78 (q := 80) rfl rfl ?_
      refine Go.iload C at_80 (q := 82) rfl rfl ?_
      have F396 := (Nat.le_trans (Nat.le_trans (Nat.le_trans (Nat.le_trans (Nat.le_trans (Nat.le_trans (Nat.le_trans (Nat.le_trans (Nat.le_trans Z0 E368.1) (Nat.le_of_eq W373.size.symm)) (Nat.le_of_eq W376.size.symm)) (Nat.le_of_eq W379.size.symm)) (Nat.le_of_eq W382.size.symm)) (Nat.le_of_eq W385.size.symm)) (Nat.le_of_eq W388.size.symm)) (Nat.le_of_eq W391.size.symm)) (Nat.le_of_eq W394.size.symm))
      refine Go.callS C (hw _ (List.mem_of_getElem? (i := 2) rfl)) (hw _ (List.mem_of_getElem? (i := 3) rfl)) (hw _ (List.mem_of_getElem? (i := 4) rfl)) (hw _ (List.mem_of_getElem? (i := 5) rfl)) (c_put1_3 W.l Z a0 hw a365 v1 h393 n0 (upd (upd (upd (upd (upd (upd (upd (upd (fun _ => (0 : Int32)) 0 (nar .byte v363)) 1 (nar .byte v363)) 2 (nar .byte v363)) 3 (nar .byte v363)) 4 (nar .byte v363)) 5 (nar .byte v363)) 6 (nar .byte v363)) 7 (nar .byte v363)) F396 F395 g371 w0 w1 w2) at_82 pd__40_91BII_41I (q := 85) rfl rfl (argsL := [(.ref a365), (.int (1 : Int32)), (.int v1)]) (st := []) rfl rfl (w := 0) rfl (by decide) (by decide) (k' := 1) rfl (n' := 8) rfl (by decide) (by decide) ?_
      intro v h397 q
      obtain ⟨rfl, K398, F399⟩ := q
      show Go W n0 QL h397 1 8 85 #[.val (.int p0), .val (.int p1), .val (.int p2), .val (.int p3), .val (.int v1), .val (.int (1 : Int32)), .val (.int v363), .val (.ref a365), .unset, .unset] [(.int (4 : Int32))]
      refine Go.istoreR C at_85 (q := 87) rfl (l' := #[.val (.int p0), .val (.int p1), .val (.int p2), .val (.int p3), .val (.int v1), .val (.int (1 : Int32)), .val (.int v363), .val (.ref a365), .val (.int (4 : Int32)), .unset]) rfl ?_
      refine Go.iload C at_87 (q := 89) rfl rfl ?_
      refine Go.sipush C (128 : Int32) at_89 (q := 92) rfl rfl ?_
      refine Go.icmp C at_92 (n_ge _ _) (qt := 101) (q := 95) (by decide) (by decide) rfl (fun _ => ?_) (fun b400 => absurd t0 b400)
      refine Go.iload C at_101 (q := 103) rfl rfl ?_
      refine Go.sipush C (16384 : Int32) at_103 (q := 106) rfl rfl ?_
      refine Go.icmp C at_106 (n_ge _ _) (qt := 115) (q := 109) (by decide) (by decide) rfl (fun _ => ?_) (fun b401 => absurd t1 b401)
      refine Go.iload C at_115 (q := 117) rfl rfl ?_
      refine Go.ldcI C (hw _ (List.mem_of_getElem? (i := 10) rfl)) at_117 (q := 119) rfl ?_
      refine Go.icmp C at_119 (n_ge _ _) (qt := 128) (q := 122) (by decide) (by decide) rfl (fun b402 => absurd t2 b402) (fun _ => ?_)
      refine Go.iconst C (3 : Int32) at_122 (q := 123) rfl rfl ?_
      refine Go.istoreR C at_123 (q := 125) rfl (l' := #[.val (.int p0), .val (.int p1), .val (.int p2), .val (.int p3), .val (.int v1), .val (.int (1 : Int32)), .val (.int v363), .val (.ref a365), .val (.int (4 : Int32)), .val (.int (3 : Int32))]) rfl ?_
      refine Go.goto C at_125 (q := 144) (by decide) (by decide) ?_
      refine Go.iload C at_144 (q := 146) rfl rfl ?_
      refine Go.iload C at_146 (q := 148) rfl rfl ?_
      refine Go.iload C at_148 (q := 150) rfl rfl ?_
      refine Go.iadd C at_150 (q := 151) rfl ?_
      refine Go.icmp C at_151 (n_eq _ _) (qt := 156) (q := 154) (by decide) (by decide) rfl (fun _ => ?_) (fun b403 => absurd b403 (by decide))
      refine Go.aload C at_156 (q := 158) rfl rfl rfl ?_
      refine Go.iconst C (0 : Int32) at_158 (q := 159) rfl rfl ?_
      refine Go.iload C at_159 (q := 161) rfl rfl ?_
      refine Go.iload C at_161 (q := 163) rfl rfl ?_
      refine Go.iload C at_163 (q := 165) rfl rfl ?_
      refine Go.iload C at_165 (q := 167) rfl rfl ?_
      have F404 := (Nat.le_trans F396 K398.1)
      refine Go.pureS C (hw _ (List.mem_of_getElem? (i := 6) rfl)) (hw _ (List.mem_of_getElem? (i := 7) rfl)) (hw _ (List.mem_of_getElem? (i := 8) rfl)) (hw _ (List.mem_of_getElem? (i := 9) rfl)) (c_f_ok W.l Z a0 hw a365 (0 : Int32) (1 : Int32) (3 : Int32) v1 v363 h397 n0 (upd (upd (upd (upd (upd (upd (upd (upd (upd (upd (upd (fun _ => (0 : Int32)) 0 (nar .byte v363)) 1 (nar .byte v363)) 2 (nar .byte v363)) 3 (nar .byte v363)) 4 (nar .byte v363)) 5 (nar .byte v363)) 6 (nar .byte v363)) 7 (nar .byte v363)) 1 (nar .byte (v1 ||| (128 : Int32)).toInt8.toInt32)) 2 (nar .byte (((v1.toUInt32 >>> ((7 : Int32) &&& 31).toUInt32).toInt32) ||| (128 : Int32)).toInt8.toInt32)) 3 (nar .byte ((((v1.toUInt32 >>> ((7 : Int32) &&& 31).toUInt32).toInt32).toUInt32 >>> ((7 : Int32) &&& 31).toUInt32).toInt32).toInt8.toInt32)) F404 F399 (by decide)) at_167 pd__40_91BIIIIB_41Z (q := 170) rfl rfl (argsL := [(.ref a365), (.int (0 : Int32)), (.int (1 : Int32)), (.int (3 : Int32)), (.int v1), (.int v363)]) (st := []) rfl rfl (w := 0) rfl (by decide) (by decide) (by decide) (by decide) (res := .int (f_ok (nar .byte v363) (0 : Int32) (1 : Int32) (3 : Int32) v1 v363)) ?_
      suffices J406 : ∀ v405 : Int32, v405 = (if (f_ok (nar .byte v363) (0 : Int32) (1 : Int32) (3 : Int32) v1 v363) = (0 : Int32) then (0 : Int32) else (if (f_ok (nar .byte (v1 ||| (128 : Int32)).toInt8.toInt32) (1 : Int32) (1 : Int32) (3 : Int32) v1 v363) = (0 : Int32) then (0 : Int32) else (if (f_ok (nar .byte (((v1.toUInt32 >>> ((7 : Int32) &&& 31).toUInt32).toInt32) ||| (128 : Int32)).toInt8.toInt32) (2 : Int32) (1 : Int32) (3 : Int32) v1 v363) = (0 : Int32) then (0 : Int32) else (if (f_ok (nar .byte ((((v1.toUInt32 >>> ((7 : Int32) &&& 31).toUInt32).toInt32).toUInt32 >>> ((7 : Int32) &&& 31).toUInt32).toInt32).toInt8.toInt32) (3 : Int32) (1 : Int32) (3 : Int32) v1 v363) = (0 : Int32) then (0 : Int32) else (if (f_ok (nar .byte v363) (4 : Int32) (1 : Int32) (3 : Int32) v1 v363) = (0 : Int32) then (0 : Int32) else (if (f_ok (nar .byte v363) (5 : Int32) (1 : Int32) (3 : Int32) v1 v363) = (0 : Int32) then (0 : Int32) else (if (f_ok (nar .byte v363) (6 : Int32) (1 : Int32) (3 : Int32) v1 v363) = (0 : Int32) then (0 : Int32) else (if (f_ok (nar .byte v363) (7 : Int32) (1 : Int32) (3 : Int32) v1 v363) = (0 : Int32) then (0 : Int32) else (1 : Int32))))))))) → Go W n0 QL h397 1 8 299 #[.val (.int p0), .val (.int p1), .val (.int p2), .val (.int p3), .val (.int v1), .val (.int (1 : Int32)), .val (.int v363), .val (.ref a365), .val (.int (4 : Int32)), .val (.int (3 : Int32))] [(.int v405)] by
        refine Go.if0 C at_170 (z_eq _) (qt := 298) (q := 173) (by decide) (by decide) rfl (fun b407 => ?_) (fun b407 => ?_)
        ·
          refine Go.iconst C (0 : Int32) at_298 (q := 299) rfl rfl ?_
          exact J406 _ (by rw [if_pos b407])
        ·
          refine Go.aload C at_173 (q := 175) rfl rfl rfl ?_
          refine Go.iconst C (1 : Int32) at_175 (q := 176) rfl rfl ?_
          refine Go.iload C at_176 (q := 178) rfl rfl ?_
          refine Go.iload C at_178 (q := 180) rfl rfl ?_
          refine Go.iload C at_180 (q := 182) rfl rfl ?_
          refine Go.iload C at_182 (q := 184) rfl rfl ?_
          refine Go.pureS C (hw _ (List.mem_of_getElem? (i := 6) rfl)) (hw _ (List.mem_of_getElem? (i := 7) rfl)) (hw _ (List.mem_of_getElem? (i := 8) rfl)) (hw _ (List.mem_of_getElem? (i := 9) rfl)) (c_f_ok W.l Z a0 hw a365 (1 : Int32) (1 : Int32) (3 : Int32) v1 v363 h397 n0 (upd (upd (upd (upd (upd (upd (upd (upd (upd (upd (upd (fun _ => (0 : Int32)) 0 (nar .byte v363)) 1 (nar .byte v363)) 2 (nar .byte v363)) 3 (nar .byte v363)) 4 (nar .byte v363)) 5 (nar .byte v363)) 6 (nar .byte v363)) 7 (nar .byte v363)) 1 (nar .byte (v1 ||| (128 : Int32)).toInt8.toInt32)) 2 (nar .byte (((v1.toUInt32 >>> ((7 : Int32) &&& 31).toUInt32).toInt32) ||| (128 : Int32)).toInt8.toInt32)) 3 (nar .byte ((((v1.toUInt32 >>> ((7 : Int32) &&& 31).toUInt32).toInt32).toUInt32 >>> ((7 : Int32) &&& 31).toUInt32).toInt32).toInt8.toInt32)) F404 F399 (by decide)) at_184 pd__40_91BIIIIB_41Z (q := 187) rfl rfl (argsL := [(.ref a365), (.int (1 : Int32)), (.int (1 : Int32)), (.int (3 : Int32)), (.int v1), (.int v363)]) (st := []) rfl rfl (w := 0) rfl (by decide) (by decide) (by decide) (by decide) (res := .int (f_ok (nar .byte (v1 ||| (128 : Int32)).toInt8.toInt32) (1 : Int32) (1 : Int32) (3 : Int32) v1 v363)) ?_
          refine Go.if0 C at_187 (z_eq _) (qt := 298) (q := 190) (by decide) (by decide) rfl (fun b408 => ?_) (fun b408 => ?_)
          ·
            refine Go.iconst C (0 : Int32) at_298 (q := 299) rfl rfl ?_
            exact J406 _ (by rw [if_neg b407, if_pos b408])
          ·
            refine Go.aload C at_190 (q := 192) rfl rfl rfl ?_
            refine Go.iconst C (2 : Int32) at_192 (q := 193) rfl rfl ?_
            refine Go.iload C at_193 (q := 195) rfl rfl ?_
            refine Go.iload C at_195 (q := 197) rfl rfl ?_
            refine Go.iload C at_197 (q := 199) rfl rfl ?_
            refine Go.iload C at_199 (q := 201) rfl rfl ?_
            refine Go.pureS C (hw _ (List.mem_of_getElem? (i := 6) rfl)) (hw _ (List.mem_of_getElem? (i := 7) rfl)) (hw _ (List.mem_of_getElem? (i := 8) rfl)) (hw _ (List.mem_of_getElem? (i := 9) rfl)) (c_f_ok W.l Z a0 hw a365 (2 : Int32) (1 : Int32) (3 : Int32) v1 v363 h397 n0 (upd (upd (upd (upd (upd (upd (upd (upd (upd (upd (upd (fun _ => (0 : Int32)) 0 (nar .byte v363)) 1 (nar .byte v363)) 2 (nar .byte v363)) 3 (nar .byte v363)) 4 (nar .byte v363)) 5 (nar .byte v363)) 6 (nar .byte v363)) 7 (nar .byte v363)) 1 (nar .byte (v1 ||| (128 : Int32)).toInt8.toInt32)) 2 (nar .byte (((v1.toUInt32 >>> ((7 : Int32) &&& 31).toUInt32).toInt32) ||| (128 : Int32)).toInt8.toInt32)) 3 (nar .byte ((((v1.toUInt32 >>> ((7 : Int32) &&& 31).toUInt32).toInt32).toUInt32 >>> ((7 : Int32) &&& 31).toUInt32).toInt32).toInt8.toInt32)) F404 F399 (by decide)) at_201 pd__40_91BIIIIB_41Z (q := 204) rfl rfl (argsL := [(.ref a365), (.int (2 : Int32)), (.int (1 : Int32)), (.int (3 : Int32)), (.int v1), (.int v363)]) (st := []) rfl rfl (w := 0) rfl (by decide) (by decide) (by decide) (by decide) (res := .int (f_ok (nar .byte (((v1.toUInt32 >>> ((7 : Int32) &&& 31).toUInt32).toInt32) ||| (128 : Int32)).toInt8.toInt32) (2 : Int32) (1 : Int32) (3 : Int32) v1 v363)) ?_
            refine Go.if0 C at_204 (z_eq _) (qt := 298) (q := 207) (by decide) (by decide) rfl (fun b409 => ?_) (fun b409 => ?_)
            ·
              refine Go.iconst C (0 : Int32) at_298 (q := 299) rfl rfl ?_
              exact J406 _ (by rw [if_neg b407, if_neg b408, if_pos b409])
            ·
              refine Go.aload C at_207 (q := 209) rfl rfl rfl ?_
              refine Go.iconst C (3 : Int32) at_209 (q := 210) rfl rfl ?_
              refine Go.iload C at_210 (q := 212) rfl rfl ?_
              refine Go.iload C at_212 (q := 214) rfl rfl ?_
              refine Go.iload C at_214 (q := 216) rfl rfl ?_
              refine Go.iload C at_216 (q := 218) rfl rfl ?_
              refine Go.pureS C (hw _ (List.mem_of_getElem? (i := 6) rfl)) (hw _ (List.mem_of_getElem? (i := 7) rfl)) (hw _ (List.mem_of_getElem? (i := 8) rfl)) (hw _ (List.mem_of_getElem? (i := 9) rfl)) (c_f_ok W.l Z a0 hw a365 (3 : Int32) (1 : Int32) (3 : Int32) v1 v363 h397 n0 (upd (upd (upd (upd (upd (upd (upd (upd (upd (upd (upd (fun _ => (0 : Int32)) 0 (nar .byte v363)) 1 (nar .byte v363)) 2 (nar .byte v363)) 3 (nar .byte v363)) 4 (nar .byte v363)) 5 (nar .byte v363)) 6 (nar .byte v363)) 7 (nar .byte v363)) 1 (nar .byte (v1 ||| (128 : Int32)).toInt8.toInt32)) 2 (nar .byte (((v1.toUInt32 >>> ((7 : Int32) &&& 31).toUInt32).toInt32) ||| (128 : Int32)).toInt8.toInt32)) 3 (nar .byte ((((v1.toUInt32 >>> ((7 : Int32) &&& 31).toUInt32).toInt32).toUInt32 >>> ((7 : Int32) &&& 31).toUInt32).toInt32).toInt8.toInt32)) F404 F399 (by decide)) at_218 pd__40_91BIIIIB_41Z (q := 221) rfl rfl (argsL := [(.ref a365), (.int (3 : Int32)), (.int (1 : Int32)), (.int (3 : Int32)), (.int v1), (.int v363)]) (st := []) rfl rfl (w := 0) rfl (by decide) (by decide) (by decide) (by decide) (res := .int (f_ok (nar .byte ((((v1.toUInt32 >>> ((7 : Int32) &&& 31).toUInt32).toInt32).toUInt32 >>> ((7 : Int32) &&& 31).toUInt32).toInt32).toInt8.toInt32) (3 : Int32) (1 : Int32) (3 : Int32) v1 v363)) ?_
              refine Go.if0 C at_221 (z_eq _) (qt := 298) (q := 224) (by decide) (by decide) rfl (fun b410 => ?_) (fun b410 => ?_)
              ·
                refine Go.iconst C (0 : Int32) at_298 (q := 299) rfl rfl ?_
                exact J406 _ (by rw [if_neg b407, if_neg b408, if_neg b409, if_pos b410])
              ·
                refine Go.aload C at_224 (q := 226) rfl rfl rfl ?_
                refine Go.iconst C (4 : Int32) at_226 (q := 227) rfl rfl ?_
                refine Go.iload C at_227 (q := 229) rfl rfl ?_
                refine Go.iload C at_229 (q := 231) rfl rfl ?_
                refine Go.iload C at_231 (q := 233) rfl rfl ?_
                refine Go.iload C at_233 (q := 235) rfl rfl ?_
                refine Go.pureS C (hw _ (List.mem_of_getElem? (i := 6) rfl)) (hw _ (List.mem_of_getElem? (i := 7) rfl)) (hw _ (List.mem_of_getElem? (i := 8) rfl)) (hw _ (List.mem_of_getElem? (i := 9) rfl)) (c_f_ok W.l Z a0 hw a365 (4 : Int32) (1 : Int32) (3 : Int32) v1 v363 h397 n0 (upd (upd (upd (upd (upd (upd (upd (upd (upd (upd (upd (fun _ => (0 : Int32)) 0 (nar .byte v363)) 1 (nar .byte v363)) 2 (nar .byte v363)) 3 (nar .byte v363)) 4 (nar .byte v363)) 5 (nar .byte v363)) 6 (nar .byte v363)) 7 (nar .byte v363)) 1 (nar .byte (v1 ||| (128 : Int32)).toInt8.toInt32)) 2 (nar .byte (((v1.toUInt32 >>> ((7 : Int32) &&& 31).toUInt32).toInt32) ||| (128 : Int32)).toInt8.toInt32)) 3 (nar .byte ((((v1.toUInt32 >>> ((7 : Int32) &&& 31).toUInt32).toInt32).toUInt32 >>> ((7 : Int32) &&& 31).toUInt32).toInt32).toInt8.toInt32)) F404 F399 (by decide)) at_235 pd__40_91BIIIIB_41Z (q := 238) rfl rfl (argsL := [(.ref a365), (.int (4 : Int32)), (.int (1 : Int32)), (.int (3 : Int32)), (.int v1), (.int v363)]) (st := []) rfl rfl (w := 0) rfl (by decide) (by decide) (by decide) (by decide) (res := .int (f_ok (nar .byte v363) (4 : Int32) (1 : Int32) (3 : Int32) v1 v363)) ?_
                refine Go.if0 C at_238 (z_eq _) (qt := 298) (q := 241) (by decide) (by decide) rfl (fun b411 => ?_) (fun b411 => ?_)
                ·
                  refine Go.iconst C (0 : Int32) at_298 (q := 299) rfl rfl ?_
                  exact J406 _ (by rw [if_neg b407, if_neg b408, if_neg b409, if_neg b410, if_pos b411])
                ·
                  refine Go.aload C at_241 (q := 243) rfl rfl rfl ?_
                  refine Go.iconst C (5 : Int32) at_243 (q := 244) rfl rfl ?_
                  refine Go.iload C at_244 (q := 246) rfl rfl ?_
                  refine Go.iload C at_246 (q := 248) rfl rfl ?_
                  refine Go.iload C at_248 (q := 250) rfl rfl ?_
                  refine Go.iload C at_250 (q := 252) rfl rfl ?_
                  refine Go.pureS C (hw _ (List.mem_of_getElem? (i := 6) rfl)) (hw _ (List.mem_of_getElem? (i := 7) rfl)) (hw _ (List.mem_of_getElem? (i := 8) rfl)) (hw _ (List.mem_of_getElem? (i := 9) rfl)) (c_f_ok W.l Z a0 hw a365 (5 : Int32) (1 : Int32) (3 : Int32) v1 v363 h397 n0 (upd (upd (upd (upd (upd (upd (upd (upd (upd (upd (upd (fun _ => (0 : Int32)) 0 (nar .byte v363)) 1 (nar .byte v363)) 2 (nar .byte v363)) 3 (nar .byte v363)) 4 (nar .byte v363)) 5 (nar .byte v363)) 6 (nar .byte v363)) 7 (nar .byte v363)) 1 (nar .byte (v1 ||| (128 : Int32)).toInt8.toInt32)) 2 (nar .byte (((v1.toUInt32 >>> ((7 : Int32) &&& 31).toUInt32).toInt32) ||| (128 : Int32)).toInt8.toInt32)) 3 (nar .byte ((((v1.toUInt32 >>> ((7 : Int32) &&& 31).toUInt32).toInt32).toUInt32 >>> ((7 : Int32) &&& 31).toUInt32).toInt32).toInt8.toInt32)) F404 F399 (by decide)) at_252 pd__40_91BIIIIB_41Z (q := 255) rfl rfl (argsL := [(.ref a365), (.int (5 : Int32)), (.int (1 : Int32)), (.int (3 : Int32)), (.int v1), (.int v363)]) (st := []) rfl rfl (w := 0) rfl (by decide) (by decide) (by decide) (by decide) (res := .int (f_ok (nar .byte v363) (5 : Int32) (1 : Int32) (3 : Int32) v1 v363)) ?_
                  refine Go.if0 C at_255 (z_eq _) (qt := 298) (q := 258) (by decide) (by decide) rfl (fun b412 => ?_) (fun b412 => ?_)
                  ·
                    refine Go.iconst C (0 : Int32) at_298 (q := 299) rfl rfl ?_
                    exact J406 _ (by rw [if_neg b407, if_neg b408, if_neg b409, if_neg b410, if_neg b411, if_pos b412])
                  ·
                    refine Go.aload C at_258 (q := 260) rfl rfl rfl ?_
                    refine Go.bipush C (6 : Int32) at_260 (q := 262) rfl rfl ?_
                    refine Go.iload C at_262 (q := 264) rfl rfl ?_
                    refine Go.iload C at_264 (q := 266) rfl rfl ?_
                    refine Go.iload C at_266 (q := 268) rfl rfl ?_
                    refine Go.iload C at_268 (q := 270) rfl rfl ?_
                    refine Go.pureS C (hw _ (List.mem_of_getElem? (i := 6) rfl)) (hw _ (List.mem_of_getElem? (i := 7) rfl)) (hw _ (List.mem_of_getElem? (i := 8) rfl)) (hw _ (List.mem_of_getElem? (i := 9) rfl)) (c_f_ok W.l Z a0 hw a365 (6 : Int32) (1 : Int32) (3 : Int32) v1 v363 h397 n0 (upd (upd (upd (upd (upd (upd (upd (upd (upd (upd (upd (fun _ => (0 : Int32)) 0 (nar .byte v363)) 1 (nar .byte v363)) 2 (nar .byte v363)) 3 (nar .byte v363)) 4 (nar .byte v363)) 5 (nar .byte v363)) 6 (nar .byte v363)) 7 (nar .byte v363)) 1 (nar .byte (v1 ||| (128 : Int32)).toInt8.toInt32)) 2 (nar .byte (((v1.toUInt32 >>> ((7 : Int32) &&& 31).toUInt32).toInt32) ||| (128 : Int32)).toInt8.toInt32)) 3 (nar .byte ((((v1.toUInt32 >>> ((7 : Int32) &&& 31).toUInt32).toInt32).toUInt32 >>> ((7 : Int32) &&& 31).toUInt32).toInt32).toInt8.toInt32)) F404 F399 (by decide)) at_270 pd__40_91BIIIIB_41Z (q := 273) rfl rfl (argsL := [(.ref a365), (.int (6 : Int32)), (.int (1 : Int32)), (.int (3 : Int32)), (.int v1), (.int v363)]) (st := []) rfl rfl (w := 0) rfl (by decide) (by decide) (by decide) (by decide) (res := .int (f_ok (nar .byte v363) (6 : Int32) (1 : Int32) (3 : Int32) v1 v363)) ?_
                    refine Go.if0 C at_273 (z_eq _) (qt := 298) (q := 276) (by decide) (by decide) rfl (fun b413 => ?_) (fun b413 => ?_)
                    ·
                      refine Go.iconst C (0 : Int32) at_298 (q := 299) rfl rfl ?_
                      exact J406 _ (by rw [if_neg b407, if_neg b408, if_neg b409, if_neg b410, if_neg b411, if_neg b412, if_pos b413])
                    ·
                      refine Go.aload C at_276 (q := 278) rfl rfl rfl ?_
                      refine Go.bipush C (7 : Int32) at_278 (q := 280) rfl rfl ?_
                      refine Go.iload C at_280 (q := 282) rfl rfl ?_
                      refine Go.iload C at_282 (q := 284) rfl rfl ?_
                      refine Go.iload C at_284 (q := 286) rfl rfl ?_
                      refine Go.iload C at_286 (q := 288) rfl rfl ?_
                      refine Go.pureS C (hw _ (List.mem_of_getElem? (i := 6) rfl)) (hw _ (List.mem_of_getElem? (i := 7) rfl)) (hw _ (List.mem_of_getElem? (i := 8) rfl)) (hw _ (List.mem_of_getElem? (i := 9) rfl)) (c_f_ok W.l Z a0 hw a365 (7 : Int32) (1 : Int32) (3 : Int32) v1 v363 h397 n0 (upd (upd (upd (upd (upd (upd (upd (upd (upd (upd (upd (fun _ => (0 : Int32)) 0 (nar .byte v363)) 1 (nar .byte v363)) 2 (nar .byte v363)) 3 (nar .byte v363)) 4 (nar .byte v363)) 5 (nar .byte v363)) 6 (nar .byte v363)) 7 (nar .byte v363)) 1 (nar .byte (v1 ||| (128 : Int32)).toInt8.toInt32)) 2 (nar .byte (((v1.toUInt32 >>> ((7 : Int32) &&& 31).toUInt32).toInt32) ||| (128 : Int32)).toInt8.toInt32)) 3 (nar .byte ((((v1.toUInt32 >>> ((7 : Int32) &&& 31).toUInt32).toInt32).toUInt32 >>> ((7 : Int32) &&& 31).toUInt32).toInt32).toInt8.toInt32)) F404 F399 (by decide)) at_288 pd__40_91BIIIIB_41Z (q := 291) rfl rfl (argsL := [(.ref a365), (.int (7 : Int32)), (.int (1 : Int32)), (.int (3 : Int32)), (.int v1), (.int v363)]) (st := []) rfl rfl (w := 0) rfl (by decide) (by decide) (by decide) (by decide) (res := .int (f_ok (nar .byte v363) (7 : Int32) (1 : Int32) (3 : Int32) v1 v363)) ?_
                      refine Go.if0 C at_291 (z_eq _) (qt := 298) (q := 294) (by decide) (by decide) rfl (fun b414 => ?_) (fun b414 => ?_)
                      ·
                        refine Go.iconst C (0 : Int32) at_298 (q := 299) rfl rfl ?_
                        exact J406 _ (by rw [if_neg b407, if_neg b408, if_neg b409, if_neg b410, if_neg b411, if_neg b412, if_neg b413, if_pos b414])
                      ·
                        refine Go.iconst C (1 : Int32) at_294 (q := 295) rfl rfl ?_
                        refine Go.goto C at_295 (q := 299) (by decide) (by decide) ?_
                        exact J406 _ (by rw [if_neg b407, if_neg b408, if_neg b409, if_neg b410, if_neg b411, if_neg b412, if_neg b413, if_neg b414])
      intro v405 hv405
      exact Go.retZ (t := .boolean) (by simp) C at_299 (by decide) (by decide) (congrArg (fun z => some (Value.int z)) (fin7 p0 p1 p2 p3 v1 hv1  hv2  w0  w1  w2 v363 hv363 v405 hv405))
    ·
      refine Go.istore C at_18 (q := 20) rfl (fun z => #[.val (.int p0), .val (.int p1), .val (.int p2), .val (.int p3), .val (.int v1), .val (.int (1 : Int32)), .val (.int z), .unset, .unset, .unset]) (fun _ => rfl) ?_
      intro v415 hv415
      refine Go.bipush C (8 : Int32) at_20 (q := 22) rfl rfl ?_
      refine Go.newP C (hw _ (List.mem_of_getElem? (i := 1) rfl)) (by decide) (cap := 8) (by decide) (by decide) at_22 (q := 24) rfl (k' := 1) rfl (n' := 8) rfl (by decide) (by decide) ?_
      intro h416 a417 cA418 g419 E420 Fn421
      have g423 : n0 ≤ a417 := g419 ▸ Z0
      have F422 : Av Z h416 a417 .byte 8 (iF (fun _ => (0 : Int32))) := Av.of Fn421
      refine Go.astore C at_24 (q := 26) rfl (l' := #[.val (.int p0), .val (.int p1), .val (.int p2), .val (.int p3), .val (.int v1), .val (.int (1 : Int32)), .val (.int v415), .val (.ref a417), .unset, .unset]) rfl rfl ?_
      refine Go.aload C at_26 (q := 28) rfl rfl rfl ?_
      refine Go.iconst C (0 : Int32) at_28 (q := 29) rfl rfl ?_
      refine Go.iload C at_29 (q := 31) rfl rfl ?_
      refine Go.bastore C F422 0 (by decide) (by decide) (by decide) g423 at_31 (q := 32) rfl ?_
      intro h424 W425
      have F426 := F422.sameI W425
      refine Go.aload C at_32 (q := 34) rfl rfl rfl ?_
      refine Go.iconst C (1 : Int32) at_34 (q := 35) rfl rfl ?_
      refine Go.iload C at_35 (q := 37) rfl rfl ?_
      refine Go.bastore C F426 1 (by decide) (by decide) (by decide) g423 at_37 (q := 38) rfl ?_
      intro h427 W428
      have F429 := F426.sameI W428
      refine Go.aload C at_38 (q := 40) rfl rfl rfl ?_
      refine Go.iconst C (2 : Int32) at_40 (q := 41) rfl rfl ?_
      refine Go.iload C at_41 (q := 43) rfl rfl ?_
      refine Go.bastore C F429 2 (by decide) (by decide) (by decide) g423 at_43 (q := 44) rfl ?_
      intro h430 W431
      have F432 := F429.sameI W431
      refine Go.aload C at_44 (q := 46) rfl rfl rfl ?_
      refine Go.iconst C (3 : Int32) at_46 (q := 47) rfl rfl ?_
      refine Go.iload C at_47 (q := 49) rfl rfl ?_
      refine Go.bastore C F432 3 (by decide) (by decide) (by decide) g423 at_49 (q := 50) rfl ?_
      intro h433 W434
      have F435 := F432.sameI W434
      refine Go.aload C at_50 (q := 52) rfl rfl rfl ?_
      refine Go.iconst C (4 : Int32) at_52 (q := 53) rfl rfl ?_
      refine Go.iload C at_53 (q := 55) rfl rfl ?_
      refine Go.bastore C F435 4 (by decide) (by decide) (by decide) g423 at_55 (q := 56) rfl ?_
      intro h436 W437
      have F438 := F435.sameI W437
      refine Go.aload C at_56 (q := 58) rfl rfl rfl ?_
      refine Go.iconst C (5 : Int32) at_58 (q := 59) rfl rfl ?_
      refine Go.iload C at_59 (q := 61) rfl rfl ?_
      refine Go.bastore C F438 5 (by decide) (by decide) (by decide) g423 at_61 (q := 62) rfl ?_
      intro h439 W440
      have F441 := F438.sameI W440
      refine Go.aload C at_62 (q := 64) rfl rfl rfl ?_
      refine Go.bipush C (6 : Int32) at_64 (q := 66) rfl rfl ?_
      refine Go.iload C at_66 (q := 68) rfl rfl ?_
      refine Go.bastore C F441 6 (by decide) (by decide) (by decide) g423 at_68 (q := 69) rfl ?_
      intro h442 W443
      have F444 := F441.sameI W443
      refine Go.aload C at_69 (q := 71) rfl rfl rfl ?_
      refine Go.bipush C (7 : Int32) at_71 (q := 73) rfl rfl ?_
      refine Go.iload C at_73 (q := 75) rfl rfl ?_
      refine Go.bastore C F444 7 (by decide) (by decide) (by decide) g423 at_75 (q := 76) rfl ?_
      intro h445 W446
      have F447 := F444.sameI W446
      refine Go.aload C at_76 (q := 78) rfl rfl rfl ?_
      refine Go.iload C at_78 (q := 80) rfl rfl ?_
      refine Go.iload C at_80 (q := 82) rfl rfl ?_
      have F448 := (Nat.le_trans (Nat.le_trans (Nat.le_trans (Nat.le_trans (Nat.le_trans (Nat.le_trans (Nat.le_trans (Nat.le_trans (Nat.le_trans Z0 E420.1) (Nat.le_of_eq W425.size.symm)) (Nat.le_of_eq W428.size.symm)) (Nat.le_of_eq W431.size.symm)) (Nat.le_of_eq W434.size.symm)) (Nat.le_of_eq W437.size.symm)) (Nat.le_of_eq W440.size.symm)) (Nat.le_of_eq W443.size.symm)) (Nat.le_of_eq W446.size.symm))
      refine Go.callS C (hw _ (List.mem_of_getElem? (i := 2) rfl)) (hw _ (List.mem_of_getElem? (i := 3) rfl)) (hw _ (List.mem_of_getElem? (i := 4) rfl)) (hw _ (List.mem_of_getElem? (i := 5) rfl)) (c_put1_4 W.l Z a0 hw a417 v1 h445 n0 (upd (upd (upd (upd (upd (upd (upd (upd (fun _ => (0 : Int32)) 0 (nar .byte v415)) 1 (nar .byte v415)) 2 (nar .byte v415)) 3 (nar .byte v415)) 4 (nar .byte v415)) 5 (nar .byte v415)) 6 (nar .byte v415)) 7 (nar .byte v415)) F448 F447 g423 w0 w1 w2 w3) at_82 pd__40_91BII_41I (q := 85) rfl rfl (argsL := [(.ref a417), (.int (1 : Int32)), (.int v1)]) (st := []) rfl rfl (w := 0) rfl (by decide) (by decide) (k' := 1) rfl (n' := 8) rfl (by decide) (by decide) ?_
      intro v h449 q
      obtain ⟨rfl, K450, F451⟩ := q
      show Go W n0 QL h449 1 8 85 #[.val (.int p0), .val (.int p1), .val (.int p2), .val (.int p3), .val (.int v1), .val (.int (1 : Int32)), .val (.int v415), .val (.ref a417), .unset, .unset] [(.int (5 : Int32))]
      refine Go.istoreR C at_85 (q := 87) rfl (l' := #[.val (.int p0), .val (.int p1), .val (.int p2), .val (.int p3), .val (.int v1), .val (.int (1 : Int32)), .val (.int v415), .val (.ref a417), .val (.int (5 : Int32)), .unset]) rfl ?_
      refine Go.iload C at_87 (q := 89) rfl rfl ?_
      refine Go.sipush C (128 : Int32) at_89 (q := 92) rfl rfl ?_
      refine Go.icmp C at_92 (n_ge _ _) (qt := 101) (q := 95) (by decide) (by decide) rfl (fun _ => ?_) (fun b452 => absurd t0 b452)
      refine Go.iload C at_101 (q := 103) rfl rfl ?_
      refine Go.sipush C (16384 : Int32) at_103 (q := 106) rfl rfl ?_
      refine Go.icmp C at_106 (n_ge _ _) (qt := 115) (q := 109) (by decide) (by decide) rfl (fun _ => ?_) (fun b453 => absurd t1 b453)
      refine Go.iload C at_115 (q := 117) rfl rfl ?_
      refine Go.ldcI C (hw _ (List.mem_of_getElem? (i := 10) rfl)) at_117 (q := 119) rfl ?_
      refine Go.icmp C at_119 (n_ge _ _) (qt := 128) (q := 122) (by decide) (by decide) rfl (fun _ => ?_) (fun b454 => absurd t2 b454)
      refine Go.iload C at_128 (q := 130) rfl rfl ?_
      refine Go.ldcI C (hw _ (List.mem_of_getElem? (i := 11) rfl)) at_130 (q := 132) rfl ?_
      refine Go.icmp C at_132 (n_ge _ _) (qt := 141) (q := 135) (by decide) (by decide) rfl (fun b455 => absurd t3 b455) (fun _ => ?_)
      refine Go.iconst C (4 : Int32) at_135 (q := 136) rfl rfl ?_
      refine Go.istoreR C at_136 (q := 138) rfl (l' := #[.val (.int p0), .val (.int p1), .val (.int p2), .val (.int p3), .val (.int v1), .val (.int (1 : Int32)), .val (.int v415), .val (.ref a417), .val (.int (5 : Int32)), .val (.int (4 : Int32))]) rfl ?_
      refine Go.goto C at_138 (q := 144) (by decide) (by decide) ?_
      refine Go.iload C at_144 (q := 146) rfl rfl ?_
      refine Go.iload C at_146 (q := 148) rfl rfl ?_
      refine Go.iload C at_148 (q := 150) rfl rfl ?_
      refine Go.iadd C at_150 (q := 151) rfl ?_
      refine Go.icmp C at_151 (n_eq _ _) (qt := 156) (q := 154) (by decide) (by decide) rfl (fun _ => ?_) (fun b456 => absurd b456 (by decide))
      refine Go.aload C at_156 (q := 158) rfl rfl rfl ?_
      refine Go.iconst C (0 : Int32) at_158 (q := 159) rfl rfl ?_
      refine Go.iload C at_159 (q := 161) rfl rfl ?_
      refine Go.iload C at_161 (q := 163) rfl rfl ?_
      refine Go.iload C at_163 (q := 165) rfl rfl ?_
      refine Go.iload C at_165 (q := 167) rfl rfl ?_
      have F457 := (Nat.le_trans F448 K450.1)
      refine Go.pureS C (hw _ (List.mem_of_getElem? (i := 6) rfl)) (hw _ (List.mem_of_getElem? (i := 7) rfl)) (hw _ (List.mem_of_getElem? (i := 8) rfl)) (hw _ (List.mem_of_getElem? (i := 9) rfl)) (c_f_ok W.l Z a0 hw a417 (0 : Int32) (1 : Int32) (4 : Int32) v1 v415 h449 n0 (upd (upd (upd (upd (upd (upd (upd (upd (upd (upd (upd (upd (fun _ => (0 : Int32)) 0 (nar .byte v415)) 1 (nar .byte v415)) 2 (nar .byte v415)) 3 (nar .byte v415)) 4 (nar .byte v415)) 5 (nar .byte v415)) 6 (nar .byte v415)) 7 (nar .byte v415)) 1 (nar .byte (v1 ||| (128 : Int32)).toInt8.toInt32)) 2 (nar .byte (((v1.toUInt32 >>> ((7 : Int32) &&& 31).toUInt32).toInt32) ||| (128 : Int32)).toInt8.toInt32)) 3 (nar .byte (((((v1.toUInt32 >>> ((7 : Int32) &&& 31).toUInt32).toInt32).toUInt32 >>> ((7 : Int32) &&& 31).toUInt32).toInt32) ||| (128 : Int32)).toInt8.toInt32)) 4 (nar .byte ((((((v1.toUInt32 >>> ((7 : Int32) &&& 31).toUInt32).toInt32).toUInt32 >>> ((7 : Int32) &&& 31).toUInt32).toInt32).toUInt32 >>> ((7 : Int32) &&& 31).toUInt32).toInt32).toInt8.toInt32)) F457 F451 (by decide)) at_167 pd__40_91BIIIIB_41Z (q := 170) rfl rfl (argsL := [(.ref a417), (.int (0 : Int32)), (.int (1 : Int32)), (.int (4 : Int32)), (.int v1), (.int v415)]) (st := []) rfl rfl (w := 0) rfl (by decide) (by decide) (by decide) (by decide) (res := .int (f_ok (nar .byte v415) (0 : Int32) (1 : Int32) (4 : Int32) v1 v415)) ?_
      suffices J459 : ∀ v458 : Int32, v458 = (if (f_ok (nar .byte v415) (0 : Int32) (1 : Int32) (4 : Int32) v1 v415) = (0 : Int32) then (0 : Int32) else (if (f_ok (nar .byte (v1 ||| (128 : Int32)).toInt8.toInt32) (1 : Int32) (1 : Int32) (4 : Int32) v1 v415) = (0 : Int32) then (0 : Int32) else (if (f_ok (nar .byte (((v1.toUInt32 >>> ((7 : Int32) &&& 31).toUInt32).toInt32) ||| (128 : Int32)).toInt8.toInt32) (2 : Int32) (1 : Int32) (4 : Int32) v1 v415) = (0 : Int32) then (0 : Int32) else (if (f_ok (nar .byte (((((v1.toUInt32 >>> ((7 : Int32) &&& 31).toUInt32).toInt32).toUInt32 >>> ((7 : Int32) &&& 31).toUInt32).toInt32) ||| (128 : Int32)).toInt8.toInt32) (3 : Int32) (1 : Int32) (4 : Int32) v1 v415) = (0 : Int32) then (0 : Int32) else (if (f_ok (nar .byte ((((((v1.toUInt32 >>> ((7 : Int32) &&& 31).toUInt32).toInt32).toUInt32 >>> ((7 : Int32) &&& 31).toUInt32).toInt32).toUInt32 >>> ((7 : Int32) &&& 31).toUInt32).toInt32).toInt8.toInt32) (4 : Int32) (1 : Int32) (4 : Int32) v1 v415) = (0 : Int32) then (0 : Int32) else (if (f_ok (nar .byte v415) (5 : Int32) (1 : Int32) (4 : Int32) v1 v415) = (0 : Int32) then (0 : Int32) else (if (f_ok (nar .byte v415) (6 : Int32) (1 : Int32) (4 : Int32) v1 v415) = (0 : Int32) then (0 : Int32) else (if (f_ok (nar .byte v415) (7 : Int32) (1 : Int32) (4 : Int32) v1 v415) = (0 : Int32) then (0 : Int32) else (1 : Int32))))))))) → Go W n0 QL h449 1 8 299 #[.val (.int p0), .val (.int p1), .val (.int p2), .val (.int p3), .val (.int v1), .val (.int (1 : Int32)), .val (.int v415), .val (.ref a417), .val (.int (5 : Int32)), .val (.int (4 : Int32))] [(.int v458)] by
        refine Go.if0 C at_170 (z_eq _) (qt := 298) (q := 173) (by decide) (by decide) rfl (fun b460 => ?_) (fun b460 => ?_)
        ·
          refine Go.iconst C (0 : Int32) at_298 (q := 299) rfl rfl ?_
          exact J459 _ (by rw [if_pos b460])
        ·
          refine Go.aload C at_173 (q := 175) rfl rfl rfl ?_
          refine Go.iconst C (1 : Int32) at_175 (q := 176) rfl rfl ?_
          refine Go.iload C at_176 (q := 178) rfl rfl ?_
          refine Go.iload C at_178 (q := 180) rfl rfl ?_
          refine Go.iload C at_180 (q := 182) rfl rfl ?_
          refine Go.iload C at_182 (q := 184) rfl rfl ?_
          refine Go.pureS C (hw _ (List.mem_of_getElem? (i := 6) rfl)) (hw _ (List.mem_of_getElem? (i := 7) rfl)) (hw _ (List.mem_of_getElem? (i := 8) rfl)) (hw _ (List.mem_of_getElem? (i := 9) rfl)) (c_f_ok W.l Z a0 hw a417 (1 : Int32) (1 : Int32) (4 : Int32) v1 v415 h449 n0 (upd (upd (upd (upd (upd (upd (upd (upd (upd (upd (upd (upd (fun _ => (0 : Int32)) 0 (nar .byte v415)) 1 (nar .byte v415)) 2 (nar .byte v415)) 3 (nar .byte v415)) 4 (nar .byte v415)) 5 (nar .byte v415)) 6 (nar .byte v415)) 7 (nar .byte v415)) 1 (nar .byte (v1 ||| (128 : Int32)).toInt8.toInt32)) 2 (nar .byte (((v1.toUInt32 >>> ((7 : Int32) &&& 31).toUInt32).toInt32) ||| (128 : Int32)).toInt8.toInt32)) 3 (nar .byte (((((v1.toUInt32 >>> ((7 : Int32) &&& 31).toUInt32).toInt32).toUInt32 >>> ((7 : Int32) &&& 31).toUInt32).toInt32) ||| (128 : Int32)).toInt8.toInt32)) 4 (nar .byte ((((((v1.toUInt32 >>> ((7 : Int32) &&& 31).toUInt32).toInt32).toUInt32 >>> ((7 : Int32) &&& 31).toUInt32).toInt32).toUInt32 >>> ((7 : Int32) &&& 31).toUInt32).toInt32).toInt8.toInt32)) F457 F451 (by decide)) at_184 pd__40_91BIIIIB_41Z (q := 187) rfl rfl (argsL := [(.ref a417), (.int (1 : Int32)), (.int (1 : Int32)), (.int (4 : Int32)), (.int v1), (.int v415)]) (st := []) rfl rfl (w := 0) rfl (by decide) (by decide) (by decide) (by decide) (res := .int (f_ok (nar .byte (v1 ||| (128 : Int32)).toInt8.toInt32) (1 : Int32) (1 : Int32) (4 : Int32) v1 v415)) ?_
          refine Go.if0 C at_187 (z_eq _) (qt := 298) (q := 190) (by decide) (by decide) rfl (fun b461 => ?_) (fun b461 => ?_)
          ·
            refine Go.iconst C (0 : Int32) at_298 (q := 299) rfl rfl ?_
            exact J459 _ (by rw [if_neg b460, if_pos b461])
          ·
            refine Go.aload C at_190 (q := 192) rfl rfl rfl ?_
            refine Go.iconst C (2 : Int32) at_192 (q := 193) rfl rfl ?_
            refine Go.iload C at_193 (q := 195) rfl rfl ?_
            refine Go.iload C at_195 (q := 197) rfl rfl ?_
            refine Go.iload C at_197 (q := 199) rfl rfl ?_
            refine Go.iload C at_199 (q := 201) rfl rfl ?_
            refine Go.pureS C (hw _ (List.mem_of_getElem? (i := 6) rfl)) (hw _ (List.mem_of_getElem? (i := 7) rfl)) (hw _ (List.mem_of_getElem? (i := 8) rfl)) (hw _ (List.mem_of_getElem? (i := 9) rfl)) (c_f_ok W.l Z a0 hw a417 (2 : Int32) (1 : Int32) (4 : Int32) v1 v415 h449 n0 (upd (upd (upd (upd (upd (upd (upd (upd (upd (upd (upd (upd (fun _ => (0 : Int32)) 0 (nar .byte v415)) 1 (nar .byte v415)) 2 (nar .byte v415)) 3 (nar .byte v415)) 4 (nar .byte v415)) 5 (nar .byte v415)) 6 (nar .byte v415)) 7 (nar .byte v415)) 1 (nar .byte (v1 ||| (128 : Int32)).toInt8.toInt32)) 2 (nar .byte (((v1.toUInt32 >>> ((7 : Int32) &&& 31).toUInt32).toInt32) ||| (128 : Int32)).toInt8.toInt32)) 3 (nar .byte (((((v1.toUInt32 >>> ((7 : Int32) &&& 31).toUInt32).toInt32).toUInt32 >>> ((7 : Int32) &&& 31).toUInt32).toInt32) ||| (128 : Int32)).toInt8.toInt32)) 4 (nar .byte ((((((v1.toUInt32 >>> ((7 : Int32) &&& 31).toUInt32).toInt32).toUInt32 >>> ((7 : Int32) &&& 31).toUInt32).toInt32).toUInt32 >>> ((7 : Int32) &&& 31).toUInt32).toInt32).toInt8.toInt32)) F457 F451 (by decide)) at_201 pd__40_91BIIIIB_41Z (q := 204) rfl rfl (argsL := [(.ref a417), (.int (2 : Int32)), (.int (1 : Int32)), (.int (4 : Int32)), (.int v1), (.int v415)]) (st := []) rfl rfl (w := 0) rfl (by decide) (by decide) (by decide) (by decide) (res := .int (f_ok (nar .byte (((v1.toUInt32 >>> ((7 : Int32) &&& 31).toUInt32).toInt32) ||| (128 : Int32)).toInt8.toInt32) (2 : Int32) (1 : Int32) (4 : Int32) v1 v415)) ?_
            refine Go.if0 C at_204 (z_eq _) (qt := 298) (q := 207) (by decide) (by decide) rfl (fun b462 => ?_) (fun b462 => ?_)
            ·
              refine Go.iconst C (0 : Int32) at_298 (q := 299) rfl rfl ?_
              exact J459 _ (by rw [if_neg b460, if_neg b461, if_pos b462])
            ·
              refine Go.aload C at_207 (q := 209) rfl rfl rfl ?_
              refine Go.iconst C (3 : Int32) at_209 (q := 210) rfl rfl ?_
              refine Go.iload C at_210 (q := 212) rfl rfl ?_
              refine Go.iload C at_212 (q := 214) rfl rfl ?_
              refine Go.iload C at_214 (q := 216) rfl rfl ?_
              refine Go.iload C at_216 (q := 218) rfl rfl ?_
              refine Go.pureS C (hw _ (List.mem_of_getElem? (i := 6) rfl)) (hw _ (List.mem_of_getElem? (i := 7) rfl)) (hw _ (List.mem_of_getElem? (i := 8) rfl)) (hw _ (List.mem_of_getElem? (i := 9) rfl)) (c_f_ok W.l Z a0 hw a417 (3 : Int32) (1 : Int32) (4 : Int32) v1 v415 h449 n0 (upd (upd (upd (upd (upd (upd (upd (upd (upd (upd (upd (upd (fun _ => (0 : Int32)) 0 (nar .byte v415)) 1 (nar .byte v415)) 2 (nar .byte v415)) 3 (nar .byte v415)) 4 (nar .byte v415)) 5 (nar .byte v415)) 6 (nar .byte v415)) 7 (nar .byte v415)) 1 (nar .byte (v1 ||| (128 : Int32)).toInt8.toInt32)) 2 (nar .byte (((v1.toUInt32 >>> ((7 : Int32) &&& 31).toUInt32).toInt32) ||| (128 : Int32)).toInt8.toInt32)) 3 (nar .byte (((((v1.toUInt32 >>> ((7 : Int32) &&& 31).toUInt32).toInt32).toUInt32 >>> ((7 : Int32) &&& 31).toUInt32).toInt32) ||| (128 : Int32)).toInt8.toInt32)) 4 (nar .byte ((((((v1.toUInt32 >>> ((7 : Int32) &&& 31).toUInt32).toInt32).toUInt32 >>> ((7 : Int32) &&& 31).toUInt32).toInt32).toUInt32 >>> ((7 : Int32) &&& 31).toUInt32).toInt32).toInt8.toInt32)) F457 F451 (by decide)) at_218 pd__40_91BIIIIB_41Z (q := 221) rfl rfl (argsL := [(.ref a417), (.int (3 : Int32)), (.int (1 : Int32)), (.int (4 : Int32)), (.int v1), (.int v415)]) (st := []) rfl rfl (w := 0) rfl (by decide) (by decide) (by decide) (by decide) (res := .int (f_ok (nar .byte (((((v1.toUInt32 >>> ((7 : Int32) &&& 31).toUInt32).toInt32).toUInt32 >>> ((7 : Int32) &&& 31).toUInt32).toInt32) ||| (128 : Int32)).toInt8.toInt32) (3 : Int32) (1 : Int32) (4 : Int32) v1 v415)) ?_
              refine Go.if0 C at_221 (z_eq _) (qt := 298) (q := 224) (by decide) (by decide) rfl (fun b463 => ?_) (fun b463 => ?_)
              ·
                refine Go.iconst C (0 : Int32) at_298 (q := 299) rfl rfl ?_
                exact J459 _ (by rw [if_neg b460, if_neg b461, if_neg b462, if_pos b463])
              ·
                refine Go.aload C at_224 (q := 226) rfl rfl rfl ?_
                refine Go.iconst C (4 : Int32) at_226 (q := 227) rfl rfl ?_
                refine Go.iload C at_227 (q := 229) rfl rfl ?_
                refine Go.iload C at_229 (q := 231) rfl rfl ?_
                refine Go.iload C at_231 (q := 233) rfl rfl ?_
                refine Go.iload C at_233 (q := 235) rfl rfl ?_
                refine Go.pureS C (hw _ (List.mem_of_getElem? (i := 6) rfl)) (hw _ (List.mem_of_getElem? (i := 7) rfl)) (hw _ (List.mem_of_getElem? (i := 8) rfl)) (hw _ (List.mem_of_getElem? (i := 9) rfl)) (c_f_ok W.l Z a0 hw a417 (4 : Int32) (1 : Int32) (4 : Int32) v1 v415 h449 n0 (upd (upd (upd (upd (upd (upd (upd (upd (upd (upd (upd (upd (fun _ => (0 : Int32)) 0 (nar .byte v415)) 1 (nar .byte v415)) 2 (nar .byte v415)) 3 (nar .byte v415)) 4 (nar .byte v415)) 5 (nar .byte v415)) 6 (nar .byte v415)) 7 (nar .byte v415)) 1 (nar .byte (v1 ||| (128 : Int32)).toInt8.toInt32)) 2 (nar .byte (((v1.toUInt32 >>> ((7 : Int32) &&& 31).toUInt32).toInt32) ||| (128 : Int32)).toInt8.toInt32)) 3 (nar .byte (((((v1.toUInt32 >>> ((7 : Int32) &&& 31).toUInt32).toInt32).toUInt32 >>> ((7 : Int32) &&& 31).toUInt32).toInt32) ||| (128 : Int32)).toInt8.toInt32)) 4 (nar .byte ((((((v1.toUInt32 >>> ((7 : Int32) &&& 31).toUInt32).toInt32).toUInt32 >>> ((7 : Int32) &&& 31).toUInt32).toInt32).toUInt32 >>> ((7 : Int32) &&& 31).toUInt32).toInt32).toInt8.toInt32)) F457 F451 (by decide)) at_235 pd__40_91BIIIIB_41Z (q := 238) rfl rfl (argsL := [(.ref a417), (.int (4 : Int32)), (.int (1 : Int32)), (.int (4 : Int32)), (.int v1), (.int v415)]) (st := []) rfl rfl (w := 0) rfl (by decide) (by decide) (by decide) (by decide) (res := .int (f_ok (nar .byte ((((((v1.toUInt32 >>> ((7 : Int32) &&& 31).toUInt32).toInt32).toUInt32 >>> ((7 : Int32) &&& 31).toUInt32).toInt32).toUInt32 >>> ((7 : Int32) &&& 31).toUInt32).toInt32).toInt8.toInt32) (4 : Int32) (1 : Int32) (4 : Int32) v1 v415)) ?_
                refine Go.if0 C at_238 (z_eq _) (qt := 298) (q := 241) (by decide) (by decide) rfl (fun b464 => ?_) (fun b464 => ?_)
                ·
                  refine Go.iconst C (0 : Int32) at_298 (q := 299) rfl rfl ?_
                  exact J459 _ (by rw [if_neg b460, if_neg b461, if_neg b462, if_neg b463, if_pos b464])
                ·
                  refine Go.aload C at_241 (q := 243) rfl rfl rfl ?_
                  refine Go.iconst C (5 : Int32) at_243 (q := 244) rfl rfl ?_
                  refine Go.iload C at_244 (q := 246) rfl rfl ?_
                  refine Go.iload C at_246 (q := 248) rfl rfl ?_
                  refine Go.iload C at_248 (q := 250) rfl rfl ?_
                  refine Go.iload C at_250 (q := 252) rfl rfl ?_
                  refine Go.pureS C (hw _ (List.mem_of_getElem? (i := 6) rfl)) (hw _ (List.mem_of_getElem? (i := 7) rfl)) (hw _ (List.mem_of_getElem? (i := 8) rfl)) (hw _ (List.mem_of_getElem? (i := 9) rfl)) (c_f_ok W.l Z a0 hw a417 (5 : Int32) (1 : Int32) (4 : Int32) v1 v415 h449 n0 (upd (upd (upd (upd (upd (upd (upd (upd (upd (upd (upd (upd (fun _ => (0 : Int32)) 0 (nar .byte v415)) 1 (nar .byte v415)) 2 (nar .byte v415)) 3 (nar .byte v415)) 4 (nar .byte v415)) 5 (nar .byte v415)) 6 (nar .byte v415)) 7 (nar .byte v415)) 1 (nar .byte (v1 ||| (128 : Int32)).toInt8.toInt32)) 2 (nar .byte (((v1.toUInt32 >>> ((7 : Int32) &&& 31).toUInt32).toInt32) ||| (128 : Int32)).toInt8.toInt32)) 3 (nar .byte (((((v1.toUInt32 >>> ((7 : Int32) &&& 31).toUInt32).toInt32).toUInt32 >>> ((7 : Int32) &&& 31).toUInt32).toInt32) ||| (128 : Int32)).toInt8.toInt32)) 4 (nar .byte ((((((v1.toUInt32 >>> ((7 : Int32) &&& 31).toUInt32).toInt32).toUInt32 >>> ((7 : Int32) &&& 31).toUInt32).toInt32).toUInt32 >>> ((7 : Int32) &&& 31).toUInt32).toInt32).toInt8.toInt32)) F457 F451 (by decide)) at_252 pd__40_91BIIIIB_41Z (q := 255) rfl rfl (argsL := [(.ref a417), (.int (5 : Int32)), (.int (1 : Int32)), (.int (4 : Int32)), (.int v1), (.int v415)]) (st := []) rfl rfl (w := 0) rfl (by decide) (by decide) (by decide) (by decide) (res := .int (f_ok (nar .byte v415) (5 : Int32) (1 : Int32) (4 : Int32) v1 v415)) ?_
                  refine Go.if0 C at_255 (z_eq _) (qt := 298) (q := 258) (by decide) (by decide) rfl (fun b465 => ?_) (fun b465 => ?_)
                  ·
                    refine Go.iconst C (0 : Int32) at_298 (q := 299) rfl rfl ?_
                    exact J459 _ (by rw [if_neg b460, if_neg b461, if_neg b462, if_neg b463, if_neg b464, if_pos b465])
                  ·
                    refine Go.aload C at_258 (q := 260) rfl rfl rfl ?_
                    refine Go.bipush C (6 : Int32) at_260 (q := 262) rfl rfl ?_
                    refine Go.iload C at_262 (q := 264) rfl rfl ?_
                    refine Go.iload C at_264 (q := 266) rfl rfl ?_
                    refine Go.iload C at_266 (q := 268) rfl rfl ?_
                    refine Go.iload C at_268 (q := 270) rfl rfl ?_
                    refine Go.pureS C (hw _ (List.mem_of_getElem? (i := 6) rfl)) (hw _ (List.mem_of_getElem? (i := 7) rfl)) (hw _ (List.mem_of_getElem? (i := 8) rfl)) (hw _ (List.mem_of_getElem? (i := 9) rfl)) (c_f_ok W.l Z a0 hw a417 (6 : Int32) (1 : Int32) (4 : Int32) v1 v415 h449 n0 (upd (upd (upd (upd (upd (upd (upd (upd (upd (upd (upd (upd (fun _ => (0 : Int32)) 0 (nar .byte v415)) 1 (nar .byte v415)) 2 (nar .byte v415)) 3 (nar .byte v415)) 4 (nar .byte v415)) 5 (nar .byte v415)) 6 (nar .byte v415)) 7 (nar .byte v415)) 1 (nar .byte (v1 ||| (128 : Int32)).toInt8.toInt32)) 2 (nar .byte (((v1.toUInt32 >>> ((7 : Int32) &&& 31).toUInt32).toInt32) ||| (128 : Int32)).toInt8.toInt32)) 3 (nar .byte (((((v1.toUInt32 >>> ((7 : Int32) &&& 31).toUInt32).toInt32).toUInt32 >>> ((7 : Int32) &&& 31).toUInt32).toInt32) ||| (128 : Int32)).toInt8.toInt32)) 4 (nar .byte ((((((v1.toUInt32 >>> ((7 : Int32) &&& 31).toUInt32).toInt32).toUInt32 >>> ((7 : Int32) &&& 31).toUInt32).toInt32).toUInt32 >>> ((7 : Int32) &&& 31).toUInt32).toInt32).toInt8.toInt32)) F457 F451 (by decide)) at_270 pd__40_91BIIIIB_41Z (q := 273) rfl rfl (argsL := [(.ref a417), (.int (6 : Int32)), (.int (1 : Int32)), (.int (4 : Int32)), (.int v1), (.int v415)]) (st := []) rfl rfl (w := 0) rfl (by decide) (by decide) (by decide) (by decide) (res := .int (f_ok (nar .byte v415) (6 : Int32) (1 : Int32) (4 : Int32) v1 v415)) ?_
                    refine Go.if0 C at_273 (z_eq _) (qt := 298) (q := 276) (by decide) (by decide) rfl (fun b466 => ?_) (fun b466 => ?_)
                    ·
                      refine Go.iconst C (0 : Int32) at_298 (q := 299) rfl rfl ?_
                      exact J459 _ (by rw [if_neg b460, if_neg b461, if_neg b462, if_neg b463, if_neg b464, if_neg b465, if_pos b466])
                    ·
                      refine Go.aload C at_276 (q := 278) rfl rfl rfl ?_
                      refine Go.bipush C (7 : Int32) at_278 (q := 280) rfl rfl ?_
                      refine Go.iload C at_280 (q := 282) rfl rfl ?_
                      refine Go.iload C at_282 (q := 284) rfl rfl ?_
                      refine Go.iload C at_284 (q := 286) rfl rfl ?_
                      refine Go.iload C at_286 (q := 288) rfl rfl ?_
                      refine Go.pureS C (hw _ (List.mem_of_getElem? (i := 6) rfl)) (hw _ (List.mem_of_getElem? (i := 7) rfl)) (hw _ (List.mem_of_getElem? (i := 8) rfl)) (hw _ (List.mem_of_getElem? (i := 9) rfl)) (c_f_ok W.l Z a0 hw a417 (7 : Int32) (1 : Int32) (4 : Int32) v1 v415 h449 n0 (upd (upd (upd (upd (upd (upd (upd (upd (upd (upd (upd (upd (fun _ => (0 : Int32)) 0 (nar .byte v415)) 1 (nar .byte v415)) 2 (nar .byte v415)) 3 (nar .byte v415)) 4 (nar .byte v415)) 5 (nar .byte v415)) 6 (nar .byte v415)) 7 (nar .byte v415)) 1 (nar .byte (v1 ||| (128 : Int32)).toInt8.toInt32)) 2 (nar .byte (((v1.toUInt32 >>> ((7 : Int32) &&& 31).toUInt32).toInt32) ||| (128 : Int32)).toInt8.toInt32)) 3 (nar .byte (((((v1.toUInt32 >>> ((7 : Int32) &&& 31).toUInt32).toInt32).toUInt32 >>> ((7 : Int32) &&& 31).toUInt32).toInt32) ||| (128 : Int32)).toInt8.toInt32)) 4 (nar .byte ((((((v1.toUInt32 >>> ((7 : Int32) &&& 31).toUInt32).toInt32).toUInt32 >>> ((7 : Int32) &&& 31).toUInt32).toInt32).toUInt32 >>> ((7 : Int32) &&& 31).toUInt32).toInt32).toInt8.toInt32)) F457 F451 (by decide)) at_288 pd__40_91BIIIIB_41Z (q := 291) rfl rfl (argsL := [(.ref a417), (.int (7 : Int32)), (.int (1 : Int32)), (.int (4 : Int32)), (.int v1), (.int v415)]) (st := []) rfl rfl (w := 0) rfl (by decide) (by decide) (by decide) (by decide) (res := .int (f_ok (nar .byte v415) (7 : Int32) (1 : Int32) (4 : Int32) v1 v415)) ?_
                      refine Go.if0 C at_291 (z_eq _) (qt := 298) (q := 294) (by decide) (by decide) rfl (fun b467 => ?_) (fun b467 => ?_)
                      ·
                        refine Go.iconst C (0 : Int32) at_298 (q := 299) rfl rfl ?_
                        exact J459 _ (by rw [if_neg b460, if_neg b461, if_neg b462, if_neg b463, if_neg b464, if_neg b465, if_neg b466, if_pos b467])
                      ·
                        refine Go.iconst C (1 : Int32) at_294 (q := 295) rfl rfl ?_
                        refine Go.goto C at_295 (q := 299) (by decide) (by decide) ?_
                        exact J459 _ (by rw [if_neg b460, if_neg b461, if_neg b462, if_neg b463, if_neg b464, if_neg b465, if_neg b466, if_neg b467])
      intro v458 hv458
      exact Go.retZ (t := .boolean) (by simp) C at_299 (by decide) (by decide) (congrArg (fun z => some (Value.int z)) (fin8 p0 p1 p2 p3 v1 hv1  hv2  w0  w1  w2  w3 v415 hv415 v458 hv458))
    ·
      refine Go.istore C at_18 (q := 20) rfl (fun z => #[.val (.int p0), .val (.int p1), .val (.int p2), .val (.int p3), .val (.int v1), .val (.int (1 : Int32)), .val (.int z), .unset, .unset, .unset]) (fun _ => rfl) ?_
      intro v468 hv468
      refine Go.bipush C (8 : Int32) at_20 (q := 22) rfl rfl ?_
      refine Go.newP C (hw _ (List.mem_of_getElem? (i := 1) rfl)) (by decide) (cap := 8) (by decide) (by decide) at_22 (q := 24) rfl (k' := 1) rfl (n' := 8) rfl (by decide) (by decide) ?_
      intro h469 a470 cA471 g472 E473 Fn474
      have g476 : n0 ≤ a470 := g472 ▸ Z0
      have F475 : Av Z h469 a470 .byte 8 (iF (fun _ => (0 : Int32))) := Av.of Fn474
      refine Go.astore C at_24 (q := 26) rfl (l' := #[.val (.int p0), .val (.int p1), .val (.int p2), .val (.int p3), .val (.int v1), .val (.int (1 : Int32)), .val (.int v468), .val (.ref a470), .unset, .unset]) rfl rfl ?_
      refine Go.aload C at_26 (q := 28) rfl rfl rfl ?_
      refine Go.iconst C (0 : Int32) at_28 (q := 29) rfl rfl ?_
      refine Go.iload C at_29 (q := 31) rfl rfl ?_
      refine Go.bastore C F475 0 (by decide) (by decide) (by decide) g476 at_31 (q := 32) rfl ?_
      intro h477 W478
      have F479 := F475.sameI W478
      refine Go.aload C at_32 (q := 34) rfl rfl rfl ?_
      refine Go.iconst C (1 : Int32) at_34 (q := 35) rfl rfl ?_
      refine Go.iload C at_35 (q := 37) rfl rfl ?_
      refine Go.bastore C F479 1 (by decide) (by decide) (by decide) g476 at_37 (q := 38) rfl ?_
      intro h480 W481
      have F482 := F479.sameI W481
      refine Go.aload C at_38 (q := 40) rfl rfl rfl ?_
      refine Go.iconst C (2 : Int32) at_40 (q := 41) rfl rfl ?_
      refine Go.iload C at_41 (q := 43) rfl rfl ?_
      refine Go.bastore C F482 2 (by decide) (by decide) (by decide) g476 at_43 (q := 44) rfl ?_
      intro h483 W484
      have F485 := F482.sameI W484
      refine Go.aload C at_44 (q := 46) rfl rfl rfl ?_
      refine Go.iconst C (3 : Int32) at_46 (q := 47) rfl rfl ?_
      refine Go.iload C at_47 (q := 49) rfl rfl ?_
      refine Go.bastore C F485 3 (by decide) (by decide) (by decide) g476 at_49 (q := 50) rfl ?_
      intro h486 W487
      have F488 := F485.sameI W487
      refine Go.aload C at_50 (q := 52) rfl rfl rfl ?_
      refine Go.iconst C (4 : Int32) at_52 (q := 53) rfl rfl ?_
      refine Go.iload C at_53 (q := 55) rfl rfl ?_
      refine Go.bastore C F488 4 (by decide) (by decide) (by decide) g476 at_55 (q := 56) rfl ?_
      intro h489 W490
      have F491 := F488.sameI W490
      refine Go.aload C at_56 (q := 58) rfl rfl rfl ?_
      refine Go.iconst C (5 : Int32) at_58 (q := 59) rfl rfl ?_
      refine Go.iload C at_59 (q := 61) rfl rfl ?_
      refine Go.bastore C F491 5 (by decide) (by decide) (by decide) g476 at_61 (q := 62) rfl ?_
      intro h492 W493
      have F494 := F491.sameI W493
      refine Go.aload C at_62 (q := 64) rfl rfl rfl ?_
      refine Go.bipush C (6 : Int32) at_64 (q := 66) rfl rfl ?_
      refine Go.iload C at_66 (q := 68) rfl rfl ?_
      refine Go.bastore C F494 6 (by decide) (by decide) (by decide) g476 at_68 (q := 69) rfl ?_
      intro h495 W496
      have F497 := F494.sameI W496
      refine Go.aload C at_69 (q := 71) rfl rfl rfl ?_
      refine Go.bipush C (7 : Int32) at_71 (q := 73) rfl rfl ?_
      refine Go.iload C at_73 (q := 75) rfl rfl ?_
      refine Go.bastore C F497 7 (by decide) (by decide) (by decide) g476 at_75 (q := 76) rfl ?_
      intro h498 W499
      have F500 := F497.sameI W499
      refine Go.aload C at_76 (q := 78) rfl rfl rfl ?_
      refine Go.iload C at_78 (q := 80) rfl rfl ?_
      refine Go.iload C at_80 (q := 82) rfl rfl ?_
      have F501 := (Nat.le_trans (Nat.le_trans (Nat.le_trans (Nat.le_trans (Nat.le_trans (Nat.le_trans (Nat.le_trans (Nat.le_trans (Nat.le_trans Z0 E473.1) (Nat.le_of_eq W478.size.symm)) (Nat.le_of_eq W481.size.symm)) (Nat.le_of_eq W484.size.symm)) (Nat.le_of_eq W487.size.symm)) (Nat.le_of_eq W490.size.symm)) (Nat.le_of_eq W493.size.symm)) (Nat.le_of_eq W496.size.symm)) (Nat.le_of_eq W499.size.symm))
      refine Go.callS C (hw _ (List.mem_of_getElem? (i := 2) rfl)) (hw _ (List.mem_of_getElem? (i := 3) rfl)) (hw _ (List.mem_of_getElem? (i := 4) rfl)) (hw _ (List.mem_of_getElem? (i := 5) rfl)) (c_put1_5 W.l Z a0 hw a470 v1 h498 n0 (upd (upd (upd (upd (upd (upd (upd (upd (fun _ => (0 : Int32)) 0 (nar .byte v468)) 1 (nar .byte v468)) 2 (nar .byte v468)) 3 (nar .byte v468)) 4 (nar .byte v468)) 5 (nar .byte v468)) 6 (nar .byte v468)) 7 (nar .byte v468)) F501 F500 g476 w0 w1 w2 w3 w4) at_82 pd__40_91BII_41I (q := 85) rfl rfl (argsL := [(.ref a470), (.int (1 : Int32)), (.int v1)]) (st := []) rfl rfl (w := 0) rfl (by decide) (by decide) (k' := 1) rfl (n' := 8) rfl (by decide) (by decide) ?_
      intro v h502 q
      obtain ⟨rfl, K503, F504⟩ := q
      show Go W n0 QL h502 1 8 85 #[.val (.int p0), .val (.int p1), .val (.int p2), .val (.int p3), .val (.int v1), .val (.int (1 : Int32)), .val (.int v468), .val (.ref a470), .unset, .unset] [(.int (6 : Int32))]
      refine Go.istoreR C at_85 (q := 87) rfl (l' := #[.val (.int p0), .val (.int p1), .val (.int p2), .val (.int p3), .val (.int v1), .val (.int (1 : Int32)), .val (.int v468), .val (.ref a470), .val (.int (6 : Int32)), .unset]) rfl ?_
      refine Go.iload C at_87 (q := 89) rfl rfl ?_
      refine Go.sipush C (128 : Int32) at_89 (q := 92) rfl rfl ?_
      refine Go.icmp C at_92 (n_ge _ _) (qt := 101) (q := 95) (by decide) (by decide) rfl (fun _ => ?_) (fun b505 => absurd t0 b505)
      refine Go.iload C at_101 (q := 103) rfl rfl ?_
      refine Go.sipush C (16384 : Int32) at_103 (q := 106) rfl rfl ?_
      refine Go.icmp C at_106 (n_ge _ _) (qt := 115) (q := 109) (by decide) (by decide) rfl (fun _ => ?_) (fun b506 => absurd t1 b506)
      refine Go.iload C at_115 (q := 117) rfl rfl ?_
      refine Go.ldcI C (hw _ (List.mem_of_getElem? (i := 10) rfl)) at_117 (q := 119) rfl ?_
      refine Go.icmp C at_119 (n_ge _ _) (qt := 128) (q := 122) (by decide) (by decide) rfl (fun _ => ?_) (fun b507 => absurd t2 b507)
      refine Go.iload C at_128 (q := 130) rfl rfl ?_
      refine Go.ldcI C (hw _ (List.mem_of_getElem? (i := 11) rfl)) at_130 (q := 132) rfl ?_
      refine Go.icmp C at_132 (n_ge _ _) (qt := 141) (q := 135) (by decide) (by decide) rfl (fun _ => ?_) (fun b508 => absurd t3 b508)
      refine Go.iconst C (5 : Int32) at_141 (q := 142) rfl rfl ?_
      refine Go.istoreR C at_142 (q := 144) rfl (l' := #[.val (.int p0), .val (.int p1), .val (.int p2), .val (.int p3), .val (.int v1), .val (.int (1 : Int32)), .val (.int v468), .val (.ref a470), .val (.int (6 : Int32)), .val (.int (5 : Int32))]) rfl ?_
      refine Go.iload C at_144 (q := 146) rfl rfl ?_
      refine Go.iload C at_146 (q := 148) rfl rfl ?_
      refine Go.iload C at_148 (q := 150) rfl rfl ?_
      refine Go.iadd C at_150 (q := 151) rfl ?_
      refine Go.icmp C at_151 (n_eq _ _) (qt := 156) (q := 154) (by decide) (by decide) rfl (fun _ => ?_) (fun b509 => absurd b509 (by decide))
      refine Go.aload C at_156 (q := 158) rfl rfl rfl ?_
      refine Go.iconst C (0 : Int32) at_158 (q := 159) rfl rfl ?_
      refine Go.iload C at_159 (q := 161) rfl rfl ?_
      refine Go.iload C at_161 (q := 163) rfl rfl ?_
      refine Go.iload C at_163 (q := 165) rfl rfl ?_
      refine Go.iload C at_165 (q := 167) rfl rfl ?_
      have F510 := (Nat.le_trans F501 K503.1)
      refine Go.pureS C (hw _ (List.mem_of_getElem? (i := 6) rfl)) (hw _ (List.mem_of_getElem? (i := 7) rfl)) (hw _ (List.mem_of_getElem? (i := 8) rfl)) (hw _ (List.mem_of_getElem? (i := 9) rfl)) (c_f_ok W.l Z a0 hw a470 (0 : Int32) (1 : Int32) (5 : Int32) v1 v468 h502 n0 (upd (upd (upd (upd (upd (upd (upd (upd (upd (upd (upd (upd (upd (fun _ => (0 : Int32)) 0 (nar .byte v468)) 1 (nar .byte v468)) 2 (nar .byte v468)) 3 (nar .byte v468)) 4 (nar .byte v468)) 5 (nar .byte v468)) 6 (nar .byte v468)) 7 (nar .byte v468)) 1 (nar .byte (v1 ||| (128 : Int32)).toInt8.toInt32)) 2 (nar .byte (((v1.toUInt32 >>> ((7 : Int32) &&& 31).toUInt32).toInt32) ||| (128 : Int32)).toInt8.toInt32)) 3 (nar .byte (((((v1.toUInt32 >>> ((7 : Int32) &&& 31).toUInt32).toInt32).toUInt32 >>> ((7 : Int32) &&& 31).toUInt32).toInt32) ||| (128 : Int32)).toInt8.toInt32)) 4 (nar .byte (((((((v1.toUInt32 >>> ((7 : Int32) &&& 31).toUInt32).toInt32).toUInt32 >>> ((7 : Int32) &&& 31).toUInt32).toInt32).toUInt32 >>> ((7 : Int32) &&& 31).toUInt32).toInt32) ||| (128 : Int32)).toInt8.toInt32)) 5 (nar .byte ((((((((v1.toUInt32 >>> ((7 : Int32) &&& 31).toUInt32).toInt32).toUInt32 >>> ((7 : Int32) &&& 31).toUInt32).toInt32).toUInt32 >>> ((7 : Int32) &&& 31).toUInt32).toInt32).toUInt32 >>> ((7 : Int32) &&& 31).toUInt32).toInt32).toInt8.toInt32)) F510 F504 (by decide)) at_167 pd__40_91BIIIIB_41Z (q := 170) rfl rfl (argsL := [(.ref a470), (.int (0 : Int32)), (.int (1 : Int32)), (.int (5 : Int32)), (.int v1), (.int v468)]) (st := []) rfl rfl (w := 0) rfl (by decide) (by decide) (by decide) (by decide) (res := .int (f_ok (nar .byte v468) (0 : Int32) (1 : Int32) (5 : Int32) v1 v468)) ?_
      suffices J512 : ∀ v511 : Int32, v511 = (if (f_ok (nar .byte v468) (0 : Int32) (1 : Int32) (5 : Int32) v1 v468) = (0 : Int32) then (0 : Int32) else (if (f_ok (nar .byte (v1 ||| (128 : Int32)).toInt8.toInt32) (1 : Int32) (1 : Int32) (5 : Int32) v1 v468) = (0 : Int32) then (0 : Int32) else (if (f_ok (nar .byte (((v1.toUInt32 >>> ((7 : Int32) &&& 31).toUInt32).toInt32) ||| (128 : Int32)).toInt8.toInt32) (2 : Int32) (1 : Int32) (5 : Int32) v1 v468) = (0 : Int32) then (0 : Int32) else (if (f_ok (nar .byte (((((v1.toUInt32 >>> ((7 : Int32) &&& 31).toUInt32).toInt32).toUInt32 >>> ((7 : Int32) &&& 31).toUInt32).toInt32) ||| (128 : Int32)).toInt8.toInt32) (3 : Int32) (1 : Int32) (5 : Int32) v1 v468) = (0 : Int32) then (0 : Int32) else (if (f_ok (nar .byte (((((((v1.toUInt32 >>> ((7 : Int32) &&& 31).toUInt32).toInt32).toUInt32 >>> ((7 : Int32) &&& 31).toUInt32).toInt32).toUInt32 >>> ((7 : Int32) &&& 31).toUInt32).toInt32) ||| (128 : Int32)).toInt8.toInt32) (4 : Int32) (1 : Int32) (5 : Int32) v1 v468) = (0 : Int32) then (0 : Int32) else (if (f_ok (nar .byte ((((((((v1.toUInt32 >>> ((7 : Int32) &&& 31).toUInt32).toInt32).toUInt32 >>> ((7 : Int32) &&& 31).toUInt32).toInt32).toUInt32 >>> ((7 : Int32) &&& 31).toUInt32).toInt32).toUInt32 >>> ((7 : Int32) &&& 31).toUInt32).toInt32).toInt8.toInt32) (5 : Int32) (1 : Int32) (5 : Int32) v1 v468) = (0 : Int32) then (0 : Int32) else (if (f_ok (nar .byte v468) (6 : Int32) (1 : Int32) (5 : Int32) v1 v468) = (0 : Int32) then (0 : Int32) else (if (f_ok (nar .byte v468) (7 : Int32) (1 : Int32) (5 : Int32) v1 v468) = (0 : Int32) then (0 : Int32) else (1 : Int32))))))))) → Go W n0 QL h502 1 8 299 #[.val (.int p0), .val (.int p1), .val (.int p2), .val (.int p3), .val (.int v1), .val (.int (1 : Int32)), .val (.int v468), .val (.ref a470), .val (.int (6 : Int32)), .val (.int (5 : Int32))] [(.int v511)] by
        refine Go.if0 C at_170 (z_eq _) (qt := 298) (q := 173) (by decide) (by decide) rfl (fun b513 => ?_) (fun b513 => ?_)
        ·
          refine Go.iconst C (0 : Int32) at_298 (q := 299) rfl rfl ?_
          exact J512 _ (by rw [if_pos b513])
        ·
          refine Go.aload C at_173 (q := 175) rfl rfl rfl ?_
          refine Go.iconst C (1 : Int32) at_175 (q := 176) rfl rfl ?_
          refine Go.iload C at_176 (q := 178) rfl rfl ?_
          refine Go.iload C at_178 (q := 180) rfl rfl ?_
          refine Go.iload C at_180 (q := 182) rfl rfl ?_
          refine Go.iload C at_182 (q := 184) rfl rfl ?_
          refine Go.pureS C (hw _ (List.mem_of_getElem? (i := 6) rfl)) (hw _ (List.mem_of_getElem? (i := 7) rfl)) (hw _ (List.mem_of_getElem? (i := 8) rfl)) (hw _ (List.mem_of_getElem? (i := 9) rfl)) (c_f_ok W.l Z a0 hw a470 (1 : Int32) (1 : Int32) (5 : Int32) v1 v468 h502 n0 (upd (upd (upd (upd (upd (upd (upd (upd (upd (upd (upd (upd (upd (fun _ => (0 : Int32)) 0 (nar .byte v468)) 1 (nar .byte v468)) 2 (nar .byte v468)) 3 (nar .byte v468)) 4 (nar .byte v468)) 5 (nar .byte v468)) 6 (nar .byte v468)) 7 (nar .byte v468)) 1 (nar .byte (v1 ||| (128 : Int32)).toInt8.toInt32)) 2 (nar .byte (((v1.toUInt32 >>> ((7 : Int32) &&& 31).toUInt32).toInt32) ||| (128 : Int32)).toInt8.toInt32)) 3 (nar .byte (((((v1.toUInt32 >>> ((7 : Int32) &&& 31).toUInt32).toInt32).toUInt32 >>> ((7 : Int32) &&& 31).toUInt32).toInt32) ||| (128 : Int32)).toInt8.toInt32)) 4 (nar .byte (((((((v1.toUInt32 >>> ((7 : Int32) &&& 31).toUInt32).toInt32).toUInt32 >>> ((7 : Int32) &&& 31).toUInt32).toInt32).toUInt32 >>> ((7 : Int32) &&& 31).toUInt32).toInt32) ||| (128 : Int32)).toInt8.toInt32)) 5 (nar .byte ((((((((v1.toUInt32 >>> ((7 : Int32) &&& 31).toUInt32).toInt32).toUInt32 >>> ((7 : Int32) &&& 31).toUInt32).toInt32).toUInt32 >>> ((7 : Int32) &&& 31).toUInt32).toInt32).toUInt32 >>> ((7 : Int32) &&& 31).toUInt32).toInt32).toInt8.toInt32)) F510 F504 (by decide)) at_184 pd__40_91BIIIIB_41Z (q := 187) rfl rfl (argsL := [(.ref a470), (.int (1 : Int32)), (.int (1 : Int32)), (.int (5 : Int32)), (.int v1), (.int v468)]) (st := []) rfl rfl (w := 0) rfl (by decide) (by decide) (by decide) (by decide) (res := .int (f_ok (nar .byte (v1 ||| (128 : Int32)).toInt8.toInt32) (1 : Int32) (1 : Int32) (5 : Int32) v1 v468)) ?_
          refine Go.if0 C at_187 (z_eq _) (qt := 298) (q := 190) (by decide) (by decide) rfl (fun b514 => ?_) (fun b514 => ?_)
          ·
            refine Go.iconst C (0 : Int32) at_298 (q := 299) rfl rfl ?_
            exact J512 _ (by rw [if_neg b513, if_pos b514])
          ·
            refine Go.aload C at_190 (q := 192) rfl rfl rfl ?_
            refine Go.iconst C (2 : Int32) at_192 (q := 193) rfl rfl ?_
            refine Go.iload C at_193 (q := 195) rfl rfl ?_
            refine Go.iload C at_195 (q := 197) rfl rfl ?_
            refine Go.iload C at_197 (q := 199) rfl rfl ?_
            refine Go.iload C at_199 (q := 201) rfl rfl ?_
            refine Go.pureS C (hw _ (List.mem_of_getElem? (i := 6) rfl)) (hw _ (List.mem_of_getElem? (i := 7) rfl)) (hw _ (List.mem_of_getElem? (i := 8) rfl)) (hw _ (List.mem_of_getElem? (i := 9) rfl)) (c_f_ok W.l Z a0 hw a470 (2 : Int32) (1 : Int32) (5 : Int32) v1 v468 h502 n0 (upd (upd (upd (upd (upd (upd (upd (upd (upd (upd (upd (upd (upd (fun _ => (0 : Int32)) 0 (nar .byte v468)) 1 (nar .byte v468)) 2 (nar .byte v468)) 3 (nar .byte v468)) 4 (nar .byte v468)) 5 (nar .byte v468)) 6 (nar .byte v468)) 7 (nar .byte v468)) 1 (nar .byte (v1 ||| (128 : Int32)).toInt8.toInt32)) 2 (nar .byte (((v1.toUInt32 >>> ((7 : Int32) &&& 31).toUInt32).toInt32) ||| (128 : Int32)).toInt8.toInt32)) 3 (nar .byte (((((v1.toUInt32 >>> ((7 : Int32) &&& 31).toUInt32).toInt32).toUInt32 >>> ((7 : Int32) &&& 31).toUInt32).toInt32) ||| (128 : Int32)).toInt8.toInt32)) 4 (nar .byte (((((((v1.toUInt32 >>> ((7 : Int32) &&& 31).toUInt32).toInt32).toUInt32 >>> ((7 : Int32) &&& 31).toUInt32).toInt32).toUInt32 >>> ((7 : Int32) &&& 31).toUInt32).toInt32) ||| (128 : Int32)).toInt8.toInt32)) 5 (nar .byte ((((((((v1.toUInt32 >>> ((7 : Int32) &&& 31).toUInt32).toInt32).toUInt32 >>> ((7 : Int32) &&& 31).toUInt32).toInt32).toUInt32 >>> ((7 : Int32) &&& 31).toUInt32).toInt32).toUInt32 >>> ((7 : Int32) &&& 31).toUInt32).toInt32).toInt8.toInt32)) F510 F504 (by decide)) at_201 pd__40_91BIIIIB_41Z (q := 204) rfl rfl (argsL := [(.ref a470), (.int (2 : Int32)), (.int (1 : Int32)), (.int (5 : Int32)), (.int v1), (.int v468)]) (st := []) rfl rfl (w := 0) rfl (by decide) (by decide) (by decide) (by decide) (res := .int (f_ok (nar .byte (((v1.toUInt32 >>> ((7 : Int32) &&& 31).toUInt32).toInt32) ||| (128 : Int32)).toInt8.toInt32) (2 : Int32) (1 : Int32) (5 : Int32) v1 v468)) ?_
            refine Go.if0 C at_204 (z_eq _) (qt := 298) (q := 207) (by decide) (by decide) rfl (fun b515 => ?_) (fun b515 => ?_)
            ·
              refine Go.iconst C (0 : Int32) at_298 (q := 299) rfl rfl ?_
              exact J512 _ (by rw [if_neg b513, if_neg b514, if_pos b515])
            ·
              refine Go.aload C at_207 (q := 209) rfl rfl rfl ?_
              refine Go.iconst C (3 : Int32) at_209 (q := 210) rfl rfl ?_
              refine Go.iload C at_210 (q := 212) rfl rfl ?_
              refine Go.iload C at_212 (q := 214) rfl rfl ?_
              refine Go.iload C at_214 (q := 216) rfl rfl ?_
              refine Go.iload C at_216 (q := 218) rfl rfl ?_
              refine Go.pureS C (hw _ (List.mem_of_getElem? (i := 6) rfl)) (hw _ (List.mem_of_getElem? (i := 7) rfl)) (hw _ (List.mem_of_getElem? (i := 8) rfl)) (hw _ (List.mem_of_getElem? (i := 9) rfl)) (c_f_ok W.l Z a0 hw a470 (3 : Int32) (1 : Int32) (5 : Int32) v1 v468 h502 n0 (upd (upd (upd (upd (upd (upd (upd (upd (upd (upd (upd (upd (upd (fun _ => (0 : Int32)) 0 (nar .byte v468)) 1 (nar .byte v468)) 2 (nar .byte v468)) 3 (nar .byte v468)) 4 (nar .byte v468)) 5 (nar .byte v468)) 6 (nar .byte v468)) 7 (nar .byte v468)) 1 (nar .byte (v1 ||| (128 : Int32)).toInt8.toInt32)) 2 (nar .byte (((v1.toUInt32 >>> ((7 : Int32) &&& 31).toUInt32).toInt32) ||| (128 : Int32)).toInt8.toInt32)) 3 (nar .byte (((((v1.toUInt32 >>> ((7 : Int32) &&& 31).toUInt32).toInt32).toUInt32 >>> ((7 : Int32) &&& 31).toUInt32).toInt32) ||| (128 : Int32)).toInt8.toInt32)) 4 (nar .byte (((((((v1.toUInt32 >>> ((7 : Int32) &&& 31).toUInt32).toInt32).toUInt32 >>> ((7 : Int32) &&& 31).toUInt32).toInt32).toUInt32 >>> ((7 : Int32) &&& 31).toUInt32).toInt32) ||| (128 : Int32)).toInt8.toInt32)) 5 (nar .byte ((((((((v1.toUInt32 >>> ((7 : Int32) &&& 31).toUInt32).toInt32).toUInt32 >>> ((7 : Int32) &&& 31).toUInt32).toInt32).toUInt32 >>> ((7 : Int32) &&& 31).toUInt32).toInt32).toUInt32 >>> ((7 : Int32) &&& 31).toUInt32).toInt32).toInt8.toInt32)) F510 F504 (by decide)) at_218 pd__40_91BIIIIB_41Z (q := 221) rfl rfl (argsL := [(.ref a470), (.int (3 : Int32)), (.int (1 : Int32)), (.int (5 : Int32)), (.int v1), (.int v468)]) (st := []) rfl rfl (w := 0) rfl (by decide) (by decide) (by decide) (by decide) (res := .int (f_ok (nar .byte (((((v1.toUInt32 >>> ((7 : Int32) &&& 31).toUInt32).toInt32).toUInt32 >>> ((7 : Int32) &&& 31).toUInt32).toInt32) ||| (128 : Int32)).toInt8.toInt32) (3 : Int32) (1 : Int32) (5 : Int32) v1 v468)) ?_
              refine Go.if0 C at_221 (z_eq _) (qt := 298) (q := 224) (by decide) (by decide) rfl (fun b516 => ?_) (fun b516 => ?_)
              ·
                refine Go.iconst C (0 : Int32) at_298 (q := 299) rfl rfl ?_
                exact J512 _ (by rw [if_neg b513, if_neg b514, if_neg b515, if_pos b516])
              ·
                refine Go.aload C at_224 (q := 226) rfl rfl rfl ?_
                refine Go.iconst C (4 : Int32) at_226 (q := 227) rfl rfl ?_
                refine Go.iload C at_227 (q := 229) rfl rfl ?_
                refine Go.iload C at_229 (q := 231) rfl rfl ?_
                refine Go.iload C at_231 (q := 233) rfl rfl ?_
                refine Go.iload C at_233 (q := 235) rfl rfl ?_
                refine Go.pureS C (hw _ (List.mem_of_getElem? (i := 6) rfl)) (hw _ (List.mem_of_getElem? (i := 7) rfl)) (hw _ (List.mem_of_getElem? (i := 8) rfl)) (hw _ (List.mem_of_getElem? (i := 9) rfl)) (c_f_ok W.l Z a0 hw a470 (4 : Int32) (1 : Int32) (5 : Int32) v1 v468 h502 n0 (upd (upd (upd (upd (upd (upd (upd (upd (upd (upd (upd (upd (upd (fun _ => (0 : Int32)) 0 (nar .byte v468)) 1 (nar .byte v468)) 2 (nar .byte v468)) 3 (nar .byte v468)) 4 (nar .byte v468)) 5 (nar .byte v468)) 6 (nar .byte v468)) 7 (nar .byte v468)) 1 (nar .byte (v1 ||| (128 : Int32)).toInt8.toInt32)) 2 (nar .byte (((v1.toUInt32 >>> ((7 : Int32) &&& 31).toUInt32).toInt32) ||| (128 : Int32)).toInt8.toInt32)) 3 (nar .byte (((((v1.toUInt32 >>> ((7 : Int32) &&& 31).toUInt32).toInt32).toUInt32 >>> ((7 : Int32) &&& 31).toUInt32).toInt32) ||| (128 : Int32)).toInt8.toInt32)) 4 (nar .byte (((((((v1.toUInt32 >>> ((7 : Int32) &&& 31).toUInt32).toInt32).toUInt32 >>> ((7 : Int32) &&& 31).toUInt32).toInt32).toUInt32 >>> ((7 : Int32) &&& 31).toUInt32).toInt32) ||| (128 : Int32)).toInt8.toInt32)) 5 (nar .byte ((((((((v1.toUInt32 >>> ((7 : Int32) &&& 31).toUInt32).toInt32).toUInt32 >>> ((7 : Int32) &&& 31).toUInt32).toInt32).toUInt32 >>> ((7 : Int32) &&& 31).toUInt32).toInt32).toUInt32 >>> ((7 : Int32) &&& 31).toUInt32).toInt32).toInt8.toInt32)) F510 F504 (by decide)) at_235 pd__40_91BIIIIB_41Z (q := 238) rfl rfl (argsL := [(.ref a470), (.int (4 : Int32)), (.int (1 : Int32)), (.int (5 : Int32)), (.int v1), (.int v468)]) (st := []) rfl rfl (w := 0) rfl (by decide) (by decide) (by decide) (by decide) (res := .int (f_ok (nar .byte (((((((v1.toUInt32 >>> ((7 : Int32) &&& 31).toUInt32).toInt32).toUInt32 >>> ((7 : Int32) &&& 31).toUInt32).toInt32).toUInt32 >>> ((7 : Int32) &&& 31).toUInt32).toInt32) ||| (128 : Int32)).toInt8.toInt32) (4 : Int32) (1 : Int32) (5 : Int32) v1 v468)) ?_
                refine Go.if0 C at_238 (z_eq _) (qt := 298) (q := 241) (by decide) (by decide) rfl (fun b517 => ?_) (fun b517 => ?_)
                ·
                  refine Go.iconst C (0 : Int32) at_298 (q := 299) rfl rfl ?_
                  exact J512 _ (by rw [if_neg b513, if_neg b514, if_neg b515, if_neg b516, if_pos b517])
                ·
                  refine Go.aload C at_241 (q := 243) rfl rfl rfl ?_
                  refine Go.iconst C (5 : Int32) at_243 (q := 244) rfl rfl ?_
                  refine Go.iload C at_244 (q := 246) rfl rfl ?_
                  refine Go.iload C at_246 (q := 248) rfl rfl ?_
                  refine Go.iload C at_248 (q := 250) rfl rfl ?_
                  refine Go.iload C at_250 (q := 252) rfl rfl ?_
                  refine Go.pureS C (hw _ (List.mem_of_getElem? (i := 6) rfl)) (hw _ (List.mem_of_getElem? (i := 7) rfl)) (hw _ (List.mem_of_getElem? (i := 8) rfl)) (hw _ (List.mem_of_getElem? (i := 9) rfl)) (c_f_ok W.l Z a0 hw a470 (5 : Int32) (1 : Int32) (5 : Int32) v1 v468 h502 n0 (upd (upd (upd (upd (upd (upd (upd (upd (upd (upd (upd (upd (upd (fun _ => (0 : Int32)) 0 (nar .byte v468)) 1 (nar .byte v468)) 2 (nar .byte v468)) 3 (nar .byte v468)) 4 (nar .byte v468)) 5 (nar .byte v468)) 6 (nar .byte v468)) 7 (nar .byte v468)) 1 (nar .byte (v1 ||| (128 : Int32)).toInt8.toInt32)) 2 (nar .byte (((v1.toUInt32 >>> ((7 : Int32) &&& 31).toUInt32).toInt32) ||| (128 : Int32)).toInt8.toInt32)) 3 (nar .byte (((((v1.toUInt32 >>> ((7 : Int32) &&& 31).toUInt32).toInt32).toUInt32 >>> ((7 : Int32) &&& 31).toUInt32).toInt32) ||| (128 : Int32)).toInt8.toInt32)) 4 (nar .byte (((((((v1.toUInt32 >>> ((7 : Int32) &&& 31).toUInt32).toInt32).toUInt32 >>> ((7 : Int32) &&& 31).toUInt32).toInt32).toUInt32 >>> ((7 : Int32) &&& 31).toUInt32).toInt32) ||| (128 : Int32)).toInt8.toInt32)) 5 (nar .byte ((((((((v1.toUInt32 >>> ((7 : Int32) &&& 31).toUInt32).toInt32).toUInt32 >>> ((7 : Int32) &&& 31).toUInt32).toInt32).toUInt32 >>> ((7 : Int32) &&& 31).toUInt32).toInt32).toUInt32 >>> ((7 : Int32) &&& 31).toUInt32).toInt32).toInt8.toInt32)) F510 F504 (by decide)) at_252 pd__40_91BIIIIB_41Z (q := 255) rfl rfl (argsL := [(.ref a470), (.int (5 : Int32)), (.int (1 : Int32)), (.int (5 : Int32)), (.int v1), (.int v468)]) (st := []) rfl rfl (w := 0) rfl (by decide) (by decide) (by decide) (by decide) (res := .int (f_ok (nar .byte ((((((((v1.toUInt32 >>> ((7 : Int32) &&& 31).toUInt32).toInt32).toUInt32 >>> ((7 : Int32) &&& 31).toUInt32).toInt32).toUInt32 >>> ((7 : Int32) &&& 31).toUInt32).toInt32).toUInt32 >>> ((7 : Int32) &&& 31).toUInt32).toInt32).toInt8.toInt32) (5 : Int32) (1 : Int32) (5 : Int32) v1 v468)) ?_
                  refine Go.if0 C at_255 (z_eq _) (qt := 298) (q := 258) (by decide) (by decide) rfl (fun b518 => ?_) (fun b518 => ?_)
                  ·
                    refine Go.iconst C (0 : Int32) at_298 (q := 299) rfl rfl ?_
                    exact J512 _ (by rw [if_neg b513, if_neg b514, if_neg b515, if_neg b516, if_neg b517, if_pos b518])
                  ·
                    refine Go.aload C at_258 (q := 260) rfl rfl rfl ?_
                    refine Go.bipush C (6 : Int32) at_260 (q := 262) rfl rfl ?_
                    refine Go.iload C at_262 (q := 264) rfl rfl ?_
                    refine Go.iload C at_264 (q := 266) rfl rfl ?_
                    refine Go.iload C at_266 (q := 268) rfl rfl ?_
                    refine Go.iload C at_268 (q := 270) rfl rfl ?_
                    refine Go.pureS C (hw _ (List.mem_of_getElem? (i := 6) rfl)) (hw _ (List.mem_of_getElem? (i := 7) rfl)) (hw _ (List.mem_of_getElem? (i := 8) rfl)) (hw _ (List.mem_of_getElem? (i := 9) rfl)) (c_f_ok W.l Z a0 hw a470 (6 : Int32) (1 : Int32) (5 : Int32) v1 v468 h502 n0 (upd (upd (upd (upd (upd (upd (upd (upd (upd (upd (upd (upd (upd (fun _ => (0 : Int32)) 0 (nar .byte v468)) 1 (nar .byte v468)) 2 (nar .byte v468)) 3 (nar .byte v468)) 4 (nar .byte v468)) 5 (nar .byte v468)) 6 (nar .byte v468)) 7 (nar .byte v468)) 1 (nar .byte (v1 ||| (128 : Int32)).toInt8.toInt32)) 2 (nar .byte (((v1.toUInt32 >>> ((7 : Int32) &&& 31).toUInt32).toInt32) ||| (128 : Int32)).toInt8.toInt32)) 3 (nar .byte (((((v1.toUInt32 >>> ((7 : Int32) &&& 31).toUInt32).toInt32).toUInt32 >>> ((7 : Int32) &&& 31).toUInt32).toInt32) ||| (128 : Int32)).toInt8.toInt32)) 4 (nar .byte (((((((v1.toUInt32 >>> ((7 : Int32) &&& 31).toUInt32).toInt32).toUInt32 >>> ((7 : Int32) &&& 31).toUInt32).toInt32).toUInt32 >>> ((7 : Int32) &&& 31).toUInt32).toInt32) ||| (128 : Int32)).toInt8.toInt32)) 5 (nar .byte ((((((((v1.toUInt32 >>> ((7 : Int32) &&& 31).toUInt32).toInt32).toUInt32 >>> ((7 : Int32) &&& 31).toUInt32).toInt32).toUInt32 >>> ((7 : Int32) &&& 31).toUInt32).toInt32).toUInt32 >>> ((7 : Int32) &&& 31).toUInt32).toInt32).toInt8.toInt32)) F510 F504 (by decide)) at_270 pd__40_91BIIIIB_41Z (q := 273) rfl rfl (argsL := [(.ref a470), (.int (6 : Int32)), (.int (1 : Int32)), (.int (5 : Int32)), (.int v1), (.int v468)]) (st := []) rfl rfl (w := 0) rfl (by decide) (by decide) (by decide) (by decide) (res := .int (f_ok (nar .byte v468) (6 : Int32) (1 : Int32) (5 : Int32) v1 v468)) ?_
                    refine Go.if0 C at_273 (z_eq _) (qt := 298) (q := 276) (by decide) (by decide) rfl (fun b519 => ?_) (fun b519 => ?_)
                    ·
                      refine Go.iconst C (0 : Int32) at_298 (q := 299) rfl rfl ?_
                      exact J512 _ (by rw [if_neg b513, if_neg b514, if_neg b515, if_neg b516, if_neg b517, if_neg b518, if_pos b519])
                    ·
                      refine Go.aload C at_276 (q := 278) rfl rfl rfl ?_
                      refine Go.bipush C (7 : Int32) at_278 (q := 280) rfl rfl ?_
                      refine Go.iload C at_280 (q := 282) rfl rfl ?_
                      refine Go.iload C at_282 (q := 284) rfl rfl ?_
                      refine Go.iload C at_284 (q := 286) rfl rfl ?_
                      refine Go.iload C at_286 (q := 288) rfl rfl ?_
                      refine Go.pureS C (hw _ (List.mem_of_getElem? (i := 6) rfl)) (hw _ (List.mem_of_getElem? (i := 7) rfl)) (hw _ (List.mem_of_getElem? (i := 8) rfl)) (hw _ (List.mem_of_getElem? (i := 9) rfl)) (c_f_ok W.l Z a0 hw a470 (7 : Int32) (1 : Int32) (5 : Int32) v1 v468 h502 n0 (upd (upd (upd (upd (upd (upd (upd (upd (upd (upd (upd (upd (upd (fun _ => (0 : Int32)) 0 (nar .byte v468)) 1 (nar .byte v468)) 2 (nar .byte v468)) 3 (nar .byte v468)) 4 (nar .byte v468)) 5 (nar .byte v468)) 6 (nar .byte v468)) 7 (nar .byte v468)) 1 (nar .byte (v1 ||| (128 : Int32)).toInt8.toInt32)) 2 (nar .byte (((v1.toUInt32 >>> ((7 : Int32) &&& 31).toUInt32).toInt32) ||| (128 : Int32)).toInt8.toInt32)) 3 (nar .byte (((((v1.toUInt32 >>> ((7 : Int32) &&& 31).toUInt32).toInt32).toUInt32 >>> ((7 : Int32) &&& 31).toUInt32).toInt32) ||| (128 : Int32)).toInt8.toInt32)) 4 (nar .byte (((((((v1.toUInt32 >>> ((7 : Int32) &&& 31).toUInt32).toInt32).toUInt32 >>> ((7 : Int32) &&& 31).toUInt32).toInt32).toUInt32 >>> ((7 : Int32) &&& 31).toUInt32).toInt32) ||| (128 : Int32)).toInt8.toInt32)) 5 (nar .byte ((((((((v1.toUInt32 >>> ((7 : Int32) &&& 31).toUInt32).toInt32).toUInt32 >>> ((7 : Int32) &&& 31).toUInt32).toInt32).toUInt32 >>> ((7 : Int32) &&& 31).toUInt32).toInt32).toUInt32 >>> ((7 : Int32) &&& 31).toUInt32).toInt32).toInt8.toInt32)) F510 F504 (by decide)) at_288 pd__40_91BIIIIB_41Z (q := 291) rfl rfl (argsL := [(.ref a470), (.int (7 : Int32)), (.int (1 : Int32)), (.int (5 : Int32)), (.int v1), (.int v468)]) (st := []) rfl rfl (w := 0) rfl (by decide) (by decide) (by decide) (by decide) (res := .int (f_ok (nar .byte v468) (7 : Int32) (1 : Int32) (5 : Int32) v1 v468)) ?_
                      refine Go.if0 C at_291 (z_eq _) (qt := 298) (q := 294) (by decide) (by decide) rfl (fun b520 => ?_) (fun b520 => ?_)
                      ·
                        refine Go.iconst C (0 : Int32) at_298 (q := 299) rfl rfl ?_
                        exact J512 _ (by rw [if_neg b513, if_neg b514, if_neg b515, if_neg b516, if_neg b517, if_neg b518, if_neg b519, if_pos b520])
                      ·
                        refine Go.iconst C (1 : Int32) at_294 (q := 295) rfl rfl ?_
                        refine Go.goto C at_295 (q := 299) (by decide) (by decide) ?_
                        exact J512 _ (by rw [if_neg b513, if_neg b514, if_neg b515, if_neg b516, if_neg b517, if_neg b518, if_neg b519, if_neg b520])
      intro v511 hv511
      exact Go.retZ (t := .boolean) (by simp) C at_299 (by decide) (by decide) (congrArg (fun z => some (Value.int z)) (fin9 p0 p1 p2 p3 v1 hv1  hv2  w0  w1  w2  w3  w4 v468 hv468 v511 hv511))
  ·
    rcases own_sizes v1 (own_nn _ _ hv1) with ⟨w0, t0⟩ | ⟨w0, w1, t0, t1⟩ | ⟨w0, w1, w2, t0, t1, t2⟩ | ⟨w0, w1, w2, w3, t0, t1, t2, t3⟩ | ⟨w0, w1, w2, w3, w4, t0, t1, t2, t3⟩
    ·
      refine Go.istore C at_18 (q := 20) rfl (fun z => #[.val (.int p0), .val (.int p1), .val (.int p2), .val (.int p3), .val (.int v1), .val (.int (2 : Int32)), .val (.int z), .unset, .unset, .unset]) (fun _ => rfl) ?_
      intro v521 hv521
      refine Go.bipush C (8 : Int32) at_20 (q := 22) rfl rfl ?_
      refine Go.newP C (hw _ (List.mem_of_getElem? (i := 1) rfl)) (by decide) (cap := 8) (by decide) (by decide) at_22 (q := 24) rfl (k' := 1) rfl (n' := 8) rfl (by decide) (by decide) ?_
      intro h522 a523 cA524 g525 E526 Fn527
      have g529 : n0 ≤ a523 := g525 ▸ Z0
      have F528 : Av Z h522 a523 .byte 8 (iF (fun _ => (0 : Int32))) := Av.of Fn527
      refine Go.astore C at_24 (q := 26) rfl (l' := #[.val (.int p0), .val (.int p1), .val (.int p2), .val (.int p3), .val (.int v1), .val (.int (2 : Int32)), .val (.int v521), .val (.ref a523), .unset, .unset]) rfl rfl ?_
      refine Go.aload C at_26 (q := 28) rfl rfl rfl ?_
      refine Go.iconst C (0 : Int32) at_28 (q := 29) rfl rfl ?_
      refine Go.iload C at_29 (q := 31) rfl rfl ?_
      refine Go.bastore C F528 0 (by decide) (by decide) (by decide) g529 at_31 (q := 32) rfl ?_
      intro h530 W531
      have F532 := F528.sameI W531
      refine Go.aload C at_32 (q := 34) rfl rfl rfl ?_
      refine Go.iconst C (1 : Int32) at_34 (q := 35) rfl rfl ?_
      refine Go.iload C at_35 (q := 37) rfl rfl ?_
      refine Go.bastore C F532 1 (by decide) (by decide) (by decide) g529 at_37 (q := 38) rfl ?_
      intro h533 W534
      have F535 := F532.sameI W534
      refine Go.aload C at_38 (q := 40) rfl rfl rfl ?_
      refine Go.iconst C (2 : Int32) at_40 (q := 41) rfl rfl ?_
      refine Go.iload C at_41 (q := 43) rfl rfl ?_
      refine Go.bastore C F535 2 (by decide) (by decide) (by decide) g529 at_43 (q := 44) rfl ?_
      intro h536 W537
      have F538 := F535.sameI W537
      refine Go.aload C at_44 (q := 46) rfl rfl rfl ?_
      refine Go.iconst C (3 : Int32) at_46 (q := 47) rfl rfl ?_
      refine Go.iload C at_47 (q := 49) rfl rfl ?_
      refine Go.bastore C F538 3 (by decide) (by decide) (by decide) g529 at_49 (q := 50) rfl ?_
      intro h539 W540
      have F541 := F538.sameI W540
      refine Go.aload C at_50 (q := 52) rfl rfl rfl ?_
      refine Go.iconst C (4 : Int32) at_52 (q := 53) rfl rfl ?_
      refine Go.iload C at_53 (q := 55) rfl rfl ?_
      refine Go.bastore C F541 4 (by decide) (by decide) (by decide) g529 at_55 (q := 56) rfl ?_
      intro h542 W543
      have F544 := F541.sameI W543
      refine Go.aload C at_56 (q := 58) rfl rfl rfl ?_
      refine Go.iconst C (5 : Int32) at_58 (q := 59) rfl rfl ?_
      refine Go.iload C at_59 (q := 61) rfl rfl ?_
      refine Go.bastore C F544 5 (by decide) (by decide) (by decide) g529 at_61 (q := 62) rfl ?_
      intro h545 W546
      have F547 := F544.sameI W546
      refine Go.aload C at_62 (q := 64) rfl rfl rfl ?_
      refine Go.bipush C (6 : Int32) at_64 (q := 66) rfl rfl ?_
      refine Go.iload C at_66 (q := 68) rfl rfl ?_
      refine Go.bastore C F547 6 (by decide) (by decide) (by decide) g529 at_68 (q := 69) rfl ?_
      intro h548 W549
      have F550 := F547.sameI W549
      refine Go.aload C at_69 (q := 71) rfl rfl rfl ?_
      refine Go.bipush C (7 : Int32) at_71 (q := 73) rfl rfl ?_
      refine Go.iload C at_73 (q := 75) rfl rfl ?_
      refine Go.bastore C F550 7 (by decide) (by decide) (by decide) g529 at_75 (q := 76) rfl ?_
      intro h551 W552
      have F553 := F550.sameI W552
      refine Go.aload C at_76 (q := 78) rfl rfl rfl ?_
      refine Go.iload C at_78 (q := 80) rfl rfl ?_
      refine Go.iload C at_80 (q := 82) rfl rfl ?_
      have F554 := (Nat.le_trans (Nat.le_trans (Nat.le_trans (Nat.le_trans (Nat.le_trans (Nat.le_trans (Nat.le_trans (Nat.le_trans (Nat.le_trans Z0 E526.1) (Nat.le_of_eq W531.size.symm)) (Nat.le_of_eq W534.size.symm)) (Nat.le_of_eq W537.size.symm)) (Nat.le_of_eq W540.size.symm)) (Nat.le_of_eq W543.size.symm)) (Nat.le_of_eq W546.size.symm)) (Nat.le_of_eq W549.size.symm)) (Nat.le_of_eq W552.size.symm))
      refine Go.callS C (hw _ (List.mem_of_getElem? (i := 2) rfl)) (hw _ (List.mem_of_getElem? (i := 3) rfl)) (hw _ (List.mem_of_getElem? (i := 4) rfl)) (hw _ (List.mem_of_getElem? (i := 5) rfl)) (c_put2_1 W.l Z a0 hw a523 v1 h551 n0 (upd (upd (upd (upd (upd (upd (upd (upd (fun _ => (0 : Int32)) 0 (nar .byte v521)) 1 (nar .byte v521)) 2 (nar .byte v521)) 3 (nar .byte v521)) 4 (nar .byte v521)) 5 (nar .byte v521)) 6 (nar .byte v521)) 7 (nar .byte v521)) F554 F553 g529 w0) at_82 pd__40_91BII_41I (q := 85) rfl rfl (argsL := [(.ref a523), (.int (2 : Int32)), (.int v1)]) (st := []) rfl rfl (w := 0) rfl (by decide) (by decide) (k' := 1) rfl (n' := 8) rfl (by decide) (by decide) ?_
      intro v h555 q
      obtain ⟨rfl, K556, F557⟩ := q
      show Go W n0 QL h555 1 8 85 #[.val (.int p0), .val (.int p1), .val (.int p2), .val (.int p3), .val (.int v1), .val (.int (2 : Int32)), .val (.int v521), .val (.ref a523), .unset, .unset] [(.int (3 : Int32))]
      refine Go.istoreR C at_85 (q := 87) rfl (l' := #[.val (.int p0), .val (.int p1), .val (.int p2), .val (.int p3), .val (.int v1), .val (.int (2 : Int32)), .val (.int v521), .val (.ref a523), .val (.int (3 : Int32)), .unset]) rfl ?_
      refine Go.iload C at_87 (q := 89) rfl rfl ?_
      refine Go.sipush C (128 : Int32) at_89 (q := 92) rfl rfl ?_
      refine Go.icmp C at_92 (n_ge _ _) (qt := 101) (q := 95) (by decide) (by decide) rfl (fun b558 => absurd t0 b558) (fun _ => ?_)
      refine Go.iconst C (1 : Int32) at_95 (q := 96) rfl rfl ?_
      refine Go.istoreR C at_96 (q := 98) rfl (l' := #[.val (.int p0), .val (.int p1), .val (.int p2), .val (.int p3), .val (.int v1), .val (.int (2 : Int32)), .val (.int v521), .val (.ref a523), .val (.int (3 : Int32)), .val (.int (1 : Int32))]) rfl ?_
      refine Go.goto C at_98 (q := 144) (by decide) (by decide) ?_
      refine Go.iload C at_144 (q := 146) rfl rfl ?_
      refine Go.iload C at_146 (q := 148) rfl rfl ?_
      refine Go.iload C at_148 (q := 150) rfl rfl ?_
      refine Go.iadd C at_150 (q := 151) rfl ?_
      refine Go.icmp C at_151 (n_eq _ _) (qt := 156) (q := 154) (by decide) (by decide) rfl (fun _ => ?_) (fun b559 => absurd b559 (by decide))
      refine Go.aload C at_156 (q := 158) rfl rfl rfl ?_
      refine Go.iconst C (0 : Int32) at_158 (q := 159) rfl rfl ?_
      refine Go.iload C at_159 (q := 161) rfl rfl ?_
      refine Go.iload C at_161 (q := 163) rfl rfl ?_
      refine Go.iload C at_163 (q := 165) rfl rfl ?_
      refine Go.iload C at_165 (q := 167) rfl rfl ?_
      have F560 := (Nat.le_trans F554 K556.1)
      refine Go.pureS C (hw _ (List.mem_of_getElem? (i := 6) rfl)) (hw _ (List.mem_of_getElem? (i := 7) rfl)) (hw _ (List.mem_of_getElem? (i := 8) rfl)) (hw _ (List.mem_of_getElem? (i := 9) rfl)) (c_f_ok W.l Z a0 hw a523 (0 : Int32) (2 : Int32) (1 : Int32) v1 v521 h555 n0 (upd (upd (upd (upd (upd (upd (upd (upd (upd (fun _ => (0 : Int32)) 0 (nar .byte v521)) 1 (nar .byte v521)) 2 (nar .byte v521)) 3 (nar .byte v521)) 4 (nar .byte v521)) 5 (nar .byte v521)) 6 (nar .byte v521)) 7 (nar .byte v521)) 2 (nar .byte v1.toInt8.toInt32)) F560 F557 (by decide)) at_167 pd__40_91BIIIIB_41Z (q := 170) rfl rfl (argsL := [(.ref a523), (.int (0 : Int32)), (.int (2 : Int32)), (.int (1 : Int32)), (.int v1), (.int v521)]) (st := []) rfl rfl (w := 0) rfl (by decide) (by decide) (by decide) (by decide) (res := .int (f_ok (nar .byte v521) (0 : Int32) (2 : Int32) (1 : Int32) v1 v521)) ?_
      suffices J562 : ∀ v561 : Int32, v561 = (if (f_ok (nar .byte v521) (0 : Int32) (2 : Int32) (1 : Int32) v1 v521) = (0 : Int32) then (0 : Int32) else (if (f_ok (nar .byte v521) (1 : Int32) (2 : Int32) (1 : Int32) v1 v521) = (0 : Int32) then (0 : Int32) else (if (f_ok (nar .byte v1.toInt8.toInt32) (2 : Int32) (2 : Int32) (1 : Int32) v1 v521) = (0 : Int32) then (0 : Int32) else (if (f_ok (nar .byte v521) (3 : Int32) (2 : Int32) (1 : Int32) v1 v521) = (0 : Int32) then (0 : Int32) else (if (f_ok (nar .byte v521) (4 : Int32) (2 : Int32) (1 : Int32) v1 v521) = (0 : Int32) then (0 : Int32) else (if (f_ok (nar .byte v521) (5 : Int32) (2 : Int32) (1 : Int32) v1 v521) = (0 : Int32) then (0 : Int32) else (if (f_ok (nar .byte v521) (6 : Int32) (2 : Int32) (1 : Int32) v1 v521) = (0 : Int32) then (0 : Int32) else (if (f_ok (nar .byte v521) (7 : Int32) (2 : Int32) (1 : Int32) v1 v521) = (0 : Int32) then (0 : Int32) else (1 : Int32))))))))) → Go W n0 QL h555 1 8 299 #[.val (.int p0), .val (.int p1), .val (.int p2), .val (.int p3), .val (.int v1), .val (.int (2 : Int32)), .val (.int v521), .val (.ref a523), .val (.int (3 : Int32)), .val (.int (1 : Int32))] [(.int v561)] by
        refine Go.if0 C at_170 (z_eq _) (qt := 298) (q := 173) (by decide) (by decide) rfl (fun b563 => ?_) (fun b563 => ?_)
        ·
          refine Go.iconst C (0 : Int32) at_298 (q := 299) rfl rfl ?_
          exact J562 _ (by rw [if_pos b563])
        ·
          refine Go.aload C at_173 (q := 175) rfl rfl rfl ?_
          refine Go.iconst C (1 : Int32) at_175 (q := 176) rfl rfl ?_
          refine Go.iload C at_176 (q := 178) rfl rfl ?_
          refine Go.iload C at_178 (q := 180) rfl rfl ?_
          refine Go.iload C at_180 (q := 182) rfl rfl ?_
          refine Go.iload C at_182 (q := 184) rfl rfl ?_
          refine Go.pureS C (hw _ (List.mem_of_getElem? (i := 6) rfl)) (hw _ (List.mem_of_getElem? (i := 7) rfl)) (hw _ (List.mem_of_getElem? (i := 8) rfl)) (hw _ (List.mem_of_getElem? (i := 9) rfl)) (c_f_ok W.l Z a0 hw a523 (1 : Int32) (2 : Int32) (1 : Int32) v1 v521 h555 n0 (upd (upd (upd (upd (upd (upd (upd (upd (upd (fun _ => (0 : Int32)) 0 (nar .byte v521)) 1 (nar .byte v521)) 2 (nar .byte v521)) 3 (nar .byte v521)) 4 (nar .byte v521)) 5 (nar .byte v521)) 6 (nar .byte v521)) 7 (nar .byte v521)) 2 (nar .byte v1.toInt8.toInt32)) F560 F557 (by decide)) at_184 pd__40_91BIIIIB_41Z (q := 187) rfl rfl (argsL := [(.ref a523), (.int (1 : Int32)), (.int (2 : Int32)), (.int (1 : Int32)), (.int v1), (.int v521)]) (st := []) rfl rfl (w := 0) rfl (by decide) (by decide) (by decide) (by decide) (res := .int (f_ok (nar .byte v521) (1 : Int32) (2 : Int32) (1 : Int32) v1 v521)) ?_
          refine Go.if0 C at_187 (z_eq _) (qt := 298) (q := 190) (by decide) (by decide) rfl (fun b564 => ?_) (fun b564 => ?_)
          ·
            refine Go.iconst C (0 : Int32) at_298 (q := 299) rfl rfl ?_
            exact J562 _ (by rw [if_neg b563, if_pos b564])
          ·
            refine Go.aload C at_190 (q := 192) rfl rfl rfl ?_
            refine Go.iconst C (2 : Int32) at_192 (q := 193) rfl rfl ?_
            refine Go.iload C at_193 (q := 195) rfl rfl ?_
            refine Go.iload C at_195 (q := 197) rfl rfl ?_
            refine Go.iload C at_197 (q := 199) rfl rfl ?_
            refine Go.iload C at_199 (q := 201) rfl rfl ?_
            refine Go.pureS C (hw _ (List.mem_of_getElem? (i := 6) rfl)) (hw _ (List.mem_of_getElem? (i := 7) rfl)) (hw _ (List.mem_of_getElem? (i := 8) rfl)) (hw _ (List.mem_of_getElem? (i := 9) rfl)) (c_f_ok W.l Z a0 hw a523 (2 : Int32) (2 : Int32) (1 : Int32) v1 v521 h555 n0 (upd (upd (upd (upd (upd (upd (upd (upd (upd (fun _ => (0 : Int32)) 0 (nar .byte v521)) 1 (nar .byte v521)) 2 (nar .byte v521)) 3 (nar .byte v521)) 4 (nar .byte v521)) 5 (nar .byte v521)) 6 (nar .byte v521)) 7 (nar .byte v521)) 2 (nar .byte v1.toInt8.toInt32)) F560 F557 (by decide)) at_201 pd__40_91BIIIIB_41Z (q := 204) rfl rfl (argsL := [(.ref a523), (.int (2 : Int32)), (.int (2 : Int32)), (.int (1 : Int32)), (.int v1), (.int v521)]) (st := []) rfl rfl (w := 0) rfl (by decide) (by decide) (by decide) (by decide) (res := .int (f_ok (nar .byte v1.toInt8.toInt32) (2 : Int32) (2 : Int32) (1 : Int32) v1 v521)) ?_
            refine Go.if0 C at_204 (z_eq _) (qt := 298) (q := 207) (by decide) (by decide) rfl (fun b565 => ?_) (fun b565 => ?_)
            ·
              refine Go.iconst C (0 : Int32) at_298 (q := 299) rfl rfl ?_
              exact J562 _ (by rw [if_neg b563, if_neg b564, if_pos b565])
            ·
              refine Go.aload C at_207 (q := 209) rfl rfl rfl ?_
              refine Go.iconst C (3 : Int32) at_209 (q := 210) rfl rfl ?_
              refine Go.iload C at_210 (q := 212) rfl rfl ?_
              refine Go.iload C at_212 (q := 214) rfl rfl ?_
              refine Go.iload C at_214 (q := 216) rfl rfl ?_
              refine Go.iload C at_216 (q := 218) rfl rfl ?_
              refine Go.pureS C (hw _ (List.mem_of_getElem? (i := 6) rfl)) (hw _ (List.mem_of_getElem? (i := 7) rfl)) (hw _ (List.mem_of_getElem? (i := 8) rfl)) (hw _ (List.mem_of_getElem? (i := 9) rfl)) (c_f_ok W.l Z a0 hw a523 (3 : Int32) (2 : Int32) (1 : Int32) v1 v521 h555 n0 (upd (upd (upd (upd (upd (upd (upd (upd (upd (fun _ => (0 : Int32)) 0 (nar .byte v521)) 1 (nar .byte v521)) 2 (nar .byte v521)) 3 (nar .byte v521)) 4 (nar .byte v521)) 5 (nar .byte v521)) 6 (nar .byte v521)) 7 (nar .byte v521)) 2 (nar .byte v1.toInt8.toInt32)) F560 F557 (by decide)) at_218 pd__40_91BIIIIB_41Z (q := 221) rfl rfl (argsL := [(.ref a523), (.int (3 : Int32)), (.int (2 : Int32)), (.int (1 : Int32)), (.int v1), (.int v521)]) (st := []) rfl rfl (w := 0) rfl (by decide) (by decide) (by decide) (by decide) (res := .int (f_ok (nar .byte v521) (3 : Int32) (2 : Int32) (1 : Int32) v1 v521)) ?_
              refine Go.if0 C at_221 (z_eq _) (qt := 298) (q := 224) (by decide) (by decide) rfl (fun b566 => ?_) (fun b566 => ?_)
              ·
                refine Go.iconst C (0 : Int32) at_298 (q := 299) rfl rfl ?_
                exact J562 _ (by rw [if_neg b563, if_neg b564, if_neg b565, if_pos b566])
              ·
                refine Go.aload C at_224 (q := 226) rfl rfl rfl ?_
                refine Go.iconst C (4 : Int32) at_226 (q := 227) rfl rfl ?_
                refine Go.iload C at_227 (q := 229) rfl rfl ?_
                refine Go.iload C at_229 (q := 231) rfl rfl ?_
                refine Go.iload C at_231 (q := 233) rfl rfl ?_
                refine Go.iload C at_233 (q := 235) rfl rfl ?_
                refine Go.pureS C (hw _ (List.mem_of_getElem? (i := 6) rfl)) (hw _ (List.mem_of_getElem? (i := 7) rfl)) (hw _ (List.mem_of_getElem? (i := 8) rfl)) (hw _ (List.mem_of_getElem? (i := 9) rfl)) (c_f_ok W.l Z a0 hw a523 (4 : Int32) (2 : Int32) (1 : Int32) v1 v521 h555 n0 (upd (upd (upd (upd (upd (upd (upd (upd (upd (fun _ => (0 : Int32)) 0 (nar .byte v521)) 1 (nar .byte v521)) 2 (nar .byte v521)) 3 (nar .byte v521)) 4 (nar .byte v521)) 5 (nar .byte v521)) 6 (nar .byte v521)) 7 (nar .byte v521)) 2 (nar .byte v1.toInt8.toInt32)) F560 F557 (by decide)) at_235 pd__40_91BIIIIB_41Z (q := 238) rfl rfl (argsL := [(.ref a523), (.int (4 : Int32)), (.int (2 : Int32)), (.int (1 : Int32)), (.int v1), (.int v521)]) (st := []) rfl rfl (w := 0) rfl (by decide) (by decide) (by decide) (by decide) (res := .int (f_ok (nar .byte v521) (4 : Int32) (2 : Int32) (1 : Int32) v1 v521)) ?_
                refine Go.if0 C at_238 (z_eq _) (qt := 298) (q := 241) (by decide) (by decide) rfl (fun b567 => ?_) (fun b567 => ?_)
                ·
                  refine Go.iconst C (0 : Int32) at_298 (q := 299) rfl rfl ?_
                  exact J562 _ (by rw [if_neg b563, if_neg b564, if_neg b565, if_neg b566, if_pos b567])
                ·
                  refine Go.aload C at_241 (q := 243) rfl rfl rfl ?_
                  refine Go.iconst C (5 : Int32) at_243 (q := 244) rfl rfl ?_
                  refine Go.iload C at_244 (q := 246) rfl rfl ?_
                  refine Go.iload C at_246 (q := 248) rfl rfl ?_
                  refine Go.iload C at_248 (q := 250) rfl rfl ?_
                  refine Go.iload C at_250 (q := 252) rfl rfl ?_
                  refine Go.pureS C (hw _ (List.mem_of_getElem? (i := 6) rfl)) (hw _ (List.mem_of_getElem? (i := 7) rfl)) (hw _ (List.mem_of_getElem? (i := 8) rfl)) (hw _ (List.mem_of_getElem? (i := 9) rfl)) (c_f_ok W.l Z a0 hw a523 (5 : Int32) (2 : Int32) (1 : Int32) v1 v521 h555 n0 (upd (upd (upd (upd (upd (upd (upd (upd (upd (fun _ => (0 : Int32)) 0 (nar .byte v521)) 1 (nar .byte v521)) 2 (nar .byte v521)) 3 (nar .byte v521)) 4 (nar .byte v521)) 5 (nar .byte v521)) 6 (nar .byte v521)) 7 (nar .byte v521)) 2 (nar .byte v1.toInt8.toInt32)) F560 F557 (by decide)) at_252 pd__40_91BIIIIB_41Z (q := 255) rfl rfl (argsL := [(.ref a523), (.int (5 : Int32)), (.int (2 : Int32)), (.int (1 : Int32)), (.int v1), (.int v521)]) (st := []) rfl rfl (w := 0) rfl (by decide) (by decide) (by decide) (by decide) (res := .int (f_ok (nar .byte v521) (5 : Int32) (2 : Int32) (1 : Int32) v1 v521)) ?_
                  refine Go.if0 C at_255 (z_eq _) (qt := 298) (q := 258) (by decide) (by decide) rfl (fun b568 => ?_) (fun b568 => ?_)
                  ·
                    refine Go.iconst C (0 : Int32) at_298 (q := 299) rfl rfl ?_
                    exact J562 _ (by rw [if_neg b563, if_neg b564, if_neg b565, if_neg b566, if_neg b567, if_pos b568])
                  ·
                    refine Go.aload C at_258 (q := 260) rfl rfl rfl ?_
                    refine Go.bipush C (6 : Int32) at_260 (q := 262) rfl rfl ?_
                    refine Go.iload C at_262 (q := 264) rfl rfl ?_
                    refine Go.iload C at_264 (q := 266) rfl rfl ?_
                    refine Go.iload C at_266 (q := 268) rfl rfl ?_
                    refine Go.iload C at_268 (q := 270) rfl rfl ?_
                    refine Go.pureS C (hw _ (List.mem_of_getElem? (i := 6) rfl)) (hw _ (List.mem_of_getElem? (i := 7) rfl)) (hw _ (List.mem_of_getElem? (i := 8) rfl)) (hw _ (List.mem_of_getElem? (i := 9) rfl)) (c_f_ok W.l Z a0 hw a523 (6 : Int32) (2 : Int32) (1 : Int32) v1 v521 h555 n0 (upd (upd (upd (upd (upd (upd (upd (upd (upd (fun _ => (0 : Int32)) 0 (nar .byte v521)) 1 (nar .byte v521)) 2 (nar .byte v521)) 3 (nar .byte v521)) 4 (nar .byte v521)) 5 (nar .byte v521)) 6 (nar .byte v521)) 7 (nar .byte v521)) 2 (nar .byte v1.toInt8.toInt32)) F560 F557 (by decide)) at_270 pd__40_91BIIIIB_41Z (q := 273) rfl rfl (argsL := [(.ref a523), (.int (6 : Int32)), (.int (2 : Int32)), (.int (1 : Int32)), (.int v1), (.int v521)]) (st := []) rfl rfl (w := 0) rfl (by decide) (by decide) (by decide) (by decide) (res := .int (f_ok (nar .byte v521) (6 : Int32) (2 : Int32) (1 : Int32) v1 v521)) ?_
                    refine Go.if0 C at_273 (z_eq _) (qt := 298) (q := 276) (by decide) (by decide) rfl (fun b569 => ?_) (fun b569 => ?_)
                    ·
                      refine Go.iconst C (0 : Int32) at_298 (q := 299) rfl rfl ?_
                      exact J562 _ (by rw [if_neg b563, if_neg b564, if_neg b565, if_neg b566, if_neg b567, if_neg b568, if_pos b569])
                    ·
                      refine Go.aload C at_276 (q := 278) rfl rfl rfl ?_
                      refine Go.bipush C (7 : Int32) at_278 (q := 280) rfl rfl ?_
                      refine Go.iload C at_280 (q := 282) rfl rfl ?_
                      refine Go.iload C at_282 (q := 284) rfl rfl ?_
                      refine Go.iload C at_284 (q := 286) rfl rfl ?_
                      refine Go.iload C at_286 (q := 288) rfl rfl ?_
                      refine Go.pureS C (hw _ (List.mem_of_getElem? (i := 6) rfl)) (hw _ (List.mem_of_getElem? (i := 7) rfl)) (hw _ (List.mem_of_getElem? (i := 8) rfl)) (hw _ (List.mem_of_getElem? (i := 9) rfl)) (c_f_ok W.l Z a0 hw a523 (7 : Int32) (2 : Int32) (1 : Int32) v1 v521 h555 n0 (upd (upd (upd (upd (upd (upd (upd (upd (upd (fun _ => (0 : Int32)) 0 (nar .byte v521)) 1 (nar .byte v521)) 2 (nar .byte v521)) 3 (nar .byte v521)) 4 (nar .byte v521)) 5 (nar .byte v521)) 6 (nar .byte v521)) 7 (nar .byte v521)) 2 (nar .byte v1.toInt8.toInt32)) F560 F557 (by decide)) at_288 pd__40_91BIIIIB_41Z (q := 291) rfl rfl (argsL := [(.ref a523), (.int (7 : Int32)), (.int (2 : Int32)), (.int (1 : Int32)), (.int v1), (.int v521)]) (st := []) rfl rfl (w := 0) rfl (by decide) (by decide) (by decide) (by decide) (res := .int (f_ok (nar .byte v521) (7 : Int32) (2 : Int32) (1 : Int32) v1 v521)) ?_
                      refine Go.if0 C at_291 (z_eq _) (qt := 298) (q := 294) (by decide) (by decide) rfl (fun b570 => ?_) (fun b570 => ?_)
                      ·
                        refine Go.iconst C (0 : Int32) at_298 (q := 299) rfl rfl ?_
                        exact J562 _ (by rw [if_neg b563, if_neg b564, if_neg b565, if_neg b566, if_neg b567, if_neg b568, if_neg b569, if_pos b570])
                      ·
                        refine Go.iconst C (1 : Int32) at_294 (q := 295) rfl rfl ?_
                        refine Go.goto C at_295 (q := 299) (by decide) (by decide) ?_
                        exact J562 _ (by rw [if_neg b563, if_neg b564, if_neg b565, if_neg b566, if_neg b567, if_neg b568, if_neg b569, if_neg b570])
      intro v561 hv561
      exact Go.retZ (t := .boolean) (by simp) C at_299 (by decide) (by decide) (congrArg (fun z => some (Value.int z)) (fin10 p0 p1 p2 p3 v1 hv1  hv2  w0 v521 hv521 v561 hv561))
    ·
      refine Go.istore C at_18 (q := 20) rfl (fun z => #[.val (.int p0), .val (.int p1), .val (.int p2), .val (.int p3), .val (.int v1), .val (.int (2 : Int32)), .val (.int z), .unset, .unset, .unset]) (fun _ => rfl) ?_
      intro v571 hv571
      refine Go.bipush C (8 : Int32) at_20 (q := 22) rfl rfl ?_
      refine Go.newP C (hw _ (List.mem_of_getElem? (i := 1) rfl)) (by decide) (cap := 8) (by decide) (by decide) at_22 (q := 24) rfl (k' := 1) rfl (n' := 8) rfl (by decide) (by decide) ?_
      intro h572 a573 cA574 g575 E576 Fn577
      have g579 : n0 ≤ a573 := g575 ▸ Z0
      have F578 : Av Z h572 a573 .byte 8 (iF (fun _ => (0 : Int32))) := Av.of Fn577
      refine Go.astore C at_24 (q := 26) rfl (l' := #[.val (.int p0), .val (.int p1), .val (.int p2), .val (.int p3), .val (.int v1), .val (.int (2 : Int32)), .val (.int v571), .val (.ref a573), .unset, .unset]) rfl rfl ?_
      refine Go.aload C at_26 (q := 28) rfl rfl rfl ?_
      refine Go.iconst C (0 : Int32) at_28 (q := 29) rfl rfl ?_
      refine Go.iload C at_29 (q := 31) rfl rfl ?_
      refine Go.bastore C F578 0 (by decide) (by decide) (by decide) g579 at_31 (q := 32) rfl ?_
      intro h580 W581
      have F582 := F578.sameI W581
      refine Go.aload C at_32 (q := 34) rfl rfl rfl ?_
      refine Go.iconst C (1 : Int32) at_34 (q := 35) rfl rfl ?_
      refine Go.iload C at_35 (q := 37) rfl rfl ?_
      refine Go.bastore C F582 1 (by decide) (by decide) (by decide) g579 at_37 (q := 38) rfl ?_
      intro h583 W584
      have F585 := F582.sameI W584
      refine Go.aload C at_38 (q := 40) rfl rfl rfl ?_
      refine Go.iconst C (2 : Int32) at_40 (q := 41) rfl rfl ?_
      refine Go.iload C at_41 (q := 43) rfl rfl ?_
      refine Go.bastore C F585 2 (by decide) (by decide) (by decide) g579 at_43 (q := 44) rfl ?_
      intro h586 W587
      have F588 := F585.sameI W587
      refine Go.aload C at_44 (q := 46) rfl rfl rfl ?_
      refine Go.iconst C (3 : Int32) at_46 (q := 47) rfl rfl ?_
      refine Go.iload C at_47 (q := 49) rfl rfl ?_
      refine Go.bastore C F588 3 (by decide) (by decide) (by decide) g579 at_49 (q := 50) rfl ?_
      intro h589 W590
      have F591 := F588.sameI W590
      refine Go.aload C at_50 (q := 52) rfl rfl rfl ?_
      refine Go.iconst C (4 : Int32) at_52 (q := 53) rfl rfl ?_
      refine Go.iload C at_53 (q := 55) rfl rfl ?_
      refine Go.bastore C F591 4 (by decide) (by decide) (by decide) g579 at_55 (q := 56) rfl ?_
      intro h592 W593
      have F594 := F591.sameI W593
      refine Go.aload C at_56 (q := 58) rfl rfl rfl ?_
      refine Go.iconst C (5 : Int32) at_58 (q := 59) rfl rfl ?_
      refine Go.iload C at_59 (q := 61) rfl rfl ?_
      refine Go.bastore C F594 5 (by decide) (by decide) (by decide) g579 at_61 (q := 62) rfl ?_
      intro h595 W596
      have F597 := F594.sameI W596
      refine Go.aload C at_62 (q := 64) rfl rfl rfl ?_
      refine Go.bipush C (6 : Int32) at_64 (q := 66) rfl rfl ?_
      refine Go.iload C at_66 (q := 68) rfl rfl ?_
      refine Go.bastore C F597 6 (by decide) (by decide) (by decide) g579 at_68 (q := 69) rfl ?_
      intro h598 W599
      have F600 := F597.sameI W599
      refine Go.aload C at_69 (q := 71) rfl rfl rfl ?_
      refine Go.bipush C (7 : Int32) at_71 (q := 73) rfl rfl ?_
      refine Go.iload C at_73 (q := 75) rfl rfl ?_
      refine Go.bastore C F600 7 (by decide) (by decide) (by decide) g579 at_75 (q := 76) rfl ?_
      intro h601 W602
      have F603 := F600.sameI W602
      refine Go.aload C at_76 (q := 78) rfl rfl rfl ?_
      refine Go.iload C at_78 (q := 80) rfl rfl ?_
      refine Go.iload C at_80 (q := 82) rfl rfl ?_
      have F604 := (Nat.le_trans (Nat.le_trans (Nat.le_trans (Nat.le_trans (Nat.le_trans (Nat.le_trans (Nat.le_trans (Nat.le_trans (Nat.le_trans Z0 E576.1) (Nat.le_of_eq W581.size.symm)) (Nat.le_of_eq W584.size.symm)) (Nat.le_of_eq W587.size.symm)) (Nat.le_of_eq W590.size.symm)) (Nat.le_of_eq W593.size.symm)) (Nat.le_of_eq W596.size.symm)) (Nat.le_of_eq W599.size.symm)) (Nat.le_of_eq W602.size.symm))
      refine Go.callS C (hw _ (List.mem_of_getElem? (i := 2) rfl)) (hw _ (List.mem_of_getElem? (i := 3) rfl)) (hw _ (List.mem_of_getElem? (i := 4) rfl)) (hw _ (List.mem_of_getElem? (i := 5) rfl)) (c_put2_2 W.l Z a0 hw a573 v1 h601 n0 (upd (upd (upd (upd (upd (upd (upd (upd (fun _ => (0 : Int32)) 0 (nar .byte v571)) 1 (nar .byte v571)) 2 (nar .byte v571)) 3 (nar .byte v571)) 4 (nar .byte v571)) 5 (nar .byte v571)) 6 (nar .byte v571)) 7 (nar .byte v571)) F604 F603 g579 w0 w1) at_82 pd__40_91BII_41I (q := 85) rfl rfl (argsL := [(.ref a573), (.int (2 : Int32)), (.int v1)]) (st := []) rfl rfl (w := 0) rfl (by decide) (by decide) (k' := 1) rfl (n' := 8) rfl (by decide) (by decide) ?_
      intro v h605 q
      obtain ⟨rfl, K606, F607⟩ := q
      show Go W n0 QL h605 1 8 85 #[.val (.int p0), .val (.int p1), .val (.int p2), .val (.int p3), .val (.int v1), .val (.int (2 : Int32)), .val (.int v571), .val (.ref a573), .unset, .unset] [(.int (4 : Int32))]
      refine Go.istoreR C at_85 (q := 87) rfl (l' := #[.val (.int p0), .val (.int p1), .val (.int p2), .val (.int p3), .val (.int v1), .val (.int (2 : Int32)), .val (.int v571), .val (.ref a573), .val (.int (4 : Int32)), .unset]) rfl ?_
      refine Go.iload C at_87 (q := 89) rfl rfl ?_
      refine Go.sipush C (128 : Int32) at_89 (q := 92) rfl rfl ?_
      refine Go.icmp C at_92 (n_ge _ _) (qt := 101) (q := 95) (by decide) (by decide) rfl (fun _ => ?_) (fun b608 => absurd t0 b608)
      refine Go.iload C at_101 (q := 103) rfl rfl ?_
      refine Go.sipush C (16384 : Int32) at_103 (q := 106) rfl rfl ?_
      refine Go.icmp C at_106 (n_ge _ _) (qt := 115) (q := 109) (by decide) (by decide) rfl (fun b609 => absurd t1 b609) (fun _ => ?_)
      refine Go.iconst C (2 : Int32) at_109 (q := 110) rfl rfl ?_
      refine Go.istoreR C at_110 (q := 112) rfl (l' := #[.val (.int p0), .val (.int p1), .val (.int p2), .val (.int p3), .val (.int v1), .val (.int (2 : Int32)), .val (.int v571), .val (.ref a573), .val (.int (4 : Int32)), .val (.int (2 : Int32))]) rfl ?_
      refine Go.goto C at_112 (q := 144) (by decide) (by decide) ?_
      refine Go.iload C at_144 (q := 146) rfl rfl ?_
      refine Go.iload C at_146 (q := 148) rfl rfl ?_
      refine Go.iload C at_148 (q := 150) rfl rfl ?_
      refine Go.iadd C at_150 (q := 151) rfl ?_
      refine Go.icmp C at_151 (n_eq _ _) (qt := 156) (q := 154) (by decide) (by decide) rfl (fun _ => ?_) (fun b610 => absurd b610 (by decide))
      refine Go.aload C at_156 (q := 158) rfl rfl rfl ?_
      refine Go.iconst C (0 : Int32) at_158 (q := 159) rfl rfl ?_
      refine Go.iload C at_159 (q := 161) rfl rfl ?_
      refine Go.iload C at_161 (q := 163) rfl rfl ?_
      refine Go.iload C at_163 (q := 165) rfl rfl ?_
      refine Go.iload C at_165 (q := 167) rfl rfl ?_
      have F611 := (Nat.le_trans F604 K606.1)
      refine Go.pureS C (hw _ (List.mem_of_getElem? (i := 6) rfl)) (hw _ (List.mem_of_getElem? (i := 7) rfl)) (hw _ (List.mem_of_getElem? (i := 8) rfl)) (hw _ (List.mem_of_getElem? (i := 9) rfl)) (c_f_ok W.l Z a0 hw a573 (0 : Int32) (2 : Int32) (2 : Int32) v1 v571 h605 n0 (upd (upd (upd (upd (upd (upd (upd (upd (upd (upd (fun _ => (0 : Int32)) 0 (nar .byte v571)) 1 (nar .byte v571)) 2 (nar .byte v571)) 3 (nar .byte v571)) 4 (nar .byte v571)) 5 (nar .byte v571)) 6 (nar .byte v571)) 7 (nar .byte v571)) 2 (nar .byte (v1 ||| (128 : Int32)).toInt8.toInt32)) 3 (nar .byte ((v1.toUInt32 >>> ((7 : Int32) &&& 31).toUInt32).toInt32).toInt8.toInt32)) F611 F607 (by decide)) at_167 pd__40_91BIIIIB_41Z (q := 170) rfl rfl (argsL := [(.ref a573), (.int (0 : Int32)), (.int (2 : Int32)), (.int (2 : Int32)), (.int v1), (.int v571)]) (st := []) rfl rfl (w := 0) rfl (by decide) (by decide) (by decide) (by decide) (res := .int (f_ok (nar .byte v571) (0 : Int32) (2 : Int32) (2 : Int32) v1 v571)) ?_
      suffices J613 : ∀ v612 : Int32, v612 = (if (f_ok (nar .byte v571) (0 : Int32) (2 : Int32) (2 : Int32) v1 v571) = (0 : Int32) then (0 : Int32) else (if (f_ok (nar .byte v571) (1 : Int32) (2 : Int32) (2 : Int32) v1 v571) = (0 : Int32) then (0 : Int32) else (if (f_ok (nar .byte (v1 ||| (128 : Int32)).toInt8.toInt32) (2 : Int32) (2 : Int32) (2 : Int32) v1 v571) = (0 : Int32) then (0 : Int32) else (if (f_ok (nar .byte ((v1.toUInt32 >>> ((7 : Int32) &&& 31).toUInt32).toInt32).toInt8.toInt32) (3 : Int32) (2 : Int32) (2 : Int32) v1 v571) = (0 : Int32) then (0 : Int32) else (if (f_ok (nar .byte v571) (4 : Int32) (2 : Int32) (2 : Int32) v1 v571) = (0 : Int32) then (0 : Int32) else (if (f_ok (nar .byte v571) (5 : Int32) (2 : Int32) (2 : Int32) v1 v571) = (0 : Int32) then (0 : Int32) else (if (f_ok (nar .byte v571) (6 : Int32) (2 : Int32) (2 : Int32) v1 v571) = (0 : Int32) then (0 : Int32) else (if (f_ok (nar .byte v571) (7 : Int32) (2 : Int32) (2 : Int32) v1 v571) = (0 : Int32) then (0 : Int32) else (1 : Int32))))))))) → Go W n0 QL h605 1 8 299 #[.val (.int p0), .val (.int p1), .val (.int p2), .val (.int p3), .val (.int v1), .val (.int (2 : Int32)), .val (.int v571), .val (.ref a573), .val (.int (4 : Int32)), .val (.int (2 : Int32))] [(.int v612)] by
        refine Go.if0 C at_170 (z_eq _) (qt := 298) (q := 173) (by decide) (by decide) rfl (fun b614 => ?_) (fun b614 => ?_)
        ·
          refine Go.iconst C (0 : Int32) at_298 (q := 299) rfl rfl ?_
          exact J613 _ (by rw [if_pos b614])
        ·
          refine Go.aload C at_173 (q := 175) rfl rfl rfl ?_
          refine Go.iconst C (1 : Int32) at_175 (q := 176) rfl rfl ?_
          refine Go.iload C at_176 (q := 178) rfl rfl ?_
          refine Go.iload C at_178 (q := 180) rfl rfl ?_
          refine Go.iload C at_180 (q := 182) rfl rfl ?_
          refine Go.iload C at_182 (q := 184) rfl rfl ?_
          refine Go.pureS C (hw _ (List.mem_of_getElem? (i := 6) rfl)) (hw _ (List.mem_of_getElem? (i := 7) rfl)) (hw _ (List.mem_of_getElem? (i := 8) rfl)) (hw _ (List.mem_of_getElem? (i := 9) rfl)) (c_f_ok W.l Z a0 hw a573 (1 : Int32) (2 : Int32) (2 : Int32) v1 v571 h605 n0 (upd (upd (upd (upd (upd (upd (upd (upd (upd (upd (fun _ => (0 : Int32)) 0 (nar .byte v571)) 1 (nar .byte v571)) 2 (nar .byte v571)) 3 (nar .byte v571)) 4 (nar .byte v571)) 5 (nar .byte v571)) 6 (nar .byte v571)) 7 (nar .byte v571)) 2 (nar .byte (v1 ||| (128 : Int32)).toInt8.toInt32)) 3 (nar .byte ((v1.toUInt32 >>> ((7 : Int32) &&& 31).toUInt32).toInt32).toInt8.toInt32)) F611 F607 (by decide)) at_184 pd__40_91BIIIIB_41Z (q := 187) rfl rfl (argsL := [(.ref a573), (.int (1 : Int32)), (.int (2 : Int32)), (.int (2 : Int32)), (.int v1), (.int v571)]) (st := []) rfl rfl (w := 0) rfl (by decide) (by decide) (by decide) (by decide) (res := .int (f_ok (nar .byte v571) (1 : Int32) (2 : Int32) (2 : Int32) v1 v571)) ?_
          refine Go.if0 C at_187 (z_eq _) (qt := 298) (q := 190) (by decide) (by decide) rfl (fun b615 => ?_) (fun b615 => ?_)
          ·
            refine Go.iconst C (0 : Int32) at_298 (q := 299) rfl rfl ?_
            exact J613 _ (by rw [if_neg b614, if_pos b615])
          ·
            refine Go.aload C at_190 (q := 192) rfl rfl rfl ?_
            refine Go.iconst C (2 : Int32) at_192 (q := 193) rfl rfl ?_
            refine Go.iload C at_193 (q := 195) rfl rfl ?_
            refine Go.iload C at_195 (q := 197) rfl rfl ?_
            refine Go.iload C at_197 (q := 199) rfl rfl ?_
            refine Go.iload C at_199 (q := 201) rfl rfl ?_
            refine Go.pureS C (hw _ (List.mem_of_getElem? (i := 6) rfl)) (hw _ (List.mem_of_getElem? (i := 7) rfl)) (hw _ (List.mem_of_getElem? (i := 8) rfl)) (hw _ (List.mem_of_getElem? (i := 9) rfl)) (c_f_ok W.l Z a0 hw a573 (2 : Int32) (2 : Int32) (2 : Int32) v1 v571 h605 n0 (upd (upd (upd (upd (upd (upd (upd (upd (upd (upd (fun _ => (0 : Int32)) 0 (nar .byte v571)) 1 (nar .byte v571)) 2 (nar .byte v571)) 3 (nar .byte v571)) 4 (nar .byte v571)) 5 (nar .byte v571)) 6 (nar .byte v571)) 7 (nar .byte v571)) 2 (nar .byte (v1 ||| (128 : Int32)).toInt8.toInt32)) 3 (nar .byte ((v1.toUInt32 >>> ((7 : Int32) &&& 31).toUInt32).toInt32).toInt8.toInt32)) F611 F607 (by decide)) at_201 pd__40_91BIIIIB_41Z (q := 204) rfl rfl (argsL := [(.ref a573), (.int (2 : Int32)), (.int (2 : Int32)), (.int (2 : Int32)), (.int v1), (.int v571)]) (st := []) rfl rfl (w := 0) rfl (by decide) (by decide) (by decide) (by decide) (res := .int (f_ok (nar .byte (v1 ||| (128 : Int32)).toInt8.toInt32) (2 : Int32) (2 : Int32) (2 : Int32) v1 v571)) ?_
            refine Go.if0 C at_204 (z_eq _) (qt := 298) (q := 207) (by decide) (by decide) rfl (fun b616 => ?_) (fun b616 => ?_)
            ·
              refine Go.iconst C (0 : Int32) at_298 (q := 299) rfl rfl ?_
              exact J613 _ (by rw [if_neg b614, if_neg b615, if_pos b616])
            ·
              refine Go.aload C at_207 (q := 209) rfl rfl rfl ?_
              refine Go.iconst C (3 : Int32) at_209 (q := 210) rfl rfl ?_
              refine Go.iload C at_210 (q := 212) rfl rfl ?_
              refine Go.iload C at_212 (q := 214) rfl rfl ?_
              refine Go.iload C at_214 (q := 216) rfl rfl ?_
              refine Go.iload C at_216 (q := 218) rfl rfl ?_
              refine Go.pureS C (hw _ (List.mem_of_getElem? (i := 6) rfl)) (hw _ (List.mem_of_getElem? (i := 7) rfl)) (hw _ (List.mem_of_getElem? (i := 8) rfl)) (hw _ (List.mem_of_getElem? (i := 9) rfl)) (c_f_ok W.l Z a0 hw a573 (3 : Int32) (2 : Int32) (2 : Int32) v1 v571 h605 n0 (upd (upd (upd (upd (upd (upd (upd (upd (upd (upd (fun _ => (0 : Int32)) 0 (nar .byte v571)) 1 (nar .byte v571)) 2 (nar .byte v571)) 3 (nar .byte v571)) 4 (nar .byte v571)) 5 (nar .byte v571)) 6 (nar .byte v571)) 7 (nar .byte v571)) 2 (nar .byte (v1 ||| (128 : Int32)).toInt8.toInt32)) 3 (nar .byte ((v1.toUInt32 >>> ((7 : Int32) &&& 31).toUInt32).toInt32).toInt8.toInt32)) F611 F607 (by decide)) at_218 pd__40_91BIIIIB_41Z (q := 221) rfl rfl (argsL := [(.ref a573), (.int (3 : Int32)), (.int (2 : Int32)), (.int (2 : Int32)), (.int v1), (.int v571)]) (st := []) rfl rfl (w := 0) rfl (by decide) (by decide) (by decide) (by decide) (res := .int (f_ok (nar .byte ((v1.toUInt32 >>> ((7 : Int32) &&& 31).toUInt32).toInt32).toInt8.toInt32) (3 : Int32) (2 : Int32) (2 : Int32) v1 v571)) ?_
              refine Go.if0 C at_221 (z_eq _) (qt := 298) (q := 224) (by decide) (by decide) rfl (fun b617 => ?_) (fun b617 => ?_)
              ·
                refine Go.iconst C (0 : Int32) at_298 (q := 299) rfl rfl ?_
                exact J613 _ (by rw [if_neg b614, if_neg b615, if_neg b616, if_pos b617])
              ·
                refine Go.aload C at_224 (q := 226) rfl rfl rfl ?_
                refine Go.iconst C (4 : Int32) at_226 (q := 227) rfl rfl ?_
                refine Go.iload C at_227 (q := 229) rfl rfl ?_
                refine Go.iload C at_229 (q := 231) rfl rfl ?_
                refine Go.iload C at_231 (q := 233) rfl rfl ?_
                refine Go.iload C at_233 (q := 235) rfl rfl ?_
                refine Go.pureS C (hw _ (List.mem_of_getElem? (i := 6) rfl)) (hw _ (List.mem_of_getElem? (i := 7) rfl)) (hw _ (List.mem_of_getElem? (i := 8) rfl)) (hw _ (List.mem_of_getElem? (i := 9) rfl)) (c_f_ok W.l Z a0 hw a573 (4 : Int32) (2 : Int32) (2 : Int32) v1 v571 h605 n0 (upd (upd (upd (upd (upd (upd (upd (upd (upd (upd (fun _ => (0 : Int32)) 0 (nar .byte v571)) 1 (nar .byte v571)) 2 (nar .byte v571)) 3 (nar .byte v571)) 4 (nar .byte v571)) 5 (nar .byte v571)) 6 (nar .byte v571)) 7 (nar .byte v571)) 2 (nar .byte (v1 ||| (128 : Int32)).toInt8.toInt32)) 3 (nar .byte ((v1.toUInt32 >>> ((7 : Int32) &&& 31).toUInt32).toInt32).toInt8.toInt32)) F611 F607 (by decide)) at_235 pd__40_91BIIIIB_41Z (q := 238) rfl rfl (argsL := [(.ref a573), (.int (4 : Int32)), (.int (2 : Int32)), (.int (2 : Int32)), (.int v1), (.int v571)]) (st := []) rfl rfl (w := 0) rfl (by decide) (by decide) (by decide) (by decide) (res := .int (f_ok (nar .byte v571) (4 : Int32) (2 : Int32) (2 : Int32) v1 v571)) ?_
                refine Go.if0 C at_238 (z_eq _) (qt := 298) (q := 241) (by decide) (by decide) rfl (fun b618 => ?_) (fun b618 => ?_)
                ·
                  refine Go.iconst C (0 : Int32) at_298 (q := 299) rfl rfl ?_
                  exact J613 _ (by rw [if_neg b614, if_neg b615, if_neg b616, if_neg b617, if_pos b618])
                ·
                  refine Go.aload C at_241 (q := 243) rfl rfl rfl ?_
                  refine Go.iconst C (5 : Int32) at_243 (q := 244) rfl rfl ?_
                  refine Go.iload C at_244 (q := 246) rfl rfl ?_
                  refine Go.iload C at_246 (q := 248) rfl rfl ?_
                  refine Go.iload C at_248 (q := 250) rfl rfl ?_
                  refine Go.iload C at_250 (q := 252) rfl rfl ?_
                  refine Go.pureS C (hw _ (List.mem_of_getElem? (i := 6) rfl)) (hw _ (List.mem_of_getElem? (i := 7) rfl)) (hw _ (List.mem_of_getElem? (i := 8) rfl)) (hw _ (List.mem_of_getElem? (i := 9) rfl)) (c_f_ok W.l Z a0 hw a573 (5 : Int32) (2 : Int32) (2 : Int32) v1 v571 h605 n0 (upd (upd (upd (upd (upd (upd (upd (upd (upd (upd (fun _ => (0 : Int32)) 0 (nar .byte v571)) 1 (nar .byte v571)) 2 (nar .byte v571)) 3 (nar .byte v571)) 4 (nar .byte v571)) 5 (nar .byte v571)) 6 (nar .byte v571)) 7 (nar .byte v571)) 2 (nar .byte (v1 ||| (128 : Int32)).toInt8.toInt32)) 3 (nar .byte ((v1.toUInt32 >>> ((7 : Int32) &&& 31).toUInt32).toInt32).toInt8.toInt32)) F611 F607 (by decide)) at_252 pd__40_91BIIIIB_41Z (q := 255) rfl rfl (argsL := [(.ref a573), (.int (5 : Int32)), (.int (2 : Int32)), (.int (2 : Int32)), (.int v1), (.int v571)]) (st := []) rfl rfl (w := 0) rfl (by decide) (by decide) (by decide) (by decide) (res := .int (f_ok (nar .byte v571) (5 : Int32) (2 : Int32) (2 : Int32) v1 v571)) ?_
                  refine Go.if0 C at_255 (z_eq _) (qt := 298) (q := 258) (by decide) (by decide) rfl (fun b619 => ?_) (fun b619 => ?_)
                  ·
                    refine Go.iconst C (0 : Int32) at_298 (q := 299) rfl rfl ?_
                    exact J613 _ (by rw [if_neg b614, if_neg b615, if_neg b616, if_neg b617, if_neg b618, if_pos b619])
                  ·
                    refine Go.aload C at_258 (q := 260) rfl rfl rfl ?_
                    refine Go.bipush C (6 : Int32) at_260 (q := 262) rfl rfl ?_
                    refine Go.iload C at_262 (q := 264) rfl rfl ?_
                    refine Go.iload C at_264 (q := 266) rfl rfl ?_
                    refine Go.iload C at_266 (q := 268) rfl rfl ?_
                    refine Go.iload C at_268 (q := 270) rfl rfl ?_
                    refine Go.pureS C (hw _ (List.mem_of_getElem? (i := 6) rfl)) (hw _ (List.mem_of_getElem? (i := 7) rfl)) (hw _ (List.mem_of_getElem? (i := 8) rfl)) (hw _ (List.mem_of_getElem? (i := 9) rfl)) (c_f_ok W.l Z a0 hw a573 (6 : Int32) (2 : Int32) (2 : Int32) v1 v571 h605 n0 (upd (upd (upd (upd (upd (upd (upd (upd (upd (upd (fun _ => (0 : Int32)) 0 (nar .byte v571)) 1 (nar .byte v571)) 2 (nar .byte v571)) 3 (nar .byte v571)) 4 (nar .byte v571)) 5 (nar .byte v571)) 6 (nar .byte v571)) 7 (nar .byte v571)) 2 (nar .byte (v1 ||| (128 : Int32)).toInt8.toInt32)) 3 (nar .byte ((v1.toUInt32 >>> ((7 : Int32) &&& 31).toUInt32).toInt32).toInt8.toInt32)) F611 F607 (by decide)) at_270 pd__40_91BIIIIB_41Z (q := 273) rfl rfl (argsL := [(.ref a573), (.int (6 : Int32)), (.int (2 : Int32)), (.int (2 : Int32)), (.int v1), (.int v571)]) (st := []) rfl rfl (w := 0) rfl (by decide) (by decide) (by decide) (by decide) (res := .int (f_ok (nar .byte v571) (6 : Int32) (2 : Int32) (2 : Int32) v1 v571)) ?_
                    refine Go.if0 C at_273 (z_eq _) (qt := 298) (q := 276) (by decide) (by decide) rfl (fun b620 => ?_) (fun b620 => ?_)
                    ·
                      refine Go.iconst C (0 : Int32) at_298 (q := 299) rfl rfl ?_
                      exact J613 _ (by rw [if_neg b614, if_neg b615, if_neg b616, if_neg b617, if_neg b618, if_neg b619, if_pos b620])
                    ·
                      refine Go.aload C at_276 (q := 278) rfl rfl rfl ?_
                      refine Go.bipush C (7 : Int32) at_278 (q := 280) rfl rfl ?_
                      refine Go.iload C at_280 (q := 282) rfl rfl ?_
                      refine Go.iload C at_282 (q := 284) rfl rfl ?_
                      refine Go.iload C at_284 (q := 286) rfl rfl ?_
                      refine Go.iload C at_286 (q := 288) rfl rfl ?_
                      refine Go.pureS C (hw _ (List.mem_of_getElem? (i := 6) rfl)) (hw _ (List.mem_of_getElem? (i := 7) rfl)) (hw _ (List.mem_of_getElem? (i := 8) rfl)) (hw _ (List.mem_of_getElem? (i := 9) rfl)) (c_f_ok W.l Z a0 hw a573 (7 : Int32) (2 : Int32) (2 : Int32) v1 v571 h605 n0 (upd (upd (upd (upd (upd (upd (upd (upd (upd (upd (fun _ => (0 : Int32)) 0 (nar .byte v571)) 1 (nar .byte v571)) 2 (nar .byte v571)) 3 (nar .byte v571)) 4 (nar .byte v571)) 5 (nar .byte v571)) 6 (nar .byte v571)) 7 (nar .byte v571)) 2 (nar .byte (v1 ||| (128 : Int32)).toInt8.toInt32)) 3 (nar .byte ((v1.toUInt32 >>> ((7 : Int32) &&& 31).toUInt32).toInt32).toInt8.toInt32)) F611 F607 (by decide)) at_288 pd__40_91BIIIIB_41Z (q := 291) rfl rfl (argsL := [(.ref a573), (.int (7 : Int32)), (.int (2 : Int32)), (.int (2 : Int32)), (.int v1), (.int v571)]) (st := []) rfl rfl (w := 0) rfl (by decide) (by decide) (by decide) (by decide) (res := .int (f_ok (nar .byte v571) (7 : Int32) (2 : Int32) (2 : Int32) v1 v571)) ?_
                      refine Go.if0 C at_291 (z_eq _) (qt := 298) (q := 294) (by decide) (by decide) rfl (fun b621 => ?_) (fun b621 => ?_)
                      ·
                        refine Go.iconst C (0 : Int32) at_298 (q := 299) rfl rfl ?_
                        exact J613 _ (by rw [if_neg b614, if_neg b615, if_neg b616, if_neg b617, if_neg b618, if_neg b619, if_neg b620, if_pos b621])
                      ·
                        refine Go.iconst C (1 : Int32) at_294 (q := 295) rfl rfl ?_
                        refine Go.goto C at_295 (q := 299) (by decide) (by decide) ?_
                        exact J613 _ (by rw [if_neg b614, if_neg b615, if_neg b616, if_neg b617, if_neg b618, if_neg b619, if_neg b620, if_neg b621])
      intro v612 hv612
      exact Go.retZ (t := .boolean) (by simp) C at_299 (by decide) (by decide) (congrArg (fun z => some (Value.int z)) (fin11 p0 p1 p2 p3 v1 hv1  hv2  w0  w1 v571 hv571 v612 hv612))
    ·
      refine Go.istore C at_18 (q := 20) rfl (fun z => #[.val (.int p0), .val (.int p1), .val (.int p2), .val (.int p3), .val (.int v1), .val (.int (2 : Int32)), .val (.int z), .unset, .unset, .unset]) (fun _ => rfl) ?_
      intro v622 hv622
      refine Go.bipush C (8 : Int32) at_20 (q := 22) rfl rfl ?_
      refine Go.newP C (hw _ (List.mem_of_getElem? (i := 1) rfl)) (by decide) (cap := 8) (by decide) (by decide) at_22 (q := 24) rfl (k' := 1) rfl (n' := 8) rfl (by decide) (by decide) ?_
      intro h623 a624 cA625 g626 E627 Fn628
      have g630 : n0 ≤ a624 := g626 ▸ Z0
      have F629 : Av Z h623 a624 .byte 8 (iF (fun _ => (0 : Int32))) := Av.of Fn628
      refine Go.astore C at_24 (q := 26) rfl (l' := #[.val (.int p0), .val (.int p1), .val (.int p2), .val (.int p3), .val (.int v1), .val (.int (2 : Int32)), .val (.int v622), .val (.ref a624), .unset, .unset]) rfl rfl ?_
      refine Go.aload C at_26 (q := 28) rfl rfl rfl ?_
      refine Go.iconst C (0 : Int32) at_28 (q := 29) rfl rfl ?_
      refine Go.iload C at_29 (q := 31) rfl rfl ?_
      refine Go.bastore C F629 0 (by decide) (by decide) (by decide) g630 at_31 (q := 32) rfl ?_
      intro h631 W632
      have F633 := F629.sameI W632
      refine Go.aload C at_32 (q := 34) rfl rfl rfl ?_
      refine Go.iconst C (1 : Int32) at_34 (q := 35) rfl rfl ?_
      refine Go.iload C at_35 (q := 37) rfl rfl ?_
      refine Go.bastore C F633 1 (by decide) (by decide) (by decide) g630 at_37 (q := 38) rfl ?_
      intro h634 W635
      have F636 := F633.sameI W635
      refine Go.aload C at_38 (q := 40) rfl rfl rfl ?_
      refine Go.iconst C (2 : Int32) at_40 (q := 41) rfl rfl ?_
      refine Go.iload C at_41 (q := 43) rfl rfl ?_
      refine Go.bastore C F636 2 (by decide) (by decide) (by decide) g630 at_43 (q := 44) rfl ?_
      intro h637 W638
      have F639 := F636.sameI W638
      refine Go.aload C at_44 (q := 46) rfl rfl rfl ?_
      refine Go.iconst C (3 : Int32) at_46 (q := 47) rfl rfl ?_
      refine Go.iload C at_47 (q := 49) rfl rfl ?_
      refine Go.bastore C F639 3 (by decide) (by decide) (by decide) g630 at_49 (q := 50) rfl ?_
      intro h640 W641
      have F642 := F639.sameI W641
      refine Go.aload C at_50 (q := 52) rfl rfl rfl ?_
      refine Go.iconst C (4 : Int32) at_52 (q := 53) rfl rfl ?_
      refine Go.iload C at_53 (q := 55) rfl rfl ?_
      refine Go.bastore C F642 4 (by decide) (by decide) (by decide) g630 at_55 (q := 56) rfl ?_
      intro h643 W644
      have F645 := F642.sameI W644
      refine Go.aload C at_56 (q := 58) rfl rfl rfl ?_
      refine Go.iconst C (5 : Int32) at_58 (q := 59) rfl rfl ?_
      refine Go.iload C at_59 (q := 61) rfl rfl ?_
      refine Go.bastore C F645 5 (by decide) (by decide) (by decide) g630 at_61 (q := 62) rfl ?_
      intro h646 W647
      have F648 := F645.sameI W647
      refine Go.aload C at_62 (q := 64) rfl rfl rfl ?_
      refine Go.bipush C (6 : Int32) at_64 (q := 66) rfl rfl ?_
      refine Go.iload C at_66 (q := 68) rfl rfl ?_
      refine Go.bastore C F648 6 (by decide) (by decide) (by decide) g630 at_68 (q := 69) rfl ?_
      intro h649 W650
      have F651 := F648.sameI W650
      refine Go.aload C at_69 (q := 71) rfl rfl rfl ?_
      refine Go.bipush C (7 : Int32) at_71 (q := 73) rfl rfl ?_
      refine Go.iload C at_73 (q := 75) rfl rfl ?_
      refine Go.bastore C F651 7 (by decide) (by decide) (by decide) g630 at_75 (q := 76) rfl ?_
      intro h652 W653
      have F654 := F651.sameI W653
      refine Go.aload C at_76 (q := 78) rfl rfl rfl ?_
      refine Go.iload C at_78 (q := 80) rfl rfl ?_
      refine Go.iload C at_80 (q := 82) rfl rfl ?_
      have F655 := (Nat.le_trans (Nat.le_trans (Nat.le_trans (Nat.le_trans (Nat.le_trans (Nat.le_trans (Nat.le_trans (Nat.le_trans (Nat.le_trans Z0 E627.1) (Nat.le_of_eq W632.size.symm)) (Nat.le_of_eq W635.size.symm)) (Nat.le_of_eq W638.size.symm)) (Nat.le_of_eq W641.size.symm)) (Nat.le_of_eq W644.size.symm)) (Nat.le_of_eq W647.size.symm)) (Nat.le_of_eq W650.size.symm)) (Nat.le_of_eq W653.size.symm))
      refine Go.callS C (hw _ (List.mem_of_getElem? (i := 2) rfl)) (hw _ (List.mem_of_getElem? (i := 3) rfl)) (hw _ (List.mem_of_getElem? (i := 4) rfl)) (hw _ (List.mem_of_getElem? (i := 5) rfl)) (c_put2_3 W.l Z a0 hw a624 v1 h652 n0 (upd (upd (upd (upd (upd (upd (upd (upd (fun _ => (0 : Int32)) 0 (nar .byte v622)) 1 (nar .byte v622)) 2 (nar .byte v622)) 3 (nar .byte v622)) 4 (nar .byte v622)) 5 (nar .byte v622)) 6 (nar .byte v622)) 7 (nar .byte v622)) F655 F654 g630 w0 w1 w2) at_82 pd__40_91BII_41I (q := 85) rfl rfl (argsL := [(.ref a624), (.int (2 : Int32)), (.int v1)]) (st := []) rfl rfl (w := 0) rfl (by decide) (by decide) (k' := 1) rfl (n' := 8) rfl (by decide) (by decide) ?_
      intro v h656 q
      obtain ⟨rfl, K657, F658⟩ := q
      show Go W n0 QL h656 1 8 85 #[.val (.int p0), .val (.int p1), .val (.int p2), .val (.int p3), .val (.int v1), .val (.int (2 : Int32)), .val (.int v622), .val (.ref a624), .unset, .unset] [(.int (5 : Int32))]
      refine Go.istoreR C at_85 (q := 87) rfl (l' := #[.val (.int p0), .val (.int p1), .val (.int p2), .val (.int p3), .val (.int v1), .val (.int (2 : Int32)), .val (.int v622), .val (.ref a624), .val (.int (5 : Int32)), .unset]) rfl ?_
      refine Go.iload C at_87 (q := 89) rfl rfl ?_
      refine Go.sipush C (128 : Int32) at_89 (q := 92) rfl rfl ?_
      refine Go.icmp C at_92 (n_ge _ _) (qt := 101) (q := 95) (by decide) (by decide) rfl (fun _ => ?_) (fun b659 => absurd t0 b659)
      refine Go.iload C at_101 (q := 103) rfl rfl ?_
      refine Go.sipush C (16384 : Int32) at_103 (q := 106) rfl rfl ?_
      refine Go.icmp C at_106 (n_ge _ _) (qt := 115) (q := 109) (by decide) (by decide) rfl (fun _ => ?_) (fun b660 => absurd t1 b660)
      refine Go.iload C at_115 (q := 117) rfl rfl ?_
      refine Go.ldcI C (hw _ (List.mem_of_getElem? (i := 10) rfl)) at_117 (q := 119) rfl ?_
      refine Go.icmp C at_119 (n_ge _ _) (qt := 128) (q := 122) (by decide) (by decide) rfl (fun b661 => absurd t2 b661) (fun _ => ?_)
      refine Go.iconst C (3 : Int32) at_122 (q := 123) rfl rfl ?_
      refine Go.istoreR C at_123 (q := 125) rfl (l' := #[.val (.int p0), .val (.int p1), .val (.int p2), .val (.int p3), .val (.int v1), .val (.int (2 : Int32)), .val (.int v622), .val (.ref a624), .val (.int (5 : Int32)), .val (.int (3 : Int32))]) rfl ?_
      refine Go.goto C at_125 (q := 144) (by decide) (by decide) ?_
      refine Go.iload C at_144 (q := 146) rfl rfl ?_
      refine Go.iload C at_146 (q := 148) rfl rfl ?_
      refine Go.iload C at_148 (q := 150) rfl rfl ?_
      refine Go.iadd C at_150 (q := 151) rfl ?_
      refine Go.icmp C at_151 (n_eq _ _) (qt := 156) (q := 154) (by decide) (by decide) rfl (fun _ => ?_) (fun b662 => absurd b662 (by decide))
      refine Go.aload C at_156 (q := 158) rfl rfl rfl ?_
      refine Go.iconst C (0 : Int32) at_158 (q := 159) rfl rfl ?_
      refine Go.iload C at_159 (q := 161) rfl rfl ?_
      refine Go.iload C at_161 (q := 163) rfl rfl ?_
      refine Go.iload C at_163 (q := 165) rfl rfl ?_
      refine Go.iload C at_165 (q := 167) rfl rfl ?_
      have F663 := (Nat.le_trans F655 K657.1)
      refine Go.pureS C (hw _ (List.mem_of_getElem? (i := 6) rfl)) (hw _ (List.mem_of_getElem? (i := 7) rfl)) (hw _ (List.mem_of_getElem? (i := 8) rfl)) (hw _ (List.mem_of_getElem? (i := 9) rfl)) (c_f_ok W.l Z a0 hw a624 (0 : Int32) (2 : Int32) (3 : Int32) v1 v622 h656 n0 (upd (upd (upd (upd (upd (upd (upd (upd (upd (upd (upd (fun _ => (0 : Int32)) 0 (nar .byte v622)) 1 (nar .byte v622)) 2 (nar .byte v622)) 3 (nar .byte v622)) 4 (nar .byte v622)) 5 (nar .byte v622)) 6 (nar .byte v622)) 7 (nar .byte v622)) 2 (nar .byte (v1 ||| (128 : Int32)).toInt8.toInt32)) 3 (nar .byte (((v1.toUInt32 >>> ((7 : Int32) &&& 31).toUInt32).toInt32) ||| (128 : Int32)).toInt8.toInt32)) 4 (nar .byte ((((v1.toUInt32 >>> ((7 : Int32) &&& 31).toUInt32).toInt32).toUInt32 >>> ((7 : Int32) &&& 31).toUInt32).toInt32).toInt8.toInt32)) F663 F658 (by decide)) at_167 pd__40_91BIIIIB_41Z (q := 170) rfl rfl (argsL := [(.ref a624), (.int (0 : Int32)), (.int (2 : Int32)), (.int (3 : Int32)), (.int v1), (.int v622)]) (st := []) rfl rfl (w := 0) rfl (by decide) (by decide) (by decide) (by decide) (res := .int (f_ok (nar .byte v622) (0 : Int32) (2 : Int32) (3 : Int32) v1 v622)) ?_
      suffices J665 : ∀ v664 : Int32, v664 = (if (f_ok (nar .byte v622) (0 : Int32) (2 : Int32) (3 : Int32) v1 v622) = (0 : Int32) then (0 : Int32) else (if (f_ok (nar .byte v622) (1 : Int32) (2 : Int32) (3 : Int32) v1 v622) = (0 : Int32) then (0 : Int32) else (if (f_ok (nar .byte (v1 ||| (128 : Int32)).toInt8.toInt32) (2 : Int32) (2 : Int32) (3 : Int32) v1 v622) = (0 : Int32) then (0 : Int32) else (if (f_ok (nar .byte (((v1.toUInt32 >>> ((7 : Int32) &&& 31).toUInt32).toInt32) ||| (128 : Int32)).toInt8.toInt32) (3 : Int32) (2 : Int32) (3 : Int32) v1 v622) = (0 : Int32) then (0 : Int32) else (if (f_ok (nar .byte ((((v1.toUInt32 >>> ((7 : Int32) &&& 31).toUInt32).toInt32).toUInt32 >>> ((7 : Int32) &&& 31).toUInt32).toInt32).toInt8.toInt32) (4 : Int32) (2 : Int32) (3 : Int32) v1 v622) = (0 : Int32) then (0 : Int32) else (if (f_ok (nar .byte v622) (5 : Int32) (2 : Int32) (3 : Int32) v1 v622) = (0 : Int32) then (0 : Int32) else (if (f_ok (nar .byte v622) (6 : Int32) (2 : Int32) (3 : Int32) v1 v622) = (0 : Int32) then (0 : Int32) else (if (f_ok (nar .byte v622) (7 : Int32) (2 : Int32) (3 : Int32) v1 v622) = (0 : Int32) then (0 : Int32) else (1 : Int32))))))))) → Go W n0 QL h656 1 8 299 #[.val (.int p0), .val (.int p1), .val (.int p2), .val (.int p3), .val (.int v1), .val (.int (2 : Int32)), .val (.int v622), .val (.ref a624), .val (.int (5 : Int32)), .val (.int (3 : Int32))] [(.int v664)] by
        refine Go.if0 C at_170 (z_eq _) (qt := 298) (q := 173) (by decide) (by decide) rfl (fun b666 => ?_) (fun b666 => ?_)
        ·
          refine Go.iconst C (0 : Int32) at_298 (q := 299) rfl rfl ?_
          exact J665 _ (by rw [if_pos b666])
        ·
          refine Go.aload C at_173 (q := 175) rfl rfl rfl ?_
          refine Go.iconst C (1 : Int32) at_175 (q := 176) rfl rfl ?_
          refine Go.iload C at_176 (q := 178) rfl rfl ?_
          refine Go.iload C at_178 (q := 180) rfl rfl ?_
          refine Go.iload C at_180 (q := 182) rfl rfl ?_
          refine Go.iload C at_182 (q := 184) rfl rfl ?_
          refine Go.pureS C (hw _ (List.mem_of_getElem? (i := 6) rfl)) (hw _ (List.mem_of_getElem? (i := 7) rfl)) (hw _ (List.mem_of_getElem? (i := 8) rfl)) (hw _ (List.mem_of_getElem? (i := 9) rfl)) (c_f_ok W.l Z a0 hw a624 (1 : Int32) (2 : Int32) (3 : Int32) v1 v622 h656 n0 (upd (upd (upd (upd (upd (upd (upd (upd (upd (upd (upd (fun _ => (0 : Int32)) 0 (nar .byte v622)) 1 (nar .byte v622)) 2 (nar .byte v622)) 3 (nar .byte v622)) 4 (nar .byte v622)) 5 (nar .byte v622)) 6 (nar .byte v622)) 7 (nar .byte v622)) 2 (nar .byte (v1 ||| (128 : Int32)).toInt8.toInt32)) 3 (nar .byte (((v1.toUInt32 >>> ((7 : Int32) &&& 31).toUInt32).toInt32) ||| (128 : Int32)).toInt8.toInt32)) 4 (nar .byte ((((v1.toUInt32 >>> ((7 : Int32) &&& 31).toUInt32).toInt32).toUInt32 >>> ((7 : Int32) &&& 31).toUInt32).toInt32).toInt8.toInt32)) F663 F658 (by decide)) at_184 pd__40_91BIIIIB_41Z (q := 187) rfl rfl (argsL := [(.ref a624), (.int (1 : Int32)), (.int (2 : Int32)), (.int (3 : Int32)), (.int v1), (.int v622)]) (st := []) rfl rfl (w := 0) rfl (by decide) (by decide) (by decide) (by decide) (res := .int (f_ok (nar .byte v622) (1 : Int32) (2 : Int32) (3 : Int32) v1 v622)) ?_
          refine Go.if0 C at_187 (z_eq _) (qt := 298) (q := 190) (by decide) (by decide) rfl (fun b667 => ?_) (fun b667 => ?_)
          ·
            refine Go.iconst C (0 : Int32) at_298 (q := 299) rfl rfl ?_
            exact J665 _ (by rw [if_neg b666, if_pos b667])
          ·
            refine Go.aload C at_190 (q := 192) rfl rfl rfl ?_
            refine Go.iconst C (2 : Int32) at_192 (q := 193) rfl rfl ?_
            refine Go.iload C at_193 (q := 195) rfl rfl ?_
            refine Go.iload C at_195 (q := 197) rfl rfl ?_
            refine Go.iload C at_197 (q := 199) rfl rfl ?_
            refine Go.iload C at_199 (q := 201) rfl rfl ?_
            refine Go.pureS C (hw _ (List.mem_of_getElem? (i := 6) rfl)) (hw _ (List.mem_of_getElem? (i := 7) rfl)) (hw _ (List.mem_of_getElem? (i := 8) rfl)) (hw _ (List.mem_of_getElem? (i := 9) rfl)) (c_f_ok W.l Z a0 hw a624 (2 : Int32) (2 : Int32) (3 : Int32) v1 v622 h656 n0 (upd (upd (upd (upd (upd (upd (upd (upd (upd (upd (upd (fun _ => (0 : Int32)) 0 (nar .byte v622)) 1 (nar .byte v622)) 2 (nar .byte v622)) 3 (nar .byte v622)) 4 (nar .byte v622)) 5 (nar .byte v622)) 6 (nar .byte v622)) 7 (nar .byte v622)) 2 (nar .byte (v1 ||| (128 : Int32)).toInt8.toInt32)) 3 (nar .byte (((v1.toUInt32 >>> ((7 : Int32) &&& 31).toUInt32).toInt32) ||| (128 : Int32)).toInt8.toInt32)) 4 (nar .byte ((((v1.toUInt32 >>> ((7 : Int32) &&& 31).toUInt32).toInt32).toUInt32 >>> ((7 : Int32) &&& 31).toUInt32).toInt32).toInt8.toInt32)) F663 F658 (by decide)) at_201 pd__40_91BIIIIB_41Z (q := 204) rfl rfl (argsL := [(.ref a624), (.int (2 : Int32)), (.int (2 : Int32)), (.int (3 : Int32)), (.int v1), (.int v622)]) (st := []) rfl rfl (w := 0) rfl (by decide) (by decide) (by decide) (by decide) (res := .int (f_ok (nar .byte (v1 ||| (128 : Int32)).toInt8.toInt32) (2 : Int32) (2 : Int32) (3 : Int32) v1 v622)) ?_
            refine Go.if0 C at_204 (z_eq _) (qt := 298) (q := 207) (by decide) (by decide) rfl (fun b668 => ?_) (fun b668 => ?_)
            ·
              refine Go.iconst C (0 : Int32) at_298 (q := 299) rfl rfl ?_
              exact J665 _ (by rw [if_neg b666, if_neg b667, if_pos b668])
            ·
              refine Go.aload C at_207 (q := 209) rfl rfl rfl ?_
              refine Go.iconst C (3 : Int32) at_209 (q := 210) rfl rfl ?_
              refine Go.iload C at_210 (q := 212) rfl rfl ?_
              refine Go.iload C at_212 (q := 214) rfl rfl ?_
              refine Go.iload C at_214 (q := 216) rfl rfl ?_
              refine Go.iload C at_216 (q := 218) rfl rfl ?_
              refine Go.pureS C (hw _ (List.mem_of_getElem? (i := 6) rfl)) (hw _ (List.mem_of_getElem? (i := 7) rfl)) (hw _ (List.mem_of_getElem? (i := 8) rfl)) (hw _ (List.mem_of_getElem? (i := 9) rfl)) (c_f_ok W.l Z a0 hw a624 (3 : Int32) (2 : Int32) (3 : Int32) v1 v622 h656 n0 (upd (upd (upd (upd (upd (upd (upd (upd (upd (upd (upd (fun _ => (0 : Int32)) 0 (nar .byte v622)) 1 (nar .byte v622)) 2 (nar .byte v622)) 3 (nar .byte v622)) 4 (nar .byte v622)) 5 (nar .byte v622)) 6 (nar .byte v622)) 7 (nar .byte v622)) 2 (nar .byte (v1 ||| (128 : Int32)).toInt8.toInt32)) 3 (nar .byte (((v1.toUInt32 >>> ((7 : Int32) &&& 31).toUInt32).toInt32) ||| (128 : Int32)).toInt8.toInt32)) 4 (nar .byte ((((v1.toUInt32 >>> ((7 : Int32) &&& 31).toUInt32).toInt32).toUInt32 >>> ((7 : Int32) &&& 31).toUInt32).toInt32).toInt8.toInt32)) F663 F658 (by decide)) at_218 pd__40_91BIIIIB_41Z (q := 221) rfl rfl (argsL := [(.ref a624), (.int (3 : Int32)), (.int (2 : Int32)), (.int (3 : Int32)), (.int v1), (.int v622)]) (st := []) rfl rfl (w := 0) rfl (by decide) (by decide) (by decide) (by decide) (res := .int (f_ok (nar .byte (((v1.toUInt32 >>> ((7 : Int32) &&& 31).toUInt32).toInt32) ||| (128 : Int32)).toInt8.toInt32) (3 : Int32) (2 : Int32) (3 : Int32) v1 v622)) ?_
              refine Go.if0 C at_221 (z_eq _) (qt := 298) (q := 224) (by decide) (by decide) rfl (fun b669 => ?_) (fun b669 => ?_)
              ·
                refine Go.iconst C (0 : Int32) at_298 (q := 299) rfl rfl ?_
                exact J665 _ (by rw [if_neg b666, if_neg b667, if_neg b668, if_pos b669])
              ·
                refine Go.aload C at_224 (q := 226) rfl rfl rfl ?_
                refine Go.iconst C (4 : Int32) at_226 (q := 227) rfl rfl ?_
                refine Go.iload C at_227 (q := 229) rfl rfl ?_
                refine Go.iload C at_229 (q := 231) rfl rfl ?_
                refine Go.iload C at_231 (q := 233) rfl rfl ?_
                refine Go.iload C at_233 (q := 235) rfl rfl ?_
                refine Go.pureS C (hw _ (List.mem_of_getElem? (i := 6) rfl)) (hw _ (List.mem_of_getElem? (i := 7) rfl)) (hw _ (List.mem_of_getElem? (i := 8) rfl)) (hw _ (List.mem_of_getElem? (i := 9) rfl)) (c_f_ok W.l Z a0 hw a624 (4 : Int32) (2 : Int32) (3 : Int32) v1 v622 h656 n0 (upd (upd (upd (upd (upd (upd (upd (upd (upd (upd (upd (fun _ => (0 : Int32)) 0 (nar .byte v622)) 1 (nar .byte v622)) 2 (nar .byte v622)) 3 (nar .byte v622)) 4 (nar .byte v622)) 5 (nar .byte v622)) 6 (nar .byte v622)) 7 (nar .byte v622)) 2 (nar .byte (v1 ||| (128 : Int32)).toInt8.toInt32)) 3 (nar .byte (((v1.toUInt32 >>> ((7 : Int32) &&& 31).toUInt32).toInt32) ||| (128 : Int32)).toInt8.toInt32)) 4 (nar .byte ((((v1.toUInt32 >>> ((7 : Int32) &&& 31).toUInt32).toInt32).toUInt32 >>> ((7 : Int32) &&& 31).toUInt32).toInt32).toInt8.toInt32)) F663 F658 (by decide)) at_235 pd__40_91BIIIIB_41Z (q := 238) rfl rfl (argsL := [(.ref a624), (.int (4 : Int32)), (.int (2 : Int32)), (.int (3 : Int32)), (.int v1), (.int v622)]) (st := []) rfl rfl (w := 0) rfl (by decide) (by decide) (by decide) (by decide) (res := .int (f_ok (nar .byte ((((v1.toUInt32 >>> ((7 : Int32) &&& 31).toUInt32).toInt32).toUInt32 >>> ((7 : Int32) &&& 31).toUInt32).toInt32).toInt8.toInt32) (4 : Int32) (2 : Int32) (3 : Int32) v1 v622)) ?_
                refine Go.if0 C at_238 (z_eq _) (qt := 298) (q := 241) (by decide) (by decide) rfl (fun b670 => ?_) (fun b670 => ?_)
                ·
                  refine Go.iconst C (0 : Int32) at_298 (q := 299) rfl rfl ?_
                  exact J665 _ (by rw [if_neg b666, if_neg b667, if_neg b668, if_neg b669, if_pos b670])
                ·
                  refine Go.aload C at_241 (q := 243) rfl rfl rfl ?_
                  refine Go.iconst C (5 : Int32) at_243 (q := 244) rfl rfl ?_
                  refine Go.iload C at_244 (q := 246) rfl rfl ?_
                  refine Go.iload C at_246 (q := 248) rfl rfl ?_
                  refine Go.iload C at_248 (q := 250) rfl rfl ?_
                  refine Go.iload C at_250 (q := 252) rfl rfl ?_
                  refine Go.pureS C (hw _ (List.mem_of_getElem? (i := 6) rfl)) (hw _ (List.mem_of_getElem? (i := 7) rfl)) (hw _ (List.mem_of_getElem? (i := 8) rfl)) (hw _ (List.mem_of_getElem? (i := 9) rfl)) (c_f_ok W.l Z a0 hw a624 (5 : Int32) (2 : Int32) (3 : Int32) v1 v622 h656 n0 (upd (upd (upd (upd (upd (upd (upd (upd (upd (upd (upd (fun _ => (0 : Int32)) 0 (nar .byte v622)) 1 (nar .byte v622)) 2 (nar .byte v622)) 3 (nar .byte v622)) 4 (nar .byte v622)) 5 (nar .byte v622)) 6 (nar .byte v622)) 7 (nar .byte v622)) 2 (nar .byte (v1 ||| (128 : Int32)).toInt8.toInt32)) 3 (nar .byte (((v1.toUInt32 >>> ((7 : Int32) &&& 31).toUInt32).toInt32) ||| (128 : Int32)).toInt8.toInt32)) 4 (nar .byte ((((v1.toUInt32 >>> ((7 : Int32) &&& 31).toUInt32).toInt32).toUInt32 >>> ((7 : Int32) &&& 31).toUInt32).toInt32).toInt8.toInt32)) F663 F658 (by decide)) at_252 pd__40_91BIIIIB_41Z (q := 255) rfl rfl (argsL := [(.ref a624), (.int (5 : Int32)), (.int (2 : Int32)), (.int (3 : Int32)), (.int v1), (.int v622)]) (st := []) rfl rfl (w := 0) rfl (by decide) (by decide) (by decide) (by decide) (res := .int (f_ok (nar .byte v622) (5 : Int32) (2 : Int32) (3 : Int32) v1 v622)) ?_
                  refine Go.if0 C at_255 (z_eq _) (qt := 298) (q := 258) (by decide) (by decide) rfl (fun b671 => ?_) (fun b671 => ?_)
                  ·
                    refine Go.iconst C (0 : Int32) at_298 (q := 299) rfl rfl ?_
                    exact J665 _ (by rw [if_neg b666, if_neg b667, if_neg b668, if_neg b669, if_neg b670, if_pos b671])
                  ·
                    refine Go.aload C at_258 (q := 260) rfl rfl rfl ?_
                    refine Go.bipush C (6 : Int32) at_260 (q := 262) rfl rfl ?_
                    refine Go.iload C at_262 (q := 264) rfl rfl ?_
                    refine Go.iload C at_264 (q := 266) rfl rfl ?_
                    refine Go.iload C at_266 (q := 268) rfl rfl ?_
                    refine Go.iload C at_268 (q := 270) rfl rfl ?_
                    refine Go.pureS C (hw _ (List.mem_of_getElem? (i := 6) rfl)) (hw _ (List.mem_of_getElem? (i := 7) rfl)) (hw _ (List.mem_of_getElem? (i := 8) rfl)) (hw _ (List.mem_of_getElem? (i := 9) rfl)) (c_f_ok W.l Z a0 hw a624 (6 : Int32) (2 : Int32) (3 : Int32) v1 v622 h656 n0 (upd (upd (upd (upd (upd (upd (upd (upd (upd (upd (upd (fun _ => (0 : Int32)) 0 (nar .byte v622)) 1 (nar .byte v622)) 2 (nar .byte v622)) 3 (nar .byte v622)) 4 (nar .byte v622)) 5 (nar .byte v622)) 6 (nar .byte v622)) 7 (nar .byte v622)) 2 (nar .byte (v1 ||| (128 : Int32)).toInt8.toInt32)) 3 (nar .byte (((v1.toUInt32 >>> ((7 : Int32) &&& 31).toUInt32).toInt32) ||| (128 : Int32)).toInt8.toInt32)) 4 (nar .byte ((((v1.toUInt32 >>> ((7 : Int32) &&& 31).toUInt32).toInt32).toUInt32 >>> ((7 : Int32) &&& 31).toUInt32).toInt32).toInt8.toInt32)) F663 F658 (by decide)) at_270 pd__40_91BIIIIB_41Z (q := 273) rfl rfl (argsL := [(.ref a624), (.int (6 : Int32)), (.int (2 : Int32)), (.int (3 : Int32)), (.int v1), (.int v622)]) (st := []) rfl rfl (w := 0) rfl (by decide) (by decide) (by decide) (by decide) (res := .int (f_ok (nar .byte v622) (6 : Int32) (2 : Int32) (3 : Int32) v1 v622)) ?_
                    refine Go.if0 C at_273 (z_eq _) (qt := 298) (q := 276) (by decide) (by decide) rfl (fun b672 => ?_) (fun b672 => ?_)
                    ·
                      refine Go.iconst C (0 : Int32) at_298 (q := 299) rfl rfl ?_
                      exact J665 _ (by rw [if_neg b666, if_neg b667, if_neg b668, if_neg b669, if_neg b670, if_neg b671, if_pos b672])
                    ·
                      refine Go.aload C at_276 (q := 278) rfl rfl rfl ?_
                      refine Go.bipush C (7 : Int32) at_278 (q := 280) rfl rfl ?_
                      refine Go.iload C at_280 (q := 282) rfl rfl ?_
                      refine Go.iload C at_282 (q := 284) rfl rfl ?_
                      refine Go.iload C at_284 (q := 286) rfl rfl ?_
                      refine Go.iload C at_286 (q := 288) rfl rfl ?_
                      refine Go.pureS C (hw _ (List.mem_of_getElem? (i := 6) rfl)) (hw _ (List.mem_of_getElem? (i := 7) rfl)) (hw _ (List.mem_of_getElem? (i := 8) rfl)) (hw _ (List.mem_of_getElem? (i := 9) rfl)) (c_f_ok W.l Z a0 hw a624 (7 : Int32) (2 : Int32) (3 : Int32) v1 v622 h656 n0 (upd (upd (upd (upd (upd (upd (upd (upd (upd (upd (upd (fun _ => (0 : Int32)) 0 (nar .byte v622)) 1 (nar .byte v622)) 2 (nar .byte v622)) 3 (nar .byte v622)) 4 (nar .byte v622)) 5 (nar .byte v622)) 6 (nar .byte v622)) 7 (nar .byte v622)) 2 (nar .byte (v1 ||| (128 : Int32)).toInt8.toInt32)) 3 (nar .byte (((v1.toUInt32 >>> ((7 : Int32) &&& 31).toUInt32).toInt32) ||| (128 : Int32)).toInt8.toInt32)) 4 (nar .byte ((((v1.toUInt32 >>> ((7 : Int32) &&& 31).toUInt32).toInt32).toUInt32 >>> ((7 : Int32) &&& 31).toUInt32).toInt32).toInt8.toInt32)) F663 F658 (by decide)) at_288 pd__40_91BIIIIB_41Z (q := 291) rfl rfl (argsL := [(.ref a624), (.int (7 : Int32)), (.int (2 : Int32)), (.int (3 : Int32)), (.int v1), (.int v622)]) (st := []) rfl rfl (w := 0) rfl (by decide) (by decide) (by decide) (by decide) (res := .int (f_ok (nar .byte v622) (7 : Int32) (2 : Int32) (3 : Int32) v1 v622)) ?_
                      refine Go.if0 C at_291 (z_eq _) (qt := 298) (q := 294) (by decide) (by decide) rfl (fun b673 => ?_) (fun b673 => ?_)
                      ·
                        refine Go.iconst C (0 : Int32) at_298 (q := 299) rfl rfl ?_
                        exact J665 _ (by rw [if_neg b666, if_neg b667, if_neg b668, if_neg b669, if_neg b670, if_neg b671, if_neg b672, if_pos b673])
                      ·
                        refine Go.iconst C (1 : Int32) at_294 (q := 295) rfl rfl ?_
                        refine Go.goto C at_295 (q := 299) (by decide) (by decide) ?_
                        exact J665 _ (by rw [if_neg b666, if_neg b667, if_neg b668, if_neg b669, if_neg b670, if_neg b671, if_neg b672, if_neg b673])
      intro v664 hv664
      exact Go.retZ (t := .boolean) (by simp) C at_299 (by decide) (by decide) (congrArg (fun z => some (Value.int z)) (fin12 p0 p1 p2 p3 v1 hv1  hv2  w0  w1  w2 v622 hv622 v664 hv664))
    ·
      refine Go.istore C at_18 (q := 20) rfl (fun z => #[.val (.int p0), .val (.int p1), .val (.int p2), .val (.int p3), .val (.int v1), .val (.int (2 : Int32)), .val (.int z), .unset, .unset, .unset]) (fun _ => rfl) ?_
      intro v674 hv674
      refine Go.bipush C (8 : Int32) at_20 (q := 22) rfl rfl ?_
      refine Go.newP C (hw _ (List.mem_of_getElem? (i := 1) rfl)) (by decide) (cap := 8) (by decide) (by decide) at_22 (q := 24) rfl (k' := 1) rfl (n' := 8) rfl (by decide) (by decide) ?_
      intro h675 a676 cA677 g678 E679 Fn680
      have g682 : n0 ≤ a676 := g678 ▸ Z0
      have F681 : Av Z h675 a676 .byte 8 (iF (fun _ => (0 : Int32))) := Av.of Fn680
      refine Go.astore C at_24 (q := 26) rfl (l' := #[.val (.int p0), .val (.int p1), .val (.int p2), .val (.int p3), .val (.int v1), .val (.int (2 : Int32)), .val (.int v674), .val (.ref a676), .unset, .unset]) rfl rfl ?_
      refine Go.aload C at_26 (q := 28) rfl rfl rfl ?_
      refine Go.iconst C (0 : Int32) at_28 (q := 29) rfl rfl ?_
      refine Go.iload C at_29 (q := 31) rfl rfl ?_
      refine Go.bastore C F681 0 (by decide) (by decide) (by decide) g682 at_31 (q := 32) rfl ?_
      intro h683 W684
      have F685 := F681.sameI W684
      refine Go.aload C at_32 (q := 34) rfl rfl rfl ?_
      refine Go.iconst C (1 : Int32) at_34 (q := 35) rfl rfl ?_
      refine Go.iload C at_35 (q := 37) rfl rfl ?_
      refine Go.bastore C F685 1 (by decide) (by decide) (by decide) g682 at_37 (q := 38) rfl ?_
      intro h686 W687
      have F688 := F685.sameI W687
      refine Go.aload C at_38 (q := 40) rfl rfl rfl ?_
      refine Go.iconst C (2 : Int32) at_40 (q := 41) rfl rfl ?_
      refine Go.iload C at_41 (q := 43) rfl rfl ?_
      refine Go.bastore C F688 2 (by decide) (by decide) (by decide) g682 at_43 (q := 44) rfl ?_
      intro h689 W690
      have F691 := F688.sameI W690
      refine Go.aload C at_44 (q := 46) rfl rfl rfl ?_
      refine Go.iconst C (3 : Int32) at_46 (q := 47) rfl rfl ?_
      refine Go.iload C at_47 (q := 49) rfl rfl ?_
      refine Go.bastore C F691 3 (by decide) (by decide) (by decide) g682 at_49 (q := 50) rfl ?_
      intro h692 W693
      have F694 := F691.sameI W693
      refine Go.aload C at_50 (q := 52) rfl rfl rfl ?_
      refine Go.iconst C (4 : Int32) at_52 (q := 53) rfl rfl ?_
      refine Go.iload C at_53 (q := 55) rfl rfl ?_
      refine Go.bastore C F694 4 (by decide) (by decide) (by decide) g682 at_55 (q := 56) rfl ?_
      intro h695 W696
      have F697 := F694.sameI W696
      refine Go.aload C at_56 (q := 58) rfl rfl rfl ?_
      refine Go.iconst C (5 : Int32) at_58 (q := 59) rfl rfl ?_
      refine Go.iload C at_59 (q := 61) rfl rfl ?_
      refine Go.bastore C F697 5 (by decide) (by decide) (by decide) g682 at_61 (q := 62) rfl ?_
      intro h698 W699
      have F700 := F697.sameI W699
      refine Go.aload C at_62 (q := 64) rfl rfl rfl ?_
      refine Go.bipush C (6 : Int32) at_64 (q := 66) rfl rfl ?_
      refine Go.iload C at_66 (q := 68) rfl rfl ?_
      refine Go.bastore C F700 6 (by decide) (by decide) (by decide) g682 at_68 (q := 69) rfl ?_
      intro h701 W702
      have F703 := F700.sameI W702
      refine Go.aload C at_69 (q := 71) rfl rfl rfl ?_
      refine Go.bipush C (7 : Int32) at_71 (q := 73) rfl rfl ?_
      refine Go.iload C at_73 (q := 75) rfl rfl ?_
      refine Go.bastore C F703 7 (by decide) (by decide) (by decide) g682 at_75 (q := 76) rfl ?_
      intro h704 W705
      have F706 := F703.sameI W705
      refine Go.aload C at_76 (q := 78) rfl rfl rfl ?_
      refine Go.iload C at_78 (q := 80) rfl rfl ?_
      refine Go.iload C at_80 (q := 82) rfl rfl ?_
      have F707 := (Nat.le_trans (Nat.le_trans (Nat.le_trans (Nat.le_trans (Nat.le_trans (Nat.le_trans (Nat.le_trans (Nat.le_trans (Nat.le_trans Z0 E679.1) (Nat.le_of_eq W684.size.symm)) (Nat.le_of_eq W687.size.symm)) (Nat.le_of_eq W690.size.symm)) (Nat.le_of_eq W693.size.symm)) (Nat.le_of_eq W696.size.symm)) (Nat.le_of_eq W699.size.symm)) (Nat.le_of_eq W702.size.symm)) (Nat.le_of_eq W705.size.symm))
      refine Go.callS C (hw _ (List.mem_of_getElem? (i := 2) rfl)) (hw _ (List.mem_of_getElem? (i := 3) rfl)) (hw _ (List.mem_of_getElem? (i := 4) rfl)) (hw _ (List.mem_of_getElem? (i := 5) rfl)) (c_put2_4 W.l Z a0 hw a676 v1 h704 n0 (upd (upd (upd (upd (upd (upd (upd (upd (fun _ => (0 : Int32)) 0 (nar .byte v674)) 1 (nar .byte v674)) 2 (nar .byte v674)) 3 (nar .byte v674)) 4 (nar .byte v674)) 5 (nar .byte v674)) 6 (nar .byte v674)) 7 (nar .byte v674)) F707 F706 g682 w0 w1 w2 w3) at_82 pd__40_91BII_41I (q := 85) rfl rfl (argsL := [(.ref a676), (.int (2 : Int32)), (.int v1)]) (st := []) rfl rfl (w := 0) rfl (by decide) (by decide) (k' := 1) rfl (n' := 8) rfl (by decide) (by decide) ?_
      intro v h708 q
      obtain ⟨rfl, K709, F710⟩ := q
      show Go W n0 QL h708 1 8 85 #[.val (.int p0), .val (.int p1), .val (.int p2), .val (.int p3), .val (.int v1), .val (.int (2 : Int32)), .val (.int v674), .val (.ref a676), .unset, .unset] [(.int (6 : Int32))]
      refine Go.istoreR C at_85 (q := 87) rfl (l' := #[.val (.int p0), .val (.int p1), .val (.int p2), .val (.int p3), .val (.int v1), .val (.int (2 : Int32)), .val (.int v674), .val (.ref a676), .val (.int (6 : Int32)), .unset]) rfl ?_
      refine Go.iload C at_87 (q := 89) rfl rfl ?_
      refine Go.sipush C (128 : Int32) at_89 (q := 92) rfl rfl ?_
      refine Go.icmp C at_92 (n_ge _ _) (qt := 101) (q := 95) (by decide) (by decide) rfl (fun _ => ?_) (fun b711 => absurd t0 b711)
      refine Go.iload C at_101 (q := 103) rfl rfl ?_
      refine Go.sipush C (16384 : Int32) at_103 (q := 106) rfl rfl ?_
      refine Go.icmp C at_106 (n_ge _ _) (qt := 115) (q := 109) (by decide) (by decide) rfl (fun _ => ?_) (fun b712 => absurd t1 b712)
      refine Go.iload C at_115 (q := 117) rfl rfl ?_
      refine Go.ldcI C (hw _ (List.mem_of_getElem? (i := 10) rfl)) at_117 (q := 119) rfl ?_
      refine Go.icmp C at_119 (n_ge _ _) (qt := 128) (q := 122) (by decide) (by decide) rfl (fun _ => ?_) (fun b713 => absurd t2 b713)
      refine Go.iload C at_128 (q := 130) rfl rfl ?_
      refine Go.ldcI C (hw _ (List.mem_of_getElem? (i := 11) rfl)) at_130 (q := 132) rfl ?_
      refine Go.icmp C at_132 (n_ge _ _) (qt := 141) (q := 135) (by decide) (by decide) rfl (fun b714 => absurd t3 b714) (fun _ => ?_)
      refine Go.iconst C (4 : Int32) at_135 (q := 136) rfl rfl ?_
      refine Go.istoreR C at_136 (q := 138) rfl (l' := #[.val (.int p0), .val (.int p1), .val (.int p2), .val (.int p3), .val (.int v1), .val (.int (2 : Int32)), .val (.int v674), .val (.ref a676), .val (.int (6 : Int32)), .val (.int (4 : Int32))]) rfl ?_
      refine Go.goto C at_138 (q := 144) (by decide) (by decide) ?_
      refine Go.iload C at_144 (q := 146) rfl rfl ?_
      refine Go.iload C at_146 (q := 148) rfl rfl ?_
      refine Go.iload C at_148 (q := 150) rfl rfl ?_
      refine Go.iadd C at_150 (q := 151) rfl ?_
      refine Go.icmp C at_151 (n_eq _ _) (qt := 156) (q := 154) (by decide) (by decide) rfl (fun _ => ?_) (fun b715 => absurd b715 (by decide))
      refine Go.aload C at_156 (q := 158) rfl rfl rfl ?_
      refine Go.iconst C (0 : Int32) at_158 (q := 159) rfl rfl ?_
      refine Go.iload C at_159 (q := 161) rfl rfl ?_
      refine Go.iload C at_161 (q := 163) rfl rfl ?_
      refine Go.iload C at_163 (q := 165) rfl rfl ?_
      refine Go.iload C at_165 (q := 167) rfl rfl ?_
      have F716 := (Nat.le_trans F707 K709.1)
      refine Go.pureS C (hw _ (List.mem_of_getElem? (i := 6) rfl)) (hw _ (List.mem_of_getElem? (i := 7) rfl)) (hw _ (List.mem_of_getElem? (i := 8) rfl)) (hw _ (List.mem_of_getElem? (i := 9) rfl)) (c_f_ok W.l Z a0 hw a676 (0 : Int32) (2 : Int32) (4 : Int32) v1 v674 h708 n0 (upd (upd (upd (upd (upd (upd (upd (upd (upd (upd (upd (upd (fun _ => (0 : Int32)) 0 (nar .byte v674)) 1 (nar .byte v674)) 2 (nar .byte v674)) 3 (nar .byte v674)) 4 (nar .byte v674)) 5 (nar .byte v674)) 6 (nar .byte v674)) 7 (nar .byte v674)) 2 (nar .byte (v1 ||| (128 : Int32)).toInt8.toInt32)) 3 (nar .byte (((v1.toUInt32 >>> ((7 : Int32) &&& 31).toUInt32).toInt32) ||| (128 : Int32)).toInt8.toInt32)) 4 (nar .byte (((((v1.toUInt32 >>> ((7 : Int32) &&& 31).toUInt32).toInt32).toUInt32 >>> ((7 : Int32) &&& 31).toUInt32).toInt32) ||| (128 : Int32)).toInt8.toInt32)) 5 (nar .byte ((((((v1.toUInt32 >>> ((7 : Int32) &&& 31).toUInt32).toInt32).toUInt32 >>> ((7 : Int32) &&& 31).toUInt32).toInt32).toUInt32 >>> ((7 : Int32) &&& 31).toUInt32).toInt32).toInt8.toInt32)) F716 F710 (by decide)) at_167 pd__40_91BIIIIB_41Z (q := 170) rfl rfl (argsL := [(.ref a676), (.int (0 : Int32)), (.int (2 : Int32)), (.int (4 : Int32)), (.int v1), (.int v674)]) (st := []) rfl rfl (w := 0) rfl (by decide) (by decide) (by decide) (by decide) (res := .int (f_ok (nar .byte v674) (0 : Int32) (2 : Int32) (4 : Int32) v1 v674)) ?_
      suffices J718 : ∀ v717 : Int32, v717 = (if (f_ok (nar .byte v674) (0 : Int32) (2 : Int32) (4 : Int32) v1 v674) = (0 : Int32) then (0 : Int32) else (if (f_ok (nar .byte v674) (1 : Int32) (2 : Int32) (4 : Int32) v1 v674) = (0 : Int32) then (0 : Int32) else (if (f_ok (nar .byte (v1 ||| (128 : Int32)).toInt8.toInt32) (2 : Int32) (2 : Int32) (4 : Int32) v1 v674) = (0 : Int32) then (0 : Int32) else (if (f_ok (nar .byte (((v1.toUInt32 >>> ((7 : Int32) &&& 31).toUInt32).toInt32) ||| (128 : Int32)).toInt8.toInt32) (3 : Int32) (2 : Int32) (4 : Int32) v1 v674) = (0 : Int32) then (0 : Int32) else (if (f_ok (nar .byte (((((v1.toUInt32 >>> ((7 : Int32) &&& 31).toUInt32).toInt32).toUInt32 >>> ((7 : Int32) &&& 31).toUInt32).toInt32) ||| (128 : Int32)).toInt8.toInt32) (4 : Int32) (2 : Int32) (4 : Int32) v1 v674) = (0 : Int32) then (0 : Int32) else (if (f_ok (nar .byte ((((((v1.toUInt32 >>> ((7 : Int32) &&& 31).toUInt32).toInt32).toUInt32 >>> ((7 : Int32) &&& 31).toUInt32).toInt32).toUInt32 >>> ((7 : Int32) &&& 31).toUInt32).toInt32).toInt8.toInt32) (5 : Int32) (2 : Int32) (4 : Int32) v1 v674) = (0 : Int32) then (0 : Int32) else (if (f_ok (nar .byte v674) (6 : Int32) (2 : Int32) (4 : Int32) v1 v674) = (0 : Int32) then (0 : Int32) else (if (f_ok (nar .byte v674) (7 : Int32) (2 : Int32) (4 : Int32) v1 v674) = (0 : Int32) then (0 : Int32) else (1 : Int32))))))))) → Go W n0 QL h708 1 8 299 #[.val (.int p0), .val (.int p1), .val (.int p2), .val (.int p3), .val (.int v1), .val (.int (2 : Int32)), .val (.int v674), .val (.ref a676), .val (.int (6 : Int32)), .val (.int (4 : Int32))] [(.int v717)] by
        refine Go.if0 C at_170 (z_eq _) (qt := 298) (q := 173) (by decide) (by decide) rfl (fun b719 => ?_) (fun b719 => ?_)
        ·
          refine Go.iconst C (0 : Int32) at_298 (q := 299) rfl rfl ?_
          exact J718 _ (by rw [if_pos b719])
        ·
          refine Go.aload C at_173 (q := 175) rfl rfl rfl ?_
          refine Go.iconst C (1 : Int32) at_175 (q := 176) rfl rfl ?_
          refine Go.iload C at_176 (q := 178) rfl rfl ?_
          refine Go.iload C at_178 (q := 180) rfl rfl ?_
          refine Go.iload C at_180 (q := 182) rfl rfl ?_
          refine Go.iload C at_182 (q := 184) rfl rfl ?_
          refine Go.pureS C (hw _ (List.mem_of_getElem? (i := 6) rfl)) (hw _ (List.mem_of_getElem? (i := 7) rfl)) (hw _ (List.mem_of_getElem? (i := 8) rfl)) (hw _ (List.mem_of_getElem? (i := 9) rfl)) (c_f_ok W.l Z a0 hw a676 (1 : Int32) (2 : Int32) (4 : Int32) v1 v674 h708 n0 (upd (upd (upd (upd (upd (upd (upd (upd (upd (upd (upd (upd (fun _ => (0 : Int32)) 0 (nar .byte v674)) 1 (nar .byte v674)) 2 (nar .byte v674)) 3 (nar .byte v674)) 4 (nar .byte v674)) 5 (nar .byte v674)) 6 (nar .byte v674)) 7 (nar .byte v674)) 2 (nar .byte (v1 ||| (128 : Int32)).toInt8.toInt32)) 3 (nar .byte (((v1.toUInt32 >>> ((7 : Int32) &&& 31).toUInt32).toInt32) ||| (128 : Int32)).toInt8.toInt32)) 4 (nar .byte (((((v1.toUInt32 >>> ((7 : Int32) &&& 31).toUInt32).toInt32).toUInt32 >>> ((7 : Int32) &&& 31).toUInt32).toInt32) ||| (128 : Int32)).toInt8.toInt32)) 5 (nar .byte ((((((v1.toUInt32 >>> ((7 : Int32) &&& 31).toUInt32).toInt32).toUInt32 >>> ((7 : Int32) &&& 31).toUInt32).toInt32).toUInt32 >>> ((7 : Int32) &&& 31).toUInt32).toInt32).toInt8.toInt32)) F716 F710 (by decide)) at_184 pd__40_91BIIIIB_41Z (q := 187) rfl rfl (argsL := [(.ref a676), (.int (1 : Int32)), (.int (2 : Int32)), (.int (4 : Int32)), (.int v1), (.int v674)]) (st := []) rfl rfl (w := 0) rfl (by decide) (by decide) (by decide) (by decide) (res := .int (f_ok (nar .byte v674) (1 : Int32) (2 : Int32) (4 : Int32) v1 v674)) ?_
          refine Go.if0 C at_187 (z_eq _) (qt := 298) (q := 190) (by decide) (by decide) rfl (fun b720 => ?_) (fun b720 => ?_)
          ·
            refine Go.iconst C (0 : Int32) at_298 (q := 299) rfl rfl ?_
            exact J718 _ (by rw [if_neg b719, if_pos b720])
          ·
            refine Go.aload C at_190 (q := 192) rfl rfl rfl ?_
            refine Go.iconst C (2 : Int32) at_192 (q := 193) rfl rfl ?_
            refine Go.iload C at_193 (q := 195) rfl rfl ?_
            refine Go.iload C at_195 (q := 197) rfl rfl ?_
            refine Go.iload C at_197 (q := 199) rfl rfl ?_
            refine Go.iload C at_199 (q := 201) rfl rfl ?_
            refine Go.pureS C (hw _ (List.mem_of_getElem? (i := 6) rfl)) (hw _ (List.mem_of_getElem? (i := 7) rfl)) (hw _ (List.mem_of_getElem? (i := 8) rfl)) (hw _ (List.mem_of_getElem? (i := 9) rfl)) (c_f_ok W.l Z a0 hw a676 (2 : Int32) (2 : Int32) (4 : Int32) v1 v674 h708 n0 (upd (upd (upd (upd (upd (upd (upd (upd (upd (upd (upd (upd (fun _ => (0 : Int32)) 0 (nar .byte v674)) 1 (nar .byte v674)) 2 (nar .byte v674)) 3 (nar .byte v674)) 4 (nar .byte v674)) 5 (nar .byte v674)) 6 (nar .byte v674)) 7 (nar .byte v674)) 2 (nar .byte (v1 ||| (128 : Int32)).toInt8.toInt32)) 3 (nar .byte (((v1.toUInt32 >>> ((7 : Int32) &&& 31).toUInt32).toInt32) ||| (128 : Int32)).toInt8.toInt32)) 4 (nar .byte (((((v1.toUInt32 >>> ((7 : Int32) &&& 31).toUInt32).toInt32).toUInt32 >>> ((7 : Int32) &&& 31).toUInt32).toInt32) ||| (128 : Int32)).toInt8.toInt32)) 5 (nar .byte ((((((v1.toUInt32 >>> ((7 : Int32) &&& 31).toUInt32).toInt32).toUInt32 >>> ((7 : Int32) &&& 31).toUInt32).toInt32).toUInt32 >>> ((7 : Int32) &&& 31).toUInt32).toInt32).toInt8.toInt32)) F716 F710 (by decide)) at_201 pd__40_91BIIIIB_41Z (q := 204) rfl rfl (argsL := [(.ref a676), (.int (2 : Int32)), (.int (2 : Int32)), (.int (4 : Int32)), (.int v1), (.int v674)]) (st := []) rfl rfl (w := 0) rfl (by decide) (by decide) (by decide) (by decide) (res := .int (f_ok (nar .byte (v1 ||| (128 : Int32)).toInt8.toInt32) (2 : Int32) (2 : Int32) (4 : Int32) v1 v674)) ?_
            refine Go.if0 C at_204 (z_eq _) (qt := 298) (q := 207) (by decide) (by decide) rfl (fun b721 => ?_) (fun b721 => ?_)
            ·
              refine Go.iconst C (0 : Int32) at_298 (q := 299) rfl rfl ?_
              exact J718 _ (by rw [if_neg b719, if_neg b720, if_pos b721])
            ·
              refine Go.aload C at_207 (q := 209) rfl rfl rfl ?_
              refine Go.iconst C (3 : Int32) at_209 (q := 210) rfl rfl ?_
              refine Go.iload C at_210 (q := 212) rfl rfl ?_
              refine Go.iload C at_212 (q := 214) rfl rfl ?_
              refine Go.iload C at_214 (q := 216) rfl rfl ?_
              refine Go.iload C at_216 (q := 218) rfl rfl ?_
              refine Go.pureS C (hw _ (List.mem_of_getElem? (i := 6) rfl)) (hw _ (List.mem_of_getElem? (i := 7) rfl)) (hw _ (List.mem_of_getElem? (i := 8) rfl)) (hw _ (List.mem_of_getElem? (i := 9) rfl)) (c_f_ok W.l Z a0 hw a676 (3 : Int32) (2 : Int32) (4 : Int32) v1 v674 h708 n0 (upd (upd (upd (upd (upd (upd (upd (upd (upd (upd (upd (upd (fun _ => (0 : Int32)) 0 (nar .byte v674)) 1 (nar .byte v674)) 2 (nar .byte v674)) 3 (nar .byte v674)) 4 (nar .byte v674)) 5 (nar .byte v674)) 6 (nar .byte v674)) 7 (nar .byte v674)) 2 (nar .byte (v1 ||| (128 : Int32)).toInt8.toInt32)) 3 (nar .byte (((v1.toUInt32 >>> ((7 : Int32) &&& 31).toUInt32).toInt32) ||| (128 : Int32)).toInt8.toInt32)) 4 (nar .byte (((((v1.toUInt32 >>> ((7 : Int32) &&& 31).toUInt32).toInt32).toUInt32 >>> ((7 : Int32) &&& 31).toUInt32).toInt32) ||| (128 : Int32)).toInt8.toInt32)) 5 (nar .byte ((((((v1.toUInt32 >>> ((7 : Int32) &&& 31).toUInt32).toInt32).toUInt32 >>> ((7 : Int32) &&& 31).toUInt32).toInt32).toUInt32 >>> ((7 : Int32) &&& 31).toUInt32).toInt32).toInt8.toInt32)) F716 F710 (by decide)) at_218 pd__40_91BIIIIB_41Z (q := 221) rfl rfl (argsL := [(.ref a676), (.int (3 : Int32)), (.int (2 : Int32)), (.int (4 : Int32)), (.int v1), (.int v674)]) (st := []) rfl rfl (w := 0) rfl (by decide) (by decide) (by decide) (by decide) (res := .int (f_ok (nar .byte (((v1.toUInt32 >>> ((7 : Int32) &&& 31).toUInt32).toInt32) ||| (128 : Int32)).toInt8.toInt32) (3 : Int32) (2 : Int32) (4 : Int32) v1 v674)) ?_
              refine Go.if0 C at_221 (z_eq _) (qt := 298) (q := 224) (by decide) (by decide) rfl (fun b722 => ?_) (fun b722 => ?_)
              ·
                refine Go.iconst C (0 : Int32) at_298 (q := 299) rfl rfl ?_
                exact J718 _ (by rw [if_neg b719, if_neg b720, if_neg b721, if_pos b722])
              ·
                refine Go.aload C at_224 (q := 226) rfl rfl rfl ?_
                refine Go.iconst C (4 : Int32) at_226 (q := 227) rfl rfl ?_
                refine Go.iload C at_227 (q := 229) rfl rfl ?_
                refine Go.iload C at_229 (q := 231) rfl rfl ?_
                refine Go.iload C at_231 (q := 233) rfl rfl ?_
                refine Go.iload C at_233 (q := 235) rfl rfl ?_
                refine Go.pureS C (hw _ (List.mem_of_getElem? (i := 6) rfl)) (hw _ (List.mem_of_getElem? (i := 7) rfl)) (hw _ (List.mem_of_getElem? (i := 8) rfl)) (hw _ (List.mem_of_getElem? (i := 9) rfl)) (c_f_ok W.l Z a0 hw a676 (4 : Int32) (2 : Int32) (4 : Int32) v1 v674 h708 n0 (upd (upd (upd (upd (upd (upd (upd (upd (upd (upd (upd (upd (fun _ => (0 : Int32)) 0 (nar .byte v674)) 1 (nar .byte v674)) 2 (nar .byte v674)) 3 (nar .byte v674)) 4 (nar .byte v674)) 5 (nar .byte v674)) 6 (nar .byte v674)) 7 (nar .byte v674)) 2 (nar .byte (v1 ||| (128 : Int32)).toInt8.toInt32)) 3 (nar .byte (((v1.toUInt32 >>> ((7 : Int32) &&& 31).toUInt32).toInt32) ||| (128 : Int32)).toInt8.toInt32)) 4 (nar .byte (((((v1.toUInt32 >>> ((7 : Int32) &&& 31).toUInt32).toInt32).toUInt32 >>> ((7 : Int32) &&& 31).toUInt32).toInt32) ||| (128 : Int32)).toInt8.toInt32)) 5 (nar .byte ((((((v1.toUInt32 >>> ((7 : Int32) &&& 31).toUInt32).toInt32).toUInt32 >>> ((7 : Int32) &&& 31).toUInt32).toInt32).toUInt32 >>> ((7 : Int32) &&& 31).toUInt32).toInt32).toInt8.toInt32)) F716 F710 (by decide)) at_235 pd__40_91BIIIIB_41Z (q := 238) rfl rfl (argsL := [(.ref a676), (.int (4 : Int32)), (.int (2 : Int32)), (.int (4 : Int32)), (.int v1), (.int v674)]) (st := []) rfl rfl (w := 0) rfl (by decide) (by decide) (by decide) (by decide) (res := .int (f_ok (nar .byte (((((v1.toUInt32 >>> ((7 : Int32) &&& 31).toUInt32).toInt32).toUInt32 >>> ((7 : Int32) &&& 31).toUInt32).toInt32) ||| (128 : Int32)).toInt8.toInt32) (4 : Int32) (2 : Int32) (4 : Int32) v1 v674)) ?_
                refine Go.if0 C at_238 (z_eq _) (qt := 298) (q := 241) (by decide) (by decide) rfl (fun b723 => ?_) (fun b723 => ?_)
                ·
                  refine Go.iconst C (0 : Int32) at_298 (q := 299) rfl rfl ?_
                  exact J718 _ (by rw [if_neg b719, if_neg b720, if_neg b721, if_neg b722, if_pos b723])
                ·
                  refine Go.aload C at_241 (q := 243) rfl rfl rfl ?_
                  refine Go.iconst C (5 : Int32) at_243 (q := 244) rfl rfl ?_
                  refine Go.iload C at_244 (q := 246) rfl rfl ?_
                  refine Go.iload C at_246 (q := 248) rfl rfl ?_
                  refine Go.iload C at_248 (q := 250) rfl rfl ?_
                  refine Go.iload C at_250 (q := 252) rfl rfl ?_
                  refine Go.pureS C (hw _ (List.mem_of_getElem? (i := 6) rfl)) (hw _ (List.mem_of_getElem? (i := 7) rfl)) (hw _ (List.mem_of_getElem? (i := 8) rfl)) (hw _ (List.mem_of_getElem? (i := 9) rfl)) (c_f_ok W.l Z a0 hw a676 (5 : Int32) (2 : Int32) (4 : Int32) v1 v674 h708 n0 (upd (upd (upd (upd (upd (upd (upd (upd (upd (upd (upd (upd (fun _ => (0 : Int32)) 0 (nar .byte v674)) 1 (nar .byte v674)) 2 (nar .byte v674)) 3 (nar .byte v674)) 4 (nar .byte v674)) 5 (nar .byte v674)) 6 (nar .byte v674)) 7 (nar .byte v674)) 2 (nar .byte (v1 ||| (128 : Int32)).toInt8.toInt32)) 3 (nar .byte (((v1.toUInt32 >>> ((7 : Int32) &&& 31).toUInt32).toInt32) ||| (128 : Int32)).toInt8.toInt32)) 4 (nar .byte (((((v1.toUInt32 >>> ((7 : Int32) &&& 31).toUInt32).toInt32).toUInt32 >>> ((7 : Int32) &&& 31).toUInt32).toInt32) ||| (128 : Int32)).toInt8.toInt32)) 5 (nar .byte ((((((v1.toUInt32 >>> ((7 : Int32) &&& 31).toUInt32).toInt32).toUInt32 >>> ((7 : Int32) &&& 31).toUInt32).toInt32).toUInt32 >>> ((7 : Int32) &&& 31).toUInt32).toInt32).toInt8.toInt32)) F716 F710 (by decide)) at_252 pd__40_91BIIIIB_41Z (q := 255) rfl rfl (argsL := [(.ref a676), (.int (5 : Int32)), (.int (2 : Int32)), (.int (4 : Int32)), (.int v1), (.int v674)]) (st := []) rfl rfl (w := 0) rfl (by decide) (by decide) (by decide) (by decide) (res := .int (f_ok (nar .byte ((((((v1.toUInt32 >>> ((7 : Int32) &&& 31).toUInt32).toInt32).toUInt32 >>> ((7 : Int32) &&& 31).toUInt32).toInt32).toUInt32 >>> ((7 : Int32) &&& 31).toUInt32).toInt32).toInt8.toInt32) (5 : Int32) (2 : Int32) (4 : Int32) v1 v674)) ?_
                  refine Go.if0 C at_255 (z_eq _) (qt := 298) (q := 258) (by decide) (by decide) rfl (fun b724 => ?_) (fun b724 => ?_)
                  ·
                    refine Go.iconst C (0 : Int32) at_298 (q := 299) rfl rfl ?_
                    exact J718 _ (by rw [if_neg b719, if_neg b720, if_neg b721, if_neg b722, if_neg b723, if_pos b724])
                  ·
                    refine Go.aload C at_258 (q := 260) rfl rfl rfl ?_
                    refine Go.bipush C (6 : Int32) at_260 (q := 262) rfl rfl ?_
                    refine Go.iload C at_262 (q := 264) rfl rfl ?_
                    refine Go.iload C at_264 (q := 266) rfl rfl ?_
                    refine Go.iload C at_266 (q := 268) rfl rfl ?_
                    refine Go.iload C at_268 (q := 270) rfl rfl ?_
                    refine Go.pureS C (hw _ (List.mem_of_getElem? (i := 6) rfl)) (hw _ (List.mem_of_getElem? (i := 7) rfl)) (hw _ (List.mem_of_getElem? (i := 8) rfl)) (hw _ (List.mem_of_getElem? (i := 9) rfl)) (c_f_ok W.l Z a0 hw a676 (6 : Int32) (2 : Int32) (4 : Int32) v1 v674 h708 n0 (upd (upd (upd (upd (upd (upd (upd (upd (upd (upd (upd (upd (fun _ => (0 : Int32)) 0 (nar .byte v674)) 1 (nar .byte v674)) 2 (nar .byte v674)) 3 (nar .byte v674)) 4 (nar .byte v674)) 5 (nar .byte v674)) 6 (nar .byte v674)) 7 (nar .byte v674)) 2 (nar .byte (v1 ||| (128 : Int32)).toInt8.toInt32)) 3 (nar .byte (((v1.toUInt32 >>> ((7 : Int32) &&& 31).toUInt32).toInt32) ||| (128 : Int32)).toInt8.toInt32)) 4 (nar .byte (((((v1.toUInt32 >>> ((7 : Int32) &&& 31).toUInt32).toInt32).toUInt32 >>> ((7 : Int32) &&& 31).toUInt32).toInt32) ||| (128 : Int32)).toInt8.toInt32)) 5 (nar .byte ((((((v1.toUInt32 >>> ((7 : Int32) &&& 31).toUInt32).toInt32).toUInt32 >>> ((7 : Int32) &&& 31).toUInt32).toInt32).toUInt32 >>> ((7 : Int32) &&& 31).toUInt32).toInt32).toInt8.toInt32)) F716 F710 (by decide)) at_270 pd__40_91BIIIIB_41Z (q := 273) rfl rfl (argsL := [(.ref a676), (.int (6 : Int32)), (.int (2 : Int32)), (.int (4 : Int32)), (.int v1), (.int v674)]) (st := []) rfl rfl (w := 0) rfl (by decide) (by decide) (by decide) (by decide) (res := .int (f_ok (nar .byte v674) (6 : Int32) (2 : Int32) (4 : Int32) v1 v674)) ?_
                    refine Go.if0 C at_273 (z_eq _) (qt := 298) (q := 276) (by decide) (by decide) rfl (fun b725 => ?_) (fun b725 => ?_)
                    ·
                      refine Go.iconst C (0 : Int32) at_298 (q := 299) rfl rfl ?_
                      exact J718 _ (by rw [if_neg b719, if_neg b720, if_neg b721, if_neg b722, if_neg b723, if_neg b724, if_pos b725])
                    ·
                      refine Go.aload C at_276 (q := 278) rfl rfl rfl ?_
                      refine Go.bipush C (7 : Int32) at_278 (q := 280) rfl rfl ?_
                      refine Go.iload C at_280 (q := 282) rfl rfl ?_
                      refine Go.iload C at_282 (q := 284) rfl rfl ?_
                      refine Go.iload C at_284 (q := 286) rfl rfl ?_
                      refine Go.iload C at_286 (q := 288) rfl rfl ?_
                      refine Go.pureS C (hw _ (List.mem_of_getElem? (i := 6) rfl)) (hw _ (List.mem_of_getElem? (i := 7) rfl)) (hw _ (List.mem_of_getElem? (i := 8) rfl)) (hw _ (List.mem_of_getElem? (i := 9) rfl)) (c_f_ok W.l Z a0 hw a676 (7 : Int32) (2 : Int32) (4 : Int32) v1 v674 h708 n0 (upd (upd (upd (upd (upd (upd (upd (upd (upd (upd (upd (upd (fun _ => (0 : Int32)) 0 (nar .byte v674)) 1 (nar .byte v674)) 2 (nar .byte v674)) 3 (nar .byte v674)) 4 (nar .byte v674)) 5 (nar .byte v674)) 6 (nar .byte v674)) 7 (nar .byte v674)) 2 (nar .byte (v1 ||| (128 : Int32)).toInt8.toInt32)) 3 (nar .byte (((v1.toUInt32 >>> ((7 : Int32) &&& 31).toUInt32).toInt32) ||| (128 : Int32)).toInt8.toInt32)) 4 (nar .byte (((((v1.toUInt32 >>> ((7 : Int32) &&& 31).toUInt32).toInt32).toUInt32 >>> ((7 : Int32) &&& 31).toUInt32).toInt32) ||| (128 : Int32)).toInt8.toInt32)) 5 (nar .byte ((((((v1.toUInt32 >>> ((7 : Int32) &&& 31).toUInt32).toInt32).toUInt32 >>> ((7 : Int32) &&& 31).toUInt32).toInt32).toUInt32 >>> ((7 : Int32) &&& 31).toUInt32).toInt32).toInt8.toInt32)) F716 F710 (by decide)) at_288 pd__40_91BIIIIB_41Z (q := 291) rfl rfl (argsL := [(.ref a676), (.int (7 : Int32)), (.int (2 : Int32)), (.int (4 : Int32)), (.int v1), (.int v674)]) (st := []) rfl rfl (w := 0) rfl (by decide) (by decide) (by decide) (by decide) (res := .int (f_ok (nar .byte v674) (7 : Int32) (2 : Int32) (4 : Int32) v1 v674)) ?_
                      refine Go.if0 C at_291 (z_eq _) (qt := 298) (q := 294) (by decide) (by decide) rfl (fun b726 => ?_) (fun b726 => ?_)
                      ·
                        refine Go.iconst C (0 : Int32) at_298 (q := 299) rfl rfl ?_
                        exact J718 _ (by rw [if_neg b719, if_neg b720, if_neg b721, if_neg b722, if_neg b723, if_neg b724, if_neg b725, if_pos b726])
                      ·
                        refine Go.iconst C (1 : Int32) at_294 (q := 295) rfl rfl ?_
                        refine Go.goto C at_295 (q := 299) (by decide) (by decide) ?_
                        exact J718 _ (by rw [if_neg b719, if_neg b720, if_neg b721, if_neg b722, if_neg b723, if_neg b724, if_neg b725, if_neg b726])
      intro v717 hv717
      exact Go.retZ (t := .boolean) (by simp) C at_299 (by decide) (by decide) (congrArg (fun z => some (Value.int z)) (fin13 p0 p1 p2 p3 v1 hv1  hv2  w0  w1  w2  w3 v674 hv674 v717 hv717))
    ·
      refine Go.istore C at_18 (q := 20) rfl (fun z => #[.val (.int p0), .val (.int p1), .val (.int p2), .val (.int p3), .val (.int v1), .val (.int (2 : Int32)), .val (.int z), .unset, .unset, .unset]) (fun _ => rfl) ?_
      intro v727 hv727
      refine Go.bipush C (8 : Int32) at_20 (q := 22) rfl rfl ?_
      refine Go.newP C (hw _ (List.mem_of_getElem? (i := 1) rfl)) (by decide) (cap := 8) (by decide) (by decide) at_22 (q := 24) rfl (k' := 1) rfl (n' := 8) rfl (by decide) (by decide) ?_
      intro h728 a729 cA730 g731 E732 Fn733
      have g735 : n0 ≤ a729 := g731 ▸ Z0
      have F734 : Av Z h728 a729 .byte 8 (iF (fun _ => (0 : Int32))) := Av.of Fn733
      refine Go.astore C at_24 (q := 26) rfl (l' := #[.val (.int p0), .val (.int p1), .val (.int p2), .val (.int p3), .val (.int v1), .val (.int (2 : Int32)), .val (.int v727), .val (.ref a729), .unset, .unset]) rfl rfl ?_
      refine Go.aload C at_26 (q := 28) rfl rfl rfl ?_
      refine Go.iconst C (0 : Int32) at_28 (q := 29) rfl rfl ?_
      refine Go.iload C at_29 (q := 31) rfl rfl ?_
      refine Go.bastore C F734 0 (by decide) (by decide) (by decide) g735 at_31 (q := 32) rfl ?_
      intro h736 W737
      have F738 := F734.sameI W737
      refine Go.aload C at_32 (q := 34) rfl rfl rfl ?_
      refine Go.iconst C (1 : Int32) at_34 (q := 35) rfl rfl ?_
      refine Go.iload C at_35 (q := 37) rfl rfl ?_
      refine Go.bastore C F738 1 (by decide) (by decide) (by decide) g735 at_37 (q := 38) rfl ?_
      intro h739 W740
      have F741 := F738.sameI W740
      refine Go.aload C at_38 (q := 40) rfl rfl rfl ?_
      refine Go.iconst C (2 : Int32) at_40 (q := 41) rfl rfl ?_
      refine Go.iload C at_41 (q := 43) rfl rfl ?_
      refine Go.bastore C F741 2 (by decide) (by decide) (by decide) g735 at_43 (q := 44) rfl ?_
      intro h742 W743
      have F744 := F741.sameI W743
      refine Go.aload C at_44 (q := 46) rfl rfl rfl ?_
      refine Go.iconst C (3 : Int32) at_46 (q := 47) rfl rfl ?_
      refine Go.iload C at_47 (q := 49) rfl rfl ?_
      refine Go.bastore C F744 3 (by decide) (by decide) (by decide) g735 at_49 (q := 50) rfl ?_
      intro h745 W746
      have F747 := F744.sameI W746
      refine Go.aload C at_50 (q := 52) rfl rfl rfl ?_
      refine Go.iconst C (4 : Int32) at_52 (q := 53) rfl rfl ?_
      refine Go.iload C at_53 (q := 55) rfl rfl ?_
      refine Go.bastore C F747 4 (by decide) (by decide) (by decide) g735 at_55 (q := 56) rfl ?_
      intro h748 W749
      have F750 := F747.sameI W749
      refine Go.aload C at_56 (q := 58) rfl rfl rfl ?_
      refine Go.iconst C (5 : Int32) at_58 (q := 59) rfl rfl ?_
      refine Go.iload C at_59 (q := 61) rfl rfl ?_
      refine Go.bastore C F750 5 (by decide) (by decide) (by decide) g735 at_61 (q := 62) rfl ?_
      intro h751 W752
      have F753 := F750.sameI W752
      refine Go.aload C at_62 (q := 64) rfl rfl rfl ?_
      refine Go.bipush C (6 : Int32) at_64 (q := 66) rfl rfl ?_
      refine Go.iload C at_66 (q := 68) rfl rfl ?_
      refine Go.bastore C F753 6 (by decide) (by decide) (by decide) g735 at_68 (q := 69) rfl ?_
      intro h754 W755
      have F756 := F753.sameI W755
      refine Go.aload C at_69 (q := 71) rfl rfl rfl ?_
      refine Go.bipush C (7 : Int32) at_71 (q := 73) rfl rfl ?_
      refine Go.iload C at_73 (q := 75) rfl rfl ?_
      refine Go.bastore C F756 7 (by decide) (by decide) (by decide) g735 at_75 (q := 76) rfl ?_
      intro h757 W758
      have F759 := F756.sameI W758
      refine Go.aload C at_76 (q := 78) rfl rfl rfl ?_
      refine Go.iload C at_78 (q := 80) rfl rfl ?_
      refine Go.iload C at_80 (q := 82) rfl rfl ?_
      have F760 := (Nat.le_trans (Nat.le_trans (Nat.le_trans (Nat.le_trans (Nat.le_trans (Nat.le_trans (Nat.le_trans (Nat.le_trans (Nat.le_trans Z0 E732.1) (Nat.le_of_eq W737.size.symm)) (Nat.le_of_eq W740.size.symm)) (Nat.le_of_eq W743.size.symm)) (Nat.le_of_eq W746.size.symm)) (Nat.le_of_eq W749.size.symm)) (Nat.le_of_eq W752.size.symm)) (Nat.le_of_eq W755.size.symm)) (Nat.le_of_eq W758.size.symm))
      refine Go.callS C (hw _ (List.mem_of_getElem? (i := 2) rfl)) (hw _ (List.mem_of_getElem? (i := 3) rfl)) (hw _ (List.mem_of_getElem? (i := 4) rfl)) (hw _ (List.mem_of_getElem? (i := 5) rfl)) (c_put2_5 W.l Z a0 hw a729 v1 h757 n0 (upd (upd (upd (upd (upd (upd (upd (upd (fun _ => (0 : Int32)) 0 (nar .byte v727)) 1 (nar .byte v727)) 2 (nar .byte v727)) 3 (nar .byte v727)) 4 (nar .byte v727)) 5 (nar .byte v727)) 6 (nar .byte v727)) 7 (nar .byte v727)) F760 F759 g735 w0 w1 w2 w3 w4) at_82 pd__40_91BII_41I (q := 85) rfl rfl (argsL := [(.ref a729), (.int (2 : Int32)), (.int v1)]) (st := []) rfl rfl (w := 0) rfl (by decide) (by decide) (k' := 1) rfl (n' := 8) rfl (by decide) (by decide) ?_
      intro v h761 q
      obtain ⟨rfl, K762, F763⟩ := q
      show Go W n0 QL h761 1 8 85 #[.val (.int p0), .val (.int p1), .val (.int p2), .val (.int p3), .val (.int v1), .val (.int (2 : Int32)), .val (.int v727), .val (.ref a729), .unset, .unset] [(.int (7 : Int32))]
      refine Go.istoreR C at_85 (q := 87) rfl (l' := #[.val (.int p0), .val (.int p1), .val (.int p2), .val (.int p3), .val (.int v1), .val (.int (2 : Int32)), .val (.int v727), .val (.ref a729), .val (.int (7 : Int32)), .unset]) rfl ?_
      refine Go.iload C at_87 (q := 89) rfl rfl ?_
      refine Go.sipush C (128 : Int32) at_89 (q := 92) rfl rfl ?_
      refine Go.icmp C at_92 (n_ge _ _) (qt := 101) (q := 95) (by decide) (by decide) rfl (fun _ => ?_) (fun b764 => absurd t0 b764)
      refine Go.iload C at_101 (q := 103) rfl rfl ?_
      refine Go.sipush C (16384 : Int32) at_103 (q := 106) rfl rfl ?_
      refine Go.icmp C at_106 (n_ge _ _) (qt := 115) (q := 109) (by decide) (by decide) rfl (fun _ => ?_) (fun b765 => absurd t1 b765)
      refine Go.iload C at_115 (q := 117) rfl rfl ?_
      refine Go.ldcI C (hw _ (List.mem_of_getElem? (i := 10) rfl)) at_117 (q := 119) rfl ?_
      refine Go.icmp C at_119 (n_ge _ _) (qt := 128) (q := 122) (by decide) (by decide) rfl (fun _ => ?_) (fun b766 => absurd t2 b766)
      refine Go.iload C at_128 (q := 130) rfl rfl ?_
      refine Go.ldcI C (hw _ (List.mem_of_getElem? (i := 11) rfl)) at_130 (q := 132) rfl ?_
      refine Go.icmp C at_132 (n_ge _ _) (qt := 141) (q := 135) (by decide) (by decide) rfl (fun _ => ?_) (fun b767 => absurd t3 b767)
      refine Go.iconst C (5 : Int32) at_141 (q := 142) rfl rfl ?_
      refine Go.istoreR C at_142 (q := 144) rfl (l' := #[.val (.int p0), .val (.int p1), .val (.int p2), .val (.int p3), .val (.int v1), .val (.int (2 : Int32)), .val (.int v727), .val (.ref a729), .val (.int (7 : Int32)), .val (.int (5 : Int32))]) rfl ?_
      refine Go.iload C at_144 (q := 146) rfl rfl ?_
      refine Go.iload C at_146 (q := 148) rfl rfl ?_
      refine Go.iload C at_148 (q := 150) rfl rfl ?_
      refine Go.iadd C at_150 (q := 151) rfl ?_
      refine Go.icmp C at_151 (n_eq _ _) (qt := 156) (q := 154) (by decide) (by decide) rfl (fun _ => ?_) (fun b768 => absurd b768 (by decide))
      refine Go.aload C at_156 (q := 158) rfl rfl rfl ?_
      refine Go.iconst C (0 : Int32) at_158 (q := 159) rfl rfl ?_
      refine Go.iload C at_159 (q := 161) rfl rfl ?_
      refine Go.iload C at_161 (q := 163) rfl rfl ?_
      refine Go.iload C at_163 (q := 165) rfl rfl ?_
      refine Go.iload C at_165 (q := 167) rfl rfl ?_
      have F769 := (Nat.le_trans F760 K762.1)
      refine Go.pureS C (hw _ (List.mem_of_getElem? (i := 6) rfl)) (hw _ (List.mem_of_getElem? (i := 7) rfl)) (hw _ (List.mem_of_getElem? (i := 8) rfl)) (hw _ (List.mem_of_getElem? (i := 9) rfl)) (c_f_ok W.l Z a0 hw a729 (0 : Int32) (2 : Int32) (5 : Int32) v1 v727 h761 n0 (upd (upd (upd (upd (upd (upd (upd (upd (upd (upd (upd (upd (upd (fun _ => (0 : Int32)) 0 (nar .byte v727)) 1 (nar .byte v727)) 2 (nar .byte v727)) 3 (nar .byte v727)) 4 (nar .byte v727)) 5 (nar .byte v727)) 6 (nar .byte v727)) 7 (nar .byte v727)) 2 (nar .byte (v1 ||| (128 : Int32)).toInt8.toInt32)) 3 (nar .byte (((v1.toUInt32 >>> ((7 : Int32) &&& 31).toUInt32).toInt32) ||| (128 : Int32)).toInt8.toInt32)) 4 (nar .byte (((((v1.toUInt32 >>> ((7 : Int32) &&& 31).toUInt32).toInt32).toUInt32 >>> ((7 : Int32) &&& 31).toUInt32).toInt32) ||| (128 : Int32)).toInt8.toInt32)) 5 (nar .byte (((((((v1.toUInt32 >>> ((7 : Int32) &&& 31).toUInt32).toInt32).toUInt32 >>> ((7 : Int32) &&& 31).toUInt32).toInt32).toUInt32 >>> ((7 : Int32) &&& 31).toUInt32).toInt32) ||| (128 : Int32)).toInt8.toInt32)) 6 (nar .byte ((((((((v1.toUInt32 >>> ((7 : Int32) &&& 31).toUInt32).toInt32).toUInt32 >>> ((7 : Int32) &&& 31).toUInt32).toInt32).toUInt32 >>> ((7 : Int32) &&& 31).toUInt32).toInt32).toUInt32 >>> ((7 : Int32) &&& 31).toUInt32).toInt32).toInt8.toInt32)) F769 F763 (by decide)) at_167 pd__40_91BIIIIB_41Z (q := 170) rfl rfl (argsL := [(.ref a729), (.int (0 : Int32)), (.int (2 : Int32)), (.int (5 : Int32)), (.int v1), (.int v727)]) (st := []) rfl rfl (w := 0) rfl (by decide) (by decide) (by decide) (by decide) (res := .int (f_ok (nar .byte v727) (0 : Int32) (2 : Int32) (5 : Int32) v1 v727)) ?_
      suffices J771 : ∀ v770 : Int32, v770 = (if (f_ok (nar .byte v727) (0 : Int32) (2 : Int32) (5 : Int32) v1 v727) = (0 : Int32) then (0 : Int32) else (if (f_ok (nar .byte v727) (1 : Int32) (2 : Int32) (5 : Int32) v1 v727) = (0 : Int32) then (0 : Int32) else (if (f_ok (nar .byte (v1 ||| (128 : Int32)).toInt8.toInt32) (2 : Int32) (2 : Int32) (5 : Int32) v1 v727) = (0 : Int32) then (0 : Int32) else (if (f_ok (nar .byte (((v1.toUInt32 >>> ((7 : Int32) &&& 31).toUInt32).toInt32) ||| (128 : Int32)).toInt8.toInt32) (3 : Int32) (2 : Int32) (5 : Int32) v1 v727) = (0 : Int32) then (0 : Int32) else (if (f_ok (nar .byte (((((v1.toUInt32 >>> ((7 : Int32) &&& 31).toUInt32).toInt32).toUInt32 >>> ((7 : Int32) &&& 31).toUInt32).toInt32) ||| (128 : Int32)).toInt8.toInt32) (4 : Int32) (2 : Int32) (5 : Int32) v1 v727) = (0 : Int32) then (0 : Int32) else (if (f_ok (nar .byte (((((((v1.toUInt32 >>> ((7 : Int32) &&& 31).toUInt32).toInt32).toUInt32 >>> ((7 : Int32) &&& 31).toUInt32).toInt32).toUInt32 >>> ((7 : Int32) &&& 31).toUInt32).toInt32) ||| (128 : Int32)).toInt8.toInt32) (5 : Int32) (2 : Int32) (5 : Int32) v1 v727) = (0 : Int32) then (0 : Int32) else (if (f_ok (nar .byte ((((((((v1.toUInt32 >>> ((7 : Int32) &&& 31).toUInt32).toInt32).toUInt32 >>> ((7 : Int32) &&& 31).toUInt32).toInt32).toUInt32 >>> ((7 : Int32) &&& 31).toUInt32).toInt32).toUInt32 >>> ((7 : Int32) &&& 31).toUInt32).toInt32).toInt8.toInt32) (6 : Int32) (2 : Int32) (5 : Int32) v1 v727) = (0 : Int32) then (0 : Int32) else (if (f_ok (nar .byte v727) (7 : Int32) (2 : Int32) (5 : Int32) v1 v727) = (0 : Int32) then (0 : Int32) else (1 : Int32))))))))) → Go W n0 QL h761 1 8 299 #[.val (.int p0), .val (.int p1), .val (.int p2), .val (.int p3), .val (.int v1), .val (.int (2 : Int32)), .val (.int v727), .val (.ref a729), .val (.int (7 : Int32)), .val (.int (5 : Int32))] [(.int v770)] by
        refine Go.if0 C at_170 (z_eq _) (qt := 298) (q := 173) (by decide) (by decide) rfl (fun b772 => ?_) (fun b772 => ?_)
        ·
          refine Go.iconst C (0 : Int32) at_298 (q := 299) rfl rfl ?_
          exact J771 _ (by rw [if_pos b772])
        ·
          refine Go.aload C at_173 (q := 175) rfl rfl rfl ?_
          refine Go.iconst C (1 : Int32) at_175 (q := 176) rfl rfl ?_
          refine Go.iload C at_176 (q := 178) rfl rfl ?_
          refine Go.iload C at_178 (q := 180) rfl rfl ?_
          refine Go.iload C at_180 (q := 182) rfl rfl ?_
          refine Go.iload C at_182 (q := 184) rfl rfl ?_
          refine Go.pureS C (hw _ (List.mem_of_getElem? (i := 6) rfl)) (hw _ (List.mem_of_getElem? (i := 7) rfl)) (hw _ (List.mem_of_getElem? (i := 8) rfl)) (hw _ (List.mem_of_getElem? (i := 9) rfl)) (c_f_ok W.l Z a0 hw a729 (1 : Int32) (2 : Int32) (5 : Int32) v1 v727 h761 n0 (upd (upd (upd (upd (upd (upd (upd (upd (upd (upd (upd (upd (upd (fun _ => (0 : Int32)) 0 (nar .byte v727)) 1 (nar .byte v727)) 2 (nar .byte v727)) 3 (nar .byte v727)) 4 (nar .byte v727)) 5 (nar .byte v727)) 6 (nar .byte v727)) 7 (nar .byte v727)) 2 (nar .byte (v1 ||| (128 : Int32)).toInt8.toInt32)) 3 (nar .byte (((v1.toUInt32 >>> ((7 : Int32) &&& 31).toUInt32).toInt32) ||| (128 : Int32)).toInt8.toInt32)) 4 (nar .byte (((((v1.toUInt32 >>> ((7 : Int32) &&& 31).toUInt32).toInt32).toUInt32 >>> ((7 : Int32) &&& 31).toUInt32).toInt32) ||| (128 : Int32)).toInt8.toInt32)) 5 (nar .byte (((((((v1.toUInt32 >>> ((7 : Int32) &&& 31).toUInt32).toInt32).toUInt32 >>> ((7 : Int32) &&& 31).toUInt32).toInt32).toUInt32 >>> ((7 : Int32) &&& 31).toUInt32).toInt32) ||| (128 : Int32)).toInt8.toInt32)) 6 (nar .byte ((((((((v1.toUInt32 >>> ((7 : Int32) &&& 31).toUInt32).toInt32).toUInt32 >>> ((7 : Int32) &&& 31).toUInt32).toInt32).toUInt32 >>> ((7 : Int32) &&& 31).toUInt32).toInt32).toUInt32 >>> ((7 : Int32) &&& 31).toUInt32).toInt32).toInt8.toInt32)) F769 F763 (by decide)) at_184 pd__40_91BIIIIB_41Z (q := 187) rfl rfl (argsL := [(.ref a729), (.int (1 : Int32)), (.int (2 : Int32)), (.int (5 : Int32)), (.int v1), (.int v727)]) (st := []) rfl rfl (w := 0) rfl (by decide) (by decide) (by decide) (by decide) (res := .int (f_ok (nar .byte v727) (1 : Int32) (2 : Int32) (5 : Int32) v1 v727)) ?_
          refine Go.if0 C at_187 (z_eq _) (qt := 298) (q := 190) (by decide) (by decide) rfl (fun b773 => ?_) (fun b773 => ?_)
          ·
            refine Go.iconst C (0 : Int32) at_298 (q := 299) rfl rfl ?_
            exact J771 _ (by rw [if_neg b772, if_pos b773])
          ·
            refine Go.aload C at_190 (q := 192) rfl rfl rfl ?_
            refine Go.iconst C (2 : Int32) at_192 (q := 193) rfl rfl ?_
            refine Go.iload C at_193 (q := 195) rfl rfl ?_
            refine Go.iload C at_195 (q := 197) rfl rfl ?_
            refine Go.iload C at_197 (q := 199) rfl rfl ?_
            refine Go.iload C at_199 (q := 201) rfl rfl ?_
            refine Go.pureS C (hw _ (List.mem_of_getElem? (i := 6) rfl)) (hw _ (List.mem_of_getElem? (i := 7) rfl)) (hw _ (List.mem_of_getElem? (i := 8) rfl)) (hw _ (List.mem_of_getElem? (i := 9) rfl)) (c_f_ok W.l Z a0 hw a729 (2 : Int32) (2 : Int32) (5 : Int32) v1 v727 h761 n0 (upd (upd (upd (upd (upd (upd (upd (upd (upd (upd (upd (upd (upd (fun _ => (0 : Int32)) 0 (nar .byte v727)) 1 (nar .byte v727)) 2 (nar .byte v727)) 3 (nar .byte v727)) 4 (nar .byte v727)) 5 (nar .byte v727)) 6 (nar .byte v727)) 7 (nar .byte v727)) 2 (nar .byte (v1 ||| (128 : Int32)).toInt8.toInt32)) 3 (nar .byte (((v1.toUInt32 >>> ((7 : Int32) &&& 31).toUInt32).toInt32) ||| (128 : Int32)).toInt8.toInt32)) 4 (nar .byte (((((v1.toUInt32 >>> ((7 : Int32) &&& 31).toUInt32).toInt32).toUInt32 >>> ((7 : Int32) &&& 31).toUInt32).toInt32) ||| (128 : Int32)).toInt8.toInt32)) 5 (nar .byte (((((((v1.toUInt32 >>> ((7 : Int32) &&& 31).toUInt32).toInt32).toUInt32 >>> ((7 : Int32) &&& 31).toUInt32).toInt32).toUInt32 >>> ((7 : Int32) &&& 31).toUInt32).toInt32) ||| (128 : Int32)).toInt8.toInt32)) 6 (nar .byte ((((((((v1.toUInt32 >>> ((7 : Int32) &&& 31).toUInt32).toInt32).toUInt32 >>> ((7 : Int32) &&& 31).toUInt32).toInt32).toUInt32 >>> ((7 : Int32) &&& 31).toUInt32).toInt32).toUInt32 >>> ((7 : Int32) &&& 31).toUInt32).toInt32).toInt8.toInt32)) F769 F763 (by decide)) at_201 pd__40_91BIIIIB_41Z (q := 204) rfl rfl (argsL := [(.ref a729), (.int (2 : Int32)), (.int (2 : Int32)), (.int (5 : Int32)), (.int v1), (.int v727)]) (st := []) rfl rfl (w := 0) rfl (by decide) (by decide) (by decide) (by decide) (res := .int (f_ok (nar .byte (v1 ||| (128 : Int32)).toInt8.toInt32) (2 : Int32) (2 : Int32) (5 : Int32) v1 v727)) ?_
            refine Go.if0 C at_204 (z_eq _) (qt := 298) (q := 207) (by decide) (by decide) rfl (fun b774 => ?_) (fun b774 => ?_)
            ·
              refine Go.iconst C (0 : Int32) at_298 (q := 299) rfl rfl ?_
              exact J771 _ (by rw [if_neg b772, if_neg b773, if_pos b774])
            ·
              refine Go.aload C at_207 (q := 209) rfl rfl rfl ?_
              refine Go.iconst C (3 : Int32) at_209 (q := 210) rfl rfl ?_
              refine Go.iload C at_210 (q := 212) rfl rfl ?_
              refine Go.iload C at_212 (q := 214) rfl rfl ?_
              refine Go.iload C at_214 (q := 216) rfl rfl ?_
              refine Go.iload C at_216 (q := 218) rfl rfl ?_
              refine Go.pureS C (hw _ (List.mem_of_getElem? (i := 6) rfl)) (hw _ (List.mem_of_getElem? (i := 7) rfl)) (hw _ (List.mem_of_getElem? (i := 8) rfl)) (hw _ (List.mem_of_getElem? (i := 9) rfl)) (c_f_ok W.l Z a0 hw a729 (3 : Int32) (2 : Int32) (5 : Int32) v1 v727 h761 n0 (upd (upd (upd (upd (upd (upd (upd (upd (upd (upd (upd (upd (upd (fun _ => (0 : Int32)) 0 (nar .byte v727)) 1 (nar .byte v727)) 2 (nar .byte v727)) 3 (nar .byte v727)) 4 (nar .byte v727)) 5 (nar .byte v727)) 6 (nar .byte v727)) 7 (nar .byte v727)) 2 (nar .byte (v1 ||| (128 : Int32)).toInt8.toInt32)) 3 (nar .byte (((v1.toUInt32 >>> ((7 : Int32) &&& 31).toUInt32).toInt32) ||| (128 : Int32)).toInt8.toInt32)) 4 (nar .byte (((((v1.toUInt32 >>> ((7 : Int32) &&& 31).toUInt32).toInt32).toUInt32 >>> ((7 : Int32) &&& 31).toUInt32).toInt32) ||| (128 : Int32)).toInt8.toInt32)) 5 (nar .byte (((((((v1.toUInt32 >>> ((7 : Int32) &&& 31).toUInt32).toInt32).toUInt32 >>> ((7 : Int32) &&& 31).toUInt32).toInt32).toUInt32 >>> ((7 : Int32) &&& 31).toUInt32).toInt32) ||| (128 : Int32)).toInt8.toInt32)) 6 (nar .byte ((((((((v1.toUInt32 >>> ((7 : Int32) &&& 31).toUInt32).toInt32).toUInt32 >>> ((7 : Int32) &&& 31).toUInt32).toInt32).toUInt32 >>> ((7 : Int32) &&& 31).toUInt32).toInt32).toUInt32 >>> ((7 : Int32) &&& 31).toUInt32).toInt32).toInt8.toInt32)) F769 F763 (by decide)) at_218 pd__40_91BIIIIB_41Z (q := 221) rfl rfl (argsL := [(.ref a729), (.int (3 : Int32)), (.int (2 : Int32)), (.int (5 : Int32)), (.int v1), (.int v727)]) (st := []) rfl rfl (w := 0) rfl (by decide) (by decide) (by decide) (by decide) (res := .int (f_ok (nar .byte (((v1.toUInt32 >>> ((7 : Int32) &&& 31).toUInt32).toInt32) ||| (128 : Int32)).toInt8.toInt32) (3 : Int32) (2 : Int32) (5 : Int32) v1 v727)) ?_
              refine Go.if0 C at_221 (z_eq _) (qt := 298) (q := 224) (by decide) (by decide) rfl (fun b775 => ?_) (fun b775 => ?_)
              ·
                refine Go.iconst C (0 : Int32) at_298 (q := 299) rfl rfl ?_
                exact J771 _ (by rw [if_neg b772, if_neg b773, if_neg b774, if_pos b775])
              ·
                refine Go.aload C at_224 (q := 226) rfl rfl rfl ?_
                refine Go.iconst C (4 : Int32) at_226 (q := 227) rfl rfl ?_
                refine Go.iload C at_227 (q := 229) rfl rfl ?_
                refine Go.iload C at_229 (q := 231) rfl rfl ?_
                refine Go.iload C at_231 (q := 233) rfl rfl ?_
                refine Go.iload C at_233 (q := 235) rfl rfl ?_
                refine Go.pureS C (hw _ (List.mem_of_getElem? (i := 6) rfl)) (hw _ (List.mem_of_getElem? (i := 7) rfl)) (hw _ (List.mem_of_getElem? (i := 8) rfl)) (hw _ (List.mem_of_getElem? (i := 9) rfl)) (c_f_ok W.l Z a0 hw a729 (4 : Int32) (2 : Int32) (5 : Int32) v1 v727 h761 n0 (upd (upd (upd (upd (upd (upd (upd (upd (upd (upd (upd (upd (upd (fun _ => (0 : Int32)) 0 (nar .byte v727)) 1 (nar .byte v727)) 2 (nar .byte v727)) 3 (nar .byte v727)) 4 (nar .byte v727)) 5 (nar .byte v727)) 6 (nar .byte v727)) 7 (nar .byte v727)) 2 (nar .byte (v1 ||| (128 : Int32)).toInt8.toInt32)) 3 (nar .byte (((v1.toUInt32 >>> ((7 : Int32) &&& 31).toUInt32).toInt32) ||| (128 : Int32)).toInt8.toInt32)) 4 (nar .byte (((((v1.toUInt32 >>> ((7 : Int32) &&& 31).toUInt32).toInt32).toUInt32 >>> ((7 : Int32) &&& 31).toUInt32).toInt32) ||| (128 : Int32)).toInt8.toInt32)) 5 (nar .byte (((((((v1.toUInt32 >>> ((7 : Int32) &&& 31).toUInt32).toInt32).toUInt32 >>> ((7 : Int32) &&& 31).toUInt32).toInt32).toUInt32 >>> ((7 : Int32) &&& 31).toUInt32).toInt32) ||| (128 : Int32)).toInt8.toInt32)) 6 (nar .byte ((((((((v1.toUInt32 >>> ((7 : Int32) &&& 31).toUInt32).toInt32).toUInt32 >>> ((7 : Int32) &&& 31).toUInt32).toInt32).toUInt32 >>> ((7 : Int32) &&& 31).toUInt32).toInt32).toUInt32 >>> ((7 : Int32) &&& 31).toUInt32).toInt32).toInt8.toInt32)) F769 F763 (by decide)) at_235 pd__40_91BIIIIB_41Z (q := 238) rfl rfl (argsL := [(.ref a729), (.int (4 : Int32)), (.int (2 : Int32)), (.int (5 : Int32)), (.int v1), (.int v727)]) (st := []) rfl rfl (w := 0) rfl (by decide) (by decide) (by decide) (by decide) (res := .int (f_ok (nar .byte (((((v1.toUInt32 >>> ((7 : Int32) &&& 31).toUInt32).toInt32).toUInt32 >>> ((7 : Int32) &&& 31).toUInt32).toInt32) ||| (128 : Int32)).toInt8.toInt32) (4 : Int32) (2 : Int32) (5 : Int32) v1 v727)) ?_
                refine Go.if0 C at_238 (z_eq _) (qt := 298) (q := 241) (by decide) (by decide) rfl (fun b776 => ?_) (fun b776 => ?_)
                ·
                  refine Go.iconst C (0 : Int32) at_298 (q := 299) rfl rfl ?_
                  exact J771 _ (by rw [if_neg b772, if_neg b773, if_neg b774, if_neg b775, if_pos b776])
                ·
                  refine Go.aload C at_241 (q := 243) rfl rfl rfl ?_
                  refine Go.iconst C (5 : Int32) at_243 (q := 244) rfl rfl ?_
                  refine Go.iload C at_244 (q := 246) rfl rfl ?_
                  refine Go.iload C at_246 (q := 248) rfl rfl ?_
                  refine Go.iload C at_248 (q := 250) rfl rfl ?_
                  refine Go.iload C at_250 (q := 252) rfl rfl ?_
                  refine Go.pureS C (hw _ (List.mem_of_getElem? (i := 6) rfl)) (hw _ (List.mem_of_getElem? (i := 7) rfl)) (hw _ (List.mem_of_getElem? (i := 8) rfl)) (hw _ (List.mem_of_getElem? (i := 9) rfl)) (c_f_ok W.l Z a0 hw a729 (5 : Int32) (2 : Int32) (5 : Int32) v1 v727 h761 n0 (upd (upd (upd (upd (upd (upd (upd (upd (upd (upd (upd (upd (upd (fun _ => (0 : Int32)) 0 (nar .byte v727)) 1 (nar .byte v727)) 2 (nar .byte v727)) 3 (nar .byte v727)) 4 (nar .byte v727)) 5 (nar .byte v727)) 6 (nar .byte v727)) 7 (nar .byte v727)) 2 (nar .byte (v1 ||| (128 : Int32)).toInt8.toInt32)) 3 (nar .byte (((v1.toUInt32 >>> ((7 : Int32) &&& 31).toUInt32).toInt32) ||| (128 : Int32)).toInt8.toInt32)) 4 (nar .byte (((((v1.toUInt32 >>> ((7 : Int32) &&& 31).toUInt32).toInt32).toUInt32 >>> ((7 : Int32) &&& 31).toUInt32).toInt32) ||| (128 : Int32)).toInt8.toInt32)) 5 (nar .byte (((((((v1.toUInt32 >>> ((7 : Int32) &&& 31).toUInt32).toInt32).toUInt32 >>> ((7 : Int32) &&& 31).toUInt32).toInt32).toUInt32 >>> ((7 : Int32) &&& 31).toUInt32).toInt32) ||| (128 : Int32)).toInt8.toInt32)) 6 (nar .byte ((((((((v1.toUInt32 >>> ((7 : Int32) &&& 31).toUInt32).toInt32).toUInt32 >>> ((7 : Int32) &&& 31).toUInt32).toInt32).toUInt32 >>> ((7 : Int32) &&& 31).toUInt32).toInt32).toUInt32 >>> ((7 : Int32) &&& 31).toUInt32).toInt32).toInt8.toInt32)) F769 F763 (by decide)) at_252 pd__40_91BIIIIB_41Z (q := 255) rfl rfl (argsL := [(.ref a729), (.int (5 : Int32)), (.int (2 : Int32)), (.int (5 : Int32)), (.int v1), (.int v727)]) (st := []) rfl rfl (w := 0) rfl (by decide) (by decide) (by decide) (by decide) (res := .int (f_ok (nar .byte (((((((v1.toUInt32 >>> ((7 : Int32) &&& 31).toUInt32).toInt32).toUInt32 >>> ((7 : Int32) &&& 31).toUInt32).toInt32).toUInt32 >>> ((7 : Int32) &&& 31).toUInt32).toInt32) ||| (128 : Int32)).toInt8.toInt32) (5 : Int32) (2 : Int32) (5 : Int32) v1 v727)) ?_
                  refine Go.if0 C at_255 (z_eq _) (qt := 298) (q := 258) (by decide) (by decide) rfl (fun b777 => ?_) (fun b777 => ?_)
                  ·
                    refine Go.iconst C (0 : Int32) at_298 (q := 299) rfl rfl ?_
                    exact J771 _ (by rw [if_neg b772, if_neg b773, if_neg b774, if_neg b775, if_neg b776, if_pos b777])
                  ·
                    refine Go.aload C at_258 (q := 260) rfl rfl rfl ?_
                    refine Go.bipush C (6 : Int32) at_260 (q := 262) rfl rfl ?_
                    refine Go.iload C at_262 (q := 264) rfl rfl ?_
                    refine Go.iload C at_264 (q := 266) rfl rfl ?_
                    refine Go.iload C at_266 (q := 268) rfl rfl ?_
                    refine Go.iload C at_268 (q := 270) rfl rfl ?_
                    refine Go.pureS C (hw _ (List.mem_of_getElem? (i := 6) rfl)) (hw _ (List.mem_of_getElem? (i := 7) rfl)) (hw _ (List.mem_of_getElem? (i := 8) rfl)) (hw _ (List.mem_of_getElem? (i := 9) rfl)) (c_f_ok W.l Z a0 hw a729 (6 : Int32) (2 : Int32) (5 : Int32) v1 v727 h761 n0 (upd (upd (upd (upd (upd (upd (upd (upd (upd (upd (upd (upd (upd (fun _ => (0 : Int32)) 0 (nar .byte v727)) 1 (nar .byte v727)) 2 (nar .byte v727)) 3 (nar .byte v727)) 4 (nar .byte v727)) 5 (nar .byte v727)) 6 (nar .byte v727)) 7 (nar .byte v727)) 2 (nar .byte (v1 ||| (128 : Int32)).toInt8.toInt32)) 3 (nar .byte (((v1.toUInt32 >>> ((7 : Int32) &&& 31).toUInt32).toInt32) ||| (128 : Int32)).toInt8.toInt32)) 4 (nar .byte (((((v1.toUInt32 >>> ((7 : Int32) &&& 31).toUInt32).toInt32).toUInt32 >>> ((7 : Int32) &&& 31).toUInt32).toInt32) ||| (128 : Int32)).toInt8.toInt32)) 5 (nar .byte (((((((v1.toUInt32 >>> ((7 : Int32) &&& 31).toUInt32).toInt32).toUInt32 >>> ((7 : Int32) &&& 31).toUInt32).toInt32).toUInt32 >>> ((7 : Int32) &&& 31).toUInt32).toInt32) ||| (128 : Int32)).toInt8.toInt32)) 6 (nar .byte ((((((((v1.toUInt32 >>> ((7 : Int32) &&& 31).toUInt32).toInt32).toUInt32 >>> ((7 : Int32) &&& 31).toUInt32).toInt32).toUInt32 >>> ((7 : Int32) &&& 31).toUInt32).toInt32).toUInt32 >>> ((7 : Int32) &&& 31).toUInt32).toInt32).toInt8.toInt32)) F769 F763 (by decide)) at_270 pd__40_91BIIIIB_41Z (q := 273) rfl rfl (argsL := [(.ref a729), (.int (6 : Int32)), (.int (2 : Int32)), (.int (5 : Int32)), (.int v1), (.int v727)]) (st := []) rfl rfl (w := 0) rfl (by decide) (by decide) (by decide) (by decide) (res := .int (f_ok (nar .byte ((((((((v1.toUInt32 >>> ((7 : Int32) &&& 31).toUInt32).toInt32).toUInt32 >>> ((7 : Int32) &&& 31).toUInt32).toInt32).toUInt32 >>> ((7 : Int32) &&& 31).toUInt32).toInt32).toUInt32 >>> ((7 : Int32) &&& 31).toUInt32).toInt32).toInt8.toInt32) (6 : Int32) (2 : Int32) (5 : Int32) v1 v727)) ?_
                    refine Go.if0 C at_273 (z_eq _) (qt := 298) (q := 276) (by decide) (by decide) rfl (fun b778 => ?_) (fun b778 => ?_)
                    ·
                      refine Go.iconst C (0 : Int32) at_298 (q := 299) rfl rfl ?_
                      exact J771 _ (by rw [if_neg b772, if_neg b773, if_neg b774, if_neg b775, if_neg b776, if_neg b777, if_pos b778])
                    ·
                      refine Go.aload C at_276 (q := 278) rfl rfl rfl ?_
                      refine Go.bipush C (7 : Int32) at_278 (q := 280) rfl rfl ?_
                      refine Go.iload C at_280 (q := 282) rfl rfl ?_
                      refine Go.iload C at_282 (q := 284) rfl rfl ?_
                      refine Go.iload C at_284 (q := 286) rfl rfl ?_
                      refine Go.iload C at_286 (q := 288) rfl rfl ?_
                      refine Go.pureS C (hw _ (List.mem_of_getElem? (i := 6) rfl)) (hw _ (List.mem_of_getElem? (i := 7) rfl)) (hw _ (List.mem_of_getElem? (i := 8) rfl)) (hw _ (List.mem_of_getElem? (i := 9) rfl)) (c_f_ok W.l Z a0 hw a729 (7 : Int32) (2 : Int32) (5 : Int32) v1 v727 h761 n0 (upd (upd (upd (upd (upd (upd (upd (upd (upd (upd (upd (upd (upd (fun _ => (0 : Int32)) 0 (nar .byte v727)) 1 (nar .byte v727)) 2 (nar .byte v727)) 3 (nar .byte v727)) 4 (nar .byte v727)) 5 (nar .byte v727)) 6 (nar .byte v727)) 7 (nar .byte v727)) 2 (nar .byte (v1 ||| (128 : Int32)).toInt8.toInt32)) 3 (nar .byte (((v1.toUInt32 >>> ((7 : Int32) &&& 31).toUInt32).toInt32) ||| (128 : Int32)).toInt8.toInt32)) 4 (nar .byte (((((v1.toUInt32 >>> ((7 : Int32) &&& 31).toUInt32).toInt32).toUInt32 >>> ((7 : Int32) &&& 31).toUInt32).toInt32) ||| (128 : Int32)).toInt8.toInt32)) 5 (nar .byte (((((((v1.toUInt32 >>> ((7 : Int32) &&& 31).toUInt32).toInt32).toUInt32 >>> ((7 : Int32) &&& 31).toUInt32).toInt32).toUInt32 >>> ((7 : Int32) &&& 31).toUInt32).toInt32) ||| (128 : Int32)).toInt8.toInt32)) 6 (nar .byte ((((((((v1.toUInt32 >>> ((7 : Int32) &&& 31).toUInt32).toInt32).toUInt32 >>> ((7 : Int32) &&& 31).toUInt32).toInt32).toUInt32 >>> ((7 : Int32) &&& 31).toUInt32).toInt32).toUInt32 >>> ((7 : Int32) &&& 31).toUInt32).toInt32).toInt8.toInt32)) F769 F763 (by decide)) at_288 pd__40_91BIIIIB_41Z (q := 291) rfl rfl (argsL := [(.ref a729), (.int (7 : Int32)), (.int (2 : Int32)), (.int (5 : Int32)), (.int v1), (.int v727)]) (st := []) rfl rfl (w := 0) rfl (by decide) (by decide) (by decide) (by decide) (res := .int (f_ok (nar .byte v727) (7 : Int32) (2 : Int32) (5 : Int32) v1 v727)) ?_
                      refine Go.if0 C at_291 (z_eq _) (qt := 298) (q := 294) (by decide) (by decide) rfl (fun b779 => ?_) (fun b779 => ?_)
                      ·
                        refine Go.iconst C (0 : Int32) at_298 (q := 299) rfl rfl ?_
                        exact J771 _ (by rw [if_neg b772, if_neg b773, if_neg b774, if_neg b775, if_neg b776, if_neg b777, if_neg b778, if_pos b779])
                      ·
                        refine Go.iconst C (1 : Int32) at_294 (q := 295) rfl rfl ?_
                        refine Go.goto C at_295 (q := 299) (by decide) (by decide) ?_
                        exact J771 _ (by rw [if_neg b772, if_neg b773, if_neg b774, if_neg b775, if_neg b776, if_neg b777, if_neg b778, if_neg b779])
      intro v770 hv770
      exact Go.retZ (t := .boolean) (by simp) C at_299 (by decide) (by decide) (congrArg (fun z => some (Value.int z)) (fin14 p0 p1 p2 p3 v1 hv1  hv2  w0  w1  w2  w3  w4 v727 hv727 v770 hv770))
  ·
    rcases own_sizes v1 (own_nn _ _ hv1) with ⟨w0, t0⟩ | ⟨w0, w1, t0, t1⟩ | ⟨w0, w1, w2, t0, t1, t2⟩ | ⟨w0, w1, w2, w3, t0, t1, t2, t3⟩ | ⟨w0, w1, w2, w3, w4, t0, t1, t2, t3⟩
    ·
      refine Go.istore C at_18 (q := 20) rfl (fun z => #[.val (.int p0), .val (.int p1), .val (.int p2), .val (.int p3), .val (.int v1), .val (.int (3 : Int32)), .val (.int z), .unset, .unset, .unset]) (fun _ => rfl) ?_
      intro v780 hv780
      refine Go.bipush C (8 : Int32) at_20 (q := 22) rfl rfl ?_
      refine Go.newP C (hw _ (List.mem_of_getElem? (i := 1) rfl)) (by decide) (cap := 8) (by decide) (by decide) at_22 (q := 24) rfl (k' := 1) rfl (n' := 8) rfl (by decide) (by decide) ?_
      intro h781 a782 cA783 g784 E785 Fn786
      have g788 : n0 ≤ a782 := g784 ▸ Z0
      have F787 : Av Z h781 a782 .byte 8 (iF (fun _ => (0 : Int32))) := Av.of Fn786
      refine Go.astore C at_24 (q := 26) rfl (l' := #[.val (.int p0), .val (.int p1), .val (.int p2), .val (.int p3), .val (.int v1), .val (.int (3 : Int32)), .val (.int v780), .val (.ref a782), .unset, .unset]) rfl rfl ?_
      refine Go.aload C at_26 (q := 28) rfl rfl rfl ?_
      refine Go.iconst C (0 : Int32) at_28 (q := 29) rfl rfl ?_
      refine Go.iload C at_29 (q := 31) rfl rfl ?_
      refine Go.bastore C F787 0 (by decide) (by decide) (by decide) g788 at_31 (q := 32) rfl ?_
      intro h789 W790
      have F791 := F787.sameI W790
      refine Go.aload C at_32 (q := 34) rfl rfl rfl ?_
      refine Go.iconst C (1 : Int32) at_34 (q := 35) rfl rfl ?_
      refine Go.iload C at_35 (q := 37) rfl rfl ?_
      refine Go.bastore C F791 1 (by decide) (by decide) (by decide) g788 at_37 (q := 38) rfl ?_
      intro h792 W793
      have F794 := F791.sameI W793
      refine Go.aload C at_38 (q := 40) rfl rfl rfl ?_
      refine Go.iconst C (2 : Int32) at_40 (q := 41) rfl rfl ?_
      refine Go.iload C at_41 (q := 43) rfl rfl ?_
      refine Go.bastore C F794 2 (by decide) (by decide) (by decide) g788 at_43 (q := 44) rfl ?_
      intro h795 W796
      have F797 := F794.sameI W796
      refine Go.aload C at_44 (q := 46) rfl rfl rfl ?_
      refine Go.iconst C (3 : Int32) at_46 (q := 47) rfl rfl ?_
      refine Go.iload C at_47 (q := 49) rfl rfl ?_
      refine Go.bastore C F797 3 (by decide) (by decide) (by decide) g788 at_49 (q := 50) rfl ?_
      intro h798 W799
      have F800 := F797.sameI W799
      refine Go.aload C at_50 (q := 52) rfl rfl rfl ?_
      refine Go.iconst C (4 : Int32) at_52 (q := 53) rfl rfl ?_
      refine Go.iload C at_53 (q := 55) rfl rfl ?_
      refine Go.bastore C F800 4 (by decide) (by decide) (by decide) g788 at_55 (q := 56) rfl ?_
      intro h801 W802
      have F803 := F800.sameI W802
      refine Go.aload C at_56 (q := 58) rfl rfl rfl ?_
      refine Go.iconst C (5 : Int32) at_58 (q := 59) rfl rfl ?_
      refine Go.iload C at_59 (q := 61) rfl rfl ?_
      refine Go.bastore C F803 5 (by decide) (by decide) (by decide) g788 at_61 (q := 62) rfl ?_
      intro h804 W805
      have F806 := F803.sameI W805
      refine Go.aload C at_62 (q := 64) rfl rfl rfl ?_
      refine Go.bipush C (6 : Int32) at_64 (q := 66) rfl rfl ?_
      refine Go.iload C at_66 (q := 68) rfl rfl ?_
      refine Go.bastore C F806 6 (by decide) (by decide) (by decide) g788 at_68 (q := 69) rfl ?_
      intro h807 W808
      have F809 := F806.sameI W808
      refine Go.aload C at_69 (q := 71) rfl rfl rfl ?_
      refine Go.bipush C (7 : Int32) at_71 (q := 73) rfl rfl ?_
      refine Go.iload C at_73 (q := 75) rfl rfl ?_
      refine Go.bastore C F809 7 (by decide) (by decide) (by decide) g788 at_75 (q := 76) rfl ?_
      intro h810 W811
      have F812 := F809.sameI W811
      refine Go.aload C at_76 (q := 78) rfl rfl rfl ?_
      refine Go.iload C at_78 (q := 80) rfl rfl ?_
      refine Go.iload C at_80 (q := 82) rfl rfl ?_
      have F813 := (Nat.le_trans (Nat.le_trans (Nat.le_trans (Nat.le_trans (Nat.le_trans (Nat.le_trans (Nat.le_trans (Nat.le_trans (Nat.le_trans Z0 E785.1) (Nat.le_of_eq W790.size.symm)) (Nat.le_of_eq W793.size.symm)) (Nat.le_of_eq W796.size.symm)) (Nat.le_of_eq W799.size.symm)) (Nat.le_of_eq W802.size.symm)) (Nat.le_of_eq W805.size.symm)) (Nat.le_of_eq W808.size.symm)) (Nat.le_of_eq W811.size.symm))
      refine Go.callS C (hw _ (List.mem_of_getElem? (i := 2) rfl)) (hw _ (List.mem_of_getElem? (i := 3) rfl)) (hw _ (List.mem_of_getElem? (i := 4) rfl)) (hw _ (List.mem_of_getElem? (i := 5) rfl)) (c_put3_1 W.l Z a0 hw a782 v1 h810 n0 (upd (upd (upd (upd (upd (upd (upd (upd (fun _ => (0 : Int32)) 0 (nar .byte v780)) 1 (nar .byte v780)) 2 (nar .byte v780)) 3 (nar .byte v780)) 4 (nar .byte v780)) 5 (nar .byte v780)) 6 (nar .byte v780)) 7 (nar .byte v780)) F813 F812 g788 w0) at_82 pd__40_91BII_41I (q := 85) rfl rfl (argsL := [(.ref a782), (.int (3 : Int32)), (.int v1)]) (st := []) rfl rfl (w := 0) rfl (by decide) (by decide) (k' := 1) rfl (n' := 8) rfl (by decide) (by decide) ?_
      intro v h814 q
      obtain ⟨rfl, K815, F816⟩ := q
      show Go W n0 QL h814 1 8 85 #[.val (.int p0), .val (.int p1), .val (.int p2), .val (.int p3), .val (.int v1), .val (.int (3 : Int32)), .val (.int v780), .val (.ref a782), .unset, .unset] [(.int (4 : Int32))]
      refine Go.istoreR C at_85 (q := 87) rfl (l' := #[.val (.int p0), .val (.int p1), .val (.int p2), .val (.int p3), .val (.int v1), .val (.int (3 : Int32)), .val (.int v780), .val (.ref a782), .val (.int (4 : Int32)), .unset]) rfl ?_
      refine Go.iload C at_87 (q := 89) rfl rfl ?_
      refine Go.sipush C (128 : Int32) at_89 (q := 92) rfl rfl ?_
      refine Go.icmp C at_92 (n_ge _ _) (qt := 101) (q := 95) (by decide) (by decide) rfl (fun b817 => absurd t0 b817) (fun _ => ?_)
      refine Go.iconst C (1 : Int32) at_95 (q := 96) rfl rfl ?_
      refine Go.istoreR C at_96 (q := 98) rfl (l' := #[.val (.int p0), .val (.int p1), .val (.int p2), .val (.int p3), .val (.int v1), .val (.int (3 : Int32)), .val (.int v780), .val (.ref a782), .val (.int (4 : Int32)), .val (.int (1 : Int32))]) rfl ?_
      refine Go.goto C at_98 (q := 144) (by decide) (by decide) ?_
      refine Go.iload C at_144 (q := 146) rfl rfl ?_
      refine Go.iload C at_146 (q := 148) rfl rfl ?_
      refine Go.iload C at_148 (q := 150) rfl rfl ?_
      refine Go.iadd C at_150 (q := 151) rfl ?_
      refine Go.icmp C at_151 (n_eq _ _) (qt := 156) (q := 154) (by decide) (by decide) rfl (fun _ => ?_) (fun b818 => absurd b818 (by decide))
      refine Go.aload C at_156 (q := 158) rfl rfl rfl ?_
      refine Go.iconst C (0 : Int32) at_158 (q := 159) rfl rfl ?_
      refine Go.iload C at_159 (q := 161) rfl rfl ?_
      refine Go.iload C at_161 (q := 163) rfl rfl ?_
      refine Go.iload C at_163 (q := 165) rfl rfl ?_
      refine Go.iload C at_165 (q := 167) rfl rfl ?_
      have F819 := (Nat.le_trans F813 K815.1)
      refine Go.pureS C (hw _ (List.mem_of_getElem? (i := 6) rfl)) (hw _ (List.mem_of_getElem? (i := 7) rfl)) (hw _ (List.mem_of_getElem? (i := 8) rfl)) (hw _ (List.mem_of_getElem? (i := 9) rfl)) (c_f_ok W.l Z a0 hw a782 (0 : Int32) (3 : Int32) (1 : Int32) v1 v780 h814 n0 (upd (upd (upd (upd (upd (upd (upd (upd (upd (fun _ => (0 : Int32)) 0 (nar .byte v780)) 1 (nar .byte v780)) 2 (nar .byte v780)) 3 (nar .byte v780)) 4 (nar .byte v780)) 5 (nar .byte v780)) 6 (nar .byte v780)) 7 (nar .byte v780)) 3 (nar .byte v1.toInt8.toInt32)) F819 F816 (by decide)) at_167 pd__40_91BIIIIB_41Z (q := 170) rfl rfl (argsL := [(.ref a782), (.int (0 : Int32)), (.int (3 : Int32)), (.int (1 : Int32)), (.int v1), (.int v780)]) (st := []) rfl rfl (w := 0) rfl (by decide) (by decide) (by decide) (by decide) (res := .int (f_ok (nar .byte v780) (0 : Int32) (3 : Int32) (1 : Int32) v1 v780)) ?_
      suffices J821 : ∀ v820 : Int32, v820 = (if (f_ok (nar .byte v780) (0 : Int32) (3 : Int32) (1 : Int32) v1 v780) = (0 : Int32) then (0 : Int32) else (if (f_ok (nar .byte v780) (1 : Int32) (3 : Int32) (1 : Int32) v1 v780) = (0 : Int32) then (0 : Int32) else (if (f_ok (nar .byte v780) (2 : Int32) (3 : Int32) (1 : Int32) v1 v780) = (0 : Int32) then (0 : Int32) else (if (f_ok (nar .byte v1.toInt8.toInt32) (3 : Int32) (3 : Int32) (1 : Int32) v1 v780) = (0 : Int32) then (0 : Int32) else (if (f_ok (nar .byte v780) (4 : Int32) (3 : Int32) (1 : Int32) v1 v780) = (0 : Int32) then (0 : Int32) else (if (f_ok (nar .byte v780) (5 : Int32) (3 : Int32) (1 : Int32) v1 v780) = (0 : Int32) then (0 : Int32) else (if (f_ok (nar .byte v780) (6 : Int32) (3 : Int32) (1 : Int32) v1 v780) = (0 : Int32) then (0 : Int32) else (if (f_ok (nar .byte v780) (7 : Int32) (3 : Int32) (1 : Int32) v1 v780) = (0 : Int32) then (0 : Int32) else (1 : Int32))))))))) → Go W n0 QL h814 1 8 299 #[.val (.int p0), .val (.int p1), .val (.int p2), .val (.int p3), .val (.int v1), .val (.int (3 : Int32)), .val (.int v780), .val (.ref a782), .val (.int (4 : Int32)), .val (.int (1 : Int32))] [(.int v820)] by
        refine Go.if0 C at_170 (z_eq _) (qt := 298) (q := 173) (by decide) (by decide) rfl (fun b822 => ?_) (fun b822 => ?_)
        ·
          refine Go.iconst C (0 : Int32) at_298 (q := 299) rfl rfl ?_
          exact J821 _ (by rw [if_pos b822])
        ·
          refine Go.aload C at_173 (q := 175) rfl rfl rfl ?_
          refine Go.iconst C (1 : Int32) at_175 (q := 176) rfl rfl ?_
          refine Go.iload C at_176 (q := 178) rfl rfl ?_
          refine Go.iload C at_178 (q := 180) rfl rfl ?_
          refine Go.iload C at_180 (q := 182) rfl rfl ?_
          refine Go.iload C at_182 (q := 184) rfl rfl ?_
          refine Go.pureS C (hw _ (List.mem_of_getElem? (i := 6) rfl)) (hw _ (List.mem_of_getElem? (i := 7) rfl)) (hw _ (List.mem_of_getElem? (i := 8) rfl)) (hw _ (List.mem_of_getElem? (i := 9) rfl)) (c_f_ok W.l Z a0 hw a782 (1 : Int32) (3 : Int32) (1 : Int32) v1 v780 h814 n0 (upd (upd (upd (upd (upd (upd (upd (upd (upd (fun _ => (0 : Int32)) 0 (nar .byte v780)) 1 (nar .byte v780)) 2 (nar .byte v780)) 3 (nar .byte v780)) 4 (nar .byte v780)) 5 (nar .byte v780)) 6 (nar .byte v780)) 7 (nar .byte v780)) 3 (nar .byte v1.toInt8.toInt32)) F819 F816 (by decide)) at_184 pd__40_91BIIIIB_41Z (q := 187) rfl rfl (argsL := [(.ref a782), (.int (1 : Int32)), (.int (3 : Int32)), (.int (1 : Int32)), (.int v1), (.int v780)]) (st := []) rfl rfl (w := 0) rfl (by decide) (by decide) (by decide) (by decide) (res := .int (f_ok (nar .byte v780) (1 : Int32) (3 : Int32) (1 : Int32) v1 v780)) ?_
          refine Go.if0 C at_187 (z_eq _) (qt := 298) (q := 190) (by decide) (by decide) rfl (fun b823 => ?_) (fun b823 => ?_)
          ·
            refine Go.iconst C (0 : Int32) at_298 (q := 299) rfl rfl ?_
            exact J821 _ (by rw [if_neg b822, if_pos b823])
          ·
            refine Go.aload C at_190 (q := 192) rfl rfl rfl ?_
            refine Go.iconst C (2 : Int32) at_192 (q := 193) rfl rfl ?_
            refine Go.iload C at_193 (q := 195) rfl rfl ?_
            refine Go.iload C at_195 (q := 197) rfl rfl ?_
            refine Go.iload C at_197 (q := 199) rfl rfl ?_
            refine Go.iload C at_199 (q := 201) rfl rfl ?_
            refine Go.pureS C (hw _ (List.mem_of_getElem? (i := 6) rfl)) (hw _ (List.mem_of_getElem? (i := 7) rfl)) (hw _ (List.mem_of_getElem? (i := 8) rfl)) (hw _ (List.mem_of_getElem? (i := 9) rfl)) (c_f_ok W.l Z a0 hw a782 (2 : Int32) (3 : Int32) (1 : Int32) v1 v780 h814 n0 (upd (upd (upd (upd (upd (upd (upd (upd (upd (fun _ => (0 : Int32)) 0 (nar .byte v780)) 1 (nar .byte v780)) 2 (nar .byte v780)) 3 (nar .byte v780)) 4 (nar .byte v780)) 5 (nar .byte v780)) 6 (nar .byte v780)) 7 (nar .byte v780)) 3 (nar .byte v1.toInt8.toInt32)) F819 F816 (by decide)) at_201 pd__40_91BIIIIB_41Z (q := 204) rfl rfl (argsL := [(.ref a782), (.int (2 : Int32)), (.int (3 : Int32)), (.int (1 : Int32)), (.int v1), (.int v780)]) (st := []) rfl rfl (w := 0) rfl (by decide) (by decide) (by decide) (by decide) (res := .int (f_ok (nar .byte v780) (2 : Int32) (3 : Int32) (1 : Int32) v1 v780)) ?_
            refine Go.if0 C at_204 (z_eq _) (qt := 298) (q := 207) (by decide) (by decide) rfl (fun b824 => ?_) (fun b824 => ?_)
            ·
              refine Go.iconst C (0 : Int32) at_298 (q := 299) rfl rfl ?_
              exact J821 _ (by rw [if_neg b822, if_neg b823, if_pos b824])
            ·
              refine Go.aload C at_207 (q := 209) rfl rfl rfl ?_
              refine Go.iconst C (3 : Int32) at_209 (q := 210) rfl rfl ?_
              refine Go.iload C at_210 (q := 212) rfl rfl ?_
              refine Go.iload C at_212 (q := 214) rfl rfl ?_
              refine Go.iload C at_214 (q := 216) rfl rfl ?_
              refine Go.iload C at_216 (q := 218) rfl rfl ?_
              refine Go.pureS C (hw _ (List.mem_of_getElem? (i := 6) rfl)) (hw _ (List.mem_of_getElem? (i := 7) rfl)) (hw _ (List.mem_of_getElem? (i := 8) rfl)) (hw _ (List.mem_of_getElem? (i := 9) rfl)) (c_f_ok W.l Z a0 hw a782 (3 : Int32) (3 : Int32) (1 : Int32) v1 v780 h814 n0 (upd (upd (upd (upd (upd (upd (upd (upd (upd (fun _ => (0 : Int32)) 0 (nar .byte v780)) 1 (nar .byte v780)) 2 (nar .byte v780)) 3 (nar .byte v780)) 4 (nar .byte v780)) 5 (nar .byte v780)) 6 (nar .byte v780)) 7 (nar .byte v780)) 3 (nar .byte v1.toInt8.toInt32)) F819 F816 (by decide)) at_218 pd__40_91BIIIIB_41Z (q := 221) rfl rfl (argsL := [(.ref a782), (.int (3 : Int32)), (.int (3 : Int32)), (.int (1 : Int32)), (.int v1), (.int v780)]) (st := []) rfl rfl (w := 0) rfl (by decide) (by decide) (by decide) (by decide) (res := .int (f_ok (nar .byte v1.toInt8.toInt32) (3 : Int32) (3 : Int32) (1 : Int32) v1 v780)) ?_
              refine Go.if0 C at_221 (z_eq _) (qt := 298) (q := 224) (by decide) (by decide) rfl (fun b825 => ?_) (fun b825 => ?_)
              ·
                refine Go.iconst C (0 : Int32) at_298 (q := 299) rfl rfl ?_
                exact J821 _ (by rw [if_neg b822, if_neg b823, if_neg b824, if_pos b825])
              ·
                refine Go.aload C at_224 (q := 226) rfl rfl rfl ?_
                refine Go.iconst C (4 : Int32) at_226 (q := 227) rfl rfl ?_
                refine Go.iload C at_227 (q := 229) rfl rfl ?_
                refine Go.iload C at_229 (q := 231) rfl rfl ?_
                refine Go.iload C at_231 (q := 233) rfl rfl ?_
                refine Go.iload C at_233 (q := 235) rfl rfl ?_
                refine Go.pureS C (hw _ (List.mem_of_getElem? (i := 6) rfl)) (hw _ (List.mem_of_getElem? (i := 7) rfl)) (hw _ (List.mem_of_getElem? (i := 8) rfl)) (hw _ (List.mem_of_getElem? (i := 9) rfl)) (c_f_ok W.l Z a0 hw a782 (4 : Int32) (3 : Int32) (1 : Int32) v1 v780 h814 n0 (upd (upd (upd (upd (upd (upd (upd (upd (upd (fun _ => (0 : Int32)) 0 (nar .byte v780)) 1 (nar .byte v780)) 2 (nar .byte v780)) 3 (nar .byte v780)) 4 (nar .byte v780)) 5 (nar .byte v780)) 6 (nar .byte v780)) 7 (nar .byte v780)) 3 (nar .byte v1.toInt8.toInt32)) F819 F816 (by decide)) at_235 pd__40_91BIIIIB_41Z (q := 238) rfl rfl (argsL := [(.ref a782), (.int (4 : Int32)), (.int (3 : Int32)), (.int (1 : Int32)), (.int v1), (.int v780)]) (st := []) rfl rfl (w := 0) rfl (by decide) (by decide) (by decide) (by decide) (res := .int (f_ok (nar .byte v780) (4 : Int32) (3 : Int32) (1 : Int32) v1 v780)) ?_
                refine Go.if0 C at_238 (z_eq _) (qt := 298) (q := 241) (by decide) (by decide) rfl (fun b826 => ?_) (fun b826 => ?_)
                ·
                  refine Go.iconst C (0 : Int32) at_298 (q := 299) rfl rfl ?_
                  exact J821 _ (by rw [if_neg b822, if_neg b823, if_neg b824, if_neg b825, if_pos b826])
                ·
                  refine Go.aload C at_241 (q := 243) rfl rfl rfl ?_
                  refine Go.iconst C (5 : Int32) at_243 (q := 244) rfl rfl ?_
                  refine Go.iload C at_244 (q := 246) rfl rfl ?_
                  refine Go.iload C at_246 (q := 248) rfl rfl ?_
                  refine Go.iload C at_248 (q := 250) rfl rfl ?_
                  refine Go.iload C at_250 (q := 252) rfl rfl ?_
                  refine Go.pureS C (hw _ (List.mem_of_getElem? (i := 6) rfl)) (hw _ (List.mem_of_getElem? (i := 7) rfl)) (hw _ (List.mem_of_getElem? (i := 8) rfl)) (hw _ (List.mem_of_getElem? (i := 9) rfl)) (c_f_ok W.l Z a0 hw a782 (5 : Int32) (3 : Int32) (1 : Int32) v1 v780 h814 n0 (upd (upd (upd (upd (upd (upd (upd (upd (upd (fun _ => (0 : Int32)) 0 (nar .byte v780)) 1 (nar .byte v780)) 2 (nar .byte v780)) 3 (nar .byte v780)) 4 (nar .byte v780)) 5 (nar .byte v780)) 6 (nar .byte v780)) 7 (nar .byte v780)) 3 (nar .byte v1.toInt8.toInt32)) F819 F816 (by decide)) at_252 pd__40_91BIIIIB_41Z (q := 255) rfl rfl (argsL := [(.ref a782), (.int (5 : Int32)), (.int (3 : Int32)), (.int (1 : Int32)), (.int v1), (.int v780)]) (st := []) rfl rfl (w := 0) rfl (by decide) (by decide) (by decide) (by decide) (res := .int (f_ok (nar .byte v780) (5 : Int32) (3 : Int32) (1 : Int32) v1 v780)) ?_
                  refine Go.if0 C at_255 (z_eq _) (qt := 298) (q := 258) (by decide) (by decide) rfl (fun b827 => ?_) (fun b827 => ?_)
                  ·
                    refine Go.iconst C (0 : Int32) at_298 (q := 299) rfl rfl ?_
                    exact J821 _ (by rw [if_neg b822, if_neg b823, if_neg b824, if_neg b825, if_neg b826, if_pos b827])
                  ·
                    refine Go.aload C at_258 (q := 260) rfl rfl rfl ?_
                    refine Go.bipush C (6 : Int32) at_260 (q := 262) rfl rfl ?_
                    refine Go.iload C at_262 (q := 264) rfl rfl ?_
                    refine Go.iload C at_264 (q := 266) rfl rfl ?_
                    refine Go.iload C at_266 (q := 268) rfl rfl ?_
                    refine Go.iload C at_268 (q := 270) rfl rfl ?_
                    refine Go.pureS C (hw _ (List.mem_of_getElem? (i := 6) rfl)) (hw _ (List.mem_of_getElem? (i := 7) rfl)) (hw _ (List.mem_of_getElem? (i := 8) rfl)) (hw _ (List.mem_of_getElem? (i := 9) rfl)) (c_f_ok W.l Z a0 hw a782 (6 : Int32) (3 : Int32) (1 : Int32) v1 v780 h814 n0 (upd (upd (upd (upd (upd (upd (upd (upd (upd (fun _ => (0 : Int32)) 0 (nar .byte v780)) 1 (nar .byte v780)) 2 (nar .byte v780)) 3 (nar .byte v780)) 4 (nar .byte v780)) 5 (nar .byte v780)) 6 (nar .byte v780)) 7 (nar .byte v780)) 3 (nar .byte v1.toInt8.toInt32)) F819 F816 (by decide)) at_270 pd__40_91BIIIIB_41Z (q := 273) rfl rfl (argsL := [(.ref a782), (.int (6 : Int32)), (.int (3 : Int32)), (.int (1 : Int32)), (.int v1), (.int v780)]) (st := []) rfl rfl (w := 0) rfl (by decide) (by decide) (by decide) (by decide) (res := .int (f_ok (nar .byte v780) (6 : Int32) (3 : Int32) (1 : Int32) v1 v780)) ?_
                    refine Go.if0 C at_273 (z_eq _) (qt := 298) (q := 276) (by decide) (by decide) rfl (fun b828 => ?_) (fun b828 => ?_)
                    ·
                      refine Go.iconst C (0 : Int32) at_298 (q := 299) rfl rfl ?_
                      exact J821 _ (by rw [if_neg b822, if_neg b823, if_neg b824, if_neg b825, if_neg b826, if_neg b827, if_pos b828])
                    ·
                      refine Go.aload C at_276 (q := 278) rfl rfl rfl ?_
                      refine Go.bipush C (7 : Int32) at_278 (q := 280) rfl rfl ?_
                      refine Go.iload C at_280 (q := 282) rfl rfl ?_
                      refine Go.iload C at_282 (q := 284) rfl rfl ?_
                      refine Go.iload C at_284 (q := 286) rfl rfl ?_
                      refine Go.iload C at_286 (q := 288) rfl rfl ?_
                      refine Go.pureS C (hw _ (List.mem_of_getElem? (i := 6) rfl)) (hw _ (List.mem_of_getElem? (i := 7) rfl)) (hw _ (List.mem_of_getElem? (i := 8) rfl)) (hw _ (List.mem_of_getElem? (i := 9) rfl)) (c_f_ok W.l Z a0 hw a782 (7 : Int32) (3 : Int32) (1 : Int32) v1 v780 h814 n0 (upd (upd (upd (upd (upd (upd (upd (upd (upd (fun _ => (0 : Int32)) 0 (nar .byte v780)) 1 (nar .byte v780)) 2 (nar .byte v780)) 3 (nar .byte v780)) 4 (nar .byte v780)) 5 (nar .byte v780)) 6 (nar .byte v780)) 7 (nar .byte v780)) 3 (nar .byte v1.toInt8.toInt32)) F819 F816 (by decide)) at_288 pd__40_91BIIIIB_41Z (q := 291) rfl rfl (argsL := [(.ref a782), (.int (7 : Int32)), (.int (3 : Int32)), (.int (1 : Int32)), (.int v1), (.int v780)]) (st := []) rfl rfl (w := 0) rfl (by decide) (by decide) (by decide) (by decide) (res := .int (f_ok (nar .byte v780) (7 : Int32) (3 : Int32) (1 : Int32) v1 v780)) ?_
                      refine Go.if0 C at_291 (z_eq _) (qt := 298) (q := 294) (by decide) (by decide) rfl (fun b829 => ?_) (fun b829 => ?_)
                      ·
                        refine Go.iconst C (0 : Int32) at_298 (q := 299) rfl rfl ?_
                        exact J821 _ (by rw [if_neg b822, if_neg b823, if_neg b824, if_neg b825, if_neg b826, if_neg b827, if_neg b828, if_pos b829])
                      ·
                        refine Go.iconst C (1 : Int32) at_294 (q := 295) rfl rfl ?_
                        refine Go.goto C at_295 (q := 299) (by decide) (by decide) ?_
                        exact J821 _ (by rw [if_neg b822, if_neg b823, if_neg b824, if_neg b825, if_neg b826, if_neg b827, if_neg b828, if_neg b829])
      intro v820 hv820
      exact Go.retZ (t := .boolean) (by simp) C at_299 (by decide) (by decide) (congrArg (fun z => some (Value.int z)) (fin15 p0 p1 p2 p3 v1 hv1  hv2  w0 v780 hv780 v820 hv820))
    ·
      refine Go.istore C at_18 (q := 20) rfl (fun z => #[.val (.int p0), .val (.int p1), .val (.int p2), .val (.int p3), .val (.int v1), .val (.int (3 : Int32)), .val (.int z), .unset, .unset, .unset]) (fun _ => rfl) ?_
      intro v830 hv830
      refine Go.bipush C (8 : Int32) at_20 (q := 22) rfl rfl ?_
      refine Go.newP C (hw _ (List.mem_of_getElem? (i := 1) rfl)) (by decide) (cap := 8) (by decide) (by decide) at_22 (q := 24) rfl (k' := 1) rfl (n' := 8) rfl (by decide) (by decide) ?_
      intro h831 a832 cA833 g834 E835 Fn836
      have g838 : n0 ≤ a832 := g834 ▸ Z0
      have F837 : Av Z h831 a832 .byte 8 (iF (fun _ => (0 : Int32))) := Av.of Fn836
      refine Go.astore C at_24 (q := 26) rfl (l' := #[.val (.int p0), .val (.int p1), .val (.int p2), .val (.int p3), .val (.int v1), .val (.int (3 : Int32)), .val (.int v830), .val (.ref a832), .unset, .unset]) rfl rfl ?_
      refine Go.aload C at_26 (q := 28) rfl rfl rfl ?_
      refine Go.iconst C (0 : Int32) at_28 (q := 29) rfl rfl ?_
      refine Go.iload C at_29 (q := 31) rfl rfl ?_
      refine Go.bastore C F837 0 (by decide) (by decide) (by decide) g838 at_31 (q := 32) rfl ?_
      intro h839 W840
      have F841 := F837.sameI W840
      refine Go.aload C at_32 (q := 34) rfl rfl rfl ?_
      refine Go.iconst C (1 : Int32) at_34 (q := 35) rfl rfl ?_
      refine Go.iload C at_35 (q := 37) rfl rfl ?_
      refine Go.bastore C F841 1 (by decide) (by decide) (by decide) g838 at_37 (q := 38) rfl ?_
      intro h842 W843
      have F844 := F841.sameI W843
      refine Go.aload C at_38 (q := 40) rfl rfl rfl ?_
      refine Go.iconst C (2 : Int32) at_40 (q := 41) rfl rfl ?_
      refine Go.iload C at_41 (q := 43) rfl rfl ?_
      refine Go.bastore C F844 2 (by decide) (by decide) (by decide) g838 at_43 (q := 44) rfl ?_
      intro h845 W846
      have F847 := F844.sameI W846
      refine Go.aload C at_44 (q := 46) rfl rfl rfl ?_
      refine Go.iconst C (3 : Int32) at_46 (q := 47) rfl rfl ?_
      refine Go.iload C at_47 (q := 49) rfl rfl ?_
      refine Go.bastore C F847 3 (by decide) (by decide) (by decide) g838 at_49 (q := 50) rfl ?_
      intro h848 W849
      have F850 := F847.sameI W849
      refine Go.aload C at_50 (q := 52) rfl rfl rfl ?_
      refine Go.iconst C (4 : Int32) at_52 (q := 53) rfl rfl ?_
      refine Go.iload C at_53 (q := 55) rfl rfl ?_
      refine Go.bastore C F850 4 (by decide) (by decide) (by decide) g838 at_55 (q := 56) rfl ?_
      intro h851 W852
      have F853 := F850.sameI W852
      refine Go.aload C at_56 (q := 58) rfl rfl rfl ?_
      refine Go.iconst C (5 : Int32) at_58 (q := 59) rfl rfl ?_
      refine Go.iload C at_59 (q := 61) rfl rfl ?_
      refine Go.bastore C F853 5 (by decide) (by decide) (by decide) g838 at_61 (q := 62) rfl ?_
      intro h854 W855
      have F856 := F853.sameI W855
      refine Go.aload C at_62 (q := 64) rfl rfl rfl ?_
      refine Go.bipush C (6 : Int32) at_64 (q := 66) rfl rfl ?_
      refine Go.iload C at_66 (q := 68) rfl rfl ?_
      refine Go.bastore C F856 6 (by decide) (by decide) (by decide) g838 at_68 (q := 69) rfl ?_
      intro h857 W858
      have F859 := F856.sameI W858
      refine Go.aload C at_69 (q := 71) rfl rfl rfl ?_
      refine Go.bipush C (7 : Int32) at_71 (q := 73) rfl rfl ?_
      refine Go.iload C at_73 (q := 75) rfl rfl ?_
      refine Go.bastore C F859 7 (by decide) (by decide) (by decide) g838 at_75 (q := 76) rfl ?_
      intro h860 W861
      have F862 := F859.sameI W861
      refine Go.aload C at_76 (q := 78) rfl rfl rfl ?_
      refine Go.iload C at_78 (q := 80) rfl rfl ?_
      refine Go.iload C at_80 (q := 82) rfl rfl ?_
      have F863 := (Nat.le_trans (Nat.le_trans (Nat.le_trans (Nat.le_trans (Nat.le_trans (Nat.le_trans (Nat.le_trans (Nat.le_trans (Nat.le_trans Z0 E835.1) (Nat.le_of_eq W840.size.symm)) (Nat.le_of_eq W843.size.symm)) (Nat.le_of_eq W846.size.symm)) (Nat.le_of_eq W849.size.symm)) (Nat.le_of_eq W852.size.symm)) (Nat.le_of_eq W855.size.symm)) (Nat.le_of_eq W858.size.symm)) (Nat.le_of_eq W861.size.symm))
      refine Go.callS C (hw _ (List.mem_of_getElem? (i := 2) rfl)) (hw _ (List.mem_of_getElem? (i := 3) rfl)) (hw _ (List.mem_of_getElem? (i := 4) rfl)) (hw _ (List.mem_of_getElem? (i := 5) rfl)) (c_put3_2 W.l Z a0 hw a832 v1 h860 n0 (upd (upd (upd (upd (upd (upd (upd (upd (fun _ => (0 : Int32)) 0 (nar .byte v830)) 1 (nar .byte v830)) 2 (nar .byte v830)) 3 (nar .byte v830)) 4 (nar .byte v830)) 5 (nar .byte v830)) 6 (nar .byte v830)) 7 (nar .byte v830)) F863 F862 g838 w0 w1) at_82 pd__40_91BII_41I (q := 85) rfl rfl (argsL := [(.ref a832), (.int (3 : Int32)), (.int v1)]) (st := []) rfl rfl (w := 0) rfl (by decide) (by decide) (k' := 1) rfl (n' := 8) rfl (by decide) (by decide) ?_
      intro v h864 q
      obtain ⟨rfl, K865, F866⟩ := q
      show Go W n0 QL h864 1 8 85 #[.val (.int p0), .val (.int p1), .val (.int p2), .val (.int p3), .val (.int v1), .val (.int (3 : Int32)), .val (.int v830), .val (.ref a832), .unset, .unset] [(.int (5 : Int32))]
      refine Go.istoreR C at_85 (q := 87) rfl (l' := #[.val (.int p0), .val (.int p1), .val (.int p2), .val (.int p3), .val (.int v1), .val (.int (3 : Int32)), .val (.int v830), .val (.ref a832), .val (.int (5 : Int32)), .unset]) rfl ?_
      refine Go.iload C at_87 (q := 89) rfl rfl ?_
      refine Go.sipush C (128 : Int32) at_89 (q := 92) rfl rfl ?_
      refine Go.icmp C at_92 (n_ge _ _) (qt := 101) (q := 95) (by decide) (by decide) rfl (fun _ => ?_) (fun b867 => absurd t0 b867)
      refine Go.iload C at_101 (q := 103) rfl rfl ?_
      refine Go.sipush C (16384 : Int32) at_103 (q := 106) rfl rfl ?_
      refine Go.icmp C at_106 (n_ge _ _) (qt := 115) (q := 109) (by decide) (by decide) rfl (fun b868 => absurd t1 b868) (fun _ => ?_)
      refine Go.iconst C (2 : Int32) at_109 (q := 110) rfl rfl ?_
      refine Go.istoreR C at_110 (q := 112) rfl (l' := #[.val (.int p0), .val (.int p1), .val (.int p2), .val (.int p3), .val (.int v1), .val (.int (3 : Int32)), .val (.int v830), .val (.ref a832), .val (.int (5 : Int32)), .val (.int (2 : Int32))]) rfl ?_
      refine Go.goto C at_112 (q := 144) (by decide) (by decide) ?_
      refine Go.iload C at_144 (q := 146) rfl rfl ?_
      refine Go.iload C at_146 (q := 148) rfl rfl ?_
      refine Go.iload C at_148 (q := 150) rfl rfl ?_
      refine Go.iadd C at_150 (q := 151) rfl ?_
      refine Go.icmp C at_151 (n_eq _ _) (qt := 156) (q := 154) (by decide) (by decide) rfl (fun _ => ?_) (fun b869 => absurd b869 (by decide))
      refine Go.aload C at_156 (q := 158) rfl rfl rfl ?_
      refine Go.iconst C (0 : Int32) at_158 (q := 159) rfl rfl ?_
      refine Go.iload C at_159 (q := 161) rfl rfl ?_
      refine Go.iload C at_161 (q := 163) rfl rfl ?_
      refine Go.iload C at_163 (q := 165) rfl rfl ?_
      refine Go.iload C at_165 (q := 167) rfl rfl ?_
      have F870 := (Nat.le_trans F863 K865.1)
      refine Go.pureS C (hw _ (List.mem_of_getElem? (i := 6) rfl)) (hw _ (List.mem_of_getElem? (i := 7) rfl)) (hw _ (List.mem_of_getElem? (i := 8) rfl)) (hw _ (List.mem_of_getElem? (i := 9) rfl)) (c_f_ok W.l Z a0 hw a832 (0 : Int32) (3 : Int32) (2 : Int32) v1 v830 h864 n0 (upd (upd (upd (upd (upd (upd (upd (upd (upd (upd (fun _ => (0 : Int32)) 0 (nar .byte v830)) 1 (nar .byte v830)) 2 (nar .byte v830)) 3 (nar .byte v830)) 4 (nar .byte v830)) 5 (nar .byte v830)) 6 (nar .byte v830)) 7 (nar .byte v830)) 3 (nar .byte (v1 ||| (128 : Int32)).toInt8.toInt32)) 4 (nar .byte ((v1.toUInt32 >>> ((7 : Int32) &&& 31).toUInt32).toInt32).toInt8.toInt32)) F870 F866 (by decide)) at_167 pd__40_91BIIIIB_41Z (q := 170) rfl rfl (argsL := [(.ref a832), (.int (0 : Int32)), (.int (3 : Int32)), (.int (2 : Int32)), (.int v1), (.int v830)]) (st := []) rfl rfl (w := 0) rfl (by decide) (by decide) (by decide) (by decide) (res := .int (f_ok (nar .byte v830) (0 : Int32) (3 : Int32) (2 : Int32) v1 v830)) ?_
      suffices J872 : ∀ v871 : Int32, v871 = (if (f_ok (nar .byte v830) (0 : Int32) (3 : Int32) (2 : Int32) v1 v830) = (0 : Int32) then (0 : Int32) else (if (f_ok (nar .byte v830) (1 : Int32) (3 : Int32) (2 : Int32) v1 v830) = (0 : Int32) then (0 : Int32) else (if (f_ok (nar .byte v830) (2 : Int32) (3 : Int32) (2 : Int32) v1 v830) = (0 : Int32) then (0 : Int32) else (if (f_ok (nar .byte (v1 ||| (128 : Int32)).toInt8.toInt32) (3 : Int32) (3 : Int32) (2 : Int32) v1 v830) = (0 : Int32) then (0 : Int32) else (if (f_ok (nar .byte ((v1.toUInt32 >>> ((7 : Int32) &&& 31).toUInt32).toInt32).toInt8.toInt32) (4 : Int32) (3 : Int32) (2 : Int32) v1 v830) = (0 : Int32) then (0 : Int32) else (if (f_ok (nar .byte v830) (5 : Int32) (3 : Int32) (2 : Int32) v1 v830) = (0 : Int32) then (0 : Int32) else (if (f_ok (nar .byte v830) (6 : Int32) (3 : Int32) (2 : Int32) v1 v830) = (0 : Int32) then (0 : Int32) else (if (f_ok (nar .byte v830) (7 : Int32) (3 : Int32) (2 : Int32) v1 v830) = (0 : Int32) then (0 : Int32) else (1 : Int32))))))))) → Go W n0 QL h864 1 8 299 #[.val (.int p0), .val (.int p1), .val (.int p2), .val (.int p3), .val (.int v1), .val (.int (3 : Int32)), .val (.int v830), .val (.ref a832), .val (.int (5 : Int32)), .val (.int (2 : Int32))] [(.int v871)] by
        refine Go.if0 C at_170 (z_eq _) (qt := 298) (q := 173) (by decide) (by decide) rfl (fun b873 => ?_) (fun b873 => ?_)
        ·
          refine Go.iconst C (0 : Int32) at_298 (q := 299) rfl rfl ?_
          exact J872 _ (by rw [if_pos b873])
        ·
          refine Go.aload C at_173 (q := 175) rfl rfl rfl ?_
          refine Go.iconst C (1 : Int32) at_175 (q := 176) rfl rfl ?_
          refine Go.iload C at_176 (q := 178) rfl rfl ?_
          refine Go.iload C at_178 (q := 180) rfl rfl ?_
          refine Go.iload C at_180 (q := 182) rfl rfl ?_
          refine Go.iload C at_182 (q := 184) rfl rfl ?_
          refine Go.pureS C (hw _ (List.mem_of_getElem? (i := 6) rfl)) (hw _ (List.mem_of_getElem? (i := 7) rfl)) (hw _ (List.mem_of_getElem? (i := 8) rfl)) (hw _ (List.mem_of_getElem? (i := 9) rfl)) (c_f_ok W.l Z a0 hw a832 (1 : Int32) (3 : Int32) (2 : Int32) v1 v830 h864 n0 (upd (upd (upd (upd (upd (upd (upd (upd (upd (upd (fun _ => (0 : Int32)) 0 (nar .byte v830)) 1 (nar .byte v830)) 2 (nar .byte v830)) 3 (nar .byte v830)) 4 (nar .byte v830)) 5 (nar .byte v830)) 6 (nar .byte v830)) 7 (nar .byte v830)) 3 (nar .byte (v1 ||| (128 : Int32)).toInt8.toInt32)) 4 (nar .byte ((v1.toUInt32 >>> ((7 : Int32) &&& 31).toUInt32).toInt32).toInt8.toInt32)) F870 F866 (by decide)) at_184 pd__40_91BIIIIB_41Z (q := 187) rfl rfl (argsL := [(.ref a832), (.int (1 : Int32)), (.int (3 : Int32)), (.int (2 : Int32)), (.int v1), (.int v830)]) (st := []) rfl rfl (w := 0) rfl (by decide) (by decide) (by decide) (by decide) (res := .int (f_ok (nar .byte v830) (1 : Int32) (3 : Int32) (2 : Int32) v1 v830)) ?_
          refine Go.if0 C at_187 (z_eq _) (qt := 298) (q := 190) (by decide) (by decide) rfl (fun b874 => ?_) (fun b874 => ?_)
          ·
            refine Go.iconst C (0 : Int32) at_298 (q := 299) rfl rfl ?_
            exact J872 _ (by rw [if_neg b873, if_pos b874])
          ·
            refine Go.aload C at_190 (q := 192) rfl rfl rfl ?_
            refine Go.iconst C (2 : Int32) at_192 (q := 193) rfl rfl ?_
            refine Go.iload C at_193 (q := 195) rfl rfl ?_
            refine Go.iload C at_195 (q := 197) rfl rfl ?_
            refine Go.iload C at_197 (q := 199) rfl rfl ?_
            refine Go.iload C at_199 (q := 201) rfl rfl ?_
            refine Go.pureS C (hw _ (List.mem_of_getElem? (i := 6) rfl)) (hw _ (List.mem_of_getElem? (i := 7) rfl)) (hw _ (List.mem_of_getElem? (i := 8) rfl)) (hw _ (List.mem_of_getElem? (i := 9) rfl)) (c_f_ok W.l Z a0 hw a832 (2 : Int32) (3 : Int32) (2 : Int32) v1 v830 h864 n0 (upd (upd (upd (upd (upd (upd (upd (upd (upd (upd (fun _ => (0 : Int32)) 0 (nar .byte v830)) 1 (nar .byte v830)) 2 (nar .byte v830)) 3 (nar .byte v830)) 4 (nar .byte v830)) 5 (nar .byte v830)) 6 (nar .byte v830)) 7 (nar .byte v830)) 3 (nar .byte (v1 ||| (128 : Int32)).toInt8.toInt32)) 4 (nar .byte ((v1.toUInt32 >>> ((7 : Int32) &&& 31).toUInt32).toInt32).toInt8.toInt32)) F870 F866 (by decide)) at_201 pd__40_91BIIIIB_41Z (q := 204) rfl rfl (argsL := [(.ref a832), (.int (2 : Int32)), (.int (3 : Int32)), (.int (2 : Int32)), (.int v1), (.int v830)]) (st := []) rfl rfl (w := 0) rfl (by decide) (by decide) (by decide) (by decide) (res := .int (f_ok (nar .byte v830) (2 : Int32) (3 : Int32) (2 : Int32) v1 v830)) ?_
            refine Go.if0 C at_204 (z_eq _) (qt := 298) (q := 207) (by decide) (by decide) rfl (fun b875 => ?_) (fun b875 => ?_)
            ·
              refine Go.iconst C (0 : Int32) at_298 (q := 299) rfl rfl ?_
              exact J872 _ (by rw [if_neg b873, if_neg b874, if_pos b875])
            ·
              refine Go.aload C at_207 (q := 209) rfl rfl rfl ?_
              refine Go.iconst C (3 : Int32) at_209 (q := 210) rfl rfl ?_
              refine Go.iload C at_210 (q := 212) rfl rfl ?_
              refine Go.iload C at_212 (q := 214) rfl rfl ?_
              refine Go.iload C at_214 (q := 216) rfl rfl ?_
              refine Go.iload C at_216 (q := 218) rfl rfl ?_
              refine Go.pureS C (hw _ (List.mem_of_getElem? (i := 6) rfl)) (hw _ (List.mem_of_getElem? (i := 7) rfl)) (hw _ (List.mem_of_getElem? (i := 8) rfl)) (hw _ (List.mem_of_getElem? (i := 9) rfl)) (c_f_ok W.l Z a0 hw a832 (3 : Int32) (3 : Int32) (2 : Int32) v1 v830 h864 n0 (upd (upd (upd (upd (upd (upd (upd (upd (upd (upd (fun _ => (0 : Int32)) 0 (nar .byte v830)) 1 (nar .byte v830)) 2 (nar .byte v830)) 3 (nar .byte v830)) 4 (nar .byte v830)) 5 (nar .byte v830)) 6 (nar .byte v830)) 7 (nar .byte v830)) 3 (nar .byte (v1 ||| (128 : Int32)).toInt8.toInt32)) 4 (nar .byte ((v1.toUInt32 >>> ((7 : Int32) &&& 31).toUInt32).toInt32).toInt8.toInt32)) F870 F866 (by decide)) at_218 pd__40_91BIIIIB_41Z (q := 221) rfl rfl (argsL := [(.ref a832), (.int (3 : Int32)), (.int (3 : Int32)), (.int (2 : Int32)), (.int v1), (.int v830)]) (st := []) rfl rfl (w := 0) rfl (by decide) (by decide) (by decide) (by decide) (res := .int (f_ok (nar .byte (v1 ||| (128 : Int32)).toInt8.toInt32) (3 : Int32) (3 : Int32) (2 : Int32) v1 v830)) ?_
              refine Go.if0 C at_221 (z_eq _) (qt := 298) (q := 224) (by decide) (by decide) rfl (fun b876 => ?_) (fun b876 => ?_)
              ·
                refine Go.iconst C (0 : Int32) at_298 (q := 299) rfl rfl ?_
                exact J872 _ (by rw [if_neg b873, if_neg b874, if_neg b875, if_pos b876])
              ·
                refine Go.aload C at_224 (q := 226) rfl rfl rfl ?_
                refine Go.iconst C (4 : Int32) at_226 (q := 227) rfl rfl ?_
                refine Go.iload C at_227 (q := 229) rfl rfl ?_
                refine Go.iload C at_229 (q := 231) rfl rfl ?_
                refine Go.iload C at_231 (q := 233) rfl rfl ?_
                refine Go.iload C at_233 (q := 235) rfl rfl ?_
                refine Go.pureS C (hw _ (List.mem_of_getElem? (i := 6) rfl)) (hw _ (List.mem_of_getElem? (i := 7) rfl)) (hw _ (List.mem_of_getElem? (i := 8) rfl)) (hw _ (List.mem_of_getElem? (i := 9) rfl)) (c_f_ok W.l Z a0 hw a832 (4 : Int32) (3 : Int32) (2 : Int32) v1 v830 h864 n0 (upd (upd (upd (upd (upd (upd (upd (upd (upd (upd (fun _ => (0 : Int32)) 0 (nar .byte v830)) 1 (nar .byte v830)) 2 (nar .byte v830)) 3 (nar .byte v830)) 4 (nar .byte v830)) 5 (nar .byte v830)) 6 (nar .byte v830)) 7 (nar .byte v830)) 3 (nar .byte (v1 ||| (128 : Int32)).toInt8.toInt32)) 4 (nar .byte ((v1.toUInt32 >>> ((7 : Int32) &&& 31).toUInt32).toInt32).toInt8.toInt32)) F870 F866 (by decide)) at_235 pd__40_91BIIIIB_41Z (q := 238) rfl rfl (argsL := [(.ref a832), (.int (4 : Int32)), (.int (3 : Int32)), (.int (2 : Int32)), (.int v1), (.int v830)]) (st := []) rfl rfl (w := 0) rfl (by decide) (by decide) (by decide) (by decide) (res := .int (f_ok (nar .byte ((v1.toUInt32 >>> ((7 : Int32) &&& 31).toUInt32).toInt32).toInt8.toInt32) (4 : Int32) (3 : Int32) (2 : Int32) v1 v830)) ?_
                refine Go.if0 C at_238 (z_eq _) (qt := 298) (q := 241) (by decide) (by decide) rfl (fun b877 => ?_) (fun b877 => ?_)
                ·
                  refine Go.iconst C (0 : Int32) at_298 (q := 299) rfl rfl ?_
                  exact J872 _ (by rw [if_neg b873, if_neg b874, if_neg b875, if_neg b876, if_pos b877])
                ·
                  refine Go.aload C at_241 (q := 243) rfl rfl rfl ?_
                  refine Go.iconst C (5 : Int32) at_243 (q := 244) rfl rfl ?_
                  refine Go.iload C at_244 (q := 246) rfl rfl ?_
                  refine Go.iload C at_246 (q := 248) rfl rfl ?_
                  refine Go.iload C at_248 (q := 250) rfl rfl ?_
                  refine Go.iload C at_250 (q := 252) rfl rfl ?_
                  refine Go.pureS C (hw _ (List.mem_of_getElem? (i := 6) rfl)) (hw _ (List.mem_of_getElem? (i := 7) rfl)) (hw _ (List.mem_of_getElem? (i := 8) rfl)) (hw _ (List.mem_of_getElem? (i := 9) rfl)) (c_f_ok W.l Z a0 hw a832 (5 : Int32) (3 : Int32) (2 : Int32) v1 v830 h864 n0 (upd (upd (upd (upd (upd (upd (upd (upd (upd (upd (fun _ => (0 : Int32)) 0 (nar .byte v830)) 1 (nar .byte v830)) 2 (nar .byte v830)) 3 (nar .byte v830)) 4 (nar .byte v830)) 5 (nar .byte v830)) 6 (nar .byte v830)) 7 (nar .byte v830)) 3 (nar .byte (v1 ||| (128 : Int32)).toInt8.toInt32)) 4 (nar .byte ((v1.toUInt32 >>> ((7 : Int32) &&& 31).toUInt32).toInt32).toInt8.toInt32)) F870 F866 (by decide)) at_252 pd__40_91BIIIIB_41Z (q := 255) rfl rfl (argsL := [(.ref a832), (.int (5 : Int32)), (.int (3 : Int32)), (.int (2 : Int32)), (.int v1), (.int v830)]) (st := []) rfl rfl (w := 0) rfl (by decide) (by decide) (by decide) (by decide) (res := .int (f_ok (nar .byte v830) (5 : Int32) (3 : Int32) (2 : Int32) v1 v830)) ?_
                  refine Go.if0 C at_255 (z_eq _) (qt := 298) (q := 258) (by decide) (by decide) rfl (fun b878 => ?_) (fun b878 => ?_)
                  ·
                    refine Go.iconst C (0 : Int32) at_298 (q := 299) rfl rfl ?_
                    exact J872 _ (by rw [if_neg b873, if_neg b874, if_neg b875, if_neg b876, if_neg b877, if_pos b878])
                  ·
                    refine Go.aload C at_258 (q := 260) rfl rfl rfl ?_
                    refine Go.bipush C (6 : Int32) at_260 (q := 262) rfl rfl ?_
                    refine Go.iload C at_262 (q := 264) rfl rfl ?_
                    refine Go.iload C at_264 (q := 266) rfl rfl ?_
                    refine Go.iload C at_266 (q := 268) rfl rfl ?_
                    refine Go.iload C at_268 (q := 270) rfl rfl ?_
                    refine Go.pureS C (hw _ (List.mem_of_getElem? (i := 6) rfl)) (hw _ (List.mem_of_getElem? (i := 7) rfl)) (hw _ (List.mem_of_getElem? (i := 8) rfl)) (hw _ (List.mem_of_getElem? (i := 9) rfl)) (c_f_ok W.l Z a0 hw a832 (6 : Int32) (3 : Int32) (2 : Int32) v1 v830 h864 n0 (upd (upd (upd (upd (upd (upd (upd (upd (upd (upd (fun _ => (0 : Int32)) 0 (nar .byte v830)) 1 (nar .byte v830)) 2 (nar .byte v830)) 3 (nar .byte v830)) 4 (nar .byte v830)) 5 (nar .byte v830)) 6 (nar .byte v830)) 7 (nar .byte v830)) 3 (nar .byte (v1 ||| (128 : Int32)).toInt8.toInt32)) 4 (nar .byte ((v1.toUInt32 >>> ((7 : Int32) &&& 31).toUInt32).toInt32).toInt8.toInt32)) F870 F866 (by decide)) at_270 pd__40_91BIIIIB_41Z (q := 273) rfl rfl (argsL := [(.ref a832), (.int (6 : Int32)), (.int (3 : Int32)), (.int (2 : Int32)), (.int v1), (.int v830)]) (st := []) rfl rfl (w := 0) rfl (by decide) (by decide) (by decide) (by decide) (res := .int (f_ok (nar .byte v830) (6 : Int32) (3 : Int32) (2 : Int32) v1 v830)) ?_
                    refine Go.if0 C at_273 (z_eq _) (qt := 298) (q := 276) (by decide) (by decide) rfl (fun b879 => ?_) (fun b879 => ?_)
                    ·
                      refine Go.iconst C (0 : Int32) at_298 (q := 299) rfl rfl ?_
                      exact J872 _ (by rw [if_neg b873, if_neg b874, if_neg b875, if_neg b876, if_neg b877, if_neg b878, if_pos b879])
                    ·
                      refine Go.aload C at_276 (q := 278) rfl rfl rfl ?_
                      refine Go.bipush C (7 : Int32) at_278 (q := 280) rfl rfl ?_
                      refine Go.iload C at_280 (q := 282) rfl rfl ?_
                      refine Go.iload C at_282 (q := 284) rfl rfl ?_
                      refine Go.iload C at_284 (q := 286) rfl rfl ?_
                      refine Go.iload C at_286 (q := 288) rfl rfl ?_
                      refine Go.pureS C (hw _ (List.mem_of_getElem? (i := 6) rfl)) (hw _ (List.mem_of_getElem? (i := 7) rfl)) (hw _ (List.mem_of_getElem? (i := 8) rfl)) (hw _ (List.mem_of_getElem? (i := 9) rfl)) (c_f_ok W.l Z a0 hw a832 (7 : Int32) (3 : Int32) (2 : Int32) v1 v830 h864 n0 (upd (upd (upd (upd (upd (upd (upd (upd (upd (upd (fun _ => (0 : Int32)) 0 (nar .byte v830)) 1 (nar .byte v830)) 2 (nar .byte v830)) 3 (nar .byte v830)) 4 (nar .byte v830)) 5 (nar .byte v830)) 6 (nar .byte v830)) 7 (nar .byte v830)) 3 (nar .byte (v1 ||| (128 : Int32)).toInt8.toInt32)) 4 (nar .byte ((v1.toUInt32 >>> ((7 : Int32) &&& 31).toUInt32).toInt32).toInt8.toInt32)) F870 F866 (by decide)) at_288 pd__40_91BIIIIB_41Z (q := 291) rfl rfl (argsL := [(.ref a832), (.int (7 : Int32)), (.int (3 : Int32)), (.int (2 : Int32)), (.int v1), (.int v830)]) (st := []) rfl rfl (w := 0) rfl (by decide) (by decide) (by decide) (by decide) (res := .int (f_ok (nar .byte v830) (7 : Int32) (3 : Int32) (2 : Int32) v1 v830)) ?_
                      refine Go.if0 C at_291 (z_eq _) (qt := 298) (q := 294) (by decide) (by decide) rfl (fun b880 => ?_) (fun b880 => ?_)
                      ·
                        refine Go.iconst C (0 : Int32) at_298 (q := 299) rfl rfl ?_
                        exact J872 _ (by rw [if_neg b873, if_neg b874, if_neg b875, if_neg b876, if_neg b877, if_neg b878, if_neg b879, if_pos b880])
                      ·
                        refine Go.iconst C (1 : Int32) at_294 (q := 295) rfl rfl ?_
                        refine Go.goto C at_295 (q := 299) (by decide) (by decide) ?_
                        exact J872 _ (by rw [if_neg b873, if_neg b874, if_neg b875, if_neg b876, if_neg b877, if_neg b878, if_neg b879, if_neg b880])
      intro v871 hv871
      exact Go.retZ (t := .boolean) (by simp) C at_299 (by decide) (by decide) (congrArg (fun z => some (Value.int z)) (fin16 p0 p1 p2 p3 v1 hv1  hv2  w0  w1 v830 hv830 v871 hv871))
    ·
      refine Go.istore C at_18 (q := 20) rfl (fun z => #[.val (.int p0), .val (.int p1), .val (.int p2), .val (.int p3), .val (.int v1), .val (.int (3 : Int32)), .val (.int z), .unset, .unset, .unset]) (fun _ => rfl) ?_
      intro v881 hv881
      refine Go.bipush C (8 : Int32) at_20 (q := 22) rfl rfl ?_
      refine Go.newP C (hw _ (List.mem_of_getElem? (i := 1) rfl)) (by decide) (cap := 8) (by decide) (by decide) at_22 (q := 24) rfl (k' := 1) rfl (n' := 8) rfl (by decide) (by decide) ?_
      intro h882 a883 cA884 g885 E886 Fn887
      have g889 : n0 ≤ a883 := g885 ▸ Z0
      have F888 : Av Z h882 a883 .byte 8 (iF (fun _ => (0 : Int32))) := Av.of Fn887
      refine Go.astore C at_24 (q := 26) rfl (l' := #[.val (.int p0), .val (.int p1), .val (.int p2), .val (.int p3), .val (.int v1), .val (.int (3 : Int32)), .val (.int v881), .val (.ref a883), .unset, .unset]) rfl rfl ?_
      refine Go.aload C at_26 (q := 28) rfl rfl rfl ?_
      refine Go.iconst C (0 : Int32) at_28 (q := 29) rfl rfl ?_
      refine Go.iload C at_29 (q := 31) rfl rfl ?_
      refine Go.bastore C F888 0 (by decide) (by decide) (by decide) g889 at_31 (q := 32) rfl ?_
      intro h890 W891
      have F892 := F888.sameI W891
      refine Go.aload C at_32 (q := 34) rfl rfl rfl ?_
      refine Go.iconst C (1 : Int32) at_34 (q := 35) rfl rfl ?_
      refine Go.iload C at_35 (q := 37) rfl rfl ?_
      refine Go.bastore C F892 1 (by decide) (by decide) (by decide) g889 at_37 (q := 38) rfl ?_
      intro h893 W894
      have F895 := F892.sameI W894
      refine Go.aload C at_38 (q := 40) rfl rfl rfl ?_
      refine Go.iconst C (2 : Int32) at_40 (q := 41) rfl rfl ?_
      refine Go.iload C at_41 (q := 43) rfl rfl ?_
      refine Go.bastore C F895 2 (by decide) (by decide) (by decide) g889 at_43 (q := 44) rfl ?_
      intro h896 W897
      have F898 := F895.sameI W897
      refine Go.aload C at_44 (q := 46) rfl rfl rfl ?_
      refine Go.iconst C (3 : Int32) at_46 (q := 47) rfl rfl ?_
      refine Go.iload C at_47 (q := 49) rfl rfl ?_
      refine Go.bastore C F898 3 (by decide) (by decide) (by decide) g889 at_49 (q := 50) rfl ?_
      intro h899 W900
      have F901 := F898.sameI W900
      refine Go.aload C at_50 (q := 52) rfl rfl rfl ?_
      refine Go.iconst C (4 : Int32) at_52 (q := 53) rfl rfl ?_
      refine Go.iload C at_53 (q := 55) rfl rfl ?_
      refine Go.bastore C F901 4 (by decide) (by decide) (by decide) g889 at_55 (q := 56) rfl ?_
      intro h902 W903
      have F904 := F901.sameI W903
      refine Go.aload C at_56 (q := 58) rfl rfl rfl ?_
      refine Go.iconst C (5 : Int32) at_58 (q := 59) rfl rfl ?_
      refine Go.iload C at_59 (q := 61) rfl rfl ?_
      refine Go.bastore C F904 5 (by decide) (by decide) (by decide) g889 at_61 (q := 62) rfl ?_
      intro h905 W906
      have F907 := F904.sameI W906
      refine Go.aload C at_62 (q := 64) rfl rfl rfl ?_
      refine Go.bipush C (6 : Int32) at_64 (q := 66) rfl rfl ?_
      refine Go.iload C at_66 (q := 68) rfl rfl ?_
      refine Go.bastore C F907 6 (by decide) (by decide) (by decide) g889 at_68 (q := 69) rfl ?_
      intro h908 W909
      have F910 := F907.sameI W909
      refine Go.aload C at_69 (q := 71) rfl rfl rfl ?_
      refine Go.bipush C (7 : Int32) at_71 (q := 73) rfl rfl ?_
      refine Go.iload C at_73 (q := 75) rfl rfl ?_
      refine Go.bastore C F910 7 (by decide) (by decide) (by decide) g889 at_75 (q := 76) rfl ?_
      intro h911 W912
      have F913 := F910.sameI W912
      refine Go.aload C at_76 (q := 78) rfl rfl rfl ?_
      refine Go.iload C at_78 (q := 80) rfl rfl ?_
      refine Go.iload C at_80 (q := 82) rfl rfl ?_
      have F914 := (Nat.le_trans (Nat.le_trans (Nat.le_trans (Nat.le_trans (Nat.le_trans (Nat.le_trans (Nat.le_trans (Nat.le_trans (Nat.le_trans Z0 E886.1) (Nat.le_of_eq W891.size.symm)) (Nat.le_of_eq W894.size.symm)) (Nat.le_of_eq W897.size.symm)) (Nat.le_of_eq W900.size.symm)) (Nat.le_of_eq W903.size.symm)) (Nat.le_of_eq W906.size.symm)) (Nat.le_of_eq W909.size.symm)) (Nat.le_of_eq W912.size.symm))
      refine Go.callS C (hw _ (List.mem_of_getElem? (i := 2) rfl)) (hw _ (List.mem_of_getElem? (i := 3) rfl)) (hw _ (List.mem_of_getElem? (i := 4) rfl)) (hw _ (List.mem_of_getElem? (i := 5) rfl)) (c_put3_3 W.l Z a0 hw a883 v1 h911 n0 (upd (upd (upd (upd (upd (upd (upd (upd (fun _ => (0 : Int32)) 0 (nar .byte v881)) 1 (nar .byte v881)) 2 (nar .byte v881)) 3 (nar .byte v881)) 4 (nar .byte v881)) 5 (nar .byte v881)) 6 (nar .byte v881)) 7 (nar .byte v881)) F914 F913 g889 w0 w1 w2) at_82 pd__40_91BII_41I (q := 85) rfl rfl (argsL := [(.ref a883), (.int (3 : Int32)), (.int v1)]) (st := []) rfl rfl (w := 0) rfl (by decide) (by decide) (k' := 1) rfl (n' := 8) rfl (by decide) (by decide) ?_
      intro v h915 q
      obtain ⟨rfl, K916, F917⟩ := q
      show Go W n0 QL h915 1 8 85 #[.val (.int p0), .val (.int p1), .val (.int p2), .val (.int p3), .val (.int v1), .val (.int (3 : Int32)), .val (.int v881), .val (.ref a883), .unset, .unset] [(.int (6 : Int32))]
      refine Go.istoreR C at_85 (q := 87) rfl (l' := #[.val (.int p0), .val (.int p1), .val (.int p2), .val (.int p3), .val (.int v1), .val (.int (3 : Int32)), .val (.int v881), .val (.ref a883), .val (.int (6 : Int32)), .unset]) rfl ?_
      refine Go.iload C at_87 (q := 89) rfl rfl ?_
      refine Go.sipush C (128 : Int32) at_89 (q := 92) rfl rfl ?_
      refine Go.icmp C at_92 (n_ge _ _) (qt := 101) (q := 95) (by decide) (by decide) rfl (fun _ => ?_) (fun b918 => absurd t0 b918)
      refine Go.iload C at_101 (q := 103) rfl rfl ?_
      refine Go.sipush C (16384 : Int32) at_103 (q := 106) rfl rfl ?_
      refine Go.icmp C at_106 (n_ge _ _) (qt := 115) (q := 109) (by decide) (by decide) rfl (fun _ => ?_) (fun b919 => absurd t1 b919)
      refine Go.iload C at_115 (q := 117) rfl rfl ?_
      refine Go.ldcI C (hw _ (List.mem_of_getElem? (i := 10) rfl)) at_117 (q := 119) rfl ?_
      refine Go.icmp C at_119 (n_ge _ _) (qt := 128) (q := 122) (by decide) (by decide) rfl (fun b920 => absurd t2 b920) (fun _ => ?_)
      refine Go.iconst C (3 : Int32) at_122 (q := 123) rfl rfl ?_
      refine Go.istoreR C at_123 (q := 125) rfl (l' := #[.val (.int p0), .val (.int p1), .val (.int p2), .val (.int p3), .val (.int v1), .val (.int (3 : Int32)), .val (.int v881), .val (.ref a883), .val (.int (6 : Int32)), .val (.int (3 : Int32))]) rfl ?_
      refine Go.goto C at_125 (q := 144) (by decide) (by decide) ?_
      refine Go.iload C at_144 (q := 146) rfl rfl ?_
      refine Go.iload C at_146 (q := 148) rfl rfl ?_
      refine Go.iload C at_148 (q := 150) rfl rfl ?_
      refine Go.iadd C at_150 (q := 151) rfl ?_
      refine Go.icmp C at_151 (n_eq _ _) (qt := 156) (q := 154) (by decide) (by decide) rfl (fun _ => ?_) (fun b921 => absurd b921 (by decide))
      refine Go.aload C at_156 (q := 158) rfl rfl rfl ?_
      refine Go.iconst C (0 : Int32) at_158 (q := 159) rfl rfl ?_
      refine Go.iload C at_159 (q := 161) rfl rfl ?_
      refine Go.iload C at_161 (q := 163) rfl rfl ?_
      refine Go.iload C at_163 (q := 165) rfl rfl ?_
      refine Go.iload C at_165 (q := 167) rfl rfl ?_
      have F922 := (Nat.le_trans F914 K916.1)
      refine Go.pureS C (hw _ (List.mem_of_getElem? (i := 6) rfl)) (hw _ (List.mem_of_getElem? (i := 7) rfl)) (hw _ (List.mem_of_getElem? (i := 8) rfl)) (hw _ (List.mem_of_getElem? (i := 9) rfl)) (c_f_ok W.l Z a0 hw a883 (0 : Int32) (3 : Int32) (3 : Int32) v1 v881 h915 n0 (upd (upd (upd (upd (upd (upd (upd (upd (upd (upd (upd (fun _ => (0 : Int32)) 0 (nar .byte v881)) 1 (nar .byte v881)) 2 (nar .byte v881)) 3 (nar .byte v881)) 4 (nar .byte v881)) 5 (nar .byte v881)) 6 (nar .byte v881)) 7 (nar .byte v881)) 3 (nar .byte (v1 ||| (128 : Int32)).toInt8.toInt32)) 4 (nar .byte (((v1.toUInt32 >>> ((7 : Int32) &&& 31).toUInt32).toInt32) ||| (128 : Int32)).toInt8.toInt32)) 5 (nar .byte ((((v1.toUInt32 >>> ((7 : Int32) &&& 31).toUInt32).toInt32).toUInt32 >>> ((7 : Int32) &&& 31).toUInt32).toInt32).toInt8.toInt32)) F922 F917 (by decide)) at_167 pd__40_91BIIIIB_41Z (q := 170) rfl rfl (argsL := [(.ref a883), (.int (0 : Int32)), (.int (3 : Int32)), (.int (3 : Int32)), (.int v1), (.int v881)]) (st := []) rfl rfl (w := 0) rfl (by decide) (by decide) (by decide) (by decide) (res := .int (f_ok (nar .byte v881) (0 : Int32) (3 : Int32) (3 : Int32) v1 v881)) ?_
      suffices J924 : ∀ v923 : Int32, v923 = (if (f_ok (nar .byte v881) (0 : Int32) (3 : Int32) (3 : Int32) v1 v881) = (0 : Int32) then (0 : Int32) else (if (f_ok (nar .byte v881) (1 : Int32) (3 : Int32) (3 : Int32) v1 v881) = (0 : Int32) then (0 : Int32) else (if (f_ok (nar .byte v881) (2 : Int32) (3 : Int32) (3 : Int32) v1 v881) = (0 : Int32) then (0 : Int32) else (if (f_ok (nar .byte (v1 ||| (128 : Int32)).toInt8.toInt32) (3 : Int32) (3 : Int32) (3 : Int32) v1 v881) = (0 : Int32) then (0 : Int32) else (if (f_ok (nar .byte (((v1.toUInt32 >>> ((7 : Int32) &&& 31).toUInt32).toInt32) ||| (128 : Int32)).toInt8.toInt32) (4 : Int32) (3 : Int32) (3 : Int32) v1 v881) = (0 : Int32) then (0 : Int32) else (if (f_ok (nar .byte ((((v1.toUInt32 >>> ((7 : Int32) &&& 31).toUInt32).toInt32).toUInt32 >>> ((7 : Int32) &&& 31).toUInt32).toInt32).toInt8.toInt32) (5 : Int32) (3 : Int32) (3 : Int32) v1 v881) = (0 : Int32) then (0 : Int32) else (if (f_ok (nar .byte v881) (6 : Int32) (3 : Int32) (3 : Int32) v1 v881) = (0 : Int32) then (0 : Int32) else (if (f_ok (nar .byte v881) (7 : Int32) (3 : Int32) (3 : Int32) v1 v881) = (0 : Int32) then (0 : Int32) else (1 : Int32))))))))) → Go W n0 QL h915 1 8 299 #[.val (.int p0), .val (.int p1), .val (.int p2), .val (.int p3), .val (.int v1), .val (.int (3 : Int32)), .val (.int v881), .val (.ref a883), .val (.int (6 : Int32)), .val (.int (3 : Int32))] [(.int v923)] by
        refine Go.if0 C at_170 (z_eq _) (qt := 298) (q := 173) (by decide) (by decide) rfl (fun b925 => ?_) (fun b925 => ?_)
        ·
          refine Go.iconst C (0 : Int32) at_298 (q := 299) rfl rfl ?_
          exact J924 _ (by rw [if_pos b925])
        ·
          refine Go.aload C at_173 (q := 175) rfl rfl rfl ?_
          refine Go.iconst C (1 : Int32) at_175 (q := 176) rfl rfl ?_
          refine Go.iload C at_176 (q := 178) rfl rfl ?_
          refine Go.iload C at_178 (q := 180) rfl rfl ?_
          refine Go.iload C at_180 (q := 182) rfl rfl ?_
          refine Go.iload C at_182 (q := 184) rfl rfl ?_
          refine Go.pureS C (hw _ (List.mem_of_getElem? (i := 6) rfl)) (hw _ (List.mem_of_getElem? (i := 7) rfl)) (hw _ (List.mem_of_getElem? (i := 8) rfl)) (hw _ (List.mem_of_getElem? (i := 9) rfl)) (c_f_ok W.l Z a0 hw a883 (1 : Int32) (3 : Int32) (3 : Int32) v1 v881 h915 n0 (upd (upd (upd (upd (upd (upd (upd (upd (upd (upd (upd (fun _ => (0 : Int32)) 0 (nar .byte v881)) 1 (nar .byte v881)) 2 (nar .byte v881)) 3 (nar .byte v881)) 4 (nar .byte v881)) 5 (nar .byte v881)) 6 (nar .byte v881)) 7 (nar .byte v881)) 3 (nar .byte (v1 ||| (128 : Int32)).toInt8.toInt32)) 4 (nar .byte (((v1.toUInt32 >>> ((7 : Int32) &&& 31).toUInt32).toInt32) ||| (128 : Int32)).toInt8.toInt32)) 5 (nar .byte ((((v1.toUInt32 >>> ((7 : Int32) &&& 31).toUInt32).toInt32).toUInt32 >>> ((7 : Int32) &&& 31).toUInt32).toInt32).toInt8.toInt32)) F922 F917 (by decide)) at_184 pd__40_91BIIIIB_41Z (q := 187) rfl rfl (argsL := [(.ref a883), (.int (1 : Int32)), (.int (3 : Int32)), (.int (3 : Int32)), (.int v1), (.int v881)]) (st := []) rfl rfl (w := 0) rfl (by decide) (by decide) (by decide) (by decide) (res := .int (f_ok (nar .byte v881) (1 : Int32) (3 : Int32) (3 : Int32) v1 v881)) ?_
          refine Go.if0 C at_187 (z_eq _) (qt := 298) (q := 190) (by decide) (by decide) rfl (fun b926 => ?_) (fun b926 => ?_)
          ·
            refine Go.iconst C (0 : Int32) at_298 (q := 299) rfl rfl ?_
            exact J924 _ (by rw [if_neg b925, if_pos b926])
          ·
            refine Go.aload C at_190 (q := 192) rfl rfl rfl ?_
            refine Go.iconst C (2 : Int32) at_192 (q := 193) rfl rfl ?_
            refine Go.iload C at_193 (q := 195) rfl rfl ?_
            refine Go.iload C at_195 (q := 197) rfl rfl ?_
            refine Go.iload C at_197 (q := 199) rfl rfl ?_
            refine Go.iload C at_199 (q := 201) rfl rfl ?_
            refine Go.pureS C (hw _ (List.mem_of_getElem? (i := 6) rfl)) (hw _ (List.mem_of_getElem? (i := 7) rfl)) (hw _ (List.mem_of_getElem? (i := 8) rfl)) (hw _ (List.mem_of_getElem? (i := 9) rfl)) (c_f_ok W.l Z a0 hw a883 (2 : Int32) (3 : Int32) (3 : Int32) v1 v881 h915 n0 (upd (upd (upd (upd (upd (upd (upd (upd (upd (upd (upd (fun _ => (0 : Int32)) 0 (nar .byte v881)) 1 (nar .byte v881)) 2 (nar .byte v881)) 3 (nar .byte v881)) 4 (nar .byte v881)) 5 (nar .byte v881)) 6 (nar .byte v881)) 7 (nar .byte v881)) 3 (nar .byte (v1 ||| (128 : Int32)).toInt8.toInt32)) 4 (nar .byte (((v1.toUInt32 >>> ((7 : Int32) &&& 31).toUInt32).toInt32) ||| (128 : Int32)).toInt8.toInt32)) 5 (nar .byte ((((v1.toUInt32 >>> ((7 : Int32) &&& 31).toUInt32).toInt32).toUInt32 >>> ((7 : Int32) &&& 31).toUInt32).toInt32).toInt8.toInt32)) F922 F917 (by decide)) at_201 pd__40_91BIIIIB_41Z (q := 204) rfl rfl (argsL := [(.ref a883), (.int (2 : Int32)), (.int (3 : Int32)), (.int (3 : Int32)), (.int v1), (.int v881)]) (st := []) rfl rfl (w := 0) rfl (by decide) (by decide) (by decide) (by decide) (res := .int (f_ok (nar .byte v881) (2 : Int32) (3 : Int32) (3 : Int32) v1 v881)) ?_
            refine Go.if0 C at_204 (z_eq _) (qt := 298) (q := 207) (by decide) (by decide) rfl (fun b927 => ?_) (fun b927 => ?_)
            ·
              refine Go.iconst C (0 : Int32) at_298 (q := 299) rfl rfl ?_
              exact J924 _ (by rw [if_neg b925, if_neg b926, if_pos b927])
            ·
              refine Go.aload C at_207 (q := 209) rfl rfl rfl ?_
              refine Go.iconst C (3 : Int32) at_209 (q := 210) rfl rfl ?_
              refine Go.iload C at_210 (q := 212) rfl rfl ?_
              refine Go.iload C at_212 (q := 214) rfl rfl ?_
              refine Go.iload C at_214 (q := 216) rfl rfl ?_
              refine Go.iload C at_216 (q := 218) rfl rfl ?_
              refine Go.pureS C (hw _ (List.mem_of_getElem? (i := 6) rfl)) (hw _ (List.mem_of_getElem? (i := 7) rfl)) (hw _ (List.mem_of_getElem? (i := 8) rfl)) (hw _ (List.mem_of_getElem? (i := 9) rfl)) (c_f_ok W.l Z a0 hw a883 (3 : Int32) (3 : Int32) (3 : Int32) v1 v881 h915 n0 (upd (upd (upd (upd (upd (upd (upd (upd (upd (upd (upd (fun _ => (0 : Int32)) 0 (nar .byte v881)) 1 (nar .byte v881)) 2 (nar .byte v881)) 3 (nar .byte v881)) 4 (nar .byte v881)) 5 (nar .byte v881)) 6 (nar .byte v881)) 7 (nar .byte v881)) 3 (nar .byte (v1 ||| (128 : Int32)).toInt8.toInt32)) 4 (nar .byte (((v1.toUInt32 >>> ((7 : Int32) &&& 31).toUInt32).toInt32) ||| (128 : Int32)).toInt8.toInt32)) 5 (nar .byte ((((v1.toUInt32 >>> ((7 : Int32) &&& 31).toUInt32).toInt32).toUInt32 >>> ((7 : Int32) &&& 31).toUInt32).toInt32).toInt8.toInt32)) F922 F917 (by decide)) at_218 pd__40_91BIIIIB_41Z (q := 221) rfl rfl (argsL := [(.ref a883), (.int (3 : Int32)), (.int (3 : Int32)), (.int (3 : Int32)), (.int v1), (.int v881)]) (st := []) rfl rfl (w := 0) rfl (by decide) (by decide) (by decide) (by decide) (res := .int (f_ok (nar .byte (v1 ||| (128 : Int32)).toInt8.toInt32) (3 : Int32) (3 : Int32) (3 : Int32) v1 v881)) ?_
              refine Go.if0 C at_221 (z_eq _) (qt := 298) (q := 224) (by decide) (by decide) rfl (fun b928 => ?_) (fun b928 => ?_)
              ·
                refine Go.iconst C (0 : Int32) at_298 (q := 299) rfl rfl ?_
                exact J924 _ (by rw [if_neg b925, if_neg b926, if_neg b927, if_pos b928])
              ·
                refine Go.aload C at_224 (q := 226) rfl rfl rfl ?_
                refine Go.iconst C (4 : Int32) at_226 (q := 227) rfl rfl ?_
                refine Go.iload C at_227 (q := 229) rfl rfl ?_
                refine Go.iload C at_229 (q := 231) rfl rfl ?_
                refine Go.iload C at_231 (q := 233) rfl rfl ?_
                refine Go.iload C at_233 (q := 235) rfl rfl ?_
                refine Go.pureS C (hw _ (List.mem_of_getElem? (i := 6) rfl)) (hw _ (List.mem_of_getElem? (i := 7) rfl)) (hw _ (List.mem_of_getElem? (i := 8) rfl)) (hw _ (List.mem_of_getElem? (i := 9) rfl)) (c_f_ok W.l Z a0 hw a883 (4 : Int32) (3 : Int32) (3 : Int32) v1 v881 h915 n0 (upd (upd (upd (upd (upd (upd (upd (upd (upd (upd (upd (fun _ => (0 : Int32)) 0 (nar .byte v881)) 1 (nar .byte v881)) 2 (nar .byte v881)) 3 (nar .byte v881)) 4 (nar .byte v881)) 5 (nar .byte v881)) 6 (nar .byte v881)) 7 (nar .byte v881)) 3 (nar .byte (v1 ||| (128 : Int32)).toInt8.toInt32)) 4 (nar .byte (((v1.toUInt32 >>> ((7 : Int32) &&& 31).toUInt32).toInt32) ||| (128 : Int32)).toInt8.toInt32)) 5 (nar .byte ((((v1.toUInt32 >>> ((7 : Int32) &&& 31).toUInt32).toInt32).toUInt32 >>> ((7 : Int32) &&& 31).toUInt32).toInt32).toInt8.toInt32)) F922 F917 (by decide)) at_235 pd__40_91BIIIIB_41Z (q := 238) rfl rfl (argsL := [(.ref a883), (.int (4 : Int32)), (.int (3 : Int32)), (.int (3 : Int32)), (.int v1), (.int v881)]) (st := []) rfl rfl (w := 0) rfl (by decide) (by decide) (by decide) (by decide) (res := .int (f_ok (nar .byte (((v1.toUInt32 >>> ((7 : Int32) &&& 31).toUInt32).toInt32) ||| (128 : Int32)).toInt8.toInt32) (4 : Int32) (3 : Int32) (3 : Int32) v1 v881)) ?_
                refine Go.if0 C at_238 (z_eq _) (qt := 298) (q := 241) (by decide) (by decide) rfl (fun b929 => ?_) (fun b929 => ?_)
                ·
                  refine Go.iconst C (0 : Int32) at_298 (q := 299) rfl rfl ?_
                  exact J924 _ (by rw [if_neg b925, if_neg b926, if_neg b927, if_neg b928, if_pos b929])
                ·
                  refine Go.aload C at_241 (q := 243) rfl rfl rfl ?_
                  refine Go.iconst C (5 : Int32) at_243 (q := 244) rfl rfl ?_
                  refine Go.iload C at_244 (q := 246) rfl rfl ?_
                  refine Go.iload C at_246 (q := 248) rfl rfl ?_
                  refine Go.iload C at_248 (q := 250) rfl rfl ?_
                  refine Go.iload C at_250 (q := 252) rfl rfl ?_
                  refine Go.pureS C (hw _ (List.mem_of_getElem? (i := 6) rfl)) (hw _ (List.mem_of_getElem? (i := 7) rfl)) (hw _ (List.mem_of_getElem? (i := 8) rfl)) (hw _ (List.mem_of_getElem? (i := 9) rfl)) (c_f_ok W.l Z a0 hw a883 (5 : Int32) (3 : Int32) (3 : Int32) v1 v881 h915 n0 (upd (upd (upd (upd (upd (upd (upd (upd (upd (upd (upd (fun _ => (0 : Int32)) 0 (nar .byte v881)) 1 (nar .byte v881)) 2 (nar .byte v881)) 3 (nar .byte v881)) 4 (nar .byte v881)) 5 (nar .byte v881)) 6 (nar .byte v881)) 7 (nar .byte v881)) 3 (nar .byte (v1 ||| (128 : Int32)).toInt8.toInt32)) 4 (nar .byte (((v1.toUInt32 >>> ((7 : Int32) &&& 31).toUInt32).toInt32) ||| (128 : Int32)).toInt8.toInt32)) 5 (nar .byte ((((v1.toUInt32 >>> ((7 : Int32) &&& 31).toUInt32).toInt32).toUInt32 >>> ((7 : Int32) &&& 31).toUInt32).toInt32).toInt8.toInt32)) F922 F917 (by decide)) at_252 pd__40_91BIIIIB_41Z (q := 255) rfl rfl (argsL := [(.ref a883), (.int (5 : Int32)), (.int (3 : Int32)), (.int (3 : Int32)), (.int v1), (.int v881)]) (st := []) rfl rfl (w := 0) rfl (by decide) (by decide) (by decide) (by decide) (res := .int (f_ok (nar .byte ((((v1.toUInt32 >>> ((7 : Int32) &&& 31).toUInt32).toInt32).toUInt32 >>> ((7 : Int32) &&& 31).toUInt32).toInt32).toInt8.toInt32) (5 : Int32) (3 : Int32) (3 : Int32) v1 v881)) ?_
                  refine Go.if0 C at_255 (z_eq _) (qt := 298) (q := 258) (by decide) (by decide) rfl (fun b930 => ?_) (fun b930 => ?_)
                  ·
                    refine Go.iconst C (0 : Int32) at_298 (q := 299) rfl rfl ?_
                    exact J924 _ (by rw [if_neg b925, if_neg b926, if_neg b927, if_neg b928, if_neg b929, if_pos b930])
                  ·
                    refine Go.aload C at_258 (q := 260) rfl rfl rfl ?_
                    refine Go.bipush C (6 : Int32) at_260 (q := 262) rfl rfl ?_
                    refine Go.iload C at_262 (q := 264) rfl rfl ?_
                    refine Go.iload C at_264 (q := 266) rfl rfl ?_
                    refine Go.iload C at_266 (q := 268) rfl rfl ?_
                    refine Go.iload C at_268 (q := 270) rfl rfl ?_
                    refine Go.pureS C (hw _ (List.mem_of_getElem? (i := 6) rfl)) (hw _ (List.mem_of_getElem? (i := 7) rfl)) (hw _ (List.mem_of_getElem? (i := 8) rfl)) (hw _ (List.mem_of_getElem? (i := 9) rfl)) (c_f_ok W.l Z a0 hw a883 (6 : Int32) (3 : Int32) (3 : Int32) v1 v881 h915 n0 (upd (upd (upd (upd (upd (upd (upd (upd (upd (upd (upd (fun _ => (0 : Int32)) 0 (nar .byte v881)) 1 (nar .byte v881)) 2 (nar .byte v881)) 3 (nar .byte v881)) 4 (nar .byte v881)) 5 (nar .byte v881)) 6 (nar .byte v881)) 7 (nar .byte v881)) 3 (nar .byte (v1 ||| (128 : Int32)).toInt8.toInt32)) 4 (nar .byte (((v1.toUInt32 >>> ((7 : Int32) &&& 31).toUInt32).toInt32) ||| (128 : Int32)).toInt8.toInt32)) 5 (nar .byte ((((v1.toUInt32 >>> ((7 : Int32) &&& 31).toUInt32).toInt32).toUInt32 >>> ((7 : Int32) &&& 31).toUInt32).toInt32).toInt8.toInt32)) F922 F917 (by decide)) at_270 pd__40_91BIIIIB_41Z (q := 273) rfl rfl (argsL := [(.ref a883), (.int (6 : Int32)), (.int (3 : Int32)), (.int (3 : Int32)), (.int v1), (.int v881)]) (st := []) rfl rfl (w := 0) rfl (by decide) (by decide) (by decide) (by decide) (res := .int (f_ok (nar .byte v881) (6 : Int32) (3 : Int32) (3 : Int32) v1 v881)) ?_
                    refine Go.if0 C at_273 (z_eq _) (qt := 298) (q := 276) (by decide) (by decide) rfl (fun b931 => ?_) (fun b931 => ?_)
                    ·
                      refine Go.iconst C (0 : Int32) at_298 (q := 299) rfl rfl ?_
                      exact J924 _ (by rw [if_neg b925, if_neg b926, if_neg b927, if_neg b928, if_neg b929, if_neg b930, if_pos b931])
                    ·
                      refine Go.aload C at_276 (q := 278) rfl rfl rfl ?_
                      refine Go.bipush C (7 : Int32) at_278 (q := 280) rfl rfl ?_
                      refine Go.iload C at_280 (q := 282) rfl rfl ?_
                      refine Go.iload C at_282 (q := 284) rfl rfl ?_
                      refine Go.iload C at_284 (q := 286) rfl rfl ?_
                      refine Go.iload C at_286 (q := 288) rfl rfl ?_
                      refine Go.pureS C (hw _ (List.mem_of_getElem? (i := 6) rfl)) (hw _ (List.mem_of_getElem? (i := 7) rfl)) (hw _ (List.mem_of_getElem? (i := 8) rfl)) (hw _ (List.mem_of_getElem? (i := 9) rfl)) (c_f_ok W.l Z a0 hw a883 (7 : Int32) (3 : Int32) (3 : Int32) v1 v881 h915 n0 (upd (upd (upd (upd (upd (upd (upd (upd (upd (upd (upd (fun _ => (0 : Int32)) 0 (nar .byte v881)) 1 (nar .byte v881)) 2 (nar .byte v881)) 3 (nar .byte v881)) 4 (nar .byte v881)) 5 (nar .byte v881)) 6 (nar .byte v881)) 7 (nar .byte v881)) 3 (nar .byte (v1 ||| (128 : Int32)).toInt8.toInt32)) 4 (nar .byte (((v1.toUInt32 >>> ((7 : Int32) &&& 31).toUInt32).toInt32) ||| (128 : Int32)).toInt8.toInt32)) 5 (nar .byte ((((v1.toUInt32 >>> ((7 : Int32) &&& 31).toUInt32).toInt32).toUInt32 >>> ((7 : Int32) &&& 31).toUInt32).toInt32).toInt8.toInt32)) F922 F917 (by decide)) at_288 pd__40_91BIIIIB_41Z (q := 291) rfl rfl (argsL := [(.ref a883), (.int (7 : Int32)), (.int (3 : Int32)), (.int (3 : Int32)), (.int v1), (.int v881)]) (st := []) rfl rfl (w := 0) rfl (by decide) (by decide) (by decide) (by decide) (res := .int (f_ok (nar .byte v881) (7 : Int32) (3 : Int32) (3 : Int32) v1 v881)) ?_
                      refine Go.if0 C at_291 (z_eq _) (qt := 298) (q := 294) (by decide) (by decide) rfl (fun b932 => ?_) (fun b932 => ?_)
                      ·
                        refine Go.iconst C (0 : Int32) at_298 (q := 299) rfl rfl ?_
                        exact J924 _ (by rw [if_neg b925, if_neg b926, if_neg b927, if_neg b928, if_neg b929, if_neg b930, if_neg b931, if_pos b932])
                      ·
                        refine Go.iconst C (1 : Int32) at_294 (q := 295) rfl rfl ?_
                        refine Go.goto C at_295 (q := 299) (by decide) (by decide) ?_
                        exact J924 _ (by rw [if_neg b925, if_neg b926, if_neg b927, if_neg b928, if_neg b929, if_neg b930, if_neg b931, if_neg b932])
      intro v923 hv923
      exact Go.retZ (t := .boolean) (by simp) C at_299 (by decide) (by decide) (congrArg (fun z => some (Value.int z)) (fin17 p0 p1 p2 p3 v1 hv1  hv2  w0  w1  w2 v881 hv881 v923 hv923))
    ·
      refine Go.istore C at_18 (q := 20) rfl (fun z => #[.val (.int p0), .val (.int p1), .val (.int p2), .val (.int p3), .val (.int v1), .val (.int (3 : Int32)), .val (.int z), .unset, .unset, .unset]) (fun _ => rfl) ?_
      intro v933 hv933
      refine Go.bipush C (8 : Int32) at_20 (q := 22) rfl rfl ?_
      refine Go.newP C (hw _ (List.mem_of_getElem? (i := 1) rfl)) (by decide) (cap := 8) (by decide) (by decide) at_22 (q := 24) rfl (k' := 1) rfl (n' := 8) rfl (by decide) (by decide) ?_
      intro h934 a935 cA936 g937 E938 Fn939
      have g941 : n0 ≤ a935 := g937 ▸ Z0
      have F940 : Av Z h934 a935 .byte 8 (iF (fun _ => (0 : Int32))) := Av.of Fn939
      refine Go.astore C at_24 (q := 26) rfl (l' := #[.val (.int p0), .val (.int p1), .val (.int p2), .val (.int p3), .val (.int v1), .val (.int (3 : Int32)), .val (.int v933), .val (.ref a935), .unset, .unset]) rfl rfl ?_
      refine Go.aload C at_26 (q := 28) rfl rfl rfl ?_
      refine Go.iconst C (0 : Int32) at_28 (q := 29) rfl rfl ?_
      refine Go.iload C at_29 (q := 31) rfl rfl ?_
      refine Go.bastore C F940 0 (by decide) (by decide) (by decide) g941 at_31 (q := 32) rfl ?_
      intro h942 W943
      have F944 := F940.sameI W943
      refine Go.aload C at_32 (q := 34) rfl rfl rfl ?_
      refine Go.iconst C (1 : Int32) at_34 (q := 35) rfl rfl ?_
      refine Go.iload C at_35 (q := 37) rfl rfl ?_
      refine Go.bastore C F944 1 (by decide) (by decide) (by decide) g941 at_37 (q := 38) rfl ?_
      intro h945 W946
      have F947 := F944.sameI W946
      refine Go.aload C at_38 (q := 40) rfl rfl rfl ?_
      refine Go.iconst C (2 : Int32) at_40 (q := 41) rfl rfl ?_
      refine Go.iload C at_41 (q := 43) rfl rfl ?_
      refine Go.bastore C F947 2 (by decide) (by decide) (by decide) g941 at_43 (q := 44) rfl ?_
      intro h948 W949
      have F950 := F947.sameI W949
      refine Go.aload C at_44 (q := 46) rfl rfl rfl ?_
      refine Go.iconst C (3 : Int32) at_46 (q := 47) rfl rfl ?_
      refine Go.iload C at_47 (q := 49) rfl rfl ?_
      refine Go.bastore C F950 3 (by decide) (by decide) (by decide) g941 at_49 (q := 50) rfl ?_
      intro h951 W952
      have F953 := F950.sameI W952
      refine Go.aload C at_50 (q := 52) rfl rfl rfl ?_
      refine Go.iconst C (4 : Int32) at_52 (q := 53) rfl rfl ?_
      refine Go.iload C at_53 (q := 55) rfl rfl ?_
      refine Go.bastore C F953 4 (by decide) (by decide) (by decide) g941 at_55 (q := 56) rfl ?_
      intro h954 W955
      have F956 := F953.sameI W955
      refine Go.aload C at_56 (q := 58) rfl rfl rfl ?_
      refine Go.iconst C (5 : Int32) at_58 (q := 59) rfl rfl ?_
      refine Go.iload C at_59 (q := 61) rfl rfl ?_
      refine Go.bastore C F956 5 (by decide) (by decide) (by decide) g941 at_61 (q := 62) rfl ?_
      intro h957 W958
      have F959 := F956.sameI W958
      refine Go.aload C at_62 (q := 64) rfl rfl rfl ?_
      refine Go.bipush C (6 : Int32) at_64 (q := 66) rfl rfl ?_
      refine Go.iload C at_66 (q := 68) rfl rfl ?_
      refine Go.bastore C F959 6 (by decide) (by decide) (by decide) g941 at_68 (q := 69) rfl ?_
      intro h960 W961
      have F962 := F959.sameI W961
      refine Go.aload C at_69 (q := 71) rfl rfl rfl ?_
      refine Go.bipush C (7 : Int32) at_71 (q := 73) rfl rfl ?_
      refine Go.iload C at_73 (q := 75) rfl rfl ?_
      refine Go.bastore C F962 7 (by decide) (by decide) (by decide) g941 at_75 (q := 76) rfl ?_
      intro h963 W964
      have F965 := F962.sameI W964
      refine Go.aload C at_76 (q := 78) rfl rfl rfl ?_
      refine Go.iload C at_78 (q := 80) rfl rfl ?_
      refine Go.iload C at_80 (q := 82) rfl rfl ?_
      have F966 := (Nat.le_trans (Nat.le_trans (Nat.le_trans (Nat.le_trans (Nat.le_trans (Nat.le_trans (Nat.le_trans (Nat.le_trans (Nat.le_trans Z0 E938.1) (Nat.le_of_eq W943.size.symm)) (Nat.le_of_eq W946.size.symm)) (Nat.le_of_eq W949.size.symm)) (Nat.le_of_eq W952.size.symm)) (Nat.le_of_eq W955.size.symm)) (Nat.le_of_eq W958.size.symm)) (Nat.le_of_eq W961.size.symm)) (Nat.le_of_eq W964.size.symm))
      refine Go.callS C (hw _ (List.mem_of_getElem? (i := 2) rfl)) (hw _ (List.mem_of_getElem? (i := 3) rfl)) (hw _ (List.mem_of_getElem? (i := 4) rfl)) (hw _ (List.mem_of_getElem? (i := 5) rfl)) (c_put3_4 W.l Z a0 hw a935 v1 h963 n0 (upd (upd (upd (upd (upd (upd (upd (upd (fun _ => (0 : Int32)) 0 (nar .byte v933)) 1 (nar .byte v933)) 2 (nar .byte v933)) 3 (nar .byte v933)) 4 (nar .byte v933)) 5 (nar .byte v933)) 6 (nar .byte v933)) 7 (nar .byte v933)) F966 F965 g941 w0 w1 w2 w3) at_82 pd__40_91BII_41I (q := 85) rfl rfl (argsL := [(.ref a935), (.int (3 : Int32)), (.int v1)]) (st := []) rfl rfl (w := 0) rfl (by decide) (by decide) (k' := 1) rfl (n' := 8) rfl (by decide) (by decide) ?_
      intro v h967 q
      obtain ⟨rfl, K968, F969⟩ := q
      show Go W n0 QL h967 1 8 85 #[.val (.int p0), .val (.int p1), .val (.int p2), .val (.int p3), .val (.int v1), .val (.int (3 : Int32)), .val (.int v933), .val (.ref a935), .unset, .unset] [(.int (7 : Int32))]
      refine Go.istoreR C at_85 (q := 87) rfl (l' := #[.val (.int p0), .val (.int p1), .val (.int p2), .val (.int p3), .val (.int v1), .val (.int (3 : Int32)), .val (.int v933), .val (.ref a935), .val (.int (7 : Int32)), .unset]) rfl ?_
      refine Go.iload C at_87 (q := 89) rfl rfl ?_
      refine Go.sipush C (128 : Int32) at_89 (q := 92) rfl rfl ?_
      refine Go.icmp C at_92 (n_ge _ _) (qt := 101) (q := 95) (by decide) (by decide) rfl (fun _ => ?_) (fun b970 => absurd t0 b970)
      refine Go.iload C at_101 (q := 103) rfl rfl ?_
      refine Go.sipush C (16384 : Int32) at_103 (q := 106) rfl rfl ?_
      refine Go.icmp C at_106 (n_ge _ _) (qt := 115) (q := 109) (by decide) (by decide) rfl (fun _ => ?_) (fun b971 => absurd t1 b971)
      refine Go.iload C at_115 (q := 117) rfl rfl ?_
      refine Go.ldcI C (hw _ (List.mem_of_getElem? (i := 10) rfl)) at_117 (q := 119) rfl ?_
      refine Go.icmp C at_119 (n_ge _ _) (qt := 128) (q := 122) (by decide) (by decide) rfl (fun _ => ?_) (fun b972 => absurd t2 b972)
      refine Go.iload C at_128 (q := 130) rfl rfl ?_
      refine Go.ldcI C (hw _ (List.mem_of_getElem? (i := 11) rfl)) at_130 (q := 132) rfl ?_
      refine Go.icmp C at_132 (n_ge _ _) (qt := 141) (q := 135) (by decide) (by decide) rfl (fun b973 => absurd t3 b973) (fun _ => ?_)
      refine Go.iconst C (4 : Int32) at_135 (q := 136) rfl rfl ?_
      refine Go.istoreR C at_136 (q := 138) rfl (l' := #[.val (.int p0), .val (.int p1), .val (.int p2), .val (.int p3), .val (.int v1), .val (.int (3 : Int32)), .val (.int v933), .val (.ref a935), .val (.int (7 : Int32)), .val (.int (4 : Int32))]) rfl ?_
      refine Go.goto C at_138 (q := 144) (by decide) (by decide) ?_
      refine Go.iload C at_144 (q := 146) rfl rfl ?_
      refine Go.iload C at_146 (q := 148) rfl rfl ?_
      refine Go.iload C at_148 (q := 150) rfl rfl ?_
      refine Go.iadd C at_150 (q := 151) rfl ?_
      refine Go.icmp C at_151 (n_eq _ _) (qt := 156) (q := 154) (by decide) (by decide) rfl (fun _ => ?_) (fun b974 => absurd b974 (by decide))
      refine Go.aload C at_156 (q := 158) rfl rfl rfl ?_
      refine Go.iconst C (0 : Int32) at_158 (q := 159) rfl rfl ?_
      refine Go.iload C at_159 (q := 161) rfl rfl ?_
      refine Go.iload C at_161 (q := 163) rfl rfl ?_
      refine Go.iload C at_163 (q := 165) rfl rfl ?_
      refine Go.iload C at_165 (q := 167) rfl rfl ?_
      have F975 := (Nat.le_trans F966 K968.1)
      refine Go.pureS C (hw _ (List.mem_of_getElem? (i := 6) rfl)) (hw _ (List.mem_of_getElem? (i := 7) rfl)) (hw _ (List.mem_of_getElem? (i := 8) rfl)) (hw _ (List.mem_of_getElem? (i := 9) rfl)) (c_f_ok W.l Z a0 hw a935 (0 : Int32) (3 : Int32) (4 : Int32) v1 v933 h967 n0 (upd (upd (upd (upd (upd (upd (upd (upd (upd (upd (upd (upd (fun _ => (0 : Int32)) 0 (nar .byte v933)) 1 (nar .byte v933)) 2 (nar .byte v933)) 3 (nar .byte v933)) 4 (nar .byte v933)) 5 (nar .byte v933)) 6 (nar .byte v933)) 7 (nar .byte v933)) 3 (nar .byte (v1 ||| (128 : Int32)).toInt8.toInt32)) 4 (nar .byte (((v1.toUInt32 >>> ((7 : Int32) &&& 31).toUInt32).toInt32) ||| (128 : Int32)).toInt8.toInt32)) 5 (nar .byte (((((v1.toUInt32 >>> ((7 : Int32) &&& 31).toUInt32).toInt32).toUInt32 >>> ((7 : Int32) &&& 31).toUInt32).toInt32) ||| (128 : Int32)).toInt8.toInt32)) 6 (nar .byte ((((((v1.toUInt32 >>> ((7 : Int32) &&& 31).toUInt32).toInt32).toUInt32 >>> ((7 : Int32) &&& 31).toUInt32).toInt32).toUInt32 >>> ((7 : Int32) &&& 31).toUInt32).toInt32).toInt8.toInt32)) F975 F969 (by decide)) at_167 pd__40_91BIIIIB_41Z (q := 170) rfl rfl (argsL := [(.ref a935), (.int (0 : Int32)), (.int (3 : Int32)), (.int (4 : Int32)), (.int v1), (.int v933)]) (st := []) rfl rfl (w := 0) rfl (by decide) (by decide) (by decide) (by decide) (res := .int (f_ok (nar .byte v933) (0 : Int32) (3 : Int32) (4 : Int32) v1 v933)) ?_
      suffices J977 : ∀ v976 : Int32, v976 = (if (f_ok (nar .byte v933) (0 : Int32) (3 : Int32) (4 : Int32) v1 v933) = (0 : Int32) then (0 : Int32) else (if (f_ok (nar .byte v933) (1 : Int32) (3 : Int32) (4 : Int32) v1 v933) = (0 : Int32) then (0 : Int32) else (if (f_ok (nar .byte v933) (2 : Int32) (3 : Int32) (4 : Int32) v1 v933) = (0 : Int32) then (0 : Int32) else (if (f_ok (nar .byte (v1 ||| (128 : Int32)).toInt8.toInt32) (3 : Int32) (3 : Int32) (4 : Int32) v1 v933) = (0 : Int32) then (0 : Int32) else (if (f_ok (nar .byte (((v1.toUInt32 >>> ((7 : Int32) &&& 31).toUInt32).toInt32) ||| (128 : Int32)).toInt8.toInt32) (4 : Int32) (3 : Int32) (4 : Int32) v1 v933) = (0 : Int32) then (0 : Int32) else (if (f_ok (nar .byte (((((v1.toUInt32 >>> ((7 : Int32) &&& 31).toUInt32).toInt32).toUInt32 >>> ((7 : Int32) &&& 31).toUInt32).toInt32) ||| (128 : Int32)).toInt8.toInt32) (5 : Int32) (3 : Int32) (4 : Int32) v1 v933) = (0 : Int32) then (0 : Int32) else (if (f_ok (nar .byte ((((((v1.toUInt32 >>> ((7 : Int32) &&& 31).toUInt32).toInt32).toUInt32 >>> ((7 : Int32) &&& 31).toUInt32).toInt32).toUInt32 >>> ((7 : Int32) &&& 31).toUInt32).toInt32).toInt8.toInt32) (6 : Int32) (3 : Int32) (4 : Int32) v1 v933) = (0 : Int32) then (0 : Int32) else (if (f_ok (nar .byte v933) (7 : Int32) (3 : Int32) (4 : Int32) v1 v933) = (0 : Int32) then (0 : Int32) else (1 : Int32))))))))) → Go W n0 QL h967 1 8 299 #[.val (.int p0), .val (.int p1), .val (.int p2), .val (.int p3), .val (.int v1), .val (.int (3 : Int32)), .val (.int v933), .val (.ref a935), .val (.int (7 : Int32)), .val (.int (4 : Int32))] [(.int v976)] by
        refine Go.if0 C at_170 (z_eq _) (qt := 298) (q := 173) (by decide) (by decide) rfl (fun b978 => ?_) (fun b978 => ?_)
        ·
          refine Go.iconst C (0 : Int32) at_298 (q := 299) rfl rfl ?_
          exact J977 _ (by rw [if_pos b978])
        ·
          refine Go.aload C at_173 (q := 175) rfl rfl rfl ?_
          refine Go.iconst C (1 : Int32) at_175 (q := 176) rfl rfl ?_
          refine Go.iload C at_176 (q := 178) rfl rfl ?_
          refine Go.iload C at_178 (q := 180) rfl rfl ?_
          refine Go.iload C at_180 (q := 182) rfl rfl ?_
          refine Go.iload C at_182 (q := 184) rfl rfl ?_
          refine Go.pureS C (hw _ (List.mem_of_getElem? (i := 6) rfl)) (hw _ (List.mem_of_getElem? (i := 7) rfl)) (hw _ (List.mem_of_getElem? (i := 8) rfl)) (hw _ (List.mem_of_getElem? (i := 9) rfl)) (c_f_ok W.l Z a0 hw a935 (1 : Int32) (3 : Int32) (4 : Int32) v1 v933 h967 n0 (upd (upd (upd (upd (upd (upd (upd (upd (upd (upd (upd (upd (fun _ => (0 : Int32)) 0 (nar .byte v933)) 1 (nar .byte v933)) 2 (nar .byte v933)) 3 (nar .byte v933)) 4 (nar .byte v933)) 5 (nar .byte v933)) 6 (nar .byte v933)) 7 (nar .byte v933)) 3 (nar .byte (v1 ||| (128 : Int32)).toInt8.toInt32)) 4 (nar .byte (((v1.toUInt32 >>> ((7 : Int32) &&& 31).toUInt32).toInt32) ||| (128 : Int32)).toInt8.toInt32)) 5 (nar .byte (((((v1.toUInt32 >>> ((7 : Int32) &&& 31).toUInt32).toInt32).toUInt32 >>> ((7 : Int32) &&& 31).toUInt32).toInt32) ||| (128 : Int32)).toInt8.toInt32)) 6 (nar .byte ((((((v1.toUInt32 >>> ((7 : Int32) &&& 31).toUInt32).toInt32).toUInt32 >>> ((7 : Int32) &&& 31).toUInt32).toInt32).toUInt32 >>> ((7 : Int32) &&& 31).toUInt32).toInt32).toInt8.toInt32)) F975 F969 (by decide)) at_184 pd__40_91BIIIIB_41Z (q := 187) rfl rfl (argsL := [(.ref a935), (.int (1 : Int32)), (.int (3 : Int32)), (.int (4 : Int32)), (.int v1), (.int v933)]) (st := []) rfl rfl (w := 0) rfl (by decide) (by decide) (by decide) (by decide) (res := .int (f_ok (nar .byte v933) (1 : Int32) (3 : Int32) (4 : Int32) v1 v933)) ?_
          refine Go.if0 C at_187 (z_eq _) (qt := 298) (q := 190) (by decide) (by decide) rfl (fun b979 => ?_) (fun b979 => ?_)
          ·
            refine Go.iconst C (0 : Int32) at_298 (q := 299) rfl rfl ?_
            exact J977 _ (by rw [if_neg b978, if_pos b979])
          ·
            refine Go.aload C at_190 (q := 192) rfl rfl rfl ?_
            refine Go.iconst C (2 : Int32) at_192 (q := 193) rfl rfl ?_
            refine Go.iload C at_193 (q := 195) rfl rfl ?_
            refine Go.iload C at_195 (q := 197) rfl rfl ?_
            refine Go.iload C at_197 (q := 199) rfl rfl ?_
            refine Go.iload C at_199 (q := 201) rfl rfl ?_
            refine Go.pureS C (hw _ (List.mem_of_getElem? (i := 6) rfl)) (hw _ (List.mem_of_getElem? (i := 7) rfl)) (hw _ (List.mem_of_getElem? (i := 8) rfl)) (hw _ (List.mem_of_getElem? (i := 9) rfl)) (c_f_ok W.l Z a0 hw a935 (2 : Int32) (3 : Int32) (4 : Int32) v1 v933 h967 n0 (upd (upd (upd (upd (upd (upd (upd (upd (upd (upd (upd (upd (fun _ => (0 : Int32)) 0 (nar .byte v933)) 1 (nar .byte v933)) 2 (nar .byte v933)) 3 (nar .byte v933)) 4 (nar .byte v933)) 5 (nar .byte v933)) 6 (nar .byte v933)) 7 (nar .byte v933)) 3 (nar .byte (v1 ||| (128 : Int32)).toInt8.toInt32)) 4 (nar .byte (((v1.toUInt32 >>> ((7 : Int32) &&& 31).toUInt32).toInt32) ||| (128 : Int32)).toInt8.toInt32)) 5 (nar .byte (((((v1.toUInt32 >>> ((7 : Int32) &&& 31).toUInt32).toInt32).toUInt32 >>> ((7 : Int32) &&& 31).toUInt32).toInt32) ||| (128 : Int32)).toInt8.toInt32)) 6 (nar .byte ((((((v1.toUInt32 >>> ((7 : Int32) &&& 31).toUInt32).toInt32).toUInt32 >>> ((7 : Int32) &&& 31).toUInt32).toInt32).toUInt32 >>> ((7 : Int32) &&& 31).toUInt32).toInt32).toInt8.toInt32)) F975 F969 (by decide)) at_201 pd__40_91BIIIIB_41Z (q := 204) rfl rfl (argsL := [(.ref a935), (.int (2 : Int32)), (.int (3 : Int32)), (.int (4 : Int32)), (.int v1), (.int v933)]) (st := []) rfl rfl (w := 0) rfl (by decide) (by decide) (by decide) (by decide) (res := .int (f_ok (nar .byte v933) (2 : Int32) (3 : Int32) (4 : Int32) v1 v933)) ?_
            refine Go.if0 C at_204 (z_eq _) (qt := 298) (q := 207) (by decide) (by decide) rfl (fun b980 => ?_) (fun b980 => ?_)
            ·
              refine Go.iconst C (0 : Int32) at_298 (q := 299) rfl rfl ?_
              exact J977 _ (by rw [if_neg b978, if_neg b979, if_pos b980])
            ·
              refine Go.aload C at_207 (q := 209) rfl rfl rfl ?_
              refine Go.iconst C (3 : Int32) at_209 (q := 210) rfl rfl ?_
              refine Go.iload C at_210 (q := 212) rfl rfl ?_
              refine Go.iload C at_212 (q := 214) rfl rfl ?_
              refine Go.iload C at_214 (q := 216) rfl rfl ?_
              refine Go.iload C at_216 (q := 218) rfl rfl ?_
              refine Go.pureS C (hw _ (List.mem_of_getElem? (i := 6) rfl)) (hw _ (List.mem_of_getElem? (i := 7) rfl)) (hw _ (List.mem_of_getElem? (i := 8) rfl)) (hw _ (List.mem_of_getElem? (i := 9) rfl)) (c_f_ok W.l Z a0 hw a935 (3 : Int32) (3 : Int32) (4 : Int32) v1 v933 h967 n0 (upd (upd (upd (upd (upd (upd (upd (upd (upd (upd (upd (upd (fun _ => (0 : Int32)) 0 (nar .byte v933)) 1 (nar .byte v933)) 2 (nar .byte v933)) 3 (nar .byte v933)) 4 (nar .byte v933)) 5 (nar .byte v933)) 6 (nar .byte v933)) 7 (nar .byte v933)) 3 (nar .byte (v1 ||| (128 : Int32)).toInt8.toInt32)) 4 (nar .byte (((v1.toUInt32 >>> ((7 : Int32) &&& 31).toUInt32).toInt32) ||| (128 : Int32)).toInt8.toInt32)) 5 (nar .byte (((((v1.toUInt32 >>> ((7 : Int32) &&& 31).toUInt32).toInt32).toUInt32 >>> ((7 : Int32) &&& 31).toUInt32).toInt32) ||| (128 : Int32)).toInt8.toInt32)) 6 (nar .byte ((((((v1.toUInt32 >>> ((7 : Int32) &&& 31).toUInt32).toInt32).toUInt32 >>> ((7 : Int32) &&& 31).toUInt32).toInt32).toUInt32 >>> ((7 : Int32) &&& 31).toUInt32).toInt32).toInt8.toInt32)) F975 F969 (by decide)) at_218 pd__40_91BIIIIB_41Z (q := 221) rfl rfl (argsL := [(.ref a935), (.int (3 : Int32)), (.int (3 : Int32)), (.int (4 : Int32)), (.int v1), (.int v933)]) (st := []) rfl rfl (w := 0) rfl (by decide) (by decide) (by decide) (by decide) (res := .int (f_ok (nar .byte (v1 ||| (128 : Int32)).toInt8.toInt32) (3 : Int32) (3 : Int32) (4 : Int32) v1 v933)) ?_
              refine Go.if0 C at_221 (z_eq _) (qt := 298) (q := 224) (by decide) (by decide) rfl (fun b981 => ?_) (fun b981 => ?_)
              ·
                refine Go.iconst C (0 : Int32) at_298 (q := 299) rfl rfl ?_
                exact J977 _ (by rw [if_neg b978, if_neg b979, if_neg b980, if_pos b981])
              ·
                refine Go.aload C at_224 (q := 226) rfl rfl rfl ?_
                refine Go.iconst C (4 : Int32) at_226 (q := 227) rfl rfl ?_
                refine Go.iload C at_227 (q := 229) rfl rfl ?_
                refine Go.iload C at_229 (q := 231) rfl rfl ?_
                refine Go.iload C at_231 (q := 233) rfl rfl ?_
                refine Go.iload C at_233 (q := 235) rfl rfl ?_
                refine Go.pureS C (hw _ (List.mem_of_getElem? (i := 6) rfl)) (hw _ (List.mem_of_getElem? (i := 7) rfl)) (hw _ (List.mem_of_getElem? (i := 8) rfl)) (hw _ (List.mem_of_getElem? (i := 9) rfl)) (c_f_ok W.l Z a0 hw a935 (4 : Int32) (3 : Int32) (4 : Int32) v1 v933 h967 n0 (upd (upd (upd (upd (upd (upd (upd (upd (upd (upd (upd (upd (fun _ => (0 : Int32)) 0 (nar .byte v933)) 1 (nar .byte v933)) 2 (nar .byte v933)) 3 (nar .byte v933)) 4 (nar .byte v933)) 5 (nar .byte v933)) 6 (nar .byte v933)) 7 (nar .byte v933)) 3 (nar .byte (v1 ||| (128 : Int32)).toInt8.toInt32)) 4 (nar .byte (((v1.toUInt32 >>> ((7 : Int32) &&& 31).toUInt32).toInt32) ||| (128 : Int32)).toInt8.toInt32)) 5 (nar .byte (((((v1.toUInt32 >>> ((7 : Int32) &&& 31).toUInt32).toInt32).toUInt32 >>> ((7 : Int32) &&& 31).toUInt32).toInt32) ||| (128 : Int32)).toInt8.toInt32)) 6 (nar .byte ((((((v1.toUInt32 >>> ((7 : Int32) &&& 31).toUInt32).toInt32).toUInt32 >>> ((7 : Int32) &&& 31).toUInt32).toInt32).toUInt32 >>> ((7 : Int32) &&& 31).toUInt32).toInt32).toInt8.toInt32)) F975 F969 (by decide)) at_235 pd__40_91BIIIIB_41Z (q := 238) rfl rfl (argsL := [(.ref a935), (.int (4 : Int32)), (.int (3 : Int32)), (.int (4 : Int32)), (.int v1), (.int v933)]) (st := []) rfl rfl (w := 0) rfl (by decide) (by decide) (by decide) (by decide) (res := .int (f_ok (nar .byte (((v1.toUInt32 >>> ((7 : Int32) &&& 31).toUInt32).toInt32) ||| (128 : Int32)).toInt8.toInt32) (4 : Int32) (3 : Int32) (4 : Int32) v1 v933)) ?_
                refine Go.if0 C at_238 (z_eq _) (qt := 298) (q := 241) (by decide) (by decide) rfl (fun b982 => ?_) (fun b982 => ?_)
                ·
                  refine Go.iconst C (0 : Int32) at_298 (q := 299) rfl rfl ?_
                  exact J977 _ (by rw [if_neg b978, if_neg b979, if_neg b980, if_neg b981, if_pos b982])
                ·
                  refine Go.aload C at_241 (q := 243) rfl rfl rfl ?_
                  refine Go.iconst C (5 : Int32) at_243 (q := 244) rfl rfl ?_
                  refine Go.iload C at_244 (q := 246) rfl rfl ?_
                  refine Go.iload C at_246 (q := 248) rfl rfl ?_
                  refine Go.iload C at_248 (q := 250) rfl rfl ?_
                  refine Go.iload C at_250 (q := 252) rfl rfl ?_
                  refine Go.pureS C (hw _ (List.mem_of_getElem? (i := 6) rfl)) (hw _ (List.mem_of_getElem? (i := 7) rfl)) (hw _ (List.mem_of_getElem? (i := 8) rfl)) (hw _ (List.mem_of_getElem? (i := 9) rfl)) (c_f_ok W.l Z a0 hw a935 (5 : Int32) (3 : Int32) (4 : Int32) v1 v933 h967 n0 (upd (upd (upd (upd (upd (upd (upd (upd (upd (upd (upd (upd (fun _ => (0 : Int32)) 0 (nar .byte v933)) 1 (nar .byte v933)) 2 (nar .byte v933)) 3 (nar .byte v933)) 4 (nar .byte v933)) 5 (nar .byte v933)) 6 (nar .byte v933)) 7 (nar .byte v933)) 3 (nar .byte (v1 ||| (128 : Int32)).toInt8.toInt32)) 4 (nar .byte (((v1.toUInt32 >>> ((7 : Int32) &&& 31).toUInt32).toInt32) ||| (128 : Int32)).toInt8.toInt32)) 5 (nar .byte (((((v1.toUInt32 >>> ((7 : Int32) &&& 31).toUInt32).toInt32).toUInt32 >>> ((7 : Int32) &&& 31).toUInt32).toInt32) ||| (128 : Int32)).toInt8.toInt32)) 6 (nar .byte ((((((v1.toUInt32 >>> ((7 : Int32) &&& 31).toUInt32).toInt32).toUInt32 >>> ((7 : Int32) &&& 31).toUInt32).toInt32).toUInt32 >>> ((7 : Int32) &&& 31).toUInt32).toInt32).toInt8.toInt32)) F975 F969 (by decide)) at_252 pd__40_91BIIIIB_41Z (q := 255) rfl rfl (argsL := [(.ref a935), (.int (5 : Int32)), (.int (3 : Int32)), (.int (4 : Int32)), (.int v1), (.int v933)]) (st := []) rfl rfl (w := 0) rfl (by decide) (by decide) (by decide) (by decide) (res := .int (f_ok (nar .byte (((((v1.toUInt32 >>> ((7 : Int32) &&& 31).toUInt32).toInt32).toUInt32 >>> ((7 : Int32) &&& 31).toUInt32).toInt32) ||| (128 : Int32)).toInt8.toInt32) (5 : Int32) (3 : Int32) (4 : Int32) v1 v933)) ?_
                  refine Go.if0 C at_255 (z_eq _) (qt := 298) (q := 258) (by decide) (by decide) rfl (fun b983 => ?_) (fun b983 => ?_)
                  ·
                    refine Go.iconst C (0 : Int32) at_298 (q := 299) rfl rfl ?_
                    exact J977 _ (by rw [if_neg b978, if_neg b979, if_neg b980, if_neg b981, if_neg b982, if_pos b983])
                  ·
                    refine Go.aload C at_258 (q := 260) rfl rfl rfl ?_
                    refine Go.bipush C (6 : Int32) at_260 (q := 262) rfl rfl ?_
                    refine Go.iload C at_262 (q := 264) rfl rfl ?_
                    refine Go.iload C at_264 (q := 266) rfl rfl ?_
                    refine Go.iload C at_266 (q := 268) rfl rfl ?_
                    refine Go.iload C at_268 (q := 270) rfl rfl ?_
                    refine Go.pureS C (hw _ (List.mem_of_getElem? (i := 6) rfl)) (hw _ (List.mem_of_getElem? (i := 7) rfl)) (hw _ (List.mem_of_getElem? (i := 8) rfl)) (hw _ (List.mem_of_getElem? (i := 9) rfl)) (c_f_ok W.l Z a0 hw a935 (6 : Int32) (3 : Int32) (4 : Int32) v1 v933 h967 n0 (upd (upd (upd (upd (upd (upd (upd (upd (upd (upd (upd (upd (fun _ => (0 : Int32)) 0 (nar .byte v933)) 1 (nar .byte v933)) 2 (nar .byte v933)) 3 (nar .byte v933)) 4 (nar .byte v933)) 5 (nar .byte v933)) 6 (nar .byte v933)) 7 (nar .byte v933)) 3 (nar .byte (v1 ||| (128 : Int32)).toInt8.toInt32)) 4 (nar .byte (((v1.toUInt32 >>> ((7 : Int32) &&& 31).toUInt32).toInt32) ||| (128 : Int32)).toInt8.toInt32)) 5 (nar .byte (((((v1.toUInt32 >>> ((7 : Int32) &&& 31).toUInt32).toInt32).toUInt32 >>> ((7 : Int32) &&& 31).toUInt32).toInt32) ||| (128 : Int32)).toInt8.toInt32)) 6 (nar .byte ((((((v1.toUInt32 >>> ((7 : Int32) &&& 31).toUInt32).toInt32).toUInt32 >>> ((7 : Int32) &&& 31).toUInt32).toInt32).toUInt32 >>> ((7 : Int32) &&& 31).toUInt32).toInt32).toInt8.toInt32)) F975 F969 (by decide)) at_270 pd__40_91BIIIIB_41Z (q := 273) rfl rfl (argsL := [(.ref a935), (.int (6 : Int32)), (.int (3 : Int32)), (.int (4 : Int32)), (.int v1), (.int v933)]) (st := []) rfl rfl (w := 0) rfl (by decide) (by decide) (by decide) (by decide) (res := .int (f_ok (nar .byte ((((((v1.toUInt32 >>> ((7 : Int32) &&& 31).toUInt32).toInt32).toUInt32 >>> ((7 : Int32) &&& 31).toUInt32).toInt32).toUInt32 >>> ((7 : Int32) &&& 31).toUInt32).toInt32).toInt8.toInt32) (6 : Int32) (3 : Int32) (4 : Int32) v1 v933)) ?_
                    refine Go.if0 C at_273 (z_eq _) (qt := 298) (q := 276) (by decide) (by decide) rfl (fun b984 => ?_) (fun b984 => ?_)
                    ·
                      refine Go.iconst C (0 : Int32) at_298 (q := 299) rfl rfl ?_
                      exact J977 _ (by rw [if_neg b978, if_neg b979, if_neg b980, if_neg b981, if_neg b982, if_neg b983, if_pos b984])
                    ·
                      refine Go.aload C at_276 (q := 278) rfl rfl rfl ?_
                      refine Go.bipush C (7 : Int32) at_278 (q := 280) rfl rfl ?_
                      refine Go.iload C at_280 (q := 282) rfl rfl ?_
                      refine Go.iload C at_282 (q := 284) rfl rfl ?_
                      refine Go.iload C at_284 (q := 286) rfl rfl ?_
                      refine Go.iload C at_286 (q := 288) rfl rfl ?_
                      refine Go.pureS C (hw _ (List.mem_of_getElem? (i := 6) rfl)) (hw _ (List.mem_of_getElem? (i := 7) rfl)) (hw _ (List.mem_of_getElem? (i := 8) rfl)) (hw _ (List.mem_of_getElem? (i := 9) rfl)) (c_f_ok W.l Z a0 hw a935 (7 : Int32) (3 : Int32) (4 : Int32) v1 v933 h967 n0 (upd (upd (upd (upd (upd (upd (upd (upd (upd (upd (upd (upd (fun _ => (0 : Int32)) 0 (nar .byte v933)) 1 (nar .byte v933)) 2 (nar .byte v933)) 3 (nar .byte v933)) 4 (nar .byte v933)) 5 (nar .byte v933)) 6 (nar .byte v933)) 7 (nar .byte v933)) 3 (nar .byte (v1 ||| (128 : Int32)).toInt8.toInt32)) 4 (nar .byte (((v1.toUInt32 >>> ((7 : Int32) &&& 31).toUInt32).toInt32) ||| (128 : Int32)).toInt8.toInt32)) 5 (nar .byte (((((v1.toUInt32 >>> ((7 : Int32) &&& 31).toUInt32).toInt32).toUInt32 >>> ((7 : Int32) &&& 31).toUInt32).toInt32) ||| (128 : Int32)).toInt8.toInt32)) 6 (nar .byte ((((((v1.toUInt32 >>> ((7 : Int32) &&& 31).toUInt32).toInt32).toUInt32 >>> ((7 : Int32) &&& 31).toUInt32).toInt32).toUInt32 >>> ((7 : Int32) &&& 31).toUInt32).toInt32).toInt8.toInt32)) F975 F969 (by decide)) at_288 pd__40_91BIIIIB_41Z (q := 291) rfl rfl (argsL := [(.ref a935), (.int (7 : Int32)), (.int (3 : Int32)), (.int (4 : Int32)), (.int v1), (.int v933)]) (st := []) rfl rfl (w := 0) rfl (by decide) (by decide) (by decide) (by decide) (res := .int (f_ok (nar .byte v933) (7 : Int32) (3 : Int32) (4 : Int32) v1 v933)) ?_
                      refine Go.if0 C at_291 (z_eq _) (qt := 298) (q := 294) (by decide) (by decide) rfl (fun b985 => ?_) (fun b985 => ?_)
                      ·
                        refine Go.iconst C (0 : Int32) at_298 (q := 299) rfl rfl ?_
                        exact J977 _ (by rw [if_neg b978, if_neg b979, if_neg b980, if_neg b981, if_neg b982, if_neg b983, if_neg b984, if_pos b985])
                      ·
                        refine Go.iconst C (1 : Int32) at_294 (q := 295) rfl rfl ?_
                        refine Go.goto C at_295 (q := 299) (by decide) (by decide) ?_
                        exact J977 _ (by rw [if_neg b978, if_neg b979, if_neg b980, if_neg b981, if_neg b982, if_neg b983, if_neg b984, if_neg b985])
      intro v976 hv976
      exact Go.retZ (t := .boolean) (by simp) C at_299 (by decide) (by decide) (congrArg (fun z => some (Value.int z)) (fin18 p0 p1 p2 p3 v1 hv1  hv2  w0  w1  w2  w3 v933 hv933 v976 hv976))
    ·
      refine Go.istore C at_18 (q := 20) rfl (fun z => #[.val (.int p0), .val (.int p1), .val (.int p2), .val (.int p3), .val (.int v1), .val (.int (3 : Int32)), .val (.int z), .unset, .unset, .unset]) (fun _ => rfl) ?_
      intro v986 hv986
      refine Go.bipush C (8 : Int32) at_20 (q := 22) rfl rfl ?_
      refine Go.newP C (hw _ (List.mem_of_getElem? (i := 1) rfl)) (by decide) (cap := 8) (by decide) (by decide) at_22 (q := 24) rfl (k' := 1) rfl (n' := 8) rfl (by decide) (by decide) ?_
      intro h987 a988 cA989 g990 E991 Fn992
      have g994 : n0 ≤ a988 := g990 ▸ Z0
      have F993 : Av Z h987 a988 .byte 8 (iF (fun _ => (0 : Int32))) := Av.of Fn992
      refine Go.astore C at_24 (q := 26) rfl (l' := #[.val (.int p0), .val (.int p1), .val (.int p2), .val (.int p3), .val (.int v1), .val (.int (3 : Int32)), .val (.int v986), .val (.ref a988), .unset, .unset]) rfl rfl ?_
      refine Go.aload C at_26 (q := 28) rfl rfl rfl ?_
      refine Go.iconst C (0 : Int32) at_28 (q := 29) rfl rfl ?_
      refine Go.iload C at_29 (q := 31) rfl rfl ?_
      refine Go.bastore C F993 0 (by decide) (by decide) (by decide) g994 at_31 (q := 32) rfl ?_
      intro h995 W996
      have F997 := F993.sameI W996
      refine Go.aload C at_32 (q := 34) rfl rfl rfl ?_
      refine Go.iconst C (1 : Int32) at_34 (q := 35) rfl rfl ?_
      refine Go.iload C at_35 (q := 37) rfl rfl ?_
      refine Go.bastore C F997 1 (by decide) (by decide) (by decide) g994 at_37 (q := 38) rfl ?_
      intro h998 W999
      have F1000 := F997.sameI W999
      refine Go.aload C at_38 (q := 40) rfl rfl rfl ?_
      refine Go.iconst C (2 : Int32) at_40 (q := 41) rfl rfl ?_
      refine Go.iload C at_41 (q := 43) rfl rfl ?_
      refine Go.bastore C F1000 2 (by decide) (by decide) (by decide) g994 at_43 (q := 44) rfl ?_
      intro h1001 W1002
      have F1003 := F1000.sameI W1002
      refine Go.aload C at_44 (q := 46) rfl rfl rfl ?_
      refine Go.iconst C (3 : Int32) at_46 (q := 47) rfl rfl ?_
      refine Go.iload C at_47 (q := 49) rfl rfl ?_
      refine Go.bastore C F1003 3 (by decide) (by decide) (by decide) g994 at_49 (q := 50) rfl ?_
      intro h1004 W1005
      have F1006 := F1003.sameI W1005
      refine Go.aload C at_50 (q := 52) rfl rfl rfl ?_
      refine Go.iconst C (4 : Int32) at_52 (q := 53) rfl rfl ?_
      refine Go.iload C at_53 (q := 55) rfl rfl ?_
      refine Go.bastore C F1006 4 (by decide) (by decide) (by decide) g994 at_55 (q := 56) rfl ?_
      intro h1007 W1008
      have F1009 := F1006.sameI W1008
      refine Go.aload C at_56 (q := 58) rfl rfl rfl ?_
      refine Go.iconst C (5 : Int32) at_58 (q := 59) rfl rfl ?_
      refine Go.iload C at_59 (q := 61) rfl rfl ?_
      refine Go.bastore C F1009 5 (by decide) (by decide) (by decide) g994 at_61 (q := 62) rfl ?_
      intro h1010 W1011
      have F1012 := F1009.sameI W1011
      refine Go.aload C at_62 (q := 64) rfl rfl rfl ?_
      refine Go.bipush C (6 : Int32) at_64 (q := 66) rfl rfl ?_
      refine Go.iload C at_66 (q := 68) rfl rfl ?_
      refine Go.bastore C F1012 6 (by decide) (by decide) (by decide) g994 at_68 (q := 69) rfl ?_
      intro h1013 W1014
      have F1015 := F1012.sameI W1014
      refine Go.aload C at_69 (q := 71) rfl rfl rfl ?_
      refine Go.bipush C (7 : Int32) at_71 (q := 73) rfl rfl ?_
      refine Go.iload C at_73 (q := 75) rfl rfl ?_
      refine Go.bastore C F1015 7 (by decide) (by decide) (by decide) g994 at_75 (q := 76) rfl ?_
      intro h1016 W1017
      have F1018 := F1015.sameI W1017
      refine Go.aload C at_76 (q := 78) rfl rfl rfl ?_
      refine Go.iload C at_78 (q := 80) rfl rfl ?_
      refine Go.iload C at_80 (q := 82) rfl rfl ?_
      have F1019 := (Nat.le_trans (Nat.le_trans (Nat.le_trans (Nat.le_trans (Nat.le_trans (Nat.le_trans (Nat.le_trans (Nat.le_trans (Nat.le_trans Z0 E991.1) (Nat.le_of_eq W996.size.symm)) (Nat.le_of_eq W999.size.symm)) (Nat.le_of_eq W1002.size.symm)) (Nat.le_of_eq W1005.size.symm)) (Nat.le_of_eq W1008.size.symm)) (Nat.le_of_eq W1011.size.symm)) (Nat.le_of_eq W1014.size.symm)) (Nat.le_of_eq W1017.size.symm))
      refine Go.callS C (hw _ (List.mem_of_getElem? (i := 2) rfl)) (hw _ (List.mem_of_getElem? (i := 3) rfl)) (hw _ (List.mem_of_getElem? (i := 4) rfl)) (hw _ (List.mem_of_getElem? (i := 5) rfl)) (c_put3_5 W.l Z a0 hw a988 v1 h1016 n0 (upd (upd (upd (upd (upd (upd (upd (upd (fun _ => (0 : Int32)) 0 (nar .byte v986)) 1 (nar .byte v986)) 2 (nar .byte v986)) 3 (nar .byte v986)) 4 (nar .byte v986)) 5 (nar .byte v986)) 6 (nar .byte v986)) 7 (nar .byte v986)) F1019 F1018 g994 w0 w1 w2 w3 w4) at_82 pd__40_91BII_41I (q := 85) rfl rfl (argsL := [(.ref a988), (.int (3 : Int32)), (.int v1)]) (st := []) rfl rfl (w := 0) rfl (by decide) (by decide) (k' := 1) rfl (n' := 8) rfl (by decide) (by decide) ?_
      intro v h1020 q
      obtain ⟨rfl, K1021, F1022⟩ := q
      show Go W n0 QL h1020 1 8 85 #[.val (.int p0), .val (.int p1), .val (.int p2), .val (.int p3), .val (.int v1), .val (.int (3 : Int32)), .val (.int v986), .val (.ref a988), .unset, .unset] [(.int (8 : Int32))]
      refine Go.istoreR C at_85 (q := 87) rfl (l' := #[.val (.int p0), .val (.int p1), .val (.int p2), .val (.int p3), .val (.int v1), .val (.int (3 : Int32)), .val (.int v986), .val (.ref a988), .val (.int (8 : Int32)), .unset]) rfl ?_
      refine Go.iload C at_87 (q := 89) rfl rfl ?_
      refine Go.sipush C (128 : Int32) at_89 (q := 92) rfl rfl ?_
      refine Go.icmp C at_92 (n_ge _ _) (qt := 101) (q := 95) (by decide) (by decide) rfl (fun _ => ?_) (fun b1023 => absurd t0 b1023)
      refine Go.iload C at_101 (q := 103) rfl rfl ?_
      refine Go.sipush C (16384 : Int32) at_103 (q := 106) rfl rfl ?_
      refine Go.icmp C at_106 (n_ge _ _) (qt := 115) (q := 109) (by decide) (by decide) rfl (fun _ => ?_) (fun b1024 => absurd t1 b1024)
      refine Go.iload C at_115 (q := 117) rfl rfl ?_
      refine Go.ldcI C (hw _ (List.mem_of_getElem? (i := 10) rfl)) at_117 (q := 119) rfl ?_
      refine Go.icmp C at_119 (n_ge _ _) (qt := 128) (q := 122) (by decide) (by decide) rfl (fun _ => ?_) (fun b1025 => absurd t2 b1025)
      refine Go.iload C at_128 (q := 130) rfl rfl ?_
      refine Go.ldcI C (hw _ (List.mem_of_getElem? (i := 11) rfl)) at_130 (q := 132) rfl ?_
      refine Go.icmp C at_132 (n_ge _ _) (qt := 141) (q := 135) (by decide) (by decide) rfl (fun _ => ?_) (fun b1026 => absurd t3 b1026)
      refine Go.iconst C (5 : Int32) at_141 (q := 142) rfl rfl ?_
      refine Go.istoreR C at_142 (q := 144) rfl (l' := #[.val (.int p0), .val (.int p1), .val (.int p2), .val (.int p3), .val (.int v1), .val (.int (3 : Int32)), .val (.int v986), .val (.ref a988), .val (.int (8 : Int32)), .val (.int (5 : Int32))]) rfl ?_
      refine Go.iload C at_144 (q := 146) rfl rfl ?_
      refine Go.iload C at_146 (q := 148) rfl rfl ?_
      refine Go.iload C at_148 (q := 150) rfl rfl ?_
      refine Go.iadd C at_150 (q := 151) rfl ?_
      refine Go.icmp C at_151 (n_eq _ _) (qt := 156) (q := 154) (by decide) (by decide) rfl (fun _ => ?_) (fun b1027 => absurd b1027 (by decide))
      refine Go.aload C at_156 (q := 158) rfl rfl rfl ?_
      refine Go.iconst C (0 : Int32) at_158 (q := 159) rfl rfl ?_
      refine Go.iload C at_159 (q := 161) rfl rfl ?_
      refine Go.iload C at_161 (q := 163) rfl rfl ?_
      refine Go.iload C at_163 (q := 165) rfl rfl ?_
      refine Go.iload C at_165 (q := 167) rfl rfl ?_
      have F1028 := (Nat.le_trans F1019 K1021.1)
      refine Go.pureS C (hw _ (List.mem_of_getElem? (i := 6) rfl)) (hw _ (List.mem_of_getElem? (i := 7) rfl)) (hw _ (List.mem_of_getElem? (i := 8) rfl)) (hw _ (List.mem_of_getElem? (i := 9) rfl)) (c_f_ok W.l Z a0 hw a988 (0 : Int32) (3 : Int32) (5 : Int32) v1 v986 h1020 n0 (upd (upd (upd (upd (upd (upd (upd (upd (upd (upd (upd (upd (upd (fun _ => (0 : Int32)) 0 (nar .byte v986)) 1 (nar .byte v986)) 2 (nar .byte v986)) 3 (nar .byte v986)) 4 (nar .byte v986)) 5 (nar .byte v986)) 6 (nar .byte v986)) 7 (nar .byte v986)) 3 (nar .byte (v1 ||| (128 : Int32)).toInt8.toInt32)) 4 (nar .byte (((v1.toUInt32 >>> ((7 : Int32) &&& 31).toUInt32).toInt32) ||| (128 : Int32)).toInt8.toInt32)) 5 (nar .byte (((((v1.toUInt32 >>> ((7 : Int32) &&& 31).toUInt32).toInt32).toUInt32 >>> ((7 : Int32) &&& 31).toUInt32).toInt32) ||| (128 : Int32)).toInt8.toInt32)) 6 (nar .byte (((((((v1.toUInt32 >>> ((7 : Int32) &&& 31).toUInt32).toInt32).toUInt32 >>> ((7 : Int32) &&& 31).toUInt32).toInt32).toUInt32 >>> ((7 : Int32) &&& 31).toUInt32).toInt32) ||| (128 : Int32)).toInt8.toInt32)) 7 (nar .byte ((((((((v1.toUInt32 >>> ((7 : Int32) &&& 31).toUInt32).toInt32).toUInt32 >>> ((7 : Int32) &&& 31).toUInt32).toInt32).toUInt32 >>> ((7 : Int32) &&& 31).toUInt32).toInt32).toUInt32 >>> ((7 : Int32) &&& 31).toUInt32).toInt32).toInt8.toInt32)) F1028 F1022 (by decide)) at_167 pd__40_91BIIIIB_41Z (q := 170) rfl rfl (argsL := [(.ref a988), (.int (0 : Int32)), (.int (3 : Int32)), (.int (5 : Int32)), (.int v1), (.int v986)]) (st := []) rfl rfl (w := 0) rfl (by decide) (by decide) (by decide) (by decide) (res := .int (f_ok (nar .byte v986) (0 : Int32) (3 : Int32) (5 : Int32) v1 v986)) ?_
      suffices J1030 : ∀ v1029 : Int32, v1029 = (if (f_ok (nar .byte v986) (0 : Int32) (3 : Int32) (5 : Int32) v1 v986) = (0 : Int32) then (0 : Int32) else (if (f_ok (nar .byte v986) (1 : Int32) (3 : Int32) (5 : Int32) v1 v986) = (0 : Int32) then (0 : Int32) else (if (f_ok (nar .byte v986) (2 : Int32) (3 : Int32) (5 : Int32) v1 v986) = (0 : Int32) then (0 : Int32) else (if (f_ok (nar .byte (v1 ||| (128 : Int32)).toInt8.toInt32) (3 : Int32) (3 : Int32) (5 : Int32) v1 v986) = (0 : Int32) then (0 : Int32) else (if (f_ok (nar .byte (((v1.toUInt32 >>> ((7 : Int32) &&& 31).toUInt32).toInt32) ||| (128 : Int32)).toInt8.toInt32) (4 : Int32) (3 : Int32) (5 : Int32) v1 v986) = (0 : Int32) then (0 : Int32) else (if (f_ok (nar .byte (((((v1.toUInt32 >>> ((7 : Int32) &&& 31).toUInt32).toInt32).toUInt32 >>> ((7 : Int32) &&& 31).toUInt32).toInt32) ||| (128 : Int32)).toInt8.toInt32) (5 : Int32) (3 : Int32) (5 : Int32) v1 v986) = (0 : Int32) then (0 : Int32) else (if (f_ok (nar .byte (((((((v1.toUInt32 >>> ((7 : Int32) &&& 31).toUInt32).toInt32).toUInt32 >>> ((7 : Int32) &&& 31).toUInt32).toInt32).toUInt32 >>> ((7 : Int32) &&& 31).toUInt32).toInt32) ||| (128 : Int32)).toInt8.toInt32) (6 : Int32) (3 : Int32) (5 : Int32) v1 v986) = (0 : Int32) then (0 : Int32) else (if (f_ok (nar .byte ((((((((v1.toUInt32 >>> ((7 : Int32) &&& 31).toUInt32).toInt32).toUInt32 >>> ((7 : Int32) &&& 31).toUInt32).toInt32).toUInt32 >>> ((7 : Int32) &&& 31).toUInt32).toInt32).toUInt32 >>> ((7 : Int32) &&& 31).toUInt32).toInt32).toInt8.toInt32) (7 : Int32) (3 : Int32) (5 : Int32) v1 v986) = (0 : Int32) then (0 : Int32) else (1 : Int32))))))))) → Go W n0 QL h1020 1 8 299 #[.val (.int p0), .val (.int p1), .val (.int p2), .val (.int p3), .val (.int v1), .val (.int (3 : Int32)), .val (.int v986), .val (.ref a988), .val (.int (8 : Int32)), .val (.int (5 : Int32))] [(.int v1029)] by
        refine Go.if0 C at_170 (z_eq _) (qt := 298) (q := 173) (by decide) (by decide) rfl (fun b1031 => ?_) (fun b1031 => ?_)
        ·
          refine Go.iconst C (0 : Int32) at_298 (q := 299) rfl rfl ?_
          exact J1030 _ (by rw [if_pos b1031])
        ·
          refine Go.aload C at_173 (q := 175) rfl rfl rfl ?_
          refine Go.iconst C (1 : Int32) at_175 (q := 176) rfl rfl ?_
          refine Go.iload C at_176 (q := 178) rfl rfl ?_
          refine Go.iload C at_178 (q := 180) rfl rfl ?_
          refine Go.iload C at_180 (q := 182) rfl rfl ?_
          refine Go.iload C at_182 (q := 184) rfl rfl ?_
          refine Go.pureS C (hw _ (List.mem_of_getElem? (i := 6) rfl)) (hw _ (List.mem_of_getElem? (i := 7) rfl)) (hw _ (List.mem_of_getElem? (i := 8) rfl)) (hw _ (List.mem_of_getElem? (i := 9) rfl)) (c_f_ok W.l Z a0 hw a988 (1 : Int32) (3 : Int32) (5 : Int32) v1 v986 h1020 n0 (upd (upd (upd (upd (upd (upd (upd (upd (upd (upd (upd (upd (upd (fun _ => (0 : Int32)) 0 (nar .byte v986)) 1 (nar .byte v986)) 2 (nar .byte v986)) 3 (nar .byte v986)) 4 (nar .byte v986)) 5 (nar .byte v986)) 6 (nar .byte v986)) 7 (nar .byte v986)) 3 (nar .byte (v1 ||| (128 : Int32)).toInt8.toInt32)) 4 (nar .byte (((v1.toUInt32 >>> ((7 : Int32) &&& 31).toUInt32).toInt32) ||| (128 : Int32)).toInt8.toInt32)) 5 (nar .byte (((((v1.toUInt32 >>> ((7 : Int32) &&& 31).toUInt32).toInt32).toUInt32 >>> ((7 : Int32) &&& 31).toUInt32).toInt32) ||| (128 : Int32)).toInt8.toInt32)) 6 (nar .byte (((((((v1.toUInt32 >>> ((7 : Int32) &&& 31).toUInt32).toInt32).toUInt32 >>> ((7 : Int32) &&& 31).toUInt32).toInt32).toUInt32 >>> ((7 : Int32) &&& 31).toUInt32).toInt32) ||| (128 : Int32)).toInt8.toInt32)) 7 (nar .byte ((((((((v1.toUInt32 >>> ((7 : Int32) &&& 31).toUInt32).toInt32).toUInt32 >>> ((7 : Int32) &&& 31).toUInt32).toInt32).toUInt32 >>> ((7 : Int32) &&& 31).toUInt32).toInt32).toUInt32 >>> ((7 : Int32) &&& 31).toUInt32).toInt32).toInt8.toInt32)) F1028 F1022 (by decide)) at_184 pd__40_91BIIIIB_41Z (q := 187) rfl rfl (argsL := [(.ref a988), (.int (1 : Int32)), (.int (3 : Int32)), (.int (5 : Int32)), (.int v1), (.int v986)]) (st := []) rfl rfl (w := 0) rfl (by decide) (by decide) (by decide) (by decide) (res := .int (f_ok (nar .byte v986) (1 : Int32) (3 : Int32) (5 : Int32) v1 v986)) ?_
          refine Go.if0 C at_187 (z_eq _) (qt := 298) (q := 190) (by decide) (by decide) rfl (fun b1032 => ?_) (fun b1032 => ?_)
          ·
            refine Go.iconst C (0 : Int32) at_298 (q := 299) rfl rfl ?_
            exact J1030 _ (by rw [if_neg b1031, if_pos b1032])
          ·
            refine Go.aload C at_190 (q := 192) rfl rfl rfl ?_
            refine Go.iconst C (2 : Int32) at_192 (q := 193) rfl rfl ?_
            refine Go.iload C at_193 (q := 195) rfl rfl ?_
            refine Go.iload C at_195 (q := 197) rfl rfl ?_
            refine Go.iload C at_197 (q := 199) rfl rfl ?_
            refine Go.iload C at_199 (q := 201) rfl rfl ?_
            refine Go.pureS C (hw _ (List.mem_of_getElem? (i := 6) rfl)) (hw _ (List.mem_of_getElem? (i := 7) rfl)) (hw _ (List.mem_of_getElem? (i := 8) rfl)) (hw _ (List.mem_of_getElem? (i := 9) rfl)) (c_f_ok W.l Z a0 hw a988 (2 : Int32) (3 : Int32) (5 : Int32) v1 v986 h1020 n0 (upd (upd (upd (upd (upd (upd (upd (upd (upd (upd (upd (upd (upd (fun _ => (0 : Int32)) 0 (nar .byte v986)) 1 (nar .byte v986)) 2 (nar .byte v986)) 3 (nar .byte v986)) 4 (nar .byte v986)) 5 (nar .byte v986)) 6 (nar .byte v986)) 7 (nar .byte v986)) 3 (nar .byte (v1 ||| (128 : Int32)).toInt8.toInt32)) 4 (nar .byte (((v1.toUInt32 >>> ((7 : Int32) &&& 31).toUInt32).toInt32) ||| (128 : Int32)).toInt8.toInt32)) 5 (nar .byte (((((v1.toUInt32 >>> ((7 : Int32) &&& 31).toUInt32).toInt32).toUInt32 >>> ((7 : Int32) &&& 31).toUInt32).toInt32) ||| (128 : Int32)).toInt8.toInt32)) 6 (nar .byte (((((((v1.toUInt32 >>> ((7 : Int32) &&& 31).toUInt32).toInt32).toUInt32 >>> ((7 : Int32) &&& 31).toUInt32).toInt32).toUInt32 >>> ((7 : Int32) &&& 31).toUInt32).toInt32) ||| (128 : Int32)).toInt8.toInt32)) 7 (nar .byte ((((((((v1.toUInt32 >>> ((7 : Int32) &&& 31).toUInt32).toInt32).toUInt32 >>> ((7 : Int32) &&& 31).toUInt32).toInt32).toUInt32 >>> ((7 : Int32) &&& 31).toUInt32).toInt32).toUInt32 >>> ((7 : Int32) &&& 31).toUInt32).toInt32).toInt8.toInt32)) F1028 F1022 (by decide)) at_201 pd__40_91BIIIIB_41Z (q := 204) rfl rfl (argsL := [(.ref a988), (.int (2 : Int32)), (.int (3 : Int32)), (.int (5 : Int32)), (.int v1), (.int v986)]) (st := []) rfl rfl (w := 0) rfl (by decide) (by decide) (by decide) (by decide) (res := .int (f_ok (nar .byte v986) (2 : Int32) (3 : Int32) (5 : Int32) v1 v986)) ?_
            refine Go.if0 C at_204 (z_eq _) (qt := 298) (q := 207) (by decide) (by decide) rfl (fun b1033 => ?_) (fun b1033 => ?_)
            ·
              refine Go.iconst C (0 : Int32) at_298 (q := 299) rfl rfl ?_
              exact J1030 _ (by rw [if_neg b1031, if_neg b1032, if_pos b1033])
            ·
              refine Go.aload C at_207 (q := 209) rfl rfl rfl ?_
              refine Go.iconst C (3 : Int32) at_209 (q := 210) rfl rfl ?_
              refine Go.iload C at_210 (q := 212) rfl rfl ?_
              refine Go.iload C at_212 (q := 214) rfl rfl ?_
              refine Go.iload C at_214 (q := 216) rfl rfl ?_
              refine Go.iload C at_216 (q := 218) rfl rfl ?_
              refine Go.pureS C (hw _ (List.mem_of_getElem? (i := 6) rfl)) (hw _ (List.mem_of_getElem? (i := 7) rfl)) (hw _ (List.mem_of_getElem? (i := 8) rfl)) (hw _ (List.mem_of_getElem? (i := 9) rfl)) (c_f_ok W.l Z a0 hw a988 (3 : Int32) (3 : Int32) (5 : Int32) v1 v986 h1020 n0 (upd (upd (upd (upd (upd (upd (upd (upd (upd (upd (upd (upd (upd (fun _ => (0 : Int32)) 0 (nar .byte v986)) 1 (nar .byte v986)) 2 (nar .byte v986)) 3 (nar .byte v986)) 4 (nar .byte v986)) 5 (nar .byte v986)) 6 (nar .byte v986)) 7 (nar .byte v986)) 3 (nar .byte (v1 ||| (128 : Int32)).toInt8.toInt32)) 4 (nar .byte (((v1.toUInt32 >>> ((7 : Int32) &&& 31).toUInt32).toInt32) ||| (128 : Int32)).toInt8.toInt32)) 5 (nar .byte (((((v1.toUInt32 >>> ((7 : Int32) &&& 31).toUInt32).toInt32).toUInt32 >>> ((7 : Int32) &&& 31).toUInt32).toInt32) ||| (128 : Int32)).toInt8.toInt32)) 6 (nar .byte (((((((v1.toUInt32 >>> ((7 : Int32) &&& 31).toUInt32).toInt32).toUInt32 >>> ((7 : Int32) &&& 31).toUInt32).toInt32).toUInt32 >>> ((7 : Int32) &&& 31).toUInt32).toInt32) ||| (128 : Int32)).toInt8.toInt32)) 7 (nar .byte ((((((((v1.toUInt32 >>> ((7 : Int32) &&& 31).toUInt32).toInt32).toUInt32 >>> ((7 : Int32) &&& 31).toUInt32).toInt32).toUInt32 >>> ((7 : Int32) &&& 31).toUInt32).toInt32).toUInt32 >>> ((7 : Int32) &&& 31).toUInt32).toInt32).toInt8.toInt32)) F1028 F1022 (by decide)) at_218 pd__40_91BIIIIB_41Z (q := 221) rfl rfl (argsL := [(.ref a988), (.int (3 : Int32)), (.int (3 : Int32)), (.int (5 : Int32)), (.int v1), (.int v986)]) (st := []) rfl rfl (w := 0) rfl (by decide) (by decide) (by decide) (by decide) (res := .int (f_ok (nar .byte (v1 ||| (128 : Int32)).toInt8.toInt32) (3 : Int32) (3 : Int32) (5 : Int32) v1 v986)) ?_
              refine Go.if0 C at_221 (z_eq _) (qt := 298) (q := 224) (by decide) (by decide) rfl (fun b1034 => ?_) (fun b1034 => ?_)
              ·
                refine Go.iconst C (0 : Int32) at_298 (q := 299) rfl rfl ?_
                exact J1030 _ (by rw [if_neg b1031, if_neg b1032, if_neg b1033, if_pos b1034])
              ·
                refine Go.aload C at_224 (q := 226) rfl rfl rfl ?_
                refine Go.iconst C (4 : Int32) at_226 (q := 227) rfl rfl ?_
                refine Go.iload C at_227 (q := 229) rfl rfl ?_
                refine Go.iload C at_229 (q := 231) rfl rfl ?_
                refine Go.iload C at_231 (q := 233) rfl rfl ?_
                refine Go.iload C at_233 (q := 235) rfl rfl ?_
                refine Go.pureS C (hw _ (List.mem_of_getElem? (i := 6) rfl)) (hw _ (List.mem_of_getElem? (i := 7) rfl)) (hw _ (List.mem_of_getElem? (i := 8) rfl)) (hw _ (List.mem_of_getElem? (i := 9) rfl)) (c_f_ok W.l Z a0 hw a988 (4 : Int32) (3 : Int32) (5 : Int32) v1 v986 h1020 n0 (upd (upd (upd (upd (upd (upd (upd (upd (upd (upd (upd (upd (upd (fun _ => (0 : Int32)) 0 (nar .byte v986)) 1 (nar .byte v986)) 2 (nar .byte v986)) 3 (nar .byte v986)) 4 (nar .byte v986)) 5 (nar .byte v986)) 6 (nar .byte v986)) 7 (nar .byte v986)) 3 (nar .byte (v1 ||| (128 : Int32)).toInt8.toInt32)) 4 (nar .byte (((v1.toUInt32 >>> ((7 : Int32) &&& 31).toUInt32).toInt32) ||| (128 : Int32)).toInt8.toInt32)) 5 (nar .byte (((((v1.toUInt32 >>> ((7 : Int32) &&& 31).toUInt32).toInt32).toUInt32 >>> ((7 : Int32) &&& 31).toUInt32).toInt32) ||| (128 : Int32)).toInt8.toInt32)) 6 (nar .byte (((((((v1.toUInt32 >>> ((7 : Int32) &&& 31).toUInt32).toInt32).toUInt32 >>> ((7 : Int32) &&& 31).toUInt32).toInt32).toUInt32 >>> ((7 : Int32) &&& 31).toUInt32).toInt32) ||| (128 : Int32)).toInt8.toInt32)) 7 (nar .byte ((((((((v1.toUInt32 >>> ((7 : Int32) &&& 31).toUInt32).toInt32).toUInt32 >>> ((7 : Int32) &&& 31).toUInt32).toInt32).toUInt32 >>> ((7 : Int32) &&& 31).toUInt32).toInt32).toUInt32 >>> ((7 : Int32) &&& 31).toUInt32).toInt32).toInt8.toInt32)) F1028 F1022 (by decide)) at_235 pd__40_91BIIIIB_41Z (q := 238) rfl rfl (argsL := [(.ref a988), (.int (4 : Int32)), (.int (3 : Int32)), (.int (5 : Int32)), (.int v1), (.int v986)]) (st := []) rfl rfl (w := 0) rfl (by decide) (by decide) (by decide) (by decide) (res := .int (f_ok (nar .byte (((v1.toUInt32 >>> ((7 : Int32) &&& 31).toUInt32).toInt32) ||| (128 : Int32)).toInt8.toInt32) (4 : Int32) (3 : Int32) (5 : Int32) v1 v986)) ?_
                refine Go.if0 C at_238 (z_eq _) (qt := 298) (q := 241) (by decide) (by decide) rfl (fun b1035 => ?_) (fun b1035 => ?_)
                ·
                  refine Go.iconst C (0 : Int32) at_298 (q := 299) rfl rfl ?_
                  exact J1030 _ (by rw [if_neg b1031, if_neg b1032, if_neg b1033, if_neg b1034, if_pos b1035])
                ·
                  refine Go.aload C at_241 (q := 243) rfl rfl rfl ?_
                  refine Go.iconst C (5 : Int32) at_243 (q := 244) rfl rfl ?_
                  refine Go.iload C at_244 (q := 246) rfl rfl ?_
                  refine Go.iload C at_246 (q := 248) rfl rfl ?_
                  refine Go.iload C at_248 (q := 250) rfl rfl ?_
                  refine Go.iload C at_250 (q := 252) rfl rfl ?_
                  refine Go.pureS C (hw _ (List.mem_of_getElem? (i := 6) rfl)) (hw _ (List.mem_of_getElem? (i := 7) rfl)) (hw _ (List.mem_of_getElem? (i := 8) rfl)) (hw _ (List.mem_of_getElem? (i := 9) rfl)) (c_f_ok W.l Z a0 hw a988 (5 : Int32) (3 : Int32) (5 : Int32) v1 v986 h1020 n0 (upd (upd (upd (upd (upd (upd (upd (upd (upd (upd (upd (upd (upd (fun _ => (0 : Int32)) 0 (nar .byte v986)) 1 (nar .byte v986)) 2 (nar .byte v986)) 3 (nar .byte v986)) 4 (nar .byte v986)) 5 (nar .byte v986)) 6 (nar .byte v986)) 7 (nar .byte v986)) 3 (nar .byte (v1 ||| (128 : Int32)).toInt8.toInt32)) 4 (nar .byte (((v1.toUInt32 >>> ((7 : Int32) &&& 31).toUInt32).toInt32) ||| (128 : Int32)).toInt8.toInt32)) 5 (nar .byte (((((v1.toUInt32 >>> ((7 : Int32) &&& 31).toUInt32).toInt32).toUInt32 >>> ((7 : Int32) &&& 31).toUInt32).toInt32) ||| (128 : Int32)).toInt8.toInt32)) 6 (nar .byte (((((((v1.toUInt32 >>> ((7 : Int32) &&& 31).toUInt32).toInt32).toUInt32 >>> ((7 : Int32) &&& 31).toUInt32).toInt32).toUInt32 >>> ((7 : Int32) &&& 31).toUInt32).toInt32) ||| (128 : Int32)).toInt8.toInt32)) 7 (nar .byte ((((((((v1.toUInt32 >>> ((7 : Int32) &&& 31).toUInt32).toInt32).toUInt32 >>> ((7 : Int32) &&& 31).toUInt32).toInt32).toUInt32 >>> ((7 : Int32) &&& 31).toUInt32).toInt32).toUInt32 >>> ((7 : Int32) &&& 31).toUInt32).toInt32).toInt8.toInt32)) F1028 F1022 (by decide)) at_252 pd__40_91BIIIIB_41Z (q := 255) rfl rfl (argsL := [(.ref a988), (.int (5 : Int32)), (.int (3 : Int32)), (.int (5 : Int32)), (.int v1), (.int v986)]) (st := []) rfl rfl (w := 0) rfl (by decide) (by decide) (by decide) (by decide) (res := .int (f_ok (nar .byte (((((v1.toUInt32 >>> ((7 : Int32) &&& 31).toUInt32).toInt32).toUInt32 >>> ((7 : Int32) &&& 31).toUInt32).toInt32) ||| (128 : Int32)).toInt8.toInt32) (5 : Int32) (3 : Int32) (5 : Int32) v1 v986)) ?_
                  refine Go.if0 C at_255 (z_eq _) (qt := 298) (q := 258) (by decide) (by decide) rfl (fun b1036 => ?_) (fun b1036 => ?_)
                  ·
                    refine Go.iconst C (0 : Int32) at_298 (q := 299) rfl rfl ?_
                    exact J1030 _ (by rw [if_neg b1031, if_neg b1032, if_neg b1033, if_neg b1034, if_neg b1035, if_pos b1036])
                  ·
                    refine Go.aload C at_258 (q := 260) rfl rfl rfl ?_
                    refine Go.bipush C (6 : Int32) at_260 (q := 262) rfl rfl ?_
                    refine Go.iload C at_262 (q := 264) rfl rfl ?_
                    refine Go.iload C at_264 (q := 266) rfl rfl ?_
                    refine Go.iload C at_266 (q := 268) rfl rfl ?_
                    refine Go.iload C at_268 (q := 270) rfl rfl ?_
                    refine Go.pureS C (hw _ (List.mem_of_getElem? (i := 6) rfl)) (hw _ (List.mem_of_getElem? (i := 7) rfl)) (hw _ (List.mem_of_getElem? (i := 8) rfl)) (hw _ (List.mem_of_getElem? (i := 9) rfl)) (c_f_ok W.l Z a0 hw a988 (6 : Int32) (3 : Int32) (5 : Int32) v1 v986 h1020 n0 (upd (upd (upd (upd (upd (upd (upd (upd (upd (upd (upd (upd (upd (fun _ => (0 : Int32)) 0 (nar .byte v986)) 1 (nar .byte v986)) 2 (nar .byte v986)) 3 (nar .byte v986)) 4 (nar .byte v986)) 5 (nar .byte v986)) 6 (nar .byte v986)) 7 (nar .byte v986)) 3 (nar .byte (v1 ||| (128 : Int32)).toInt8.toInt32)) 4 (nar .byte (((v1.toUInt32 >>> ((7 : Int32) &&& 31).toUInt32).toInt32) ||| (128 : Int32)).toInt8.toInt32)) 5 (nar .byte (((((v1.toUInt32 >>> ((7 : Int32) &&& 31).toUInt32).toInt32).toUInt32 >>> ((7 : Int32) &&& 31).toUInt32).toInt32) ||| (128 : Int32)).toInt8.toInt32)) 6 (nar .byte (((((((v1.toUInt32 >>> ((7 : Int32) &&& 31).toUInt32).toInt32).toUInt32 >>> ((7 : Int32) &&& 31).toUInt32).toInt32).toUInt32 >>> ((7 : Int32) &&& 31).toUInt32).toInt32) ||| (128 : Int32)).toInt8.toInt32)) 7 (nar .byte ((((((((v1.toUInt32 >>> ((7 : Int32) &&& 31).toUInt32).toInt32).toUInt32 >>> ((7 : Int32) &&& 31).toUInt32).toInt32).toUInt32 >>> ((7 : Int32) &&& 31).toUInt32).toInt32).toUInt32 >>> ((7 : Int32) &&& 31).toUInt32).toInt32).toInt8.toInt32)) F1028 F1022 (by decide)) at_270 pd__40_91BIIIIB_41Z (q := 273) rfl rfl (argsL := [(.ref a988), (.int (6 : Int32)), (.int (3 : Int32)), (.int (5 : Int32)), (.int v1), (.int v986)]) (st := []) rfl rfl (w := 0) rfl (by decide) (by decide) (by decide) (by decide) (res := .int (f_ok (nar .byte (((((((v1.toUInt32 >>> ((7 : Int32) &&& 31).toUInt32).toInt32).toUInt32 >>> ((7 : Int32) &&& 31).toUInt32).toInt32).toUInt32 >>> ((7 : Int32) &&& 31).toUInt32).toInt32) ||| (128 : Int32)).toInt8.toInt32) (6 : Int32) (3 : Int32) (5 : Int32) v1 v986)) ?_
                    refine Go.if0 C at_273 (z_eq _) (qt := 298) (q := 276) (by decide) (by decide) rfl (fun b1037 => ?_) (fun b1037 => ?_)
                    ·
                      refine Go.iconst C (0 : Int32) at_298 (q := 299) rfl rfl ?_
                      exact J1030 _ (by rw [if_neg b1031, if_neg b1032, if_neg b1033, if_neg b1034, if_neg b1035, if_neg b1036, if_pos b1037])
                    ·
                      refine Go.aload C at_276 (q := 278) rfl rfl rfl ?_
                      refine Go.bipush C (7 : Int32) at_278 (q := 280) rfl rfl ?_
                      refine Go.iload C at_280 (q := 282) rfl rfl ?_
                      refine Go.iload C at_282 (q := 284) rfl rfl ?_
                      refine Go.iload C at_284 (q := 286) rfl rfl ?_
                      refine Go.iload C at_286 (q := 288) rfl rfl ?_
                      refine Go.pureS C (hw _ (List.mem_of_getElem? (i := 6) rfl)) (hw _ (List.mem_of_getElem? (i := 7) rfl)) (hw _ (List.mem_of_getElem? (i := 8) rfl)) (hw _ (List.mem_of_getElem? (i := 9) rfl)) (c_f_ok W.l Z a0 hw a988 (7 : Int32) (3 : Int32) (5 : Int32) v1 v986 h1020 n0 (upd (upd (upd (upd (upd (upd (upd (upd (upd (upd (upd (upd (upd (fun _ => (0 : Int32)) 0 (nar .byte v986)) 1 (nar .byte v986)) 2 (nar .byte v986)) 3 (nar .byte v986)) 4 (nar .byte v986)) 5 (nar .byte v986)) 6 (nar .byte v986)) 7 (nar .byte v986)) 3 (nar .byte (v1 ||| (128 : Int32)).toInt8.toInt32)) 4 (nar .byte (((v1.toUInt32 >>> ((7 : Int32) &&& 31).toUInt32).toInt32) ||| (128 : Int32)).toInt8.toInt32)) 5 (nar .byte (((((v1.toUInt32 >>> ((7 : Int32) &&& 31).toUInt32).toInt32).toUInt32 >>> ((7 : Int32) &&& 31).toUInt32).toInt32) ||| (128 : Int32)).toInt8.toInt32)) 6 (nar .byte (((((((v1.toUInt32 >>> ((7 : Int32) &&& 31).toUInt32).toInt32).toUInt32 >>> ((7 : Int32) &&& 31).toUInt32).toInt32).toUInt32 >>> ((7 : Int32) &&& 31).toUInt32).toInt32) ||| (128 : Int32)).toInt8.toInt32)) 7 (nar .byte ((((((((v1.toUInt32 >>> ((7 : Int32) &&& 31).toUInt32).toInt32).toUInt32 >>> ((7 : Int32) &&& 31).toUInt32).toInt32).toUInt32 >>> ((7 : Int32) &&& 31).toUInt32).toInt32).toUInt32 >>> ((7 : Int32) &&& 31).toUInt32).toInt32).toInt8.toInt32)) F1028 F1022 (by decide)) at_288 pd__40_91BIIIIB_41Z (q := 291) rfl rfl (argsL := [(.ref a988), (.int (7 : Int32)), (.int (3 : Int32)), (.int (5 : Int32)), (.int v1), (.int v986)]) (st := []) rfl rfl (w := 0) rfl (by decide) (by decide) (by decide) (by decide) (res := .int (f_ok (nar .byte ((((((((v1.toUInt32 >>> ((7 : Int32) &&& 31).toUInt32).toInt32).toUInt32 >>> ((7 : Int32) &&& 31).toUInt32).toInt32).toUInt32 >>> ((7 : Int32) &&& 31).toUInt32).toInt32).toUInt32 >>> ((7 : Int32) &&& 31).toUInt32).toInt32).toInt8.toInt32) (7 : Int32) (3 : Int32) (5 : Int32) v1 v986)) ?_
                      refine Go.if0 C at_291 (z_eq _) (qt := 298) (q := 294) (by decide) (by decide) rfl (fun b1038 => ?_) (fun b1038 => ?_)
                      ·
                        refine Go.iconst C (0 : Int32) at_298 (q := 299) rfl rfl ?_
                        exact J1030 _ (by rw [if_neg b1031, if_neg b1032, if_neg b1033, if_neg b1034, if_neg b1035, if_neg b1036, if_neg b1037, if_pos b1038])
                      ·
                        refine Go.iconst C (1 : Int32) at_294 (q := 295) rfl rfl ?_
                        refine Go.goto C at_295 (q := 299) (by decide) (by decide) ?_
                        exact J1030 _ (by rw [if_neg b1031, if_neg b1032, if_neg b1033, if_neg b1034, if_neg b1035, if_neg b1036, if_neg b1037, if_neg b1038])
      intro v1029 hv1029
      exact Go.retZ (t := .boolean) (by simp) C at_299 (by decide) (by decide) (congrArg (fun z => some (Value.int z)) (fin19 p0 p1 p2 p3 v1 hv1  hv2  w0  w1  w2  w3  w4 v986 hv986 v1029 hv1029))
set_option maxRecDepth 65536 in
set_option maxHeartbeats 4000000 in
theorem comes_1 {Post : Tables → Env → Array Value → State → Outcome → State → Prop} (hpost : ∀ tb e args s v u, (limb_1_1.after args s (.returned v) u = true ∧ limb_1_2.after args s (.returned v) u = true ∧ True) → FrameEnd s (.returned v) u (Jvm.fieldLocs frame_1_writes args s ++ Jvm.arrayLocs frame_1_arrays args s ++ Jvm.staticLocs frame_1_statics s) 16 128 → Post tb e args s (.returned v) u) :
    ArmFor flags0 classFile x code maxLocals ret World_1 tables_1 room_1 Calls_1 rest_1 Pre_1 Post := by
  intro l hfl _ _ p e ha hc hk s m args below hf hA hF happ hP
  obtain ⟨hcalls, hrest, hpre⟩ := hP
  obtain ⟨-, -, -, hnamed, -, -, -, hat⟩ := (Spec.applies_iff hf).mp happ
  obtain ⟨hg, hn⟩ := and_e (Cond.before_iff.mp (show (Jvm.Cond.and given_1 narrow_1).before args s = true from hpre))
  obtain ⟨hcount, hg0⟩ := and_e hg
  obtain ⟨ha0, hg1⟩ := and_e hg0
  obtain ⟨ha1, hg2⟩ := and_e hg1
  obtain ⟨ha2, hg3⟩ := and_e hg2
  have ha3 := hg3
  obtain ⟨w0, w1, w2, w3, rfl⟩ : ∃ w0 w1 w2 w3 : Value, args = #[w0, w1, w2, w3] := by
    have hs : args.size = 4 := by simpa [Cond.value, given_1] using hcount
    obtain ⟨L⟩ := args
    match L, hs with
    | [w0, w1, w2, w3], _ => exact ⟨w0, w1, w2, w3, rfl⟩
  have hw := fun d (hd : d ∈ tables_1) => atoms_spec (ws := Jvm.Cond.code x code maxLocals ret :: tables_1) hat d (List.mem_cons_of_mem _ hd)
  obtain ⟨i0, ei0⟩ := is_v ha0
  obtain rfl : w0 = (.int i0) := Option.some.inj ei0
  obtain ⟨i1, ei1⟩ := is_v ha1
  obtain rfl : w1 = (.int i1) := Option.some.inj ei1
  obtain ⟨i2, ei2⟩ := is_v ha2
  obtain rfl : w2 = (.int i2) := Option.some.inj ei2
  obtain ⟨i3, ei3⟩ := is_v ha3
  obtain rfl : w3 = (.int i3) := Option.some.inj ei3
  obtain ⟨n, o, h1, h2, h3, _, L, rfl, ⟨N, rfl⟩, hq⟩ := rm0 l s _ hw i0 i1 i2 i3 s.heap s.heap.size (Nat.le_refl _)  p e ha hc hk s m _ below hf ((Spec.applies_iff_loose hf).mp happ).1 ⟨rfl, State.Warmed39.refl s, rfl⟩ trivial
  refine ⟨n, _, h1, h2, h3, hpost _ _ _ _ _ _ ⟨Cond.after_iff.mpr rfl, Cond.after_iff.mpr (eq_i res_at (Term.int_eval (1)) rfl), trivial⟩ ⟨hq.1, hq.2.1, (hq.2.2.sift fun y hy => Or.inr (N y hy)).mono (by decide) (by decide)⟩⟩
theorem main_1_1 : Claimed_1_1 := comes_1 fun _ _ _ _ _ _ h hF => ⟨h.1, hF⟩
theorem main_1_2 : Claimed_1_2 := comes_1 fun _ _ _ _ _ _ h hF => ⟨h.2.1, hF⟩
end Jvm.Pilot.@@N@@
namespace Jvm.Pilot.@@N@@
open Jvm Jvm.ClassFile Sem Op Lib Jvm.Free Jvm.Stand Jvm.Pilot.@@N@@.Jvm.D
/-! MADE BY PROGRAM (witnessworld.py) out of the Statement's table words and the real class files: 9 classes; the members and pool entries that the words name. The judged class is class 1, her method 1. -/
namespace start1
open Jvm.ClassFile
def u (s : String) : CpInfo := .utf8 (stringToUtf16 s)
/-- a pool by its gaps: so many unusable entries, then the entry; so many at the end -/
def gap : Nat → List CpInfo → List CpInfo
  | 0, r => r
  | n + 1, r => .unusable :: gap n r
def poolList (es : List (Nat × CpInfo)) (last : Nat) : List CpInfo := es.foldr (fun e r => gap e.1 (e.2 :: r)) (gap last [])
def pool (es : List (Nat × CpInfo)) (last : Nat) : Array CpInfo := ⟨poolList es last⟩
def fileOf (pool : Array CpInfo) (this : Nat) (attrs : Array Attribute := #[]) (ms : Array MethodInfo := #[]) (fl : Nat := 33) (sup : Nat := 0) (ifs : Array Nat := #[]) (fds : Array FieldInfo := #[]) : ClassFile where
  minorVersion := 0
  majorVersion := 65
  constantPool := pool
  accessFlags := fl
  thisClass := this
  superClass := sup
  interfaces := ifs
  fields := fds
  methods := ms
  attributes := attrs
def plain (name : String) (sup : Option ClassId) : Class where
  name := name
  kind := .ordinary
  loader := none
  accessFlags := 33
  super := sup
  interfaces := #[]
  cf := none
  fields := #[]
  methods := #[]
  instanceTypes := #[]
  staticTypes := #[]
  resolved := #[]
  callSites := []
  init := .initialized
  statics := none
  mirror := none

def pool0 : Array CpInfo := pool [(5, u "<init>"), (0, u "()V"), (1, .class_ 10), (1, u "java/lang/Object")] 113

def k0m0 : Method := { name := "<init>", desc := "()V", sig := { parameters := [], returnType := none }, accessFlags := 1, code := none }
/-- java/lang/Object -/
def k0 : Class := { plain "java/lang/Object" none with
  accessFlags := 33
  interfaces := #[]
  cf := some (fileOf pool0 8 #[] #[{ accessFlags := 1, nameIndex := 5, descriptorIndex := 6, attributes := #[] }] 33 0 #[] #[])
  fields := #[]
  methods := #[k0m0]
  instanceTypes := #[]
  staticTypes := #[]
  resolved := Array.replicate 124 none
  statics := none }

def pool1 : Array CpInfo := pool [(2, .class_ 4), (1, u "java/lang/Object"), (0, u "<init>"), (0, u "()V"), (0, .integer 2147483647), (0, .methodref 9 10), (0, .class_ 11), (0, .nameAndType 12 13), (0, u "com/example/revleaf/revleaf/Node"), (0, u "putVarint"), (0, u "([BII)I"), (0, .integer 2097152), (0, .integer 268435456), (0, .methodref 17 18), (0, .class_ 19), (0, .nameAndType 20 21), (0, u "com/example/revleaf/revleaf/NodePutVarintPinLaw"), (0, u "ok"), (0, u "([BIIIIB)Z"), (2, u "law"), (0, u "(IIII)Z")] 5

def k1m0 : Method := { name := "<init>", desc := "()V", sig := { parameters := [], returnType := none }, accessFlags := 1, code := none }
def k1c1 : Code := { maxStack := 6, maxLocals := 10, code := code, exceptionTable := #[], attributes := #[] }
def k1m1 : Method := { name := "law", desc := "(IIII)Z", sig := { parameters := [.int, .int, .int, .int], returnType := some .boolean }, accessFlags := 9, code := some k1c1 }
def k1c2 : Code := { maxStack := 3, maxLocals := 9, code := method_3_code, exceptionTable := #[], attributes := #[] }
def k1m2 : Method := { name := "ok", desc := "([BIIIIB)Z", sig := { parameters := [(.array .byte), .int, .int, .int, .int, .byte], returnType := some .boolean }, accessFlags := 10, code := some k1c2 }
/-- com/example/revleaf/revleaf/NodePutVarintPinLaw -/
def k1 : Class := { plain "com/example/revleaf/revleaf/NodePutVarintPinLaw" (some 0) with
  accessFlags := 49
  interfaces := #[]
  cf := some (fileOf pool1 17 #[] #[{ accessFlags := 1, nameIndex := 5, descriptorIndex := 6, attributes := #[] }, { accessFlags := 9, nameIndex := 24, descriptorIndex := 25, attributes := #[] }, { accessFlags := 10, nameIndex := 20, descriptorIndex := 21, attributes := #[] }] 49 2 #[] #[])
  fields := #[]
  methods := #[k1m0, k1m1, k1m2]
  instanceTypes := #[]
  staticTypes := #[]
  resolved := Array.replicate 31 none
  statics := none }

def pool2 : Array CpInfo := pool [(1, .class_ 2), (0, u "com/example/revleaf/revleaf/Node"), (6, u "slots"), (0, u "[I"), (9, u "keyAt"), (0, u "I"), (2, u "data"), (0, u "[B"), (9, u "count"), (2, u "end"), (2, u "page"), (0, u "J"), (2, u "encodedSize"), (2, u "generation"), (6, .class_ 57), (1, u "java/lang/Object"), (3, u "decoded"), (0, u "Z"), (20, u "([BII)I"), (144, .class_ 229), (0, u "com/example/revleaf/revleaf/Node$Reader"), (88, u "SHORT"), (0, u "Ljava/lang/invoke/VarHandle;"), (7, u "INT"), (7, u "LONG"), (32, u "NO_PAGE"), (1, u "HEADER_SIZE"), (1, u "SLOTTED_LEAF"), (0, u "B"), (1, u "BRANCH"), (1, u "OVERFLOW"), (1, u "LEAF"), (1, u "SLOT_SIZE"), (0, u "COUNT_OFFSET"), (0, u "CHECKSUM_OFFSET"), (0, u "GENERATION_OFFSET"), (1, u "INITIAL_BYTES"), (1, u "START_BITS"), (1, u "START_MASK"), (0, u "found"), (0, u "parent"), (0, u "Lcom/example/revleaf/revleaf/BranchNode;"), (0, u "parentIndex"), (47, u "putVarint"), (4, .class_ 448), (0, u "com/example/revleaf/revleaf/Node$Split")] 20

def k2c0 : Code := { maxStack := 4, maxLocals := 5, code := prog_26_method_63_code, exceptionTable := #[], attributes := #[] }
def k2m0 : Method := { name := "putVarint", desc := "([BII)I", sig := { parameters := [(.array .byte), .int, .int], returnType := some .int }, accessFlags := 8, code := some k2c0 }
/-- com/example/revleaf/revleaf/Node -/
def k2 : Class := { plain "com/example/revleaf/revleaf/Node" (some 0) with
  accessFlags := 1056
  interfaces := #[]
  cf := some (fileOf pool2 1 #[.nestMembers #[228, 447]] #[{ accessFlags := 8, nameIndex := 442, descriptorIndex := 83, attributes := #[] }] 1056 55 #[] #[{ accessFlags := 24, nameIndex := 368, descriptorIndex := 42, attributes := #[] }, { accessFlags := 24, nameIndex := 370, descriptorIndex := 21, attributes := #[] }, { accessFlags := 24, nameIndex := 372, descriptorIndex := 373, attributes := #[] }, { accessFlags := 24, nameIndex := 375, descriptorIndex := 373, attributes := #[] }, { accessFlags := 24, nameIndex := 377, descriptorIndex := 373, attributes := #[] }, { accessFlags := 24, nameIndex := 379, descriptorIndex := 373, attributes := #[] }, { accessFlags := 24, nameIndex := 381, descriptorIndex := 21, attributes := #[] }, { accessFlags := 26, nameIndex := 382, descriptorIndex := 21, attributes := #[] }, { accessFlags := 26, nameIndex := 383, descriptorIndex := 21, attributes := #[] }, { accessFlags := 26, nameIndex := 384, descriptorIndex := 21, attributes := #[] }, { accessFlags := 26, nameIndex := 386, descriptorIndex := 21, attributes := #[] }, { accessFlags := 26, nameIndex := 388, descriptorIndex := 21, attributes := #[] }, { accessFlags := 26, nameIndex := 390, descriptorIndex := 21, attributes := #[] }, { accessFlags := 26, nameIndex := 318, descriptorIndex := 319, attributes := #[] }, { accessFlags := 26, nameIndex := 327, descriptorIndex := 319, attributes := #[] }, { accessFlags := 26, nameIndex := 335, descriptorIndex := 319, attributes := #[] }, { accessFlags := 18, nameIndex := 20, descriptorIndex := 21, attributes := #[] }, { accessFlags := 16, nameIndex := 61, descriptorIndex := 62, attributes := #[] }, { accessFlags := 0, nameIndex := 24, descriptorIndex := 25, attributes := #[] }, { accessFlags := 2, nameIndex := 9, descriptorIndex := 10, attributes := #[] }, { accessFlags := 0, nameIndex := 35, descriptorIndex := 21, attributes := #[] }, { accessFlags := 2, nameIndex := 38, descriptorIndex := 21, attributes := #[] }, { accessFlags := 2, nameIndex := 41, descriptorIndex := 42, attributes := #[] }, { accessFlags := 2, nameIndex := 48, descriptorIndex := 42, attributes := #[] }, { accessFlags := 0, nameIndex := 45, descriptorIndex := 21, attributes := #[] }, { accessFlags := 0, nameIndex := 391, descriptorIndex := 62, attributes := #[] }, { accessFlags := 0, nameIndex := 392, descriptorIndex := 393, attributes := #[] }, { accessFlags := 0, nameIndex := 394, descriptorIndex := 21, attributes := #[] }])
  fields := #[{ name := "NO_PAGE", type := .long, accessFlags := 24, slot := 0, constantValue := 0 }, { name := "HEADER_SIZE", type := .int, accessFlags := 24, slot := 1, constantValue := 0 }, { name := "SLOTTED_LEAF", type := .byte, accessFlags := 24, slot := 2, constantValue := 0 }, { name := "BRANCH", type := .byte, accessFlags := 24, slot := 3, constantValue := 0 }, { name := "OVERFLOW", type := .byte, accessFlags := 24, slot := 4, constantValue := 0 }, { name := "LEAF", type := .byte, accessFlags := 24, slot := 5, constantValue := 0 }, { name := "SLOT_SIZE", type := .int, accessFlags := 24, slot := 6, constantValue := 0 }, { name := "COUNT_OFFSET", type := .int, accessFlags := 26, slot := 7, constantValue := 0 }, { name := "CHECKSUM_OFFSET", type := .int, accessFlags := 26, slot := 8, constantValue := 0 }, { name := "GENERATION_OFFSET", type := .int, accessFlags := 26, slot := 9, constantValue := 0 }, { name := "INITIAL_BYTES", type := .int, accessFlags := 26, slot := 10, constantValue := 0 }, { name := "START_BITS", type := .int, accessFlags := 26, slot := 11, constantValue := 0 }, { name := "START_MASK", type := .int, accessFlags := 26, slot := 12, constantValue := 0 }, { name := "SHORT", type := (.object "java/lang/invoke/VarHandle"), accessFlags := 26, slot := 13, constantValue := 0 }, { name := "INT", type := (.object "java/lang/invoke/VarHandle"), accessFlags := 26, slot := 14, constantValue := 0 }, { name := "LONG", type := (.object "java/lang/invoke/VarHandle"), accessFlags := 26, slot := 15, constantValue := 0 }, { name := "keyAt", type := .int, accessFlags := 18, slot := 0, constantValue := 0 }, { name := "decoded", type := .boolean, accessFlags := 16, slot := 1, constantValue := 0 }, { name := "data", type := (.array .byte), accessFlags := 0, slot := 2, constantValue := 0 }, { name := "slots", type := (.array .int), accessFlags := 2, slot := 3, constantValue := 0 }, { name := "count", type := .int, accessFlags := 0, slot := 4, constantValue := 0 }, { name := "end", type := .int, accessFlags := 2, slot := 5, constantValue := 0 }, { name := "page", type := .long, accessFlags := 2, slot := 6, constantValue := 0 }, { name := "generation", type := .long, accessFlags := 2, slot := 7, constantValue := 0 }, { name := "encodedSize", type := .int, accessFlags := 0, slot := 8, constantValue := 0 }, { name := "found", type := .boolean, accessFlags := 0, slot := 9, constantValue := 0 }, { name := "parent", type := (.object "com/example/revleaf/revleaf/BranchNode"), accessFlags := 0, slot := 10, constantValue := 0 }, { name := "parentIndex", type := .int, accessFlags := 0, slot := 11, constantValue := 0 }]
  methods := #[k2m0]
  instanceTypes := #[.int, .boolean, (.array .byte), (.array .int), .int, .int, .long, .long, .int, .boolean, (.object "com/example/revleaf/revleaf/BranchNode"), .int]
  staticTypes := #[.long, .int, .byte, .byte, .byte, .byte, .int, .int, .int, .int, .int, .int, .int, (.object "java/lang/invoke/VarHandle"), (.object "java/lang/invoke/VarHandle"), (.object "java/lang/invoke/VarHandle")]
  resolved := Array.replicate 469 none
  statics := none }

def pool3 : Array CpInfo := pool [(1, u "java/lang/Cloneable"), (0, .class_ 1), (0, u "java/lang/Object"), (0, .class_ 3)] 3

/-- java/lang/Cloneable -/
def k3 : Class := { plain "java/lang/Cloneable" (some 0) with
  accessFlags := 1537
  interfaces := #[]
  cf := some (fileOf pool3 2 #[] #[] 1537 4 #[] #[])
  fields := #[]
  methods := #[]
  instanceTypes := #[]
  staticTypes := #[]
  resolved := Array.replicate 8 none
  statics := none }

def pool4 : Array CpInfo := pool [(1, u "java/io/Serializable"), (0, .class_ 1), (0, u "java/lang/Object"), (0, .class_ 3)] 3

/-- java/io/Serializable -/
def k4 : Class := { plain "java/io/Serializable" (some 0) with
  accessFlags := 1537
  interfaces := #[]
  cf := some (fileOf pool4 2 #[] #[] 1537 4 #[] #[])
  fields := #[]
  methods := #[]
  instanceTypes := #[]
  staticTypes := #[]
  resolved := Array.replicate 8 none
  statics := none }

/-- the primitive byte -/
def k5 : Class := { plain "byte" none with kind := .primitive 'B', accessFlags := 0x411 }
/-- [B -/
def k6 : Class := { plain "[B" (some 0) with kind := .array 5 .byte, interfaces := #[3, 4], accessFlags := 1041 }

/-- the primitive int -/
def k7 : Class := { plain "int" none with kind := .primitive 'I', accessFlags := 0x411 }
/-- [I -/
def k8 : Class := { plain "[I" (some 0) with kind := .array 7 .int, interfaces := #[3, 4], accessFlags := 1041 }

def heap : Heap := #[]
def classes : Array Class := #[k0, k1, k2, k3, k4, k5, k6, k7, k8]
def interned : List (Array UInt16 × Addr) := []
def slotsUsed : Nat := 0
def theMethod : MethodId := ⟨1, 1⟩
def args0 : Array Value := #[.int 1000, .int 2, .int 3, .int 4]
def aboutOver (below : List Frame) : State where
  vm := { classes := classes, interned := interned.toArray }
  heap := heap
  slotsUsed := slotsUsed
  threads := #[{ frames := .invoking theMethod args0 :: below }]
def below0 : List Frame := [.native { method := ⟨0, 0⟩, args := #[] }]
def about1 : State := aboutOver below0
def p0 : Program := .bare "" "" ""
def e0 : Env := launch0.env 0 0 0
theorem w_frames : about1.frames = Frame.invoking theMethod args0 :: below0 := rfl
set_option maxRecDepth 65536 in
theorem w_args : argsFit about1.vm theMethod args0 = true := by decide +kernel
set_option maxRecDepth 65536 in
theorem w_heap : heapFits about1 = true := by decide +kernel
set_option maxRecDepth 65536 in
theorem w_runnable : about1.curStatus? = some .runnable := by decide +kernel
set_option maxRecDepth 65536 in
theorem w_alone : about1.alone = true := by decide +kernel
set_option maxRecDepth 65536 in
theorem w_named : about1.methodNamed? x = some theMethod := by decide +kernel
set_option maxRecDepth 65536 in
theorem w_hears : about1.hears theMethod below0 = true := by decide +kernel
set_option maxRecDepth 65536 in
theorem w_ripe : about1.ripe theMethod args0 below0 = true := by decide +kernel
theorem w_running : about1.status = .running := rfl
set_option maxRecDepth 65536 in
theorem w_room : about1.hasRoom e0.platform room_1 = true :=
  launch0.hasRoom_least _ room_1 (by decide +kernel) (by decide +kernel) (by decide +kernel) (by decide +kernel) (by decide +kernel) (by decide +kernel)
theorem allAtoms_all (ts : List Jvm.Cond) (a : Array Jvm.Value) (st : Jvm.State) : (allAtoms ts).before a st = ts.all (fun c => c.before a st) := by
  induction ts with
  | nil => rfl
  | cons c t ih =>
    show (Jvm.Cond.and c (allAtoms t)).before a st = _
    rw [Jvm.Cond.before_and, ih, List.all_cons]
def words1 : List Jvm.Cond := Jvm.Cond.code x code maxLocals ret :: tables_1
/-- a 'code' word, met by the world's own term for the bytes: nothing is compared byte by byte -/
theorem code_word {y : MethodName} {bytes : ByteArray} {mx : Nat} {rt : Option FieldType} {a : Array Value} {s : State} {m : MethodId} {meth : Method} {c : Code} (h1 : s.methodNamed? y = some m) (h2 : s.vm.method? m = some meth) (h3 : meth.code = some c) (h4 : c.code = bytes)
    (h5 : (c.maxLocals == mx && c.exceptionTable.isEmpty && decide (c.maxStack ≤ mostOperands) && decide (meth.sig.returnType = rt) && !meth.locks && decide (parseMethodDescriptor y.desc = some meth.sig)) = true) : (Jvm.Cond.code y bytes mx rt).before a s = true := by
  simp only [Bool.and_eq_true, beq_iff_eq, Bool.not_eq_true', decide_eq_true_eq] at h5
  obtain ⟨⟨⟨⟨⟨g1, g2⟩, g3⟩, g4⟩, g5⟩, g6⟩ := h5
  simp [Cond.before, Cond.holds, Cond.value, h1, h2, h3, h4, g1, g2, g3, g4, g5, g6]
def isCode : Jvm.Cond → Bool
  | .code _ _ _ _ => true
  | _ => false
theorem all_split {L : List Jvm.Cond} {P : Jvm.Cond → Bool} (h1 : L.all (fun c => isCode c || P c) = true) (h2 : ∀ c ∈ L.filter isCode, P c = true) : L.all P = true := by
  refine List.all_eq_true.mpr fun c hc => ?_
  have h := List.all_eq_true.mp h1 c hc
  rcases Bool.eq_false_or_eq_true (isCode c) with hi | hi
  · exact h2 c (List.mem_filter.mpr ⟨hc, hi⟩)
  · simpa [hi] using h
set_option maxRecDepth 65536 in
theorem w_c0 : (Jvm.Cond.code x code maxLocals ret).before args0 about1 = true := code_word (m := ⟨1, 1⟩) (meth := k1m1) (c := k1c1) (by decide +kernel) rfl rfl rfl (by decide +kernel)
set_option maxRecDepth 65536 in
theorem w_c1 : (Jvm.Cond.code ({ cls := "com/example/revleaf/revleaf/Node", name := "putVarint", desc := "([BII)I" } : Jvm.MethodName) prog_26_method_63_code (5 : Nat) (Option.some Jvm.ClassFile.FieldType.int)).before args0 about1 = true := code_word (m := ⟨2, 0⟩) (meth := k2m0) (c := k2c0) (by decide +kernel) rfl rfl rfl (by decide +kernel)
set_option maxRecDepth 65536 in
theorem w_c2 : (Jvm.Cond.code ({ cls := "com/example/revleaf/revleaf/NodePutVarintPinLaw", name := "ok", desc := "([BIIIIB)Z" } : Jvm.MethodName) method_3_code (9 : Nat) (Option.some Jvm.ClassFile.FieldType.boolean)).before args0 about1 = true := code_word (m := ⟨1, 2⟩) (meth := k1m2) (c := k1c2) (by decide +kernel) rfl rfl rfl (by decide +kernel)
def codes1 : List Jvm.Cond := [Jvm.Cond.code x code maxLocals ret, Jvm.Cond.code ({ cls := "com/example/revleaf/revleaf/Node", name := "putVarint", desc := "([BII)I" } : Jvm.MethodName) prog_26_method_63_code (5 : Nat) (Option.some Jvm.ClassFile.FieldType.int), Jvm.Cond.code ({ cls := "com/example/revleaf/revleaf/NodePutVarintPinLaw", name := "ok", desc := "([BIIIIB)Z" } : Jvm.MethodName) method_3_code (9 : Nat) (Option.some Jvm.ClassFile.FieldType.boolean)]
set_option maxRecDepth 65536 in
theorem codes_eq : words1.filter isCode = codes1 := rfl
theorem w_codes : ∀ c ∈ words1.filter isCode, c.before args0 about1 = true := by
  rw [codes_eq]
  intro c hc
  simp only [codes1, List.mem_cons, List.not_mem_nil, or_false] at hc
  rcases hc with rfl | rfl | rfl
  · exact w_c0
  · exact w_c1
  · exact w_c2
set_option maxRecDepth 65536 in
theorem w_t1 : words1.all (fun c => isCode c || c.before args0 about1) = true := by decide +kernel
theorem w_tables : (allAtoms (Jvm.Cond.code x code maxLocals ret :: tables_1)).before args0 about1 = true := by
  rw [allAtoms_all]
  show words1.all (fun c => c.before args0 about1) = true
  refine all_split ?_ w_codes
  rw [w_t1]
set_option maxRecDepth 65536 in
theorem w_case : (Jvm.Cond.and given_1 narrow_1).before args0 about1 = true := by decide +kernel
theorem w_applies : (headSpec (Jvm.Cond.code x code maxLocals ret :: tables_1) room_1).applies x e0.platform about1 = true :=
  (Spec.applies_iff w_frames).mpr ⟨w_running, w_runnable, w_alone, w_named, w_hears, w_ripe, w_room, w_tables⟩
theorem atStart : AtStart classFile x code maxLocals ret World_1 tables_1 room_1 Calls_1 rest_1 Pre_1 launch0 p0 e0 about1 theMethod args0 below0 :=
  ⟨lists_1, trivial, launch0.admits_env _ _ _, launch0.least_env, fairChoices_fair.cas, fairChoices_fair.clock, w_frames, w_args, w_heap, w_applies, trivial, trivial, w_case⟩
end start1
theorem witness_1 : WitnessClaimed_1 := ⟨start1.p0, start1.e0, start1.about1, start1.theMethod, start1.args0, start1.below0, start1.atStart⟩
end Jvm.Pilot.@@N@@
