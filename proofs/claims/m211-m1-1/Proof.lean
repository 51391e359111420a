import JvmDerived
import JvmDerived.Pilot.@@N@@Statement
import JvmDerived.Pilot.@@N@@Code
set_option linter.unusedVariables false
set_option linter.unusedSimpArgs false
namespace Jvm.RoadKit
open Sem ClassFile Op Lib Jvm.Stand Jvm.Free Jvm.LawKit
section New
variable {p : Program} {l : Launch} {e : Env} {R : Room} {s : State} {m : MethodId} {args : Array Value} {below : List Frame} {meth : Method} {c : Code} {T : State} {locs : List Loc} {cells slots : Nat}
theorem retI (X : Stand p l e R s m args below meth c T locs cells slots) (hx : p.tables.exec = Jvm.exec) {pc : Nat} {Ls : Array Slot} {z : Int32} {rest : List Value} (hret : meth.sig.returnType = some .int) (hd : decode c.code pc = .ok (.ireturn, 1)) {fs : List Frame}
    (hl : ∀ (f : JFrame) (acts : List Action), f.method = m → f.locked = none → f.entered = [] → (doReturn e (T.setTop f) acts (some (.int z))).1 = T.setFrames fs) : Steps p.tables e below (T.setTop (mkF m pc Ls (.int z :: rest))) (T.setFrames fs) := by
  have hm' : T.vm.method? m = some meth := X.method'
  have hn : narrow .int (.int z) = .int z := rfl
  show Steps p.tables e below (T.setTop { method := m, pc := pc, locals := Ls, stack := _ :: rest, locked := none }) _
  jvm_step X.here [X.here.top, hx, hd, hm', hret, hn]
  first | (intro acts; rw [hl _ acts rfl rfl rfl]) | rw [hl _ _ rfl rfl rfl]
  exact Steps.refl _
end New
end Jvm.RoadKit
namespace Jvm.Pilot.@@N@@
open Jvm Jvm.ClassFile Sem Op Lib Jvm.Free Jvm.Stand Jvm.LawKit Jvm.RoadKit Bundle Jvm.Pilot.@@N@@.Jvm.D
/-- the fixed things of one body's walk -/
abbrev Wk : Type := Program × Launch × Env × Room × State × MethodId × Array Value × List Frame × Method × Code
abbrev Wk.p (W : Wk) : Program := W.1
abbrev Wk.l (W : Wk) : Launch := W.2.1
abbrev Wk.e (W : Wk) : Env := W.2.2.1
abbrev Wk.R (W : Wk) : Room := W.2.2.2.1
abbrev Wk.s (W : Wk) : State := W.2.2.2.2.1
abbrev Wk.m (W : Wk) : MethodId := W.2.2.2.2.2.1
abbrev Wk.args (W : Wk) : Array Value := W.2.2.2.2.2.2.1
abbrev Wk.below (W : Wk) : List Frame := W.2.2.2.2.2.2.2.1
abbrev Wk.meth (W : Wk) : Method := W.2.2.2.2.2.2.2.2.1
abbrev Wk.c (W : Wk) : Code := W.2.2.2.2.2.2.2.2.2
abbrev St (W : Wk) (T : State) (L : List Loc) (k n : Nat) : Prop := Stand W.p W.l W.e W.R W.s W.m W.args W.below W.meth W.c T L k n
abbrev Sp (W : Wk) (a b : State) : Prop := Steps W.p.tables W.e W.below a b
/-- what holds throughout the walk -/
def Cx (Z : State) (W : Wk) (rm : Room) (own nm : String) (bytes : ByteArray) (maxL : Nat) (ret : Option FieldType) : Prop :=
  W.p.tables.exec = Jvm.exec ∧ W.c.code = bytes ∧ W.c.maxLocals = maxL ∧ W.s.vm.findClass own = some W.m.cls ∧ W.meth.name = nm ∧ W.meth.sig.returnType = ret ∧ Z.Warmed39 W.s.vm ∧ W.meth.locks = false ∧ W.R = rm
section Cxs
variable {Z : State} {W : Wk} {rm : Room} {own nm : String} {bytes : ByteArray} {maxL : Nat} {ret : Option FieldType}
theorem Cx.x (C : Cx Z W rm own nm bytes maxL ret) : W.p.tables.exec = Jvm.exec := C.1
theorem Cx.b (C : Cx Z W rm own nm bytes maxL ret) : W.c.code = bytes := C.2.1
theorem Cx.ml (C : Cx Z W rm own nm bytes maxL ret) : W.c.maxLocals = maxL := C.2.2.1
theorem Cx.ow (C : Cx Z W rm own nm bytes maxL ret) : W.s.vm.findClass own = some W.m.cls := C.2.2.2.1
theorem Cx.na (C : Cx Z W rm own nm bytes maxL ret) : W.meth.name = nm := C.2.2.2.2.1
theorem Cx.re (C : Cx Z W rm own nm bytes maxL ret) : W.meth.sig.returnType = ret := C.2.2.2.2.2.1
theorem Cx.z (C : Cx Z W rm own nm bytes maxL ret) : Z.Warmed39 W.s.vm := C.2.2.2.2.2.2.1
theorem Cx.lk (C : Cx Z W rm own nm bytes maxL ret) : W.meth.locks = false := C.2.2.2.2.2.2.2.1
theorem Cx.ro (C : Cx Z W rm own nm bytes maxL ret) : W.R = rm := C.2.2.2.2.2.2.2.2
end Cxs
/-- the run comes to the invocation's end, with what Q says -/
def Ends (W : Wk) (n0 : Nat) (Q : Option Value → Heap → Prop) (U : State) : Prop :=
  ∃ s₂ o, Sp W U s₂ ∧ s₂.status = .running ∧ Ended s₂ W.below o ∧ ∃ v L, o = .returned v ∧ (Fr n0 L ∧ Q v s₂.heap) ∧ FrameEnd W.s o s₂ L W.R.cells W.R.slots
/-- from pc, with these locals and this stack, over the heap h, at most k cells of n slots made so far -/
def Go (W : Wk) (n0 : Nat) (Q : Option Value → Heap → Prop) (h : Heap) (k n pc : Nat) (ls : Array Slot) (st : List Value) : Prop :=
  ∀ T L k' n', St W T L k' n' → k' ≤ k → n' ≤ n → Fr n0 L → T.heap = h → Ends W n0 Q (T.setTop (mkF W.m pc ls st))
/-- a body's contract: on these arguments, over the heap h, it ends and Q holds of what it returns and of the heap that it leaves -/
def Met1 (l : Launch) (Z : State) (y : MethodName) (bytes : ByteArray) (maxL : Nat) (ret : Option FieldType) (ws : List Jvm.Cond) (rm : Room) (as : Array Value) (h : Heap) (n0 : Nat) (Q : Option Value → Heap → Prop) : Prop :=
  MetFree l y (head1 (Jvm.Cond.code y bytes maxL ret :: ws) rm) (fun a U => a = as ∧ Z.Warmed39 U.vm ∧ U.heap = h) (fun _ _ _ _ _ => True) (fun _ U o U' => ∃ v L, o = .returned v ∧ (Fr n0 L ∧ Q v U'.heap) ∧ FrameEnd U o U' L rm.cells rm.slots)
theorem met_of_go {l : Launch} {Z : State} {y : MethodName} {bytes : ByteArray} {maxL : Nat} {ret : Option FieldType} {ws : List Jvm.Cond} {rm : Room} {as : Array Value} {h : Heap} {n0 : Nat} {Q : Option Value → Heap → Prop} {ls : Array Slot}
    (hpl : plainFor y = true) (hef : ∀ m, entryFrame m as maxL = mkF m 0 ls [])
    (go : ∀ W : Wk, W.l = l → Cx Z W rm y.cls y.name bytes maxL ret → Go W n0 Q h 0 0 0 ls []) : Met1 l Z y bytes maxL ret ws rm as h n0 Q := by
  refine MetFree.of_bodySF hpl hisR ?_
  intro p e s m args below meth c s₁ Bd hml0 hP hK
  obtain ⟨rfl, hZ, hh⟩ := hP
  have X0 : Stand p l e rm s m args below meth c s₁ [] 0 0 := Stand.of_body Bd
  have e0 : s₁.heap = h := by rw [← hh, Bd.state]; rfl
  obtain ⟨s₂, o, h1, h2, h3, h4⟩ := go (p, l, e, rm, s, m, args, below, meth, c) rfl ⟨Bd.exec, Bd.bytes, hml0, findClass_of_methodNamed Bd.named, (name_of_methodNamed Bd.named Bd.method).1, Bd.returns, hZ, Bd.notSynchronized, rfl⟩ s₁ [] 0 0 X0 (Nat.le_refl _) (Nat.le_refl _) (Fr.nil n0) e0
  exact ⟨s₂, o, castTop (hef m) h1, h2, h3, h4⟩
section Gos
variable {Z : State} {W : Wk} {rm : Room} {own nm : String} {bytes : ByteArray} {maxL : Nat} {ret : Option FieldType} {n0 : Nat} {Q : Option Value → Heap → Prop} {h : Heap} {k n pc q : Nat} {ls : Array Slot} {st : List Value} {a0 : Array Value}
theorem Go.mono {k' n' : Nat} (hk : k ≤ k') (hn : n ≤ n') (g : Go W n0 Q h k' n' pc ls st) : Go W n0 Q h k n pc ls st :=
  fun T L a b X h1 h2 => g T L a b X (Nat.le_trans h1 hk) (Nat.le_trans h2 hn)
theorem Go.stepX {ls' : Array Slot} {st' : List Value} (f : ∀ T L a b tg, St W T L a b → T.heap = h → Sp W (T.setTop (mkF W.m q ls' st')) tg → Sp W (T.setTop (mkF W.m pc ls st)) tg) (hr : Go W n0 Q h k n q ls' st') : Go W n0 Q h k n pc ls st := by
  intro T L a b X hk hn N eT
  obtain ⟨s₂, o, hs, r⟩ := hr T L a b X hk hn N eT
  exact ⟨s₂, o, f T L a b _ X eT hs, r⟩
theorem Go.stepT {ls' : Array Slot} {st' : List Value} (f : ∀ T L a b, St W T L a b → T.heap = h → ∃ T', St W T' L a b ∧ T'.heap = h ∧ ∀ tg, Sp W (T'.setTop (mkF W.m q ls' st')) tg → Sp W (T.setTop (mkF W.m pc ls st)) tg) (hr : Go W n0 Q h k n q ls' st') : Go W n0 Q h k n pc ls st := by
  intro T L a b X hk hn N eT
  obtain ⟨T', X', e', sp⟩ := f T L a b X eT
  obtain ⟨s₂, o, hs, r⟩ := hr T' L a b X' hk hn N e'
  exact ⟨s₂, o, sp _ hs, r⟩

theorem Go.iload (C : Cx Z W rm own nm bytes maxL ret) {j : Nat} {v : Int32} (hd : decode bytes pc = .ok (.iload j, 2)) (hq : pc + 2 = q) (hl : ls[j]? = some (.val (.int v)))
    (hr : Go W n0 Q h k n q ls (.int v :: st)) : Go W n0 Q h k n pc ls st := by
  subst hq
  exact Go.stepX (fun T L a b tg X eT kk => XS.iload X.here C.x rfl (hb C.b hd) hl kk) hr
theorem Go.iloadN (C : Cx Z W rm own nm bytes maxL ret) {j : Fin 4} {v : Int32} (hd : decode bytes pc = .ok (.iload_n j, 1)) (hq : pc + 1 = q) (hl : ls[j.val]? = some (.val (.int v)))
    (hr : Go W n0 Q h k n q ls (.int v :: st)) : Go W n0 Q h k n pc ls st := by
  subst hq
  exact Go.stepX (fun T L a b tg X eT kk => XS.iloadN X.here C.x rfl (hb C.b hd) hl kk) hr
theorem Go.lload (C : Cx Z W rm own nm bytes maxL ret) {j : Nat} {v : Int64} (hd : decode bytes pc = .ok (.lload j, 2)) (hq : pc + 2 = q) (hl : ls[j]? = some (.val (.long v)))
    (hr : Go W n0 Q h k n q ls (.long v :: st)) : Go W n0 Q h k n pc ls st := by
  subst hq
  exact Go.stepX (fun T L a b tg X eT kk => XS.lload X.here C.x rfl (hb C.b hd) hl kk) hr
theorem Go.lloadN (C : Cx Z W rm own nm bytes maxL ret) {j : Fin 4} {v : Int64} (hd : decode bytes pc = .ok (.lload_n j, 1)) (hq : pc + 1 = q) (hl : ls[j.val]? = some (.val (.long v)))
    (hr : Go W n0 Q h k n q ls (.long v :: st)) : Go W n0 Q h k n pc ls st := by
  subst hq
  exact Go.stepX (fun T L a b tg X eT kk => XS.lloadN X.here C.x rfl (hb C.b hd) hl kk) hr
theorem Go.aload (C : Cx Z W rm own nm bytes maxL ret) {j : Nat} {v : Value} (hd : decode bytes pc = .ok (.aload j, 2)) (hq : pc + 2 = q) (hl : ls[j]? = some (.val v)) (hv : v.isRef = true)
    (hr : Go W n0 Q h k n q ls (v :: st)) : Go W n0 Q h k n pc ls st := by
  subst hq
  exact Go.stepX (fun T L a b tg X eT kk => XS.aload X.here C.x rfl (hb C.b hd) hl hv kk) hr
theorem Go.aloadN (C : Cx Z W rm own nm bytes maxL ret) {j : Fin 4} {v : Value} (hd : decode bytes pc = .ok (.aload_n j, 1)) (hq : pc + 1 = q) (hl : ls[j.val]? = some (.val v)) (hv : v.isRef = true)
    (hr : Go W n0 Q h k n q ls (v :: st)) : Go W n0 Q h k n pc ls st := by
  subst hq
  exact Go.stepX (fun T L a b tg X eT kk => XS.aloadN X.here C.x rfl (hb C.b hd) hl hv kk) hr
theorem Go.istore (C : Cx Z W rm own nm bytes maxL ret) {j : Nat} {x : Int32} (hd : decode bytes pc = .ok (.istore j, 2)) (hq : pc + 2 = q) (l' : Int32 → Array Slot) (hl : ∀ v, storeLocals ls j (.int v) = some (l' v))
    (hr : ∀ v, v = x → Go W n0 Q h k n q (l' v) st) : Go W n0 Q h k n pc ls (.int x :: st) := by
  subst hq
  exact Go.stepX (fun T L a b tg X eT kk => XS.istore X.here C.x rfl (hb C.b hd) rfl (hl x) kk) (hr x rfl)
theorem Go.istoreN (C : Cx Z W rm own nm bytes maxL ret) {j : Fin 4} {x : Int32} (hd : decode bytes pc = .ok (.istore_n j, 1)) (hq : pc + 1 = q) (l' : Int32 → Array Slot) (hl : ∀ v, storeLocals ls j.val (.int v) = some (l' v))
    (hr : ∀ v, v = x → Go W n0 Q h k n q (l' v) st) : Go W n0 Q h k n pc ls (.int x :: st) := by
  subst hq
  exact Go.stepX (fun T L a b tg X eT kk => XS.istoreN X.here C.x rfl (hb C.b hd) rfl (hl x) kk) (hr x rfl)
theorem Go.lstore (C : Cx Z W rm own nm bytes maxL ret) {j : Nat} {x : Int64} (hd : decode bytes pc = .ok (.lstore j, 2)) (hq : pc + 2 = q) (l' : Int64 → Array Slot) (hl : ∀ v, storeLocals ls j (.long v) = some (l' v))
    (hr : ∀ v, v = x → Go W n0 Q h k n q (l' v) st) : Go W n0 Q h k n pc ls (.long x :: st) := by
  subst hq
  exact Go.stepX (fun T L a b tg X eT kk => XS.lstore X.here C.x rfl (hb C.b hd) rfl (hl x) kk) (hr x rfl)
theorem Go.lstoreN (C : Cx Z W rm own nm bytes maxL ret) {j : Fin 4} {x : Int64} (hd : decode bytes pc = .ok (.lstore_n j, 1)) (hq : pc + 1 = q) (l' : Int64 → Array Slot) (hl : ∀ v, storeLocals ls j.val (.long v) = some (l' v))
    (hr : ∀ v, v = x → Go W n0 Q h k n q (l' v) st) : Go W n0 Q h k n pc ls (.long x :: st) := by
  subst hq
  exact Go.stepX (fun T L a b tg X eT kk => XS.lstoreN X.here C.x rfl (hb C.b hd) rfl (hl x) kk) (hr x rfl)
theorem Go.astore (C : Cx Z W rm own nm bytes maxL ret) {j : Nat} {x : Value} (hd : decode bytes pc = .ok (.astore j, 2)) (hq : pc + 2 = q) {l' : Array Slot} (hv : x.isRef = true) (hl : storeLocals ls j x = some l')
    (hr : Go W n0 Q h k n q l' st) : Go W n0 Q h k n pc ls (x :: st) := by
  subst hq
  exact Go.stepX (fun T L a b tg X eT kk => XS.astore X.here C.x rfl (hb C.b hd) rfl hv hl kk) hr
theorem Go.astoreN (C : Cx Z W rm own nm bytes maxL ret) {j : Fin 4} {x : Value} (hd : decode bytes pc = .ok (.astore_n j, 1)) (hq : pc + 1 = q) {l' : Array Slot} (hv : x.isRef = true) (hl : storeLocals ls j.val x = some l')
    (hr : Go W n0 Q h k n q l' st) : Go W n0 Q h k n pc ls (x :: st) := by
  subst hq
  exact Go.stepX (fun T L a b tg X eT kk => XS.astoreN X.here C.x rfl (hb C.b hd) rfl hv hl kk) hr
theorem Go.istoreR (C : Cx Z W rm own nm bytes maxL ret) {j : Nat} {x : Int32} (hd : decode bytes pc = .ok (.istore j, 2)) (hq : pc + 2 = q) {l' : Array Slot} (hl : storeLocals ls j (.int x) = some l')
    (hr : Go W n0 Q h k n q l' st) : Go W n0 Q h k n pc ls (.int x :: st) := by
  subst hq
  exact Go.stepX (fun T L a b tg X eT kk => XS.istore X.here C.x rfl (hb C.b hd) rfl hl kk) hr
theorem Go.istoreNR (C : Cx Z W rm own nm bytes maxL ret) {j : Fin 4} {x : Int32} (hd : decode bytes pc = .ok (.istore_n j, 1)) (hq : pc + 1 = q) {l' : Array Slot} (hl : storeLocals ls j.val (.int x) = some l')
    (hr : Go W n0 Q h k n q l' st) : Go W n0 Q h k n pc ls (.int x :: st) := by
  subst hq
  exact Go.stepX (fun T L a b tg X eT kk => XS.istoreN X.here C.x rfl (hb C.b hd) rfl hl kk) hr
theorem Go.lstoreR (C : Cx Z W rm own nm bytes maxL ret) {j : Nat} {x : Int64} (hd : decode bytes pc = .ok (.lstore j, 2)) (hq : pc + 2 = q) {l' : Array Slot} (hl : storeLocals ls j (.long x) = some l')
    (hr : Go W n0 Q h k n q l' st) : Go W n0 Q h k n pc ls (.long x :: st) := by
  subst hq
  exact Go.stepX (fun T L a b tg X eT kk => XS.lstore X.here C.x rfl (hb C.b hd) rfl hl kk) hr
theorem Go.lstoreNR (C : Cx Z W rm own nm bytes maxL ret) {j : Fin 4} {x : Int64} (hd : decode bytes pc = .ok (.lstore_n j, 1)) (hq : pc + 1 = q) {l' : Array Slot} (hl : storeLocals ls j.val (.long x) = some l')
    (hr : Go W n0 Q h k n q l' st) : Go W n0 Q h k n pc ls (.long x :: st) := by
  subst hq
  exact Go.stepX (fun T L a b tg X eT kk => XS.lstoreN X.here C.x rfl (hb C.b hd) rfl hl kk) hr
theorem Go.iincR (C : Cx Z W rm own nm bytes maxL ret) {j : Nat} {cst : Int} {x : Int32} (hd : decode bytes pc = .ok (.iinc j cst, 3)) (hq : pc + 3 = q) (hl0 : ls[j]? = some (.val (.int x))) {l' : Array Slot} (hl : storeLocals ls j (.int (x + Int32.ofInt cst)) = some l')
    (hr : Go W n0 Q h k n q l' st) : Go W n0 Q h k n pc ls st := by
  subst hq
  exact Go.stepX (fun T L a b tg X eT kk => XS.iinc X.here C.x rfl (hb C.b hd) hl0 hl kk) hr
theorem Go.iinc (C : Cx Z W rm own nm bytes maxL ret) {j : Nat} {cst : Int} {x y : Int32} (hd : decode bytes pc = .ok (.iinc j cst, 3)) (hq : pc + 3 = q) (hl0 : ls[j]? = some (.val (.int x))) (hy : Int32.ofInt cst = y) (l' : Int32 → Array Slot) (hl : ∀ v, storeLocals ls j (.int v) = some (l' v))
    (hr : ∀ v, v = x + y → Go W n0 Q h k n q (l' v) st) : Go W n0 Q h k n pc ls st := by
  subst hq hy
  exact Go.stepX (fun T L a b tg X eT kk => XS.iinc X.here C.x rfl (hb C.b hd) hl0 (hl _) kk) (hr _ rfl)
theorem Go.iconst (C : Cx Z W rm own nm bytes maxL ret) {i : Int} (v : Int32) (hd : decode bytes pc = .ok (.iconst i, 1)) (hq : pc + 1 = q) (hv : Int32.ofInt i = v)
    (hr : Go W n0 Q h k n q ls (.int v :: st)) : Go W n0 Q h k n pc ls st := by
  subst hq hv
  exact Go.stepX (fun T L a b tg X eT kk => XS.iconst X.here C.x rfl (hb C.b hd) kk) hr
theorem Go.bipush (C : Cx Z W rm own nm bytes maxL ret) {i : Int} (v : Int32) (hd : decode bytes pc = .ok (.bipush i, 2)) (hq : pc + 2 = q) (hv : (Int8.ofInt i).toInt32 = v)
    (hr : Go W n0 Q h k n q ls (.int v :: st)) : Go W n0 Q h k n pc ls st := by
  subst hq hv
  exact Go.stepX (fun T L a b tg X eT kk => XS.bipush X.here C.x rfl (hb C.b hd) kk) hr
theorem Go.sipush (C : Cx Z W rm own nm bytes maxL ret) {i : Int} (v : Int32) (hd : decode bytes pc = .ok (.sipush i, 3)) (hq : pc + 3 = q) (hv : (Int16.ofInt i).toInt32 = v)
    (hr : Go W n0 Q h k n q ls (.int v :: st)) : Go W n0 Q h k n pc ls st := by
  subst hq hv
  exact Go.stepX (fun T L a b tg X eT kk => XS.sipush X.here C.x rfl (hb C.b hd) kk) hr
theorem Go.lconst (C : Cx Z W rm own nm bytes maxL ret) {i : Fin 2} (v : Int64) (hd : decode bytes pc = .ok (.lconst i, 1)) (hq : pc + 1 = q) (hv : Int64.ofNat i = v)
    (hr : Go W n0 Q h k n q ls (.long v :: st)) : Go W n0 Q h k n pc ls st := by
  subst hq hv
  exact Go.stepX (fun T L a b tg X eT kk => XS.lconst X.here C.x rfl (hb C.b hd) kk) hr
theorem Go.aconstNull (C : Cx Z W rm own nm bytes maxL ret)  (hd : decode bytes pc = .ok (.aconst_null, 1)) (hq : pc + 1 = q)
    (hr : Go W n0 Q h k n q ls (.null :: st)) : Go W n0 Q h k n pc ls st := by
  subst hq
  exact Go.stepX (fun T L a b tg X eT kk => XS.aconstNull X.here C.x rfl (hb C.b hd) kk) hr
theorem Go.ldcI (C : Cx Z W rm own nm bytes maxL ret) {index : Nat} {v : Int32} (w : (Jvm.Cond.constant own index v).before a0 Z = true) (hd : decode bytes pc = .ok (.ldc index, 2)) (hq : pc + 2 = q)
    (hr : Go W n0 Q h k n q ls (.int v :: st)) : Go W n0 Q h k n pc ls st := by
  subst hq
  exact Go.stepX (fun T L a b tg X eT kk => X.ldcInt C.x C.ow (mvT C.z w) (g := mkF W.m pc ls st) rfl (hb C.b hd) _ kk) hr
theorem Go.ldcwI (C : Cx Z W rm own nm bytes maxL ret) {index : Nat} {v : Int32} (w : (Jvm.Cond.constant own index v).before a0 Z = true) (hd : decode bytes pc = .ok (.ldc_w index, 3)) (hq : pc + 3 = q)
    (hr : Go W n0 Q h k n q ls (.int v :: st)) : Go W n0 Q h k n pc ls st := by
  subst hq
  exact Go.stepX (fun T L a b tg X eT kk => X.ldcwInt C.x C.ow (mvT C.z w) (g := mkF W.m pc ls st) rfl (hb C.b hd) _ kk) hr
theorem Go.ldc2J (C : Cx Z W rm own nm bytes maxL ret) {index : Nat} {v : Int64} (w : (Jvm.Cond.constantLong own index v).before a0 Z = true) (hd : decode bytes pc = .ok (.ldc2_w index, 3)) (hq : pc + 3 = q)
    (hr : Go W n0 Q h k n q ls (.long v :: st)) : Go W n0 Q h k n pc ls st := by
  subst hq
  exact Go.stepX (fun T L a b tg X eT kk => X.ldc2Long C.x C.ow (mvT C.z w) (g := mkF W.m pc ls st) rfl (hb C.b hd) _ kk) hr
theorem Go.iadd (C : Cx Z W rm own nm bytes maxL ret) {x y : Int32} (hd : decode bytes pc = .ok (.iadd, 1)) (hq : pc + 1 = q)
    (hr : Go W n0 Q h k n q ls (.int (x + y) :: st)) : Go W n0 Q h k n pc ls (.int y :: .int x :: st) := by
  subst hq
  exact Go.stepX (fun T L a b tg X eT kk => XS.iadd X.here C.x rfl (hb C.b hd) rfl kk) hr
theorem Go.ladd (C : Cx Z W rm own nm bytes maxL ret) {x y : Int64} (hd : decode bytes pc = .ok (.ladd, 1)) (hq : pc + 1 = q)
    (hr : Go W n0 Q h k n q ls (.long (x + y) :: st)) : Go W n0 Q h k n pc ls (.long y :: .long x :: st) := by
  subst hq
  exact Go.stepX (fun T L a b tg X eT kk => XS.ladd X.here C.x rfl (hb C.b hd) rfl kk) hr
theorem Go.isub (C : Cx Z W rm own nm bytes maxL ret) {x y : Int32} (hd : decode bytes pc = .ok (.isub, 1)) (hq : pc + 1 = q)
    (hr : Go W n0 Q h k n q ls (.int (x - y) :: st)) : Go W n0 Q h k n pc ls (.int y :: .int x :: st) := by
  subst hq
  exact Go.stepX (fun T L a b tg X eT kk => XS.isub X.here C.x rfl (hb C.b hd) rfl kk) hr
theorem Go.lsub (C : Cx Z W rm own nm bytes maxL ret) {x y : Int64} (hd : decode bytes pc = .ok (.lsub, 1)) (hq : pc + 1 = q)
    (hr : Go W n0 Q h k n q ls (.long (x - y) :: st)) : Go W n0 Q h k n pc ls (.long y :: .long x :: st) := by
  subst hq
  exact Go.stepX (fun T L a b tg X eT kk => XS.lsub X.here C.x rfl (hb C.b hd) rfl kk) hr
theorem Go.imul (C : Cx Z W rm own nm bytes maxL ret) {x y : Int32} (hd : decode bytes pc = .ok (.imul, 1)) (hq : pc + 1 = q)
    (hr : Go W n0 Q h k n q ls (.int (x * y) :: st)) : Go W n0 Q h k n pc ls (.int y :: .int x :: st) := by
  subst hq
  exact Go.stepX (fun T L a b tg X eT kk => XS.imul X.here C.x rfl (hb C.b hd) rfl kk) hr
theorem Go.lmul (C : Cx Z W rm own nm bytes maxL ret) {x y : Int64} (hd : decode bytes pc = .ok (.lmul, 1)) (hq : pc + 1 = q)
    (hr : Go W n0 Q h k n q ls (.long (x * y) :: st)) : Go W n0 Q h k n pc ls (.long y :: .long x :: st) := by
  subst hq
  exact Go.stepX (fun T L a b tg X eT kk => XS.lmul X.here C.x rfl (hb C.b hd) rfl kk) hr
theorem Go.iand (C : Cx Z W rm own nm bytes maxL ret) {x y : Int32} (hd : decode bytes pc = .ok (.iand, 1)) (hq : pc + 1 = q)
    (hr : Go W n0 Q h k n q ls (.int (x &&& y) :: st)) : Go W n0 Q h k n pc ls (.int y :: .int x :: st) := by
  subst hq
  exact Go.stepX (fun T L a b tg X eT kk => XS.iand X.here C.x rfl (hb C.b hd) rfl kk) hr
theorem Go.land (C : Cx Z W rm own nm bytes maxL ret) {x y : Int64} (hd : decode bytes pc = .ok (.land, 1)) (hq : pc + 1 = q)
    (hr : Go W n0 Q h k n q ls (.long (x &&& y) :: st)) : Go W n0 Q h k n pc ls (.long y :: .long x :: st) := by
  subst hq
  exact Go.stepX (fun T L a b tg X eT kk => XS.land X.here C.x rfl (hb C.b hd) rfl kk) hr
theorem Go.ior (C : Cx Z W rm own nm bytes maxL ret) {x y : Int32} (hd : decode bytes pc = .ok (.ior, 1)) (hq : pc + 1 = q)
    (hr : Go W n0 Q h k n q ls (.int (x ||| y) :: st)) : Go W n0 Q h k n pc ls (.int y :: .int x :: st) := by
  subst hq
  exact Go.stepX (fun T L a b tg X eT kk => XS.ior X.here C.x rfl (hb C.b hd) rfl kk) hr
theorem Go.lor (C : Cx Z W rm own nm bytes maxL ret) {x y : Int64} (hd : decode bytes pc = .ok (.lor, 1)) (hq : pc + 1 = q)
    (hr : Go W n0 Q h k n q ls (.long (x ||| y) :: st)) : Go W n0 Q h k n pc ls (.long y :: .long x :: st) := by
  subst hq
  exact Go.stepX (fun T L a b tg X eT kk => XS.lor X.here C.x rfl (hb C.b hd) rfl kk) hr
theorem Go.ixor (C : Cx Z W rm own nm bytes maxL ret) {x y : Int32} (hd : decode bytes pc = .ok (.ixor, 1)) (hq : pc + 1 = q)
    (hr : Go W n0 Q h k n q ls (.int (x ^^^ y) :: st)) : Go W n0 Q h k n pc ls (.int y :: .int x :: st) := by
  subst hq
  exact Go.stepX (fun T L a b tg X eT kk => XS.ixor X.here C.x rfl (hb C.b hd) rfl kk) hr
theorem Go.lxor (C : Cx Z W rm own nm bytes maxL ret) {x y : Int64} (hd : decode bytes pc = .ok (.lxor, 1)) (hq : pc + 1 = q)
    (hr : Go W n0 Q h k n q ls (.long (x ^^^ y) :: st)) : Go W n0 Q h k n pc ls (.long y :: .long x :: st) := by
  subst hq
  exact Go.stepX (fun T L a b tg X eT kk => XS.lxor X.here C.x rfl (hb C.b hd) rfl kk) hr
theorem Go.irem (C : Cx Z W rm own nm bytes maxL ret) {x y : Int32} (hd : decode bytes pc = .ok (.irem, 1)) (hq : pc + 1 = q) (hy : y ≠ 0)
    (hr : Go W n0 Q h k n q ls (.int (x % y) :: st)) : Go W n0 Q h k n pc ls (.int y :: .int x :: st) := by
  subst hq
  exact Go.stepX (fun T L a b tg X eT kk => iremM X C.x rfl (hb C.b hd) rfl hy kk) hr
theorem Go.idiv (C : Cx Z W rm own nm bytes maxL ret) {x y : Int32} (hd : decode bytes pc = .ok (.idiv, 1)) (hq : pc + 1 = q) (hy : y ≠ 0)
    (hr : Go W n0 Q h k n q ls (.int (x / y) :: st)) : Go W n0 Q h k n pc ls (.int y :: .int x :: st) := by
  subst hq
  exact Go.stepX (fun T L a b tg X eT kk => XS.idiv X.here C.x rfl (hb C.b hd) rfl hy kk) hr
theorem Go.lrem (C : Cx Z W rm own nm bytes maxL ret) {x y : Int64} (hd : decode bytes pc = .ok (.lrem, 1)) (hq : pc + 1 = q) (hy : y ≠ 0)
    (hr : Go W n0 Q h k n q ls (.long (x - (x / y) * y) :: st)) : Go W n0 Q h k n pc ls (.long y :: .long x :: st) := by
  subst hq
  exact Go.stepX (fun T L a b tg X eT kk => XS.lrem X.here C.x rfl (hb C.b hd) rfl hy kk) hr
theorem Go.ldiv (C : Cx Z W rm own nm bytes maxL ret) {x y : Int64} (hd : decode bytes pc = .ok (.ldiv, 1)) (hq : pc + 1 = q) (hy : y ≠ 0)
    (hr : Go W n0 Q h k n q ls (.long (x / y) :: st)) : Go W n0 Q h k n pc ls (.long y :: .long x :: st) := by
  subst hq
  exact Go.stepX (fun T L a b tg X eT kk => XS.ldiv X.here C.x rfl (hb C.b hd) rfl hy kk) hr
theorem Go.ineg (C : Cx Z W rm own nm bytes maxL ret) {x : Int32} (hd : decode bytes pc = .ok (.ineg, 1)) (hq : pc + 1 = q)
    (hr : Go W n0 Q h k n q ls (.int (-x) :: st)) : Go W n0 Q h k n pc ls (.int x :: st) := by
  subst hq
  exact Go.stepX (fun T L a b tg X eT kk => XS.ineg X.here C.x rfl (hb C.b hd) rfl kk) hr
theorem Go.lneg (C : Cx Z W rm own nm bytes maxL ret) {x : Int64} (hd : decode bytes pc = .ok (.lneg, 1)) (hq : pc + 1 = q)
    (hr : Go W n0 Q h k n q ls (.long (-x) :: st)) : Go W n0 Q h k n pc ls (.long x :: st) := by
  subst hq
  exact Go.stepX (fun T L a b tg X eT kk => XS.lneg X.here C.x rfl (hb C.b hd) rfl kk) hr
theorem Go.i2l (C : Cx Z W rm own nm bytes maxL ret) {x : Int32} (hd : decode bytes pc = .ok (.i2l, 1)) (hq : pc + 1 = q)
    (hr : Go W n0 Q h k n q ls (.long x.toInt64 :: st)) : Go W n0 Q h k n pc ls (.int x :: st) := by
  subst hq
  exact Go.stepX (fun T L a b tg X eT kk => XS.i2l X.here C.x rfl (hb C.b hd) rfl kk) hr
theorem Go.l2i (C : Cx Z W rm own nm bytes maxL ret) {x : Int64} (hd : decode bytes pc = .ok (.l2i, 1)) (hq : pc + 1 = q)
    (hr : Go W n0 Q h k n q ls (.int x.toInt32 :: st)) : Go W n0 Q h k n pc ls (.long x :: st) := by
  subst hq
  exact Go.stepX (fun T L a b tg X eT kk => XS.l2i X.here C.x rfl (hb C.b hd) rfl kk) hr
theorem Go.i2b (C : Cx Z W rm own nm bytes maxL ret) {x : Int32} (hd : decode bytes pc = .ok (.i2b, 1)) (hq : pc + 1 = q)
    (hr : Go W n0 Q h k n q ls (.int x.toInt8.toInt32 :: st)) : Go W n0 Q h k n pc ls (.int x :: st) := by
  subst hq
  exact Go.stepX (fun T L a b tg X eT kk => XS.i2b X.here C.x rfl (hb C.b hd) rfl kk) hr
theorem Go.i2s (C : Cx Z W rm own nm bytes maxL ret) {x : Int32} (hd : decode bytes pc = .ok (.i2s, 1)) (hq : pc + 1 = q)
    (hr : Go W n0 Q h k n q ls (.int x.toInt16.toInt32 :: st)) : Go W n0 Q h k n pc ls (.int x :: st) := by
  subst hq
  exact Go.stepX (fun T L a b tg X eT kk => XS.i2s X.here C.x rfl (hb C.b hd) rfl kk) hr
theorem Go.i2c (C : Cx Z W rm own nm bytes maxL ret) {x : Int32} (hd : decode bytes pc = .ok (.i2c, 1)) (hq : pc + 1 = q)
    (hr : Go W n0 Q h k n q ls (.int x.toUInt32.toUInt16.toUInt32.toInt32 :: st)) : Go W n0 Q h k n pc ls (.int x :: st) := by
  subst hq
  exact Go.stepX (fun T L a b tg X eT kk => XS.i2c X.here C.x rfl (hb C.b hd) rfl kk) hr
theorem Go.ishl (C : Cx Z W rm own nm bytes maxL ret) {x : Int32} {y : Int32} (hd : decode bytes pc = .ok (.ishl, 1)) (hq : pc + 1 = q)
    (hr : Go W n0 Q h k n q ls (.int (x <<< (y &&& 31)) :: st)) : Go W n0 Q h k n pc ls (.int y :: .int x :: st) := by
  subst hq
  exact Go.stepX (fun T L a b tg X eT kk => XS.ishl X.here C.x rfl (hb C.b hd) rfl kk) hr
theorem Go.ishr (C : Cx Z W rm own nm bytes maxL ret) {x : Int32} {y : Int32} (hd : decode bytes pc = .ok (.ishr, 1)) (hq : pc + 1 = q)
    (hr : Go W n0 Q h k n q ls (.int (x >>> (y &&& 31)) :: st)) : Go W n0 Q h k n pc ls (.int y :: .int x :: st) := by
  subst hq
  exact Go.stepX (fun T L a b tg X eT kk => XS.ishr X.here C.x rfl (hb C.b hd) rfl kk) hr
theorem Go.iushr (C : Cx Z W rm own nm bytes maxL ret) {x : Int32} {y : Int32} (hd : decode bytes pc = .ok (.iushr, 1)) (hq : pc + 1 = q)
    (hr : Go W n0 Q h k n q ls (.int ((x.toUInt32 >>> (y &&& 31).toUInt32).toInt32) :: st)) : Go W n0 Q h k n pc ls (.int y :: .int x :: st) := by
  subst hq
  exact Go.stepX (fun T L a b tg X eT kk => XS.iushr X.here C.x rfl (hb C.b hd) rfl kk) hr
theorem Go.lshl (C : Cx Z W rm own nm bytes maxL ret) {x : Int64} {y : Int32} (hd : decode bytes pc = .ok (.lshl, 1)) (hq : pc + 1 = q)
    (hr : Go W n0 Q h k n q ls (.long (x <<< (y &&& 0x3f).toInt64) :: st)) : Go W n0 Q h k n pc ls (.int y :: .long x :: st) := by
  subst hq
  exact Go.stepX (fun T L a b tg X eT kk => XS.lshl X.here C.x rfl (hb C.b hd) rfl kk) hr
theorem Go.lshr (C : Cx Z W rm own nm bytes maxL ret) {x : Int64} {y : Int32} (hd : decode bytes pc = .ok (.lshr, 1)) (hq : pc + 1 = q)
    (hr : Go W n0 Q h k n q ls (.long (x >>> (y &&& 0x3f).toInt64) :: st)) : Go W n0 Q h k n pc ls (.int y :: .long x :: st) := by
  subst hq
  exact Go.stepX (fun T L a b tg X eT kk => XS.lshr X.here C.x rfl (hb C.b hd) rfl kk) hr
theorem Go.lushr (C : Cx Z W rm own nm bytes maxL ret) {x : Int64} {y : Int32} (hd : decode bytes pc = .ok (.lushr, 1)) (hq : pc + 1 = q)
    (hr : Go W n0 Q h k n q ls (.long ((x.toUInt64 >>> (y &&& 0x3f).toInt64.toUInt64).toInt64) :: st)) : Go W n0 Q h k n pc ls (.int y :: .long x :: st) := by
  subst hq
  exact Go.stepX (fun T L a b tg X eT kk => XS.lushr X.here C.x rfl (hb C.b hd) rfl kk) hr
theorem Go.i2d (C : Cx Z W rm own nm bytes maxL ret) {x : Int32} (hd : decode bytes pc = .ok (.i2d, 1)) (hq : pc + 1 = q)
    (hr : Go W n0 Q h k n q ls (.double (FP.l2d x.toInt64) :: st)) : Go W n0 Q h k n pc ls (.int x :: st) := by
  subst hq
  exact Go.stepX (fun T L a b tg X eT kk => XS.i2dS X.here C.x rfl (hb C.b hd) rfl (Jvm.RoadKit.i2d_w x) kk) hr
theorem Go.dcmp (C : Cx Z W rm own nm bytes maxL ret) {o : CmpOp} {x y : Int64} (hd : decode bytes pc = .ok (.dcmp o, 1)) (hq : pc + 1 = q) (hx : B53 x) (hy : B53 y)
    (hr : Go W n0 Q h k n q ls (.int (lcmpW x y) :: st)) : Go W n0 Q h k n pc ls (.double (FP.l2d y) :: .double (FP.l2d x) :: st) := by
  subst hq
  exact Go.stepX (fun T L a b tg X eT kk => XS.dcmpS X.here C.x rfl (hb C.b hd) rfl (dcmpV_w hx hy o) kk) hr
theorem Go.lcmp (C : Cx Z W rm own nm bytes maxL ret) {x y : Int64} (hd : decode bytes pc = .ok (.lcmp, 1)) (hq : pc + 1 = q)
    (hr : Go W n0 Q h k n q ls (.int (lcmpW x y) :: st)) : Go W n0 Q h k n pc ls (.long y :: .long x :: st) := by
  subst hq
  exact Go.stepX (fun T L a b tg X eT kk => XS.lcmp X.here C.x rfl (hb C.b hd) rfl kk) hr
theorem Go.pop (C : Cx Z W rm own nm bytes maxL ret) {x : Value} (hd : decode bytes pc = .ok (.pop, 1)) (hq : pc + 1 = q) (hc : x.category = 1)
    (hr : Go W n0 Q h k n q ls st) : Go W n0 Q h k n pc ls (x :: st) := by
  subst hq
  exact Go.stepX (fun T L a b tg X eT kk => XS.pop X.here C.x rfl (hb C.b hd) rfl hc kk) hr
theorem Go.dup (C : Cx Z W rm own nm bytes maxL ret) {x : Value} (hd : decode bytes pc = .ok (.dup, 1)) (hq : pc + 1 = q) (hc : x.category = 1)
    (hr : Go W n0 Q h k n q ls (x :: x :: st)) : Go W n0 Q h k n pc ls (x :: st) := by
  subst hq
  exact Go.stepX (fun T L a b tg X eT kk => XS.dup X.here C.x rfl (hb C.b hd) rfl hc kk) hr
theorem Go.dup2 (C : Cx Z W rm own nm bytes maxL ret) {x y : Value} (hd : decode bytes pc = .ok (.dup2, 1)) (hq : pc + 1 = q) (hc : x.category = 1) (hc' : y.category = 1)
    (hr : Go W n0 Q h k n q ls (x :: y :: x :: y :: st)) : Go W n0 Q h k n pc ls (x :: y :: st) := by
  subst hq
  exact Go.stepX (fun T L a b tg X eT kk => XT.dup2 X.here C.x rfl (hb C.b hd) rfl hc hc' kk) hr
theorem Go.goto (C : Cx Z W rm own nm bytes maxL ret) {o : Int} (hd : decode bytes pc = .ok (.goto o, 3)) (ho : 0 ≤ (pc : Int) + o) (hp : ((pc : Int) + o).toNat = q)
    (hr : Go W n0 Q h k n q ls st) : Go W n0 Q h k n pc ls st :=
  Go.stepX (fun T L a b tg X eT kk => XS.goto X.here C.x rfl (pc0 := pc) rfl (hb C.b hd) ho hp kk) hr
theorem Go.icmp (C : Cx Z W rm own nm bytes maxL ret) {cd : ClassFile.Cond} {o : Int} {x y : Int32} {qt : Nat} {P : Prop} [Decidable P] (hd : decode bytes pc = .ok (.if_icmp cd o, 3)) (hP : if_icmp.holds cd x y = decide P) (ho : 0 ≤ (pc : Int) + o) (hp : ((pc : Int) + o).toNat = qt) (hq : pc + 3 = q)
    (ht : P → Go W n0 Q h k n qt ls st) (hf : ¬ P → Go W n0 Q h k n q ls st) : Go W n0 Q h k n pc ls (.int y :: .int x :: st) := by
  subst hq
  by_cases p : P
  · exact Go.stepX (fun T L a b tg X eT kk => XS.icmpYes X.here C.x rfl (pc0 := pc) rfl (hb C.b hd) rfl (hP.trans (decide_eq_true p)) ho hp kk) (ht p)
  · exact Go.stepX (fun T L a b tg X eT kk => XS.icmpNo X.here C.x rfl (hb C.b hd) rfl (hP.trans (decide_eq_false p)) kk) (hf p)
theorem Go.if0 (C : Cx Z W rm own nm bytes maxL ret) {cd : ClassFile.Cond} {o : Int} {x : Int32} {qt : Nat} {P : Prop} [Decidable P] (hd : decode bytes pc = .ok (.ifCond cd o, 3)) (hP : ifCond.holds cd x = decide P) (ho : 0 ≤ (pc : Int) + o) (hp : ((pc : Int) + o).toNat = qt) (hq : pc + 3 = q)
    (ht : P → Go W n0 Q h k n qt ls st) (hf : ¬ P → Go W n0 Q h k n q ls st) : Go W n0 Q h k n pc ls (.int x :: st) := by
  subst hq
  by_cases p : P
  · exact Go.stepX (fun T L a b tg X eT kk => XS.ifYes X.here C.x rfl (pc0 := pc) rfl (hb C.b hd) rfl (hP.trans (decide_eq_true p)) ho hp kk) (ht p)
  · exact Go.stepX (fun T L a b tg X eT kk => XS.ifNo X.here C.x rfl (hb C.b hd) rfl (hP.trans (decide_eq_false p)) kk) (hf p)
theorem Go.ifnullY (C : Cx Z W rm own nm bytes maxL ret) {o : Int} (hd : decode bytes pc = .ok (.ifnull o, 3)) (ho : 0 ≤ (pc : Int) + o) (hp : ((pc : Int) + o).toNat = q)
    (hr : Go W n0 Q h k n q ls st) : Go W n0 Q h k n pc ls (.null :: st) :=
  Go.stepX (fun T L a b tg X eT kk => XS.ifnullYes X.here C.x rfl (pc0 := pc) rfl (hb C.b hd) rfl ho hp kk) hr
theorem Go.ifnullN (C : Cx Z W rm own nm bytes maxL ret) {o : Int} {a : Addr} (hd : decode bytes pc = .ok (.ifnull o, 3)) (hq : pc + 3 = q)
    (hr : Go W n0 Q h k n q ls st) : Go W n0 Q h k n pc ls (.ref a :: st) := by
  subst hq
  exact Go.stepX (fun T L a b tg X eT kk => XS.ifnullNo X.here C.x rfl (hb C.b hd) rfl kk) hr
theorem Go.ifnonnullY (C : Cx Z W rm own nm bytes maxL ret) {o : Int} {a : Addr} (hd : decode bytes pc = .ok (.ifnonnull o, 3)) (ho : 0 ≤ (pc : Int) + o) (hp : ((pc : Int) + o).toNat = q)
    (hr : Go W n0 Q h k n q ls st) : Go W n0 Q h k n pc ls (.ref a :: st) :=
  Go.stepX (fun T L a b tg X eT kk => XS.ifnonnullYes X.here C.x rfl (pc0 := pc) rfl (hb C.b hd) rfl ho hp kk) hr
theorem Go.ifnonnullN (C : Cx Z W rm own nm bytes maxL ret) {o : Int} (hd : decode bytes pc = .ok (.ifnonnull o, 3)) (hq : pc + 3 = q)
    (hr : Go W n0 Q h k n q ls st) : Go W n0 Q h k n pc ls (.null :: st) := by
  subst hq
  exact Go.stepX (fun T L a b tg X eT kk => XS.ifnonnullNo X.here C.x rfl (hb C.b hd) rfl kk) hr
theorem Go.acmp (C : Cx Z W rm own nm bytes maxL ret) {cd : ACond} {o : Int} {x y : Value} {same : Bool} (hd : decode bytes pc = .ok (.if_acmp cd o, 3)) (h1 : x.isRef = true) (h2 : y.isRef = true) (hs : decide (x = y) = same) (ho : 0 ≤ (pc : Int) + o) (hp : q = if acV cd same = true then ((pc : Int) + o).toNat else pc + 3)
    (hr : Go W n0 Q h k n q ls st) : Go W n0 Q h k n pc ls (y :: x :: st) :=
  Go.stepX (fun T L a b tg X eT kk => Jvm.RoadKit.acmp X C.x rfl h1 h2 (pc0 := pc) rfl (hb C.b hd) rfl hs ho hp kk) hr
theorem n_lt (x y : Int32) : if_icmp.holds .lt x y = decide (x < y) := rfl
theorem n_ge (x y : Int32) : if_icmp.holds .ge x y = decide (¬ x < y) := by simp [if_icmp.holds, Int32.not_lt]
theorem n_gt (x y : Int32) : if_icmp.holds .gt x y = decide (y < x) := rfl
theorem n_le (x y : Int32) : if_icmp.holds .le x y = decide (¬ y < x) := by simp [if_icmp.holds, Int32.not_lt]
theorem n_eq (x y : Int32) : if_icmp.holds .eq x y = decide (x = y) := by by_cases e : x = y <;> simp [if_icmp.holds, e]
theorem n_ne (x y : Int32) : if_icmp.holds .ne x y = decide (¬ x = y) := by by_cases e : x = y <;> simp [if_icmp.holds, e]
theorem z_lt (x : Int32) : ifCond.holds .lt x = decide (x < 0) := (if0 _ x).trans (n_lt x 0)
theorem z_ge (x : Int32) : ifCond.holds .ge x = decide (¬ x < 0) := (if0 _ x).trans (n_ge x 0)
theorem z_gt (x : Int32) : ifCond.holds .gt x = decide (0 < x) := (if0 _ x).trans (n_gt x 0)
theorem z_le (x : Int32) : ifCond.holds .le x = decide (¬ 0 < x) := (if0 _ x).trans (n_le x 0)
theorem z_eq (x : Int32) : ifCond.holds .eq x = decide (x = 0) := (if0 _ x).trans (n_eq x 0)
theorem z_ne (x : Int32) : ifCond.holds .ne x = decide (¬ x = 0) := (if0 _ x).trans (n_ne x 0)
theorem l_lt (x y : Int64) : ifCond.holds .lt (lcmpW x y) = decide (x < y) := by rw [z_lt]; exact decide_eq_decide.mpr (lw_lt x y)
theorem l_ge (x y : Int64) : ifCond.holds .ge (lcmpW x y) = decide (¬ x < y) := by rw [z_ge]; exact decide_eq_decide.mpr (not_congr (lw_lt x y))
theorem l_gt (x y : Int64) : ifCond.holds .gt (lcmpW x y) = decide (y < x) := by rw [z_gt]; exact decide_eq_decide.mpr (lw_gt x y)
theorem l_le (x y : Int64) : ifCond.holds .le (lcmpW x y) = decide (¬ y < x) := by rw [z_le]; exact decide_eq_decide.mpr (not_congr (lw_gt x y))
theorem l_eq (x y : Int64) : ifCond.holds .eq (lcmpW x y) = decide (x = y) := by rw [z_eq]; exact decide_eq_decide.mpr (lw_eq x y)
theorem l_ne (x y : Int64) : ifCond.holds .ne (lcmpW x y) = decide (¬ x = y) := by rw [z_ne]; exact decide_eq_decide.mpr (not_congr (lw_eq x y))
theorem nar_b (x : Int32) : nar .byte x.toInt8.toInt32 = x.toInt8.toInt32 := by
  show x.toInt8.toInt32.toInt8.toInt32 = _
  simp
/-- what the law's own walk leaves -/
def QL : Option Value → Heap → Prop := fun v _ => v = some (.int 1)
/-! the ends -/
theorem Go.out {v : Option Value} (f : ∀ T L a b fs, St W T L a b → (∀ (g : JFrame) (acts : List Action), g.method = W.m → g.locked = none → g.entered = [] → (doReturn W.e (T.setTop g) acts v).1 = T.setFrames fs) → Sp W (T.setTop (mkF W.m pc ls st)) (T.setFrames fs)) (hv : W.meth.sig.returnType = none → v = none) (hlk : W.meth.locks = false) (hk : k ≤ W.R.cells) (hn : n ≤ W.R.slots) (hQ : Q v h) : Go W n0 Q h k n pc ls st := by
  intro T L a b X ha hb N eT
  obtain ⟨fs, hr, hrun, hended, hW, hsame⟩ := X.leave (v := v) hv hlk
  refine ⟨_, _, f T L a b fs X hr, hrun, hended, v, L, rfl, ⟨N, ?_⟩, ⟨_, rfl⟩, hW, hsame.mono (Nat.le_trans ha hk) (Nat.le_trans hb hn)⟩
  have e1 : (T.setFrames fs).heap = T.heap := rfl
  rw [e1, eT]
  exact hQ
theorem Go.retI (C : Cx Z W rm own nm bytes maxL (some .int)) {x : Int32} (hd : decode bytes pc = .ok (.ireturn, 1)) (hk : k ≤ rm.cells) (hn : n ≤ rm.slots) (hQ : Q (some (.int x)) h) : Go W n0 Q h k n pc ls (.int x :: st) :=
  Go.out (v := some (.int x)) (fun T L a b fs X hr => Jvm.RoadKit.retI X C.x C.re (hb C.b hd) hr) (fun e => by rw [C.re] at e; cases e) C.lk (by rw [C.ro]; exact hk) (by rw [C.ro]; exact hn) hQ
theorem Go.retZ {t : FieldType} (ht : t = .boolean ∨ t = .byte ∨ t = .char ∨ t = .short) (C : Cx Z W rm own nm bytes maxL (some t)) {x : Int32} (hd : decode bytes pc = .ok (.ireturn, 1)) (hk : k ≤ rm.cells) (hn : n ≤ rm.slots) (hQ : Q (some (.int (nar t x))) h) : Go W n0 Q h k n pc ls (.int x :: st) :=
  Go.out (v := some (.int (nar t x))) (fun T L a b fs X hr => retN X C.x (t := t) C.re ht (hb C.b hd) hr) (fun e => by rw [C.re] at e; cases e) C.lk (by rw [C.ro]; exact hk) (by rw [C.ro]; exact hn) hQ
theorem Go.retV (C : Cx Z W rm own nm bytes maxL none) (hd : decode bytes pc = .ok (.return_, 1)) (hk : k ≤ rm.cells) (hn : n ≤ rm.slots) (hQ : Q none h) : Go W n0 Q h k n pc ls [] :=
  Go.out (v := none) (fun T L a b fs X hr => X.returnOut C.x C.re (hb C.b hd) hr) (fun _ => rfl) C.lk (by rw [C.ro]; exact hk) (by rw [C.ro]; exact hn) hQ
theorem Go.retJ (C : Cx Z W rm own nm bytes maxL (some .long)) {x : Int64} (hd : decode bytes pc = .ok (.lreturn, 1)) (hk : k ≤ rm.cells) (hn : n ≤ rm.slots) (hQ : Q (some (.long x)) h) : Go W n0 Q h k n pc ls [.long x] :=
  Go.out (v := some (.long x)) (fun T L a b fs X hr => Stand.lreturnOut X C.x C.re (hb C.b hd) hr) (fun e => by rw [C.re] at e; cases e) C.lk (by rw [C.ro]; exact hk) (by rw [C.ro]; exact hn) hQ
theorem Go.retR {t : FieldType} (C : Cx Z W rm own nm bytes maxL (some t)) {v : Value} (hd : decode bytes pc = .ok (.areturn, 1)) (ht : t.isReference = true) (hv : v.isRef = true) (hnw : narrow t v = v) (hk : k ≤ rm.cells) (hn : n ≤ rm.slots) (hQ : Q (some v) h) : Go W n0 Q h k n pc ls (v :: st) :=
  Go.out (v := some v) (fun T L a b fs X hr => retOut X C.x (t := t) (i := .areturn) C.re hnw (Or.inr (Or.inr (Or.inr (Or.inr ⟨rfl, ht, hv⟩)))) (hb C.b hd) hr) (fun e => by rw [C.re] at e; cases e) C.lk (by rw [C.ro]; exact hk) (by rw [C.ro]; exact hn) hQ
/-! the calls -/
theorem met_weak {l : Launch} {y : MethodName} {as : Array Value} {Q' : Option Value → Heap → Prop} (M : Met1 l Z y bytes maxL ret [] rm as h n0 Q) (hQ : ∀ v h', Q v h' → Q' v h') : Met1 l Z y bytes maxL ret [] rm as h n0 Q' := by
  intro p e ha hc hk s m args below hf happ hP hK
  obtain ⟨n, o, h1, h2, h3, v, L, h4, ⟨h5, h6⟩, h7⟩ := M p e ha hc hk s m args below hf happ hP hK
  exact ⟨n, o, h1, h2, h3, v, L, h4, ⟨h5, hQ _ _ h6⟩, h7⟩
theorem Go.callS (C : Cx Z W rm own nm bytes maxL ret) {index : Nat} {y : MethodName} {bytes' : ByteArray} {maxL' : Nat} {ret' : Option FieldType} {rm' : Room} {argsL : List Value} {Q' : Option Value → Heap → Prop} {ps : List FieldType} {rt : Option FieldType} {stk : List Value} {k' n' w : Nat}
    (wl : (Jvm.Cond.methodLink own index y).before a0 Z = true) (wst : (Jvm.Cond.static y).before a0 Z = true) (wi : (Jvm.Cond.initialized y.cls).before a0 Z = true) (wc : (Jvm.Cond.code y bytes' maxL' ret').before a0 Z = true)
    (M : Met1 W.l Z y bytes' maxL' ret' [] rm' argsL.toArray h n0 Q') (hd : decode bytes pc = .ok (.invokestatic index, 3)) (hpd : parseMethodDescriptor y.desc = some ⟨ps, rt⟩) (hq : pc + 3 = q) (hls : ls.size = maxL) (hstk : stk = argsL.reverse ++ st) (hlen : argsL.length = ps.length)
    (hw : (st.map fun v => v.category).sum = w) (hfr : rm'.frames + 1 ≤ rm.frames) (hlo : w + (maxL' + 11) + rm'.locals ≤ rm.locals) (hk : k + rm'.cells = k') (hn : n + rm'.slots = n') (hk' : k' ≤ rm.cells) (hn' : n' ≤ rm.slots)
    (hr : ∀ v h', Q' v h' → Go W n0 Q h' k' n' q ls (v.toList ++ st)) (hy : y.cls ≠ "java/lang/invoke/MethodHandle" ∧ y.cls ≠ "java/lang/invoke/VarHandle" := by decide) : Go W n0 Q h k n pc ls stk := by
  subst hstk hq hk hn hw
  intro T L a b X ha hb' N eT
  have e1 := C.ro
  obtain ⟨v, _, ⟨T2, L2, k2, n2⟩, -, X2, ⟨Lc, ⟨N2, hQ2⟩, l2, y2, z2⟩, sp⟩ := Jvm.LawKit.callS X C.x (y := y) C.ow (mvT C.z wl) (mvT C.z wst) (mvT C.z wi) (mvT C.z wc) hy
    (backOf (W := (st.map fun v => v.category).sum) (Q := fun v h L => Fr n0 L ∧ Q' v h) M C.z wc wi (by rw [e1]; exact hfr) (by rw [e1]; exact hlo)) (g := mkF W.m pc ls (argsL.reverse ++ st)) rfl (by rw [C.ml]; exact hls) (argsL := argsL) (rest := st) (lenOf hpd hlen) rfl (by show 2 * 0 + (st.map fun v => v.category).sum ≤ (st.map fun v => v.category).sum; omega) (hb C.b hd) (fun _ _ => ⟨rfl, eT, by rw [e1]; show a + _ ≤ _; omega, by rw [e1]; show b + _ ≤ _; omega⟩)
  dsimp only [Pt.U, Pt.locs, Pt.cells, Pt.slots] at X2 l2 y2 z2 sp hQ2
  subst l2 y2 z2
  obtain ⟨s₂, o, hs, r⟩ := hr v _ hQ2 T2 _ _ _ X2 (by omega) (by omega) (Fr.app N N2) rfl
  exact ⟨s₂, o, sp _ hs, r⟩
/-- what a callee that changes nothing leaves -/
def Ret (w : Value) (h : Heap) : Option Value → Heap → Prop := fun v h' => v = some w ∧ h' = h
theorem Go.pureS (C : Cx Z W rm own nm bytes maxL ret) {index : Nat} {y : MethodName} {bytes' : ByteArray} {maxL' : Nat} {ret' : Option FieldType} {fr lo : Nat} {argsL : List Value} {res : Value} {ps : List FieldType} {rt : Option FieldType} {stk : List Value} {w : Nat}
    (wl : (Jvm.Cond.methodLink own index y).before a0 Z = true) (wst : (Jvm.Cond.static y).before a0 Z = true) (wi : (Jvm.Cond.initialized y.cls).before a0 Z = true) (wc : (Jvm.Cond.code y bytes' maxL' ret').before a0 Z = true)
    (M : Met1 W.l Z y bytes' maxL' ret' [] ({ frames := fr, cells := 0, slots := 0, locals := lo } : Room) argsL.toArray h n0 (Ret res h)) (hd : decode bytes pc = .ok (.invokestatic index, 3)) (hpd : parseMethodDescriptor y.desc = some ⟨ps, rt⟩) (hq : pc + 3 = q) (hls : ls.size = maxL) (hstk : stk = argsL.reverse ++ st) (hlen : argsL.length = ps.length)
    (hw : (st.map fun v => v.category).sum = w) (hfr : fr + 1 ≤ rm.frames) (hlo : w + (maxL' + 11) + lo ≤ rm.locals) (hk' : k ≤ rm.cells) (hn' : n ≤ rm.slots)
    (hr : Go W n0 Q h k n q ls (res :: st)) (hy : y.cls ≠ "java/lang/invoke/MethodHandle" ∧ y.cls ≠ "java/lang/invoke/VarHandle" := by decide) : Go W n0 Q h k n pc ls stk :=
  Go.callS C wl wst wi wc M hd hpd hq hls hstk hlen hw hfr hlo rfl rfl hk' hn' (fun v h' q => by obtain ⟨rfl, rfl⟩ := q; exact hr) hy
theorem Go.callC (C : Cx Z W rm own nm bytes maxL ret) {index : Nat} {y : MethodName} {bytes' : ByteArray} {maxL' : Nat} {rm' : Room} {argsL : List Value} {Q' : Option Value → Heap → Prop} {ps : List FieldType} {rt : Option FieldType} {stk : List Value} {k' n' w : Nat} {a : Addr}
    (hy1 : y.name = "<init>") (wl : (Jvm.Cond.methodLink own index y).before a0 Z = true) (wst : (Jvm.Cond.instanceMethod y).before a0 Z = true) (wi : (Jvm.Cond.initialized y.cls).before a0 Z = true) (wc : (Jvm.Cond.code y bytes' maxL' none).before a0 Z = true)
    (M : Met1 W.l Z y bytes' maxL' none [] rm' (.ref a :: argsL).toArray h n0 Q') (hd : decode bytes pc = .ok (.invokespecial index, 3)) (hpd : parseMethodDescriptor y.desc = some ⟨ps, rt⟩) (hq : pc + 3 = q) (hls : ls.size = maxL) (hstk : stk = argsL.reverse ++ .ref a :: st) (hlen : argsL.length = ps.length)
    (hw : (st.map fun v => v.category).sum = w) (hfr : rm'.frames + 1 ≤ rm.frames) (hlo : w + (maxL' + 11) + rm'.locals ≤ rm.locals) (hk : k + rm'.cells = k') (hn : n + rm'.slots = n') (hk' : k' ≤ rm.cells) (hn' : n' ≤ rm.slots)
    (hr : ∀ v h', Q' v h' → Go W n0 Q h' k' n' q ls (v.toList ++ st)) (hy : y.cls ≠ "java/lang/invoke/MethodHandle" ∧ y.cls ≠ "java/lang/invoke/VarHandle" := by decide) : Go W n0 Q h k n pc ls stk := by
  subst hstk hq hk hn hw
  intro T L i j X ha hb' N eT
  have e1 := C.ro
  obtain ⟨v, _, ⟨T2, L2, k2, n2⟩, -, X2, ⟨Lc, ⟨N2, hQ2⟩, l2, y2, z2⟩, sp⟩ := X.specialBack C.x (y := y) hy1 C.ow (mvT C.z wl) (mvT C.z wst) (mvT C.z wc) hy
    (backOf (W := (st.map fun v => v.category).sum) (Q := fun v h L => Fr n0 L ∧ Q' v h) M C.z wc wi (by rw [e1]; exact hfr) (by rw [e1]; exact hlo)) (g := mkF W.m pc ls (argsL.reverse ++ .ref a :: st)) rfl (by rw [C.ml]; exact hls) (Steps.refl _) (a := a) (argsL := argsL) (rest := st) (lenOf hpd hlen) rfl (by show 2 * 0 + (st.map fun v => v.category).sum ≤ (st.map fun v => v.category).sum; omega) (hb C.b hd) (fun _ _ => ⟨rfl, eT, by rw [e1]; show i + _ ≤ _; omega, by rw [e1]; show j + _ ≤ _; omega⟩)
  dsimp only [Pt.U, Pt.locs, Pt.cells, Pt.slots] at X2 l2 y2 z2 sp hQ2
  subst l2 y2 z2
  obtain ⟨s₂, o, hs, r⟩ := hr v _ hQ2 T2 _ _ _ X2 (by omega) (by omega) (Fr.app N N2) rfl
  exact ⟨s₂, o, sp.trans hs, r⟩
theorem Go.callV (C : Cx Z W rm own nm bytes maxL ret) {index : Nat} {y z : MethodName} {K : String} {bytes' : ByteArray} {maxL' : Nat} {ret' : Option FieldType} {rm' : Room} {argsL : List Value} {Q' : Option Value → Heap → Prop} {ps : List FieldType} {rt : Option FieldType} {stk : List Value} {k' n' w : Nat} {a : Addr}
    (E : Exa Z h a K) (wl : (Jvm.Cond.methodLink own index y).before a0 Z = true) (wdc : (Jvm.Cond.declares y).before a0 Z = true) (hnf : NotFace W.s y) (wse : (Jvm.Cond.selects K y z).before a0 Z = true) (wst : (Jvm.Cond.instanceMethod z).before a0 Z = true) (wi : (Jvm.Cond.initialized z.cls).before a0 Z = true) (wc : (Jvm.Cond.code z bytes' maxL' ret').before a0 Z = true)
    (M : Met1 W.l Z z bytes' maxL' ret' [] rm' (.ref a :: argsL).toArray h n0 Q') (hd : decode bytes pc = .ok (.invokevirtual index, 3)) (hpd : parseMethodDescriptor y.desc = some ⟨ps, rt⟩) (hq : pc + 3 = q) (hls : ls.size = maxL) (hstk : stk = argsL.reverse ++ .ref a :: st) (hlen : argsL.length = ps.length)
    (hw : (st.map fun v => v.category).sum = w) (hfr : rm'.frames + 1 ≤ rm.frames) (hlo : w + (maxL' + 11) + rm'.locals ≤ rm.locals) (hk : k + rm'.cells = k') (hn : n + rm'.slots = n') (hk' : k' ≤ rm.cells) (hn' : n' ≤ rm.slots)
    (hr : ∀ v h', Q' v h' → Go W n0 Q h' k' n' q ls (v.toList ++ st)) (hy : y.cls ≠ "java/lang/invoke/MethodHandle" ∧ y.cls ≠ "java/lang/invoke/VarHandle" := by decide) : Go W n0 Q h k n pc ls stk := by
  subst hstk hq hk hn hw
  intro T L i j X ha hb' N eT
  have e1 := C.ro
  obtain ⟨cq, kq, qa, qb, qc⟩ := isOf (s := W.s) C.z eT E
  obtain ⟨v, _, ⟨T2, L2, k2, n2⟩, -, X2, ⟨Lc, ⟨N2, hQ2⟩, l2, y2, z2⟩, sp⟩ := X.virtualBack C.x (y := y) (z := z) C.ow (mvT C.z wl) (mvT C.z wdc) hnf (mvT C.z wse) (mvT C.z wst) hy
    (backOf (W := (st.map fun v => v.category).sum) (Q := fun v h L => Fr n0 L ∧ Q' v h) M C.z wc wi (by rw [e1]; exact hfr) (by rw [e1]; exact hlo)) qa qc (g := mkF W.m pc ls (argsL.reverse ++ .ref a :: st)) rfl (by rw [C.ml]; exact hls) (Steps.refl _) (argsL := argsL) (rest := st) (lenOf hpd hlen) rfl (by show 2 * 0 + (st.map fun v => v.category).sum ≤ (st.map fun v => v.category).sum; omega) (hb C.b hd) (fun _ _ => ⟨rfl, eT, by rw [e1]; show i + _ ≤ _; omega, by rw [e1]; show j + _ ≤ _; omega⟩)
  dsimp only [Pt.U, Pt.locs, Pt.cells, Pt.slots] at X2 l2 y2 z2 sp hQ2
  subst l2 y2 z2
  obtain ⟨s₂, o, hs, r⟩ := hr v _ hQ2 T2 _ _ _ X2 (by omega) (by omega) (Fr.app N N2) rfl
  exact ⟨s₂, o, sp.trans hs, r⟩
theorem Go.pureV (C : Cx Z W rm own nm bytes maxL ret) {index : Nat} {y : MethodName} {K : String} {bytes' : ByteArray} {maxL' : Nat} {ret' : Option FieldType} {fr lo : Nat} {argsL : List Value} {res : Value} {ps : List FieldType} {rt : Option FieldType} {stk : List Value} {w : Nat} {a : Addr}
    (E : Exa Z h a K) (wl : (Jvm.Cond.methodLink own index y).before a0 Z = true) (wdc : (Jvm.Cond.declares y).before a0 Z = true) (wse : (Jvm.Cond.selects K y y).before a0 Z = true) (wst : (Jvm.Cond.instanceMethod y).before a0 Z = true) (wi : (Jvm.Cond.initialized y.cls).before a0 Z = true) (wc : (Jvm.Cond.code y bytes' maxL' ret').before a0 Z = true)
    (M : Met1 W.l Z y bytes' maxL' ret' [] ({ frames := fr, cells := 0, slots := 0, locals := lo } : Room) (.ref a :: argsL).toArray h n0 (Ret res h)) (hd : decode bytes pc = .ok (.invokevirtual index, 3)) (hpd : parseMethodDescriptor y.desc = some ⟨ps, rt⟩) (hq : pc + 3 = q) (hls : ls.size = maxL) (hstk : stk = argsL.reverse ++ .ref a :: st) (hlen : argsL.length = ps.length)
    (hw : (st.map fun v => v.category).sum = w) (hfr : fr + 1 ≤ rm.frames) (hlo : w + (maxL' + 11) + lo ≤ rm.locals) (hk' : k ≤ rm.cells) (hn' : n ≤ rm.slots)
    (hr : Go W n0 Q h k n q ls (res :: st)) (hy : y.cls ≠ "java/lang/invoke/MethodHandle" ∧ y.cls ≠ "java/lang/invoke/VarHandle" := by decide) : Go W n0 Q h k n pc ls stk :=
  Go.callV C E wl wdc (notFace_of_selects (args := #[]) (mvT C.z wse)) wse wst wi wc M hd hpd hq hls hstk hlen hw hfr hlo rfl rfl hk' hn' (fun v h' q => by obtain ⟨rfl, rfl⟩ := q; exact hr) hy
/-- a private method, by invokevirtual; zz: any method of its class of which the sheet says what it selects (so the class is no interface) -/
theorem Go.callP (C : Cx Z W rm own nm bytes maxL ret) {index : Nat} {y zz : MethodName} {K KK : String} {bytes' : ByteArray} {maxL' : Nat} {ret' : Option FieldType} {rm' : Room} {argsL : List Value} {Q' : Option Value → Heap → Prop} {ps : List FieldType} {rt : Option FieldType} {stk : List Value} {k' n' w : Nat} {a : Addr}
    (E : Exa Z h a K) (wl : (Jvm.Cond.methodLink own index y).before a0 Z = true) (wse : (Jvm.Cond.selects KK zz zz).before a0 Z = true) (hzz : zz.cls = y.cls) (wpr : (Jvm.Cond.privateMethod y).before a0 Z = true) (wst : (Jvm.Cond.instanceMethod y).before a0 Z = true) (wi : (Jvm.Cond.initialized y.cls).before a0 Z = true) (wc : (Jvm.Cond.code y bytes' maxL' ret').before a0 Z = true)
    (M : Met1 W.l Z y bytes' maxL' ret' [] rm' (.ref a :: argsL).toArray h n0 Q') (hd : decode bytes pc = .ok (.invokevirtual index, 3)) (hpd : parseMethodDescriptor y.desc = some ⟨ps, rt⟩) (hq : pc + 3 = q) (hls : ls.size = maxL) (hstk : stk = argsL.reverse ++ .ref a :: st) (hlen : argsL.length = ps.length)
    (hw : (st.map fun v => v.category).sum = w) (hfr : rm'.frames + 1 ≤ rm.frames) (hlo : w + (maxL' + 11) + rm'.locals ≤ rm.locals) (hk : k + rm'.cells = k') (hn : n + rm'.slots = n') (hk' : k' ≤ rm.cells) (hn' : n' ≤ rm.slots)
    (hr : ∀ v h', Q' v h' → Go W n0 Q h' k' n' q ls (v.toList ++ st)) (hy : y.cls ≠ "java/lang/invoke/MethodHandle" ∧ y.cls ≠ "java/lang/invoke/VarHandle" := by decide) : Go W n0 Q h k n pc ls stk := by
  subst hstk hq hk hn hw
  intro T L i j X ha hb' N eT
  have e1 := C.ro
  obtain ⟨cell, hcell, hobj⟩ := E.cell
  rw [← eT] at hcell
  obtain ⟨mk, methM, hnamed, hmethM, hstM, habM⟩ := Cond.instanceMethod_spec (mvT (args := #[]) C.z wst)
  obtain ⟨methM', cM, hmethM', -, -, -, -, -, -, hsigM⟩ := Cond.code_spec hnamed (mvT (args := #[]) C.z wc)
  cases hmethM.symm.trans hmethM'
  obtain ⟨c2, r2, m2, -, -, q3, -, kP, hkP, hkPi⟩ := Cond.selects_spec (mvT (args := #[]) C.z wse)
  have ec : m2.cls = mk.cls := by
    have u1 := findClass_of_methodNamed q3
    have u2 := findClass_of_methodNamed hnamed
    rw [hzz] at u1
    exact Option.some.inj (u1.symm.trans u2)
  rw [ec] at hkP
  have hsel := selectMethod_private (p := W.e.platform) (c := cell.cls) hmethM (Cond.privateMethod_at (mvP C.z wpr (args := #[])) mk methM hnamed hmethM)
  obtain ⟨vm₁, X₁, hst⟩ := X.invokevirtual C.x C.ow (mvT C.z wl) hnamed hmethM hstM hkP hkPi hy (a := a) (cell := cell) hcell hobj hsel hmethM habM hkP hkPi (g := mkF W.m pc ls (argsL.reverse ++ .ref a :: st)) rfl (argsL := argsL) (rest := st) (lenOf hpd hlen _ hsigM) rfl (hb C.b hd)
  obtain ⟨v, ⟨T2, L2, k2, n2⟩, X2, ⟨Lc, ⟨N2, hQ2⟩, l2, y2, z2⟩, sp⟩ := backOf (len := 3) (W := (st.map fun v => v.category).sum) (Q := fun v h L => Fr n0 L ∧ Q' v h) M C.z wc wi (by rw [e1]; exact hfr) (by rw [e1]; exact hlo) W.m W.meth W.c ⟨T.setVm vm₁, L, i, j⟩ (mkF W.m pc ls st) (.invokevirtual index) mk (.ref a :: argsL).toArray X₁ rfl (by rw [C.ml]; exact hls) (hb C.b hd) (by show 2 * 0 + (st.map fun v => v.category).sum ≤ (st.map fun v => v.category).sum; omega) (X₁.named hnamed) ⟨rfl, eT, by rw [e1]; show i + _ ≤ _; omega, by rw [e1]; show j + _ ≤ _; omega⟩
  dsimp only [Pt.U, Pt.locs, Pt.cells, Pt.slots] at X2 l2 y2 z2 sp hQ2
  subst l2 y2 z2
  obtain ⟨s₂, o, hs, r⟩ := hr v _ hQ2 T2 _ _ _ X2 (by omega) (by omega) (Fr.app N N2) rfl
  exact ⟨s₂, o, (hst _ fun acts => by rw [doInvoke_state]; exact Steps.refl _).trans (sp.trans hs), r⟩
/-! the heap -/
theorem Go.initO (C : Cx Z W rm own nm bytes maxL ret) {index w : Nat} {a : Addr} (w1 : (Jvm.Cond.methodLink own index Lib.objectInit).before a0 Z = true) (w2 : (Jvm.Cond.instanceMethod Lib.objectInit).before a0 Z = true) (w3 : (Jvm.Cond.code Lib.objectInit ⟨#[0xb1]⟩ 1 none).before a0 Z = true)
    (hd : decode bytes pc = .ok (.invokespecial index, 3)) (hq : pc + 3 = q) (hls : ls.size = maxL) (hw : (st.map fun v => v.category).sum = w) (hfr : 1 ≤ rm.frames) (hlo : w + 12 ≤ rm.locals) (hr : Go W n0 Q h k n q ls st) : Go W n0 Q h k n pc ls (.ref a :: st) := by
  subst hq hw
  exact Go.stepT (fun T L i j X eT => Jvm.RoadKit.initO X C.x C.z C.ow w1 w2 w3 eT (g := mkF W.m pc ls (.ref a :: st)) rfl (by rw [C.ml]; exact hls) rfl (hb C.b hd) (by rw [C.ro]; exact hfr) (W := (st.map fun v => v.category).sum) (by show 2 * 0 + (st.map fun v => v.category).sum ≤ (st.map fun v => v.category).sum; omega) (by rw [C.ro]; exact hlo)) hr
theorem Go.getF (C : Cx Z W rm own nm bytes maxL ret) {R0 O f d host : String} {index : Nat} {a : Addr} {v : Value} (w : (Jvm.Cond.fieldLink own index R0 f d).before a0 Z = true ∨ (Jvm.Cond.fieldLinkNest own index R0 f d host).before a0 Z = true) (via : Via Z R0 O f d) (F : Fld Z h a O f d v)
    (hd : decode bytes pc = .ok (.getfield index, 3)) (hq : pc + 3 = q) (hr : Go W n0 Q h k n q ls (v :: st)) : Go W n0 Q h k n pc ls (.ref a :: st) := by
  subst hq
  exact Go.stepT (fun T L i j X eT => Jvm.RoadKit.getF X C.x C.z C.ow w via eT F (g := mkF W.m pc ls (.ref a :: st)) rfl rfl (hb C.b hd)) hr
theorem Go.getS (C : Cx Z W rm own nm bytes maxL ret) {R0 O f d : String} {index : Nat} {v : Value} (w : (Jvm.Cond.fieldLink own index R0 f d).before a0 Z = true) (via : Via Z R0 O f d) (F : Sta Z h O f d v)
    (hd : decode bytes pc = .ok (.getstatic index, 3)) (hq : pc + 3 = q) (hr : Go W n0 Q h k n q ls (v :: st)) : Go W n0 Q h k n pc ls st := by
  subst hq
  exact Go.stepT (fun T L i j X eT => Jvm.RoadKit.getS X C.x C.z (host := "") C.ow w via eT F (g := mkF W.m pc ls st) rfl (hb C.b hd)) hr
theorem Go.putF (C : Cx Z W rm own nm bytes maxL ret) {R0 O f d host K : String} {index kk : Nat} {ty : FieldType} {a : Addr} {v old : Value} (w : (Jvm.Cond.fieldLink own index R0 f d).before a0 Z = true ∨ (Jvm.Cond.fieldLinkNest own index R0 f d host).before a0 Z = true) (via : Via Z R0 O f d) (F : Fld Z h a O f d old) (E : Exa Z h a K)
    (Lw : (Jvm.Cond.lays K O f d).before a0 Z = true ∨ ((Jvm.Cond.laysFinal K O f d).before a0 Z = true ∧ own = O ∧ nm = "<init>")) (wi : (Jvm.Cond.instantiable K kk).before a0 Z = true) (hty : parseFieldDescriptor d = some ty) (hn : narrow ty v = v) (hf : fits ty v = true) (ha : n0 ≤ a)
    (hd : decode bytes pc = .ok (.putfield index, 3)) (hq : pc + 3 = q) (hr : ∀ h', Wr h h' a (Jvm.RoadKit.slotOf Z O f d) v → Go W n0 Q h' k n q ls st) : Go W n0 Q h k n pc ls (v :: .ref a :: st) := by
  subst hq
  intro T L i j X hk hn' N eT
  obtain ⟨T', h', X', e', W', sp⟩ := Jvm.RoadKit.putF X C.x C.z C.ow w via eT F E (Lw.imp id fun z => ⟨z.1, z.2.1, C.na.trans z.2.2⟩) wi hty hn hf (g := mkF W.m pc ls (v :: .ref a :: st)) rfl rfl (hb C.b hd)
  obtain ⟨s₂, o, hs, r⟩ := hr h' W' T' _ _ _ X' hk hn' (Fr.snoc X' N ha) e'
  exact ⟨s₂, o, sp _ hs, r⟩
theorem Go.newO (C : Cx Z W rm own nm bytes maxL ret) {K : String} {index sz k' n' : Nat} (w : (Jvm.Cond.classLink own index K).before a0 Z = true) (wi : (Jvm.Cond.instantiable K sz).before a0 Z = true) (wz : (Jvm.Cond.initialized K).before a0 Z = true)
    (hd : decode bytes pc = .ok (.new index, 3)) (hq : pc + 3 = q) (hk : k + 1 = k') (hn : n + sz = n') (hk' : k' ≤ rm.cells) (hn' : n' ≤ rm.slots)
    (hr : ∀ h' a, a = h.size → Ext h h' → Exa Z h' a K → (∀ {O f d : String} {ty : FieldType}, Laid Z a0 K O f d → parseFieldDescriptor d = some ty → Fld Z h' a O f d (defaultValue ty)) → Go W n0 Q h' k' n' q ls (.ref a :: st)) : Go W n0 Q h k n pc ls st := by
  subst hq hk hn
  intro T L i j X hk0 hn0 N eT
  have e1 := C.ro
  obtain ⟨T', h', X', e', E', A', D', -, sp⟩ := Jvm.RoadKit.newO X C.x C.z C.ow w wi wz eT (g := mkF W.m pc ls st) rfl (hb C.b hd) (by rw [e1]; omega) (by rw [e1]; omega)
  obtain ⟨s₂, o, hs, r⟩ := hr h' _ rfl E' A' D' T' _ _ _ X' (by omega) (by omega) N e'
  exact ⟨s₂, o, sp _ hs, r⟩
theorem Go.newP (C : Cx Z W rm own nm bytes maxL ret) {aty : ArrayType} {z : Int32} {cap k' n' : Nat} (w : (Jvm.Cond.arrayClass (newarray.typeOf aty)).before a0 Z = true) (hz : ¬ z < 0) (hcap : z.toNatClampNeg ≤ cap) (hbig : cap * 8 ≤ 536870912)
    (hd : decode bytes pc = .ok (.newarray aty, 2)) (hq : pc + 2 = q) (hk : k + 1 = k') (hn : n + cap = n') (hk' : k' ≤ rm.cells) (hn' : n' ≤ rm.slots)
    (hr : ∀ h' a cA, a = h.size → Ext h h' → Arv Z h' a cA (newarray.typeOf aty) z [] (defaultValue (newarray.typeOf aty)) → Go W n0 Q h' k' n' q ls (.ref a :: st)) : Go W n0 Q h k n pc ls (.int z :: st) := by
  subst hq hk hn
  intro T L i j X hk0 hn0 N eT
  have e1 := C.ro
  obtain ⟨T', h', cA, X', e', E', A', sp⟩ := Jvm.RoadKit.newP X C.x C.z w eT (g := mkF W.m pc ls (.int z :: st)) rfl (hb C.b hd) rfl hz hcap hbig (by rw [e1]; omega) (by rw [e1]; omega)
  obtain ⟨s₂, o, hs, r⟩ := hr h' _ cA rfl E' (Arv.new A' hz) T' _ _ _ X' (by omega) (by omega) N e'
  exact ⟨s₂, o, sp _ hs, r⟩

/-! arrays: the length n, the values f -/
def Av (Z : State) (h : Heap) (a : Addr) (ty : FieldType) (len : Nat) (f : Nat → Value) : Prop := ∃ c : Cell, Arr Z h a c ty ∧ c.slots.size = len ∧ len < 2 ^ 31 ∧ ∀ i, i < len → c.slots[i]? = some (f i)
def upd {α : Type} (f : Nat → α) (j : Nat) (v : α) : Nat → α := fun i => if i = j then v else f i
theorem upd_eq {α : Type} (f : Nat → α) (j : Nat) (v : α) : upd f j v j = v := if_pos rfl
theorem upd_ne {α : Type} (f : Nat → α) {j i : Nat} (v : α) (e : i ≠ j) : upd f j v i = f i := if_neg e
theorem Av.lt {a : Addr} {ty : FieldType} {len : Nat} {f : Nat → Value} (F : Av Z h a ty len f) : a < h.size := by obtain ⟨c, A, -⟩ := F; exact A.lt
theorem Av.ext {a : Addr} {ty : FieldType} {len : Nat} {f : Nat → Value} {h' : Heap} (F : Av Z h a ty len f) (E : Ext h h') : Av Z h' a ty len f := by obtain ⟨c, A, r⟩ := F; exact ⟨c, A.ext E, r⟩
theorem Av.other {a b : Addr} {ty : FieldType} {len sl : Nat} {v : Value} {f : Nat → Value} {h' : Heap} (F : Av Z h b ty len f) (W : Wr h h' a sl v) (e : b ≠ a) : Av Z h' b ty len f := by obtain ⟨c, A, r⟩ := F; exact ⟨c, A.other W e, r⟩
theorem Av.keep {a : Addr} {ty : FieldType} {len : Nat} {f : Nat → Value} {h' : Heap} {ws : List Addr} (F : Av Z h a ty len f) (K : Keep h h' ws) (e : a ∉ ws) : Av Z h' a ty len f := by obtain ⟨c, A, r⟩ := F; exact ⟨c, ⟨K.2.1 a c A.1 e, A.2⟩, r⟩
theorem Av.same {a : Addr} {ty : FieldType} {len j : Nat} {v : Value} {f : Nat → Value} {h' : Heap} (F : Av Z h a ty len f) (W : Wr h h' a j v) : Av Z h' a ty len (upd f j v) := by
  obtain ⟨c, A, r1, r2, r3⟩ := F
  refine ⟨c.setSlot j v, A.same W, by simp [Cell.setSlot, r1], r2, fun i hi => ?_⟩
  by_cases e : i = j
  · subst e
    rw [upd_eq]
    simp [Cell.setSlot, r1, hi]
  · rw [upd_ne _ _ e, ← r3 i hi]
    exact Array.getElem?_setIfInBounds_ne (Ne.symm e)
def iF (g : Nat → Int32) : Nat → Value := fun i => .int (g i)
def jF (g : Nat → Int64) : Nat → Value := fun i => .long (g i)
theorem upd_iF (g : Nat → Int32) (j : Nat) (x : Int32) : upd (iF g) j (.int x) = iF (upd g j x) := by funext i; by_cases e : i = j <;> simp [upd, iF, e]
theorem upd_jF (g : Nat → Int64) (j : Nat) (x : Int64) : upd (jF g) j (.long x) = jF (upd g j x) := by funext i; by_cases e : i = j <;> simp [upd, jF, e]
theorem Av.sameI {a : Addr} {ty : FieldType} {len j : Nat} {x : Int32} {g : Nat → Int32} {h' : Heap} (F : Av Z h a ty len (iF g)) (W : Wr h h' a j (.int x)) : Av Z h' a ty len (iF (upd g j x)) := upd_iF g j x ▸ F.same W
theorem Av.sameJ {a : Addr} {ty : FieldType} {len j : Nat} {x : Int64} {g : Nat → Int64} {h' : Heap} (F : Av Z h a ty len (jF g)) (W : Wr h h' a j (.long x)) : Av Z h' a ty len (jF (upd g j x)) := upd_jF g j x ▸ F.same W
def kF (g : Nat → Int64) : Nat → Value := fun i => .double (FP.l2d (g i))
theorem upd_kF (g : Nat → Int64) (j : Nat) (x : Int64) : upd (kF g) j (.double (FP.l2d x)) = kF (upd g j x) := by funext i; by_cases e : i = j <;> simp [upd, kF, e]
theorem Av.sameK {a : Addr} {ty : FieldType} {len j : Nat} {x : Int64} {g : Nat → Int64} {h' : Heap} (F : Av Z h a ty len (kF g)) (W : Wr h h' a j (.double (FP.l2d x))) : Av Z h' a ty len (kF (upd g j x)) := upd_kF g j x ▸ F.same W
theorem Av.of {a : Addr} {ty : FieldType} {z : Int32} {cA : ClassId} {d : Value} (F : Arv Z h a cA ty z [] d) : Av Z h a ty z.toNatClampNeg (fun _ => d) := by
  obtain ⟨c, A, -, r1, r2, r3, -⟩ := F
  refine ⟨c, A, r1, ?_, fun i hi => ?_⟩
  · have e1 := z.toInt_lt
    have e2 : z.toNatClampNeg = z.toInt.toNat := rfl
    omega
  · rw [r3 i (by omega)]
    simp
theorem Av.ofD {a : Addr} {z : Int32} {cA : ClassId} (F : Arv Z h a cA .double z [] (defaultValue .double)) : Av Z h a .double z.toNatClampNeg (kF (fun _ => 0)) := by
  have e : kF (fun _ => 0) = (fun _ => defaultValue .double) := by funext i; show Value.double (FP.l2d 0) = _; rw [Jvm.RoadKit.l2d_zero]; rfl
  rw [e]
  exact Av.of F
theorem Av.congr {a : Addr} {ty : FieldType} {len : Nat} {f f' : Nat → Value} (F : Av Z h a ty len f) (e : ∀ i, i < len → f i = f' i) : Av Z h a ty len f' := by obtain ⟨c, A, r1, r2, r3⟩ := F; exact ⟨c, A, r1, r2, fun i hi => e i hi ▸ r3 i hi⟩
theorem Go.newPE (C : Cx Z W rm own nm bytes maxL ret) {aty : ArrayType} {z : Int32} {cap k' n' : Nat} (w : (Jvm.Cond.arrayClass (newarray.typeOf aty)).before a0 Z = true) (hz : ¬ z < 0) (hcap : z.toNatClampNeg ≤ cap) (hbig : cap * 8 ≤ 536870912)
    (hd : decode bytes pc = .ok (.newarray aty, 2)) (hq : pc + 2 = q) (hk : k + 1 = k') (hn : n + cap = n') (hk' : k' ≤ rm.cells) (hn' : n' ≤ rm.slots) {ad : String} (had : "[" ++ (newarray.typeOf aty).toString = ad)
    (hr : ∀ h' a cA, a = h.size → Ext h h' → Arv Z h' a cA (newarray.typeOf aty) z [] (defaultValue (newarray.typeOf aty)) → Exa Z h' a ad → Go W n0 Q h' k' n' q ls (.ref a :: st)) : Go W n0 Q h k n pc ls (.int z :: st) := by
  subst hq hk hn
  intro T L i j X hk0 hn0 N eT
  have e1 := C.ro
  obtain ⟨T', h', cA, X', e', E', A', D', sp⟩ := Jvm.RoadKit.newPE X C.x C.z w eT (g := mkF W.m pc ls (.int z :: st)) rfl (hb C.b hd) rfl hz hcap hbig (by rw [e1]; omega) (by rw [e1]; omega) had
  obtain ⟨s₂, o, hs, r⟩ := hr h' _ cA rfl E' (Arv.new A' hz) D' T' _ _ _ X' (by omega) (by omega) N e'
  exact ⟨s₂, o, sp _ hs, r⟩
theorem Go.clone (C : Cx Z W rm own nm bytes maxL ret) {index cap k' n' wt len : Nat} {ad : String} {a : Addr} {ty : FieldType} {f : Nat → Value}
    (w1 : (Jvm.Cond.methodLink own index ⟨ad, "clone", "()Ljava/lang/Object;"⟩).before a0 Z = true) (w2 : (Jvm.Cond.sameMethod ad "java/lang/Object" "clone" "()Ljava/lang/Object;").before a0 Z = true) (w3 : (Jvm.Cond.native ⟨"java/lang/Object", "clone", "()Ljava/lang/Object;"⟩).before a0 Z = true)
    (w4 : (Jvm.Cond.instanceMethod ⟨"java/lang/Object", "clone", "()Ljava/lang/Object;"⟩).before a0 Z = true) (w5 : (Jvm.Cond.selects ad ⟨ad, "clone", "()Ljava/lang/Object;"⟩ ⟨"java/lang/Object", "clone", "()Ljava/lang/Object;"⟩).before a0 Z = true) (w6 : (Jvm.Cond.castable ad "java/lang/Cloneable").before a0 Z = true)
    (F : Av Z h a ty len f) (E : Exa Z h a ad) (hfit : ∀ i, i < len → fits ty (f i) = true) (hd : decode bytes pc = .ok (.invokevirtual index, 3)) (hq : pc + 3 = q) (hls : ls.size = maxL) (hw : (st.map fun v => v.category).sum = wt) (hfr : 1 ≤ rm.frames) (hlo : wt + 14 ≤ rm.locals) (hcap : len = cap) (hk : k + 1 = k') (hn : n + cap = n') (hk' : k' ≤ rm.cells) (hn' : n' ≤ rm.slots)
    (hr : ∀ h' b, b = h.size → Ext h h' → Av Z h' b ty len f → Exa Z h' b ad → Go W n0 Q h' k' n' q ls (.ref b :: st)) : Go W n0 Q h k n pc ls (.ref a :: st) := by
  subst hq hk hn hw
  obtain ⟨c, A, r1, r2, r3⟩ := F
  intro T L i j X hk0 hn0 N eT
  have e1 := C.ro
  have FC : FitC Z c := fitC_of A fun x hx v hv => by rw [r3 x (r1 ▸ hx)] at hv; cases hv; exact hfit x (r1 ▸ hx)
  obtain ⟨T', h', X', e', E', A', D', sp⟩ := cloneA X C.x C.z C.ow w1 w2 w3 w4 w5 w6 eT A E FC (g := mkF W.m pc ls (.ref a :: st)) rfl (by rw [C.ml]; exact hls) rfl (hb C.b hd) (by rw [e1]; exact hfr) (W := (st.map fun v => v.category).sum) (by show 2 * 0 + (st.map fun v => v.category).sum ≤ (st.map fun v => v.category).sum; omega) (by rw [e1]; exact hlo) (cap := cap) (by omega) (by rw [e1]; omega) (by rw [e1]; omega)
  obtain ⟨s₂, o, hs, r⟩ := hr h' _ rfl E' ⟨_, A', r1, r2, r3⟩ D' T' _ _ _ X' (by omega) (by omega) N e'
  exact ⟨s₂, o, sp _ hs, r⟩
theorem Go.cast (C : Cx Z W rm own nm bytes maxL ret) {index : Nat} {K : String} {a : Addr} (w : (Jvm.Cond.classLink own index K).before a0 Z = true) (F : Ins Z h a K true) (hd : decode bytes pc = .ok (.checkcast index, 3)) (hq : pc + 3 = q)
    (hr : Go W n0 Q h k n q ls (.ref a :: st)) : Go W n0 Q h k n pc ls (.ref a :: st) := by
  subst hq
  exact Go.stepT (fun T L i j X eT => Jvm.RoadKit.castY X C.x C.z C.ow w eT F (g := mkF W.m pc ls (.ref a :: st)) rfl rfl (hb C.b hd)) hr
theorem Go.alen (C : Cx Z W rm own nm bytes maxL ret) {a : Addr} {ty : FieldType} {len : Nat} {f : Nat → Value} (F : Av Z h a ty len f) (hd : decode bytes pc = .ok (.arraylength, 1)) (hq : pc + 1 = q)
    (hr : Go W n0 Q h k n q ls (.int len.toInt32 :: st)) : Go W n0 Q h k n pc ls (.ref a :: st) := by
  subst hq
  obtain ⟨c, A, r1, r2, r3⟩ := F
  subst r1
  exact Go.stepX (fun T L i j tg X eT kk => X.arraylength C.x (by rw [eT]; exact A.1) (State.isArrayOf_alike C.z.alike A.2.1) (g := mkF W.m pc ls (.ref a :: st)) rfl rfl (hb C.b hd) _ kk) hr
theorem Go.alenZ (C : Cx Z W rm own nm bytes maxL ret) {a : Addr} {ty : FieldType} {z : Int32} {f : Nat → Value} (F : Av Z h a ty z.toNatClampNeg f) (hz : ¬ z < 0) (hd : decode bytes pc = .ok (.arraylength, 1)) (hq : pc + 1 = q)
    (hr : Go W n0 Q h k n q ls (.int z :: st)) : Go W n0 Q h k n pc ls (.ref a :: st) :=
  Go.alen C F hd hq (by rw [(Jvm.RoadKit.back32 hz).1]; exact hr)

theorem Go.iaload (C : Cx Z W rm own nm bytes maxL ret) {a : Addr} {len : Nat} {f : Nat → Value} {j : Int32} {v : Value} (F : Av Z h a .int len f) (i : Nat) (hji : j.toNatClampNeg = i) (hj : ¬ j < 0) (hi : i < len) (hv : f i = v) (hd : decode bytes pc = .ok (.iaload, 1)) (hq : pc + 1 = q)
    (hr : Go W n0 Q h k n q ls (v :: st)) : Go W n0 Q h k n pc ls (.int j :: .ref a :: st) := by
  subst hq hji hv
  obtain ⟨c, A, r1, r2, r3⟩ := F
  exact Go.stepX (fun T L i' j' tg X eT kk => X.iaload C.x (j := j) (by rw [eT]; exact A.1) (State.isArrayOf_alike C.z.alike A.2.1) A.2.2 (fun z => z.elim hj (fun y => absurd (Nat.lt_of_lt_of_le hi (r1 ▸ y)) (Nat.lt_irrefl _))) (r3 _ hi) (g := mkF W.m pc ls (.int j :: .ref a :: st)) rfl rfl (hb C.b hd) _ kk) hr
theorem Go.laload (C : Cx Z W rm own nm bytes maxL ret) {a : Addr} {len : Nat} {f : Nat → Value} {j : Int32} {v : Value} (F : Av Z h a .long len f) (i : Nat) (hji : j.toNatClampNeg = i) (hj : ¬ j < 0) (hi : i < len) (hv : f i = v) (hd : decode bytes pc = .ok (.laload, 1)) (hq : pc + 1 = q)
    (hr : Go W n0 Q h k n q ls (v :: st)) : Go W n0 Q h k n pc ls (.int j :: .ref a :: st) := by
  subst hq hji hv
  obtain ⟨c, A, r1, r2, r3⟩ := F
  exact Go.stepX (fun T L i' j' tg X eT kk => X.laload C.x (j := j) (by rw [eT]; exact A.1) (State.isArrayOf_alike C.z.alike A.2.1) A.2.2 (fun z => z.elim hj (fun y => absurd (Nat.lt_of_lt_of_le hi (r1 ▸ y)) (Nat.lt_irrefl _))) (r3 _ hi) (g := mkF W.m pc ls (.int j :: .ref a :: st)) rfl rfl (hb C.b hd) _ kk) hr
theorem Go.caload (C : Cx Z W rm own nm bytes maxL ret) {a : Addr} {len : Nat} {f : Nat → Value} {j : Int32} {v : Value} (F : Av Z h a .char len f) (i : Nat) (hji : j.toNatClampNeg = i) (hj : ¬ j < 0) (hi : i < len) (hv : f i = v) (hd : decode bytes pc = .ok (.caload, 1)) (hq : pc + 1 = q)
    (hr : Go W n0 Q h k n q ls (v :: st)) : Go W n0 Q h k n pc ls (.int j :: .ref a :: st) := by
  subst hq hji hv
  obtain ⟨c, A, r1, r2, r3⟩ := F
  exact Go.stepX (fun T L i' j' tg X eT kk => X.caload C.x (j := j) (by rw [eT]; exact A.1) (State.isArrayOf_alike C.z.alike A.2.1) A.2.2 (fun z => z.elim hj (fun y => absurd (Nat.lt_of_lt_of_le hi (r1 ▸ y)) (Nat.lt_irrefl _))) (r3 _ hi) (g := mkF W.m pc ls (.int j :: .ref a :: st)) rfl rfl (hb C.b hd) _ kk) hr
theorem Go.baload (C : Cx Z W rm own nm bytes maxL ret) {a : Addr} {len : Nat} {f : Nat → Value} {j : Int32} {v : Value} (F : Av Z h a .byte len f) (i : Nat) (hji : j.toNatClampNeg = i) (hj : ¬ j < 0) (hi : i < len) (hv : f i = v) (hd : decode bytes pc = .ok (.baload, 1)) (hq : pc + 1 = q)
    (hr : Go W n0 Q h k n q ls (v :: st)) : Go W n0 Q h k n pc ls (.int j :: .ref a :: st) := by
  subst hq hji hv
  obtain ⟨c, A, r1, r2, r3⟩ := F
  exact Go.stepX (fun T L i' j' tg X eT kk => X.baloadBytes C.x (j := j) (by rw [eT]; exact A.1) (State.isArrayOf_alike C.z.alike A.2.1) A.2.2 (fun z => z.elim hj (fun y => absurd (Nat.lt_of_lt_of_le hi (r1 ▸ y)) (Nat.lt_irrefl _))) (r3 _ hi) (g := mkF W.m pc ls (.int j :: .ref a :: st)) rfl rfl (hb C.b hd) _ kk) hr
theorem Go.zaload (C : Cx Z W rm own nm bytes maxL ret) {a : Addr} {len : Nat} {f : Nat → Value} {j : Int32} {v : Value} (F : Av Z h a .boolean len f) (i : Nat) (hji : j.toNatClampNeg = i) (hj : ¬ j < 0) (hi : i < len) (hv : f i = v) (hd : decode bytes pc = .ok (.baload, 1)) (hq : pc + 1 = q)
    (hr : Go W n0 Q h k n q ls (v :: st)) : Go W n0 Q h k n pc ls (.int j :: .ref a :: st) := by
  subst hq hji hv
  obtain ⟨c, A, r1, r2, r3⟩ := F
  exact Go.stepX (fun T L i' j' tg X eT kk => X.baloadBooleans C.x (j := j) (by rw [eT]; exact A.1) (State.isArrayOf_alike C.z.alike A.2.1) A.2.2 (fun z => z.elim hj (fun y => absurd (Nat.lt_of_lt_of_le hi (r1 ▸ y)) (Nat.lt_irrefl _))) (r3 _ hi) (g := mkF W.m pc ls (.int j :: .ref a :: st)) rfl rfl (hb C.b hd) _ kk) hr
theorem Go.daload (C : Cx Z W rm own nm bytes maxL ret) {a : Addr} {len : Nat} {f : Nat → Value} {j : Int32} {v : Value} (F : Av Z h a .double len f) (i : Nat) (hji : j.toNatClampNeg = i) (hj : ¬ j < 0) (hi : i < len) (hv : f i = v) (hd : decode bytes pc = .ok (.daload, 1)) (hq : pc + 1 = q)
    (hr : Go W n0 Q h k n q ls (v :: st)) : Go W n0 Q h k n pc ls (.int j :: .ref a :: st) := by
  subst hq hji hv
  obtain ⟨c, A, r1, r2, r3⟩ := F
  exact Go.stepX (fun T L i' j' tg X eT kk => X.daload C.x (j := j) (by rw [eT]; exact A.1) (State.isArrayOf_alike C.z.alike A.2.1) A.2.2 (fun z => z.elim hj (fun y => absurd (Nat.lt_of_lt_of_le hi (r1 ▸ y)) (Nat.lt_irrefl _))) (r3 _ hi) (g := mkF W.m pc ls (.int j :: .ref a :: st)) rfl rfl (hb C.b hd) _ kk) hr
theorem Go.dastore (C : Cx Z W rm own nm bytes maxL ret) {a : Addr} {len : Nat} {f : Nat → Value} {j : Int32} {x : UInt64} (F : Av Z h a .double len f) (i : Nat) (hji : j.toNatClampNeg = i) (hj : ¬ j < 0) (hi : i < len) (ha : n0 ≤ a) (hd : decode bytes pc = .ok (.dastore, 1)) (hq : pc + 1 = q)
    (hr : ∀ h', Wr h h' a i (.double x) → Go W n0 Q h' k n q ls st) : Go W n0 Q h k n pc ls (.double x :: .int j :: .ref a :: st) := by
  subst hq hji
  obtain ⟨c, A, r1, r2, r3⟩ := F
  intro T L i' j' X hk hn N eT
  obtain ⟨T', h', X', e', W', sp⟩ := Jvm.RoadKit.stD X C.x C.z eT A (j := j) (fun z => z.elim hj (fun y => absurd (Nat.lt_of_lt_of_le hi (r1 ▸ y)) (Nat.lt_irrefl _))) (g := mkF W.m pc ls (.double x :: .int j :: .ref a :: st)) rfl rfl (hb C.b hd)
  obtain ⟨s₂, o, hs, r⟩ := hr h' W' T' _ _ _ X' hk hn (Fr.snoc X' N ha) e'
  exact ⟨s₂, o, sp _ hs, r⟩
theorem Go.iastore (C : Cx Z W rm own nm bytes maxL ret) {a : Addr} {len : Nat} {f : Nat → Value} {j : Int32} {x : Int32} (F : Av Z h a .int len f) (i : Nat) (hji : j.toNatClampNeg = i) (hj : ¬ j < 0) (hi : i < len) (ha : n0 ≤ a) (hd : decode bytes pc = .ok (.iastore, 1)) (hq : pc + 1 = q)
    (hr : ∀ h', Wr h h' a i (.int x) → Go W n0 Q h' k n q ls st) : Go W n0 Q h k n pc ls (.int x :: .int j :: .ref a :: st) := by
  subst hq hji
  obtain ⟨c, A, r1, r2, r3⟩ := F
  intro T L i' j' X hk hn N eT
  obtain ⟨T', h', X', e', W', sp⟩ := Jvm.RoadKit.stI X C.x C.z eT A (j := j) (fun z => z.elim hj (fun y => absurd (Nat.lt_of_lt_of_le hi (r1 ▸ y)) (Nat.lt_irrefl _))) (g := mkF W.m pc ls (.int x :: .int j :: .ref a :: st)) rfl rfl (hb C.b hd)
  obtain ⟨s₂, o, hs, r⟩ := hr h' W' T' _ _ _ X' hk hn (Fr.snoc X' N ha) e'
  exact ⟨s₂, o, sp _ hs, r⟩
theorem Go.lastore (C : Cx Z W rm own nm bytes maxL ret) {a : Addr} {len : Nat} {f : Nat → Value} {j : Int32} {x : Int64} (F : Av Z h a .long len f) (i : Nat) (hji : j.toNatClampNeg = i) (hj : ¬ j < 0) (hi : i < len) (ha : n0 ≤ a) (hd : decode bytes pc = .ok (.lastore, 1)) (hq : pc + 1 = q)
    (hr : ∀ h', Wr h h' a i (.long x) → Go W n0 Q h' k n q ls st) : Go W n0 Q h k n pc ls (.long x :: .int j :: .ref a :: st) := by
  subst hq hji
  obtain ⟨c, A, r1, r2, r3⟩ := F
  intro T L i' j' X hk hn N eT
  obtain ⟨T', h', X', e', W', sp⟩ := Jvm.RoadKit.stJ X C.x C.z eT A (j := j) (fun z => z.elim hj (fun y => absurd (Nat.lt_of_lt_of_le hi (r1 ▸ y)) (Nat.lt_irrefl _))) (g := mkF W.m pc ls (.long x :: .int j :: .ref a :: st)) rfl rfl (hb C.b hd)
  obtain ⟨s₂, o, hs, r⟩ := hr h' W' T' _ _ _ X' hk hn (Fr.snoc X' N ha) e'
  exact ⟨s₂, o, sp _ hs, r⟩
theorem Go.castore (C : Cx Z W rm own nm bytes maxL ret) {a : Addr} {len : Nat} {f : Nat → Value} {j : Int32} {x : Int32} (F : Av Z h a .char len f) (i : Nat) (hji : j.toNatClampNeg = i) (hj : ¬ j < 0) (hi : i < len) (ha : n0 ≤ a) (hd : decode bytes pc = .ok (.castore, 1)) (hq : pc + 1 = q)
    (hr : ∀ h', Wr h h' a i (.int (nar .char x)) → Go W n0 Q h' k n q ls st) : Go W n0 Q h k n pc ls (.int x :: .int j :: .ref a :: st) := by
  subst hq hji
  obtain ⟨c, A, r1, r2, r3⟩ := F
  intro T L i' j' X hk hn N eT
  obtain ⟨T', h', X', e', W', sp⟩ := Jvm.RoadKit.stC X C.x C.z eT A (j := j) (fun z => z.elim hj (fun y => absurd (Nat.lt_of_lt_of_le hi (r1 ▸ y)) (Nat.lt_irrefl _))) (g := mkF W.m pc ls (.int x :: .int j :: .ref a :: st)) rfl rfl (hb C.b hd)
  obtain ⟨s₂, o, hs, r⟩ := hr h' W' T' _ _ _ X' hk hn (Fr.snoc X' N ha) e'
  exact ⟨s₂, o, sp _ hs, r⟩
theorem Go.bastore (C : Cx Z W rm own nm bytes maxL ret) {a : Addr} {len : Nat} {f : Nat → Value} {j : Int32} {x : Int32} (F : Av Z h a .byte len f) (i : Nat) (hji : j.toNatClampNeg = i) (hj : ¬ j < 0) (hi : i < len) (ha : n0 ≤ a) (hd : decode bytes pc = .ok (.bastore, 1)) (hq : pc + 1 = q)
    (hr : ∀ h', Wr h h' a i (.int (nar .byte x)) → Go W n0 Q h' k n q ls st) : Go W n0 Q h k n pc ls (.int x :: .int j :: .ref a :: st) := by
  subst hq hji
  obtain ⟨c, A, r1, r2, r3⟩ := F
  intro T L i' j' X hk hn N eT
  obtain ⟨T', h', X', e', W', sp⟩ := Jvm.RoadKit.stB X C.x C.z eT A (j := j) (fun z => z.elim hj (fun y => absurd (Nat.lt_of_lt_of_le hi (r1 ▸ y)) (Nat.lt_irrefl _))) (g := mkF W.m pc ls (.int x :: .int j :: .ref a :: st)) rfl rfl (hb C.b hd)
  obtain ⟨s₂, o, hs, r⟩ := hr h' W' T' _ _ _ X' hk hn (Fr.snoc X' N ha) e'
  exact ⟨s₂, o, sp _ hs, r⟩
theorem Go.zastore (C : Cx Z W rm own nm bytes maxL ret) {a : Addr} {len : Nat} {f : Nat → Value} {j : Int32} {x : Int32} (F : Av Z h a .boolean len f) (i : Nat) (hji : j.toNatClampNeg = i) (hj : ¬ j < 0) (hi : i < len) (ha : n0 ≤ a) (hd : decode bytes pc = .ok (.bastore, 1)) (hq : pc + 1 = q)
    (hr : ∀ h', Wr h h' a i (.int (nar .boolean x)) → Go W n0 Q h' k n q ls st) : Go W n0 Q h k n pc ls (.int x :: .int j :: .ref a :: st) := by
  subst hq hji
  obtain ⟨c, A, r1, r2, r3⟩ := F
  intro T L i' j' X hk hn N eT
  obtain ⟨T', h', X', e', W', sp⟩ := Jvm.RoadKit.stZ X C.x C.z eT A (j := j) (fun z => z.elim hj (fun y => absurd (Nat.lt_of_lt_of_le hi (r1 ▸ y)) (Nat.lt_irrefl _))) (g := mkF W.m pc ls (.int x :: .int j :: .ref a :: st)) rfl rfl (hb C.b hd)
  obtain ⟨s₂, o, hs, r⟩ := hr h' W' T' _ _ _ X' hk hn (Fr.snoc X' N ha) e'
  exact ⟨s₂, o, sp _ hs, r⟩
end Gos

theorem d4_0 : decode method_2_code 0 = .ok (.iload 6, 2) := by decide +kernel
theorem d4_2 : decode method_2_code 2 = .ok (.bipush 64, 2) := by decide +kernel
theorem d4_4 : decode method_2_code 4 = .ok (.if_icmp .ge 9, 3) := by decide +kernel
theorem d4_7 : decode method_2_code 7 = .ok (.lload_n 0, 1) := by decide +kernel
theorem d4_8 : decode method_2_code 8 = .ok (.lstore 7, 2) := by decide +kernel
theorem d4_10 : decode method_2_code 10 = .ok (.goto 21, 3) := by decide +kernel
theorem d4_31 : decode method_2_code 31 = .ok (.iload 6, 2) := by decide +kernel
theorem d4_33 : decode method_2_code 33 = .ok (.bipush 63, 2) := by decide +kernel
theorem d4_35 : decode method_2_code 35 = .ok (.iand, 1) := by decide +kernel
theorem d4_36 : decode method_2_code 36 = .ok (.istore 9, 2) := by decide +kernel
theorem d4_38 : decode method_2_code 38 = .ok (.lload 7, 2) := by decide +kernel
theorem d4_40 : decode method_2_code 40 = .ok (.iload 9, 2) := by decide +kernel
theorem d4_42 : decode method_2_code 42 = .ok (.lushr, 1) := by decide +kernel
theorem d4_43 : decode method_2_code 43 = .ok (.lconst 1, 1) := by decide +kernel
theorem d4_44 : decode method_2_code 44 = .ok (.land, 1) := by decide +kernel
theorem d4_45 : decode method_2_code 45 = .ok (.lconst 1, 1) := by decide +kernel
theorem d4_46 : decode method_2_code 46 = .ok (.lcmp, 1) := by decide +kernel
theorem d4_47 : decode method_2_code 47 = .ok (.ifCond .ne 7, 3) := by decide +kernel
theorem d4_50 : decode method_2_code 50 = .ok (.iconst 1, 1) := by decide +kernel
theorem d4_51 : decode method_2_code 51 = .ok (.goto 4, 3) := by decide +kernel
theorem d4_55 : decode method_2_code 55 = .ok (.ireturn, 1) := by decide +kernel
theorem d4_54 : decode method_2_code 54 = .ok (.iconst 0, 1) := by decide +kernel
theorem d4_13 : decode method_2_code 13 = .ok (.iload 6, 2) := by decide +kernel
theorem d4_15 : decode method_2_code 15 = .ok (.sipush 128, 3) := by decide +kernel
theorem d4_18 : decode method_2_code 18 = .ok (.if_icmp .ge 9, 3) := by decide +kernel
theorem d4_21 : decode method_2_code 21 = .ok (.lload_n 2, 1) := by decide +kernel
theorem d4_22 : decode method_2_code 22 = .ok (.lstore 7, 2) := by decide +kernel
theorem d4_24 : decode method_2_code 24 = .ok (.goto 7, 3) := by decide +kernel
theorem d4_27 : decode method_2_code 27 = .ok (.lload 4, 2) := by decide +kernel
theorem d4_29 : decode method_2_code 29 = .ok (.lstore 7, 2) := by decide +kernel
theorem ef_4 (m : MethodId) (w0 : Int64) (w1 : Int64) (w2 : Int64) (i : Int32) : entryFrame m #[(.long w0), (.long w1), (.long w2), (.int i)] 10 = mkF m 0 #[.val (.long w0), .second, .val (.long w1), .second, .val (.long w2), .second, .val (.int i), .unset, .unset, .unset] [] := by first | (simp [entryFrame, mkF, argsToLocals, Value.category]; done) | rfl
theorem pn_com_example_paretoloom_paretoloom_mnk_TrailStringPinLaw : plainName "com/example/paretoloom/paretoloom/mnk/TrailStringPinLaw" = true := by first | (simp [plainName, overriddenIn]; done) | decide +kernel
theorem d5_0 : decode method_3_code 0 = .ok (.iconst 0, 1) := by decide +kernel
theorem d5_1 : decode method_3_code 1 = .ok (.istore 5, 2) := by decide +kernel
theorem d5_3 : decode method_3_code 3 = .ok (.iload_n 3, 1) := by decide +kernel
theorem d5_4 : decode method_3_code 4 = .ok (.ifCond .le 21, 3) := by decide +kernel
theorem d5_7 : decode method_3_code 7 = .ok (.iload_n 0, 1) := by decide +kernel
theorem d5_8 : decode method_3_code 8 = .ok (.iload 4, 2) := by decide +kernel
theorem d5_10 : decode method_3_code 10 = .ok (.if_icmp .ne 15, 3) := by decide +kernel
theorem d5_13 : decode method_3_code 13 = .ok (.iload 5, 2) := by decide +kernel
theorem d5_15 : decode method_3_code 15 = .ok (.ifCond .ne 7, 3) := by decide +kernel
theorem d5_18 : decode method_3_code 18 = .ok (.iconst 1, 1) := by decide +kernel
theorem d5_19 : decode method_3_code 19 = .ok (.goto 4, 3) := by decide +kernel
theorem d5_23 : decode method_3_code 23 = .ok (.istore 5, 2) := by decide +kernel
theorem d5_25 : decode method_3_code 25 = .ok (.iload_n 3, 1) := by decide +kernel
theorem d5_26 : decode method_3_code 26 = .ok (.iconst 1, 1) := by decide +kernel
theorem d5_27 : decode method_3_code 27 = .ok (.if_icmp .le 21, 3) := by decide +kernel
theorem d5_30 : decode method_3_code 30 = .ok (.iload_n 1, 1) := by decide +kernel
theorem d5_31 : decode method_3_code 31 = .ok (.iload 4, 2) := by decide +kernel
theorem d5_33 : decode method_3_code 33 = .ok (.if_icmp .ne 15, 3) := by decide +kernel
theorem d5_36 : decode method_3_code 36 = .ok (.iload 5, 2) := by decide +kernel
theorem d5_38 : decode method_3_code 38 = .ok (.ifCond .ne 7, 3) := by decide +kernel
theorem d5_45 : decode method_3_code 45 = .ok (.iconst 0, 1) := by decide +kernel
theorem d5_46 : decode method_3_code 46 = .ok (.istore 5, 2) := by decide +kernel
theorem d5_48 : decode method_3_code 48 = .ok (.iload_n 3, 1) := by decide +kernel
theorem d5_49 : decode method_3_code 49 = .ok (.iconst 2, 1) := by decide +kernel
theorem d5_50 : decode method_3_code 50 = .ok (.if_icmp .le 21, 3) := by decide +kernel
theorem d5_53 : decode method_3_code 53 = .ok (.iload_n 2, 1) := by decide +kernel
theorem d5_54 : decode method_3_code 54 = .ok (.iload 4, 2) := by decide +kernel
theorem d5_56 : decode method_3_code 56 = .ok (.if_icmp .ne 15, 3) := by decide +kernel
theorem d5_59 : decode method_3_code 59 = .ok (.iload 5, 2) := by decide +kernel
theorem d5_61 : decode method_3_code 61 = .ok (.ifCond .ne 7, 3) := by decide +kernel
theorem d5_64 : decode method_3_code 64 = .ok (.iconst 1, 1) := by decide +kernel
theorem d5_65 : decode method_3_code 65 = .ok (.goto 4, 3) := by decide +kernel
theorem d5_69 : decode method_3_code 69 = .ok (.istore 5, 2) := by decide +kernel
theorem d5_71 : decode method_3_code 71 = .ok (.iload 5, 2) := by decide +kernel
theorem d5_73 : decode method_3_code 73 = .ok (.ireturn, 1) := by decide +kernel
theorem d5_68 : decode method_3_code 68 = .ok (.iconst 0, 1) := by decide +kernel
theorem d5_41 : decode method_3_code 41 = .ok (.iconst 1, 1) := by decide +kernel
theorem d5_42 : decode method_3_code 42 = .ok (.goto 4, 3) := by decide +kernel
theorem ef_5 (m : MethodId) (f0 : Int32) (f1 : Int32) (f2 : Int32) (c : Int32) (i : Int32) : entryFrame m #[(.int f0), (.int f1), (.int f2), (.int c), (.int i)] 6 = mkF m 0 #[.val (.int f0), .val (.int f1), .val (.int f2), .val (.int c), .val (.int i), .unset] [] := by first | (simp [entryFrame, mkF, argsToLocals, Value.category]; done) | rfl
theorem d1_0 : decode prog_60_method_1_code 0 = .ok (.aload_n 0, 1) := by decide +kernel
theorem d1_1 : decode prog_60_method_1_code 1 = .ok (.invokespecial 1, 3) := by decide +kernel
theorem d1_4 : decode prog_60_method_1_code 4 = .ok (.aload_n 0, 1) := by decide +kernel
theorem d1_5 : decode prog_60_method_1_code 5 = .ok (.iload_n 1, 1) := by decide +kernel
theorem d1_6 : decode prog_60_method_1_code 6 = .ok (.putfield 7, 3) := by decide +kernel
theorem d1_9 : decode prog_60_method_1_code 9 = .ok (.aload_n 0, 1) := by decide +kernel
theorem d1_10 : decode prog_60_method_1_code 10 = .ok (.aload_n 2, 1) := by decide +kernel
theorem d1_11 : decode prog_60_method_1_code 11 = .ok (.putfield 13, 3) := by decide +kernel
theorem d1_14 : decode prog_60_method_1_code 14 = .ok (.aload_n 0, 1) := by decide +kernel
theorem d1_15 : decode prog_60_method_1_code 15 = .ok (.aload_n 3, 1) := by decide +kernel
theorem d1_16 : decode prog_60_method_1_code 16 = .ok (.putfield 17, 3) := by decide +kernel
theorem d1_19 : decode prog_60_method_1_code 19 = .ok (.return_, 1) := by decide +kernel
theorem ef_1 (m : MethodId) (a : Addr) (z : Int32) (x : Addr) (y : Addr) : entryFrame m #[(.ref a), (.int z), (.ref x), (.ref y)] 4 = mkF m 0 #[.val (.ref a), .val (.int z), .val (.ref x), .val (.ref y)] [] := by first | (simp [entryFrame, mkF, argsToLocals, Value.category]; done) | rfl
theorem pn_com_example_paretoloom_paretoloom_mnk_Trail : plainName "com/example/paretoloom/paretoloom/mnk/Trail" = true := by first | (simp [plainName, overriddenIn]; done) | decide +kernel
theorem d3_56 : decode prog_60_method_2_code 56 = .ok (.iload 4, 2) := by decide +kernel
theorem d3_58 : decode prog_60_method_2_code 58 = .ok (.aload_n 0, 1) := by decide +kernel
theorem d3_59 : decode prog_60_method_2_code 59 = .ok (.getfield 7, 3) := by decide +kernel
theorem d3_62 : decode prog_60_method_2_code 62 = .ok (.if_icmp .ge 35, 3) := by decide +kernel
theorem d3_97 : decode prog_60_method_2_code 97 = .ok (.aload_n 3, 1) := by decide +kernel
theorem d3_98 : decode prog_60_method_2_code 98 = .ok (.areturn, 1) := by decide +kernel
theorem d3_65 : decode prog_60_method_2_code 65 = .ok (.aload_n 3, 1) := by decide +kernel
theorem d3_66 : decode prog_60_method_2_code 66 = .ok (.iload 4, 2) := by decide +kernel
theorem d3_68 : decode prog_60_method_2_code 68 = .ok (.aload_n 2, 1) := by decide +kernel
theorem d3_69 : decode prog_60_method_2_code 69 = .ok (.iload 4, 2) := by decide +kernel
theorem d3_71 : decode prog_60_method_2_code 71 = .ok (.bipush 6, 2) := by decide +kernel
theorem d3_73 : decode prog_60_method_2_code 73 = .ok (.iushr, 1) := by decide +kernel
theorem d3_74 : decode prog_60_method_2_code 74 = .ok (.laload, 1) := by decide +kernel
theorem d3_75 : decode prog_60_method_2_code 75 = .ok (.iload 4, 2) := by decide +kernel
theorem d3_77 : decode prog_60_method_2_code 77 = .ok (.lushr, 1) := by decide +kernel
theorem d3_78 : decode prog_60_method_2_code 78 = .ok (.lconst 1, 1) := by decide +kernel
theorem d3_79 : decode prog_60_method_2_code 79 = .ok (.land, 1) := by decide +kernel
theorem d3_80 : decode prog_60_method_2_code 80 = .ok (.lconst 0, 1) := by decide +kernel
theorem d3_81 : decode prog_60_method_2_code 81 = .ok (.lcmp, 1) := by decide +kernel
theorem d3_82 : decode prog_60_method_2_code 82 = .ok (.ifCond .eq 7, 3) := by decide +kernel
theorem d3_89 : decode prog_60_method_2_code 89 = .ok (.iconst 0, 1) := by decide +kernel
theorem d3_85 : decode prog_60_method_2_code 85 = .ok (.iconst 1, 1) := by decide +kernel
theorem d3_86 : decode prog_60_method_2_code 86 = .ok (.goto 4, 3) := by decide +kernel
theorem d3_90 : decode prog_60_method_2_code 90 = .ok (.bastore, 1) := by decide +kernel
theorem d3_91 : decode prog_60_method_2_code 91 = .ok (.iinc 4 1, 3) := by decide +kernel
theorem d3_94 : decode prog_60_method_2_code 94 = .ok (.goto (-38), 3) := by decide +kernel
theorem d3_0 : decode prog_60_method_2_code 0 = .ok (.aload_n 0, 1) := by decide +kernel
theorem d3_1 : decode prog_60_method_2_code 1 = .ok (.getfield 13, 3) := by decide +kernel
theorem d3_4 : decode prog_60_method_2_code 4 = .ok (.invokevirtual 21, 3) := by decide +kernel
theorem d3_7 : decode prog_60_method_2_code 7 = .ok (.checkcast 22, 3) := by decide +kernel
theorem d3_10 : decode prog_60_method_2_code 10 = .ok (.astore_n 2, 1) := by decide +kernel
theorem d3_11 : decode prog_60_method_2_code 11 = .ok (.iconst 0, 1) := by decide +kernel
theorem d3_12 : decode prog_60_method_2_code 12 = .ok (.istore_n 3, 1) := by decide +kernel
theorem d3_13 : decode prog_60_method_2_code 13 = .ok (.iload_n 3, 1) := by decide +kernel
theorem d3_14 : decode prog_60_method_2_code 14 = .ok (.iload_n 1, 1) := by decide +kernel
theorem d3_15 : decode prog_60_method_2_code 15 = .ok (.if_icmp .ge 31, 3) := by decide +kernel
theorem d3_46 : decode prog_60_method_2_code 46 = .ok (.aload_n 0, 1) := by decide +kernel
theorem d3_47 : decode prog_60_method_2_code 47 = .ok (.getfield 7, 3) := by decide +kernel
theorem d3_50 : decode prog_60_method_2_code 50 = .ok (.newarray .boolean, 2) := by decide +kernel
theorem d3_52 : decode prog_60_method_2_code 52 = .ok (.astore_n 3, 1) := by decide +kernel
theorem d3_53 : decode prog_60_method_2_code 53 = .ok (.iconst 0, 1) := by decide +kernel
theorem d3_54 : decode prog_60_method_2_code 54 = .ok (.istore 4, 2) := by decide +kernel
theorem ef_3_l1_0Int32 (m : MethodId) (a : Addr) : entryFrame m #[(.ref a), (.int (0 : Int32))] 5 = mkF m 0 #[.val (.ref a), .val (.int (0 : Int32)), .unset, .unset, .unset] [] := by first | (simp [entryFrame, mkF, argsToLocals, Value.category]; done) | rfl
theorem d3_18 : decode prog_60_method_2_code 18 = .ok (.aload_n 0, 1) := by decide +kernel
theorem d3_19 : decode prog_60_method_2_code 19 = .ok (.getfield 17, 3) := by decide +kernel
theorem d3_22 : decode prog_60_method_2_code 22 = .ok (.iload_n 3, 1) := by decide +kernel
theorem d3_23 : decode prog_60_method_2_code 23 = .ok (.iaload, 1) := by decide +kernel
theorem d3_24 : decode prog_60_method_2_code 24 = .ok (.istore 4, 2) := by decide +kernel
theorem d3_26 : decode prog_60_method_2_code 26 = .ok (.aload_n 2, 1) := by decide +kernel
theorem d3_27 : decode prog_60_method_2_code 27 = .ok (.iload 4, 2) := by decide +kernel
theorem d3_29 : decode prog_60_method_2_code 29 = .ok (.bipush 6, 2) := by decide +kernel
theorem d3_31 : decode prog_60_method_2_code 31 = .ok (.iushr, 1) := by decide +kernel
theorem d3_32 : decode prog_60_method_2_code 32 = .ok (.dup2, 1) := by decide +kernel
theorem d3_33 : decode prog_60_method_2_code 33 = .ok (.laload, 1) := by decide +kernel
theorem d3_34 : decode prog_60_method_2_code 34 = .ok (.lconst 1, 1) := by decide +kernel
theorem d3_35 : decode prog_60_method_2_code 35 = .ok (.iload 4, 2) := by decide +kernel
theorem d3_37 : decode prog_60_method_2_code 37 = .ok (.lshl, 1) := by decide +kernel
theorem d3_38 : decode prog_60_method_2_code 38 = .ok (.lxor, 1) := by decide +kernel
theorem d3_39 : decode prog_60_method_2_code 39 = .ok (.lastore, 1) := by decide +kernel
theorem d3_40 : decode prog_60_method_2_code 40 = .ok (.iinc 3 1, 3) := by decide +kernel
theorem d3_43 : decode prog_60_method_2_code 43 = .ok (.goto (-30), 3) := by decide +kernel
theorem ef_3_l1_1Int32 (m : MethodId) (a : Addr) : entryFrame m #[(.ref a), (.int (1 : Int32))] 5 = mkF m 0 #[.val (.ref a), .val (.int (1 : Int32)), .unset, .unset, .unset] [] := by first | (simp [entryFrame, mkF, argsToLocals, Value.category]; done) | rfl
theorem ef_3_l1_2Int32 (m : MethodId) (a : Addr) : entryFrame m #[(.ref a), (.int (2 : Int32))] 5 = mkF m 0 #[.val (.ref a), .val (.int (2 : Int32)), .unset, .unset, .unset] [] := by first | (simp [entryFrame, mkF, argsToLocals, Value.category]; done) | rfl
theorem ef_3_l1_3Int32 (m : MethodId) (a : Addr) : entryFrame m #[(.ref a), (.int (3 : Int32))] 5 = mkF m 0 #[.val (.ref a), .val (.int (3 : Int32)), .unset, .unset, .unset] [] := by first | (simp [entryFrame, mkF, argsToLocals, Value.category]; done) | rfl
theorem ef_0 (m : MethodId) (p0 : Int64) (p1 : Int64) (p2 : Int64) (p3 : Int32) (p4 : Int32) (p5 : Int32) : entryFrame m #[(.long p0), (.long p1), (.long p2), (.int p3), (.int p4), (.int p5)] maxLocals = mkF m 0 #[.val (.long p0), .second, .val (.long p1), .second, .val (.long p2), .second, .val (.int p3), .val (.int p4), .val (.int p5), .unset, .unset, .unset, .unset, .unset, .unset, .unset, .unset, .unset, .unset, .unset, .unset, .unset, .unset, .unset, .unset, .unset] [] := by first | (simp [entryFrame, mkF, argsToLocals, Value.category, maxLocals]; done) | rfl
theorem pd__40I_91J_91I_41V : parseMethodDescriptor "(I[J[I)V" = some ⟨[.int, (.array .long), (.array .int)], none⟩ := by decide +kernel
theorem pd__40I_41_91Z : parseMethodDescriptor "(I)[Z" = some ⟨[.int], some (.array .boolean)⟩ := by decide +kernel
theorem pd__40JJJI_41Z : parseMethodDescriptor "(JJJI)Z" = some ⟨[.long, .long, .long, .int], some .boolean⟩ := by decide +kernel
theorem pd__40IIIII_41Z : parseMethodDescriptor "(IIIII)Z" = some ⟨[.int, .int, .int, .int, .int], some .boolean⟩ := by decide +kernel
def f_bb (w0 : Int64) (w1 : Int64) (w2 : Int64) (i : Int32) : Int32 := (if i < (64 : Int32) then (if (((w0.toUInt64 >>> ((i &&& (63 : Int32)) &&& 0x3f).toInt64.toUInt64).toInt64) &&& (1 : Int64)) = (1 : Int64) then (1 : Int32) else (0 : Int32)) else (if i < (128 : Int32) then (if (((w1.toUInt64 >>> ((i &&& (63 : Int32)) &&& 0x3f).toInt64.toUInt64).toInt64) &&& (1 : Int64)) = (1 : Int64) then (1 : Int32) else (0 : Int32)) else (if (((w2.toUInt64 >>> ((i &&& (63 : Int32)) &&& 0x3f).toInt64.toUInt64).toInt64) &&& (1 : Int64)) = (1 : Int64) then (1 : Int32) else (0 : Int32))))
set_option maxRecDepth 65536 in
theorem c_f_bb (l : Launch) (Z : State) (a0 : Array Value) (hw : ∀ d ∈ tables_1, d.before a0 Z = true) (w0 : Int64) (w1 : Int64) (w2 : Int64) (i : Int32) (h0 : Heap) (n0 : Nat) : Met1 l Z (⟨"com/example/paretoloom/paretoloom/mnk/TrailStringPinLaw", "baseBit", "(JJJI)Z"⟩ : MethodName) method_2_code 10 (some .boolean) [] ({ frames := 0, cells := 0, slots := 0, locals := 0 } : Room) #[(.long w0), (.long w1), (.long w2), (.int i)] h0 n0 (Ret (.int (f_bb w0 w1 w2 i)) h0) := by
  refine met_of_go (plainFor_of_name pn_com_example_paretoloom_paretoloom_mnk_TrailStringPinLaw) (fun m => ef_4 m w0 w1 w2 i) ?_
  intro W hl C
  subst hl
  refine Go.iload C d4_0 (q := 2) rfl rfl ?_
  refine Go.bipush C (64 : Int32) d4_2 (q := 4) rfl rfl ?_
  refine Go.icmp C d4_4 (n_ge _ _) (qt := 13) (q := 7) (by decide) (by decide) rfl (fun b1 => ?_) (fun b1 => ?_)
  ·
    refine Go.iload C d4_13 (q := 15) rfl rfl ?_
    refine Go.sipush C (128 : Int32) d4_15 (q := 18) rfl rfl ?_
    refine Go.icmp C d4_18 (n_ge _ _) (qt := 27) (q := 21) (by decide) (by decide) rfl (fun b2 => ?_) (fun b2 => ?_)
    ·
      refine Go.lload C d4_27 (q := 29) rfl rfl ?_
      refine Go.lstoreR C d4_29 (q := 31) rfl (l' := #[.val (.long w0), .second, .val (.long w1), .second, .val (.long w2), .second, .val (.int i), .val (.long w2), .second, .unset]) rfl ?_
      refine Go.iload C d4_31 (q := 33) rfl rfl ?_
      refine Go.bipush C (63 : Int32) d4_33 (q := 35) rfl rfl ?_
      refine Go.iand C d4_35 (q := 36) rfl ?_
      refine Go.istoreR C d4_36 (q := 38) rfl (l' := #[.val (.long w0), .second, .val (.long w1), .second, .val (.long w2), .second, .val (.int i), .val (.long w2), .second, .val (.int (i &&& (63 : Int32)))]) rfl ?_
      refine Go.lload C d4_38 (q := 40) rfl rfl ?_
      refine Go.iload C d4_40 (q := 42) rfl rfl ?_
      refine Go.lushr C d4_42 (q := 43) rfl ?_
      refine Go.lconst C (1 : Int64) d4_43 (q := 44) rfl rfl ?_
      refine Go.land C d4_44 (q := 45) rfl ?_
      refine Go.lconst C (1 : Int64) d4_45 (q := 46) rfl rfl ?_
      refine Go.lcmp C d4_46 (q := 47) rfl ?_
      refine Go.if0 C d4_47 (l_ne _ _) (qt := 54) (q := 50) (by decide) (by decide) rfl (fun b3 => ?_) (fun b3 => ?_)
      ·
        refine Go.iconst C (0 : Int32) d4_54 (q := 55) rfl rfl ?_
        refine Go.retZ (t := .boolean) (by simp) C d4_55 (by decide) (by decide) ⟨?_, rfl⟩
        refine congrArg (fun z => some (Value.int z)) ?_
        show (0 : Int32) = f_bb w0 w1 w2 i
        unfold f_bb
        rw [if_neg b1, if_neg b2, if_neg b3]
      ·
        have b3 := Classical.not_not.mp b3
        refine Go.iconst C (1 : Int32) d4_50 (q := 51) rfl rfl ?_
        refine Go.goto C d4_51 (q := 55) (by decide) (by decide) ?_
        refine Go.retZ (t := .boolean) (by simp) C d4_55 (by decide) (by decide) ⟨?_, rfl⟩
        refine congrArg (fun z => some (Value.int z)) ?_
        show (1 : Int32) = f_bb w0 w1 w2 i
        unfold f_bb
        rw [if_neg b1, if_neg b2, if_pos b3]
    ·
      have b2 := Classical.not_not.mp b2
      refine Go.lloadN C d4_21 (q := 22) rfl rfl ?_
      refine Go.lstoreR C d4_22 (q := 24) rfl (l' := #[.val (.long w0), .second, .val (.long w1), .second, .val (.long w2), .second, .val (.int i), .val (.long w1), .second, .unset]) rfl ?_
      refine Go.goto C d4_24 (q := 31) (by decide) (by decide) ?_
      refine Go.iload C d4_31 (q := 33) rfl rfl ?_
      refine Go.bipush C (63 : Int32) d4_33 (q := 35) rfl rfl ?_
      refine Go.iand C d4_35 (q := 36) rfl ?_
      refine Go.istoreR C d4_36 (q := 38) rfl (l' := #[.val (.long w0), .second, .val (.long w1), .second, .val (.long w2), .second, .val (.int i), .val (.long w1), .second, .val (.int (i &&& (63 : Int32)))]) rfl ?_
      refine Go.lload C d4_38 (q := 40) rfl rfl ?_
      refine Go.iload C d4_40 (q := 42) rfl rfl ?_
      refine Go.lushr C d4_42 (q := 43) rfl ?_
      refine Go.lconst C (1 : Int64) d4_43 (q := 44) rfl rfl ?_
      refine Go.land C d4_44 (q := 45) rfl ?_
      refine Go.lconst C (1 : Int64) d4_45 (q := 46) rfl rfl ?_
      refine Go.lcmp C d4_46 (q := 47) rfl ?_
      refine Go.if0 C d4_47 (l_ne _ _) (qt := 54) (q := 50) (by decide) (by decide) rfl (fun b4 => ?_) (fun b4 => ?_)
      ·
        refine Go.iconst C (0 : Int32) d4_54 (q := 55) rfl rfl ?_
        refine Go.retZ (t := .boolean) (by simp) C d4_55 (by decide) (by decide) ⟨?_, rfl⟩
        refine congrArg (fun z => some (Value.int z)) ?_
        show (0 : Int32) = f_bb w0 w1 w2 i
        unfold f_bb
        rw [if_neg b1, if_pos b2, if_neg b4]
      ·
        have b4 := Classical.not_not.mp b4
        refine Go.iconst C (1 : Int32) d4_50 (q := 51) rfl rfl ?_
        refine Go.goto C d4_51 (q := 55) (by decide) (by decide) ?_
        refine Go.retZ (t := .boolean) (by simp) C d4_55 (by decide) (by decide) ⟨?_, rfl⟩
        refine congrArg (fun z => some (Value.int z)) ?_
        show (1 : Int32) = f_bb w0 w1 w2 i
        unfold f_bb
        rw [if_neg b1, if_pos b2, if_pos b4]
  ·
    have b1 := Classical.not_not.mp b1
    refine Go.lloadN C d4_7 (q := 8) rfl rfl ?_
    refine Go.lstoreR C d4_8 (q := 10) rfl (l' := #[.val (.long w0), .second, .val (.long w1), .second, .val (.long w2), .second, .val (.int i), .val (.long w0), .second, .unset]) rfl ?_
    refine Go.goto C d4_10 (q := 31) (by decide) (by decide) ?_
    refine Go.iload C d4_31 (q := 33) rfl rfl ?_
    refine Go.bipush C (63 : Int32) d4_33 (q := 35) rfl rfl ?_
    refine Go.iand C d4_35 (q := 36) rfl ?_
    refine Go.istoreR C d4_36 (q := 38) rfl (l' := #[.val (.long w0), .second, .val (.long w1), .second, .val (.long w2), .second, .val (.int i), .val (.long w0), .second, .val (.int (i &&& (63 : Int32)))]) rfl ?_
    refine Go.lload C d4_38 (q := 40) rfl rfl ?_
    refine Go.iload C d4_40 (q := 42) rfl rfl ?_
    refine Go.lushr C d4_42 (q := 43) rfl ?_
    refine Go.lconst C (1 : Int64) d4_43 (q := 44) rfl rfl ?_
    refine Go.land C d4_44 (q := 45) rfl ?_
    refine Go.lconst C (1 : Int64) d4_45 (q := 46) rfl rfl ?_
    refine Go.lcmp C d4_46 (q := 47) rfl ?_
    refine Go.if0 C d4_47 (l_ne _ _) (qt := 54) (q := 50) (by decide) (by decide) rfl (fun b5 => ?_) (fun b5 => ?_)
    ·
      refine Go.iconst C (0 : Int32) d4_54 (q := 55) rfl rfl ?_
      refine Go.retZ (t := .boolean) (by simp) C d4_55 (by decide) (by decide) ⟨?_, rfl⟩
      refine congrArg (fun z => some (Value.int z)) ?_
      show (0 : Int32) = f_bb w0 w1 w2 i
      unfold f_bb
      rw [if_pos b1, if_neg b5]
    ·
      have b5 := Classical.not_not.mp b5
      refine Go.iconst C (1 : Int32) d4_50 (q := 51) rfl rfl ?_
      refine Go.goto C d4_51 (q := 55) (by decide) (by decide) ?_
      refine Go.retZ (t := .boolean) (by simp) C d4_55 (by decide) (by decide) ⟨?_, rfl⟩
      refine congrArg (fun z => some (Value.int z)) ?_
      show (1 : Int32) = f_bb w0 w1 w2 i
      unfold f_bb
      rw [if_pos b1, if_pos b5]
def f_fl (f0 : Int32) (f1 : Int32) (f2 : Int32) (c : Int32) (i : Int32) : Int32 := (if (0 : Int32) < c then (if f0 = i then (if (1 : Int32) < c then (if f1 = i then (if (2 : Int32) < c then (if f2 = i then (1 : Int32) else (0 : Int32)) else (0 : Int32)) else (if (2 : Int32) < c then (if f2 = i then (0 : Int32) else (1 : Int32)) else (1 : Int32))) else (if (2 : Int32) < c then (if f2 = i then (0 : Int32) else (1 : Int32)) else (1 : Int32))) else (if (1 : Int32) < c then (if f1 = i then (if (2 : Int32) < c then (if f2 = i then (0 : Int32) else (1 : Int32)) else (1 : Int32)) else (if (2 : Int32) < c then (if f2 = i then (1 : Int32) else (0 : Int32)) else (0 : Int32))) else (if (2 : Int32) < c then (if f2 = i then (1 : Int32) else (0 : Int32)) else (0 : Int32)))) else (if (1 : Int32) < c then (if f1 = i then (if (2 : Int32) < c then (if f2 = i then (0 : Int32) else (1 : Int32)) else (1 : Int32)) else (if (2 : Int32) < c then (if f2 = i then (1 : Int32) else (0 : Int32)) else (0 : Int32))) else (if (2 : Int32) < c then (if f2 = i then (1 : Int32) else (0 : Int32)) else (0 : Int32))))
set_option maxRecDepth 65536 in
theorem c_f_fl (l : Launch) (Z : State) (a0 : Array Value) (hw : ∀ d ∈ tables_1, d.before a0 Z = true) (f0 : Int32) (f1 : Int32) (f2 : Int32) (c : Int32) (i : Int32) (h0 : Heap) (n0 : Nat) : Met1 l Z (⟨"com/example/paretoloom/paretoloom/mnk/TrailStringPinLaw", "flipped", "(IIIII)Z"⟩ : MethodName) method_3_code 6 (some .boolean) [] ({ frames := 0, cells := 0, slots := 0, locals := 0 } : Room) #[(.int f0), (.int f1), (.int f2), (.int c), (.int i)] h0 n0 (Ret (.int (f_fl f0 f1 f2 c i)) h0) := by
  refine met_of_go (plainFor_of_name pn_com_example_paretoloom_paretoloom_mnk_TrailStringPinLaw) (fun m => ef_5 m f0 f1 f2 c i) ?_
  intro W hl C
  subst hl
  refine Go.iconst C (0 : Int32) d5_0 (q := 1) rfl rfl ?_
  refine Go.istoreR C d5_1 (q := 3) rfl (l' := #[.val (.int f0), .val (.int f1), .val (.int f2), .val (.int c), .val (.int i), .val (.int (0 : Int32))]) rfl ?_
  refine Go.iloadN C d5_3 (q := 4) rfl rfl ?_
  refine Go.if0 C d5_4 (z_le _) (qt := 25) (q := 7) (by decide) (by decide) rfl (fun b1 => ?_) (fun b1 => ?_)
  ·
    refine Go.iloadN C d5_25 (q := 26) rfl rfl ?_
    refine Go.iconst C (1 : Int32) d5_26 (q := 27) rfl rfl ?_
    refine Go.icmp C d5_27 (n_le _ _) (qt := 48) (q := 30) (by decide) (by decide) rfl (fun b2 => ?_) (fun b2 => ?_)
    ·
      refine Go.iloadN C d5_48 (q := 49) rfl rfl ?_
      refine Go.iconst C (2 : Int32) d5_49 (q := 50) rfl rfl ?_
      refine Go.icmp C d5_50 (n_le _ _) (qt := 71) (q := 53) (by decide) (by decide) rfl (fun b3 => ?_) (fun b3 => ?_)
      ·
        refine Go.iload C d5_71 (q := 73) rfl rfl ?_
        refine Go.retZ (t := .boolean) (by simp) C d5_73 (by decide) (by decide) ⟨?_, rfl⟩
        refine congrArg (fun z => some (Value.int z)) ?_
        show (0 : Int32) = f_fl f0 f1 f2 c i
        unfold f_fl
        rw [if_neg b1, if_neg b2, if_neg b3]
      ·
        have b3 := Classical.not_not.mp b3
        refine Go.iloadN C d5_53 (q := 54) rfl rfl ?_
        refine Go.iload C d5_54 (q := 56) rfl rfl ?_
        refine Go.icmp C d5_56 (n_ne _ _) (qt := 71) (q := 59) (by decide) (by decide) rfl (fun b4 => ?_) (fun b4 => ?_)
        ·
          refine Go.iload C d5_71 (q := 73) rfl rfl ?_
          refine Go.retZ (t := .boolean) (by simp) C d5_73 (by decide) (by decide) ⟨?_, rfl⟩
          refine congrArg (fun z => some (Value.int z)) ?_
          show (0 : Int32) = f_fl f0 f1 f2 c i
          unfold f_fl
          rw [if_neg b1, if_neg b2, if_pos b3, if_neg b4]
        ·
          have b4 := Classical.not_not.mp b4
          refine Go.iload C d5_59 (q := 61) rfl rfl ?_
          refine Go.if0 C d5_61 (z_ne _) (qt := 68) (q := 64) (by decide) (by decide) rfl (fun b5 => absurd b5 (by decide)) (fun _ => ?_)
          refine Go.iconst C (1 : Int32) d5_64 (q := 65) rfl rfl ?_
          refine Go.goto C d5_65 (q := 69) (by decide) (by decide) ?_
          refine Go.istoreR C d5_69 (q := 71) rfl (l' := #[.val (.int f0), .val (.int f1), .val (.int f2), .val (.int c), .val (.int i), .val (.int (1 : Int32))]) rfl ?_
          refine Go.iload C d5_71 (q := 73) rfl rfl ?_
          refine Go.retZ (t := .boolean) (by simp) C d5_73 (by decide) (by decide) ⟨?_, rfl⟩
          refine congrArg (fun z => some (Value.int z)) ?_
          show (1 : Int32) = f_fl f0 f1 f2 c i
          unfold f_fl
          rw [if_neg b1, if_neg b2, if_pos b3, if_pos b4]
    ·
      have b2 := Classical.not_not.mp b2
      refine Go.iloadN C d5_30 (q := 31) rfl rfl ?_
      refine Go.iload C d5_31 (q := 33) rfl rfl ?_
      refine Go.icmp C d5_33 (n_ne _ _) (qt := 48) (q := 36) (by decide) (by decide) rfl (fun b6 => ?_) (fun b6 => ?_)
      ·
        refine Go.iloadN C d5_48 (q := 49) rfl rfl ?_
        refine Go.iconst C (2 : Int32) d5_49 (q := 50) rfl rfl ?_
        refine Go.icmp C d5_50 (n_le _ _) (qt := 71) (q := 53) (by decide) (by decide) rfl (fun b7 => ?_) (fun b7 => ?_)
        ·
          refine Go.iload C d5_71 (q := 73) rfl rfl ?_
          refine Go.retZ (t := .boolean) (by simp) C d5_73 (by decide) (by decide) ⟨?_, rfl⟩
          refine congrArg (fun z => some (Value.int z)) ?_
          show (0 : Int32) = f_fl f0 f1 f2 c i
          unfold f_fl
          rw [if_neg b1, if_pos b2, if_neg b6, if_neg b7]
        ·
          have b7 := Classical.not_not.mp b7
          refine Go.iloadN C d5_53 (q := 54) rfl rfl ?_
          refine Go.iload C d5_54 (q := 56) rfl rfl ?_
          refine Go.icmp C d5_56 (n_ne _ _) (qt := 71) (q := 59) (by decide) (by decide) rfl (fun b8 => ?_) (fun b8 => ?_)
          ·
            refine Go.iload C d5_71 (q := 73) rfl rfl ?_
            refine Go.retZ (t := .boolean) (by simp) C d5_73 (by decide) (by decide) ⟨?_, rfl⟩
            refine congrArg (fun z => some (Value.int z)) ?_
            show (0 : Int32) = f_fl f0 f1 f2 c i
            unfold f_fl
            rw [if_neg b1, if_pos b2, if_neg b6, if_pos b7, if_neg b8]
          ·
            have b8 := Classical.not_not.mp b8
            refine Go.iload C d5_59 (q := 61) rfl rfl ?_
            refine Go.if0 C d5_61 (z_ne _) (qt := 68) (q := 64) (by decide) (by decide) rfl (fun b9 => absurd b9 (by decide)) (fun _ => ?_)
            refine Go.iconst C (1 : Int32) d5_64 (q := 65) rfl rfl ?_
            refine Go.goto C d5_65 (q := 69) (by decide) (by decide) ?_
            refine Go.istoreR C d5_69 (q := 71) rfl (l' := #[.val (.int f0), .val (.int f1), .val (.int f2), .val (.int c), .val (.int i), .val (.int (1 : Int32))]) rfl ?_
            refine Go.iload C d5_71 (q := 73) rfl rfl ?_
            refine Go.retZ (t := .boolean) (by simp) C d5_73 (by decide) (by decide) ⟨?_, rfl⟩
            refine congrArg (fun z => some (Value.int z)) ?_
            show (1 : Int32) = f_fl f0 f1 f2 c i
            unfold f_fl
            rw [if_neg b1, if_pos b2, if_neg b6, if_pos b7, if_pos b8]
      ·
        have b6 := Classical.not_not.mp b6
        refine Go.iload C d5_36 (q := 38) rfl rfl ?_
        refine Go.if0 C d5_38 (z_ne _) (qt := 45) (q := 41) (by decide) (by decide) rfl (fun b10 => absurd b10 (by decide)) (fun _ => ?_)
        refine Go.iconst C (1 : Int32) d5_41 (q := 42) rfl rfl ?_
        refine Go.goto C d5_42 (q := 46) (by decide) (by decide) ?_
        refine Go.istoreR C d5_46 (q := 48) rfl (l' := #[.val (.int f0), .val (.int f1), .val (.int f2), .val (.int c), .val (.int i), .val (.int (1 : Int32))]) rfl ?_
        refine Go.iloadN C d5_48 (q := 49) rfl rfl ?_
        refine Go.iconst C (2 : Int32) d5_49 (q := 50) rfl rfl ?_
        refine Go.icmp C d5_50 (n_le _ _) (qt := 71) (q := 53) (by decide) (by decide) rfl (fun b11 => ?_) (fun b11 => ?_)
        ·
          refine Go.iload C d5_71 (q := 73) rfl rfl ?_
          refine Go.retZ (t := .boolean) (by simp) C d5_73 (by decide) (by decide) ⟨?_, rfl⟩
          refine congrArg (fun z => some (Value.int z)) ?_
          show (1 : Int32) = f_fl f0 f1 f2 c i
          unfold f_fl
          rw [if_neg b1, if_pos b2, if_pos b6, if_neg b11]
        ·
          have b11 := Classical.not_not.mp b11
          refine Go.iloadN C d5_53 (q := 54) rfl rfl ?_
          refine Go.iload C d5_54 (q := 56) rfl rfl ?_
          refine Go.icmp C d5_56 (n_ne _ _) (qt := 71) (q := 59) (by decide) (by decide) rfl (fun b12 => ?_) (fun b12 => ?_)
          ·
            refine Go.iload C d5_71 (q := 73) rfl rfl ?_
            refine Go.retZ (t := .boolean) (by simp) C d5_73 (by decide) (by decide) ⟨?_, rfl⟩
            refine congrArg (fun z => some (Value.int z)) ?_
            show (1 : Int32) = f_fl f0 f1 f2 c i
            unfold f_fl
            rw [if_neg b1, if_pos b2, if_pos b6, if_pos b11, if_neg b12]
          ·
            have b12 := Classical.not_not.mp b12
            refine Go.iload C d5_59 (q := 61) rfl rfl ?_
            refine Go.if0 C d5_61 (z_ne _) (qt := 68) (q := 64) (by decide) (by decide) rfl (fun _ => ?_) (fun b13 => absurd b13 (by decide))
            refine Go.iconst C (0 : Int32) d5_68 (q := 69) rfl rfl ?_
            refine Go.istoreR C d5_69 (q := 71) rfl (l' := #[.val (.int f0), .val (.int f1), .val (.int f2), .val (.int c), .val (.int i), .val (.int (0 : Int32))]) rfl ?_
            refine Go.iload C d5_71 (q := 73) rfl rfl ?_
            refine Go.retZ (t := .boolean) (by simp) C d5_73 (by decide) (by decide) ⟨?_, rfl⟩
            refine congrArg (fun z => some (Value.int z)) ?_
            show (0 : Int32) = f_fl f0 f1 f2 c i
            unfold f_fl
            rw [if_neg b1, if_pos b2, if_pos b6, if_pos b11, if_pos b12]
  ·
    have b1 := Classical.not_not.mp b1
    refine Go.iloadN C d5_7 (q := 8) rfl rfl ?_
    refine Go.iload C d5_8 (q := 10) rfl rfl ?_
    refine Go.icmp C d5_10 (n_ne _ _) (qt := 25) (q := 13) (by decide) (by decide) rfl (fun b14 => ?_) (fun b14 => ?_)
    ·
      refine Go.iloadN C d5_25 (q := 26) rfl rfl ?_
      refine Go.iconst C (1 : Int32) d5_26 (q := 27) rfl rfl ?_
      refine Go.icmp C d5_27 (n_le _ _) (qt := 48) (q := 30) (by decide) (by decide) rfl (fun b15 => ?_) (fun b15 => ?_)
      ·
        refine Go.iloadN C d5_48 (q := 49) rfl rfl ?_
        refine Go.iconst C (2 : Int32) d5_49 (q := 50) rfl rfl ?_
        refine Go.icmp C d5_50 (n_le _ _) (qt := 71) (q := 53) (by decide) (by decide) rfl (fun b16 => ?_) (fun b16 => ?_)
        ·
          refine Go.iload C d5_71 (q := 73) rfl rfl ?_
          refine Go.retZ (t := .boolean) (by simp) C d5_73 (by decide) (by decide) ⟨?_, rfl⟩
          refine congrArg (fun z => some (Value.int z)) ?_
          show (0 : Int32) = f_fl f0 f1 f2 c i
          unfold f_fl
          rw [if_pos b1, if_neg b14, if_neg b15, if_neg b16]
        ·
          have b16 := Classical.not_not.mp b16
          refine Go.iloadN C d5_53 (q := 54) rfl rfl ?_
          refine Go.iload C d5_54 (q := 56) rfl rfl ?_
          refine Go.icmp C d5_56 (n_ne _ _) (qt := 71) (q := 59) (by decide) (by decide) rfl (fun b17 => ?_) (fun b17 => ?_)
          ·
            refine Go.iload C d5_71 (q := 73) rfl rfl ?_
            refine Go.retZ (t := .boolean) (by simp) C d5_73 (by decide) (by decide) ⟨?_, rfl⟩
            refine congrArg (fun z => some (Value.int z)) ?_
            show (0 : Int32) = f_fl f0 f1 f2 c i
            unfold f_fl
            rw [if_pos b1, if_neg b14, if_neg b15, if_pos b16, if_neg b17]
          ·
            have b17 := Classical.not_not.mp b17
            refine Go.iload C d5_59 (q := 61) rfl rfl ?_
            refine Go.if0 C d5_61 (z_ne _) (qt := 68) (q := 64) (by decide) (by decide) rfl (fun b18 => absurd b18 (by decide)) (fun _ => ?_)
            refine Go.iconst C (1 : Int32) d5_64 (q := 65) rfl rfl ?_
            refine Go.goto C d5_65 (q := 69) (by decide) (by decide) ?_
            refine Go.istoreR C d5_69 (q := 71) rfl (l' := #[.val (.int f0), .val (.int f1), .val (.int f2), .val (.int c), .val (.int i), .val (.int (1 : Int32))]) rfl ?_
            refine Go.iload C d5_71 (q := 73) rfl rfl ?_
            refine Go.retZ (t := .boolean) (by simp) C d5_73 (by decide) (by decide) ⟨?_, rfl⟩
            refine congrArg (fun z => some (Value.int z)) ?_
            show (1 : Int32) = f_fl f0 f1 f2 c i
            unfold f_fl
            rw [if_pos b1, if_neg b14, if_neg b15, if_pos b16, if_pos b17]
      ·
        have b15 := Classical.not_not.mp b15
        refine Go.iloadN C d5_30 (q := 31) rfl rfl ?_
        refine Go.iload C d5_31 (q := 33) rfl rfl ?_
        refine Go.icmp C d5_33 (n_ne _ _) (qt := 48) (q := 36) (by decide) (by decide) rfl (fun b19 => ?_) (fun b19 => ?_)
        ·
          refine Go.iloadN C d5_48 (q := 49) rfl rfl ?_
          refine Go.iconst C (2 : Int32) d5_49 (q := 50) rfl rfl ?_
          refine Go.icmp C d5_50 (n_le _ _) (qt := 71) (q := 53) (by decide) (by decide) rfl (fun b20 => ?_) (fun b20 => ?_)
          ·
            refine Go.iload C d5_71 (q := 73) rfl rfl ?_
            refine Go.retZ (t := .boolean) (by simp) C d5_73 (by decide) (by decide) ⟨?_, rfl⟩
            refine congrArg (fun z => some (Value.int z)) ?_
            show (0 : Int32) = f_fl f0 f1 f2 c i
            unfold f_fl
            rw [if_pos b1, if_neg b14, if_pos b15, if_neg b19, if_neg b20]
          ·
            have b20 := Classical.not_not.mp b20
            refine Go.iloadN C d5_53 (q := 54) rfl rfl ?_
            refine Go.iload C d5_54 (q := 56) rfl rfl ?_
            refine Go.icmp C d5_56 (n_ne _ _) (qt := 71) (q := 59) (by decide) (by decide) rfl (fun b21 => ?_) (fun b21 => ?_)
            ·
              refine Go.iload C d5_71 (q := 73) rfl rfl ?_
              refine Go.retZ (t := .boolean) (by simp) C d5_73 (by decide) (by decide) ⟨?_, rfl⟩
              refine congrArg (fun z => some (Value.int z)) ?_
              show (0 : Int32) = f_fl f0 f1 f2 c i
              unfold f_fl
              rw [if_pos b1, if_neg b14, if_pos b15, if_neg b19, if_pos b20, if_neg b21]
            ·
              have b21 := Classical.not_not.mp b21
              refine Go.iload C d5_59 (q := 61) rfl rfl ?_
              refine Go.if0 C d5_61 (z_ne _) (qt := 68) (q := 64) (by decide) (by decide) rfl (fun b22 => absurd b22 (by decide)) (fun _ => ?_)
              refine Go.iconst C (1 : Int32) d5_64 (q := 65) rfl rfl ?_
              refine Go.goto C d5_65 (q := 69) (by decide) (by decide) ?_
              refine Go.istoreR C d5_69 (q := 71) rfl (l' := #[.val (.int f0), .val (.int f1), .val (.int f2), .val (.int c), .val (.int i), .val (.int (1 : Int32))]) rfl ?_
              refine Go.iload C d5_71 (q := 73) rfl rfl ?_
              refine Go.retZ (t := .boolean) (by simp) C d5_73 (by decide) (by decide) ⟨?_, rfl⟩
              refine congrArg (fun z => some (Value.int z)) ?_
              show (1 : Int32) = f_fl f0 f1 f2 c i
              unfold f_fl
              rw [if_pos b1, if_neg b14, if_pos b15, if_neg b19, if_pos b20, if_pos b21]
        ·
          have b19 := Classical.not_not.mp b19
          refine Go.iload C d5_36 (q := 38) rfl rfl ?_
          refine Go.if0 C d5_38 (z_ne _) (qt := 45) (q := 41) (by decide) (by decide) rfl (fun b23 => absurd b23 (by decide)) (fun _ => ?_)
          refine Go.iconst C (1 : Int32) d5_41 (q := 42) rfl rfl ?_
          refine Go.goto C d5_42 (q := 46) (by decide) (by decide) ?_
          refine Go.istoreR C d5_46 (q := 48) rfl (l' := #[.val (.int f0), .val (.int f1), .val (.int f2), .val (.int c), .val (.int i), .val (.int (1 : Int32))]) rfl ?_
          refine Go.iloadN C d5_48 (q := 49) rfl rfl ?_
          refine Go.iconst C (2 : Int32) d5_49 (q := 50) rfl rfl ?_
          refine Go.icmp C d5_50 (n_le _ _) (qt := 71) (q := 53) (by decide) (by decide) rfl (fun b24 => ?_) (fun b24 => ?_)
          ·
            refine Go.iload C d5_71 (q := 73) rfl rfl ?_
            refine Go.retZ (t := .boolean) (by simp) C d5_73 (by decide) (by decide) ⟨?_, rfl⟩
            refine congrArg (fun z => some (Value.int z)) ?_
            show (1 : Int32) = f_fl f0 f1 f2 c i
            unfold f_fl
            rw [if_pos b1, if_neg b14, if_pos b15, if_pos b19, if_neg b24]
          ·
            have b24 := Classical.not_not.mp b24
            refine Go.iloadN C d5_53 (q := 54) rfl rfl ?_
            refine Go.iload C d5_54 (q := 56) rfl rfl ?_
            refine Go.icmp C d5_56 (n_ne _ _) (qt := 71) (q := 59) (by decide) (by decide) rfl (fun b25 => ?_) (fun b25 => ?_)
            ·
              refine Go.iload C d5_71 (q := 73) rfl rfl ?_
              refine Go.retZ (t := .boolean) (by simp) C d5_73 (by decide) (by decide) ⟨?_, rfl⟩
              refine congrArg (fun z => some (Value.int z)) ?_
              show (1 : Int32) = f_fl f0 f1 f2 c i
              unfold f_fl
              rw [if_pos b1, if_neg b14, if_pos b15, if_pos b19, if_pos b24, if_neg b25]
            ·
              have b25 := Classical.not_not.mp b25
              refine Go.iload C d5_59 (q := 61) rfl rfl ?_
              refine Go.if0 C d5_61 (z_ne _) (qt := 68) (q := 64) (by decide) (by decide) rfl (fun _ => ?_) (fun b26 => absurd b26 (by decide))
              refine Go.iconst C (0 : Int32) d5_68 (q := 69) rfl rfl ?_
              refine Go.istoreR C d5_69 (q := 71) rfl (l' := #[.val (.int f0), .val (.int f1), .val (.int f2), .val (.int c), .val (.int i), .val (.int (0 : Int32))]) rfl ?_
              refine Go.iload C d5_71 (q := 73) rfl rfl ?_
              refine Go.retZ (t := .boolean) (by simp) C d5_73 (by decide) (by decide) ⟨?_, rfl⟩
              refine congrArg (fun z => some (Value.int z)) ?_
              show (0 : Int32) = f_fl f0 f1 f2 c i
              unfold f_fl
              rw [if_pos b1, if_neg b14, if_pos b15, if_pos b19, if_pos b24, if_pos b25]
    ·
      have b14 := Classical.not_not.mp b14
      refine Go.iload C d5_13 (q := 15) rfl rfl ?_
      refine Go.if0 C d5_15 (z_ne _) (qt := 22) (q := 18) (by decide) (by decide) rfl (fun b27 => absurd b27 (by decide)) (fun _ => ?_)
      refine Go.iconst C (1 : Int32) d5_18 (q := 19) rfl rfl ?_
      refine Go.goto C d5_19 (q := 23) (by decide) (by decide) ?_
      refine Go.istoreR C d5_23 (q := 25) rfl (l' := #[.val (.int f0), .val (.int f1), .val (.int f2), .val (.int c), .val (.int i), .val (.int (1 : Int32))]) rfl ?_
      refine Go.iloadN C d5_25 (q := 26) rfl rfl ?_
      refine Go.iconst C (1 : Int32) d5_26 (q := 27) rfl rfl ?_
      refine Go.icmp C d5_27 (n_le _ _) (qt := 48) (q := 30) (by decide) (by decide) rfl (fun b28 => ?_) (fun b28 => ?_)
      ·
        refine Go.iloadN C d5_48 (q := 49) rfl rfl ?_
        refine Go.iconst C (2 : Int32) d5_49 (q := 50) rfl rfl ?_
        refine Go.icmp C d5_50 (n_le _ _) (qt := 71) (q := 53) (by decide) (by decide) rfl (fun b29 => ?_) (fun b29 => ?_)
        ·
          refine Go.iload C d5_71 (q := 73) rfl rfl ?_
          refine Go.retZ (t := .boolean) (by simp) C d5_73 (by decide) (by decide) ⟨?_, rfl⟩
          refine congrArg (fun z => some (Value.int z)) ?_
          show (1 : Int32) = f_fl f0 f1 f2 c i
          unfold f_fl
          rw [if_pos b1, if_pos b14, if_neg b28, if_neg b29]
        ·
          have b29 := Classical.not_not.mp b29
          refine Go.iloadN C d5_53 (q := 54) rfl rfl ?_
          refine Go.iload C d5_54 (q := 56) rfl rfl ?_
          refine Go.icmp C d5_56 (n_ne _ _) (qt := 71) (q := 59) (by decide) (by decide) rfl (fun b30 => ?_) (fun b30 => ?_)
          ·
            refine Go.iload C d5_71 (q := 73) rfl rfl ?_
            refine Go.retZ (t := .boolean) (by simp) C d5_73 (by decide) (by decide) ⟨?_, rfl⟩
            refine congrArg (fun z => some (Value.int z)) ?_
            show (1 : Int32) = f_fl f0 f1 f2 c i
            unfold f_fl
            rw [if_pos b1, if_pos b14, if_neg b28, if_pos b29, if_neg b30]
          ·
            have b30 := Classical.not_not.mp b30
            refine Go.iload C d5_59 (q := 61) rfl rfl ?_
            refine Go.if0 C d5_61 (z_ne _) (qt := 68) (q := 64) (by decide) (by decide) rfl (fun _ => ?_) (fun b31 => absurd b31 (by decide))
            refine Go.iconst C (0 : Int32) d5_68 (q := 69) rfl rfl ?_
            refine Go.istoreR C d5_69 (q := 71) rfl (l' := #[.val (.int f0), .val (.int f1), .val (.int f2), .val (.int c), .val (.int i), .val (.int (0 : Int32))]) rfl ?_
            refine Go.iload C d5_71 (q := 73) rfl rfl ?_
            refine Go.retZ (t := .boolean) (by simp) C d5_73 (by decide) (by decide) ⟨?_, rfl⟩
            refine congrArg (fun z => some (Value.int z)) ?_
            show (0 : Int32) = f_fl f0 f1 f2 c i
            unfold f_fl
            rw [if_pos b1, if_pos b14, if_neg b28, if_pos b29, if_pos b30]
      ·
        have b28 := Classical.not_not.mp b28
        refine Go.iloadN C d5_30 (q := 31) rfl rfl ?_
        refine Go.iload C d5_31 (q := 33) rfl rfl ?_
        refine Go.icmp C d5_33 (n_ne _ _) (qt := 48) (q := 36) (by decide) (by decide) rfl (fun b32 => ?_) (fun b32 => ?_)
        ·
          refine Go.iloadN C d5_48 (q := 49) rfl rfl ?_
          refine Go.iconst C (2 : Int32) d5_49 (q := 50) rfl rfl ?_
          refine Go.icmp C d5_50 (n_le _ _) (qt := 71) (q := 53) (by decide) (by decide) rfl (fun b33 => ?_) (fun b33 => ?_)
          ·
            refine Go.iload C d5_71 (q := 73) rfl rfl ?_
            refine Go.retZ (t := .boolean) (by simp) C d5_73 (by decide) (by decide) ⟨?_, rfl⟩
            refine congrArg (fun z => some (Value.int z)) ?_
            show (1 : Int32) = f_fl f0 f1 f2 c i
            unfold f_fl
            rw [if_pos b1, if_pos b14, if_pos b28, if_neg b32, if_neg b33]
          ·
            have b33 := Classical.not_not.mp b33
            refine Go.iloadN C d5_53 (q := 54) rfl rfl ?_
            refine Go.iload C d5_54 (q := 56) rfl rfl ?_
            refine Go.icmp C d5_56 (n_ne _ _) (qt := 71) (q := 59) (by decide) (by decide) rfl (fun b34 => ?_) (fun b34 => ?_)
            ·
              refine Go.iload C d5_71 (q := 73) rfl rfl ?_
              refine Go.retZ (t := .boolean) (by simp) C d5_73 (by decide) (by decide) ⟨?_, rfl⟩
              refine congrArg (fun z => some (Value.int z)) ?_
              show (1 : Int32) = f_fl f0 f1 f2 c i
              unfold f_fl
              rw [if_pos b1, if_pos b14, if_pos b28, if_neg b32, if_pos b33, if_neg b34]
            ·
              have b34 := Classical.not_not.mp b34
              refine Go.iload C d5_59 (q := 61) rfl rfl ?_
              refine Go.if0 C d5_61 (z_ne _) (qt := 68) (q := 64) (by decide) (by decide) rfl (fun _ => ?_) (fun b35 => absurd b35 (by decide))
              refine Go.iconst C (0 : Int32) d5_68 (q := 69) rfl rfl ?_
              refine Go.istoreR C d5_69 (q := 71) rfl (l' := #[.val (.int f0), .val (.int f1), .val (.int f2), .val (.int c), .val (.int i), .val (.int (0 : Int32))]) rfl ?_
              refine Go.iload C d5_71 (q := 73) rfl rfl ?_
              refine Go.retZ (t := .boolean) (by simp) C d5_73 (by decide) (by decide) ⟨?_, rfl⟩
              refine congrArg (fun z => some (Value.int z)) ?_
              show (0 : Int32) = f_fl f0 f1 f2 c i
              unfold f_fl
              rw [if_pos b1, if_pos b14, if_pos b28, if_neg b32, if_pos b33, if_pos b34]
        ·
          have b32 := Classical.not_not.mp b32
          refine Go.iload C d5_36 (q := 38) rfl rfl ?_
          refine Go.if0 C d5_38 (z_ne _) (qt := 45) (q := 41) (by decide) (by decide) rfl (fun _ => ?_) (fun b36 => absurd b36 (by decide))
          refine Go.iconst C (0 : Int32) d5_45 (q := 46) rfl rfl ?_
          refine Go.istoreR C d5_46 (q := 48) rfl (l' := #[.val (.int f0), .val (.int f1), .val (.int f2), .val (.int c), .val (.int i), .val (.int (0 : Int32))]) rfl ?_
          refine Go.iloadN C d5_48 (q := 49) rfl rfl ?_
          refine Go.iconst C (2 : Int32) d5_49 (q := 50) rfl rfl ?_
          refine Go.icmp C d5_50 (n_le _ _) (qt := 71) (q := 53) (by decide) (by decide) rfl (fun b37 => ?_) (fun b37 => ?_)
          ·
            refine Go.iload C d5_71 (q := 73) rfl rfl ?_
            refine Go.retZ (t := .boolean) (by simp) C d5_73 (by decide) (by decide) ⟨?_, rfl⟩
            refine congrArg (fun z => some (Value.int z)) ?_
            show (0 : Int32) = f_fl f0 f1 f2 c i
            unfold f_fl
            rw [if_pos b1, if_pos b14, if_pos b28, if_pos b32, if_neg b37]
          ·
            have b37 := Classical.not_not.mp b37
            refine Go.iloadN C d5_53 (q := 54) rfl rfl ?_
            refine Go.iload C d5_54 (q := 56) rfl rfl ?_
            refine Go.icmp C d5_56 (n_ne _ _) (qt := 71) (q := 59) (by decide) (by decide) rfl (fun b38 => ?_) (fun b38 => ?_)
            ·
              refine Go.iload C d5_71 (q := 73) rfl rfl ?_
              refine Go.retZ (t := .boolean) (by simp) C d5_73 (by decide) (by decide) ⟨?_, rfl⟩
              refine congrArg (fun z => some (Value.int z)) ?_
              show (0 : Int32) = f_fl f0 f1 f2 c i
              unfold f_fl
              rw [if_pos b1, if_pos b14, if_pos b28, if_pos b32, if_pos b37, if_neg b38]
            ·
              have b38 := Classical.not_not.mp b38
              refine Go.iload C d5_59 (q := 61) rfl rfl ?_
              refine Go.if0 C d5_61 (z_ne _) (qt := 68) (q := 64) (by decide) (by decide) rfl (fun b39 => absurd b39 (by decide)) (fun _ => ?_)
              refine Go.iconst C (1 : Int32) d5_64 (q := 65) rfl rfl ?_
              refine Go.goto C d5_65 (q := 69) (by decide) (by decide) ?_
              refine Go.istoreR C d5_69 (q := 71) rfl (l' := #[.val (.int f0), .val (.int f1), .val (.int f2), .val (.int c), .val (.int i), .val (.int (1 : Int32))]) rfl ?_
              refine Go.iload C d5_71 (q := 73) rfl rfl ?_
              refine Go.retZ (t := .boolean) (by simp) C d5_73 (by decide) (by decide) ⟨?_, rfl⟩
              refine congrArg (fun z => some (Value.int z)) ?_
              show (1 : Int32) = f_fl f0 f1 f2 c i
              unfold f_fl
              rw [if_pos b1, if_pos b14, if_pos b28, if_pos b32, if_pos b37, if_pos b38]
set_option maxRecDepth 65536 in
theorem c_init (l : Launch) (Z : State) (a0 : Array Value) (hw : ∀ d ∈ tables_1, d.before a0 Z = true) (a : Addr) (z : Int32) (x : Addr) (y : Addr) (h0 : Heap) (n0 : Nat) (u0 : Value) (u1 : Value) (u2 : Value) (Z0 : n0 ≤ h0.size) (E0 : Exa Z h0 a "com/example/paretoloom/paretoloom/mnk/Trail") (g0 : n0 ≤ a) (G0 : Fld Z h0 a "com/example/paretoloom/paretoloom/mnk/Trail" "bits" "I" u0) (G1 : Fld Z h0 a "com/example/paretoloom/paretoloom/mnk/Trail" "base" "[J" u1) (G2 : Fld Z h0 a "com/example/paretoloom/paretoloom/mnk/Trail" "flips" "[I" u2) : Met1 l Z (⟨"com/example/paretoloom/paretoloom/mnk/Trail", "<init>", "(I[J[I)V"⟩ : MethodName) prog_60_method_1_code 4 none [] ({ frames := 1, cells := 0, slots := 0, locals := 12 } : Room) #[(.ref a), (.int z), (.ref x), (.ref y)] h0 n0 (fun v h => v = none ∧ Keep h0 h [a] ∧ Fld Z h a "com/example/paretoloom/paretoloom/mnk/Trail" "bits" "I" (.int z) ∧ Fld Z h a "com/example/paretoloom/paretoloom/mnk/Trail" "base" "[J" (.ref x) ∧ Fld Z h a "com/example/paretoloom/paretoloom/mnk/Trail" "flips" "[I" (.ref y)) := by
  refine met_of_go (plainFor_of_name pn_com_example_paretoloom_paretoloom_mnk_Trail) (fun m => ef_1 m a z x y) ?_
  intro W hl C
  subst hl
  refine Go.aloadN C d1_0 (q := 1) rfl rfl rfl ?_
  refine Go.initO C (hw _ (List.mem_of_getElem? (i := 9) rfl)) (hw _ (List.mem_of_getElem? (i := 10) rfl)) (hw _ (List.mem_of_getElem? (i := 11) rfl)) d1_1 (q := 4) rfl rfl (w := 0) rfl (by decide) (by decide) ?_
  refine Go.aloadN C d1_4 (q := 5) rfl rfl rfl ?_
  refine Go.iloadN C d1_5 (q := 6) rfl rfl ?_
  refine Go.putF C (host := "") (Or.inl (hw _ (List.mem_of_getElem? (i := 12) rfl))) Via.refl G0 E0 (Or.inr ⟨(hw _ (List.mem_of_getElem? (i := 13) rfl)), rfl, rfl⟩) (hw _ (List.mem_of_getElem? (i := 4) rfl)) (ty := .int) (by decide) rfl rfl g0 d1_6 (q := 9) rfl ?_
  intro h1 W2
  have F3 := G0.same W2
  refine Go.aloadN C d1_9 (q := 10) rfl rfl rfl ?_
  refine Go.aloadN C d1_10 (q := 11) rfl rfl rfl ?_
  have F4 := (G1.other W2 (Or.inr (slot_ne (Or.inr (hw _ (List.mem_of_getElem? (i := 15) rfl))) (Or.inr (hw _ (List.mem_of_getElem? (i := 13) rfl))) (by decide) (t := (.array .long)) (t' := .int) (by decide) (by decide))))
  have F5 := (E0.wr W2)
  refine Go.putF C (host := "") (Or.inl (hw _ (List.mem_of_getElem? (i := 14) rfl))) Via.refl F4 F5 (Or.inr ⟨(hw _ (List.mem_of_getElem? (i := 15) rfl)), rfl, rfl⟩) (hw _ (List.mem_of_getElem? (i := 4) rfl)) (ty := (.array .long)) (by decide) rfl rfl g0 d1_11 (q := 14) rfl ?_
  intro h6 W7
  have F8 := F4.same W7
  refine Go.aloadN C d1_14 (q := 15) rfl rfl rfl ?_
  refine Go.aloadN C d1_15 (q := 16) rfl rfl rfl ?_
  have F9 := ((G2.other W2 (Or.inr (slot_ne (Or.inr (hw _ (List.mem_of_getElem? (i := 17) rfl))) (Or.inr (hw _ (List.mem_of_getElem? (i := 13) rfl))) (by decide) (t := (.array .int)) (t' := .int) (by decide) (by decide)))).other W7 (Or.inr (slot_ne (Or.inr (hw _ (List.mem_of_getElem? (i := 17) rfl))) (Or.inr (hw _ (List.mem_of_getElem? (i := 15) rfl))) (by decide) (t := (.array .int)) (t' := (.array .long)) (by decide) (by decide))))
  have F10 := (F5.wr W7)
  refine Go.putF C (host := "") (Or.inl (hw _ (List.mem_of_getElem? (i := 16) rfl))) Via.refl F9 F10 (Or.inr ⟨(hw _ (List.mem_of_getElem? (i := 17) rfl)), rfl, rfl⟩) (hw _ (List.mem_of_getElem? (i := 4) rfl)) (ty := (.array .int)) (by decide) rfl rfl g0 d1_16 (q := 19) rfl ?_
  intro h11 W12
  have F13 := F9.same W12
  have F14 := ((F3.other W7 (Or.inr (slot_ne (Or.inr (hw _ (List.mem_of_getElem? (i := 13) rfl))) (Or.inr (hw _ (List.mem_of_getElem? (i := 15) rfl))) (by decide) (t := .int) (t' := (.array .long)) (by decide) (by decide)))).other W12 (Or.inr (slot_ne (Or.inr (hw _ (List.mem_of_getElem? (i := 13) rfl))) (Or.inr (hw _ (List.mem_of_getElem? (i := 17) rfl))) (by decide) (t := .int) (t' := (.array .int)) (by decide) (by decide))))
  have F15 := (F8.other W12 (Or.inr (slot_ne (Or.inr (hw _ (List.mem_of_getElem? (i := 15) rfl))) (Or.inr (hw _ (List.mem_of_getElem? (i := 17) rfl))) (by decide) (t := (.array .long)) (t' := (.array .int)) (by decide) (by decide))))
  exact Go.retV C d1_19 (by decide) (by decide) ⟨rfl, ((((Keep.refl h0 [a]).wr W2 (Or.inl (List.mem_of_getElem? (i := 0) rfl))).wr W7 (Or.inl (List.mem_of_getElem? (i := 0) rfl))).wr W12 (Or.inl (List.mem_of_getElem? (i := 0) rfl))), F14, F15, F13⟩
def own_ix (f : Int32) : Nat := ((f.toUInt32 >>> ((6 : Int32) &&& 31).toUInt32).toInt32).toNatClampNeg
def own_flip (w : Nat → Int64) (f : Int32) : Nat → Int64 := upd w (own_ix f) ((w (own_ix f)) ^^^ ((1 : Int64) <<< (f &&& 0x3f).toInt64))
def own_bv (w : Nat → Int64) (j : Nat) : Int32 := nar .boolean (if ((((w (j / 64)).toUInt64 >>> ((Int32.ofNat j) &&& 0x3f).toInt64.toUInt64).toInt64) &&& (1 : Int64)) = (0 : Int64) then (0 : Int32) else (1 : Int32))
theorem own_ixs : ∀ i : Fin 192, ((((Int32.ofNat i.val).toUInt32 >>> ((6 : Int32) &&& 31).toUInt32).toInt32).toNatClampNeg = i.val / 64) ∧ ¬ (((Int32.ofNat i.val).toUInt32 >>> ((6 : Int32) &&& 31).toUInt32).toInt32) < 0 ∧ i.val / 64 < 3 := by decide +kernel
theorem own_of (f : Int32) (n : Nat) (h0 : ¬ f < 0) (hn : f.toNatClampNeg < n) (hn2 : n ≤ 192) : ∃ i : Fin 192, f = Int32.ofNat i.val ∧ i.val = f.toNatClampNeg := by
  have e : f.toNatClampNeg = f.toInt.toNat := rfl
  rw [Int32.lt_iff_toInt_lt] at h0
  have e0 : (0 : Int32).toInt = 0 := rfl
  refine ⟨⟨f.toNatClampNeg, by omega⟩, ?_, rfl⟩
  apply Int32.toInt_inj.mp
  rw [Int32.toInt_ofNat_small (by simp only []; omega)]
  simp only []
  omega
theorem own_ixb (f : Int32) (h0 : ¬ f < 0) (hn : f.toNatClampNeg < 192) : ¬ ((f.toUInt32 >>> ((6 : Int32) &&& 31).toUInt32).toInt32) < 0 ∧ ((f.toUInt32 >>> ((6 : Int32) &&& 31).toUInt32).toInt32).toNatClampNeg < 3 := by
  obtain ⟨i, e, -⟩ := own_of f 192 h0 hn (Nat.le_refl _)
  obtain ⟨a, b, c⟩ := own_ixs i
  rw [e]
  exact ⟨b, a ▸ c⟩
theorem own_inat (i : Nat) (h : i < 192) : ¬ (Int32.ofNat i) < 0 ∧ (Int32.ofNat i).toNatClampNeg = i := by
  have e := @Int32.toInt_ofNat_small i (by omega)
  refine ⟨fun q => ?_, ?_⟩
  · rw [Int32.lt_iff_toInt_lt, e] at q
    have e0 : (0 : Int32).toInt = 0 := rfl
    omega
  · show (Int32.ofNat i).toInt.toNat = i
    rw [e]; omega
theorem own_ilt (i : Nat) (z : Int32) (hz : ¬ z < 0) (h : i < z.toNatClampNeg) (hb : z.toNatClampNeg ≤ 192) : Int32.ofNat i < z := by
  rw [Int32.lt_iff_toInt_lt, Int32.toInt_ofNat_small (by omega)]
  have e : z.toNatClampNeg = z.toInt.toNat := rfl
  omega
theorem own_ige (i : Nat) (z : Int32) (hz : ¬ z < 0) (h : i = z.toNatClampNeg) (hb : z.toNatClampNeg ≤ 192) : ¬ Int32.ofNat i < z := by
  rw [Int32.lt_iff_toInt_lt, Int32.toInt_ofNat_small (by omega)]
  have e : z.toNatClampNeg = z.toInt.toNat := rfl
  rw [Int32.lt_iff_toInt_lt] at hz
  have e0 : (0 : Int32).toInt = 0 := rfl
  omega
theorem own_succ (i : Nat) (h : i < 192) : Int32.ofNat i + (1 : Int32) = Int32.ofNat (i + 1) := by
  apply Int32.toInt_inj.mp
  have c := c_iadd (Int32.ofNat i) 1
  have r := rng32 (Int32.ofNat i + 1)
  rw [Int32.toInt_ofNat_small (by omega)] at c ⊢
  have e1 : (1 : Int32).toInt = 1 := rfl
  omega
theorem own_step (g : Nat → Int32) (wf : Nat → Int64) (i j : Nat) (x : Int32) (hg : ∀ j, j < i → g j = own_bv wf j) (hj : j < i + 1) (hx : x = (if ((((wf (i / 64)).toUInt64 >>> ((Int32.ofNat i) &&& 0x3f).toInt64.toUInt64).toInt64) &&& (1 : Int64)) = (0 : Int64) then (0 : Int32) else (1 : Int32))) : upd g i (nar .boolean x) j = own_bv wf j := by
  by_cases e : j = i
  · rw [e, upd_eq, hx]; rfl
  · rw [upd_ne _ _ e]; exact hg j (by omega)
set_option maxRecDepth 65536 in
theorem lp_string (Z : State) (a0 : Array Value) (hw : ∀ d ∈ tables_1, d.before a0 Z = true) (W : Wk) (rm : Room) (C : Cx Z W rm "com/example/paretoloom/paretoloom/mnk/Trail" "string" prog_60_method_2_code 5 (some (.array .boolean))) (h0 : Heap) (n0 k n : Nat) (Q : Option Value → Heap → Prop) (a w b : Addr) (cnt z : Int32) (wf : Nat → Int64) (hk : k ≤ rm.cells) (hn : n ≤ rm.slots) (hz : ¬ z < 0) (hz2 : z.toNatClampNeg ≤ 192) (nwb : w ≠ b) (nab : a ≠ b) (gb : n0 ≤ b) (yb : h0.size ≤ b) (hQ : ∀ h' g, Keep h0 h' [] → Av Z h' b .boolean z.toNatClampNeg (iF g) → (∀ j, j < z.toNatClampNeg → g j = own_bv wf j) → Q (some (.ref b)) h') :
    ∀ (r i : Nat) (h : Heap) (g : Nat → Int32) (hir : i + r = z.toNatClampNeg) (Kp : Keep h0 h []) (G0 : Fld Z h a "com/example/paretoloom/paretoloom/mnk/Trail" "bits" "I" (.int z)) (Aw : Av Z h w .long 3 (jF wf)) (Ab : Av Z h b .boolean z.toNatClampNeg (iF g)) (hg : ∀ j, j < i → g j = own_bv wf j), Go W n0 Q h k n 56 #[.val (.ref a), .val (.int cnt), .val (.ref w), .val (.ref b), .val (.int (Int32.ofNat i))] [] := by
  intro r
  induction r with
  | zero =>
    intro i h g hir Kp G0 Aw Ab hg
    have hlt := own_ige i z hz (by omega) hz2
    refine Go.iload C d3_56 (q := 58) rfl rfl ?_
    refine Go.aloadN C d3_58 (q := 59) rfl rfl rfl ?_
    refine Go.getF C (host := "") (Or.inl (hw _ (List.mem_of_getElem? (i := 12) rfl))) Via.refl G0 d3_59 (q := 62) rfl ?_
    refine Go.icmp C d3_62 (n_ge _ _) (qt := 97) (q := 65) (by decide) (by decide) rfl (fun _ => ?_) (fun b1 => absurd hlt b1)
    refine Go.aloadN C d3_97 (q := 98) rfl rfl rfl ?_
    exact Go.retR C d3_98 rfl rfl rfl hk hn (hQ _ _ Kp Ab (fun j hj => hg j (by omega)))
  | succ r ih =>
    intro i h g hir Kp G0 Aw Ab hg
    have hlt := own_ilt i z hz (by omega) hz2
    refine Go.iload C d3_56 (q := 58) rfl rfl ?_
    refine Go.aloadN C d3_58 (q := 59) rfl rfl rfl ?_
    refine Go.getF C (host := "") (Or.inl (hw _ (List.mem_of_getElem? (i := 12) rfl))) Via.refl G0 d3_59 (q := 62) rfl ?_
    refine Go.icmp C d3_62 (n_ge _ _) (qt := 97) (q := 65) (by decide) (by decide) rfl (fun b2 => absurd hlt b2) (fun _ => ?_)
    refine Go.aloadN C d3_65 (q := 66) rfl rfl rfl ?_
    refine Go.iload C d3_66 (q := 68) rfl rfl ?_
    refine Go.aloadN C d3_68 (q := 69) rfl rfl rfl ?_
    refine Go.iload C d3_69 (q := 71) rfl rfl ?_
    refine Go.bipush C (6 : Int32) d3_71 (q := 73) rfl rfl ?_
    refine Go.iushr C d3_73 (q := 74) rfl ?_
    refine Go.laload C Aw (i / 64) (v := (.long (wf (i / 64)))) (own_ixs ⟨i, by omega⟩).1 (own_ixs ⟨i, by omega⟩).2.1 (own_ixs ⟨i, by omega⟩).2.2 rfl d3_74 (q := 75) rfl ?_
    refine Go.iload C d3_75 (q := 77) rfl rfl ?_
    refine Go.lushr C d3_77 (q := 78) rfl ?_
    refine Go.lconst C (1 : Int64) d3_78 (q := 79) rfl rfl ?_
    refine Go.land C d3_79 (q := 80) rfl ?_
    refine Go.lconst C (0 : Int64) d3_80 (q := 81) rfl rfl ?_
    refine Go.lcmp C d3_81 (q := 82) rfl ?_
    suffices J4 : ∀ v3 : Int32, v3 = (if ((((wf (i / 64)).toUInt64 >>> ((Int32.ofNat i) &&& 0x3f).toInt64.toUInt64).toInt64) &&& (1 : Int64)) = (0 : Int64) then (0 : Int32) else (1 : Int32)) → Go W n0 Q h k n 90 #[.val (.ref a), .val (.int cnt), .val (.ref w), .val (.ref b), .val (.int (Int32.ofNat i))] [(.int v3), (.int (Int32.ofNat i)), (.ref b)] by
      refine Go.if0 C d3_82 (l_eq _ _) (qt := 89) (q := 85) (by decide) (by decide) rfl (fun b5 => ?_) (fun b5 => ?_)
      ·
        refine Go.iconst C (0 : Int32) d3_89 (q := 90) rfl rfl ?_
        exact J4 _ (by rw [if_pos b5])
      ·
        refine Go.iconst C (1 : Int32) d3_85 (q := 86) rfl rfl ?_
        refine Go.goto C d3_86 (q := 90) (by decide) (by decide) ?_
        exact J4 _ (by rw [if_neg b5])
    intro v3 hv3
    refine Go.zastore C Ab i (own_inat i (by omega)).2 (own_inat i (by omega)).1 (by omega) gb d3_90 (q := 91) rfl ?_
    intro h6 W7
    have F8 := Ab.sameI W7
    refine Go.iinc C d3_91 (q := 94) rfl rfl (y := (1 : Int32)) rfl (fun z => #[.val (.ref a), .val (.int cnt), .val (.ref w), .val (.ref b), .val (.int z)]) (fun _ => rfl) ?_
    intro v9 hv9
    refine Go.goto C d3_94 (q := 56) (by decide) (by decide) ?_
    have e5 : v9 = Int32.ofNat (i + 1) := hv9.trans (own_succ i (by omega))
    rw [e5]
    have F10 := (G0.other W7 (Or.inl nab))
    have F11 := (Aw.other W7 nwb)
    exact ih (i + 1) h6 (upd g i (nar .boolean v3)) (by omega) (Kp.wr W7 (Or.inr yb)) F10 F11 F8 (fun j hj => own_step g wf i j _ hg hj hv3)
set_option maxRecDepth 65536 in
theorem c_str0 (l : Launch) (Z : State) (a0 : Array Value) (hw : ∀ d ∈ tables_1, d.before a0 Z = true) (a : Addr) (h0 : Heap) (n0 : Nat) (x y : Addr) (z : Int32) (bs : Nat → Int64) (fl : Nat → Int32) (Z0 : n0 ≤ h0.size) (G_bits : Fld Z h0 a "com/example/paretoloom/paretoloom/mnk/Trail" "bits" "I" (.int z)) (G_base : Fld Z h0 a "com/example/paretoloom/paretoloom/mnk/Trail" "base" "[J" (.ref x)) (G_flips : Fld Z h0 a "com/example/paretoloom/paretoloom/mnk/Trail" "flips" "[I" (.ref y)) (Ax : Av Z h0 x .long 3 (jF bs)) (Ex : Exa Z h0 x "[J") (Ay : Av Z h0 y .int 3 (iF fl)) (hz : ¬ z < 0) (hz2 : z.toNatClampNeg ≤ 192) (hfl : ∀ j, ¬ fl j < 0 ∧ (fl j).toNatClampNeg < 192) : Met1 l Z (⟨"com/example/paretoloom/paretoloom/mnk/Trail", "string", "(I)[Z"⟩ : MethodName) prog_60_method_2_code 5 (some (.array .boolean)) [] ({ frames := 1, cells := 2, slots := 195, locals := 14 } : Room) #[(.ref a), (.int (0 : Int32))] h0 n0 (fun v h => ∃ b : Addr, v = some (.ref b) ∧ Keep h0 h [] ∧ n0 ≤ b ∧ h0.size ≤ b ∧ Av Z h b .boolean z.toNatClampNeg (iF (own_bv bs))) := by
  refine met_of_go (plainFor_of_name pn_com_example_paretoloom_paretoloom_mnk_Trail) (fun m => ef_3_l1_0Int32 m a) ?_
  intro W hl C
  subst hl
  refine Go.aloadN C d3_0 (q := 1) rfl rfl rfl ?_
  refine Go.getF C (host := "") (Or.inl (hw _ (List.mem_of_getElem? (i := 14) rfl))) Via.refl G_base d3_1 (q := 4) rfl ?_
  refine Go.clone C (ad := "[J") (hw _ (List.mem_of_getElem? (i := 23) rfl)) (hw _ (List.mem_of_getElem? (i := 24) rfl)) (hw _ (List.mem_of_getElem? (i := 28) rfl)) (hw _ (List.mem_of_getElem? (i := 26) rfl)) (hw _ (List.mem_of_getElem? (i := 27) rfl)) (hw _ (List.mem_of_getElem? (i := 29) rfl)) Ax Ex (fun _ _ => rfl) d3_4 (q := 7) rfl rfl (wt := 0) rfl (by decide) (by decide) (cap := 3) rfl (k' := 1) rfl (n' := 3) rfl (by decide) (by decide) ?_
  intro h1 a2 g3 E4 F5 E6
  have g7 : n0 ≤ a2 := g3 ▸ Z0
  have y8 : h0.size ≤ a2 := g3 ▸ (Nat.le_refl h0.size)
  have ne9 : a ≠ a2 := Nat.ne_of_lt (g3 ▸ G_bits.lt)
  have ne10 : x ≠ a2 := Nat.ne_of_lt (g3 ▸ Ax.lt)
  have ne11 : y ≠ a2 := Nat.ne_of_lt (g3 ▸ Ay.lt)
  refine Go.cast C (hw _ (List.mem_of_getElem? (i := 30) rfl)) (Ins.self E6) d3_7 (q := 10) rfl ?_
  refine Go.astoreN C d3_10 (q := 11) rfl (l' := #[.val (.ref a), .val (.int (0 : Int32)), .val (.ref a2), .unset, .unset]) rfl rfl ?_
  refine Go.iconst C (0 : Int32) d3_11 (q := 12) rfl rfl ?_
  refine Go.istoreNR C d3_12 (q := 13) rfl (l' := #[.val (.ref a), .val (.int (0 : Int32)), .val (.ref a2), .val (.int (0 : Int32)), .unset]) rfl ?_
  refine Go.iloadN C d3_13 (q := 14) rfl rfl ?_
  refine Go.iloadN C d3_14 (q := 15) rfl rfl ?_
  refine Go.icmp C d3_15 (n_ge _ _) (qt := 46) (q := 18) (by decide) (by decide) rfl (fun _ => ?_) (fun b12 => absurd b12 (by decide))
  refine Go.aloadN C d3_46 (q := 47) rfl rfl rfl ?_
  have F13 := (G_bits.ext E4)
  refine Go.getF C (host := "") (Or.inl (hw _ (List.mem_of_getElem? (i := 12) rfl))) Via.refl F13 d3_47 (q := 50) rfl ?_
  refine Go.newPE C (hw _ (List.mem_of_getElem? (i := 32) rfl)) hz (cap := 192) hz2 (by decide) d3_50 (q := 52) rfl (k' := 2) rfl (n' := 195) rfl (by decide) (by decide) (ad := "[Z") (by decide) ?_
  intro h14 a15 cA16 g17 E18 Fn19 E21
  have F22 := (Nat.le_trans Z0 E4.1)
  have g23 : n0 ≤ a15 := g17 ▸ F22
  have F25 := (Nat.le_trans (Nat.le_refl h0.size) E4.1)
  have y24 : h0.size ≤ a15 := g17 ▸ F25
  have ne26 : a ≠ a15 := Nat.ne_of_lt (g17 ▸ F13.lt)
  have F28 := (Ax.ext E4)
  have ne27 : x ≠ a15 := Nat.ne_of_lt (g17 ▸ F28.lt)
  have F30 := (Ay.ext E4)
  have ne29 : y ≠ a15 := Nat.ne_of_lt (g17 ▸ F30.lt)
  have ne31 : a2 ≠ a15 := Nat.ne_of_lt (g17 ▸ F5.lt)
  have F20 : Av Z h14 a15 .boolean (z.toNatClampNeg) (iF (fun _ => (0 : Int32))) := Av.of Fn19
  refine Go.astoreN C d3_52 (q := 53) rfl (l' := #[.val (.ref a), .val (.int (0 : Int32)), .val (.ref a2), .val (.ref a15), .unset]) rfl rfl ?_
  refine Go.iconst C (0 : Int32) d3_53 (q := 54) rfl rfl ?_
  refine Go.istoreR C d3_54 (q := 56) rfl (l' := #[.val (.ref a), .val (.int (0 : Int32)), .val (.ref a2), .val (.ref a15), .val (.int (0 : Int32))]) rfl ?_
  have F32 := (F13.ext E18)
  have F33 := (F5.ext E18)
  exact lp_string Z a0 hw W _ C h0 n0 _ _ _ a a2 a15 (0 : Int32) z bs (by decide) (by decide) hz hz2 ne31 ne26 g23 y24 (fun h' g K' A' e' => ⟨a15, rfl, K', g23, y24, A'.congr (fun i hi => congrArg Value.int (e' i hi))⟩) z.toNatClampNeg 0 h14 _ (by omega) (((Keep.refl h0 []).ext E4).ext E18) F32 F33 F20 (fun j hj => absurd hj (Nat.not_lt_zero j))
set_option maxRecDepth 65536 in
theorem c_str1 (l : Launch) (Z : State) (a0 : Array Value) (hw : ∀ d ∈ tables_1, d.before a0 Z = true) (a : Addr) (h0 : Heap) (n0 : Nat) (x y : Addr) (z : Int32) (bs : Nat → Int64) (fl : Nat → Int32) (Z0 : n0 ≤ h0.size) (G_bits : Fld Z h0 a "com/example/paretoloom/paretoloom/mnk/Trail" "bits" "I" (.int z)) (G_base : Fld Z h0 a "com/example/paretoloom/paretoloom/mnk/Trail" "base" "[J" (.ref x)) (G_flips : Fld Z h0 a "com/example/paretoloom/paretoloom/mnk/Trail" "flips" "[I" (.ref y)) (Ax : Av Z h0 x .long 3 (jF bs)) (Ex : Exa Z h0 x "[J") (Ay : Av Z h0 y .int 3 (iF fl)) (hz : ¬ z < 0) (hz2 : z.toNatClampNeg ≤ 192) (hfl : ∀ j, ¬ fl j < 0 ∧ (fl j).toNatClampNeg < 192) : Met1 l Z (⟨"com/example/paretoloom/paretoloom/mnk/Trail", "string", "(I)[Z"⟩ : MethodName) prog_60_method_2_code 5 (some (.array .boolean)) [] ({ frames := 1, cells := 2, slots := 195, locals := 14 } : Room) #[(.ref a), (.int (1 : Int32))] h0 n0 (fun v h => ∃ b : Addr, v = some (.ref b) ∧ Keep h0 h [] ∧ n0 ≤ b ∧ h0.size ≤ b ∧ Av Z h b .boolean z.toNatClampNeg (iF (own_bv (own_flip bs (fl 0))))) := by
  refine met_of_go (plainFor_of_name pn_com_example_paretoloom_paretoloom_mnk_Trail) (fun m => ef_3_l1_1Int32 m a) ?_
  intro W hl C
  subst hl
  refine Go.aloadN C d3_0 (q := 1) rfl rfl rfl ?_
  refine Go.getF C (host := "") (Or.inl (hw _ (List.mem_of_getElem? (i := 14) rfl))) Via.refl G_base d3_1 (q := 4) rfl ?_
  refine Go.clone C (ad := "[J") (hw _ (List.mem_of_getElem? (i := 23) rfl)) (hw _ (List.mem_of_getElem? (i := 24) rfl)) (hw _ (List.mem_of_getElem? (i := 28) rfl)) (hw _ (List.mem_of_getElem? (i := 26) rfl)) (hw _ (List.mem_of_getElem? (i := 27) rfl)) (hw _ (List.mem_of_getElem? (i := 29) rfl)) Ax Ex (fun _ _ => rfl) d3_4 (q := 7) rfl rfl (wt := 0) rfl (by decide) (by decide) (cap := 3) rfl (k' := 1) rfl (n' := 3) rfl (by decide) (by decide) ?_
  intro h1 a2 g3 E4 F5 E6
  have g7 : n0 ≤ a2 := g3 ▸ Z0
  have y8 : h0.size ≤ a2 := g3 ▸ (Nat.le_refl h0.size)
  have ne9 : a ≠ a2 := Nat.ne_of_lt (g3 ▸ G_bits.lt)
  have ne10 : x ≠ a2 := Nat.ne_of_lt (g3 ▸ Ax.lt)
  have ne11 : y ≠ a2 := Nat.ne_of_lt (g3 ▸ Ay.lt)
  refine Go.cast C (hw _ (List.mem_of_getElem? (i := 30) rfl)) (Ins.self E6) d3_7 (q := 10) rfl ?_
  refine Go.astoreN C d3_10 (q := 11) rfl (l' := #[.val (.ref a), .val (.int (1 : Int32)), .val (.ref a2), .unset, .unset]) rfl rfl ?_
  refine Go.iconst C (0 : Int32) d3_11 (q := 12) rfl rfl ?_
  refine Go.istoreNR C d3_12 (q := 13) rfl (l' := #[.val (.ref a), .val (.int (1 : Int32)), .val (.ref a2), .val (.int (0 : Int32)), .unset]) rfl ?_
  refine Go.iloadN C d3_13 (q := 14) rfl rfl ?_
  refine Go.iloadN C d3_14 (q := 15) rfl rfl ?_
  refine Go.icmp C d3_15 (n_ge _ _) (qt := 46) (q := 18) (by decide) (by decide) rfl (fun b12 => absurd b12 (by decide)) (fun _ => ?_)
  refine Go.aloadN C d3_18 (q := 19) rfl rfl rfl ?_
  have F13 := (G_flips.ext E4)
  refine Go.getF C (host := "") (Or.inl (hw _ (List.mem_of_getElem? (i := 16) rfl))) Via.refl F13 d3_19 (q := 22) rfl ?_
  refine Go.iloadN C d3_22 (q := 23) rfl rfl ?_
  have F14 := (Ay.ext E4)
  refine Go.iaload C F14 0 (v := (.int (fl 0))) (by decide) (by decide) (by decide) rfl d3_23 (q := 24) rfl ?_
  refine Go.istoreR C d3_24 (q := 26) rfl (l' := #[.val (.ref a), .val (.int (1 : Int32)), .val (.ref a2), .val (.int (0 : Int32)), .val (.int (fl 0))]) rfl ?_
  refine Go.aloadN C d3_26 (q := 27) rfl rfl rfl ?_
  refine Go.iload C d3_27 (q := 29) rfl rfl ?_
  refine Go.bipush C (6 : Int32) d3_29 (q := 31) rfl rfl ?_
  refine Go.iushr C d3_31 (q := 32) rfl ?_
  refine Go.dup2 C d3_32 (q := 33) rfl rfl rfl ?_
  refine Go.laload C F5 ((((fl 0).toUInt32 >>> ((6 : Int32) &&& 31).toUInt32).toInt32)).toNatClampNeg (v := (.long (bs ((((fl 0).toUInt32 >>> ((6 : Int32) &&& 31).toUInt32).toInt32)).toNatClampNeg))) rfl (own_ixb (fl 0) (hfl _).1 (hfl _).2).1 (own_ixb (fl 0) (hfl _).1 (hfl _).2).2 rfl d3_33 (q := 34) rfl ?_
  refine Go.lconst C (1 : Int64) d3_34 (q := 35) rfl rfl ?_
  refine Go.iload C d3_35 (q := 37) rfl rfl ?_
  refine Go.lshl C d3_37 (q := 38) rfl ?_
  refine Go.lxor C d3_38 (q := 39) rfl ?_
  refine Go.lastore C F5 ((((fl 0).toUInt32 >>> ((6 : Int32) &&& 31).toUInt32).toInt32)).toNatClampNeg rfl (own_ixb (fl 0) (hfl _).1 (hfl _).2).1 (own_ixb (fl 0) (hfl _).1 (hfl _).2).2 g7 d3_39 (q := 40) rfl ?_
  intro h15 W16
  have F17 := F5.sameJ W16
  refine Go.iincR C d3_40 (q := 43) rfl rfl (l' := #[.val (.ref a), .val (.int (1 : Int32)), .val (.ref a2), .val (.int (1 : Int32)), .val (.int (fl 0))]) rfl ?_
  refine Go.goto C d3_43 (q := 13) (by decide) (by decide) ?_
  refine Go.iloadN C d3_13 (q := 14) rfl rfl ?_
  refine Go.iloadN C d3_14 (q := 15) rfl rfl ?_
  refine Go.icmp C d3_15 (n_ge _ _) (qt := 46) (q := 18) (by decide) (by decide) rfl (fun _ => ?_) (fun b18 => absurd b18 (by decide))
  refine Go.aloadN C d3_46 (q := 47) rfl rfl rfl ?_
  have F19 := ((G_bits.ext E4).other W16 (Or.inl ne9))
  refine Go.getF C (host := "") (Or.inl (hw _ (List.mem_of_getElem? (i := 12) rfl))) Via.refl F19 d3_47 (q := 50) rfl ?_
  refine Go.newPE C (hw _ (List.mem_of_getElem? (i := 32) rfl)) hz (cap := 192) hz2 (by decide) d3_50 (q := 52) rfl (k' := 2) rfl (n' := 195) rfl (by decide) (by decide) (ad := "[Z") (by decide) ?_
  intro h20 a21 cA22 g23 E24 Fn25 E27
  have F28 := (Nat.le_trans (Nat.le_trans Z0 E4.1) (Nat.le_of_eq W16.size.symm))
  have g29 : n0 ≤ a21 := g23 ▸ F28
  have F31 := (Nat.le_trans (Nat.le_trans (Nat.le_refl h0.size) E4.1) (Nat.le_of_eq W16.size.symm))
  have y30 : h0.size ≤ a21 := g23 ▸ F31
  have ne32 : a ≠ a21 := Nat.ne_of_lt (g23 ▸ F19.lt)
  have F34 := ((Ax.ext E4).other W16 ne10)
  have ne33 : x ≠ a21 := Nat.ne_of_lt (g23 ▸ F34.lt)
  have F36 := (F14.other W16 ne11)
  have ne35 : y ≠ a21 := Nat.ne_of_lt (g23 ▸ F36.lt)
  have ne37 : a2 ≠ a21 := Nat.ne_of_lt (g23 ▸ F17.lt)
  have F26 : Av Z h20 a21 .boolean (z.toNatClampNeg) (iF (fun _ => (0 : Int32))) := Av.of Fn25
  refine Go.astoreN C d3_52 (q := 53) rfl (l' := #[.val (.ref a), .val (.int (1 : Int32)), .val (.ref a2), .val (.ref a21), .val (.int (fl 0))]) rfl rfl ?_
  refine Go.iconst C (0 : Int32) d3_53 (q := 54) rfl rfl ?_
  refine Go.istoreR C d3_54 (q := 56) rfl (l' := #[.val (.ref a), .val (.int (1 : Int32)), .val (.ref a2), .val (.ref a21), .val (.int (0 : Int32))]) rfl ?_
  have F38 := (F19.ext E24)
  have F39 := (F17.ext E24)
  exact lp_string Z a0 hw W _ C h0 n0 _ _ _ a a2 a21 (1 : Int32) z (own_flip bs (fl 0)) (by decide) (by decide) hz hz2 ne37 ne32 g29 y30 (fun h' g K' A' e' => ⟨a21, rfl, K', g29, y30, A'.congr (fun i hi => congrArg Value.int (e' i hi))⟩) z.toNatClampNeg 0 h20 _ (by omega) ((((Keep.refl h0 []).ext E4).wr W16 (Or.inr y8)).ext E24) F38 F39 F26 (fun j hj => absurd hj (Nat.not_lt_zero j))
set_option maxRecDepth 65536 in
theorem c_str2 (l : Launch) (Z : State) (a0 : Array Value) (hw : ∀ d ∈ tables_1, d.before a0 Z = true) (a : Addr) (h0 : Heap) (n0 : Nat) (x y : Addr) (z : Int32) (bs : Nat → Int64) (fl : Nat → Int32) (Z0 : n0 ≤ h0.size) (G_bits : Fld Z h0 a "com/example/paretoloom/paretoloom/mnk/Trail" "bits" "I" (.int z)) (G_base : Fld Z h0 a "com/example/paretoloom/paretoloom/mnk/Trail" "base" "[J" (.ref x)) (G_flips : Fld Z h0 a "com/example/paretoloom/paretoloom/mnk/Trail" "flips" "[I" (.ref y)) (Ax : Av Z h0 x .long 3 (jF bs)) (Ex : Exa Z h0 x "[J") (Ay : Av Z h0 y .int 3 (iF fl)) (hz : ¬ z < 0) (hz2 : z.toNatClampNeg ≤ 192) (hfl : ∀ j, ¬ fl j < 0 ∧ (fl j).toNatClampNeg < 192) : Met1 l Z (⟨"com/example/paretoloom/paretoloom/mnk/Trail", "string", "(I)[Z"⟩ : MethodName) prog_60_method_2_code 5 (some (.array .boolean)) [] ({ frames := 1, cells := 2, slots := 195, locals := 14 } : Room) #[(.ref a), (.int (2 : Int32))] h0 n0 (fun v h => ∃ b : Addr, v = some (.ref b) ∧ Keep h0 h [] ∧ n0 ≤ b ∧ h0.size ≤ b ∧ Av Z h b .boolean z.toNatClampNeg (iF (own_bv (own_flip (own_flip bs (fl 0)) (fl 1))))) := by
  refine met_of_go (plainFor_of_name pn_com_example_paretoloom_paretoloom_mnk_Trail) (fun m => ef_3_l1_2Int32 m a) ?_
  intro W hl C
  subst hl
  refine Go.aloadN C d3_0 (q := 1) rfl rfl rfl ?_
  refine Go.getF C (host := "") (Or.inl (hw _ (List.mem_of_getElem? (i := 14) rfl))) Via.refl G_base d3_1 (q := 4) rfl ?_
  refine Go.clone C (ad := "[J") (hw _ (List.mem_of_getElem? (i := 23) rfl)) (hw _ (List.mem_of_getElem? (i := 24) rfl)) (hw _ (List.mem_of_getElem? (i := 28) rfl)) (hw _ (List.mem_of_getElem? (i := 26) rfl)) (hw _ (List.mem_of_getElem? (i := 27) rfl)) (hw _ (List.mem_of_getElem? (i := 29) rfl)) Ax Ex (fun _ _ => rfl) d3_4 (q := 7) rfl rfl (wt := 0) rfl (by decide) (by decide) (cap := 3) rfl (k' := 1) rfl (n' := 3) rfl (by decide) (by decide) ?_
  intro h1 a2 g3 E4 F5 E6
  have g7 : n0 ≤ a2 := g3 ▸ Z0
  have y8 : h0.size ≤ a2 := g3 ▸ (Nat.le_refl h0.size)
  have ne9 : a ≠ a2 := Nat.ne_of_lt (g3 ▸ G_bits.lt)
  have ne10 : x ≠ a2 := Nat.ne_of_lt (g3 ▸ Ax.lt)
  have ne11 : y ≠ a2 := Nat.ne_of_lt (g3 ▸ Ay.lt)
  refine Go.cast C (hw _ (List.mem_of_getElem? (i := 30) rfl)) (Ins.self E6) d3_7 (q := 10) rfl ?_
  refine Go.astoreN C d3_10 (q := 11) rfl (l' := #[.val (.ref a), .val (.int (2 : Int32)), .val (.ref a2), .unset, .unset]) rfl rfl ?_
  refine Go.iconst C (0 : Int32) d3_11 (q := 12) rfl rfl ?_
  refine Go.istoreNR C d3_12 (q := 13) rfl (l' := #[.val (.ref a), .val (.int (2 : Int32)), .val (.ref a2), .val (.int (0 : Int32)), .unset]) rfl ?_
  refine Go.iloadN C d3_13 (q := 14) rfl rfl ?_
  refine Go.iloadN C d3_14 (q := 15) rfl rfl ?_
  refine Go.icmp C d3_15 (n_ge _ _) (qt := 46) (q := 18) (by decide) (by decide) rfl (fun b12 => absurd b12 (by decide)) (fun _ => ?_)
  refine Go.aloadN C d3_18 (q := 19) rfl rfl rfl ?_
  have F13 := (G_flips.ext E4)
  refine Go.getF C (host := "") (Or.inl (hw _ (List.mem_of_getElem? (i := 16) rfl))) Via.refl F13 d3_19 (q := 22) rfl ?_
  refine Go.iloadN C d3_22 (q := 23) rfl rfl ?_
  have F14 := (Ay.ext E4)
  refine Go.iaload C F14 0 (v := (.int (fl 0))) (by decide) (by decide) (by decide) rfl d3_23 (q := 24) rfl ?_
  refine Go.istoreR C d3_24 (q := 26) rfl (l' := #[.val (.ref a), .val (.int (2 : Int32)), .val (.ref a2), .val (.int (0 : Int32)), .val (.int (fl 0))]) rfl ?_
  refine Go.aloadN C d3_26 (q := 27) rfl rfl rfl ?_
  refine Go.iload C d3_27 (q := 29) rfl rfl ?_
  refine Go.bipush C (6 : Int32) d3_29 (q := 31) rfl rfl ?_
  refine Go.iushr C d3_31 (q := 32) rfl ?_
  refine Go.dup2 C d3_32 (q := 33) rfl rfl rfl ?_
  refine Go.laload C F5 ((((fl 0).toUInt32 >>> ((6 : Int32) &&& 31).toUInt32).toInt32)).toNatClampNeg (v := (.long (bs ((((fl 0).toUInt32 >>> ((6 : Int32) &&& 31).toUInt32).toInt32)).toNatClampNeg))) rfl (own_ixb (fl 0) (hfl _).1 (hfl _).2).1 (own_ixb (fl 0) (hfl _).1 (hfl _).2).2 rfl d3_33 (q := 34) rfl ?_
  refine Go.lconst C (1 : Int64) d3_34 (q := 35) rfl rfl ?_
  refine Go.iload C d3_35 (q := 37) rfl rfl ?_
  refine Go.lshl C d3_37 (q := 38) rfl ?_
  refine Go.lxor C d3_38 (q := 39) rfl ?_
  refine Go.lastore C F5 ((((fl 0).toUInt32 >>> ((6 : Int32) &&& 31).toUInt32).toInt32)).toNatClampNeg rfl (own_ixb (fl 0) (hfl _).1 (hfl _).2).1 (own_ixb (fl 0) (hfl _).1 (hfl _).2).2 g7 d3_39 (q := 40) rfl ?_
  intro h15 W16
  have F17 := F5.sameJ W16
  refine Go.iincR C d3_40 (q := 43) rfl rfl (l' := #[.val (.ref a), .val (.int (2 : Int32)), .val (.ref a2), .val (.int (1 : Int32)), .val (.int (fl 0))]) rfl ?_
  refine Go.goto C d3_43 (q := 13) (by decide) (by decide) ?_
  refine Go.iloadN C d3_13 (q := 14) rfl rfl ?_
  refine Go.iloadN C d3_14 (q := 15) rfl rfl ?_
  refine Go.icmp C d3_15 (n_ge _ _) (qt := 46) (q := 18) (by decide) (by decide) rfl (fun b18 => absurd b18 (by decide)) (fun _ => ?_)
  refine Go.aloadN C d3_18 (q := 19) rfl rfl rfl ?_
  have F19 := (F13.other W16 (Or.inl ne9))
  refine Go.getF C (host := "") (Or.inl (hw _ (List.mem_of_getElem? (i := 16) rfl))) Via.refl F19 d3_19 (q := 22) rfl ?_
  refine Go.iloadN C d3_22 (q := 23) rfl rfl ?_
  have F20 := (F14.other W16 ne11)
  refine Go.iaload C F20 1 (v := (.int (fl 1))) (by decide) (by decide) (by decide) rfl d3_23 (q := 24) rfl ?_
  refine Go.istoreR C d3_24 (q := 26) rfl (l' := #[.val (.ref a), .val (.int (2 : Int32)), .val (.ref a2), .val (.int (1 : Int32)), .val (.int (fl 1))]) rfl ?_
  refine Go.aloadN C d3_26 (q := 27) rfl rfl rfl ?_
  refine Go.iload C d3_27 (q := 29) rfl rfl ?_
  refine Go.bipush C (6 : Int32) d3_29 (q := 31) rfl rfl ?_
  refine Go.iushr C d3_31 (q := 32) rfl ?_
  refine Go.dup2 C d3_32 (q := 33) rfl rfl rfl ?_
  refine Go.laload C F17 ((((fl 1).toUInt32 >>> ((6 : Int32) &&& 31).toUInt32).toInt32)).toNatClampNeg (v := (.long ((upd bs ((((fl 0).toUInt32 >>> ((6 : Int32) &&& 31).toUInt32).toInt32)).toNatClampNeg ((bs ((((fl 0).toUInt32 >>> ((6 : Int32) &&& 31).toUInt32).toInt32)).toNatClampNeg) ^^^ ((1 : Int64) <<< ((fl 0) &&& 0x3f).toInt64))) ((((fl 1).toUInt32 >>> ((6 : Int32) &&& 31).toUInt32).toInt32)).toNatClampNeg))) rfl (own_ixb (fl 1) (hfl _).1 (hfl _).2).1 (own_ixb (fl 1) (hfl _).1 (hfl _).2).2 rfl d3_33 (q := 34) rfl ?_
  refine Go.lconst C (1 : Int64) d3_34 (q := 35) rfl rfl ?_
  refine Go.iload C d3_35 (q := 37) rfl rfl ?_
  refine Go.lshl C d3_37 (q := 38) rfl ?_
  refine Go.lxor C d3_38 (q := 39) rfl ?_
  refine Go.lastore C F17 ((((fl 1).toUInt32 >>> ((6 : Int32) &&& 31).toUInt32).toInt32)).toNatClampNeg rfl (own_ixb (fl 1) (hfl _).1 (hfl _).2).1 (own_ixb (fl 1) (hfl _).1 (hfl _).2).2 g7 d3_39 (q := 40) rfl ?_
  intro h21 W22
  have F23 := F17.sameJ W22
  refine Go.iincR C d3_40 (q := 43) rfl rfl (l' := #[.val (.ref a), .val (.int (2 : Int32)), .val (.ref a2), .val (.int (2 : Int32)), .val (.int (fl 1))]) rfl ?_
  refine Go.goto C d3_43 (q := 13) (by decide) (by decide) ?_
  refine Go.iloadN C d3_13 (q := 14) rfl rfl ?_
  refine Go.iloadN C d3_14 (q := 15) rfl rfl ?_
  refine Go.icmp C d3_15 (n_ge _ _) (qt := 46) (q := 18) (by decide) (by decide) rfl (fun _ => ?_) (fun b24 => absurd b24 (by decide))
  refine Go.aloadN C d3_46 (q := 47) rfl rfl rfl ?_
  have F25 := (((G_bits.ext E4).other W16 (Or.inl ne9)).other W22 (Or.inl ne9))
  refine Go.getF C (host := "") (Or.inl (hw _ (List.mem_of_getElem? (i := 12) rfl))) Via.refl F25 d3_47 (q := 50) rfl ?_
  refine Go.newPE C (hw _ (List.mem_of_getElem? (i := 32) rfl)) hz (cap := 192) hz2 (by decide) d3_50 (q := 52) rfl (k' := 2) rfl (n' := 195) rfl (by decide) (by decide) (ad := "[Z") (by decide) ?_
  intro h26 a27 cA28 g29 E30 Fn31 E33
  have F34 := (Nat.le_trans (Nat.le_trans (Nat.le_trans Z0 E4.1) (Nat.le_of_eq W16.size.symm)) (Nat.le_of_eq W22.size.symm))
  have g35 : n0 ≤ a27 := g29 ▸ F34
  have F37 := (Nat.le_trans (Nat.le_trans (Nat.le_trans (Nat.le_refl h0.size) E4.1) (Nat.le_of_eq W16.size.symm)) (Nat.le_of_eq W22.size.symm))
  have y36 : h0.size ≤ a27 := g29 ▸ F37
  have ne38 : a ≠ a27 := Nat.ne_of_lt (g29 ▸ F25.lt)
  have F40 := (((Ax.ext E4).other W16 ne10).other W22 ne10)
  have ne39 : x ≠ a27 := Nat.ne_of_lt (g29 ▸ F40.lt)
  have F42 := (F20.other W22 ne11)
  have ne41 : y ≠ a27 := Nat.ne_of_lt (g29 ▸ F42.lt)
  have ne43 : a2 ≠ a27 := Nat.ne_of_lt (g29 ▸ F23.lt)
  have F32 : Av Z h26 a27 .boolean (z.toNatClampNeg) (iF (fun _ => (0 : Int32))) := Av.of Fn31
  refine Go.astoreN C d3_52 (q := 53) rfl (l' := #[.val (.ref a), .val (.int (2 : Int32)), .val (.ref a2), .val (.ref a27), .val (.int (fl 1))]) rfl rfl ?_
  refine Go.iconst C (0 : Int32) d3_53 (q := 54) rfl rfl ?_
  refine Go.istoreR C d3_54 (q := 56) rfl (l' := #[.val (.ref a), .val (.int (2 : Int32)), .val (.ref a2), .val (.ref a27), .val (.int (0 : Int32))]) rfl ?_
  have F44 := (F25.ext E30)
  have F45 := (F23.ext E30)
  exact lp_string Z a0 hw W _ C h0 n0 _ _ _ a a2 a27 (2 : Int32) z (own_flip (own_flip bs (fl 0)) (fl 1)) (by decide) (by decide) hz hz2 ne43 ne38 g35 y36 (fun h' g K' A' e' => ⟨a27, rfl, K', g35, y36, A'.congr (fun i hi => congrArg Value.int (e' i hi))⟩) z.toNatClampNeg 0 h26 _ (by omega) (((((Keep.refl h0 []).ext E4).wr W16 (Or.inr y8)).wr W22 (Or.inr y8)).ext E30) F44 F45 F32 (fun j hj => absurd hj (Nat.not_lt_zero j))
set_option maxRecDepth 65536 in
theorem c_str3 (l : Launch) (Z : State) (a0 : Array Value) (hw : ∀ d ∈ tables_1, d.before a0 Z = true) (a : Addr) (h0 : Heap) (n0 : Nat) (x y : Addr) (z : Int32) (bs : Nat → Int64) (fl : Nat → Int32) (Z0 : n0 ≤ h0.size) (G_bits : Fld Z h0 a "com/example/paretoloom/paretoloom/mnk/Trail" "bits" "I" (.int z)) (G_base : Fld Z h0 a "com/example/paretoloom/paretoloom/mnk/Trail" "base" "[J" (.ref x)) (G_flips : Fld Z h0 a "com/example/paretoloom/paretoloom/mnk/Trail" "flips" "[I" (.ref y)) (Ax : Av Z h0 x .long 3 (jF bs)) (Ex : Exa Z h0 x "[J") (Ay : Av Z h0 y .int 3 (iF fl)) (hz : ¬ z < 0) (hz2 : z.toNatClampNeg ≤ 192) (hfl : ∀ j, ¬ fl j < 0 ∧ (fl j).toNatClampNeg < 192) : Met1 l Z (⟨"com/example/paretoloom/paretoloom/mnk/Trail", "string", "(I)[Z"⟩ : MethodName) prog_60_method_2_code 5 (some (.array .boolean)) [] ({ frames := 1, cells := 2, slots := 195, locals := 14 } : Room) #[(.ref a), (.int (3 : Int32))] h0 n0 (fun v h => ∃ b : Addr, v = some (.ref b) ∧ Keep h0 h [] ∧ n0 ≤ b ∧ h0.size ≤ b ∧ Av Z h b .boolean z.toNatClampNeg (iF (own_bv (own_flip (own_flip (own_flip bs (fl 0)) (fl 1)) (fl 2))))) := by
  refine met_of_go (plainFor_of_name pn_com_example_paretoloom_paretoloom_mnk_Trail) (fun m => ef_3_l1_3Int32 m a) ?_
  intro W hl C
  subst hl
  refine Go.aloadN C d3_0 (q := 1) rfl rfl rfl ?_
  refine Go.getF C (host := "") (Or.inl (hw _ (List.mem_of_getElem? (i := 14) rfl))) Via.refl G_base d3_1 (q := 4) rfl ?_
  refine Go.clone C (ad := "[J") (hw _ (List.mem_of_getElem? (i := 23) rfl)) (hw _ (List.mem_of_getElem? (i := 24) rfl)) (hw _ (List.mem_of_getElem? (i := 28) rfl)) (hw _ (List.mem_of_getElem? (i := 26) rfl)) (hw _ (List.mem_of_getElem? (i := 27) rfl)) (hw _ (List.mem_of_getElem? (i := 29) rfl)) Ax Ex (fun _ _ => rfl) d3_4 (q := 7) rfl rfl (wt := 0) rfl (by decide) (by decide) (cap := 3) rfl (k' := 1) rfl (n' := 3) rfl (by decide) (by decide) ?_
  intro h1 a2 g3 E4 F5 E6
  have g7 : n0 ≤ a2 := g3 ▸ Z0
  have y8 : h0.size ≤ a2 := g3 ▸ (Nat.le_refl h0.size)
  have ne9 : a ≠ a2 := Nat.ne_of_lt (g3 ▸ G_bits.lt)
  have ne10 : x ≠ a2 := Nat.ne_of_lt (g3 ▸ Ax.lt)
  have ne11 : y ≠ a2 := Nat.ne_of_lt (g3 ▸ Ay.lt)
  refine Go.cast C (hw _ (List.mem_of_getElem? (i := 30) rfl)) (Ins.self E6) d3_7 (q := 10) rfl ?_
  refine Go.astoreN C d3_10 (q := 11) rfl (l' := #[.val (.ref a), .val (.int (3 : Int32)), .val (.ref a2), .unset, .unset]) rfl rfl ?_
  refine Go.iconst C (0 : Int32) d3_11 (q := 12) rfl rfl ?_
  refine Go.istoreNR C d3_12 (q := 13) rfl (l' := #[.val (.ref a), .val (.int (3 : Int32)), .val (.ref a2), .val (.int (0 : Int32)), .unset]) rfl ?_
  refine Go.iloadN C d3_13 (q := 14) rfl rfl ?_
  refine Go.iloadN C d3_14 (q := 15) rfl rfl ?_
  refine Go.icmp C d3_15 (n_ge _ _) (qt := 46) (q := 18) (by decide) (by decide) rfl (fun b12 => absurd b12 (by decide)) (fun _ => ?_)
  refine Go.aloadN C d3_18 (q := 19) rfl rfl rfl ?_
  have F13 := (G_flips.ext E4)
  refine Go.getF C (host := "") (Or.inl (hw _ (List.mem_of_getElem? (i := 16) rfl))) Via.refl F13 d3_19 (q := 22) rfl ?_
  refine Go.iloadN C d3_22 (q := 23) rfl rfl ?_
  have F14 := (Ay.ext E4)
  refine Go.iaload C F14 0 (v := (.int (fl 0))) (by decide) (by decide) (by decide) rfl d3_23 (q := 24) rfl ?_
  refine Go.istoreR C d3_24 (q := 26) rfl (l' := #[.val (.ref a), .val (.int (3 : Int32)), .val (.ref a2), .val (.int (0 : Int32)), .val (.int (fl 0))]) rfl ?_
  refine Go.aloadN C d3_26 (q := 27) rfl rfl rfl ?_
  refine Go.iload C d3_27 (q := 29) rfl rfl ?_
  refine Go.bipush C (6 : Int32) d3_29 (q := 31) rfl rfl ?_
  refine Go.iushr C d3_31 (q := 32) rfl ?_
  refine Go.dup2 C d3_32 (q := 33) rfl rfl rfl ?_
  refine Go.laload C F5 ((((fl 0).toUInt32 >>> ((6 : Int32) &&& 31).toUInt32).toInt32)).toNatClampNeg (v := (.long (bs ((((fl 0).toUInt32 >>> ((6 : Int32) &&& 31).toUInt32).toInt32)).toNatClampNeg))) rfl (own_ixb (fl 0) (hfl _).1 (hfl _).2).1 (own_ixb (fl 0) (hfl _).1 (hfl _).2).2 rfl d3_33 (q := 34) rfl ?_
  refine Go.lconst C (1 : Int64) d3_34 (q := 35) rfl rfl ?_
  refine Go.iload C d3_35 (q := 37) rfl rfl ?_
  refine Go.lshl C d3_37 (q := 38) rfl ?_
  refine Go.lxor C d3_38 (q := 39) rfl ?_
  refine Go.lastore C F5 ((((fl 0).toUInt32 >>> ((6 : Int32) &&& 31).toUInt32).toInt32)).toNatClampNeg rfl (own_ixb (fl 0) (hfl _).1 (hfl _).2).1 (own_ixb (fl 0) (hfl _).1 (hfl _).2).2 g7 d3_39 (q := 40) rfl ?_
  intro h15 W16
  have F17 := F5.sameJ W16
  refine Go.iincR C d3_40 (q := 43) rfl rfl (l' := #[.val (.ref a), .val (.int (3 : Int32)), .val (.ref a2), .val (.int (1 : Int32)), .val (.int (fl 0))]) rfl ?_
  refine Go.goto C d3_43 (q := 13) (by decide) (by decide) ?_
  refine Go.iloadN C d3_13 (q := 14) rfl rfl ?_
  refine Go.iloadN C d3_14 (q := 15) rfl rfl ?_
  refine Go.icmp C d3_15 (n_ge _ _) (qt := 46) (q := 18) (by decide) (by decide) rfl (fun b18 => absurd b18 (by decide)) (fun _ => ?_)
  refine Go.aloadN C d3_18 (q := 19) rfl rfl rfl ?_
  have F19 := (F13.other W16 (Or.inl ne9))
  refine Go.getF C (host := "") (Or.inl (hw _ (List.mem_of_getElem? (i := 16) rfl))) Via.refl F19 d3_19 (q := 22) rfl ?_
  refine Go.iloadN C d3_22 (q := 23) rfl rfl ?_
  have F20 := (F14.other W16 ne11)
  refine Go.iaload C F20 1 (v := (.int (fl 1))) (by decide) (by decide) (by decide) rfl d3_23 (q := 24) rfl ?_
  refine Go.istoreR C d3_24 (q := 26) rfl (l' := #[.val (.ref a), .val (.int (3 : Int32)), .val (.ref a2), .val (.int (1 : Int32)), .val (.int (fl 1))]) rfl ?_
  refine Go.aloadN C d3_26 (q := 27) rfl rfl rfl ?_
  refine Go.iload C d3_27 (q := 29) rfl rfl ?_
  refine Go.bipush C (6 : Int32) d3_29 (q := 31) rfl rfl ?_
  refine Go.iushr C d3_31 (q := 32) rfl ?_
  refine Go.dup2 C d3_32 (q := 33) rfl rfl rfl ?_
  refine Go.laload C F17 ((((fl 1).toUInt32 >>> ((6 : Int32) &&& 31).toUInt32).toInt32)).toNatClampNeg (v := (.long ((upd bs ((((fl 0).toUInt32 >>> ((6 : Int32) &&& 31).toUInt32).toInt32)).toNatClampNeg ((bs ((((fl 0).toUInt32 >>> ((6 : Int32) &&& 31).toUInt32).toInt32)).toNatClampNeg) ^^^ ((1 : Int64) <<< ((fl 0) &&& 0x3f).toInt64))) ((((fl 1).toUInt32 >>> ((6 : Int32) &&& 31).toUInt32).toInt32)).toNatClampNeg))) rfl (own_ixb (fl 1) (hfl _).1 (hfl _).2).1 (own_ixb (fl 1) (hfl _).1 (hfl _).2).2 rfl d3_33 (q := 34) rfl ?_
  refine Go.lconst C (1 : Int64) d3_34 (q := 35) rfl rfl ?_
  refine Go.iload C d3_35 (q := 37) rfl rfl ?_
  refine Go.lshl C d3_37 (q := 38) rfl ?_
  refine Go.lxor C d3_38 (q := 39) rfl ?_
  refine Go.lastore C F17 ((((fl 1).toUInt32 >>> ((6 : Int32) &&& 31).toUInt32).toInt32)).toNatClampNeg rfl (own_ixb (fl 1) (hfl _).1 (hfl _).2).1 (own_ixb (fl 1) (hfl _).1 (hfl _).2).2 g7 d3_39 (q := 40) rfl ?_
  intro h21 W22
  have F23 := F17.sameJ W22
  refine Go.iincR C d3_40 (q := 43) rfl rfl (l' := #[.val (.ref a), .val (.int (3 : Int32)), .val (.ref a2), .val (.int (2 : Int32)), .val (.int (fl 1))]) rfl ?_
  refine Go.goto C d3_43 (q := 13) (by decide) (by decide) ?_
  refine Go.iloadN C d3_13 (q := 14) rfl rfl ?_
  refine Go.iloadN C d3_14 (q := 15) rfl rfl ?_
  refine Go.icmp C d3_15 (n_ge _ _) (qt := 46) (q := 18) (by decide) (by decide) rfl (fun b24 => absurd b24 (by decide)) (fun _ => ?_)
  refine Go.aloadN C d3_18 (q := 19) rfl rfl rfl ?_
  have F25 := (F19.other W22 (Or.inl ne9))
  refine Go.getF C (host := "") (Or.inl (hw _ (List.mem_of_getElem? (i := 16) rfl))) Via.refl F25 d3_19 (q := 22) rfl ?_
  refine Go.iloadN C d3_22 (q := 23) rfl rfl ?_
  have F26 := (F20.other W22 ne11)
  refine Go.iaload C F26 2 (v := (.int (fl 2))) (by decide) (by decide) (by decide) rfl d3_23 (q := 24) rfl ?_
  refine Go.istoreR C d3_24 (q := 26) rfl (l' := #[.val (.ref a), .val (.int (3 : Int32)), .val (.ref a2), .val (.int (2 : Int32)), .val (.int (fl 2))]) rfl ?_
  refine Go.aloadN C d3_26 (q := 27) rfl rfl rfl ?_
  refine Go.iload C d3_27 (q := 29) rfl rfl ?_
  refine Go.bipush C (6 : Int32) d3_29 (q := 31) rfl rfl ?_
  refine Go.iushr C d3_31 (q := 32) rfl ?_
  refine Go.dup2 C d3_32 (q := 33) rfl rfl rfl ?_
  refine Go.laload C F23 ((((fl 2).toUInt32 >>> ((6 : Int32) &&& 31).toUInt32).toInt32)).toNatClampNeg (v := (.long ((upd (upd bs ((((fl 0).toUInt32 >>> ((6 : Int32) &&& 31).toUInt32).toInt32)).toNatClampNeg ((bs ((((fl 0).toUInt32 >>> ((6 : Int32) &&& 31).toUInt32).toInt32)).toNatClampNeg) ^^^ ((1 : Int64) <<< ((fl 0) &&& 0x3f).toInt64))) ((((fl 1).toUInt32 >>> ((6 : Int32) &&& 31).toUInt32).toInt32)).toNatClampNeg (((upd bs ((((fl 0).toUInt32 >>> ((6 : Int32) &&& 31).toUInt32).toInt32)).toNatClampNeg ((bs ((((fl 0).toUInt32 >>> ((6 : Int32) &&& 31).toUInt32).toInt32)).toNatClampNeg) ^^^ ((1 : Int64) <<< ((fl 0) &&& 0x3f).toInt64))) ((((fl 1).toUInt32 >>> ((6 : Int32) &&& 31).toUInt32).toInt32)).toNatClampNeg) ^^^ ((1 : Int64) <<< ((fl 1) &&& 0x3f).toInt64))) ((((fl 2).toUInt32 >>> ((6 : Int32) &&& 31).toUInt32).toInt32)).toNatClampNeg))) rfl (own_ixb (fl 2) (hfl _).1 (hfl _).2).1 (own_ixb (fl 2) (hfl _).1 (hfl _).2).2 rfl d3_33 (q := 34) rfl ?_
  refine Go.lconst C (1 : Int64) d3_34 (q := 35) rfl rfl ?_
  refine Go.iload C d3_35 (q := 37) rfl rfl ?_
  refine Go.lshl C d3_37 (q := 38) rfl ?_
  refine Go.lxor C d3_38 (q := 39) rfl ?_
  refine Go.lastore C F23 ((((fl 2).toUInt32 >>> ((6 : Int32) &&& 31).toUInt32).toInt32)).toNatClampNeg rfl (own_ixb (fl 2) (hfl _).1 (hfl _).2).1 (own_ixb (fl 2) (hfl _).1 (hfl _).2).2 g7 d3_39 (q := 40) rfl ?_
  intro h27 W28
  have F29 := F23.sameJ W28
  refine Go.iincR C d3_40 (q := 43) rfl rfl (l' := #[.val (.ref a), .val (.int (3 : Int32)), .val (.ref a2), .val (.int (3 : Int32)), .val (.int (fl 2))]) rfl ?_
  refine Go.goto C d3_43 (q := 13) (by decide) (by decide) ?_
  refine Go.iloadN C d3_13 (q := 14) rfl rfl ?_
  refine Go.iloadN C d3_14 (q := 15) rfl rfl ?_
  refine Go.icmp C d3_15 (n_ge _ _) (qt := 46) (q := 18) (by decide) (by decide) rfl (fun _ => ?_) (fun b30 => absurd b30 (by decide))
  refine Go.aloadN C d3_46 (q := 47) rfl rfl rfl ?_
  have F31 := ((((G_bits.ext E4).other W16 (Or.inl ne9)).other W22 (Or.inl ne9)).other W28 (Or.inl ne9))
  refine Go.getF C (host := "") (Or.inl (hw _ (List.mem_of_getElem? (i := 12) rfl))) Via.refl F31 d3_47 (q := 50) rfl ?_
  refine Go.newPE C (hw _ (List.mem_of_getElem? (i := 32) rfl)) hz (cap := 192) hz2 (by decide) d3_50 (q := 52) rfl (k' := 2) rfl (n' := 195) rfl (by decide) (by decide) (ad := "[Z") (by decide) ?_
  intro h32 a33 cA34 g35 E36 Fn37 E39
  have F40 := (Nat.le_trans (Nat.le_trans (Nat.le_trans (Nat.le_trans Z0 E4.1) (Nat.le_of_eq W16.size.symm)) (Nat.le_of_eq W22.size.symm)) (Nat.le_of_eq W28.size.symm))
  have g41 : n0 ≤ a33 := g35 ▸ F40
  have F43 := (Nat.le_trans (Nat.le_trans (Nat.le_trans (Nat.le_trans (Nat.le_refl h0.size) E4.1) (Nat.le_of_eq W16.size.symm)) (Nat.le_of_eq W22.size.symm)) (Nat.le_of_eq W28.size.symm))
  have y42 : h0.size ≤ a33 := g35 ▸ F43
  have ne44 : a ≠ a33 := Nat.ne_of_lt (g35 ▸ F31.lt)
  have F46 := ((((Ax.ext E4).other W16 ne10).other W22 ne10).other W28 ne10)
  have ne45 : x ≠ a33 := Nat.ne_of_lt (g35 ▸ F46.lt)
  have F48 := (F26.other W28 ne11)
  have ne47 : y ≠ a33 := Nat.ne_of_lt (g35 ▸ F48.lt)
  have ne49 : a2 ≠ a33 := Nat.ne_of_lt (g35 ▸ F29.lt)
  have F38 : Av Z h32 a33 .boolean (z.toNatClampNeg) (iF (fun _ => (0 : Int32))) := Av.of Fn37
  refine Go.astoreN C d3_52 (q := 53) rfl (l' := #[.val (.ref a), .val (.int (3 : Int32)), .val (.ref a2), .val (.ref a33), .val (.int (fl 2))]) rfl rfl ?_
  refine Go.iconst C (0 : Int32) d3_53 (q := 54) rfl rfl ?_
  refine Go.istoreR C d3_54 (q := 56) rfl (l' := #[.val (.ref a), .val (.int (3 : Int32)), .val (.ref a2), .val (.ref a33), .val (.int (0 : Int32))]) rfl ?_
  have F50 := (F31.ext E36)
  have F51 := (F29.ext E36)
  exact lp_string Z a0 hw W _ C h0 n0 _ _ _ a a2 a33 (3 : Int32) z (own_flip (own_flip (own_flip bs (fl 0)) (fl 1)) (fl 2)) (by decide) (by decide) hz hz2 ne49 ne44 g41 y42 (fun h' g K' A' e' => ⟨a33, rfl, K', g41, y42, A'.congr (fun i hi => congrArg Value.int (e' i hi))⟩) z.toNatClampNeg 0 h32 _ (by omega) ((((((Keep.refl h0 []).ext E4).wr W16 (Or.inr y8)).wr W22 (Or.inr y8)).wr W28 (Or.inr y8)).ext E36) F50 F51 F38 (fun j hj => absurd hj (Nat.not_lt_zero j))
theorem own_at4 (p1 v : Int32) (h : v = (p1 &&& (3 : Int32))) : v = 0 ∨ v = 1 ∨ v = 2 ∨ v = 3 := by
  have e := c_mask p1 3 2 (by decide) (by decide)
  rw [← h] at e
  have e0 : (0 : Int32).toInt = 0 := rfl
  have e1 : (1 : Int32).toInt = 1 := rfl
  have e2 : (2 : Int32).toInt = 2 := rfl
  have e3 : (3 : Int32).toInt = 3 := rfl
  simp only [← Int32.toInt_inj]
  omega
theorem own_bits (p5 v1 : Int32) (h : v1 = ((1 : Int32) + ((p5 &&& (255 : Int32)) % (192 : Int32)))) : 1 ≤ v1.toInt ∧ v1.toInt ≤ 192 := by
  have a := c_mask p5 255 8 (by decide) (by decide)
  have b := (c_irem (p5 &&& (255 : Int32)) 192 192 rfl).1 (by omega)
  have c := c_iadd 1 ((p5 &&& (255 : Int32)) % (192 : Int32))
  rw [← h] at c
  have r := rng32 v1
  have e : (1 : Int32).toInt = 1 := rfl
  omega
theorem own_nz (p5 v1 : Int32) (h : v1 = ((1 : Int32) + ((p5 &&& (255 : Int32)) % (192 : Int32)))) : v1 ≠ 0 := fun q => by
  have a := own_bits p5 v1 h
  rw [q] at a
  exact absurd a.1 (by decide)
theorem own_rem (x m k : Int32) (v : Int32) (hm : 0 ≤ m.toInt) (hv : 1 ≤ v.toInt) (h : k = ((x &&& m) % v)) : ¬ k < 0 ∧ k.toNatClampNeg < v.toNatClampNeg := by
  have a := c_and x m hm
  have b := (c_iremV (x &&& m) v).1 (by omega) (by omega)
  rw [← h] at b
  have e0 : (0 : Int32).toInt = 0 := rfl
  refine ⟨fun q => ?_, ?_⟩
  · rw [Int32.lt_iff_toInt_lt] at q; omega
  · show k.toInt.toNat < v.toInt.toNat; omega
theorem own_fl (f0 f1 f2 : Int32) (h0 : ¬ f0 < 0 ∧ f0.toNatClampNeg < 192) (h1 : ¬ f1 < 0 ∧ f1.toNatClampNeg < 192) (h2 : ¬ f2 < 0 ∧ f2.toNatClampNeg < 192) : ∀ j, ¬ (upd (upd (upd (fun _ => (0 : Int32)) 0 f0) 1 f1) 2 f2) j < 0 ∧ ((upd (upd (upd (fun _ => (0 : Int32)) 0 f0) 1 f1) 2 f2) j).toNatClampNeg < 192 := fun j => by
  by_cases e2 : j = 2
  · rw [e2, upd_eq]; exact h2
  · rw [upd_ne _ _ e2]
    by_cases e1 : j = 1
    · rw [e1, upd_eq]; exact h1
    · rw [upd_ne _ _ e1]
      by_cases e0 : j = 0
      · rw [e0, upd_eq]; exact h0
      · rw [upd_ne _ _ e0]; exact ⟨by decide, by decide⟩
def own_tb (w : Int64) (k : Nat) : Bool := w.toBitVec.getLsbD k
theorem own_sh (w : Int64) (q : Int32) (k : Nat) (hk : q.toBitVec.toNat % 64 = k) : ((w.toUInt64 >>> (q &&& 0x3f).toInt64.toUInt64).toInt64).toBitVec = w.toBitVec >>> k := by
  show w.toBitVec >>> ((q &&& 0x3f).toInt64.toBitVec % 64) = _
  have h5 := (sm64 q k hk).2
  rw [BitVec.ushiftRight_eq', BitVec.toNat_umod, (sm64 q k hk).1, BitVec.toNat_ofNat]
  congr 1
  show k % 2 ^ 64 % 64 = k
  omega
theorem own_and1 (x : Int64) : (x &&& (1 : Int64)) = (if x.toBitVec.getLsbD 0 then 1 else 0) := by
  have a := c_maskL x 1 1 (by decide) (by decide)
  have b := parL x
  apply Int64.toInt_inj.mp
  have c : x.toBitVec.getLsbD 0 = decide (x.toBitVec.toNat % 2 = 1) := Nat.testBit_zero _
  have e1 : (1 : Int64).toInt = 1 := rfl
  have e0 : (0 : Int64).toInt = 0 := rfl
  rw [c, a]
  by_cases q : x.toBitVec.toNat % 2 = 1
  · simp only [q, decide_true, if_true]; omega
  · simp only [q, decide_false]; rw [if_neg (by decide)]; omega
theorem own_bt (w : Int64) (q : Int32) (k : Nat) (hk : q.toBitVec.toNat % 64 = k) : (((w.toUInt64 >>> (q &&& 0x3f).toInt64.toUInt64).toInt64) &&& (1 : Int64)) = (if own_tb w k then 1 else 0) := by
  rw [own_and1, own_sh w q k hk, BitVec.getLsbD_ushiftRight]
  rfl
theorem own_nat32 (j : Nat) (hj : j < 192) : (Int32.ofNat j).toBitVec.toNat = j := by
  rw [Int32.toBitVec_ofNat', BitVec.toNat_ofNat]; omega
theorem own_bvt (w : Nat → Int64) (j : Nat) (hj : j < 192) : own_bv w j = (if own_tb (w (j / 64)) (j % 64) then 1 else 0) := by
  unfold own_bv
  rw [own_bt (w (j / 64)) (Int32.ofNat j) (j % 64) (by rw [own_nat32 j hj])]
  cases own_tb (w (j / 64)) (j % 64) <;> rfl
theorem own_m63 (j : Nat) (hj : j < 192) : (Int32.ofNat j &&& (63 : Int32)).toBitVec.toNat % 64 = j % 64 := by
  rw [Int32.toBitVec_and, BitVec.toNat_and, show (63 : Int32).toBitVec.toNat = 2 ^ 6 - 1 from by decide, Nat.and_two_pow_sub_one_eq_mod, own_nat32 j hj]
  omega
theorem own_bbt (w0 w1 w2 : Int64) (j : Nat) (hj : j < 192) : f_bb w0 w1 w2 (Int32.ofNat j) = (if own_tb ((upd (upd (upd (fun _ => (0 : Int64)) 0 w0) 1 w1) 2 w2) (j / 64)) (j % 64) then 1 else 0) := by
  have k : ∀ w : Int64, (if (((w.toUInt64 >>> (((Int32.ofNat j) &&& (63 : Int32)) &&& 0x3f).toInt64.toUInt64).toInt64) &&& (1 : Int64)) = (1 : Int64) then (1 : Int32) else (0 : Int32)) = (if own_tb w (j % 64) then 1 else 0) := fun w => by
    rw [own_bt w _ (j % 64) (own_m63 j hj)]
    cases own_tb w (j % 64) <;> rfl
  have l : ∀ n : Nat, n < 192 → (Int32.ofNat j < Int32.ofNat n ↔ j < n) := fun n hn => by
    rw [Int32.lt_iff_toInt_lt, Int32.toInt_ofNat_small (by omega), Int32.toInt_ofNat_small (by omega)]; omega
  unfold f_bb
  rw [k w0, k w1, k w2]
  by_cases q : j < 64
  · rw [if_pos (show Int32.ofNat j < (64 : Int32) from (l 64 (by omega)).mpr q), show j / 64 = 0 by omega]; rfl
  · rw [if_neg (show ¬ Int32.ofNat j < (64 : Int32) from fun z => q ((l 64 (by omega)).mp z))]
    by_cases q2 : j < 128
    · rw [if_pos (show Int32.ofNat j < (128 : Int32) from (l 128 (by omega)).mpr q2), show j / 64 = 1 by omega]; rfl
    · rw [if_neg (show ¬ Int32.ofNat j < (128 : Int32) from fun z => q2 ((l 128 (by omega)).mp z)), show j / 64 = 2 by omega]; rfl
theorem own_shl (q : Int32) (k : Nat) (hk : q.toBitVec.toNat % 64 = k) : ((1 : Int64) <<< (q &&& 0x3f).toInt64).toBitVec = 1#64 <<< k := by
  show (1 : Int64).toBitVec <<< ((q &&& 0x3f).toInt64.toBitVec.smod 64) = _
  rw [BitVec.shiftLeft_eq', (sm64 q k hk).1, smod64 k (sm64 q k hk).2]
  rfl
theorem own_fltb (w : Nat → Int64) (m j : Nat) (hm : m < 192) (hj : j < 192) : own_tb ((own_flip w (Int32.ofNat m)) (j / 64)) (j % 64) = (own_tb (w (j / 64)) (j % 64) ^^ decide (m = j)) := by
  unfold own_flip
  have e : own_ix (Int32.ofNat m) = m / 64 := (own_ixs ⟨m, hm⟩).1
  rw [e]
  by_cases q : j / 64 = m / 64
  · rw [q, upd_eq]
    unfold own_tb
    rw [Int64.toBitVec_xor, BitVec.getLsbD_xor, own_shl _ (m % 64) (by rw [own_nat32 m hm])]
    congr 1
    rw [BitVec.getLsbD_shiftLeft, BitVec.getLsbD_one]
    by_cases z : m = j
    · subst z; simp; omega
    · simp [z]; omega
  · rw [upd_ne _ _ q]
    have z : ¬ m = j := fun z => q (by rw [z])
    simp [z]
theorem own_inj (m j : Nat) (hm : m < 192) (hj : j < 192) : (Int32.ofNat m = Int32.ofNat j) ↔ m = j := by
  refine ⟨fun q => ?_, fun q => by rw [q]⟩
  have := congrArg Int32.toInt q
  rw [Int32.toInt_ofNat_small (by omega), Int32.toInt_ofNat_small (by omega)] at this
  omega
theorem own_all (p0 p1 p2 : Int64) (f0 f1 f2 i : Int32) (h0 : ¬ f0 < 0 ∧ f0.toNatClampNeg < 192) (h1 : ¬ f1 < 0 ∧ f1.toNatClampNeg < 192) (h2 : ¬ f2 < 0 ∧ f2.toNatClampNeg < 192) (hi : ¬ i < 0 ∧ i.toNatClampNeg < 192) (B : Nat → Int64) (hB : B = (upd (upd (upd (fun _ => (0 : Int64)) 0 p0) 1 p1) 2 p2)) :
    own_bv B i.toNatClampNeg = f_bb p0 p1 p2 i ∧ own_bv B i.toNatClampNeg = f_bb p0 p1 p2 i ^^^ f_fl f0 f1 f2 0 i ∧ own_bv (own_flip B f0) i.toNatClampNeg = f_bb p0 p1 p2 i ^^^ f_fl f0 f1 f2 1 i ∧ own_bv (own_flip (own_flip B f0) f1) i.toNatClampNeg = f_bb p0 p1 p2 i ^^^ f_fl f0 f1 f2 2 i ∧ own_bv (own_flip (own_flip (own_flip B f0) f1) f2) i.toNatClampNeg = f_bb p0 p1 p2 i ^^^ f_fl f0 f1 f2 3 i := by
  obtain ⟨m0, e0, -⟩ := own_of f0 192 h0.1 h0.2 (Nat.le_refl _)
  obtain ⟨m1, e1, -⟩ := own_of f1 192 h1.1 h1.2 (Nat.le_refl _)
  obtain ⟨m2, e2, -⟩ := own_of f2 192 h2.1 h2.2 (Nat.le_refl _)
  obtain ⟨j, ej, e3⟩ := own_of i 192 hi.1 hi.2 (Nat.le_refl _)
  rw [← e3]
  clear h0 h1 h2 hi e3
  subst e0 e1 e2 ej
  rw [own_bbt p0 p1 p2 j.val j.isLt, ← hB, own_bvt _ _ j.isLt, own_bvt _ _ j.isLt, own_bvt _ _ j.isLt, own_bvt _ _ j.isLt, own_fltb _ _ _ m2.isLt j.isLt, own_fltb _ _ _ m1.isLt j.isLt, own_fltb _ _ _ m0.isLt j.isLt]
  unfold f_fl
  simp only [own_inj _ _ m0.isLt j.isLt, own_inj _ _ m1.isLt j.isLt, own_inj _ _ m2.isLt j.isLt]
  generalize own_tb (B (j.val / 64)) (j.val % 64) = b
  by_cases q0 : m0.val = j.val <;> by_cases q1 : m1.val = j.val <;> by_cases q2 : m2.val = j.val <;> simp only [q0, q1, q2, decide_true, decide_false] <;> cases b <;> decide
theorem own_bnds (p0 : Int64) (p1 : Int64) (p2 : Int64) (p3 : Int32) (p4 : Int32) (p5 : Int32) (v1 : Int32) (hv1 : v1 = ((1 : Int32) + ((p5 &&& (255 : Int32)) % (192 : Int32)))) (v2 : Int32) (hv2 : v2 = ((p3 &&& (65535 : Int32)) % v1)) (v3 : Int32) (hv3 : v3 = ((((p3.toUInt32 >>> ((16 : Int32) &&& 31).toUInt32).toInt32) &&& (65535 : Int32)) % v1)) (v4 : Int32) (hv4 : v4 = (if (((p5.toUInt32 >>> ((20 : Int32) &&& 31).toUInt32).toInt32) &&& (1 : Int32)) = (0 : Int32) then v3 else v2)) (v7 : Int32) (hv7 : v7 = ((p4 &&& (65535 : Int32)) % v1)) (v8 : Int32) (hv8 : v8 = (((p5.toUInt32 >>> ((18 : Int32) &&& 31).toUInt32).toInt32) &&& (3 : Int32))) (v9 : Int32) (hv9 : v9 = (if v8 = (0 : Int32) then v2 else (if v8 = (1 : Int32) then v4 else (if v8 = (2 : Int32) then v7 else ((((p4.toUInt32 >>> ((16 : Int32) &&& 31).toUInt32).toInt32) &&& (65535 : Int32)) % v1))))) (v14 : Int32) (hv14 : v14 = ((((p5.toUInt32 >>> ((8 : Int32) &&& 31).toUInt32).toInt32) &&& (255 : Int32)) % v1)) : ¬ v1 < 0 ∧ v1.toNatClampNeg ≤ 192 ∧ (¬ v2 < 0 ∧ v2.toNatClampNeg < v1.toNatClampNeg) ∧ (¬ v4 < 0 ∧ v4.toNatClampNeg < v1.toNatClampNeg) ∧ (¬ v7 < 0 ∧ v7.toNatClampNeg < v1.toNatClampNeg) ∧ (¬ v9 < 0 ∧ v9.toNatClampNeg < v1.toNatClampNeg) ∧ (¬ v14 < 0 ∧ v14.toNatClampNeg < v1.toNatClampNeg) := by
  have r := own_bits p5 v1 hv1
  have b2 := own_rem p3 65535 v2 v1 (by decide) r.1 hv2
  have b3 := own_rem _ 65535 v3 v1 (by decide) r.1 hv3
  have b7 := own_rem p4 65535 v7 v1 (by decide) r.1 hv7
  have b14 := own_rem _ 255 v14 v1 (by decide) r.1 hv14
  have b4 : ¬ v4 < 0 ∧ v4.toNatClampNeg < v1.toNatClampNeg := by
    rw [hv4]; split
    · exact b3
    · exact b2
  have b9 : ¬ v9 < 0 ∧ v9.toNatClampNeg < v1.toNatClampNeg := by
    rw [hv9]; split
    · exact b2
    · split
      · exact b4
      · split
        · exact b7
        · exact own_rem _ 65535 _ v1 (by decide) r.1 rfl
  refine ⟨fun q => ?_, ?_, b2, b4, b7, b9, b14⟩
  · rw [Int32.lt_iff_toInt_lt] at q
    have e0 : (0 : Int32).toInt = 0 := rfl
    omega
  · show v1.toInt.toNat ≤ 192
    omega
theorem fin0 (p0 : Int64) (p1 : Int64) (p2 : Int64) (p3 : Int32) (p4 : Int32) (p5 : Int32) (v1 : Int32) (hv1 : v1 = ((1 : Int32) + ((p5 &&& (255 : Int32)) % (192 : Int32)))) (v2 : Int32) (hv2 : v2 = ((p3 &&& (65535 : Int32)) % v1)) (v3 : Int32) (hv3 : v3 = ((((p3.toUInt32 >>> ((16 : Int32) &&& 31).toUInt32).toInt32) &&& (65535 : Int32)) % v1)) (v4 : Int32) (hv4 : v4 = (if (((p5.toUInt32 >>> ((20 : Int32) &&& 31).toUInt32).toInt32) &&& (1 : Int32)) = (0 : Int32) then v3 else v2)) (v7 : Int32) (hv7 : v7 = ((p4 &&& (65535 : Int32)) % v1)) (v8 : Int32) (hv8 : v8 = (((p5.toUInt32 >>> ((18 : Int32) &&& 31).toUInt32).toInt32) &&& (3 : Int32))) (v9 : Int32) (hv9 : v9 = (if v8 = (0 : Int32) then v2 else (if v8 = (1 : Int32) then v4 else (if v8 = (2 : Int32) then v7 else ((((p4.toUInt32 >>> ((16 : Int32) &&& 31).toUInt32).toInt32) &&& (65535 : Int32)) % v1))))) (v14 : Int32) (hv14 : v14 = ((((p5.toUInt32 >>> ((8 : Int32) &&& 31).toUInt32).toInt32) &&& (255 : Int32)) % v1)) (bnds0 : ¬ v1 < 0 ∧ v1.toNatClampNeg ≤ 192 ∧ (¬ v2 < 0 ∧ v2.toNatClampNeg < v1.toNatClampNeg) ∧ (¬ v4 < 0 ∧ v4.toNatClampNeg < v1.toNatClampNeg) ∧ (¬ v7 < 0 ∧ v7.toNatClampNeg < v1.toNatClampNeg) ∧ (¬ v9 < 0 ∧ v9.toNatClampNeg < v1.toNatClampNeg) ∧ (¬ v14 < 0 ∧ v14.toNatClampNeg < v1.toNatClampNeg)) (hv15 : (0 : Int32) = (((p5.toUInt32 >>> ((16 : Int32) &&& 31).toUInt32).toInt32) &&& (3 : Int32))) (f88 : Nat → Int32) (hf88 : f88 = own_bv (upd (upd (upd (fun _ => (0 : Int64)) 0 p0) 1 p1) 2 p2)) (f107 : Nat → Int32) (hf107 : f107 = own_bv (upd (upd (upd (fun _ => (0 : Int64)) 0 p0) 1 p1) 2 p2)) (b109 : ¬ v1 = v1) : False := by
  exact b109 rfl
theorem fin1 (p0 : Int64) (p1 : Int64) (p2 : Int64) (p3 : Int32) (p4 : Int32) (p5 : Int32) (v1 : Int32) (hv1 : v1 = ((1 : Int32) + ((p5 &&& (255 : Int32)) % (192 : Int32)))) (v2 : Int32) (hv2 : v2 = ((p3 &&& (65535 : Int32)) % v1)) (v3 : Int32) (hv3 : v3 = ((((p3.toUInt32 >>> ((16 : Int32) &&& 31).toUInt32).toInt32) &&& (65535 : Int32)) % v1)) (v4 : Int32) (hv4 : v4 = (if (((p5.toUInt32 >>> ((20 : Int32) &&& 31).toUInt32).toInt32) &&& (1 : Int32)) = (0 : Int32) then v3 else v2)) (v7 : Int32) (hv7 : v7 = ((p4 &&& (65535 : Int32)) % v1)) (v8 : Int32) (hv8 : v8 = (((p5.toUInt32 >>> ((18 : Int32) &&& 31).toUInt32).toInt32) &&& (3 : Int32))) (v9 : Int32) (hv9 : v9 = (if v8 = (0 : Int32) then v2 else (if v8 = (1 : Int32) then v4 else (if v8 = (2 : Int32) then v7 else ((((p4.toUInt32 >>> ((16 : Int32) &&& 31).toUInt32).toInt32) &&& (65535 : Int32)) % v1))))) (v14 : Int32) (hv14 : v14 = ((((p5.toUInt32 >>> ((8 : Int32) &&& 31).toUInt32).toInt32) &&& (255 : Int32)) % v1)) (bnds0 : ¬ v1 < 0 ∧ v1.toNatClampNeg ≤ 192 ∧ (¬ v2 < 0 ∧ v2.toNatClampNeg < v1.toNatClampNeg) ∧ (¬ v4 < 0 ∧ v4.toNatClampNeg < v1.toNatClampNeg) ∧ (¬ v7 < 0 ∧ v7.toNatClampNeg < v1.toNatClampNeg) ∧ (¬ v9 < 0 ∧ v9.toNatClampNeg < v1.toNatClampNeg) ∧ (¬ v14 < 0 ∧ v14.toNatClampNeg < v1.toNatClampNeg)) (hv15 : (0 : Int32) = (((p5.toUInt32 >>> ((16 : Int32) &&& 31).toUInt32).toInt32) &&& (3 : Int32))) (f88 : Nat → Int32) (hf88 : f88 = own_bv (upd (upd (upd (fun _ => (0 : Int64)) 0 p0) 1 p1) 2 p2)) (f107 : Nat → Int32) (hf107 : f107 = own_bv (upd (upd (upd (fun _ => (0 : Int64)) 0 p0) 1 p1) 2 p2)) (b109 : v1 = v1) (v111 : Int32) (hv111 : v111 = (f_bb p0 p1 p2 v9)) (v112 : Int32) (hv112 : v112 = (f_bb p0 p1 p2 v14)) (v113 : Int32) (hv113 : v113 = (v111 ^^^ (f_fl v2 v4 v7 (0 : Int32) v9))) (v114 : Int32) (hv114 : v114 = (v112 ^^^ (f_fl v2 v4 v7 (0 : Int32) v14))) (v115 : Int32) (hv115 : v115 = (if (f88 v9.toNatClampNeg) = v113 then (if (f88 v14.toNatClampNeg) = v114 then (if (f107 v9.toNatClampNeg) = v111 then (if (f107 v14.toNatClampNeg) = v112 then (if p0 = p0 then (if p1 = p1 then (if p2 = p2 then (1 : Int32) else (0 : Int32)) else (0 : Int32)) else (0 : Int32)) else (0 : Int32)) else (0 : Int32)) else (0 : Int32)) else (0 : Int32))) : nar .boolean v115 = 1 := by
  have a9 := own_all p0 p1 p2 v2 v4 v7 v9 ⟨bnds0.2.2.1.1, Nat.lt_of_lt_of_le bnds0.2.2.1.2 bnds0.2.1⟩ ⟨bnds0.2.2.2.1.1, Nat.lt_of_lt_of_le bnds0.2.2.2.1.2 bnds0.2.1⟩ ⟨bnds0.2.2.2.2.1.1, Nat.lt_of_lt_of_le bnds0.2.2.2.2.1.2 bnds0.2.1⟩ ⟨bnds0.2.2.2.2.2.1.1, Nat.lt_of_lt_of_le bnds0.2.2.2.2.2.1.2 bnds0.2.1⟩ _ rfl
  have a14 := own_all p0 p1 p2 v2 v4 v7 v14 ⟨bnds0.2.2.1.1, Nat.lt_of_lt_of_le bnds0.2.2.1.2 bnds0.2.1⟩ ⟨bnds0.2.2.2.1.1, Nat.lt_of_lt_of_le bnds0.2.2.2.1.2 bnds0.2.1⟩ ⟨bnds0.2.2.2.2.1.1, Nat.lt_of_lt_of_le bnds0.2.2.2.2.1.2 bnds0.2.1⟩ ⟨bnds0.2.2.2.2.2.2.1, Nat.lt_of_lt_of_le bnds0.2.2.2.2.2.2.2 bnds0.2.1⟩ _ rfl
  rw [← hf107, ← hv111] at a9
  rw [← hf107, ← hv112] at a14
  have f_eq : f88 = f107 := hf88.trans hf107.symm
  rw [hv115, f_eq, hv113, hv114, if_pos a9.2.1, if_pos a14.2.1, if_pos a9.1, if_pos a14.1, if_pos rfl, if_pos rfl, if_pos rfl]
  rfl
theorem fin2 (p0 : Int64) (p1 : Int64) (p2 : Int64) (p3 : Int32) (p4 : Int32) (p5 : Int32) (v1 : Int32) (hv1 : v1 = ((1 : Int32) + ((p5 &&& (255 : Int32)) % (192 : Int32)))) (v2 : Int32) (hv2 : v2 = ((p3 &&& (65535 : Int32)) % v1)) (v3 : Int32) (hv3 : v3 = ((((p3.toUInt32 >>> ((16 : Int32) &&& 31).toUInt32).toInt32) &&& (65535 : Int32)) % v1)) (v4 : Int32) (hv4 : v4 = (if (((p5.toUInt32 >>> ((20 : Int32) &&& 31).toUInt32).toInt32) &&& (1 : Int32)) = (0 : Int32) then v3 else v2)) (v7 : Int32) (hv7 : v7 = ((p4 &&& (65535 : Int32)) % v1)) (v8 : Int32) (hv8 : v8 = (((p5.toUInt32 >>> ((18 : Int32) &&& 31).toUInt32).toInt32) &&& (3 : Int32))) (v9 : Int32) (hv9 : v9 = (if v8 = (0 : Int32) then v2 else (if v8 = (1 : Int32) then v4 else (if v8 = (2 : Int32) then v7 else ((((p4.toUInt32 >>> ((16 : Int32) &&& 31).toUInt32).toInt32) &&& (65535 : Int32)) % v1))))) (v14 : Int32) (hv14 : v14 = ((((p5.toUInt32 >>> ((8 : Int32) &&& 31).toUInt32).toInt32) &&& (255 : Int32)) % v1)) (bnds0 : ¬ v1 < 0 ∧ v1.toNatClampNeg ≤ 192 ∧ (¬ v2 < 0 ∧ v2.toNatClampNeg < v1.toNatClampNeg) ∧ (¬ v4 < 0 ∧ v4.toNatClampNeg < v1.toNatClampNeg) ∧ (¬ v7 < 0 ∧ v7.toNatClampNeg < v1.toNatClampNeg) ∧ (¬ v9 < 0 ∧ v9.toNatClampNeg < v1.toNatClampNeg) ∧ (¬ v14 < 0 ∧ v14.toNatClampNeg < v1.toNatClampNeg)) (hv15 : (1 : Int32) = (((p5.toUInt32 >>> ((16 : Int32) &&& 31).toUInt32).toInt32) &&& (3 : Int32))) (f197 : Nat → Int32) (hf197 : f197 = own_bv (own_flip (upd (upd (upd (fun _ => (0 : Int64)) 0 p0) 1 p1) 2 p2) v2)) (f216 : Nat → Int32) (hf216 : f216 = own_bv (upd (upd (upd (fun _ => (0 : Int64)) 0 p0) 1 p1) 2 p2)) (b218 : ¬ v1 = v1) : False := by
  exact b218 rfl
theorem fin3 (p0 : Int64) (p1 : Int64) (p2 : Int64) (p3 : Int32) (p4 : Int32) (p5 : Int32) (v1 : Int32) (hv1 : v1 = ((1 : Int32) + ((p5 &&& (255 : Int32)) % (192 : Int32)))) (v2 : Int32) (hv2 : v2 = ((p3 &&& (65535 : Int32)) % v1)) (v3 : Int32) (hv3 : v3 = ((((p3.toUInt32 >>> ((16 : Int32) &&& 31).toUInt32).toInt32) &&& (65535 : Int32)) % v1)) (v4 : Int32) (hv4 : v4 = (if (((p5.toUInt32 >>> ((20 : Int32) &&& 31).toUInt32).toInt32) &&& (1 : Int32)) = (0 : Int32) then v3 else v2)) (v7 : Int32) (hv7 : v7 = ((p4 &&& (65535 : Int32)) % v1)) (v8 : Int32) (hv8 : v8 = (((p5.toUInt32 >>> ((18 : Int32) &&& 31).toUInt32).toInt32) &&& (3 : Int32))) (v9 : Int32) (hv9 : v9 = (if v8 = (0 : Int32) then v2 else (if v8 = (1 : Int32) then v4 else (if v8 = (2 : Int32) then v7 else ((((p4.toUInt32 >>> ((16 : Int32) &&& 31).toUInt32).toInt32) &&& (65535 : Int32)) % v1))))) (v14 : Int32) (hv14 : v14 = ((((p5.toUInt32 >>> ((8 : Int32) &&& 31).toUInt32).toInt32) &&& (255 : Int32)) % v1)) (bnds0 : ¬ v1 < 0 ∧ v1.toNatClampNeg ≤ 192 ∧ (¬ v2 < 0 ∧ v2.toNatClampNeg < v1.toNatClampNeg) ∧ (¬ v4 < 0 ∧ v4.toNatClampNeg < v1.toNatClampNeg) ∧ (¬ v7 < 0 ∧ v7.toNatClampNeg < v1.toNatClampNeg) ∧ (¬ v9 < 0 ∧ v9.toNatClampNeg < v1.toNatClampNeg) ∧ (¬ v14 < 0 ∧ v14.toNatClampNeg < v1.toNatClampNeg)) (hv15 : (1 : Int32) = (((p5.toUInt32 >>> ((16 : Int32) &&& 31).toUInt32).toInt32) &&& (3 : Int32))) (f197 : Nat → Int32) (hf197 : f197 = own_bv (own_flip (upd (upd (upd (fun _ => (0 : Int64)) 0 p0) 1 p1) 2 p2) v2)) (f216 : Nat → Int32) (hf216 : f216 = own_bv (upd (upd (upd (fun _ => (0 : Int64)) 0 p0) 1 p1) 2 p2)) (b218 : v1 = v1) (v220 : Int32) (hv220 : v220 = (f_bb p0 p1 p2 v9)) (v221 : Int32) (hv221 : v221 = (f_bb p0 p1 p2 v14)) (v222 : Int32) (hv222 : v222 = (v220 ^^^ (f_fl v2 v4 v7 (1 : Int32) v9))) (v223 : Int32) (hv223 : v223 = (v221 ^^^ (f_fl v2 v4 v7 (1 : Int32) v14))) (v224 : Int32) (hv224 : v224 = (if (f197 v9.toNatClampNeg) = v222 then (if (f197 v14.toNatClampNeg) = v223 then (if (f216 v9.toNatClampNeg) = v220 then (if (f216 v14.toNatClampNeg) = v221 then (if p0 = p0 then (if p1 = p1 then (if p2 = p2 then (1 : Int32) else (0 : Int32)) else (0 : Int32)) else (0 : Int32)) else (0 : Int32)) else (0 : Int32)) else (0 : Int32)) else (0 : Int32))) : nar .boolean v224 = 1 := by
  have a9 := own_all p0 p1 p2 v2 v4 v7 v9 ⟨bnds0.2.2.1.1, Nat.lt_of_lt_of_le bnds0.2.2.1.2 bnds0.2.1⟩ ⟨bnds0.2.2.2.1.1, Nat.lt_of_lt_of_le bnds0.2.2.2.1.2 bnds0.2.1⟩ ⟨bnds0.2.2.2.2.1.1, Nat.lt_of_lt_of_le bnds0.2.2.2.2.1.2 bnds0.2.1⟩ ⟨bnds0.2.2.2.2.2.1.1, Nat.lt_of_lt_of_le bnds0.2.2.2.2.2.1.2 bnds0.2.1⟩ _ rfl
  have a14 := own_all p0 p1 p2 v2 v4 v7 v14 ⟨bnds0.2.2.1.1, Nat.lt_of_lt_of_le bnds0.2.2.1.2 bnds0.2.1⟩ ⟨bnds0.2.2.2.1.1, Nat.lt_of_lt_of_le bnds0.2.2.2.1.2 bnds0.2.1⟩ ⟨bnds0.2.2.2.2.1.1, Nat.lt_of_lt_of_le bnds0.2.2.2.2.1.2 bnds0.2.1⟩ ⟨bnds0.2.2.2.2.2.2.1, Nat.lt_of_lt_of_le bnds0.2.2.2.2.2.2.2 bnds0.2.1⟩ _ rfl
  rw [← hf216, ← hv220, ← hv222, ← hf197] at a9
  rw [← hf216, ← hv221, ← hv223, ← hf197] at a14
  rw [hv224, if_pos a9.2.2.1, if_pos a14.2.2.1, if_pos a9.1, if_pos a14.1, if_pos rfl, if_pos rfl, if_pos rfl]
  rfl
theorem fin4 (p0 : Int64) (p1 : Int64) (p2 : Int64) (p3 : Int32) (p4 : Int32) (p5 : Int32) (v1 : Int32) (hv1 : v1 = ((1 : Int32) + ((p5 &&& (255 : Int32)) % (192 : Int32)))) (v2 : Int32) (hv2 : v2 = ((p3 &&& (65535 : Int32)) % v1)) (v3 : Int32) (hv3 : v3 = ((((p3.toUInt32 >>> ((16 : Int32) &&& 31).toUInt32).toInt32) &&& (65535 : Int32)) % v1)) (v4 : Int32) (hv4 : v4 = (if (((p5.toUInt32 >>> ((20 : Int32) &&& 31).toUInt32).toInt32) &&& (1 : Int32)) = (0 : Int32) then v3 else v2)) (v7 : Int32) (hv7 : v7 = ((p4 &&& (65535 : Int32)) % v1)) (v8 : Int32) (hv8 : v8 = (((p5.toUInt32 >>> ((18 : Int32) &&& 31).toUInt32).toInt32) &&& (3 : Int32))) (v9 : Int32) (hv9 : v9 = (if v8 = (0 : Int32) then v2 else (if v8 = (1 : Int32) then v4 else (if v8 = (2 : Int32) then v7 else ((((p4.toUInt32 >>> ((16 : Int32) &&& 31).toUInt32).toInt32) &&& (65535 : Int32)) % v1))))) (v14 : Int32) (hv14 : v14 = ((((p5.toUInt32 >>> ((8 : Int32) &&& 31).toUInt32).toInt32) &&& (255 : Int32)) % v1)) (bnds0 : ¬ v1 < 0 ∧ v1.toNatClampNeg ≤ 192 ∧ (¬ v2 < 0 ∧ v2.toNatClampNeg < v1.toNatClampNeg) ∧ (¬ v4 < 0 ∧ v4.toNatClampNeg < v1.toNatClampNeg) ∧ (¬ v7 < 0 ∧ v7.toNatClampNeg < v1.toNatClampNeg) ∧ (¬ v9 < 0 ∧ v9.toNatClampNeg < v1.toNatClampNeg) ∧ (¬ v14 < 0 ∧ v14.toNatClampNeg < v1.toNatClampNeg)) (hv15 : (2 : Int32) = (((p5.toUInt32 >>> ((16 : Int32) &&& 31).toUInt32).toInt32) &&& (3 : Int32))) (f306 : Nat → Int32) (hf306 : f306 = own_bv (own_flip (own_flip (upd (upd (upd (fun _ => (0 : Int64)) 0 p0) 1 p1) 2 p2) v2) v4)) (f325 : Nat → Int32) (hf325 : f325 = own_bv (upd (upd (upd (fun _ => (0 : Int64)) 0 p0) 1 p1) 2 p2)) (b327 : ¬ v1 = v1) : False := by
  exact b327 rfl
theorem fin5 (p0 : Int64) (p1 : Int64) (p2 : Int64) (p3 : Int32) (p4 : Int32) (p5 : Int32) (v1 : Int32) (hv1 : v1 = ((1 : Int32) + ((p5 &&& (255 : Int32)) % (192 : Int32)))) (v2 : Int32) (hv2 : v2 = ((p3 &&& (65535 : Int32)) % v1)) (v3 : Int32) (hv3 : v3 = ((((p3.toUInt32 >>> ((16 : Int32) &&& 31).toUInt32).toInt32) &&& (65535 : Int32)) % v1)) (v4 : Int32) (hv4 : v4 = (if (((p5.toUInt32 >>> ((20 : Int32) &&& 31).toUInt32).toInt32) &&& (1 : Int32)) = (0 : Int32) then v3 else v2)) (v7 : Int32) (hv7 : v7 = ((p4 &&& (65535 : Int32)) % v1)) (v8 : Int32) (hv8 : v8 = (((p5.toUInt32 >>> ((18 : Int32) &&& 31).toUInt32).toInt32) &&& (3 : Int32))) (v9 : Int32) (hv9 : v9 = (if v8 = (0 : Int32) then v2 else (if v8 = (1 : Int32) then v4 else (if v8 = (2 : Int32) then v7 else ((((p4.toUInt32 >>> ((16 : Int32) &&& 31).toUInt32).toInt32) &&& (65535 : Int32)) % v1))))) (v14 : Int32) (hv14 : v14 = ((((p5.toUInt32 >>> ((8 : Int32) &&& 31).toUInt32).toInt32) &&& (255 : Int32)) % v1)) (bnds0 : ¬ v1 < 0 ∧ v1.toNatClampNeg ≤ 192 ∧ (¬ v2 < 0 ∧ v2.toNatClampNeg < v1.toNatClampNeg) ∧ (¬ v4 < 0 ∧ v4.toNatClampNeg < v1.toNatClampNeg) ∧ (¬ v7 < 0 ∧ v7.toNatClampNeg < v1.toNatClampNeg) ∧ (¬ v9 < 0 ∧ v9.toNatClampNeg < v1.toNatClampNeg) ∧ (¬ v14 < 0 ∧ v14.toNatClampNeg < v1.toNatClampNeg)) (hv15 : (2 : Int32) = (((p5.toUInt32 >>> ((16 : Int32) &&& 31).toUInt32).toInt32) &&& (3 : Int32))) (f306 : Nat → Int32) (hf306 : f306 = own_bv (own_flip (own_flip (upd (upd (upd (fun _ => (0 : Int64)) 0 p0) 1 p1) 2 p2) v2) v4)) (f325 : Nat → Int32) (hf325 : f325 = own_bv (upd (upd (upd (fun _ => (0 : Int64)) 0 p0) 1 p1) 2 p2)) (b327 : v1 = v1) (v329 : Int32) (hv329 : v329 = (f_bb p0 p1 p2 v9)) (v330 : Int32) (hv330 : v330 = (f_bb p0 p1 p2 v14)) (v331 : Int32) (hv331 : v331 = (v329 ^^^ (f_fl v2 v4 v7 (2 : Int32) v9))) (v332 : Int32) (hv332 : v332 = (v330 ^^^ (f_fl v2 v4 v7 (2 : Int32) v14))) (v333 : Int32) (hv333 : v333 = (if (f306 v9.toNatClampNeg) = v331 then (if (f306 v14.toNatClampNeg) = v332 then (if (f325 v9.toNatClampNeg) = v329 then (if (f325 v14.toNatClampNeg) = v330 then (if p0 = p0 then (if p1 = p1 then (if p2 = p2 then (1 : Int32) else (0 : Int32)) else (0 : Int32)) else (0 : Int32)) else (0 : Int32)) else (0 : Int32)) else (0 : Int32)) else (0 : Int32))) : nar .boolean v333 = 1 := by
  have a9 := own_all p0 p1 p2 v2 v4 v7 v9 ⟨bnds0.2.2.1.1, Nat.lt_of_lt_of_le bnds0.2.2.1.2 bnds0.2.1⟩ ⟨bnds0.2.2.2.1.1, Nat.lt_of_lt_of_le bnds0.2.2.2.1.2 bnds0.2.1⟩ ⟨bnds0.2.2.2.2.1.1, Nat.lt_of_lt_of_le bnds0.2.2.2.2.1.2 bnds0.2.1⟩ ⟨bnds0.2.2.2.2.2.1.1, Nat.lt_of_lt_of_le bnds0.2.2.2.2.2.1.2 bnds0.2.1⟩ _ rfl
  have a14 := own_all p0 p1 p2 v2 v4 v7 v14 ⟨bnds0.2.2.1.1, Nat.lt_of_lt_of_le bnds0.2.2.1.2 bnds0.2.1⟩ ⟨bnds0.2.2.2.1.1, Nat.lt_of_lt_of_le bnds0.2.2.2.1.2 bnds0.2.1⟩ ⟨bnds0.2.2.2.2.1.1, Nat.lt_of_lt_of_le bnds0.2.2.2.2.1.2 bnds0.2.1⟩ ⟨bnds0.2.2.2.2.2.2.1, Nat.lt_of_lt_of_le bnds0.2.2.2.2.2.2.2 bnds0.2.1⟩ _ rfl
  rw [← hf325, ← hv329, ← hv331, ← hf306] at a9
  rw [← hf325, ← hv330, ← hv332, ← hf306] at a14
  rw [hv333, if_pos a9.2.2.2.1, if_pos a14.2.2.2.1, if_pos a9.1, if_pos a14.1, if_pos rfl, if_pos rfl, if_pos rfl]
  rfl
theorem fin6 (p0 : Int64) (p1 : Int64) (p2 : Int64) (p3 : Int32) (p4 : Int32) (p5 : Int32) (v1 : Int32) (hv1 : v1 = ((1 : Int32) + ((p5 &&& (255 : Int32)) % (192 : Int32)))) (v2 : Int32) (hv2 : v2 = ((p3 &&& (65535 : Int32)) % v1)) (v3 : Int32) (hv3 : v3 = ((((p3.toUInt32 >>> ((16 : Int32) &&& 31).toUInt32).toInt32) &&& (65535 : Int32)) % v1)) (v4 : Int32) (hv4 : v4 = (if (((p5.toUInt32 >>> ((20 : Int32) &&& 31).toUInt32).toInt32) &&& (1 : Int32)) = (0 : Int32) then v3 else v2)) (v7 : Int32) (hv7 : v7 = ((p4 &&& (65535 : Int32)) % v1)) (v8 : Int32) (hv8 : v8 = (((p5.toUInt32 >>> ((18 : Int32) &&& 31).toUInt32).toInt32) &&& (3 : Int32))) (v9 : Int32) (hv9 : v9 = (if v8 = (0 : Int32) then v2 else (if v8 = (1 : Int32) then v4 else (if v8 = (2 : Int32) then v7 else ((((p4.toUInt32 >>> ((16 : Int32) &&& 31).toUInt32).toInt32) &&& (65535 : Int32)) % v1))))) (v14 : Int32) (hv14 : v14 = ((((p5.toUInt32 >>> ((8 : Int32) &&& 31).toUInt32).toInt32) &&& (255 : Int32)) % v1)) (bnds0 : ¬ v1 < 0 ∧ v1.toNatClampNeg ≤ 192 ∧ (¬ v2 < 0 ∧ v2.toNatClampNeg < v1.toNatClampNeg) ∧ (¬ v4 < 0 ∧ v4.toNatClampNeg < v1.toNatClampNeg) ∧ (¬ v7 < 0 ∧ v7.toNatClampNeg < v1.toNatClampNeg) ∧ (¬ v9 < 0 ∧ v9.toNatClampNeg < v1.toNatClampNeg) ∧ (¬ v14 < 0 ∧ v14.toNatClampNeg < v1.toNatClampNeg)) (hv15 : (3 : Int32) = (((p5.toUInt32 >>> ((16 : Int32) &&& 31).toUInt32).toInt32) &&& (3 : Int32))) (f415 : Nat → Int32) (hf415 : f415 = own_bv (own_flip (own_flip (own_flip (upd (upd (upd (fun _ => (0 : Int64)) 0 p0) 1 p1) 2 p2) v2) v4) v7)) (f434 : Nat → Int32) (hf434 : f434 = own_bv (upd (upd (upd (fun _ => (0 : Int64)) 0 p0) 1 p1) 2 p2)) (b436 : ¬ v1 = v1) : False := by
  exact b436 rfl
theorem fin7 (p0 : Int64) (p1 : Int64) (p2 : Int64) (p3 : Int32) (p4 : Int32) (p5 : Int32) (v1 : Int32) (hv1 : v1 = ((1 : Int32) + ((p5 &&& (255 : Int32)) % (192 : Int32)))) (v2 : Int32) (hv2 : v2 = ((p3 &&& (65535 : Int32)) % v1)) (v3 : Int32) (hv3 : v3 = ((((p3.toUInt32 >>> ((16 : Int32) &&& 31).toUInt32).toInt32) &&& (65535 : Int32)) % v1)) (v4 : Int32) (hv4 : v4 = (if (((p5.toUInt32 >>> ((20 : Int32) &&& 31).toUInt32).toInt32) &&& (1 : Int32)) = (0 : Int32) then v3 else v2)) (v7 : Int32) (hv7 : v7 = ((p4 &&& (65535 : Int32)) % v1)) (v8 : Int32) (hv8 : v8 = (((p5.toUInt32 >>> ((18 : Int32) &&& 31).toUInt32).toInt32) &&& (3 : Int32))) (v9 : Int32) (hv9 : v9 = (if v8 = (0 : Int32) then v2 else (if v8 = (1 : Int32) then v4 else (if v8 = (2 : Int32) then v7 else ((((p4.toUInt32 >>> ((16 : Int32) &&& 31).toUInt32).toInt32) &&& (65535 : Int32)) % v1))))) (v14 : Int32) (hv14 : v14 = ((((p5.toUInt32 >>> ((8 : Int32) &&& 31).toUInt32).toInt32) &&& (255 : Int32)) % v1)) (bnds0 : ¬ v1 < 0 ∧ v1.toNatClampNeg ≤ 192 ∧ (¬ v2 < 0 ∧ v2.toNatClampNeg < v1.toNatClampNeg) ∧ (¬ v4 < 0 ∧ v4.toNatClampNeg < v1.toNatClampNeg) ∧ (¬ v7 < 0 ∧ v7.toNatClampNeg < v1.toNatClampNeg) ∧ (¬ v9 < 0 ∧ v9.toNatClampNeg < v1.toNatClampNeg) ∧ (¬ v14 < 0 ∧ v14.toNatClampNeg < v1.toNatClampNeg)) (hv15 : (3 : Int32) = (((p5.toUInt32 >>> ((16 : Int32) &&& 31).toUInt32).toInt32) &&& (3 : Int32))) (f415 : Nat → Int32) (hf415 : f415 = own_bv (own_flip (own_flip (own_flip (upd (upd (upd (fun _ => (0 : Int64)) 0 p0) 1 p1) 2 p2) v2) v4) v7)) (f434 : Nat → Int32) (hf434 : f434 = own_bv (upd (upd (upd (fun _ => (0 : Int64)) 0 p0) 1 p1) 2 p2)) (b436 : v1 = v1) (v438 : Int32) (hv438 : v438 = (f_bb p0 p1 p2 v9)) (v439 : Int32) (hv439 : v439 = (f_bb p0 p1 p2 v14)) (v440 : Int32) (hv440 : v440 = (v438 ^^^ (f_fl v2 v4 v7 (3 : Int32) v9))) (v441 : Int32) (hv441 : v441 = (v439 ^^^ (f_fl v2 v4 v7 (3 : Int32) v14))) (v442 : Int32) (hv442 : v442 = (if (f415 v9.toNatClampNeg) = v440 then (if (f415 v14.toNatClampNeg) = v441 then (if (f434 v9.toNatClampNeg) = v438 then (if (f434 v14.toNatClampNeg) = v439 then (if p0 = p0 then (if p1 = p1 then (if p2 = p2 then (1 : Int32) else (0 : Int32)) else (0 : Int32)) else (0 : Int32)) else (0 : Int32)) else (0 : Int32)) else (0 : Int32)) else (0 : Int32))) : nar .boolean v442 = 1 := by
  have a9 := own_all p0 p1 p2 v2 v4 v7 v9 ⟨bnds0.2.2.1.1, Nat.lt_of_lt_of_le bnds0.2.2.1.2 bnds0.2.1⟩ ⟨bnds0.2.2.2.1.1, Nat.lt_of_lt_of_le bnds0.2.2.2.1.2 bnds0.2.1⟩ ⟨bnds0.2.2.2.2.1.1, Nat.lt_of_lt_of_le bnds0.2.2.2.2.1.2 bnds0.2.1⟩ ⟨bnds0.2.2.2.2.2.1.1, Nat.lt_of_lt_of_le bnds0.2.2.2.2.2.1.2 bnds0.2.1⟩ _ rfl
  have a14 := own_all p0 p1 p2 v2 v4 v7 v14 ⟨bnds0.2.2.1.1, Nat.lt_of_lt_of_le bnds0.2.2.1.2 bnds0.2.1⟩ ⟨bnds0.2.2.2.1.1, Nat.lt_of_lt_of_le bnds0.2.2.2.1.2 bnds0.2.1⟩ ⟨bnds0.2.2.2.2.1.1, Nat.lt_of_lt_of_le bnds0.2.2.2.2.1.2 bnds0.2.1⟩ ⟨bnds0.2.2.2.2.2.2.1, Nat.lt_of_lt_of_le bnds0.2.2.2.2.2.2.2 bnds0.2.1⟩ _ rfl
  rw [← hf434, ← hv438, ← hv440, ← hf415] at a9
  rw [← hf434, ← hv439, ← hv441, ← hf415] at a14
  rw [hv442, if_pos a9.2.2.2.2, if_pos a14.2.2.2.2, if_pos a9.1, if_pos a14.1, if_pos rfl, if_pos rfl, if_pos rfl]
  rfl
set_option maxRecDepth 65536 in
set_option maxHeartbeats 4000000 in
theorem rm0 (l : Launch) (Z : State) (a0 : Array Value) (hw : ∀ d ∈ tables_1, d.before a0 Z = true) (p0 : Int64) (p1 : Int64) (p2 : Int64) (p3 : Int32) (p4 : Int32) (p5 : Int32) (h0 : Heap) (n0 : Nat) (Z0 : n0 ≤ h0.size) : Met1 l Z x code maxLocals ret tables_1 room_1 #[(.long p0), (.long p1), (.long p2), (.int p3), (.int p4), (.int p5)] h0 n0 QL := by
  refine met_of_go (plainFor_of_name pn_com_example_paretoloom_paretoloom_mnk_TrailStringPinLaw) (fun m => ef_0 m p0 p1 p2 p3 p4 p5) ?_
  intro W hl C
  subst hl
  refine Go.iconst C (1 : Int32) at_0 (q := 1) rfl rfl ?_
  refine Go.iload C at_1 (q := 3) rfl rfl ?_
  refine Go.sipush C (255 : Int32) at_3 (q := 6) rfl rfl ?_
  refine Go.iand C at_6 (q := 7) rfl ?_
  refine Go.sipush C (192 : Int32) at_7 (q := 10) rfl rfl ?_
  refine Go.irem C at_10 (q := 11) rfl (by decide) ?_
  refine Go.iadd C at_11 (q := 12) rfl ?_
  refine Go.istore C at_12 (q := 14) rfl (fun z => #[.val (.long p0), .second, .val (.long p1), .second, .val (.long p2), .second, .val (.int p3), .val (.int p4), .val (.int p5), .val (.int z), .unset, .unset, .unset, .unset, .unset, .unset, .unset, .unset, .unset, .unset, .unset, .unset, .unset, .unset, .unset, .unset]) (fun _ => rfl) ?_
  intro v1 hv1
  refine Go.iload C at_14 (q := 16) rfl rfl ?_
  refine Go.ldcI C (hw _ (List.mem_of_getElem? (i := 0) rfl)) at_16 (q := 18) rfl ?_
  refine Go.iand C at_18 (q := 19) rfl ?_
  refine Go.iload C at_19 (q := 21) rfl rfl ?_
  refine Go.irem C at_21 (q := 22) rfl (own_nz p5 v1 hv1) ?_
  refine Go.istore C at_22 (q := 24) rfl (fun z => #[.val (.long p0), .second, .val (.long p1), .second, .val (.long p2), .second, .val (.int p3), .val (.int p4), .val (.int p5), .val (.int v1), .val (.int z), .unset, .unset, .unset, .unset, .unset, .unset, .unset, .unset, .unset, .unset, .unset, .unset, .unset, .unset, .unset]) (fun _ => rfl) ?_
  intro v2 hv2
  refine Go.iload C at_24 (q := 26) rfl rfl ?_
  refine Go.bipush C (16 : Int32) at_26 (q := 28) rfl rfl ?_
  refine Go.iushr C at_28 (q := 29) rfl ?_
  refine Go.ldcI C (hw _ (List.mem_of_getElem? (i := 0) rfl)) at_29 (q := 31) rfl ?_
  refine Go.iand C at_31 (q := 32) rfl ?_
  refine Go.iload C at_32 (q := 34) rfl rfl ?_
  refine Go.irem C at_34 (q := 35) rfl (own_nz p5 v1 hv1) ?_
  refine Go.istore C at_35 (q := 37) rfl (fun z => #[.val (.long p0), .second, .val (.long p1), .second, .val (.long p2), .second, .val (.int p3), .val (.int p4), .val (.int p5), .val (.int v1), .val (.int v2), .val (.int z), .unset, .unset, .unset, .unset, .unset, .unset, .unset, .unset, .unset, .unset, .unset, .unset, .unset, .unset]) (fun _ => rfl) ?_
  intro v3 hv3
  refine Go.iload C at_37 (q := 39) rfl rfl ?_
  refine Go.bipush C (20 : Int32) at_39 (q := 41) rfl rfl ?_
  refine Go.iushr C at_41 (q := 42) rfl ?_
  refine Go.iconst C (1 : Int32) at_42 (q := 43) rfl rfl ?_
  refine Go.iand C at_43 (q := 44) rfl ?_
  suffices J5 : ∀ v4 : Int32, v4 = (if (((p5.toUInt32 >>> ((20 : Int32) &&& 31).toUInt32).toInt32) &&& (1 : Int32)) = (0 : Int32) then v3 else v2) → Go W n0 QL h0 0 0 51 #[.val (.long p0), .second, .val (.long p1), .second, .val (.long p2), .second, .val (.int p3), .val (.int p4), .val (.int p5), .val (.int v1), .val (.int v2), .val (.int v4), .unset, .unset, .unset, .unset, .unset, .unset, .unset, .unset, .unset, .unset, .unset, .unset, .unset, .unset] [] by
    refine Go.if0 C at_44 (z_eq _) (qt := 51) (q := 47) (by decide) (by decide) rfl (fun b6 => ?_) (fun b6 => ?_)
    ·
      exact J5 _ (by rw [if_pos b6])
    ·
      refine Go.iload C at_47 (q := 49) rfl rfl ?_
      refine Go.istoreR C at_49 (q := 51) rfl (l' := #[.val (.long p0), .second, .val (.long p1), .second, .val (.long p2), .second, .val (.int p3), .val (.int p4), .val (.int p5), .val (.int v1), .val (.int v2), .val (.int v2), .unset, .unset, .unset, .unset, .unset, .unset, .unset, .unset, .unset, .unset, .unset, .unset, .unset, .unset]) rfl ?_
      exact J5 _ (by rw [if_neg b6])
  intro v4 hv4
  refine Go.iload C at_51 (q := 53) rfl rfl ?_
  refine Go.ldcI C (hw _ (List.mem_of_getElem? (i := 0) rfl)) at_53 (q := 55) rfl ?_
  refine Go.iand C at_55 (q := 56) rfl ?_
  refine Go.iload C at_56 (q := 58) rfl rfl ?_
  refine Go.irem C at_58 (q := 59) rfl (own_nz p5 v1 hv1) ?_
  refine Go.istore C at_59 (q := 61) rfl (fun z => #[.val (.long p0), .second, .val (.long p1), .second, .val (.long p2), .second, .val (.int p3), .val (.int p4), .val (.int p5), .val (.int v1), .val (.int v2), .val (.int v4), .val (.int z), .unset, .unset, .unset, .unset, .unset, .unset, .unset, .unset, .unset, .unset, .unset, .unset, .unset]) (fun _ => rfl) ?_
  intro v7 hv7
  refine Go.iload C at_61 (q := 63) rfl rfl ?_
  refine Go.bipush C (18 : Int32) at_63 (q := 65) rfl rfl ?_
  refine Go.iushr C at_65 (q := 66) rfl ?_
  refine Go.iconst C (3 : Int32) at_66 (q := 67) rfl rfl ?_
  refine Go.iand C at_67 (q := 68) rfl ?_
  refine Go.istore C at_68 (q := 70) rfl (fun z => #[.val (.long p0), .second, .val (.long p1), .second, .val (.long p2), .second, .val (.int p3), .val (.int p4), .val (.int p5), .val (.int v1), .val (.int v2), .val (.int v4), .val (.int v7), .val (.int z), .unset, .unset, .unset, .unset, .unset, .unset, .unset, .unset, .unset, .unset, .unset, .unset]) (fun _ => rfl) ?_
  intro v8 hv8
  refine Go.iload C at_70 (q := 72) rfl rfl ?_
  suffices J10 : ∀ v9 : Int32, v9 = (if v8 = (0 : Int32) then v2 else (if v8 = (1 : Int32) then v4 else (if v8 = (2 : Int32) then v7 else ((((p4.toUInt32 >>> ((16 : Int32) &&& 31).toUInt32).toInt32) &&& (65535 : Int32)) % v1)))) → Go W n0 QL h0 0 0 121 #[.val (.long p0), .second, .val (.long p1), .second, .val (.long p2), .second, .val (.int p3), .val (.int p4), .val (.int p5), .val (.int v1), .val (.int v2), .val (.int v4), .val (.int v7), .val (.int v8), .val (.int v9), .unset, .unset, .unset, .unset, .unset, .unset, .unset, .unset, .unset, .unset, .unset] [] by
    refine Go.if0 C at_72 (z_ne _) (qt := 82) (q := 75) (by decide) (by decide) rfl (fun b11 => ?_) (fun b11 => ?_)
    ·
      refine Go.iload C at_82 (q := 84) rfl rfl ?_
      refine Go.iconst C (1 : Int32) at_84 (q := 85) rfl rfl ?_
      refine Go.icmp C at_85 (n_ne _ _) (qt := 95) (q := 88) (by decide) (by decide) rfl (fun b12 => ?_) (fun b12 => ?_)
      ·
        refine Go.iload C at_95 (q := 97) rfl rfl ?_
        refine Go.iconst C (2 : Int32) at_97 (q := 98) rfl rfl ?_
        refine Go.icmp C at_98 (n_ne _ _) (qt := 108) (q := 101) (by decide) (by decide) rfl (fun b13 => ?_) (fun b13 => ?_)
        ·
          refine Go.iload C at_108 (q := 110) rfl rfl ?_
          refine Go.bipush C (16 : Int32) at_110 (q := 112) rfl rfl ?_
          refine Go.iushr C at_112 (q := 113) rfl ?_
          refine Go.ldcI C (hw _ (List.mem_of_getElem? (i := 0) rfl)) at_113 (q := 115) rfl ?_
          refine Go.iand C at_115 (q := 116) rfl ?_
          refine Go.iload C at_116 (q := 118) rfl rfl ?_
          refine Go.irem C at_118 (q := 119) rfl (own_nz p5 v1 hv1) ?_
          refine Go.istoreR C at_119 (q := 121) rfl (l' := #[.val (.long p0), .second, .val (.long p1), .second, .val (.long p2), .second, .val (.int p3), .val (.int p4), .val (.int p5), .val (.int v1), .val (.int v2), .val (.int v4), .val (.int v7), .val (.int v8), .val (.int ((((p4.toUInt32 >>> ((16 : Int32) &&& 31).toUInt32).toInt32) &&& (65535 : Int32)) % v1)), .unset, .unset, .unset, .unset, .unset, .unset, .unset, .unset, .unset, .unset, .unset]) rfl ?_
          exact J10 _ (by rw [if_neg b11, if_neg b12, if_neg b13])
        ·
          have b13 := Classical.not_not.mp b13
          refine Go.iload C at_101 (q := 103) rfl rfl ?_
          refine Go.istoreR C at_103 (q := 105) rfl (l' := #[.val (.long p0), .second, .val (.long p1), .second, .val (.long p2), .second, .val (.int p3), .val (.int p4), .val (.int p5), .val (.int v1), .val (.int v2), .val (.int v4), .val (.int v7), .val (.int v8), .val (.int v7), .unset, .unset, .unset, .unset, .unset, .unset, .unset, .unset, .unset, .unset, .unset]) rfl ?_
          refine Go.goto C at_105 (q := 121) (by decide) (by decide) ?_
          exact J10 _ (by rw [if_neg b11, if_neg b12, if_pos b13])
      ·
        have b12 := Classical.not_not.mp b12
        refine Go.iload C at_88 (q := 90) rfl rfl ?_
        refine Go.istoreR C at_90 (q := 92) rfl (l' := #[.val (.long p0), .second, .val (.long p1), .second, .val (.long p2), .second, .val (.int p3), .val (.int p4), .val (.int p5), .val (.int v1), .val (.int v2), .val (.int v4), .val (.int v7), .val (.int v8), .val (.int v4), .unset, .unset, .unset, .unset, .unset, .unset, .unset, .unset, .unset, .unset, .unset]) rfl ?_
        refine Go.goto C at_92 (q := 121) (by decide) (by decide) ?_
        exact J10 _ (by rw [if_neg b11, if_pos b12])
    ·
      have b11 := Classical.not_not.mp b11
      refine Go.iload C at_75 (q := 77) rfl rfl ?_
      refine Go.istoreR C at_77 (q := 79) rfl (l' := #[.val (.long p0), .second, .val (.long p1), .second, .val (.long p2), .second, .val (.int p3), .val (.int p4), .val (.int p5), .val (.int v1), .val (.int v2), .val (.int v4), .val (.int v7), .val (.int v8), .val (.int v2), .unset, .unset, .unset, .unset, .unset, .unset, .unset, .unset, .unset, .unset, .unset]) rfl ?_
      refine Go.goto C at_79 (q := 121) (by decide) (by decide) ?_
      exact J10 _ (by rw [if_pos b11])
  intro v9 hv9
  refine Go.iload C at_121 (q := 123) rfl rfl ?_
  refine Go.bipush C (8 : Int32) at_123 (q := 125) rfl rfl ?_
  refine Go.iushr C at_125 (q := 126) rfl ?_
  refine Go.sipush C (255 : Int32) at_126 (q := 129) rfl rfl ?_
  refine Go.iand C at_129 (q := 130) rfl ?_
  refine Go.iload C at_130 (q := 132) rfl rfl ?_
  refine Go.irem C at_132 (q := 133) rfl (own_nz p5 v1 hv1) ?_
  refine Go.istore C at_133 (q := 135) rfl (fun z => #[.val (.long p0), .second, .val (.long p1), .second, .val (.long p2), .second, .val (.int p3), .val (.int p4), .val (.int p5), .val (.int v1), .val (.int v2), .val (.int v4), .val (.int v7), .val (.int v8), .val (.int v9), .val (.int z), .unset, .unset, .unset, .unset, .unset, .unset, .unset, .unset, .unset, .unset]) (fun _ => rfl) ?_
  intro v14 hv14
  have bnds0 := own_bnds p0 p1 p2 p3 p4 p5 v1 hv1 v2 hv2 v3 hv3 v4 hv4 v7 hv7 v8 hv8 v9 hv9 v14 hv14
  have bnds : ¬ v1 < 0 ∧ v1.toNatClampNeg ≤ 192 ∧ (¬ v2 < 0 ∧ v2.toNatClampNeg < 192) ∧ (¬ v4 < 0 ∧ v4.toNatClampNeg < 192) ∧ (¬ v7 < 0 ∧ v7.toNatClampNeg < 192) := ⟨bnds0.1, bnds0.2.1, ⟨bnds0.2.2.1.1, Nat.lt_of_lt_of_le bnds0.2.2.1.2 bnds0.2.1⟩, ⟨bnds0.2.2.2.1.1, Nat.lt_of_lt_of_le bnds0.2.2.2.1.2 bnds0.2.1⟩, ⟨bnds0.2.2.2.2.1.1, Nat.lt_of_lt_of_le bnds0.2.2.2.2.1.2 bnds0.2.1⟩⟩
  refine Go.iload C at_135 (q := 137) rfl rfl ?_
  refine Go.bipush C (16 : Int32) at_137 (q := 139) rfl rfl ?_
  refine Go.iushr C at_139 (q := 140) rfl ?_
  refine Go.iconst C (3 : Int32) at_140 (q := 141) rfl rfl ?_
  refine Go.iand C at_141 (q := 142) rfl ?_
  refine Go.istore C at_142 (q := 144) rfl (fun z => #[.val (.long p0), .second, .val (.long p1), .second, .val (.long p2), .second, .val (.int p3), .val (.int p4), .val (.int p5), .val (.int v1), .val (.int v2), .val (.int v4), .val (.int v7), .val (.int v8), .val (.int v9), .val (.int v14), .val (.int z), .unset, .unset, .unset, .unset, .unset, .unset, .unset, .unset, .unset]) (fun _ => rfl) ?_
  intro v15 hv15
  rcases (own_at4 _ v15 hv15) with rfl | rfl | rfl | rfl
  ·
    refine Go.iconst C (3 : Int32) at_144 (q := 145) rfl rfl ?_
    refine Go.newPE C (hw _ (List.mem_of_getElem? (i := 1) rfl)) (by decide) (cap := 3) (by decide) (by decide) at_145 (q := 147) rfl (k' := 1) rfl (n' := 3) rfl (by decide) (by decide) (ad := "[J") (by decide) ?_
    intro h16 a17 cA18 g19 E20 Fn21 E23
    have g24 : n0 ≤ a17 := g19 ▸ Z0
    have F22 : Av Z h16 a17 .long 3 (jF (fun _ => (0 : Int64))) := Av.of Fn21
    refine Go.dup C at_147 (q := 148) rfl rfl ?_
    refine Go.iconst C (0 : Int32) at_148 (q := 149) rfl rfl ?_
    refine Go.lloadN C at_149 (q := 150) rfl rfl ?_
    refine Go.lastore C F22 0 (by decide) (by decide) (by decide) g24 at_150 (q := 151) rfl ?_
    intro h25 W26
    have F27 := F22.sameJ W26
    refine Go.dup C at_151 (q := 152) rfl rfl ?_
    refine Go.iconst C (1 : Int32) at_152 (q := 153) rfl rfl ?_
    refine Go.lloadN C at_153 (q := 154) rfl rfl ?_
    refine Go.lastore C F27 1 (by decide) (by decide) (by decide) g24 at_154 (q := 155) rfl ?_
    intro h28 W29
    have F30 := F27.sameJ W29
    refine Go.dup C at_155 (q := 156) rfl rfl ?_
    refine Go.iconst C (2 : Int32) at_156 (q := 157) rfl rfl ?_
    refine Go.lload C at_157 (q := 159) rfl rfl ?_
    refine Go.lastore C F30 2 (by decide) (by decide) (by decide) g24 at_159 (q := 160) rfl ?_
    intro h31 W32
    have F33 := F30.sameJ W32
    refine Go.astore C at_160 (q := 162) rfl (l' := #[.val (.long p0), .second, .val (.long p1), .second, .val (.long p2), .second, .val (.int p3), .val (.int p4), .val (.int p5), .val (.int v1), .val (.int v2), .val (.int v4), .val (.int v7), .val (.int v8), .val (.int v9), .val (.int v14), .val (.int (0 : Int32)), .val (.ref a17), .unset, .unset, .unset, .unset, .unset, .unset, .unset, .unset]) rfl rfl ?_
    refine Go.iconst C (3 : Int32) at_162 (q := 163) rfl rfl ?_
    refine Go.newPE C (hw _ (List.mem_of_getElem? (i := 2) rfl)) (by decide) (cap := 3) (by decide) (by decide) at_163 (q := 165) rfl (k' := 2) rfl (n' := 6) rfl (by decide) (by decide) (ad := "[I") (by decide) ?_
    intro h34 a35 cA36 g37 E38 Fn39 E41
    have F42 := (Nat.le_trans (Nat.le_trans (Nat.le_trans (Nat.le_trans Z0 E20.1) (Nat.le_of_eq W26.size.symm)) (Nat.le_of_eq W29.size.symm)) (Nat.le_of_eq W32.size.symm))
    have g43 : n0 ≤ a35 := g37 ▸ F42
    have ne44 : a17 ≠ a35 := Nat.ne_of_lt (g37 ▸ F33.lt)
    have F40 : Av Z h34 a35 .int 3 (iF (fun _ => (0 : Int32))) := Av.of Fn39
    refine Go.dup C at_165 (q := 166) rfl rfl ?_
    refine Go.iconst C (0 : Int32) at_166 (q := 167) rfl rfl ?_
    refine Go.iload C at_167 (q := 169) rfl rfl ?_
    refine Go.iastore C F40 0 (by decide) (by decide) (by decide) g43 at_169 (q := 170) rfl ?_
    intro h45 W46
    have F47 := F40.sameI W46
    refine Go.dup C at_170 (q := 171) rfl rfl ?_
    refine Go.iconst C (1 : Int32) at_171 (q := 172) rfl rfl ?_
    refine Go.iload C at_172 (q := 174) rfl rfl ?_
    refine Go.iastore C F47 1 (by decide) (by decide) (by decide) g43 at_174 (q := 175) rfl ?_
    intro h48 W49
    have F50 := F47.sameI W49
    refine Go.dup C at_175 (q := 176) rfl rfl ?_
    refine Go.iconst C (2 : Int32) at_176 (q := 177) rfl rfl ?_
    refine Go.iload C at_177 (q := 179) rfl rfl ?_
    refine Go.iastore C F50 2 (by decide) (by decide) (by decide) g43 at_179 (q := 180) rfl ?_
    intro h51 W52
    have F53 := F50.sameI W52
    refine Go.astore C at_180 (q := 182) rfl (l' := #[.val (.long p0), .second, .val (.long p1), .second, .val (.long p2), .second, .val (.int p3), .val (.int p4), .val (.int p5), .val (.int v1), .val (.int v2), .val (.int v4), .val (.int v7), .val (.int v8), .val (.int v9), .val (.int v14), .val (.int (0 : Int32)), .val (.ref a17), .val (.ref a35), .unset, .unset, .unset, .unset, .unset, .unset, .unset]) rfl rfl ?_
    refine Go.newO C (hw _ (List.mem_of_getElem? (i := 3) rfl)) (hw _ (List.mem_of_getElem? (i := 4) rfl)) (hw _ (List.mem_of_getElem? (i := 5) rfl)) at_182 (q := 185) rfl (k' := 3) rfl (n' := 9) rfl (by decide) (by decide) ?_
    intro h54 a55 g56 E57 A58 D59
    have F60 := (Nat.le_trans (Nat.le_trans (Nat.le_trans (Nat.le_trans F42 E38.1) (Nat.le_of_eq W46.size.symm)) (Nat.le_of_eq W49.size.symm)) (Nat.le_of_eq W52.size.symm))
    have g61 : n0 ≤ a55 := g56 ▸ F60
    have F63 := ((((F33.ext E38).other W46 ne44).other W49 ne44).other W52 ne44)
    have ne62 : a17 ≠ a55 := Nat.ne_of_lt (g56 ▸ F63.lt)
    have ne64 : a35 ≠ a55 := Nat.ne_of_lt (g56 ▸ F53.lt)
    have F65 : Fld Z h54 a55 "com/example/paretoloom/paretoloom/mnk/Trail" "bits" "I" (.int (0 : Int32)) := D59 (Or.inr (hw _ (List.mem_of_getElem? (i := 13) rfl))) (ty := .int) (by decide)
    have F66 : Fld Z h54 a55 "com/example/paretoloom/paretoloom/mnk/Trail" "base" "[J" .null := D59 (Or.inr (hw _ (List.mem_of_getElem? (i := 15) rfl))) (ty := (.array .long)) (by decide)
    have F67 : Fld Z h54 a55 "com/example/paretoloom/paretoloom/mnk/Trail" "flips" "[I" .null := D59 (Or.inr (hw _ (List.mem_of_getElem? (i := 17) rfl))) (ty := (.array .int)) (by decide)
    refine Go.dup C at_185 (q := 186) rfl rfl ?_
    refine Go.iload C at_186 (q := 188) rfl rfl ?_
    refine Go.aload C at_188 (q := 190) rfl rfl rfl ?_
    refine Go.aload C at_190 (q := 192) rfl rfl rfl ?_
    have F68 := (Nat.le_trans F60 E57.1)
    refine Go.callC C rfl (hw _ (List.mem_of_getElem? (i := 6) rfl)) (hw _ (List.mem_of_getElem? (i := 7) rfl)) (hw _ (List.mem_of_getElem? (i := 5) rfl)) (hw _ (List.mem_of_getElem? (i := 8) rfl)) (c_init W.l Z a0 hw a55 v1 a17 a35 h54 n0 (.int (0 : Int32)) .null .null F68 A58 g61 F65 F66 F67) at_192 pd__40I_91J_91I_41V (q := 195) rfl rfl (argsL := [(.int v1), (.ref a17), (.ref a35)]) (st := [(.ref a55)]) rfl rfl (w := 1) rfl (by decide) (by decide) (k' := 3) rfl (n' := 9) rfl (by decide) (by decide) ?_
    intro v h69 q
    obtain ⟨rfl, K70, F71, F72, F73⟩ := q
    show Go W n0 QL h69 3 9 195 #[.val (.long p0), .second, .val (.long p1), .second, .val (.long p2), .second, .val (.int p3), .val (.int p4), .val (.int p5), .val (.int v1), .val (.int v2), .val (.int v4), .val (.int v7), .val (.int v8), .val (.int v9), .val (.int v14), .val (.int (0 : Int32)), .val (.ref a17), .val (.ref a35), .unset, .unset, .unset, .unset, .unset, .unset, .unset] [(.ref a55)]
    refine Go.astore C at_195 (q := 197) rfl (l' := #[.val (.long p0), .second, .val (.long p1), .second, .val (.long p2), .second, .val (.int p3), .val (.int p4), .val (.int p5), .val (.int v1), .val (.int v2), .val (.int v4), .val (.int v7), .val (.int v8), .val (.int v9), .val (.int v14), .val (.int (0 : Int32)), .val (.ref a17), .val (.ref a35), .val (.ref a55), .unset, .unset, .unset, .unset, .unset, .unset]) rfl rfl ?_
    refine Go.aload C at_197 (q := 199) rfl rfl rfl ?_
    refine Go.iload C at_199 (q := 201) rfl rfl ?_
    have F74 := ((F63.ext E57).keep K70 (ninS ne62 nin0))
    have F75 := ((F53.ext E57).keep K70 (ninS ne64 nin0))
    have F76 := (A58.keep K70)
    have F77 := (Nat.le_trans F68 K70.1)
    have F78 := (((((((((E23.wr W26).wr W29).wr W32).ext E38).wr W46).wr W49).wr W52).ext E57).keep K70)
    refine Go.callV C F76 (hw _ (List.mem_of_getElem? (i := 18) rfl)) (hw _ (List.mem_of_getElem? (i := 19) rfl)) (notFace_of_selects (args := #[]) (mvT C.z (hw _ (List.mem_of_getElem? (i := 21) rfl)))) (hw _ (List.mem_of_getElem? (i := 21) rfl)) (hw _ (List.mem_of_getElem? (i := 20) rfl)) (hw _ (List.mem_of_getElem? (i := 5) rfl)) (hw _ (List.mem_of_getElem? (i := 22) rfl)) (c_str0 W.l Z a0 hw a55 h69 n0 a17 a35 v1 (upd (upd (upd (fun _ => (0 : Int64)) 0 p0) 1 p1) 2 p2) (upd (upd (upd (fun _ => (0 : Int32)) 0 v2) 1 v4) 2 v7) F77 F71 F72 F73 F74 F78 F75 bnds.1 bnds.2.1 (own_fl _ _ _ bnds.2.2.1 bnds.2.2.2.1 bnds.2.2.2.2)) at_201 pd__40I_41_91Z (q := 204) rfl rfl (argsL := [(.int (0 : Int32))]) (st := []) rfl rfl (w := 0) rfl (by decide) (by decide) (k' := 5) rfl (n' := 204) rfl (by decide) (by decide) ?_
    intro v h79 q
    obtain ⟨a80, rfl, K81, g82, y83, F84⟩ := q
    have ne85 : a17 ≠ a80 := Nat.ne_of_lt (Nat.lt_of_lt_of_le F74.lt y83)
    have ne86 : a35 ≠ a80 := Nat.ne_of_lt (Nat.lt_of_lt_of_le F75.lt y83)
    have ne87 : a55 ≠ a80 := Nat.ne_of_lt (Nat.lt_of_lt_of_le F76.lt y83)
    obtain ⟨f88, hf88⟩ : ∃ u : Nat → Int32, u = own_bv (upd (upd (upd (fun _ => (0 : Int64)) 0 p0) 1 p1) 2 p2) := ⟨_, rfl⟩
    change Av Z h79 a80 .boolean v1.toNatClampNeg (iF (own_bv (upd (upd (upd (fun _ => (0 : Int64)) 0 p0) 1 p1) 2 p2))) at F84
    rw [← hf88] at F84
    show Go W n0 QL h79 5 204 204 #[.val (.long p0), .second, .val (.long p1), .second, .val (.long p2), .second, .val (.int p3), .val (.int p4), .val (.int p5), .val (.int v1), .val (.int v2), .val (.int v4), .val (.int v7), .val (.int v8), .val (.int v9), .val (.int v14), .val (.int (0 : Int32)), .val (.ref a17), .val (.ref a35), .val (.ref a55), .unset, .unset, .unset, .unset, .unset, .unset] [(.ref a80)]
    refine Go.astore C at_204 (q := 206) rfl (l' := #[.val (.long p0), .second, .val (.long p1), .second, .val (.long p2), .second, .val (.int p3), .val (.int p4), .val (.int p5), .val (.int v1), .val (.int v2), .val (.int v4), .val (.int v7), .val (.int v8), .val (.int v9), .val (.int v14), .val (.int (0 : Int32)), .val (.ref a17), .val (.ref a35), .val (.ref a55), .val (.ref a80), .unset, .unset, .unset, .unset, .unset]) rfl rfl ?_
    refine Go.aload C at_206 (q := 208) rfl rfl rfl ?_
    refine Go.iconst C (0 : Int32) at_208 (q := 209) rfl rfl ?_
    have F89 := (F74.keep K81 nin0)
    have F90 := (F75.keep K81 nin0)
    have F91 := (F76.keep K81)
    have F92 := (Nat.le_trans F77 K81.1)
    have F93 := (F71.keep K81 nin0)
    have F94 := (F72.keep K81 nin0)
    have F95 := (F73.keep K81 nin0)
    have F96 := (F78.keep K81)
    refine Go.callV C F91 (hw _ (List.mem_of_getElem? (i := 18) rfl)) (hw _ (List.mem_of_getElem? (i := 19) rfl)) (notFace_of_selects (args := #[]) (mvT C.z (hw _ (List.mem_of_getElem? (i := 21) rfl)))) (hw _ (List.mem_of_getElem? (i := 21) rfl)) (hw _ (List.mem_of_getElem? (i := 20) rfl)) (hw _ (List.mem_of_getElem? (i := 5) rfl)) (hw _ (List.mem_of_getElem? (i := 22) rfl)) (c_str0 W.l Z a0 hw a55 h79 n0 a17 a35 v1 (upd (upd (upd (fun _ => (0 : Int64)) 0 p0) 1 p1) 2 p2) (upd (upd (upd (fun _ => (0 : Int32)) 0 v2) 1 v4) 2 v7) F92 F93 F94 F95 F89 F96 F90 bnds.1 bnds.2.1 (own_fl _ _ _ bnds.2.2.1 bnds.2.2.2.1 bnds.2.2.2.2)) at_209 pd__40I_41_91Z (q := 212) rfl rfl (argsL := [(.int (0 : Int32))]) (st := []) rfl rfl (w := 0) rfl (by decide) (by decide) (k' := 7) rfl (n' := 399) rfl (by decide) (by decide) ?_
    intro v h97 q
    obtain ⟨a98, rfl, K99, g100, y101, F102⟩ := q
    have ne103 : a17 ≠ a98 := Nat.ne_of_lt (Nat.lt_of_lt_of_le F89.lt y101)
    have ne104 : a35 ≠ a98 := Nat.ne_of_lt (Nat.lt_of_lt_of_le F90.lt y101)
    have ne105 : a55 ≠ a98 := Nat.ne_of_lt (Nat.lt_of_lt_of_le F91.lt y101)
    have ne106 : a80 ≠ a98 := Nat.ne_of_lt (Nat.lt_of_lt_of_le F84.lt y101)
    obtain ⟨f107, hf107⟩ : ∃ u : Nat → Int32, u = own_bv (upd (upd (upd (fun _ => (0 : Int64)) 0 p0) 1 p1) 2 p2) := ⟨_, rfl⟩
    change Av Z h97 a98 .boolean v1.toNatClampNeg (iF (own_bv (upd (upd (upd (fun _ => (0 : Int64)) 0 p0) 1 p1) 2 p2))) at F102
    rw [← hf107] at F102
    show Go W n0 QL h97 7 399 212 #[.val (.long p0), .second, .val (.long p1), .second, .val (.long p2), .second, .val (.int p3), .val (.int p4), .val (.int p5), .val (.int v1), .val (.int v2), .val (.int v4), .val (.int v7), .val (.int v8), .val (.int v9), .val (.int v14), .val (.int (0 : Int32)), .val (.ref a17), .val (.ref a35), .val (.ref a55), .val (.ref a80), .unset, .unset, .unset, .unset, .unset] [(.ref a98)]
    refine Go.astore C at_212 (q := 214) rfl (l' := #[.val (.long p0), .second, .val (.long p1), .second, .val (.long p2), .second, .val (.int p3), .val (.int p4), .val (.int p5), .val (.int v1), .val (.int v2), .val (.int v4), .val (.int v7), .val (.int v8), .val (.int v9), .val (.int v14), .val (.int (0 : Int32)), .val (.ref a17), .val (.ref a35), .val (.ref a55), .val (.ref a80), .val (.ref a98), .unset, .unset, .unset, .unset]) rfl rfl ?_
    refine Go.aload C at_214 (q := 216) rfl rfl rfl ?_
    have F108 := (F84.keep K99 nin0)
    refine Go.alenZ C F108 bnds.1 at_216 (q := 217) rfl ?_
    refine Go.iload C at_217 (q := 219) rfl rfl ?_
    refine Go.icmp C at_219 (n_ne _ _) (qt := 230) (q := 222) (by decide) (by decide) rfl (fun b109 => ?_) (fun b109 => ?_)
    ·
      refine Go.iconst C (0 : Int32) at_230 (q := 231) rfl rfl ?_
      exact (fin0 p0 p1 p2 p3 p4 p5 v1 hv1 v2 hv2 v3 hv3 v4 hv4 v7 hv7 v8 hv8 v9 hv9 v14 hv14  bnds0  hv15 f88 hf88 f107 hf107  b109).elim
    ·
      have b109 := Classical.not_not.mp b109
      refine Go.aload C at_222 (q := 224) rfl rfl rfl ?_
      refine Go.alenZ C F102 bnds.1 at_224 (q := 225) rfl ?_
      refine Go.iload C at_225 (q := 227) rfl rfl ?_
      refine Go.icmp C at_227 (n_eq _ _) (qt := 232) (q := 230) (by decide) (by decide) rfl (fun _ => ?_) (fun b110 => absurd b109 b110)
      refine Go.lloadN C at_232 (q := 233) rfl rfl ?_
      refine Go.lloadN C at_233 (q := 234) rfl rfl ?_
      refine Go.lload C at_234 (q := 236) rfl rfl ?_
      refine Go.iload C at_236 (q := 238) rfl rfl ?_
      refine Go.pureS C (hw _ (List.mem_of_getElem? (i := 33) rfl)) (hw _ (List.mem_of_getElem? (i := 34) rfl)) (hw _ (List.mem_of_getElem? (i := 35) rfl)) (hw _ (List.mem_of_getElem? (i := 36) rfl)) (c_f_bb W.l Z a0 hw p0 p1 p2 v9 h97 n0) at_238 pd__40JJJI_41Z (q := 241) rfl rfl (argsL := [(.long p0), (.long p1), (.long p2), (.int v9)]) (st := []) rfl rfl (w := 0) rfl (by decide) (by decide) (by decide) (by decide) ?_
      refine Go.istore C at_241 (q := 243) rfl (fun z => #[.val (.long p0), .second, .val (.long p1), .second, .val (.long p2), .second, .val (.int p3), .val (.int p4), .val (.int p5), .val (.int v1), .val (.int v2), .val (.int v4), .val (.int v7), .val (.int v8), .val (.int v9), .val (.int v14), .val (.int (0 : Int32)), .val (.ref a17), .val (.ref a35), .val (.ref a55), .val (.ref a80), .val (.ref a98), .val (.int z), .unset, .unset, .unset]) (fun _ => rfl) ?_
      intro v111 hv111
      refine Go.lloadN C at_243 (q := 244) rfl rfl ?_
      refine Go.lloadN C at_244 (q := 245) rfl rfl ?_
      refine Go.lload C at_245 (q := 247) rfl rfl ?_
      refine Go.iload C at_247 (q := 249) rfl rfl ?_
      refine Go.pureS C (hw _ (List.mem_of_getElem? (i := 33) rfl)) (hw _ (List.mem_of_getElem? (i := 34) rfl)) (hw _ (List.mem_of_getElem? (i := 35) rfl)) (hw _ (List.mem_of_getElem? (i := 36) rfl)) (c_f_bb W.l Z a0 hw p0 p1 p2 v14 h97 n0) at_249 pd__40JJJI_41Z (q := 252) rfl rfl (argsL := [(.long p0), (.long p1), (.long p2), (.int v14)]) (st := []) rfl rfl (w := 0) rfl (by decide) (by decide) (by decide) (by decide) ?_
      refine Go.istore C at_252 (q := 254) rfl (fun z => #[.val (.long p0), .second, .val (.long p1), .second, .val (.long p2), .second, .val (.int p3), .val (.int p4), .val (.int p5), .val (.int v1), .val (.int v2), .val (.int v4), .val (.int v7), .val (.int v8), .val (.int v9), .val (.int v14), .val (.int (0 : Int32)), .val (.ref a17), .val (.ref a35), .val (.ref a55), .val (.ref a80), .val (.ref a98), .val (.int v111), .val (.int z), .unset, .unset]) (fun _ => rfl) ?_
      intro v112 hv112
      refine Go.iload C at_254 (q := 256) rfl rfl ?_
      refine Go.iload C at_256 (q := 258) rfl rfl ?_
      refine Go.iload C at_258 (q := 260) rfl rfl ?_
      refine Go.iload C at_260 (q := 262) rfl rfl ?_
      refine Go.iload C at_262 (q := 264) rfl rfl ?_
      refine Go.iload C at_264 (q := 266) rfl rfl ?_
      refine Go.pureS C (hw _ (List.mem_of_getElem? (i := 37) rfl)) (hw _ (List.mem_of_getElem? (i := 38) rfl)) (hw _ (List.mem_of_getElem? (i := 35) rfl)) (hw _ (List.mem_of_getElem? (i := 39) rfl)) (c_f_fl W.l Z a0 hw v2 v4 v7 (0 : Int32) v9 h97 n0) at_266 pd__40IIIII_41Z (q := 269) rfl rfl (argsL := [(.int v2), (.int v4), (.int v7), (.int (0 : Int32)), (.int v9)]) (st := [(.int v111)]) rfl rfl (w := 1) rfl (by decide) (by decide) (by decide) (by decide) ?_
      refine Go.ixor C at_269 (q := 270) rfl ?_
      refine Go.istore C at_270 (q := 272) rfl (fun z => #[.val (.long p0), .second, .val (.long p1), .second, .val (.long p2), .second, .val (.int p3), .val (.int p4), .val (.int p5), .val (.int v1), .val (.int v2), .val (.int v4), .val (.int v7), .val (.int v8), .val (.int v9), .val (.int v14), .val (.int (0 : Int32)), .val (.ref a17), .val (.ref a35), .val (.ref a55), .val (.ref a80), .val (.ref a98), .val (.int v111), .val (.int v112), .val (.int z), .unset]) (fun _ => rfl) ?_
      intro v113 hv113
      refine Go.iload C at_272 (q := 274) rfl rfl ?_
      refine Go.iload C at_274 (q := 276) rfl rfl ?_
      refine Go.iload C at_276 (q := 278) rfl rfl ?_
      refine Go.iload C at_278 (q := 280) rfl rfl ?_
      refine Go.iload C at_280 (q := 282) rfl rfl ?_
      refine Go.iload C at_282 (q := 284) rfl rfl ?_
      refine Go.pureS C (hw _ (List.mem_of_getElem? (i := 37) rfl)) (hw _ (List.mem_of_getElem? (i := 38) rfl)) (hw _ (List.mem_of_getElem? (i := 35) rfl)) (hw _ (List.mem_of_getElem? (i := 39) rfl)) (c_f_fl W.l Z a0 hw v2 v4 v7 (0 : Int32) v14 h97 n0) at_284 pd__40IIIII_41Z (q := 287) rfl rfl (argsL := [(.int v2), (.int v4), (.int v7), (.int (0 : Int32)), (.int v14)]) (st := [(.int v112)]) rfl rfl (w := 1) rfl (by decide) (by decide) (by decide) (by decide) ?_
      refine Go.ixor C at_287 (q := 288) rfl ?_
      refine Go.istore C at_288 (q := 290) rfl (fun z => #[.val (.long p0), .second, .val (.long p1), .second, .val (.long p2), .second, .val (.int p3), .val (.int p4), .val (.int p5), .val (.int v1), .val (.int v2), .val (.int v4), .val (.int v7), .val (.int v8), .val (.int v9), .val (.int v14), .val (.int (0 : Int32)), .val (.ref a17), .val (.ref a35), .val (.ref a55), .val (.ref a80), .val (.ref a98), .val (.int v111), .val (.int v112), .val (.int v113), .val (.int z)]) (fun _ => rfl) ?_
      intro v114 hv114
      refine Go.aload C at_290 (q := 292) rfl rfl rfl ?_
      refine Go.iload C at_292 (q := 294) rfl rfl ?_
      refine Go.zaload C F108 v9.toNatClampNeg (v := (.int (f88 v9.toNatClampNeg))) rfl bnds0.2.2.2.2.2.1.1 bnds0.2.2.2.2.2.1.2 rfl at_294 (q := 295) rfl ?_
      refine Go.iload C at_295 (q := 297) rfl rfl ?_
      suffices J116 : ∀ v115 : Int32, v115 = (if (f88 v9.toNatClampNeg) = v113 then (if (f88 v14.toNatClampNeg) = v114 then (if (f107 v9.toNatClampNeg) = v111 then (if (f107 v14.toNatClampNeg) = v112 then (if p0 = p0 then (if p1 = p1 then (if p2 = p2 then (1 : Int32) else (0 : Int32)) else (0 : Int32)) else (0 : Int32)) else (0 : Int32)) else (0 : Int32)) else (0 : Int32)) else (0 : Int32)) → Go W n0 QL h97 7 399 363 #[.val (.long p0), .second, .val (.long p1), .second, .val (.long p2), .second, .val (.int p3), .val (.int p4), .val (.int p5), .val (.int v1), .val (.int v2), .val (.int v4), .val (.int v7), .val (.int v8), .val (.int v9), .val (.int v14), .val (.int (0 : Int32)), .val (.ref a17), .val (.ref a35), .val (.ref a55), .val (.ref a80), .val (.ref a98), .val (.int v111), .val (.int v112), .val (.int v113), .val (.int v114)] [(.int v115)] by
        refine Go.icmp C at_297 (n_ne _ _) (qt := 362) (q := 300) (by decide) (by decide) rfl (fun b117 => ?_) (fun b117 => ?_)
        ·
          refine Go.iconst C (0 : Int32) at_362 (q := 363) rfl rfl ?_
          exact J116 _ (by rw [if_neg b117])
        ·
          have b117 := Classical.not_not.mp b117
          refine Go.aload C at_300 (q := 302) rfl rfl rfl ?_
          refine Go.iload C at_302 (q := 304) rfl rfl ?_
          refine Go.zaload C F108 v14.toNatClampNeg (v := (.int (f88 v14.toNatClampNeg))) rfl bnds0.2.2.2.2.2.2.1 bnds0.2.2.2.2.2.2.2 rfl at_304 (q := 305) rfl ?_
          refine Go.iload C at_305 (q := 307) rfl rfl ?_
          refine Go.icmp C at_307 (n_ne _ _) (qt := 362) (q := 310) (by decide) (by decide) rfl (fun b118 => ?_) (fun b118 => ?_)
          ·
            refine Go.iconst C (0 : Int32) at_362 (q := 363) rfl rfl ?_
            exact J116 _ (by rw [if_pos b117, if_neg b118])
          ·
            have b118 := Classical.not_not.mp b118
            refine Go.aload C at_310 (q := 312) rfl rfl rfl ?_
            refine Go.iload C at_312 (q := 314) rfl rfl ?_
            refine Go.zaload C F102 v9.toNatClampNeg (v := (.int (f107 v9.toNatClampNeg))) rfl bnds0.2.2.2.2.2.1.1 bnds0.2.2.2.2.2.1.2 rfl at_314 (q := 315) rfl ?_
            refine Go.iload C at_315 (q := 317) rfl rfl ?_
            refine Go.icmp C at_317 (n_ne _ _) (qt := 362) (q := 320) (by decide) (by decide) rfl (fun b119 => ?_) (fun b119 => ?_)
            ·
              refine Go.iconst C (0 : Int32) at_362 (q := 363) rfl rfl ?_
              exact J116 _ (by rw [if_pos b117, if_pos b118, if_neg b119])
            ·
              have b119 := Classical.not_not.mp b119
              refine Go.aload C at_320 (q := 322) rfl rfl rfl ?_
              refine Go.iload C at_322 (q := 324) rfl rfl ?_
              refine Go.zaload C F102 v14.toNatClampNeg (v := (.int (f107 v14.toNatClampNeg))) rfl bnds0.2.2.2.2.2.2.1 bnds0.2.2.2.2.2.2.2 rfl at_324 (q := 325) rfl ?_
              refine Go.iload C at_325 (q := 327) rfl rfl ?_
              refine Go.icmp C at_327 (n_ne _ _) (qt := 362) (q := 330) (by decide) (by decide) rfl (fun b120 => ?_) (fun b120 => ?_)
              ·
                refine Go.iconst C (0 : Int32) at_362 (q := 363) rfl rfl ?_
                exact J116 _ (by rw [if_pos b117, if_pos b118, if_pos b119, if_neg b120])
              ·
                have b120 := Classical.not_not.mp b120
                refine Go.aload C at_330 (q := 332) rfl rfl rfl ?_
                refine Go.iconst C (0 : Int32) at_332 (q := 333) rfl rfl ?_
                have F121 := (F89.keep K99 nin0)
                refine Go.laload C F121 0 (v := (.long p0)) (by decide) (by decide) (by decide) rfl at_333 (q := 334) rfl ?_
                refine Go.lloadN C at_334 (q := 335) rfl rfl ?_
                refine Go.lcmp C at_335 (q := 336) rfl ?_
                refine Go.if0 C at_336 (l_ne _ _) (qt := 362) (q := 339) (by decide) (by decide) rfl (fun b122 => ?_) (fun b122 => ?_)
                ·
                  refine Go.iconst C (0 : Int32) at_362 (q := 363) rfl rfl ?_
                  exact J116 _ (by rw [if_pos b117, if_pos b118, if_pos b119, if_pos b120, if_neg b122])
                ·
                  have b122 := Classical.not_not.mp b122
                  refine Go.aload C at_339 (q := 341) rfl rfl rfl ?_
                  refine Go.iconst C (1 : Int32) at_341 (q := 342) rfl rfl ?_
                  refine Go.laload C F121 1 (v := (.long p1)) (by decide) (by decide) (by decide) rfl at_342 (q := 343) rfl ?_
                  refine Go.lloadN C at_343 (q := 344) rfl rfl ?_
                  refine Go.lcmp C at_344 (q := 345) rfl ?_
                  refine Go.if0 C at_345 (l_ne _ _) (qt := 362) (q := 348) (by decide) (by decide) rfl (fun b123 => ?_) (fun b123 => ?_)
                  ·
                    refine Go.iconst C (0 : Int32) at_362 (q := 363) rfl rfl ?_
                    exact J116 _ (by rw [if_pos b117, if_pos b118, if_pos b119, if_pos b120, if_pos b122, if_neg b123])
                  ·
                    have b123 := Classical.not_not.mp b123
                    refine Go.aload C at_348 (q := 350) rfl rfl rfl ?_
                    refine Go.iconst C (2 : Int32) at_350 (q := 351) rfl rfl ?_
                    refine Go.laload C F121 2 (v := (.long p2)) (by decide) (by decide) (by decide) rfl at_351 (q := 352) rfl ?_
                    refine Go.lload C at_352 (q := 354) rfl rfl ?_
                    refine Go.lcmp C at_354 (q := 355) rfl ?_
                    refine Go.if0 C at_355 (l_ne _ _) (qt := 362) (q := 358) (by decide) (by decide) rfl (fun b124 => ?_) (fun b124 => ?_)
                    ·
                      refine Go.iconst C (0 : Int32) at_362 (q := 363) rfl rfl ?_
                      exact J116 _ (by rw [if_pos b117, if_pos b118, if_pos b119, if_pos b120, if_pos b122, if_pos b123, if_neg b124])
                    ·
                      have b124 := Classical.not_not.mp b124
                      refine Go.iconst C (1 : Int32) at_358 (q := 359) rfl rfl ?_
                      refine Go.goto C at_359 (q := 363) (by decide) (by decide) ?_
                      exact J116 _ (by rw [if_pos b117, if_pos b118, if_pos b119, if_pos b120, if_pos b122, if_pos b123, if_pos b124])
      intro v115 hv115
      exact Go.retZ (t := .boolean) (by simp) C at_363 (by decide) (by decide) (congrArg (fun z => some (Value.int z)) (fin1 p0 p1 p2 p3 p4 p5 v1 hv1 v2 hv2 v3 hv3 v4 hv4 v7 hv7 v8 hv8 v9 hv9 v14 hv14  bnds0  hv15 f88 hf88 f107 hf107  b109 v111 hv111 v112 hv112 v113 hv113 v114 hv114 v115 hv115))
  ·
    refine Go.iconst C (3 : Int32) at_144 (q := 145) rfl rfl ?_
    refine Go.newPE C (hw _ (List.mem_of_getElem? (i := 1) rfl)) (by decide) (cap := 3) (by decide) (by decide) at_145 (q := 147) rfl (k' := 1) rfl (n' := 3) rfl (by decide) (by decide) (ad := "[J") (by decide) ?_
    intro h125 a126 cA127 g128 E129 Fn130 E132
    have g133 : n0 ≤ a126 := g128 ▸ Z0
    have F131 : Av Z h125 a126 .long 3 (jF (fun _ => (0 : Int64))) := Av.of Fn130
    refine Go.dup C at_147 (q := 148) rfl rfl ?_
    refine Go.iconst C (0 : Int32) at_148 (q := 149) rfl rfl ?_
    refine Go.lloadN C at_149 (q := 150) rfl rfl ?_
    refine Go.lastore C F131 0 (by decide) (by decide) (by decide) g133 at_150 (q := 151) rfl ?_
    intro h134 W135
    have F136 := F131.sameJ W135
    refine Go.dup C at_151 (q := 152) rfl rfl ?_
    refine Go.iconst C (1 : Int32) at_152 (q := 153) rfl rfl ?_
    refine Go.lloadN C at_153 (q := 154) rfl rfl ?_
    refine Go.lastore C F136 1 (by decide) (by decide) (by decide) g133 at_154 (q := 155) rfl ?_
    intro h137 W138
    have F139 := F136.sameJ W138
    refine Go.dup C at_155 (q := 156) rfl rfl ?_
    refine Go.iconst C (2 : Int32) at_156 (q := 157) rfl rfl ?_
    refine Go.lload C at_157 (q := 159) rfl rfl ?_
    refine Go.lastore C F139 2 (by decide) (by decide) (by decide) g133 at_159 (q := 160) rfl ?_
    intro h140 W141
    have F142 := F139.sameJ W141
    refine Go.astore C at_160 (q := 162) rfl (l' := #[.val (.long p0), .second, .val (.long p1), .second, .val (.long p2), .second, .val (.int p3), .val (.int p4), .val (.int p5), .val (.int v1), .val (.int v2), .val (.int v4), .val (.int v7), .val (.int v8), .val (.int v9), .val (.int v14), .val (.int (1 : Int32)), .val (.ref a126), .unset, .unset, .unset, .unset, .unset, .unset, .unset, .unset]) rfl rfl ?_
    refine Go.iconst C (3 : Int32) at_162 (q := 163) rfl rfl ?_
    refine Go.newPE C (hw _ (List.mem_of_getElem? (i := 2) rfl)) (by decide) (cap := 3) (by decide) (by decide) at_163 (q := 165) rfl (k' := 2) rfl (n' := 6) rfl (by decide) (by decide) (ad := "[I") (by decide) ?_
    intro h143 a144 cA145 g146 E147 Fn148 E150
    have F151 := (Nat.le_trans (Nat.le_trans (Nat.le_trans (Nat.le_trans Z0 E129.1) (Nat.le_of_eq W135.size.symm)) (Nat.le_of_eq W138.size.symm)) (Nat.le_of_eq W141.size.symm))
    have g152 : n0 ≤ a144 := g146 ▸ F151
    have ne153 : a126 ≠ a144 := Nat.ne_of_lt (g146 ▸ F142.lt)
    have F149 : Av Z h143 a144 .int 3 (iF (fun _ => (0 : Int32))) := Av.of Fn148
    refine Go.dup C at_165 (q := 166) rfl rfl ?_
    refine Go.iconst C (0 : Int32) at_166 (q := 167) rfl rfl ?_
    refine Go.iload C at_167 (q := 169) rfl rfl ?_
    refine Go.iastore C F149 0 (by decide) (by decide) (by decide) g152 at_169 (q := 170) rfl ?_
    intro h154 W155
    have F156 := F149.sameI W155
    refine Go.dup C at_170 (q := 171) rfl rfl ?_
    refine Go.iconst C (1 : Int32) at_171 (q := 172) rfl rfl ?_
    refine Go.iload C at_172 (q := 174) rfl rfl ?_
    refine Go.iastore C F156 1 (by decide) (by decide) (by decide) g152 at_174 (q := 175) rfl ?_
    intro h157 W158
    have F159 := F156.sameI W158
    refine Go.dup C at_175 (q := 176) rfl rfl ?_
    refine Go.iconst C (2 : Int32) at_176 (q := 177) rfl rfl ?_
    refine Go.iload C at_177 (q := 179) rfl rfl ?_
    refine Go.iastore C F159 2 (by decide) (by decide) (by decide) g152 at_179 (q := 180) rfl ?_
    intro h160 W161
    have F162 := F159.sameI W161
    refine Go.astore C at_180 (q := 182) rfl (l' := #[.val (.long p0), .second, .val (.long p1), .second, .val (.long p2), .second, .val (.int p3), .val (.int p4), .val (.int p5), .val (.int v1), .val (.int v2), .val (.int v4), .val (.int v7), .val (.int v8), .val (.int v9), .val (.int v14), .val (.int (1 : Int32)), .val (.ref a126), .val (.ref a144), .unset, .unset, .unset, .unset, .unset, .unset, .unset]) rfl rfl ?_
    refine Go.newO C (hw _ (List.mem_of_getElem? (i := 3) rfl)) (hw _ (List.mem_of_getElem? (i := 4) rfl)) (hw _ (List.mem_of_getElem? (i := 5) rfl)) at_182 (q := 185) rfl (k' := 3) rfl (n' := 9) rfl (by decide) (by decide) ?_
    intro h163 a164 g165 E166 A167 D168
    have F169 := (Nat.le_trans (Nat.le_trans (Nat.le_trans (Nat.le_trans F151 E147.1) (Nat.le_of_eq W155.size.symm)) (Nat.le_of_eq W158.size.symm)) (Nat.le_of_eq W161.size.symm))
    have g170 : n0 ≤ a164 := g165 ▸ F169
    have F172 := ((((F142.ext E147).other W155 ne153).other W158 ne153).other W161 ne153)
    have ne171 : a126 ≠ a164 := Nat.ne_of_lt (g165 ▸ F172.lt)
    have ne173 : a144 ≠ a164 := Nat.ne_of_lt (g165 ▸ F162.lt)
    have F174 : Fld Z h163 a164 "com/example/paretoloom/paretoloom/mnk/Trail" "bits" "I" (.int (0 : Int32)) := D168 (Or.inr (hw _ (List.mem_of_getElem? (i := 13) rfl))) (ty := .int) (by decide)
    have F175 : Fld Z h163 a164 "com/example/paretoloom/paretoloom/mnk/Trail" "base" "[J" .null := D168 (Or.inr (hw _ (List.mem_of_getElem? (i := 15) rfl))) (ty := (.array .long)) (by decide)
    have F176 : Fld Z h163 a164 "com/example/paretoloom/paretoloom/mnk/Trail" "flips" "[I" .null := D168 (Or.inr (hw _ (List.mem_of_getElem? (i := 17) rfl))) (ty := (.array .int)) (by decide)
    refine Go.dup C at_185 (q := 186) rfl rfl ?_
    refine Go.iload C at_186 (q := 188) rfl rfl ?_
    refine Go.aload C at_188 (q := 190) rfl rfl rfl ?_
    refine Go.aload C at_190 (q := 192) rfl rfl rfl ?_
    have F177 := (Nat.le_trans F169 E166.1)
    refine Go.callC C rfl (hw _ (List.mem_of_getElem? (i := 6) rfl)) (hw _ (List.mem_of_getElem? (i := 7) rfl)) (hw _ (List.mem_of_getElem? (i := 5) rfl)) (hw _ (List.mem_of_getElem? (i := 8) rfl)) (c_init W.l Z a0 hw a164 v1 a126 a144 h163 n0 (.int (0 : Int32)) .null .null F177 A167 g170 F174 F175 F176) at_192 pd__40I_91J_91I_41V (q := 195) rfl rfl (argsL := [(.int v1), (.ref a126), (.ref a144)]) (st := [(.ref a164)]) rfl rfl (w := 1) rfl (by decide) (by decide) (k' := 3) rfl (n' := 9) rfl (by decide) (by decide) ?_
    intro v h178 q
    obtain ⟨rfl, K179, F180, F181, F182⟩ := q
    show Go W n0 QL h178 3 9 195 #[.val (.long p0), .second, .val (.long p1), .second, .val (.long p2), .second, .val (.int p3), .val (.int p4), .val (.int p5), .val (.int v1), .val (.int v2), .val (.int v4), .val (.int v7), .val (.int v8), .val (.int v9), .val (.int v14), .val (.int (1 : Int32)), .val (.ref a126), .val (.ref a144), .unset, .unset, .unset, .unset, .unset, .unset, .unset] [(.ref a164)]
    refine Go.astore C at_195 (q := 197) rfl (l' := #[.val (.long p0), .second, .val (.long p1), .second, .val (.long p2), .second, .val (.int p3), .val (.int p4), .val (.int p5), .val (.int v1), .val (.int v2), .val (.int v4), .val (.int v7), .val (.int v8), .val (.int v9), .val (.int v14), .val (.int (1 : Int32)), .val (.ref a126), .val (.ref a144), .val (.ref a164), .unset, .unset, .unset, .unset, .unset, .unset]) rfl rfl ?_
    refine Go.aload C at_197 (q := 199) rfl rfl rfl ?_
    refine Go.iload C at_199 (q := 201) rfl rfl ?_
    have F183 := ((F172.ext E166).keep K179 (ninS ne171 nin0))
    have F184 := ((F162.ext E166).keep K179 (ninS ne173 nin0))
    have F185 := (A167.keep K179)
    have F186 := (Nat.le_trans F177 K179.1)
    have F187 := (((((((((E132.wr W135).wr W138).wr W141).ext E147).wr W155).wr W158).wr W161).ext E166).keep K179)
    refine Go.callV C F185 (hw _ (List.mem_of_getElem? (i := 18) rfl)) (hw _ (List.mem_of_getElem? (i := 19) rfl)) (notFace_of_selects (args := #[]) (mvT C.z (hw _ (List.mem_of_getElem? (i := 21) rfl)))) (hw _ (List.mem_of_getElem? (i := 21) rfl)) (hw _ (List.mem_of_getElem? (i := 20) rfl)) (hw _ (List.mem_of_getElem? (i := 5) rfl)) (hw _ (List.mem_of_getElem? (i := 22) rfl)) (c_str1 W.l Z a0 hw a164 h178 n0 a126 a144 v1 (upd (upd (upd (fun _ => (0 : Int64)) 0 p0) 1 p1) 2 p2) (upd (upd (upd (fun _ => (0 : Int32)) 0 v2) 1 v4) 2 v7) F186 F180 F181 F182 F183 F187 F184 bnds.1 bnds.2.1 (own_fl _ _ _ bnds.2.2.1 bnds.2.2.2.1 bnds.2.2.2.2)) at_201 pd__40I_41_91Z (q := 204) rfl rfl (argsL := [(.int (1 : Int32))]) (st := []) rfl rfl (w := 0) rfl (by decide) (by decide) (k' := 5) rfl (n' := 204) rfl (by decide) (by decide) ?_
    intro v h188 q
    obtain ⟨a189, rfl, K190, g191, y192, F193⟩ := q
    have ne194 : a126 ≠ a189 := Nat.ne_of_lt (Nat.lt_of_lt_of_le F183.lt y192)
    have ne195 : a144 ≠ a189 := Nat.ne_of_lt (Nat.lt_of_lt_of_le F184.lt y192)
    have ne196 : a164 ≠ a189 := Nat.ne_of_lt (Nat.lt_of_lt_of_le F185.lt y192)
    obtain ⟨f197, hf197⟩ : ∃ u : Nat → Int32, u = own_bv (own_flip (upd (upd (upd (fun _ => (0 : Int64)) 0 p0) 1 p1) 2 p2) v2) := ⟨_, rfl⟩
    change Av Z h188 a189 .boolean v1.toNatClampNeg (iF (own_bv (own_flip (upd (upd (upd (fun _ => (0 : Int64)) 0 p0) 1 p1) 2 p2) v2))) at F193
    rw [← hf197] at F193
    show Go W n0 QL h188 5 204 204 #[.val (.long p0), .second, .val (.long p1), .second, .val (.long p2), .second, .val (.int p3), .val (.int p4), .val (.int p5), .val (.int v1), .val (.int v2), .val (.int v4), .val (.int v7), .val (.int v8), .val (.int v9), .val (.int v14), .val (.int (1 : Int32)), .val (.ref a126), .val (.ref a144), .val (.ref a164), .unset, .unset, .unset, .unset, .unset, .unset] [(.ref a189)]
    refine Go.astore C at_204 (q := 206) rfl (l' := #[.val (.long p0), .second, .val (.long p1), .second, .val (.long p2), .second, .val (.int p3), .val (.int p4), .val (.int p5), .val (.int v1), .val (.int v2), .val (.int v4), .val (.int v7), .val (.int v8), .val (.int v9), .val (.int v14), .val (.int (1 : Int32)), .val (.ref a126), .val (.ref a144), .val (.ref a164), .val (.ref a189), .unset, .unset, .unset, .unset, .unset]) rfl rfl ?_
    refine Go.aload C at_206 (q := 208) rfl rfl rfl ?_
    refine Go.iconst C (0 : Int32) at_208 (q := 209) rfl rfl ?_
    have F198 := (F183.keep K190 nin0)
    have F199 := (F184.keep K190 nin0)
    have F200 := (F185.keep K190)
    have F201 := (Nat.le_trans F186 K190.1)
    have F202 := (F180.keep K190 nin0)
    have F203 := (F181.keep K190 nin0)
    have F204 := (F182.keep K190 nin0)
    have F205 := (F187.keep K190)
    refine Go.callV C F200 (hw _ (List.mem_of_getElem? (i := 18) rfl)) (hw _ (List.mem_of_getElem? (i := 19) rfl)) (notFace_of_selects (args := #[]) (mvT C.z (hw _ (List.mem_of_getElem? (i := 21) rfl)))) (hw _ (List.mem_of_getElem? (i := 21) rfl)) (hw _ (List.mem_of_getElem? (i := 20) rfl)) (hw _ (List.mem_of_getElem? (i := 5) rfl)) (hw _ (List.mem_of_getElem? (i := 22) rfl)) (c_str0 W.l Z a0 hw a164 h188 n0 a126 a144 v1 (upd (upd (upd (fun _ => (0 : Int64)) 0 p0) 1 p1) 2 p2) (upd (upd (upd (fun _ => (0 : Int32)) 0 v2) 1 v4) 2 v7) F201 F202 F203 F204 F198 F205 F199 bnds.1 bnds.2.1 (own_fl _ _ _ bnds.2.2.1 bnds.2.2.2.1 bnds.2.2.2.2)) at_209 pd__40I_41_91Z (q := 212) rfl rfl (argsL := [(.int (0 : Int32))]) (st := []) rfl rfl (w := 0) rfl (by decide) (by decide) (k' := 7) rfl (n' := 399) rfl (by decide) (by decide) ?_
    intro v h206 q
    obtain ⟨a207, rfl, K208, g209, y210, F211⟩ := q
    have ne212 : a126 ≠ a207 := Nat.ne_of_lt (Nat.lt_of_lt_of_le F198.lt y210)
    have ne213 : a144 ≠ a207 := Nat.ne_of_lt (Nat.lt_of_lt_of_le F199.lt y210)
    have ne214 : a164 ≠ a207 := Nat.ne_of_lt (Nat.lt_of_lt_of_le F200.lt y210)
    have ne215 : a189 ≠ a207 := Nat.ne_of_lt (Nat.lt_of_lt_of_le F193.lt y210)
    obtain ⟨f216, hf216⟩ : ∃ u : Nat → Int32, u = own_bv (upd (upd (upd (fun _ => (0 : Int64)) 0 p0) 1 p1) 2 p2) := ⟨_, rfl⟩
    change Av Z h206 a207 .boolean v1.toNatClampNeg (iF (own_bv (upd (upd (upd (fun _ => (0 : Int64)) 0 p0) 1 p1) 2 p2))) at F211
    rw [← hf216] at F211
    show Go W n0 QL h206 7 399 212 #[.val (.long p0), .second, .val (.long p1), .second, .val (.long p2), .second, .val (.int p3), .val (.int p4), .val (.int p5), .val (.int v1), .val (.int v2), .val (.int v4), .val (.int v7), .val (.int v8), .val (.int v9), .val (.int v14), .val (.int (1 : Int32)), .val (.ref a126), .val (.ref a144), .val (.ref a164), .val (.ref a189), .unset, .unset, .unset, .unset, .unset] [(.ref a207)]
    refine Go.astore C at_212 (q := 214) rfl (l' := #[.val (.long p0), .second, .val (.long p1), .second, .val (.long p2), .second, .val (.int p3), .val (.int p4), .val (.int p5), .val (.int v1), .val (.int v2), .val (.int v4), .val (.int v7), .val (.int v8), .val (.int v9), .val (.int v14), .val (.int (1 : Int32)), .val (.ref a126), .val (.ref a144), .val (.ref a164), .val (.ref a189), .val (.ref a207), .unset, .unset, .unset, .unset]) rfl rfl ?_
    refine Go.aload C at_214 (q := 216) rfl rfl rfl ?_
    have F217 := (F193.keep K208 nin0)
    refine Go.alenZ C F217 bnds.1 at_216 (q := 217) rfl ?_
    refine Go.iload C at_217 (q := 219) rfl rfl ?_
    refine Go.icmp C at_219 (n_ne _ _) (qt := 230) (q := 222) (by decide) (by decide) rfl (fun b218 => ?_) (fun b218 => ?_)
    ·
      refine Go.iconst C (0 : Int32) at_230 (q := 231) rfl rfl ?_
      exact (fin2 p0 p1 p2 p3 p4 p5 v1 hv1 v2 hv2 v3 hv3 v4 hv4 v7 hv7 v8 hv8 v9 hv9 v14 hv14  bnds0  hv15 f197 hf197 f216 hf216  b218).elim
    ·
      have b218 := Classical.not_not.mp b218
      refine Go.aload C at_222 (q := 224) rfl rfl rfl ?_
      refine Go.alenZ C F211 bnds.1 at_224 (q := 225) rfl ?_
      refine Go.iload C at_225 (q := 227) rfl rfl ?_
      refine Go.icmp C at_227 (n_eq _ _) (qt := 232) (q := 230) (by decide) (by decide) rfl (fun _ => ?_) (fun b219 => absurd b218 b219)
      refine Go.lloadN C at_232 (q := 233) rfl rfl ?_
      refine Go.lloadN C at_233 (q := 234) rfl rfl ?_
      refine Go.lload C at_234 (q := 236) rfl rfl ?_
      refine Go.iload C at_236 (q := 238) rfl rfl ?_
      refine Go.pureS C (hw _ (List.mem_of_getElem? (i := 33) rfl)) (hw _ (List.mem_of_getElem? (i := 34) rfl)) (hw _ (List.mem_of_getElem? (i := 35) rfl)) (hw _ (List.mem_of_getElem? (i := 36) rfl)) (c_f_bb W.l Z a0 hw p0 p1 p2 v9 h206 n0) at_238 pd__40JJJI_41Z (q := 241) rfl rfl (argsL := [(.long p0), (.long p1), (.long p2), (.int v9)]) (st := []) rfl rfl (w := 0) rfl (by decide) (by decide) (by decide) (by decide) ?_
      refine Go.istore C at_241 (q := 243) rfl (fun z => #[.val (.long p0), .second, .val (.long p1), .second, .val (.long p2), .second, .val (.int p3), .val (.int p4), .val (.int p5), .val (.int v1), .val (.int v2), .val (.int v4), .val (.int v7), .val (.int v8), .val (.int v9), .val (.int v14), .val (.int (1 : Int32)), .val (.ref a126), .val (.ref a144), .val (.ref a164), .val (.ref a189), .val (.ref a207), .val (.int z), .unset, .unset, .unset]) (fun _ => rfl) ?_
      intro v220 hv220
      refine Go.lloadN C at_243 (q := 244) rfl rfl ?_
      refine Go.lloadN C at_244 (q := 245) rfl rfl ?_
      refine Go.lload C at_245 (q := 247) rfl rfl ?_
      refine Go.iload C at_247 (q := 249) rfl rfl ?_
      refine Go.pureS C (hw _ (List.mem_of_getElem? (i := 33) rfl)) (hw _ (List.mem_of_getElem? (i := 34) rfl)) (hw _ (List.mem_of_getElem? (i := 35) rfl)) (hw _ (List.mem_of_getElem? (i := 36) rfl)) (c_f_bb W.l Z a0 hw p0 p1 p2 v14 h206 n0) at_249 pd__40JJJI_41Z (q := 252) rfl rfl (argsL := [(.long p0), (.long p1), (.long p2), (.int v14)]) (st := []) rfl rfl (w := 0) rfl (by decide) (by decide) (by decide) (by decide) ?_
      refine Go.istore C at_252 (q := 254) rfl (fun z => #[.val (.long p0), .second, .val (.long p1), .second, .val (.long p2), .second, .val (.int p3), .val (.int p4), .val (.int p5), .val (.int v1), .val (.int v2), .val (.int v4), .val (.int v7), .val (.int v8), .val (.int v9), .val (.int v14), .val (.int (1 : Int32)), .val (.ref a126), .val (.ref a144), .val (.ref a164), .val (.ref a189), .val (.ref a207), .val (.int v220), .val (.int z), .unset, .unset]) (fun _ => rfl) ?_
      intro v221 hv221
      refine Go.iload C at_254 (q := 256) rfl rfl ?_
      refine Go.iload C at_256 (q := 258) rfl rfl ?_
      refine Go.iload C at_258 (q := 260) rfl rfl ?_
      refine Go.iload C at_260 (q := 262) rfl rfl ?_
      refine Go.iload C at_262 (q := 264) rfl rfl ?_
      refine Go.iload C at_264 (q := 266) rfl rfl ?_
      refine Go.pureS C (hw _ (List.mem_of_getElem? (i := 37) rfl)) (hw _ (List.mem_of_getElem? (i := 38) rfl)) (hw _ (List.mem_of_getElem? (i := 35) rfl)) (hw _ (List.mem_of_getElem? (i := 39) rfl)) (c_f_fl W.l Z a0 hw v2 v4 v7 (1 : Int32) v9 h206 n0) at_266 pd__40IIIII_41Z (q := 269) rfl rfl (argsL := [(.int v2), (.int v4), (.int v7), (.int (1 : Int32)), (.int v9)]) (st := [(.int v220)]) rfl rfl (w := 1) rfl (by decide) (by decide) (by decide) (by decide) ?_
      refine Go.ixor C at_269 (q := 270) rfl ?_
      refine Go.istore C at_270 (q := 272) rfl (fun z => #[.val (.long p0), .second, .val (.long p1), .second, .val (.long p2), .second, .val (.int p3), .val (.int p4), .val (.int p5), .val (.int v1), .val (.int v2), .val (.int v4), .val (.int v7), .val (.int v8), .val (.int v9), .val (.int v14), .val (.int (1 : Int32)), .val (.ref a126), .val (.ref a144), .val (.ref a164), .val (.ref a189), .val (.ref a207), .val (.int v220), .val (.int v221), .val (.int z), .unset]) (fun _ => rfl) ?_
      intro v222 hv222
      refine Go.iload C at_272 (q := 274) rfl rfl ?_
      refine Go.iload C at_274 (q := 276) rfl rfl ?_
      refine Go.iload C at_276 (q := 278) rfl rfl ?_
      refine Go.iload C at_278 (q := 280) rfl rfl ?_
      refine Go.iload C at_280 (q := 282) rfl rfl ?_
      refine Go.iload C at_282 (q := 284) rfl rfl ?_
      refine Go.pureS C (hw _ (List.mem_of_getElem? (i := 37) rfl)) (hw _ (List.mem_of_getElem? (i := 38) rfl)) (hw _ (List.mem_of_getElem? (i := 35) rfl)) (hw _ (List.mem_of_getElem? (i := 39) rfl)) (c_f_fl W.l Z a0 hw v2 v4 v7 (1 : Int32) v14 h206 n0) at_284 pd__40IIIII_41Z (q := 287) rfl rfl (argsL := [(.int v2), (.int v4), (.int v7), (.int (1 : Int32)), (.int v14)]) (st := [(.int v221)]) rfl rfl (w := 1) rfl (by decide) (by decide) (by decide) (by decide) ?_
      refine Go.ixor C at_287 (q := 288) rfl ?_
      refine Go.istore C at_288 (q := 290) rfl (fun z => #[.val (.long p0), .second, .val (.long p1), .second, .val (.long p2), .second, .val (.int p3), .val (.int p4), .val (.int p5), .val (.int v1), .val (.int v2), .val (.int v4), .val (.int v7), .val (.int v8), .val (.int v9), .val (.int v14), .val (.int (1 : Int32)), .val (.ref a126), .val (.ref a144), .val (.ref a164), .val (.ref a189), .val (.ref a207), .val (.int v220), .val (.int v221), .val (.int v222), .val (.int z)]) (fun _ => rfl) ?_
      intro v223 hv223
      refine Go.aload C at_290 (q := 292) rfl rfl rfl ?_
      refine Go.iload C at_292 (q := 294) rfl rfl ?_
      refine Go.zaload C F217 v9.toNatClampNeg (v := (.int (f197 v9.toNatClampNeg))) rfl bnds0.2.2.2.2.2.1.1 bnds0.2.2.2.2.2.1.2 rfl at_294 (q := 295) rfl ?_
      refine Go.iload C at_295 (q := 297) rfl rfl ?_
      suffices J225 : ∀ v224 : Int32, v224 = (if (f197 v9.toNatClampNeg) = v222 then (if (f197 v14.toNatClampNeg) = v223 then (if (f216 v9.toNatClampNeg) = v220 then (if (f216 v14.toNatClampNeg) = v221 then (if p0 = p0 then (if p1 = p1 then (if p2 = p2 then (1 : Int32) else (0 : Int32)) else (0 : Int32)) else (0 : Int32)) else (0 : Int32)) else (0 : Int32)) else (0 : Int32)) else (0 : Int32)) → Go W n0 QL h206 7 399 363 #[.val (.long p0), .second, .val (.long p1), .second, .val (.long p2), .second, .val (.int p3), .val (.int p4), .val (.int p5), .val (.int v1), .val (.int v2), .val (.int v4), .val (.int v7), .val (.int v8), .val (.int v9), .val (.int v14), .val (.int (1 : Int32)), .val (.ref a126), .val (.ref a144), .val (.ref a164), .val (.ref a189), .val (.ref a207), .val (.int v220), .val (.int v221), .val (.int v222), .val (.int v223)] [(.int v224)] by
        refine Go.icmp C at_297 (n_ne _ _) (qt := 362) (q := 300) (by decide) (by decide) rfl (fun b226 => ?_) (fun b226 => ?_)
        ·
          refine Go.iconst C (0 : Int32) at_362 (q := 363) rfl rfl ?_
          exact J225 _ (by rw [if_neg b226])
        ·
          have b226 := Classical.not_not.mp b226
          refine Go.aload C at_300 (q := 302) rfl rfl rfl ?_
          refine Go.iload C at_302 (q := 304) rfl rfl ?_
          refine Go.zaload C F217 v14.toNatClampNeg (v := (.int (f197 v14.toNatClampNeg))) rfl bnds0.2.2.2.2.2.2.1 bnds0.2.2.2.2.2.2.2 rfl at_304 (q := 305) rfl ?_
          refine Go.iload C at_305 (q := 307) rfl rfl ?_
          refine Go.icmp C at_307 (n_ne _ _) (qt := 362) (q := 310) (by decide) (by decide) rfl (fun b227 => ?_) (fun b227 => ?_)
          ·
            refine Go.iconst C (0 : Int32) at_362 (q := 363) rfl rfl ?_
            exact J225 _ (by rw [if_pos b226, if_neg b227])
          ·
            have b227 := Classical.not_not.mp b227
            refine Go.aload C at_310 (q := 312) rfl rfl rfl ?_
            refine Go.iload C at_312 (q := 314) rfl rfl ?_
            refine Go.zaload C F211 v9.toNatClampNeg (v := (.int (f216 v9.toNatClampNeg))) rfl bnds0.2.2.2.2.2.1.1 bnds0.2.2.2.2.2.1.2 rfl at_314 (q := 315) rfl ?_
            refine Go.iload C at_315 (q := 317) rfl rfl ?_
            refine Go.icmp C at_317 (n_ne _ _) (qt := 362) (q := 320) (by decide) (by decide) rfl (fun b228 => ?_) (fun b228 => ?_)
            ·
              refine Go.iconst C (0 : Int32) at_362 (q := 363) rfl rfl ?_
              exact J225 _ (by rw [if_pos b226, if_pos b227, if_neg b228])
            ·
              have b228 := Classical.not_not.mp b228
              refine Go.aload C at_320 (q := 322) rfl rfl rfl ?_
              refine Go.iload C at_322 (q := 324) rfl rfl ?_
              refine Go.zaload C F211 v14.toNatClampNeg (v := (.int (f216 v14.toNatClampNeg))) rfl bnds0.2.2.2.2.2.2.1 bnds0.2.2.2.2.2.2.2 rfl at_324 (q := 325) rfl ?_
              refine Go.iload C at_325 (q := 327) rfl rfl ?_
              refine Go.icmp C at_327 (n_ne _ _) (qt := 362) (q := 330) (by decide) (by decide) rfl (fun b229 => ?_) (fun b229 => ?_)
              ·
                refine Go.iconst C (0 : Int32) at_362 (q := 363) rfl rfl ?_
                exact J225 _ (by rw [if_pos b226, if_pos b227, if_pos b228, if_neg b229])
              ·
                have b229 := Classical.not_not.mp b229
                refine Go.aload C at_330 (q := 332) rfl rfl rfl ?_
                refine Go.iconst C (0 : Int32) at_332 (q := 333) rfl rfl ?_
                have F230 := (F198.keep K208 nin0)
                refine Go.laload C F230 0 (v := (.long p0)) (by decide) (by decide) (by decide) rfl at_333 (q := 334) rfl ?_
                refine Go.lloadN C at_334 (q := 335) rfl rfl ?_
                refine Go.lcmp C at_335 (q := 336) rfl ?_
                refine Go.if0 C at_336 (l_ne _ _) (qt := 362) (q := 339) (by decide) (by decide) rfl (fun b231 => ?_) (fun b231 => ?_)
                ·
                  refine Go.iconst C (0 : Int32) at_362 (q := 363) rfl rfl ?_
                  exact J225 _ (by rw [if_pos b226, if_pos b227, if_pos b228, if_pos b229, if_neg b231])
                ·
                  have b231 := Classical.not_not.mp b231
                  refine Go.aload C at_339 (q := 341) rfl rfl rfl ?_
                  refine Go.iconst C (1 : Int32) at_341 (q := 342) rfl rfl ?_
                  refine Go.laload C F230 1 (v := (.long p1)) (by decide) (by decide) (by decide) rfl at_342 (q := 343) rfl ?_
                  refine Go.lloadN C at_343 (q := 344) rfl rfl ?_
                  refine Go.lcmp C at_344 (q := 345) rfl ?_
                  refine Go.if0 C at_345 (l_ne _ _) (qt := 362) (q := 348) (by decide) (by decide) rfl (fun b232 => ?_) (fun b232 => ?_)
                  ·
                    refine Go.iconst C (0 : Int32) at_362 (q := 363) rfl rfl ?_
                    exact J225 _ (by rw [if_pos b226, if_pos b227, if_pos b228, if_pos b229, if_pos b231, if_neg b232])
                  ·
                    have b232 := Classical.not_not.mp b232
                    refine Go.aload C at_348 (q := 350) rfl rfl rfl ?_
                    refine Go.iconst C (2 : Int32) at_350 (q := 351) rfl rfl ?_
                    refine Go.laload C F230 2 (v := (.long p2)) (by decide) (by decide) (by decide) rfl at_351 (q := 352) rfl ?_
                    refine Go.lload C at_352 (q := 354) rfl rfl ?_
                    refine Go.lcmp C at_354 (q := 355) rfl ?_
                    refine Go.if0 C at_355 (l_ne _ _) (qt := 362) (q := 358) (by decide) (by decide) rfl (fun b233 => ?_) (fun b233 => ?_)
                    ·
                      refine Go.iconst C (0 : Int32) at_362 (q := 363) rfl rfl ?_
                      exact J225 _ (by rw [if_pos b226, if_pos b227, if_pos b228, if_pos b229, if_pos b231, if_pos b232, if_neg b233])
                    ·
                      have b233 := Classical.not_not.mp b233
                      refine Go.iconst C (1 : Int32) at_358 (q := 359) rfl rfl ?_
                      refine Go.goto C at_359 (q := 363) (by decide) (by decide) ?_
                      exact J225 _ (by rw [if_pos b226, if_pos b227, if_pos b228, if_pos b229, if_pos b231, if_pos b232, if_pos b233])
      intro v224 hv224
      exact Go.retZ (t := .boolean) (by simp) C at_363 (by decide) (by decide) (congrArg (fun z => some (Value.int z)) (fin3 p0 p1 p2 p3 p4 p5 v1 hv1 v2 hv2 v3 hv3 v4 hv4 v7 hv7 v8 hv8 v9 hv9 v14 hv14  bnds0  hv15 f197 hf197 f216 hf216  b218 v220 hv220 v221 hv221 v222 hv222 v223 hv223 v224 hv224))
  ·
    refine Go.iconst C (3 : Int32) at_144 (q := 145) rfl rfl ?_
    refine Go.newPE C (hw _ (List.mem_of_getElem? (i := 1) rfl)) (by decide) (cap := 3) (by decide) (by decide) at_145 (q := 147) rfl (k' := 1) rfl (n' := 3) rfl (by decide) (by decide) (ad := "[J") (by decide) ?_
    intro h234 a235 cA236 g237 E238 Fn239 E241
    have g242 : n0 ≤ a235 := g237 ▸ Z0
    have F240 : Av Z h234 a235 .long 3 (jF (fun _ => (0 : Int64))) := Av.of Fn239
    refine Go.dup C at_147 (q := 148) rfl rfl ?_
    refine Go.iconst C (0 : Int32) at_148 (q := 149) rfl rfl ?_
    refine Go.lloadN C at_149 (q := 150) rfl rfl ?_
    refine Go.lastore C F240 0 (by decide) (by decide) (by decide) g242 at_150 (q := 151) rfl ?_
    intro h243 W244
    have F245 := F240.sameJ W244
    refine Go.dup C at_151 (q := 152) rfl rfl ?_
    refine Go.iconst C (1 : Int32) at_152 (q := 153) rfl rfl ?_
    refine Go.lloadN C at_153 (q := 154) rfl rfl ?_
    refine Go.lastore C F245 1 (by decide) (by decide) (by decide) g242 at_154 (q := 155) rfl ?_
    intro h246 W247
    have F248 := F245.sameJ W247
    refine Go.dup C at_155 (q := 156) rfl rfl ?_
    refine Go.iconst C (2 : Int32) at_156 (q := 157) rfl rfl ?_
    refine Go.lload C at_157 (q := 159) rfl rfl ?_
    refine Go.lastore C F248 2 (by decide) (by decide) (by decide) g242 at_159 (q := 160) rfl ?_
    intro h249 W250
    have F251 := F248.sameJ W250
    refine Go.astore C at_160 (q := 162) rfl (l' := #[.val (.long p0), .second, .val (.long p1), .second, .val (.long p2), .second, .val (.int p3), .val (.int p4), .val (.int p5), .val (.int v1), .val (.int v2), .val (.int v4), .val (.int v7), .val (.int v8), .val (.int v9), .val (.int v14), .val (.int (2 : Int32)), .val (.ref a235), .unset, .unset, .unset, .unset, .unset, .unset, .unset, .unset]) rfl rfl ?_
    refine Go.iconst C (3 : Int32) at_162 (q := 163) rfl rfl ?_
    refine Go.newPE C (hw _ (List.mem_of_getElem? (i := 2) rfl)) (by decide) (cap := 3) (by decide) (by decide) at_163 (q := 165) rfl (k' := 2) rfl (n' := 6) rfl (by decide) (by decide) (ad := "[I") (by decide) ?_
    intro h252 a253 cA254 g255 E256 Fn257 E259
    have F260 := (Nat.le_trans (Nat.le_trans (Nat.le_trans (Nat.le_trans Z0 E238.1) (Nat.le_of_eq W244.size.symm)) (Nat.le_of_eq W247.size.symm)) (Nat.le_of_eq W250.size.symm))
    have g261 : n0 ≤ a253 := g255 ▸ F260
    have ne262 : a235 ≠ a253 := Nat.ne_of_lt (g255 ▸ F251.lt)
    have F258 : Av Z h252 a253 .int 3 (iF (fun _ => (0 : Int32))) := Av.of Fn257
    refine Go.dup C at_165 (q := 166) rfl rfl ?_
    refine Go.iconst C (0 : Int32) at_166 (q := 167) rfl rfl ?_
    refine Go.iload C at_167 (q := 169) rfl rfl ?_
    refine Go.iastore C F258 0 (by decide) (by decide) (by decide) g261 at_169 (q := 170) rfl ?_
    intro h263 W264
    have F265 := F258.sameI W264
    refine Go.dup C at_170 (q := 171) rfl rfl ?_
    refine Go.iconst C (1 : Int32) at_171 (q := 172) rfl rfl ?_
    refine Go.iload C at_172 (q := 174) rfl rfl ?_
    refine Go.iastore C F265 1 (by decide) (by decide) (by decide) g261 at_174 (q := 175) rfl ?_
    intro h266 W267
    have F268 := F265.sameI W267
    refine Go.dup C at_175 (q := 176) rfl rfl ?_
    refine Go.iconst C (2 : Int32) at_176 (q := 177) rfl rfl ?_
    refine Go.iload C at_177 (q := 179) rfl rfl ?_
    refine Go.iastore C F268 2 (by decide) (by decide) (by decide) g261 at_179 (q := 180) rfl ?_
    intro h269 W270
    have F271 := F268.sameI W270
    refine Go.astore C at_180 (q := 182) rfl (l' := #[.val (.long p0), .second, .val (.long p1), .second, .val (.long p2), .second, .val (.int p3), .val (.int p4), .val (.int p5), .val (.int v1), .val (.int v2), .val (.int v4), .val (.int v7), .val (.int v8), .val (.int v9), .val (.int v14), .val (.int (2 : Int32)), .val (.ref a235), .val (.ref a253), .unset, .unset, .unset, .unset, .unset, .unset, .unset]) rfl rfl ?_
    refine Go.newO C (hw _ (List.mem_of_getElem? (i := 3) rfl)) (hw _ (List.mem_of_getElem? (i := 4) rfl)) (hw _ (List.mem_of_getElem? (i := 5) rfl)) at_182 (q := 185) rfl (k' := 3) rfl (n' := 9) rfl (by decide) (by decide) ?_
    intro h272 a273 g274 E275 A276 D277
    have F278 := (Nat.le_trans (Nat.le_trans (Nat.le_trans (Nat.le_trans F260 E256.1) (Nat.le_of_eq W264.size.symm)) (Nat.le_of_eq W267.size.symm)) (Nat.le_of_eq W270.size.symm))
    have g279 : n0 ≤ a273 := g274 ▸ F278
    have F281 := ((((F251.ext E256).other W264 ne262).other W267 ne262).other W270 ne262)
    have ne280 : a235 ≠ a273 := Nat.ne_of_lt (g274 ▸ F281.lt)
    have ne282 : a253 ≠ a273 := Nat.ne_of_lt (g274 ▸ F271.lt)
    have F283 : Fld Z h272 a273 "com/example/paretoloom/paretoloom/mnk/Trail" "bits" "I" (.int (0 : Int32)) := D277 (Or.inr (hw _ (List.mem_of_getElem? (i := 13) rfl))) (ty := .int) (by decide)
    have F284 : Fld Z h272 a273 "com/example/paretoloom/paretoloom/mnk/Trail" "base" "[J" .null := D277 (Or.inr (hw _ (List.mem_of_getElem? (i := 15) rfl))) (ty := (.array .long)) (by decide)
    have F285 : Fld Z h272 a273 "com/example/paretoloom/paretoloom/mnk/Trail" "flips" "[I" .null := D277 (Or.inr (hw _ (List.mem_of_getElem? (i := 17) rfl))) (ty := (.array .int)) (by decide)
    refine Go.dup C at_185 (q := 186) rfl rfl ?_
    refine Go.iload C at_186 (q := 188) rfl rfl ?_
    refine Go.aload C at_188 (q := 190) rfl rfl rfl ?_
    refine Go.aload C at_190 (q := 192) rfl rfl rfl ?_
    have F286 := (Nat.le_trans F278 E275.1)
    refine Go.callC C rfl (hw _ (List.mem_of_getElem? (i := 6) rfl)) (hw _ (List.mem_of_getElem? (i := 7) rfl)) (hw _ (List.mem_of_getElem? (i := 5) rfl)) (hw _ (List.mem_of_getElem? (i := 8) rfl)) (c_init W.l Z a0 hw a273 v1 a235 a253 h272 n0 (.int (0 : Int32)) .null .null F286 A276 g279 F283 F284 F285) at_192 pd__40I_91J_91I_41V (q := 195) rfl rfl (argsL := [(.int v1), (.ref a235), (.ref a253)]) (st := [(.ref a273)]) rfl rfl (w := 1) rfl (by decide) (by decide) (k' := 3) rfl (n' := 9) rfl (by decide) (by decide) ?_
    intro v h287 q
    obtain ⟨rfl, K288, F289, F290, F291⟩ := q
    show Go W n0 QL h287 3 9 195 #[.val (.long p0), .second, .val (.long p1), .second, .val (.long p2), .second, .val (.int p3), .val (.int p4), .val (.int p5), .val (.int v1), .val (.int v2), .val (.int v4), .val (.int v7), .val (.int v8), .val (.int v9), .val (.int v14), .val (.int (2 : Int32)), .val (.ref a235), .val (.ref a253), .unset, .unset, .unset, .unset, .unset, .unset, .unset] [(.ref a273)]
    refine Go.astore C at_195 (q := 197) rfl (l' := #[.val (.long p0), .second, .val (.long p1), .second, .val (.long p2), .second, .val (.int p3), .val (.int p4), .val (.int p5), .val (.int v1), .val (.int v2), .val (.int v4), .val (.int v7), .val (.int v8), .val (.int v9), .val (.int v14), .val (.int (2 : Int32)), .val (.ref a235), .val (.ref a253), .val (.ref a273), .unset, .unset, .unset, .unset, .unset, .unset]) rfl rfl ?_
    refine Go.aload C at_197 (q := 199) rfl rfl rfl ?_
    refine Go.iload C at_199 (q := 201) rfl rfl ?_
    have F292 := ((F281.ext E275).keep K288 (ninS ne280 nin0))
    have F293 := ((F271.ext E275).keep K288 (ninS ne282 nin0))
    have F294 := (A276.keep K288)
    have F295 := (Nat.le_trans F286 K288.1)
    have F296 := (((((((((E241.wr W244).wr W247).wr W250).ext E256).wr W264).wr W267).wr W270).ext E275).keep K288)
    refine Go.callV C F294 (hw _ (List.mem_of_getElem? (i := 18) rfl)) (hw _ (List.mem_of_getElem? (i := 19) rfl)) (notFace_of_selects (args := #[]) (mvT C.z (hw _ (List.mem_of_getElem? (i := 21) rfl)))) (hw _ (List.mem_of_getElem? (i := 21) rfl)) (hw _ (List.mem_of_getElem? (i := 20) rfl)) (hw _ (List.mem_of_getElem? (i := 5) rfl)) (hw _ (List.mem_of_getElem? (i := 22) rfl)) (c_str2 W.l Z a0 hw a273 h287 n0 a235 a253 v1 (upd (upd (upd (fun _ => (0 : Int64)) 0 p0) 1 p1) 2 p2) (upd (upd (upd (fun _ => (0 : Int32)) 0 v2) 1 v4) 2 v7) F295 F289 F290 F291 F292 F296 F293 bnds.1 bnds.2.1 (own_fl _ _ _ bnds.2.2.1 bnds.2.2.2.1 bnds.2.2.2.2)) at_201 pd__40I_41_91Z (q := 204) rfl rfl (argsL := [(.int (2 : Int32))]) (st := []) rfl rfl (w := 0) rfl (by decide) (by decide) (k' := 5) rfl (n' := 204) rfl (by decide) (by decide) ?_
    intro v h297 q
    obtain ⟨a298, rfl, K299, g300, y301, F302⟩ := q
    have ne303 : a235 ≠ a298 := Nat.ne_of_lt (Nat.lt_of_lt_of_le F292.lt y301)
    have ne304 : a253 ≠ a298 := Nat.ne_of_lt (Nat.lt_of_lt_of_le F293.lt y301)
    have ne305 : a273 ≠ a298 := Nat.ne_of_lt (Nat.lt_of_lt_of_le F294.lt y301)
    obtain ⟨f306, hf306⟩ : ∃ u : Nat → Int32, u = own_bv (own_flip (own_flip (upd (upd (upd (fun _ => (0 : Int64)) 0 p0) 1 p1) 2 p2) v2) v4) := ⟨_, rfl⟩
    change Av Z h297 a298 .boolean v1.toNatClampNeg (iF (own_bv (own_flip (own_flip (upd (upd (upd (fun _ => (0 : Int64)) 0 p0) 1 p1) 2 p2) v2) v4))) at F302
    rw [← hf306] at F302
    show Go W n0 QL h297 5 204 204 #[.val (.long p0), .second, .val (.long p1), .second, .val (.long p2), .second, .val (.int p3), .val (.int p4), .val (.int p5), .val (.int v1), .val (.int v2), .val (.int v4), .val (.int v7), .val (.int v8), .val (.int v9), .val (.int v14), .val (.int (2 : Int32)), .val (.ref a235), .val (.ref a253), .val (.ref a273), .unset, .unset, .unset, .unset, .unset, .unset] [(.ref a298)]
    refine Go.astore C at_204 (q := 206) rfl (l' := #[.val (.long p0), .second, .val (.long p1), .second, .val (.long p2), .second, .val (.int p3), .val (.int p4), .val (.int p5), .val (.int v1), .val (.int v2), .val (.int v4), .val (.int v7), .val (.int v8), .val (.int v9), .val (.int v14), .val (.int (2 : Int32)), .val (.ref a235), .val (.ref a253), .val (.ref a273), .val (.ref a298), .unset, .unset, .unset, .unset, .unset]) rfl rfl ?_
    refine Go.aload C at_206 (q := 208) rfl rfl rfl ?_
    refine Go.iconst C (0 : Int32) at_208 (q := 209) rfl rfl ?_
    have F307 := (F292.keep K299 nin0)
    have F308 := (F293.keep K299 nin0)
    have F309 := (F294.keep K299)
    have F310 := (Nat.le_trans F295 K299.1)
    have F311 := (F289.keep K299 nin0)
    have F312 := (F290.keep K299 nin0)
    have F313 := (F291.keep K299 nin0)
    have F314 := (F296.keep K299)
    refine Go.callV C F309 (hw _ (List.mem_of_getElem? (i := 18) rfl)) (hw _ (List.mem_of_getElem? (i := 19) rfl)) (notFace_of_selects (args := #[]) (mvT C.z (hw _ (List.mem_of_getElem? (i := 21) rfl)))) (hw _ (List.mem_of_getElem? (i := 21) rfl)) (hw _ (List.mem_of_getElem? (i := 20) rfl)) (hw _ (List.mem_of_getElem? (i := 5) rfl)) (hw _ (List.mem_of_getElem? (i := 22) rfl)) (c_str0 W.l Z a0 hw a273 h297 n0 a235 a253 v1 (upd (upd (upd (fun _ => (0 : Int64)) 0 p0) 1 p1) 2 p2) (upd (upd (upd (fun _ => (0 : Int32)) 0 v2) 1 v4) 2 v7) F310 F311 F312 F313 F307 F314 F308 bnds.1 bnds.2.1 (own_fl _ _ _ bnds.2.2.1 bnds.2.2.2.1 bnds.2.2.2.2)) at_209 pd__40I_41_91Z (q := 212) rfl rfl (argsL := [(.int (0 : Int32))]) (st := []) rfl rfl (w := 0) rfl (by decide) (by decide) (k' := 7) rfl (n' := 399) rfl (by decide) (by decide) ?_
    intro v h315 q
    obtain ⟨a316, rfl, K317, g318, y319, F320⟩ := q
    have ne321 : a235 ≠ a316 := Nat.ne_of_lt (Nat.lt_of_lt_of_le F307.lt y319)
    have ne322 : a253 ≠ a316 := Nat.ne_of_lt (Nat.lt_of_lt_of_le F308.lt y319)
    have ne323 : a273 ≠ a316 := Nat.ne_of_lt (Nat.lt_of_lt_of_le F309.lt y319)
    have ne324 : a298 ≠ a316 := Nat.ne_of_lt (Nat.lt_of_lt_of_le F302.lt y319)
    obtain ⟨f325, hf325⟩ : ∃ u : Nat → Int32, u = own_bv (upd (upd (upd (fun _ => (0 : Int64)) 0 p0) 1 p1) 2 p2) := ⟨_, rfl⟩
    change Av Z h315 a316 .boolean v1.toNatClampNeg (iF (own_bv (upd (upd (upd (fun _ => (0 : Int64)) 0 p0) 1 p1) 2 p2))) at F320
    rw [← hf325] at F320
    show Go W n0 QL h315 7 399 212 #[.val (.long p0), .second, .val (.long p1), .second, .val (.long p2), .second, .val (.int p3), .val (.int p4), .val (.int p5), .val (.int v1), .val (.int v2), .val (.int v4), .val (.int v7), .val (.int v8), .val (.int v9), .val (.int v14), .val (.int (2 : Int32)), .val (.ref a235), .val (.ref a253), .val (.ref a273), .val (.ref a298), .unset, .unset, .unset, .unset, .unset] [(.ref a316)]
    refine Go.astore C at_212 (q := 214) rfl (l' := #[.val (.long p0), .second, .val (.long p1), .second, .val (.long p2), .second, .val (.int p3), .val (.int p4), .val (.int p5), .val (.int v1), .val (.int v2), .val (.int v4), .val (.int v7), .val (.int v8), .val (.int v9), .val (.int v14), .val (.int (2 : Int32)), .val (.ref a235), .val (.ref a253), .val (.ref a273), .val (.ref a298), .val (.ref a316), .unset, .unset, .unset, .unset]) rfl rfl ?_
    refine Go.aload C at_214 (q := 216) rfl rfl rfl ?_
    have F326 := (F302.keep K317 nin0)
    refine Go.alenZ C F326 bnds.1 at_216 (q := 217) rfl ?_
    refine Go.iload C at_217 (q := 219) rfl rfl ?_
    refine Go.icmp C at_219 (n_ne _ _) (qt := 230) (q := 222) (by decide) (by decide) rfl (fun b327 => ?_) (fun b327 => ?_)
    ·
      refine Go.iconst C (0 : Int32) at_230 (q := 231) rfl rfl ?_
      exact (fin4 p0 p1 p2 p3 p4 p5 v1 hv1 v2 hv2 v3 hv3 v4 hv4 v7 hv7 v8 hv8 v9 hv9 v14 hv14  bnds0  hv15 f306 hf306 f325 hf325  b327).elim
    ·
      have b327 := Classical.not_not.mp b327
      refine Go.aload C at_222 (q := 224) rfl rfl rfl ?_
      refine Go.alenZ C F320 bnds.1 at_224 (q := 225) rfl ?_
      refine Go.iload C at_225 (q := 227) rfl rfl ?_
      refine Go.icmp C at_227 (n_eq _ _) (qt := 232) (q := 230) (by decide) (by decide) rfl (fun _ => ?_) (fun b328 => absurd b327 b328)
      refine Go.lloadN C at_232 (q := 233) rfl rfl ?_
      refine Go.lloadN C at_233 (q := 234) rfl rfl ?_
      refine Go.lload C at_234 (q := 236) rfl rfl ?_
      refine Go.iload C at_236 (q := 238) rfl rfl ?_
      refine Go.pureS C (hw _ (List.mem_of_getElem? (i := 33) rfl)) (hw _ (List.mem_of_getElem? (i := 34) rfl)) (hw _ (List.mem_of_getElem? (i := 35) rfl)) (hw _ (List.mem_of_getElem? (i := 36) rfl)) (c_f_bb W.l Z a0 hw p0 p1 p2 v9 h315 n0) at_238 pd__40JJJI_41Z (q := 241) rfl rfl (argsL := [(.long p0), (.long p1), (.long p2), (.int v9)]) (st := []) rfl rfl (w := 0) rfl (by decide) (by decide) (by decide) (by decide) ?_
      refine Go.istore C at_241 (q := 243) rfl (fun z => #[.val (.long p0), .second, .val (.long p1), .second, .val (.long p2), .second, .val (.int p3), .val (.int p4), .val (.int p5), .val (.int v1), .val (.int v2), .val (.int v4), .val (.int v7), .val (.int v8), .val (.int v9), .val (.int v14), .val (.int (2 : Int32)), .val (.ref a235), .val (.ref a253), .val (.ref a273), .val (.ref a298), .val (.ref a316), .val (.int z), .unset, .unset, .unset]) (fun _ => rfl) ?_
      intro v329 hv329
      refine Go.lloadN C at_243 (q := 244) rfl rfl ?_
      refine Go.lloadN C at_244 (q := 245) rfl rfl ?_
      refine Go.lload C at_245 (q := 247) rfl rfl ?_
      refine Go.iload C at_247 (q := 249) rfl rfl ?_
      refine Go.pureS C (hw _ (List.mem_of_getElem? (i := 33) rfl)) (hw _ (List.mem_of_getElem? (i := 34) rfl)) (hw _ (List.mem_of_getElem? (i := 35) rfl)) (hw _ (List.mem_of_getElem? (i := 36) rfl)) (c_f_bb W.l Z a0 hw p0 p1 p2 v14 h315 n0) at_249 pd__40JJJI_41Z (q := 252) rfl rfl (argsL := [(.long p0), (.long p1), (.long p2), (.int v14)]) (st := []) rfl rfl (w := 0) rfl (by decide) (by decide) (by decide) (by decide) ?_
      refine Go.istore C at_252 (q := 254) rfl (fun z => #[.val (.long p0), .second, .val (.long p1), .second, .val (.long p2), .second, .val (.int p3), .val (.int p4), .val (.int p5), .val (.int v1), .val (.int v2), .val (.int v4), .val (.int v7), .val (.int v8), .val (.int v9), .val (.int v14), .val (.int (2 : Int32)), .val (.ref a235), .val (.ref a253), .val (.ref a273), .val (.ref a298), .val (.ref a316), .val (.int v329), .val (.int z), .unset, .unset]) (fun _ => rfl) ?_
      intro v330 hv330
      refine Go.iload C at_254 (q := 256) rfl rfl ?_
      refine Go.iload C at_256 (q := 258) rfl rfl ?_
      refine Go.iload C at_258 (q := 260) rfl rfl ?_
      refine Go.iload C at_260 (q := 262) rfl rfl ?_
      refine Go.iload C at_262 (q := 264) rfl rfl ?_
      refine Go.iload C at_264 (q := 266) rfl rfl ?_
      refine Go.pureS C (hw _ (List.mem_of_getElem? (i := 37) rfl)) (hw _ (List.mem_of_getElem? (i := 38) rfl)) (hw _ (List.mem_of_getElem? (i := 35) rfl)) (hw _ (List.mem_of_getElem? (i := 39) rfl)) (c_f_fl W.l Z a0 hw v2 v4 v7 (2 : Int32) v9 h315 n0) at_266 pd__40IIIII_41Z (q := 269) rfl rfl (argsL := [(.int v2), (.int v4), (.int v7), (.int (2 : Int32)), (.int v9)]) (st := [(.int v329)]) rfl rfl (w := 1) rfl (by decide) (by decide) (by decide) (by decide) ?_
      refine Go.ixor C at_269 (q := 270) rfl ?_
      refine Go.istore C at_270 (q := 272) rfl (fun z => #[.val (.long p0), .second, .val (.long p1), .second, .val (.long p2), .second, .val (.int p3), .val (.int p4), .val (.int p5), .val (.int v1), .val (.int v2), .val (.int v4), .val (.int v7), .val (.int v8), .val (.int v9), .val (.int v14), .val (.int (2 : Int32)), .val (.ref a235), .val (.ref a253), .val (.ref a273), .val (.ref a298), .val (.ref a316), .val (.int v329), .val (.int v330), .val (.int z), .unset]) (fun _ => rfl) ?_
      intro v331 hv331
      refine Go.iload C at_272 (q := 274) rfl rfl ?_
      refine Go.iload C at_274 (q := 276) rfl rfl ?_
      refine Go.iload C at_276 (q := 278) rfl rfl ?_
      refine Go.iload C at_278 (q := 280) rfl rfl ?_
      refine Go.iload C at_280 (q := 282) rfl rfl ?_
      refine Go.iload C at_282 (q := 284) rfl rfl ?_
      refine Go.pureS C (hw _ (List.mem_of_getElem? (i := 37) rfl)) (hw _ (List.mem_of_getElem? (i := 38) rfl)) (hw _ (List.mem_of_getElem? (i := 35) rfl)) (hw _ (List.mem_of_getElem? (i := 39) rfl)) (c_f_fl W.l Z a0 hw v2 v4 v7 (2 : Int32) v14 h315 n0) at_284 pd__40IIIII_41Z (q := 287) rfl rfl (argsL := [(.int v2), (.int v4), (.int v7), (.int (2 : Int32)), (.int v14)]) (st := [(.int v330)]) rfl rfl (w := 1) rfl (by decide) (by decide) (by decide) (by decide) ?_
      refine Go.ixor C at_287 (q := 288) rfl ?_
      refine Go.istore C at_288 (q := 290) rfl (fun z => #[.val (.long p0), .second, .val (.long p1), .second, .val (.long p2), .second, .val (.int p3), .val (.int p4), .val (.int p5), .val (.int v1), .val (.int v2), .val (.int v4), .val (.int v7), .val (.int v8), .val (.int v9), .val (.int v14), .val (.int (2 : Int32)), .val (.ref a235), .val (.ref a253), .val (.ref a273), .val (.ref a298), .val (.ref a316), .val (.int v329), .val (.int v330), .val (.int v331), .val (.int z)]) (fun _ => rfl) ?_
      intro v332 hv332
      refine Go.aload C at_290 (q := 292) rfl rfl rfl ?_
      refine Go.iload C at_292 (q := 294) rfl rfl ?_
      refine Go.zaload C F326 v9.toNatClampNeg (v := (.int (f306 v9.toNatClampNeg))) rfl bnds0.2.2.2.2.2.1.1 bnds0.2.2.2.2.2.1.2 rfl at_294 (q := 295) rfl ?_
      refine Go.iload C at_295 (q := 297) rfl rfl ?_
      suffices J334 : ∀ v333 : Int32, v333 = (if (f306 v9.toNatClampNeg) = v331 then (if (f306 v14.toNatClampNeg) = v332 then (if (f325 v9.toNatClampNeg) = v329 then (if (f325 v14.toNatClampNeg) = v330 then (if p0 = p0 then (if p1 = p1 then (if p2 = p2 then (1 : Int32) else (0 : Int32)) else (0 : Int32)) else (0 : Int32)) else (0 : Int32)) else (0 : Int32)) else (0 : Int32)) else (0 : Int32)) → Go W n0 QL h315 7 399 363 #[.val (.long p0), .second, .val (.long p1), .second, .val (.long p2), .second, .val (.int p3), .val (.int p4), .val (.int p5), .val (.int v1), .val (.int v2), .val (.int v4), .val (.int v7), .val (.int v8), .val (.int v9), .val (.int v14), .val (.int (2 : Int32)), .val (.ref a235), .val (.ref a253), .val (.ref a273), .val (.ref a298), .val (.ref a316), .val (.int v329), .val (.int v330), .val (.int v331), .val (.int v332)] [(.int v333)] by
        refine Go.icmp C at_297 (n_ne _ _) (qt := 362) (q := 300) (by decide) (by decide) rfl (fun b335 => ?_) (fun b335 => ?_)
        ·
          refine Go.iconst C (0 : Int32) at_362 (q := 363) rfl rfl ?_
          exact J334 _ (by rw [if_neg b335])
        ·
          have b335 := Classical.not_not.mp b335
          refine Go.aload C at_300 (q := 302) rfl rfl rfl ?_
          refine Go.iload C at_302 (q := 304) rfl rfl ?_
          refine Go.zaload C F326 v14.toNatClampNeg (v := (.int (f306 v14.toNatClampNeg))) rfl bnds0.2.2.2.2.2.2.1 bnds0.2.2.2.2.2.2.2 rfl at_304 (q := 305) rfl ?_
          refine Go.iload C at_305 (q := 307) rfl rfl ?_
          refine Go.icmp C at_307 (n_ne _ _) (qt := 362) (q := 310) (by decide) (by decide) rfl (fun b336 => ?_) (fun b336 => ?_)
          ·
            refine Go.iconst C (0 : Int32) at_362 (q := 363) rfl rfl ?_
            exact J334 _ (by rw [if_pos b335, if_neg b336])
          ·
            have b336 := Classical.not_not.mp b336
            refine Go.aload C at_310 (q := 312) rfl rfl rfl ?_
            refine Go.iload C at_312 (q := 314) rfl rfl ?_
            refine Go.zaload C F320 v9.toNatClampNeg (v := (.int (f325 v9.toNatClampNeg))) rfl bnds0.2.2.2.2.2.1.1 bnds0.2.2.2.2.2.1.2 rfl at_314 (q := 315) rfl ?_
            refine Go.iload C at_315 (q := 317) rfl rfl ?_
            refine Go.icmp C at_317 (n_ne _ _) (qt := 362) (q := 320) (by decide) (by decide) rfl (fun b337 => ?_) (fun b337 => ?_)
            ·
              refine Go.iconst C (0 : Int32) at_362 (q := 363) rfl rfl ?_
              exact J334 _ (by rw [if_pos b335, if_pos b336, if_neg b337])
            ·
              have b337 := Classical.not_not.mp b337
              refine Go.aload C at_320 (q := 322) rfl rfl rfl ?_
              refine Go.iload C at_322 (q := 324) rfl rfl ?_
              refine Go.zaload C F320 v14.toNatClampNeg (v := (.int (f325 v14.toNatClampNeg))) rfl bnds0.2.2.2.2.2.2.1 bnds0.2.2.2.2.2.2.2 rfl at_324 (q := 325) rfl ?_
              refine Go.iload C at_325 (q := 327) rfl rfl ?_
              refine Go.icmp C at_327 (n_ne _ _) (qt := 362) (q := 330) (by decide) (by decide) rfl (fun b338 => ?_) (fun b338 => ?_)
              ·
                refine Go.iconst C (0 : Int32) at_362 (q := 363) rfl rfl ?_
                exact J334 _ (by rw [if_pos b335, if_pos b336, if_pos b337, if_neg b338])
              ·
                have b338 := Classical.not_not.mp b338
                refine Go.aload C at_330 (q := 332) rfl rfl rfl ?_
                refine Go.iconst C (0 : Int32) at_332 (q := 333) rfl rfl ?_
                have F339 := (F307.keep K317 nin0)
                refine Go.laload C F339 0 (v := (.long p0)) (by decide) (by decide) (by decide) rfl at_333 (q := 334) rfl ?_
                refine Go.lloadN C at_334 (q := 335) rfl rfl ?_
                refine Go.lcmp C at_335 (q := 336) rfl ?_
                refine Go.if0 C at_336 (l_ne _ _) (qt := 362) (q := 339) (by decide) (by decide) rfl (fun b340 => ?_) (fun b340 => ?_)
                ·
                  refine Go.iconst C (0 : Int32) at_362 (q := 363) rfl rfl ?_
                  exact J334 _ (by rw [if_pos b335, if_pos b336, if_pos b337, if_pos b338, if_neg b340])
                ·
                  have b340 := Classical.not_not.mp b340
                  refine Go.aload C at_339 (q := 341) rfl rfl rfl ?_
                  refine Go.iconst C (1 : Int32) at_341 (q := 342) rfl rfl ?_
                  refine Go.laload C F339 1 (v := (.long p1)) (by decide) (by decide) (by decide) rfl at_342 (q := 343) rfl ?_
                  refine Go.lloadN C at_343 (q := 344) rfl rfl ?_
                  refine Go.lcmp C at_344 (q := 345) rfl ?_
                  refine Go.if0 C at_345 (l_ne _ _) (qt := 362) (q := 348) (by decide) (by decide) rfl (fun b341 => ?_) (fun b341 => ?_)
                  ·
                    refine Go.iconst C (0 : Int32) at_362 (q := 363) rfl rfl ?_
                    exact J334 _ (by rw [if_pos b335, if_pos b336, if_pos b337, if_pos b338, if_pos b340, if_neg b341])
                  ·
                    have b341 := Classical.not_not.mp b341
                    refine Go.aload C at_348 (q := 350) rfl rfl rfl ?_
                    refine Go.iconst C (2 : Int32) at_350 (q := 351) rfl rfl ?_
                    refine Go.laload C F339 2 (v := (.long p2)) (by decide) (by decide) (by decide) rfl at_351 (q := 352) rfl ?_
                    refine Go.lload C at_352 (q := 354) rfl rfl ?_
                    refine Go.lcmp C at_354 (q := 355) rfl ?_
                    refine Go.if0 C at_355 (l_ne _ _) (qt := 362) (q := 358) (by decide) (by decide) rfl (fun b342 => ?_) (fun b342 => ?_)
                    ·
                      refine Go.iconst C (0 : Int32) at_362 (q := 363) rfl rfl ?_
                      exact J334 _ (by rw [if_pos b335, if_pos b336, if_pos b337, if_pos b338, if_pos b340, if_pos b341, if_neg b342])
                    ·
                      have b342 := Classical.not_not.mp b342
                      refine Go.iconst C (1 : Int32) at_358 (q := 359) rfl rfl ?_
                      refine Go.goto C at_359 (q := 363) (by decide) (by decide) ?_
                      exact J334 _ (by rw [if_pos b335, if_pos b336, if_pos b337, if_pos b338, if_pos b340, if_pos b341, if_pos b342])
      intro v333 hv333
      exact Go.retZ (t := .boolean) (by simp) C at_363 (by decide) (by decide) (congrArg (fun z => some (Value.int z)) (fin5 p0 p1 p2 p3 p4 p5 v1 hv1 v2 hv2 v3 hv3 v4 hv4 v7 hv7 v8 hv8 v9 hv9 v14 hv14  bnds0  hv15 f306 hf306 f325 hf325  b327 v329 hv329 v330 hv330 v331 hv331 v332 hv332 v333 hv333))
  ·
    refine Go.iconst C (3 : Int32) at_144 (q := 145) rfl rfl ?_
    refine Go.newPE C (hw _ (List.mem_of_getElem? (i := 1) rfl)) (by decide) (cap := 3) (by decide) (by decide) at_145 (q := 147) rfl (k' := 1) rfl (n' := 3) rfl (by decide) (by decide) (ad := "[J") (by decide) ?_
    intro h343 a344 cA345 g346 E347 Fn348 E350
    have g351 : n0 ≤ a344 := g346 ▸ Z0
    have F349 : Av Z h343 a344 .long 3 (jF (fun _ => (0 : Int64))) := Av.of Fn348
    refine Go.dup C at_147 (q := 148) rfl rfl ?_
    refine Go.iconst C (0 : Int32) at_148 (q := 149) rfl rfl ?_
    refine Go.lloadN C at_149 (q := 150) rfl rfl ?_
    refine Go.lastore C F349 0 (by decide) (by decide) (by decide) g351 at_150 (q := 151) rfl ?_
    intro h352 W353
    have F354 := F349.sameJ W353
    refine Go.dup C at_151 (q := 152) rfl rfl ?_
    refine Go.iconst C (1 : Int32) at_152 (q := 153) rfl rfl ?_
    refine Go.lloadN C at_153 (q := 154) rfl rfl ?_
    refine Go.lastore C F354 1 (by decide) (by decide) (by decide) g351 at_154 (q := 155) rfl ?_
    intro h355 W356
    have F357 := F354.sameJ W356
    refine Go.dup C at_155 (q := 156) rfl rfl ?_
    refine Go.iconst C (2 : Int32) at_156 (q := 157) rfl rfl ?_
    refine Go.lload C at_157 (q := 159) rfl rfl ?_
    refine Go.lastore C F357 2 (by decide) (by decide) (by decide) g351 at_159 (q := 160) rfl ?_
    intro h358 W359
    have F360 := F357.sameJ W359
    refine Go.astore C at_160 (q := 162) rfl (l' := #[.val (.long p0), .second, .val (.long p1), .second, .val (.long p2), .second, .val (.int p3), .val (.int p4), .val (.int p5), .val (.int v1), .val (.int v2), .val (.int v4), .val (.int v7), .val (.int v8), .val (.int v9), .val (.int v14), .val (.int (3 : Int32)), .val (.ref a344), .unset, .unset, .unset, .unset, .unset, .unset, .unset, .unset]) rfl rfl ?_
    refine Go.iconst C (3 : Int32) at_162 (q := 163) rfl rfl ?_
    refine Go.newPE C (hw _ (List.mem_of_getElem? (i := 2) rfl)) (by decide) (cap := 3) (by decide) (by decide) at_163 (q := 165) rfl (k' := 2) rfl (n' := 6) rfl (by decide) (by decide) (ad := "[I") (by decide) ?_
    intro h361 a362 cA363 g364 E365 Fn366 E368
    have F369 := (Nat.le_trans (Nat.le_trans (Nat.le_trans (Nat.le_trans Z0 E347.1) (Nat.le_of_eq W353.size.symm)) (Nat.le_of_eq W356.size.symm)) (Nat.le_of_eq W359.size.symm))
    have g370 : n0 ≤ a362 := g364 ▸ F369
    have ne371 : a344 ≠ a362 := Nat.ne_of_lt (g364 ▸ F360.lt)
    have F367 : Av Z h361 a362 .int 3 (iF (fun _ => (0 : Int32))) := Av.of Fn366
    refine Go.dup C at_165 (q := 166) rfl rfl ?_
    refine Go.iconst C (0 : Int32) at_166 (q := 167) rfl rfl ?_
    refine Go.iload C at_167 (q := 169) rfl rfl ?_
    refine Go.iastore C F367 0 (by decide) (by decide) (by decide) g370 at_169 (q := 170) rfl ?_
    intro h372 W373
    have F374 := F367.sameI W373
    refine Go.dup C at_170 (q := 171) rfl rfl ?_
    refine Go.iconst C (1 : Int32) at_171 (q := 172) rfl rfl ?_
    refine Go.iload C at_172 (q := 174) rfl rfl ?_
    refine Go.iastore C F374 1 (by decide) (by decide) (by decide) g370 at_174 (q := 175) rfl ?_
    intro h375 W376
    have F377 := F374.sameI W376
    refine Go.dup C at_175 (q := 176) rfl rfl ?_
    refine Go.iconst C (2 : Int32) at_176 (q := 177) rfl rfl ?_
    refine Go.iload C at_177 (q := 179) rfl rfl ?_
    refine Go.iastore C F377 2 (by decide) (by decide) (by decide) g370 at_179 (q := 180) rfl ?_
    intro h378 W379
    have F380 := F377.sameI W379
    refine Go.astore C at_180 (q := 182) rfl (l' := #[.val (.long p0), .second, .val (.long p1), .second, .val (.long p2), .second, .val (.int p3), .val (.int p4), .val (.int p5), .val (.int v1), .val (.int v2), .val (.int v4), .val (.int v7), .val (.int v8), .val (.int v9), .val (.int v14), .val (.int (3 : Int32)), .val (.ref a344), .val (.ref a362), .unset, .unset, .unset, .unset, .unset, .unset, .unset]) rfl rfl ?_
    refine Go.newO C (hw _ (List.mem_of_getElem? (i := 3) rfl)) (hw _ (List.mem_of_getElem? (i := 4) rfl)) (hw _ (List.mem_of_getElem? (i := 5) rfl)) at_182 (q := 185) rfl (k' := 3) rfl (n' := 9) rfl (by decide) (by decide) ?_
    intro h381 a382 g383 E384 A385 D386
    have F387 := (Nat.le_trans (Nat.le_trans (Nat.le_trans (Nat.le_trans F369 E365.1) (Nat.le_of_eq W373.size.symm)) (Nat.le_of_eq W376.size.symm)) (Nat.le_of_eq W379.size.symm))
    have g388 : n0 ≤ a382 := g383 ▸ F387
    have F390 := ((((F360.ext E365).other W373 ne371).other W376 ne371).other W379 ne371)
    have ne389 : a344 ≠ a382 := Nat.ne_of_lt (g383 ▸ F390.lt)
    have ne391 : a362 ≠ a382 := Nat.ne_of_lt (g383 ▸ F380.lt)
    have F392 : Fld Z h381 a382 "com/example/paretoloom/paretoloom/mnk/Trail" "bits" "I" (.int (0 : Int32)) := D386 (Or.inr (hw _ (List.mem_of_getElem? (i := 13) rfl))) (ty := .int) (by decide)
    have F393 : Fld Z h381 a382 "com/example/paretoloom/paretoloom/mnk/Trail" "base" "[J" .null := D386 (Or.inr (hw _ (List.mem_of_getElem? (i := 15) rfl))) (ty := (.array .long)) (by decide)
    have F394 : Fld Z h381 a382 "com/example/paretoloom/paretoloom/mnk/Trail" "flips" "[I" .null := D386 (Or.inr (hw _ (List.mem_of_getElem? (i := 17) rfl))) (ty := (.array .int)) (by decide)
    refine Go.dup C at_185 (q := 186) rfl rfl ?_
    refine Go.iload C at_186 (q := 188) rfl rfl ?_
    refine Go.aload C at_188 (q := 190) rfl rfl rfl ?_
    refine Go.aload C at_190 (q := 192) rfl rfl rfl ?_
    have F395 := (Nat.le_trans F387 E384.1)
    refine Go.callC C rfl (hw _ (List.mem_of_getElem? (i := 6) rfl)) (hw _ (List.mem_of_getElem? (i := 7) rfl)) (hw _ (List.mem_of_getElem? (i := 5) rfl)) (hw _ (List.mem_of_getElem? (i := 8) rfl)) (c_init W.l Z a0 hw a382 v1 a344 a362 h381 n0 (.int (0 : Int32)) .null .null F395 A385 g388 F392 F393 F394) at_192 pd__40I_91J_91I_41V (q := 195) rfl rfl (argsL := [(.int v1), (.ref a344), (.ref a362)]) (st := [(.ref a382)]) rfl rfl (w := 1) rfl (by decide) (by decide) (k' := 3) rfl (n' := 9) rfl (by decide) (by decide) ?_
    intro v h396 q
    obtain ⟨rfl, K397, F398, F399, F400⟩ := q
    show Go W n0 QL h396 3 9 195 #[.val (.long p0), .second, .val (.long p1), .second, .val (.long p2), .second, .val (.int p3), .val (.int p4), .val (.int p5), .val (.int v1), .val (.int v2), .val (.int v4), .val (.int v7), .val (.int v8), .val (.int v9), .val (.int v14), .val (.int (3 : Int32)), .val (.ref a344), .val (.ref a362), .unset, .unset, .unset, .unset, .unset, .unset, .unset] [(.ref a382)]
    refine Go.astore C at_195 (q := 197) rfl (l' := #[.val (.long p0), .second, .val (.long p1), .second, .val (.long p2), .second, .val (.int p3), .val (.int p4), .val (.int p5), .val (.int v1), .val (.int v2), .val (.int v4), .val (.int v7), .val (.int v8), .val (.int v9), .val (.int v14), .val (.int (3 : Int32)), .val (.ref a344), .val (.ref a362), .val (.ref a382), .unset, .unset, .unset, .unset, .unset, .unset]) rfl rfl ?_
    refine Go.aload C at_197 (q := 199) rfl rfl rfl ?_
    refine Go.iload C at_199 (q := 201) rfl rfl ?_
    have F401 := ((F390.ext E384).keep K397 (ninS ne389 nin0))
    have F402 := ((F380.ext E384).keep K397 (ninS ne391 nin0))
    have F403 := (A385.keep K397)
    have F404 := (Nat.le_trans F395 K397.1)
    have F405 := (((((((((E350.wr W353).wr W356).wr W359).ext E365).wr W373).wr W376).wr W379).ext E384).keep K397)
    refine Go.callV C F403 (hw _ (List.mem_of_getElem? (i := 18) rfl)) (hw _ (List.mem_of_getElem? (i := 19) rfl)) (notFace_of_selects (args := #[]) (mvT C.z (hw _ (List.mem_of_getElem? (i := 21) rfl)))) (hw _ (List.mem_of_getElem? (i := 21) rfl)) (hw _ (List.mem_of_getElem? (i := 20) rfl)) (hw _ (List.mem_of_getElem? (i := 5) rfl)) (hw _ (List.mem_of_getElem? (i := 22) rfl)) (c_str3 W.l Z a0 hw a382 h396 n0 a344 a362 v1 (upd (upd (upd (fun _ => (0 : Int64)) 0 p0) 1 p1) 2 p2) (upd (upd (upd (fun _ => (0 : Int32)) 0 v2) 1 v4) 2 v7) F404 F398 F399 F400 F401 F405 F402 bnds.1 bnds.2.1 (own_fl _ _ _ bnds.2.2.1 bnds.2.2.2.1 bnds.2.2.2.2)) at_201 pd__40I_41_91Z (q := 204) rfl rfl (argsL := [(.int (3 : Int32))]) (st := []) rfl rfl (w := 0) rfl (by decide) (by decide) (k' := 5) rfl (n' := 204) rfl (by decide) (by decide) ?_
    intro v h406 q
    obtain ⟨a407, rfl, K408, g409, y410, F411⟩ := q
    have ne412 : a344 ≠ a407 := Nat.ne_of_lt (Nat.lt_of_lt_of_le F401.lt y410)
    have ne413 : a362 ≠ a407 := Nat.ne_of_lt (Nat.lt_of_lt_of_le F402.lt y410)
    have ne414 : a382 ≠ a407 := Nat.ne_of_lt (Nat.lt_of_lt_of_le F403.lt y410)
    obtain ⟨f415, hf415⟩ : ∃ u : Nat → Int32, u = own_bv (own_flip (own_flip (own_flip (upd (upd (upd (fun _ => (0 : Int64)) 0 p0) 1 p1) 2 p2) v2) v4) v7) := ⟨_, rfl⟩
    change Av Z h406 a407 .boolean v1.toNatClampNeg (iF (own_bv (own_flip (own_flip (own_flip (upd (upd (upd (fun _ => (0 : Int64)) 0 p0) 1 p1) 2 p2) v2) v4) v7))) at F411
    rw [← hf415] at F411
    show Go W n0 QL h406 5 204 204 #[.val (.long p0), .second, .val (.long p1), .second, .val (.long p2), .second, .val (.int p3), .val (.int p4), .val (.int p5), .val (.int v1), .val (.int v2), .val (.int v4), .val (.int v7), .val (.int v8), .val (.int v9), .val (.int v14), .val (.int (3 : Int32)), .val (.ref a344), .val (.ref a362), .val (.ref a382), .unset, .unset, .unset, .unset, .unset, .unset] [(.ref a407)]
    refine Go.astore C at_204 (q := 206) rfl (l' := #[.val (.long p0), .second, .val (.long p1), .second, .val (.long p2), .second, .val (.int p3), .val (.int p4), .val (.int p5), .val (.int v1), .val (.int v2), .val (.int v4), .val (.int v7), .val (.int v8), .val (.int v9), .val (.int v14), .val (.int (3 : Int32)), .val (.ref a344), .val (.ref a362), .val (.ref a382), .val (.ref a407), .unset, .unset, .unset, .unset, .unset]) rfl rfl ?_
    refine Go.aload C at_206 (q := 208) rfl rfl rfl ?_
    refine Go.iconst C (0 : Int32) at_208 (q := 209) rfl rfl ?_
    have F416 := (F401.keep K408 nin0)
    have F417 := (F402.keep K408 nin0)
    have F418 := (F403.keep K408)
    have F419 := (Nat.le_trans F404 K408.1)
    have F420 := (F398.keep K408 nin0)
    have F421 := (F399.keep K408 nin0)
    have F422 := (F400.keep K408 nin0)
    have F423 := (F405.keep K408)
    refine Go.callV C F418 (hw _ (List.mem_of_getElem? (i := 18) rfl)) (hw _ (List.mem_of_getElem? (i := 19) rfl)) (notFace_of_selects (args := #[]) (mvT C.z (hw _ (List.mem_of_getElem? (i := 21) rfl)))) (hw _ (List.mem_of_getElem? (i := 21) rfl)) (hw _ (List.mem_of_getElem? (i := 20) rfl)) (hw _ (List.mem_of_getElem? (i := 5) rfl)) (hw _ (List.mem_of_getElem? (i := 22) rfl)) (c_str0 W.l Z a0 hw a382 h406 n0 a344 a362 v1 (upd (upd (upd (fun _ => (0 : Int64)) 0 p0) 1 p1) 2 p2) (upd (upd (upd (fun _ => (0 : Int32)) 0 v2) 1 v4) 2 v7) F419 F420 F421 F422 F416 F423 F417 bnds.1 bnds.2.1 (own_fl _ _ _ bnds.2.2.1 bnds.2.2.2.1 bnds.2.2.2.2)) at_209 pd__40I_41_91Z (q := 212) rfl rfl (argsL := [(.int (0 : Int32))]) (st := []) rfl rfl (w := 0) rfl (by decide) (by decide) (k' := 7) rfl (n' := 399) rfl (by decide) (by decide) ?_
    intro v h424 q
    obtain ⟨a425, rfl, K426, g427, y428, F429⟩ := q
    have ne430 : a344 ≠ a425 := Nat.ne_of_lt (Nat.lt_of_lt_of_le F416.lt y428)
    have ne431 : a362 ≠ a425 := Nat.ne_of_lt (Nat.lt_of_lt_of_le F417.lt y428)
    have ne432 : a382 ≠ a425 := Nat.ne_of_lt (Nat.lt_of_lt_of_le F418.lt y428)
    have ne433 : a407 ≠ a425 := Nat.ne_of_lt (Nat.lt_of_lt_of_le F411.lt y428)
    obtain ⟨f434, hf434⟩ : ∃ u : Nat → Int32, u = own_bv (upd (upd (upd (fun _ => (0 : Int64)) 0 p0) 1 p1) 2 p2) := ⟨_, rfl⟩
    change Av Z h424 a425 .boolean v1.toNatClampNeg (iF (own_bv (upd (upd (upd (fun _ => (0 : Int64)) 0 p0) 1 p1) 2 p2))) at F429
    rw [← hf434] at F429
    show Go W n0 QL h424 7 399 212 #[.val (.long p0), .second, .val (.long p1), .second, .val (.long p2), .second, .val (.int p3), .val (.int p4), .val (.int p5), .val (.int v1), .val (.int v2), .val (.int v4), .val (.int v7), .val (.int v8), .val (.int v9), .val (.int v14), .val (.int (3 : Int32)), .val (.ref a344), .val (.ref a362), .val (.ref a382), .val (.ref a407), .unset, .unset, .unset, .unset, .unset] [(.ref a425)]
    refine Go.astore C at_212 (q := 214) rfl (l' := #[.val (.long p0), .second, .val (.long p1), .second, .val (.long p2), .second, .val (.int p3), .val (.int p4), .val (.int p5), .val (.int v1), .val (.int v2), .val (.int v4), .val (.int v7), .val (.int v8), .val (.int v9), .val (.int v14), .val (.int (3 : Int32)), .val (.ref a344), .val (.ref a362), .val (.ref a382), .val (.ref a407), .val (.ref a425), .unset, .unset, .unset, .unset]) rfl rfl ?_
    refine Go.aload C at_214 (q := 216) rfl rfl rfl ?_
    have F435 := (F411.keep K426 nin0)
    refine Go.alenZ C F435 bnds.1 at_216 (q := 217) rfl ?_
    refine Go.iload C at_217 (q := 219) rfl rfl ?_
    refine Go.icmp C at_219 (n_ne _ _) (qt := 230) (q := 222) (by decide) (by decide) rfl (fun b436 => ?_) (fun b436 => ?_)
    ·
      refine Go.iconst C (0 : Int32) at_230 (q := 231) rfl rfl ?_
      exact (fin6 p0 p1 p2 p3 p4 p5 v1 hv1 v2 hv2 v3 hv3 v4 hv4 v7 hv7 v8 hv8 v9 hv9 v14 hv14  bnds0  hv15 f415 hf415 f434 hf434  b436).elim
    ·
      have b436 := Classical.not_not.mp b436
      refine Go.aload C at_222 (q := 224) rfl rfl rfl ?_
      refine Go.alenZ C F429 bnds.1 at_224 (q := 225) rfl ?_
      refine Go.iload C at_225 (q := 227) rfl rfl ?_
      refine Go.icmp C at_227 (n_eq _ _) (qt := 232) (q := 230) (by decide) (by decide) rfl (fun _ => ?_) (fun b437 => absurd b436 b437)
      refine Go.lloadN C at_232 (q := 233) rfl rfl ?_
      refine Go.lloadN C at_233 (q := 234) rfl rfl ?_
      refine Go.lload C at_234 (q := 236) rfl rfl ?_
      refine Go.iload C at_236 (q := 238) rfl rfl ?_
      refine Go.pureS C (hw _ (List.mem_of_getElem? (i := 33) rfl)) (hw _ (List.mem_of_getElem? (i := 34) rfl)) (hw _ (List.mem_of_getElem? (i := 35) rfl)) (hw _ (List.mem_of_getElem? (i := 36) rfl)) (c_f_bb W.l Z a0 hw p0 p1 p2 v9 h424 n0) at_238 pd__40JJJI_41Z (q := 241) rfl rfl (argsL := [(.long p0), (.long p1), (.long p2), (.int v9)]) (st := []) rfl rfl (w := 0) rfl (by decide) (by decide) (by decide) (by decide) ?_
      refine Go.istore C at_241 (q := 243) rfl (fun z => #[.val (.long p0), .second, .val (.long p1), .second, .val (.long p2), .second, .val (.int p3), .val (.int p4), .val (.int p5), .val (.int v1), .val (.int v2), .val (.int v4), .val (.int v7), .val (.int v8), .val (.int v9), .val (.int v14), .val (.int (3 : Int32)), .val (.ref a344), .val (.ref a362), .val (.ref a382), .val (.ref a407), .val (.ref a425), .val (.int z), .unset, .unset, .unset]) (fun _ => rfl) ?_
      intro v438 hv438
      refine Go.lloadN C at_243 (q := 244) rfl rfl ?_
      refine Go.lloadN C at_244 (q := 245) rfl rfl ?_
      refine Go.lload C at_245 (q := 247) rfl rfl ?_
      refine Go.iload C at_247 (q := 249) rfl rfl ?_
      refine Go.pureS C (hw _ (List.mem_of_getElem? (i := 33) rfl)) (hw _ (List.mem_of_getElem? (i := 34) rfl)) (hw _ (List.mem_of_getElem? (i := 35) rfl)) (hw _ (List.mem_of_getElem? (i := 36) rfl)) (c_f_bb W.l Z a0 hw p0 p1 p2 v14 h424 n0) at_249 pd__40JJJI_41Z (q := 252) rfl rfl (argsL := [(.long p0), (.long p1), (.long p2), (.int v14)]) (st := []) rfl rfl (w := 0) rfl (by decide) (by decide) (by decide) (by decide) ?_
      refine Go.istore C at_252 (q := 254) rfl (fun z => #[.val (.long p0), .second, .val (.long p1), .second, .val (.long p2), .second, .val (.int p3), .val (.int p4), .val (.int p5), .val (.int v1), .val (.int v2), .val (.int v4), .val (.int v7), .val (.int v8), .val (.int v9), .val (.int v14), .val (.int (3 : Int32)), .val (.ref a344), .val (.ref a362), .val (.ref a382), .val (.ref a407), .val (.ref a425), .val (.int v438), .val (.int z), .unset, .unset]) (fun _ => rfl) ?_
      intro v439 hv439
      refine Go.iload C at_254 (q := 256) rfl rfl ?_
      refine Go.iload C at_256 (q := 258) rfl rfl ?_
      refine Go.iload C at_258 (q := 260) rfl rfl ?_
      refine Go.iload C at_260 (q := 262) rfl rfl ?_
      refine Go.iload C at_262 (q := 264) rfl rfl ?_
      refine Go.iload C at_264 (q := 266) rfl rfl ?_
      refine Go.pureS C (hw _ (List.mem_of_getElem? (i := 37) rfl)) (hw _ (List.mem_of_getElem? (i := 38) rfl)) (hw _ (List.mem_of_getElem? (i := 35) rfl)) (hw _ (List.mem_of_getElem? (i := 39) rfl)) (c_f_fl W.l Z a0 hw v2 v4 v7 (3 : Int32) v9 h424 n0) at_266 pd__40IIIII_41Z (q := 269) rfl rfl (argsL := [(.int v2), (.int v4), (.int v7), (.int (3 : Int32)), (.int v9)]) (st := [(.int v438)]) rfl rfl (w := 1) rfl (by decide) (by decide) (by decide) (by decide) ?_
      refine Go.ixor C at_269 (q := 270) rfl ?_
      refine Go.istore C at_270 (q := 272) rfl (fun z => #[.val (.long p0), .second, .val (.long p1), .second, .val (.long p2), .second, .val (.int p3), .val (.int p4), .val (.int p5), .val (.int v1), .val (.int v2), .val (.int v4), .val (.int v7), .val (.int v8), .val (.int v9), .val (.int v14), .val (.int (3 : Int32)), .val (.ref a344), .val (.ref a362), .val (.ref a382), .val (.ref a407), .val (.ref a425), .val (.int v438), .val (.int v439), .val (.int z), .unset]) (fun _ => rfl) ?_
      intro v440 hv440
      refine Go.iload C at_272 (q := 274) rfl rfl ?_
      refine Go.iload C at_274 (q := 276) rfl rfl ?_
      refine Go.iload C at_276 (q := 278) rfl rfl ?_
      refine Go.iload C at_278 (q := 280) rfl rfl ?_
      refine Go.iload C at_280 (q := 282) rfl rfl ?_
      refine Go.iload C at_282 (q := 284) rfl rfl ?_
      refine Go.pureS C (hw _ (List.mem_of_getElem? (i := 37) rfl)) (hw _ (List.mem_of_getElem? (i := 38) rfl)) (hw _ (List.mem_of_getElem? (i := 35) rfl)) (hw _ (List.mem_of_getElem? (i := 39) rfl)) (c_f_fl W.l Z a0 hw v2 v4 v7 (3 : Int32) v14 h424 n0) at_284 pd__40IIIII_41Z (q := 287) rfl rfl (argsL := [(.int v2), (.int v4), (.int v7), (.int (3 : Int32)), (.int v14)]) (st := [(.int v439)]) rfl rfl (w := 1) rfl (by decide) (by decide) (by decide) (by decide) ?_
      refine Go.ixor C at_287 (q := 288) rfl ?_
      refine Go.istore C at_288 (q := 290) rfl (fun z => #[.val (.long p0), .second, .val (.long p1), .second, .val (.long p2), .second, .val (.int p3), .val (.int p4), .val (.int p5), .val (.int v1), .val (.int v2), .val (.int v4), .val (.int v7), .val (.int v8), .val (.int v9), .val (.int v14), .val (.int (3 : Int32)), .val (.ref a344), .val (.ref a362), .val (.ref a382), .val (.ref a407), .val (.ref a425), .val (.int v438), .val (.int v439), .val (.int v440), .val (.int z)]) (fun _ => rfl) ?_
      intro v441 hv441
      refine Go.aload C at_290 (q := 292) rfl rfl rfl ?_
      refine Go.iload C at_292 (q := 294) rfl rfl ?_
      refine Go.zaload C F435 v9.toNatClampNeg (v := (.int (f415 v9.toNatClampNeg))) rfl bnds0.2.2.2.2.2.1.1 bnds0.2.2.2.2.2.1.2 rfl at_294 (q := 295) rfl ?_
      refine Go.iload C at_295 (q := 297) rfl rfl ?_
      suffices J443 : ∀ v442 : Int32, v442 = (if (f415 v9.toNatClampNeg) = v440 then (if (f415 v14.toNatClampNeg) = v441 then (if (f434 v9.toNatClampNeg) = v438 then (if (f434 v14.toNatClampNeg) = v439 then (if p0 = p0 then (if p1 = p1 then (if p2 = p2 then (1 : Int32) else (0 : Int32)) else (0 : Int32)) else (0 : Int32)) else (0 : Int32)) else (0 : Int32)) else (0 : Int32)) else (0 : Int32)) → Go W n0 QL h424 7 399 363 #[.val (.long p0), .second, .val (.long p1), .second, .val (.long p2), .second, .val (.int p3), .val (.int p4), .val (.int p5), .val (.int v1), .val (.int v2), .val (.int v4), .val (.int v7), .val (.int v8), .val (.int v9), .val (.int v14), .val (.int (3 : Int32)), .val (.ref a344), .val (.ref a362), .val (.ref a382), .val (.ref a407), .val (.ref a425), .val (.int v438), .val (.int v439), .val (.int v440), .val (.int v441)] [(.int v442)] by
        refine Go.icmp C at_297 (n_ne _ _) (qt := 362) (q := 300) (by decide) (by decide) rfl (fun b444 => ?_) (fun b444 => ?_)
        ·
          refine Go.iconst C (0 : Int32) at_362 (q := 363) rfl rfl ?_
          exact J443 _ (by rw [if_neg b444])
        ·
          have b444 := Classical.not_not.mp b444
          refine Go.aload C at_300 (q := 302) rfl rfl rfl ?_
          refine Go.iload C at_302 (q := 304) rfl rfl ?_
          refine Go.zaload C F435 v14.toNatClampNeg (v := (.int (f415 v14.toNatClampNeg))) rfl bnds0.2.2.2.2.2.2.1 bnds0.2.2.2.2.2.2.2 rfl at_304 (q := 305) rfl ?_
          refine Go.iload C at_305 (q := 307) rfl rfl ?_
          refine Go.icmp C at_307 (n_ne _ _) (qt := 362) (q := 310) (by decide) (by decide) rfl (fun b445 => ?_) (fun b445 => ?_)
          ·
            refine Go.iconst C (0 : Int32) at_362 (q := 363) rfl rfl ?_
            exact J443 _ (by rw [if_pos b444, if_neg b445])
          ·
            have b445 := Classical.not_not.mp b445
            refine Go.aload C at_310 (q := 312) rfl rfl rfl ?_
            refine Go.iload C at_312 (q := 314) rfl rfl ?_
            refine Go.zaload C F429 v9.toNatClampNeg (v := (.int (f434 v9.toNatClampNeg))) rfl bnds0.2.2.2.2.2.1.1 bnds0.2.2.2.2.2.1.2 rfl at_314 (q := 315) rfl ?_
            refine Go.iload C at_315 (q := 317) rfl rfl ?_
            refine Go.icmp C at_317 (n_ne _ _) (qt := 362) (q := 320) (by decide) (by decide) rfl (fun b446 => ?_) (fun b446 => ?_)
            ·
              refine Go.iconst C (0 : Int32) at_362 (q := 363) rfl rfl ?_
              exact J443 _ (by rw [if_pos b444, if_pos b445, if_neg b446])
            ·
              have b446 := Classical.not_not.mp b446
              refine Go.aload C at_320 (q := 322) rfl rfl rfl ?_
              refine Go.iload C at_322 (q := 324) rfl rfl ?_
              refine Go.zaload C F429 v14.toNatClampNeg (v := (.int (f434 v14.toNatClampNeg))) rfl bnds0.2.2.2.2.2.2.1 bnds0.2.2.2.2.2.2.2 rfl at_324 (q := 325) rfl ?_
              refine Go.iload C at_325 (q := 327) rfl rfl ?_
              refine Go.icmp C at_327 (n_ne _ _) (qt := 362) (q := 330) (by decide) (by decide) rfl (fun b447 => ?_) (fun b447 => ?_)
              ·
                refine Go.iconst C (0 : Int32) at_362 (q := 363) rfl rfl ?_
                exact J443 _ (by rw [if_pos b444, if_pos b445, if_pos b446, if_neg b447])
              ·
                have b447 := Classical.not_not.mp b447
                refine Go.aload C at_330 (q := 332) rfl rfl rfl ?_
                refine Go.iconst C (0 : Int32) at_332 (q := 333) rfl rfl ?_
                have F448 := (F416.keep K426 nin0)
                refine Go.laload C F448 0 (v := (.long p0)) (by decide) (by decide) (by decide) rfl at_333 (q := 334) rfl ?_
                refine Go.lloadN C at_334 (q := 335) rfl rfl ?_
                refine Go.lcmp C at_335 (q := 336) rfl ?_
                refine Go.if0 C at_336 (l_ne _ _) (qt := 362) (q := 339) (by decide) (by decide) rfl (fun b449 => ?_) (fun b449 => ?_)
                ·
                  refine Go.iconst C (0 : Int32) at_362 (q := 363) rfl rfl ?_
                  exact J443 _ (by rw [if_pos b444, if_pos b445, if_pos b446, if_pos b447, if_neg b449])
                ·
                  have b449 := Classical.not_not.mp b449
                  refine Go.aload C at_339 (q := 341) rfl rfl rfl ?_
                  refine Go.iconst C (1 : Int32) at_341 (q := 342) rfl rfl ?_
                  refine Go.laload C F448 1 (v := (.long p1)) (by decide) (by decide) (by decide) rfl at_342 (q := 343) rfl ?_
                  refine Go.lloadN C at_343 (q := 344) rfl rfl ?_
                  refine Go.lcmp C at_344 (q := 345) rfl ?_
                  refine Go.if0 C at_345 (l_ne _ _) (qt := 362) (q := 348) (by decide) (by decide) rfl (fun b450 => ?_) (fun b450 => ?_)
                  ·
                    refine Go.iconst C (0 : Int32) at_362 (q := 363) rfl rfl ?_
                    exact J443 _ (by rw [if_pos b444, if_pos b445, if_pos b446, if_pos b447, if_pos b449, if_neg b450])
                  ·
                    have b450 := Classical.not_not.mp b450
                    refine Go.aload C at_348 (q := 350) rfl rfl rfl ?_
                    refine Go.iconst C (2 : Int32) at_350 (q := 351) rfl rfl ?_
                    refine Go.laload C F448 2 (v := (.long p2)) (by decide) (by decide) (by decide) rfl at_351 (q := 352) rfl ?_
                    refine Go.lload C at_352 (q := 354) rfl rfl ?_
                    refine Go.lcmp C at_354 (q := 355) rfl ?_
                    refine Go.if0 C at_355 (l_ne _ _) (qt := 362) (q := 358) (by decide) (by decide) rfl (fun b451 => ?_) (fun b451 => ?_)
                    ·
                      refine Go.iconst C (0 : Int32) at_362 (q := 363) rfl rfl ?_
                      exact J443 _ (by rw [if_pos b444, if_pos b445, if_pos b446, if_pos b447, if_pos b449, if_pos b450, if_neg b451])
                    ·
                      have b451 := Classical.not_not.mp b451
                      refine Go.iconst C (1 : Int32) at_358 (q := 359) rfl rfl ?_
                      refine Go.goto C at_359 (q := 363) (by decide) (by decide) ?_
                      exact J443 _ (by rw [if_pos b444, if_pos b445, if_pos b446, if_pos b447, if_pos b449, if_pos b450, if_pos b451])
      intro v442 hv442
      exact Go.retZ (t := .boolean) (by simp) C at_363 (by decide) (by decide) (congrArg (fun z => some (Value.int z)) (fin7 p0 p1 p2 p3 p4 p5 v1 hv1 v2 hv2 v3 hv3 v4 hv4 v7 hv7 v8 hv8 v9 hv9 v14 hv14  bnds0  hv15 f415 hf415 f434 hf434  b436 v438 hv438 v439 hv439 v440 hv440 v441 hv441 v442 hv442))
set_option maxRecDepth 65536 in
set_option maxHeartbeats 4000000 in
theorem comes_1 {Post : Tables → Env → Array Value → State → Outcome → State → Prop} (hpost : ∀ tb e args s v u, (limb_1_1.after args s (.returned v) u = true ∧ limb_1_2.after args s (.returned v) u = true ∧ True) → FrameEnd s (.returned v) u (Jvm.fieldLocs frame_1_writes args s ++ Jvm.arrayLocs frame_1_arrays args s ++ Jvm.staticLocs frame_1_statics s) 24 896 → Post tb e args s (.returned v) u) :
    ArmFor flags0 classFile x code maxLocals ret World_1 tables_1 room_1 Calls_1 rest_1 Pre_1 Post := by
  intro l hfl _ _ p e ha hc hk s m args below hf hA hF happ hP
  obtain ⟨hcalls, hrest, hpre⟩ := hP
  obtain ⟨-, -, -, hnamed, -, -, -, hat⟩ := (Spec.applies_iff hf).mp happ
  obtain ⟨hg, hn⟩ := and_e (Cond.before_iff.mp (show (Jvm.Cond.and given_1 narrow_1).before args s = true from hpre))
  obtain ⟨hcount, hg0⟩ := and_e hg
  obtain ⟨ha0, hg1⟩ := and_e hg0
  obtain ⟨ha1, hg2⟩ := and_e hg1
  obtain ⟨ha2, hg3⟩ := and_e hg2
  obtain ⟨ha3, hg4⟩ := and_e hg3
  obtain ⟨ha4, hg5⟩ := and_e hg4
  have ha5 := hg5
  obtain ⟨w0, w1, w2, w3, w4, w5, rfl⟩ : ∃ w0 w1 w2 w3 w4 w5 : Value, args = #[w0, w1, w2, w3, w4, w5] := by
    have hs : args.size = 6 := by simpa [Cond.value, given_1] using hcount
    obtain ⟨L⟩ := args
    match L, hs with
    | [w0, w1, w2, w3, w4, w5], _ => exact ⟨w0, w1, w2, w3, w4, w5, rfl⟩
  have hw := fun d (hd : d ∈ tables_1) => atoms_spec (ws := Jvm.Cond.code x code maxLocals ret :: tables_1) hat d (List.mem_cons_of_mem _ hd)
  obtain ⟨i0, ei0⟩ := isL_v ha0
  obtain rfl : w0 = (.long i0) := Option.some.inj ei0
  obtain ⟨i1, ei1⟩ := isL_v ha1
  obtain rfl : w1 = (.long i1) := Option.some.inj ei1
  obtain ⟨i2, ei2⟩ := isL_v ha2
  obtain rfl : w2 = (.long i2) := Option.some.inj ei2
  obtain ⟨i3, ei3⟩ := is_v ha3
  obtain rfl : w3 = (.int i3) := Option.some.inj ei3
  obtain ⟨i4, ei4⟩ := is_v ha4
  obtain rfl : w4 = (.int i4) := Option.some.inj ei4
  obtain ⟨i5, ei5⟩ := is_v ha5
  obtain rfl : w5 = (.int i5) := Option.some.inj ei5
  obtain ⟨n, o, h1, h2, h3, _, L, rfl, ⟨N, rfl⟩, hq⟩ := rm0 l s _ hw i0 i1 i2 i3 i4 i5 s.heap s.heap.size (Nat.le_refl _)  p e ha hc hk s m _ below hf ((Spec.applies_iff_loose hf).mp happ).1 ⟨rfl, State.Warmed39.refl s, rfl⟩ trivial
  refine ⟨n, _, h1, h2, h3, hpost _ _ _ _ _ _ ⟨Cond.after_iff.mpr rfl, Cond.after_iff.mpr (eq_i res_at (Term.int_eval (1)) rfl), trivial⟩ ⟨hq.1, hq.2.1, (hq.2.2.sift fun y hy => Or.inr (N y hy)).mono (by decide) (by decide)⟩⟩
theorem main_1_1 : Claimed_1_1 := comes_1 fun _ _ _ _ _ _ h hF => ⟨h.1, hF⟩
theorem main_1_2 : Claimed_1_2 := comes_1 fun _ _ _ _ _ _ h hF => ⟨h.2.1, hF⟩
end Jvm.Pilot.@@N@@
namespace Jvm.Pilot.@@N@@
open Jvm Jvm.ClassFile Sem Op Lib Jvm.Free Jvm.Stand Jvm.Pilot.@@N@@.Jvm.D
/-! MADE BY PROGRAM (witnessworld.py) out of the Statement's table words and the real class files: 13 classes; the members and pool entries that the words name. The judged class is class 1, her method 3. -/
namespace start1
open Jvm.ClassFile
def u (s : String) : CpInfo := .utf8 (stringToUtf16 s)
/-- a pool by its gaps: so many unusable entries, then the entry; so many at the end -/
def gap : Nat → List CpInfo → List CpInfo
  | 0, r => r
  | n + 1, r => .unusable :: gap n r
def poolList (es : List (Nat × CpInfo)) (last : Nat) : List CpInfo := es.foldr (fun e r => gap e.1 (e.2 :: r)) (gap last [])
def pool (es : List (Nat × CpInfo)) (last : Nat) : Array CpInfo := ⟨poolList es last⟩
def fileOf (pool : Array CpInfo) (this : Nat) (attrs : Array Attribute := #[]) (ms : Array MethodInfo := #[]) (fl : Nat := 33) (sup : Nat := 0) (ifs : Array Nat := #[]) (fds : Array FieldInfo := #[]) : ClassFile where
  minorVersion := 0
  majorVersion := 65
  constantPool := pool
  accessFlags := fl
  thisClass := this
  superClass := sup
  interfaces := ifs
  fields := fds
  methods := ms
  attributes := attrs
def plain (name : String) (sup : Option ClassId) : Class where
  name := name
  kind := .ordinary
  loader := none
  accessFlags := 33
  super := sup
  interfaces := #[]
  cf := none
  fields := #[]
  methods := #[]
  instanceTypes := #[]
  staticTypes := #[]
  resolved := #[]
  callSites := []
  init := .initialized
  statics := none
  mirror := none

def pool0 : Array CpInfo := pool [(5, u "<init>"), (0, u "()V"), (1, .class_ 10), (1, u "java/lang/Object"), (85, u "clone"), (0, u "()Ljava/lang/Object;")] 26

def k0c0 : Code := { maxStack := 0, maxLocals := 1, code := object_method_1_code, exceptionTable := #[], attributes := #[] }
def k0m0 : Method := { name := "<init>", desc := "()V", sig := { parameters := [], returnType := none }, accessFlags := 1, code := some k0c0 }
def k0m1 : Method := { name := "clone", desc := "()Ljava/lang/Object;", sig := { parameters := [], returnType := some (.object "java/lang/Object") }, accessFlags := 260, code := none }
/-- java/lang/Object -/
def k0 : Class := { plain "java/lang/Object" none with
  accessFlags := 33
  interfaces := #[]
  cf := some (fileOf pool0 8 #[] #[{ accessFlags := 1, nameIndex := 5, descriptorIndex := 6, attributes := #[] }, { accessFlags := 260, nameIndex := 96, descriptorIndex := 97, attributes := #[] }] 33 0 #[] #[])
  fields := #[]
  methods := #[k0m0, k0m1]
  instanceTypes := #[]
  staticTypes := #[]
  resolved := Array.replicate 124 none
  statics := none }

def pool1 : Array CpInfo := pool [(2, .class_ 4), (1, u "java/lang/Object"), (0, u "<init>"), (0, u "()V"), (0, .integer 65535), (0, .class_ 9), (0, u "com/example/paretoloom/paretoloom/mnk/Trail"), (0, .methodref 8 11), (0, .nameAndType 5 12), (0, u "(I[J[I)V"), (0, .methodref 8 14), (0, .nameAndType 15 16), (0, u "string"), (0, u "(I)[Z"), (0, .methodref 18 19), (0, .class_ 20), (0, .nameAndType 21 22), (0, u "com/example/paretoloom/paretoloom/mnk/TrailStringPinLaw"), (0, u "baseBit"), (0, u "(JJJI)Z"), (0, .methodref 18 24), (0, .nameAndType 25 26), (0, u "flipped"), (0, u "(IIIII)Z"), (3, u "law"), (0, u "(JJJIII)Z")] 8

def k1m0 : Method := { name := "<init>", desc := "()V", sig := { parameters := [], returnType := none }, accessFlags := 1, code := none }
def k1c1 : Code := { maxStack := 4, maxLocals := 10, code := method_2_code, exceptionTable := #[], attributes := #[] }
def k1m1 : Method := { name := "baseBit", desc := "(JJJI)Z", sig := { parameters := [.long, .long, .long, .int], returnType := some .boolean }, accessFlags := 10, code := some k1c1 }
def k1c2 : Code := { maxStack := 2, maxLocals := 6, code := method_3_code, exceptionTable := #[], attributes := #[] }
def k1m2 : Method := { name := "flipped", desc := "(IIIII)Z", sig := { parameters := [.int, .int, .int, .int, .int], returnType := some .boolean }, accessFlags := 10, code := some k1c2 }
def k1c3 : Code := { maxStack := 7, maxLocals := 26, code := code, exceptionTable := #[], attributes := #[] }
def k1m3 : Method := { name := "law", desc := "(JJJIII)Z", sig := { parameters := [.long, .long, .long, .int, .int, .int], returnType := some .boolean }, accessFlags := 9, code := some k1c3 }
/-- com/example/paretoloom/paretoloom/mnk/TrailStringPinLaw -/
def k1 : Class := { plain "com/example/paretoloom/paretoloom/mnk/TrailStringPinLaw" (some 0) with
  accessFlags := 49
  interfaces := #[]
  cf := some (fileOf pool1 18 #[] #[{ accessFlags := 1, nameIndex := 5, descriptorIndex := 6, attributes := #[] }, { accessFlags := 10, nameIndex := 21, descriptorIndex := 22, attributes := #[] }, { accessFlags := 10, nameIndex := 25, descriptorIndex := 26, attributes := #[] }, { accessFlags := 9, nameIndex := 30, descriptorIndex := 31, attributes := #[] }] 49 2 #[] #[])
  fields := #[]
  methods := #[k1m0, k1m1, k1m2, k1m3]
  instanceTypes := #[]
  staticTypes := #[]
  resolved := Array.replicate 40 none
  statics := none }

def pool2 : Array CpInfo := pool [(1, .methodref 2 3), (0, .class_ 4), (0, .nameAndType 5 6), (0, u "java/lang/Object"), (0, u "<init>"), (0, u "()V"), (0, .fieldref 8 9), (0, .class_ 10), (0, .nameAndType 11 12), (0, u "com/example/paretoloom/paretoloom/mnk/Trail"), (0, u "bits"), (0, u "I"), (0, .fieldref 8 14), (0, .nameAndType 15 16), (0, u "base"), (0, u "[J"), (0, .fieldref 8 18), (0, .nameAndType 19 20), (0, u "flips"), (0, u "[I"), (0, .methodref 22 23), (0, .class_ 16), (0, .nameAndType 24 25), (0, u "clone"), (0, u "()Ljava/lang/Object;"), (0, u "(I[J[I)V"), (2, u "string"), (0, u "(I)[Z")] 5

def k2c0 : Code := { maxStack := 2, maxLocals := 4, code := prog_60_method_1_code, exceptionTable := #[], attributes := #[] }
def k2m0 : Method := { name := "<init>", desc := "(I[J[I)V", sig := { parameters := [.int, (.array .long), (.array .int)], returnType := none }, accessFlags := 0, code := some k2c0 }
def k2c1 : Code := { maxStack := 7, maxLocals := 5, code := prog_60_method_2_code, exceptionTable := #[], attributes := #[] }
def k2m1 : Method := { name := "string", desc := "(I)[Z", sig := { parameters := [.int], returnType := some (.array .boolean) }, accessFlags := 0, code := some k2c1 }
/-- com/example/paretoloom/paretoloom/mnk/Trail -/
def k2 : Class := { plain "com/example/paretoloom/paretoloom/mnk/Trail" (some 0) with
  accessFlags := 48
  interfaces := #[]
  cf := some (fileOf pool2 8 #[] #[{ accessFlags := 0, nameIndex := 5, descriptorIndex := 26, attributes := #[] }, { accessFlags := 0, nameIndex := 29, descriptorIndex := 30, attributes := #[] }] 48 2 #[] #[{ accessFlags := 18, nameIndex := 11, descriptorIndex := 12, attributes := #[] }, { accessFlags := 18, nameIndex := 15, descriptorIndex := 16, attributes := #[] }, { accessFlags := 18, nameIndex := 19, descriptorIndex := 20, attributes := #[] }])
  fields := #[{ name := "bits", type := .int, accessFlags := 18, slot := 0, constantValue := 0 }, { name := "base", type := (.array .long), accessFlags := 18, slot := 1, constantValue := 0 }, { name := "flips", type := (.array .int), accessFlags := 18, slot := 2, constantValue := 0 }]
  methods := #[k2m0, k2m1]
  instanceTypes := #[.int, (.array .long), (.array .int)]
  staticTypes := #[]
  resolved := Array.replicate 36 none
  statics := none }

def pool3 : Array CpInfo := pool [(1, .class_ 2), (0, u "java/lang/Cloneable"), (0, .class_ 4), (0, u "java/lang/Object")] 2

/-- java/lang/Cloneable -/
def k3 : Class := { plain "java/lang/Cloneable" (some 0) with
  accessFlags := 1537
  interfaces := #[]
  cf := some (fileOf pool3 1 #[] #[] 1537 3 #[] #[])
  fields := #[]
  methods := #[]
  instanceTypes := #[]
  staticTypes := #[]
  resolved := Array.replicate 7 none
  statics := none }

def pool4 : Array CpInfo := pool [(1, u "java/io/Serializable"), (0, .class_ 1), (0, u "java/lang/Object"), (0, .class_ 3)] 3

/-- java/io/Serializable -/
def k4 : Class := { plain "java/io/Serializable" (some 0) with
  accessFlags := 1537
  interfaces := #[]
  cf := some (fileOf pool4 2 #[] #[] 1537 4 #[] #[])
  fields := #[]
  methods := #[]
  instanceTypes := #[]
  staticTypes := #[]
  resolved := Array.replicate 8 none
  statics := none }

/-- the primitive boolean -/
def k5 : Class := { plain "boolean" none with kind := .primitive 'Z', accessFlags := 0x411 }
/-- [Z -/
def k6 : Class := { plain "[Z" (some 0) with kind := .array 5 .boolean, interfaces := #[3, 4], accessFlags := 1041 }

/-- the primitive byte -/
def k7 : Class := { plain "byte" none with kind := .primitive 'B', accessFlags := 0x411 }
/-- [B -/
def k8 : Class := { plain "[B" (some 0) with kind := .array 7 .byte, interfaces := #[3, 4], accessFlags := 1041 }

/-- the primitive int -/
def k9 : Class := { plain "int" none with kind := .primitive 'I', accessFlags := 0x411 }
/-- [I -/
def k10 : Class := { plain "[I" (some 0) with kind := .array 9 .int, interfaces := #[3, 4], accessFlags := 1041 }

/-- the primitive long -/
def k11 : Class := { plain "long" none with kind := .primitive 'J', accessFlags := 0x411 }
/-- [J -/
def k12 : Class := { plain "[J" (some 0) with kind := .array 11 .long, interfaces := #[3, 4], accessFlags := 1041 }

def heap : Heap := #[]
def classes : Array Class := #[k0, k1, k2, k3, k4, k5, k6, k7, k8, k9, k10, k11, k12]
def interned : List (Array UInt16 × Addr) := []
def slotsUsed : Nat := 0
def theMethod : MethodId := ⟨1, 3⟩
def args0 : Array Value := #[.long 1, .long 2, .long 3, .int 4, .int 5, .int 6]
def aboutOver (below : List Frame) : State where
  vm := { classes := classes, interned := interned.toArray }
  heap := heap
  slotsUsed := slotsUsed
  threads := #[{ frames := .invoking theMethod args0 :: below }]
def below0 : List Frame := [.native { method := ⟨0, 0⟩, args := #[] }]
def about1 : State := aboutOver below0
def p0 : Program := .bare "" "" ""
def e0 : Env := launch0.env 0 0 0
theorem w_frames : about1.frames = Frame.invoking theMethod args0 :: below0 := rfl
set_option maxRecDepth 65536 in
theorem w_args : argsFit about1.vm theMethod args0 = true := by decide +kernel
set_option maxRecDepth 65536 in
theorem w_heap : heapFits about1 = true := by decide +kernel
set_option maxRecDepth 65536 in
theorem w_runnable : about1.curStatus? = some .runnable := by decide +kernel
set_option maxRecDepth 65536 in
theorem w_alone : about1.alone = true := by decide +kernel
set_option maxRecDepth 65536 in
theorem w_named : about1.methodNamed? x = some theMethod := by decide +kernel
set_option maxRecDepth 65536 in
theorem w_hears : about1.hears theMethod below0 = true := by decide +kernel
set_option maxRecDepth 65536 in
theorem w_ripe : about1.ripe theMethod args0 below0 = true := by decide +kernel
theorem w_running : about1.status = .running := rfl
set_option maxRecDepth 65536 in
theorem w_room : about1.hasRoom e0.platform room_1 = true :=
  launch0.hasRoom_least _ room_1 (by decide +kernel) (by decide +kernel) (by decide +kernel) (by decide +kernel) (by decide +kernel) (by decide +kernel)
theorem allAtoms_all (ts : List Jvm.Cond) (a : Array Jvm.Value) (st : Jvm.State) : (allAtoms ts).before a st = ts.all (fun c => c.before a st) := by
  induction ts with
  | nil => rfl
  | cons c t ih =>
    show (Jvm.Cond.and c (allAtoms t)).before a st = _
    rw [Jvm.Cond.before_and, ih, List.all_cons]
def words1 : List Jvm.Cond := Jvm.Cond.code x code maxLocals ret :: tables_1
/-- a 'code' word, met by the world's own term for the bytes: nothing is compared byte by byte -/
theorem code_word {y : MethodName} {bytes : ByteArray} {mx : Nat} {rt : Option FieldType} {a : Array Value} {s : State} {m : MethodId} {meth : Method} {c : Code} (h1 : s.methodNamed? y = some m) (h2 : s.vm.method? m = some meth) (h3 : meth.code = some c) (h4 : c.code = bytes)
    (h5 : (c.maxLocals == mx && c.exceptionTable.isEmpty && decide (c.maxStack ≤ mostOperands) && decide (meth.sig.returnType = rt) && !meth.locks && decide (parseMethodDescriptor y.desc = some meth.sig)) = true) : (Jvm.Cond.code y bytes mx rt).before a s = true := by
  simp only [Bool.and_eq_true, beq_iff_eq, Bool.not_eq_true', decide_eq_true_eq] at h5
  obtain ⟨⟨⟨⟨⟨g1, g2⟩, g3⟩, g4⟩, g5⟩, g6⟩ := h5
  simp [Cond.before, Cond.holds, Cond.value, h1, h2, h3, h4, g1, g2, g3, g4, g5, g6]
def isCode : Jvm.Cond → Bool
  | .code _ _ _ _ => true
  | _ => false
theorem all_split {L : List Jvm.Cond} {P : Jvm.Cond → Bool} (h1 : L.all (fun c => isCode c || P c) = true) (h2 : ∀ c ∈ L.filter isCode, P c = true) : L.all P = true := by
  refine List.all_eq_true.mpr fun c hc => ?_
  have h := List.all_eq_true.mp h1 c hc
  rcases Bool.eq_false_or_eq_true (isCode c) with hi | hi
  · exact h2 c (List.mem_filter.mpr ⟨hc, hi⟩)
  · simpa [hi] using h
set_option maxRecDepth 65536 in
theorem w_c0 : (Jvm.Cond.code x code maxLocals ret).before args0 about1 = true := code_word (m := ⟨1, 3⟩) (meth := k1m3) (c := k1c3) (by decide +kernel) rfl rfl rfl (by decide +kernel)
set_option maxRecDepth 65536 in
theorem w_c1 : (Jvm.Cond.code ({ cls := "com/example/paretoloom/paretoloom/mnk/Trail", name := "<init>", desc := "(I[J[I)V" } : Jvm.MethodName) prog_60_method_1_code (4 : Nat) (Option.none : Option Jvm.ClassFile.FieldType)).before args0 about1 = true := code_word (m := ⟨2, 0⟩) (meth := k2m0) (c := k2c0) (by decide +kernel) rfl rfl rfl (by decide +kernel)
set_option maxRecDepth 65536 in
theorem w_c2 : (Jvm.Cond.code ({ cls := "java/lang/Object", name := "<init>", desc := "()V" } : Jvm.MethodName) object_method_1_code (1 : Nat) (Option.none : Option Jvm.ClassFile.FieldType)).before args0 about1 = true := code_word (m := ⟨0, 0⟩) (meth := k0m0) (c := k0c0) (by decide +kernel) rfl rfl rfl (by decide +kernel)
set_option maxRecDepth 65536 in
theorem w_c3 : (Jvm.Cond.code ({ cls := "com/example/paretoloom/paretoloom/mnk/Trail", name := "string", desc := "(I)[Z" } : Jvm.MethodName) prog_60_method_2_code (5 : Nat) (Option.some (Jvm.ClassFile.FieldType.array Jvm.ClassFile.FieldType.boolean))).before args0 about1 = true := code_word (m := ⟨2, 1⟩) (meth := k2m1) (c := k2c1) (by decide +kernel) rfl rfl rfl (by decide +kernel)
set_option maxRecDepth 65536 in
theorem w_c4 : (Jvm.Cond.code ({ cls := "com/example/paretoloom/paretoloom/mnk/TrailStringPinLaw", name := "baseBit", desc := "(JJJI)Z" } : Jvm.MethodName) method_2_code (10 : Nat) (Option.some Jvm.ClassFile.FieldType.boolean)).before args0 about1 = true := code_word (m := ⟨1, 1⟩) (meth := k1m1) (c := k1c1) (by decide +kernel) rfl rfl rfl (by decide +kernel)
set_option maxRecDepth 65536 in
theorem w_c5 : (Jvm.Cond.code ({ cls := "com/example/paretoloom/paretoloom/mnk/TrailStringPinLaw", name := "flipped", desc := "(IIIII)Z" } : Jvm.MethodName) method_3_code (6 : Nat) (Option.some Jvm.ClassFile.FieldType.boolean)).before args0 about1 = true := code_word (m := ⟨1, 2⟩) (meth := k1m2) (c := k1c2) (by decide +kernel) rfl rfl rfl (by decide +kernel)
def codes1 : List Jvm.Cond := [Jvm.Cond.code x code maxLocals ret, Jvm.Cond.code ({ cls := "com/example/paretoloom/paretoloom/mnk/Trail", name := "<init>", desc := "(I[J[I)V" } : Jvm.MethodName) prog_60_method_1_code (4 : Nat) (Option.none : Option Jvm.ClassFile.FieldType), Jvm.Cond.code ({ cls := "java/lang/Object", name := "<init>", desc := "()V" } : Jvm.MethodName) object_method_1_code (1 : Nat) (Option.none : Option Jvm.ClassFile.FieldType), Jvm.Cond.code ({ cls := "com/example/paretoloom/paretoloom/mnk/Trail", name := "string", desc := "(I)[Z" } : Jvm.MethodName) prog_60_method_2_code (5 : Nat) (Option.some (Jvm.ClassFile.FieldType.array Jvm.ClassFile.FieldType.boolean)), Jvm.Cond.code ({ cls := "com/example/paretoloom/paretoloom/mnk/TrailStringPinLaw", name := "baseBit", desc := "(JJJI)Z" } : Jvm.MethodName) method_2_code (10 : Nat) (Option.some Jvm.ClassFile.FieldType.boolean), Jvm.Cond.code ({ cls := "com/example/paretoloom/paretoloom/mnk/TrailStringPinLaw", name := "flipped", desc := "(IIIII)Z" } : Jvm.MethodName) method_3_code (6 : Nat) (Option.some Jvm.ClassFile.FieldType.boolean)]
set_option maxRecDepth 65536 in
theorem codes_eq : words1.filter isCode = codes1 := rfl
theorem w_codes : ∀ c ∈ words1.filter isCode, c.before args0 about1 = true := by
  rw [codes_eq]
  intro c hc
  simp only [codes1, List.mem_cons, List.not_mem_nil, or_false] at hc
  rcases hc with rfl | rfl | rfl | rfl | rfl | rfl
  · exact w_c0
  · exact w_c1
  · exact w_c2
  · exact w_c3
  · exact w_c4
  · exact w_c5
set_option maxRecDepth 65536 in
theorem w_t1 : (words1.take 24).all (fun c => isCode c || c.before args0 about1) = true := by decide +kernel
set_option maxRecDepth 65536 in
theorem w_t2 : (words1.drop 24).all (fun c => isCode c || c.before args0 about1) = true := by decide +kernel
theorem w_tables : (allAtoms (Jvm.Cond.code x code maxLocals ret :: tables_1)).before args0 about1 = true := by
  rw [allAtoms_all]
  show words1.all (fun c => c.before args0 about1) = true
  refine all_split ?_ w_codes
  rw [← List.take_append_drop 24 words1, List.all_append, w_t1, w_t2]
  rfl
set_option maxRecDepth 65536 in
theorem w_case : (Jvm.Cond.and given_1 narrow_1).before args0 about1 = true := by decide +kernel
theorem w_applies : (headSpec (Jvm.Cond.code x code maxLocals ret :: tables_1) room_1).applies x e0.platform about1 = true :=
  (Spec.applies_iff w_frames).mpr ⟨w_running, w_runnable, w_alone, w_named, w_hears, w_ripe, w_room, w_tables⟩
theorem atStart : AtStart classFile x code maxLocals ret World_1 tables_1 room_1 Calls_1 rest_1 Pre_1 launch0 p0 e0 about1 theMethod args0 below0 :=
  ⟨lists_1, trivial, launch0.admits_env _ _ _, launch0.least_env, fairChoices_fair.cas, fairChoices_fair.clock, w_frames, w_args, w_heap, w_applies, trivial, trivial, w_case⟩
end start1
theorem witness_1 : WitnessClaimed_1 := ⟨start1.p0, start1.e0, start1.about1, start1.theMethod, start1.args0, start1.below0, start1.atStart⟩
end Jvm.Pilot.@@N@@
