import JvmDerived
import JvmDerived.Pilot.@@N@@Statement
import JvmDerived.Pilot.@@N@@Code
set_option linter.unusedVariables false
set_option linter.unusedSimpArgs false
namespace Jvm.RoadKit
open Sem ClassFile Op Lib Jvm.Stand Jvm.Free Jvm.LawKit
section New
variable {p : Program} {l : Launch} {e : Env} {R : Room} {s : State} {m : MethodId} {args : Array Value} {below : List Frame} {meth : Method} {c : Code} {T : State} {locs : List Loc} {cells slots : Nat}
theorem retI (X : Stand p l e R s m args below meth c T locs cells slots) (hx : p.tables.exec = Jvm.exec) {pc : Nat} {Ls : Array Slot} {z : Int32} {rest : List Value} (hret : meth.sig.returnType = some .int) (hd : decode c.code pc = .ok (.ireturn, 1)) {fs : List Frame}
    (hl : ∀ (f : JFrame) (acts : List Action), f.method = m → f.locked = none → f.entered = [] → (doReturn e (T.setTop f) acts (some (.int z))).1 = T.setFrames fs) : Steps p.tables e below (T.setTop (mkF m pc Ls (.int z :: rest))) (T.setFrames fs) := by
  have hm' : T.vm.method? m = some meth := X.method'
  have hn : narrow .int (.int z) = .int z := rfl
  show Steps p.tables e below (T.setTop { method := m, pc := pc, locals := Ls, stack := _ :: rest, locked := none }) _
  jvm_step X.here [X.here.top, hx, hd, hm', hret, hn]
  first | (intro acts; rw [hl _ acts rfl rfl rfl]) | rw [hl _ _ rfl rfl rfl]
  exact Steps.refl _
end New
end Jvm.RoadKit
namespace Jvm.Pilot.@@N@@
open Jvm Jvm.ClassFile Sem Op Lib Jvm.Free Jvm.Stand Jvm.LawKit Jvm.RoadKit Bundle Jvm.Pilot.@@N@@.Jvm.D
/-- the fixed things of one body's walk -/
abbrev Wk : Type := Program × Launch × Env × Room × State × MethodId × Array Value × List Frame × Method × Code
abbrev Wk.p (W : Wk) : Program := W.1
abbrev Wk.l (W : Wk) : Launch := W.2.1
abbrev Wk.e (W : Wk) : Env := W.2.2.1
abbrev Wk.R (W : Wk) : Room := W.2.2.2.1
abbrev Wk.s (W : Wk) : State := W.2.2.2.2.1
abbrev Wk.m (W : Wk) : MethodId := W.2.2.2.2.2.1
abbrev Wk.args (W : Wk) : Array Value := W.2.2.2.2.2.2.1
abbrev Wk.below (W : Wk) : List Frame := W.2.2.2.2.2.2.2.1
abbrev Wk.meth (W : Wk) : Method := W.2.2.2.2.2.2.2.2.1
abbrev Wk.c (W : Wk) : Code := W.2.2.2.2.2.2.2.2.2
abbrev St (W : Wk) (T : State) (L : List Loc) (k n : Nat) : Prop := Stand W.p W.l W.e W.R W.s W.m W.args W.below W.meth W.c T L k n
abbrev Sp (W : Wk) (a b : State) : Prop := Steps W.p.tables W.e W.below a b
/-- what holds throughout the walk -/
def Cx (Z : State) (W : Wk) (rm : Room) (own nm : String) (bytes : ByteArray) (maxL : Nat) (ret : Option FieldType) : Prop :=
  W.p.tables.exec = Jvm.exec ∧ W.c.code = bytes ∧ W.c.maxLocals = maxL ∧ W.s.vm.findClass own = some W.m.cls ∧ W.meth.name = nm ∧ W.meth.sig.returnType = ret ∧ Z.Warmed39 W.s.vm ∧ W.meth.locks = false ∧ W.R = rm
section Cxs
variable {Z : State} {W : Wk} {rm : Room} {own nm : String} {bytes : ByteArray} {maxL : Nat} {ret : Option FieldType}
theorem Cx.x (C : Cx Z W rm own nm bytes maxL ret) : W.p.tables.exec = Jvm.exec := C.1
theorem Cx.b (C : Cx Z W rm own nm bytes maxL ret) : W.c.code = bytes := C.2.1
theorem Cx.ml (C : Cx Z W rm own nm bytes maxL ret) : W.c.maxLocals = maxL := C.2.2.1
theorem Cx.ow (C : Cx Z W rm own nm bytes maxL ret) : W.s.vm.findClass own = some W.m.cls := C.2.2.2.1
theorem Cx.na (C : Cx Z W rm own nm bytes maxL ret) : W.meth.name = nm := C.2.2.2.2.1
theorem Cx.re (C : Cx Z W rm own nm bytes maxL ret) : W.meth.sig.returnType = ret := C.2.2.2.2.2.1
theorem Cx.z (C : Cx Z W rm own nm bytes maxL ret) : Z.Warmed39 W.s.vm := C.2.2.2.2.2.2.1
theorem Cx.lk (C : Cx Z W rm own nm bytes maxL ret) : W.meth.locks = false := C.2.2.2.2.2.2.2.1
theorem Cx.ro (C : Cx Z W rm own nm bytes maxL ret) : W.R = rm := C.2.2.2.2.2.2.2.2
end Cxs
/-- the run comes to the invocation's end, with what Q says -/
def Ends (W : Wk) (n0 : Nat) (Q : Option Value → Heap → Prop) (U : State) : Prop :=
  ∃ s₂ o, Sp W U s₂ ∧ s₂.status = .running ∧ Ended s₂ W.below o ∧ ∃ v L, o = .returned v ∧ (Fr n0 L ∧ Q v s₂.heap) ∧ FrameEnd W.s o s₂ L W.R.cells W.R.slots
/-- from pc, with these locals and this stack, over the heap h, at most k cells of n slots made so far -/
def Go (W : Wk) (n0 : Nat) (Q : Option Value → Heap → Prop) (h : Heap) (k n pc : Nat) (ls : Array Slot) (st : List Value) : Prop :=
  ∀ T L k' n', St W T L k' n' → k' ≤ k → n' ≤ n → Fr n0 L → T.heap = h → Ends W n0 Q (T.setTop (mkF W.m pc ls st))
/-- a body's contract: on these arguments, over the heap h, it ends and Q holds of what it returns and of the heap that it leaves -/
def Met1 (l : Launch) (Z : State) (y : MethodName) (bytes : ByteArray) (maxL : Nat) (ret : Option FieldType) (ws : List Jvm.Cond) (rm : Room) (as : Array Value) (h : Heap) (n0 : Nat) (Q : Option Value → Heap → Prop) : Prop :=
  MetFree l y (head1 (Jvm.Cond.code y bytes maxL ret :: ws) rm) (fun a U => a = as ∧ Z.Warmed39 U.vm ∧ U.heap = h) (fun _ _ _ _ _ => True) (fun _ U o U' => ∃ v L, o = .returned v ∧ (Fr n0 L ∧ Q v U'.heap) ∧ FrameEnd U o U' L rm.cells rm.slots)
theorem met_of_go {l : Launch} {Z : State} {y : MethodName} {bytes : ByteArray} {maxL : Nat} {ret : Option FieldType} {ws : List Jvm.Cond} {rm : Room} {as : Array Value} {h : Heap} {n0 : Nat} {Q : Option Value → Heap → Prop} {ls : Array Slot}
    (hpl : plainFor y = true) (hef : ∀ m, entryFrame m as maxL = mkF m 0 ls [])
    (go : ∀ W : Wk, W.l = l → Cx Z W rm y.cls y.name bytes maxL ret → Go W n0 Q h 0 0 0 ls []) : Met1 l Z y bytes maxL ret ws rm as h n0 Q := by
  refine MetFree.of_bodySF hpl hisR ?_
  intro p e s m args below meth c s₁ Bd hml0 hP hK
  obtain ⟨rfl, hZ, hh⟩ := hP
  have X0 : Stand p l e rm s m args below meth c s₁ [] 0 0 := Stand.of_body Bd
  have e0 : s₁.heap = h := by rw [← hh, Bd.state]; rfl
  obtain ⟨s₂, o, h1, h2, h3, h4⟩ := go (p, l, e, rm, s, m, args, below, meth, c) rfl ⟨Bd.exec, Bd.bytes, hml0, findClass_of_methodNamed Bd.named, (name_of_methodNamed Bd.named Bd.method).1, Bd.returns, hZ, Bd.notSynchronized, rfl⟩ s₁ [] 0 0 X0 (Nat.le_refl _) (Nat.le_refl _) (Fr.nil n0) e0
  exact ⟨s₂, o, castTop (hef m) h1, h2, h3, h4⟩
section Gos
variable {Z : State} {W : Wk} {rm : Room} {own nm : String} {bytes : ByteArray} {maxL : Nat} {ret : Option FieldType} {n0 : Nat} {Q : Option Value → Heap → Prop} {h : Heap} {k n pc q : Nat} {ls : Array Slot} {st : List Value} {a0 : Array Value}
theorem Go.mono {k' n' : Nat} (hk : k ≤ k') (hn : n ≤ n') (g : Go W n0 Q h k' n' pc ls st) : Go W n0 Q h k n pc ls st :=
  fun T L a b X h1 h2 => g T L a b X (Nat.le_trans h1 hk) (Nat.le_trans h2 hn)
theorem Go.stepX {ls' : Array Slot} {st' : List Value} (f : ∀ T L a b tg, St W T L a b → T.heap = h → Sp W (T.setTop (mkF W.m q ls' st')) tg → Sp W (T.setTop (mkF W.m pc ls st)) tg) (hr : Go W n0 Q h k n q ls' st') : Go W n0 Q h k n pc ls st := by
  intro T L a b X hk hn N eT
  obtain ⟨s₂, o, hs, r⟩ := hr T L a b X hk hn N eT
  exact ⟨s₂, o, f T L a b _ X eT hs, r⟩
theorem Go.stepT {ls' : Array Slot} {st' : List Value} (f : ∀ T L a b, St W T L a b → T.heap = h → ∃ T', St W T' L a b ∧ T'.heap = h ∧ ∀ tg, Sp W (T'.setTop (mkF W.m q ls' st')) tg → Sp W (T.setTop (mkF W.m pc ls st)) tg) (hr : Go W n0 Q h k n q ls' st') : Go W n0 Q h k n pc ls st := by
  intro T L a b X hk hn N eT
  obtain ⟨T', X', e', sp⟩ := f T L a b X eT
  obtain ⟨s₂, o, hs, r⟩ := hr T' L a b X' hk hn N e'
  exact ⟨s₂, o, sp _ hs, r⟩

theorem Go.iload (C : Cx Z W rm own nm bytes maxL ret) {j : Nat} {v : Int32} (hd : decode bytes pc = .ok (.iload j, 2)) (hq : pc + 2 = q) (hl : ls[j]? = some (.val (.int v)))
    (hr : Go W n0 Q h k n q ls (.int v :: st)) : Go W n0 Q h k n pc ls st := by
  subst hq
  exact Go.stepX (fun T L a b tg X eT kk => XS.iload X.here C.x rfl (hb C.b hd) hl kk) hr
theorem Go.iloadN (C : Cx Z W rm own nm bytes maxL ret) {j : Fin 4} {v : Int32} (hd : decode bytes pc = .ok (.iload_n j, 1)) (hq : pc + 1 = q) (hl : ls[j.val]? = some (.val (.int v)))
    (hr : Go W n0 Q h k n q ls (.int v :: st)) : Go W n0 Q h k n pc ls st := by
  subst hq
  exact Go.stepX (fun T L a b tg X eT kk => XS.iloadN X.here C.x rfl (hb C.b hd) hl kk) hr
theorem Go.lload (C : Cx Z W rm own nm bytes maxL ret) {j : Nat} {v : Int64} (hd : decode bytes pc = .ok (.lload j, 2)) (hq : pc + 2 = q) (hl : ls[j]? = some (.val (.long v)))
    (hr : Go W n0 Q h k n q ls (.long v :: st)) : Go W n0 Q h k n pc ls st := by
  subst hq
  exact Go.stepX (fun T L a b tg X eT kk => XS.lload X.here C.x rfl (hb C.b hd) hl kk) hr
theorem Go.lloadN (C : Cx Z W rm own nm bytes maxL ret) {j : Fin 4} {v : Int64} (hd : decode bytes pc = .ok (.lload_n j, 1)) (hq : pc + 1 = q) (hl : ls[j.val]? = some (.val (.long v)))
    (hr : Go W n0 Q h k n q ls (.long v :: st)) : Go W n0 Q h k n pc ls st := by
  subst hq
  exact Go.stepX (fun T L a b tg X eT kk => XS.lloadN X.here C.x rfl (hb C.b hd) hl kk) hr
theorem Go.aload (C : Cx Z W rm own nm bytes maxL ret) {j : Nat} {v : Value} (hd : decode bytes pc = .ok (.aload j, 2)) (hq : pc + 2 = q) (hl : ls[j]? = some (.val v)) (hv : v.isRef = true)
    (hr : Go W n0 Q h k n q ls (v :: st)) : Go W n0 Q h k n pc ls st := by
  subst hq
  exact Go.stepX (fun T L a b tg X eT kk => XS.aload X.here C.x rfl (hb C.b hd) hl hv kk) hr
theorem Go.aloadN (C : Cx Z W rm own nm bytes maxL ret) {j : Fin 4} {v : Value} (hd : decode bytes pc = .ok (.aload_n j, 1)) (hq : pc + 1 = q) (hl : ls[j.val]? = some (.val v)) (hv : v.isRef = true)
    (hr : Go W n0 Q h k n q ls (v :: st)) : Go W n0 Q h k n pc ls st := by
  subst hq
  exact Go.stepX (fun T L a b tg X eT kk => XS.aloadN X.here C.x rfl (hb C.b hd) hl hv kk) hr
theorem Go.istore (C : Cx Z W rm own nm bytes maxL ret) {j : Nat} {x : Int32} (hd : decode bytes pc = .ok (.istore j, 2)) (hq : pc + 2 = q) (l' : Int32 → Array Slot) (hl : ∀ v, storeLocals ls j (.int v) = some (l' v))
    (hr : ∀ v, v = x → Go W n0 Q h k n q (l' v) st) : Go W n0 Q h k n pc ls (.int x :: st) := by
  subst hq
  exact Go.stepX (fun T L a b tg X eT kk => XS.istore X.here C.x rfl (hb C.b hd) rfl (hl x) kk) (hr x rfl)
theorem Go.istoreN (C : Cx Z W rm own nm bytes maxL ret) {j : Fin 4} {x : Int32} (hd : decode bytes pc = .ok (.istore_n j, 1)) (hq : pc + 1 = q) (l' : Int32 → Array Slot) (hl : ∀ v, storeLocals ls j.val (.int v) = some (l' v))
    (hr : ∀ v, v = x → Go W n0 Q h k n q (l' v) st) : Go W n0 Q h k n pc ls (.int x :: st) := by
  subst hq
  exact Go.stepX (fun T L a b tg X eT kk => XS.istoreN X.here C.x rfl (hb C.b hd) rfl (hl x) kk) (hr x rfl)
theorem Go.lstore (C : Cx Z W rm own nm bytes maxL ret) {j : Nat} {x : Int64} (hd : decode bytes pc = .ok (.lstore j, 2)) (hq : pc + 2 = q) (l' : Int64 → Array Slot) (hl : ∀ v, storeLocals ls j (.long v) = some (l' v))
    (hr : ∀ v, v = x → Go W n0 Q h k n q (l' v) st) : Go W n0 Q h k n pc ls (.long x :: st) := by
  subst hq
  exact Go.stepX (fun T L a b tg X eT kk => XS.lstore X.here C.x rfl (hb C.b hd) rfl (hl x) kk) (hr x rfl)
theorem Go.lstoreN (C : Cx Z W rm own nm bytes maxL ret) {j : Fin 4} {x : Int64} (hd : decode bytes pc = .ok (.lstore_n j, 1)) (hq : pc + 1 = q) (l' : Int64 → Array Slot) (hl : ∀ v, storeLocals ls j.val (.long v) = some (l' v))
    (hr : ∀ v, v = x → Go W n0 Q h k n q (l' v) st) : Go W n0 Q h k n pc ls (.long x :: st) := by
  subst hq
  exact Go.stepX (fun T L a b tg X eT kk => XS.lstoreN X.here C.x rfl (hb C.b hd) rfl (hl x) kk) (hr x rfl)
theorem Go.astore (C : Cx Z W rm own nm bytes maxL ret) {j : Nat} {x : Value} (hd : decode bytes pc = .ok (.astore j, 2)) (hq : pc + 2 = q) {l' : Array Slot} (hv : x.isRef = true) (hl : storeLocals ls j x = some l')
    (hr : Go W n0 Q h k n q l' st) : Go W n0 Q h k n pc ls (x :: st) := by
  subst hq
  exact Go.stepX (fun T L a b tg X eT kk => XS.astore X.here C.x rfl (hb C.b hd) rfl hv hl kk) hr
theorem Go.astoreN (C : Cx Z W rm own nm bytes maxL ret) {j : Fin 4} {x : Value} (hd : decode bytes pc = .ok (.astore_n j, 1)) (hq : pc + 1 = q) {l' : Array Slot} (hv : x.isRef = true) (hl : storeLocals ls j.val x = some l')
    (hr : Go W n0 Q h k n q l' st) : Go W n0 Q h k n pc ls (x :: st) := by
  subst hq
  exact Go.stepX (fun T L a b tg X eT kk => XS.astoreN X.here C.x rfl (hb C.b hd) rfl hv hl kk) hr
theorem Go.istoreR (C : Cx Z W rm own nm bytes maxL ret) {j : Nat} {x : Int32} (hd : decode bytes pc = .ok (.istore j, 2)) (hq : pc + 2 = q) {l' : Array Slot} (hl : storeLocals ls j (.int x) = some l')
    (hr : Go W n0 Q h k n q l' st) : Go W n0 Q h k n pc ls (.int x :: st) := by
  subst hq
  exact Go.stepX (fun T L a b tg X eT kk => XS.istore X.here C.x rfl (hb C.b hd) rfl hl kk) hr
theorem Go.istoreNR (C : Cx Z W rm own nm bytes maxL ret) {j : Fin 4} {x : Int32} (hd : decode bytes pc = .ok (.istore_n j, 1)) (hq : pc + 1 = q) {l' : Array Slot} (hl : storeLocals ls j.val (.int x) = some l')
    (hr : Go W n0 Q h k n q l' st) : Go W n0 Q h k n pc ls (.int x :: st) := by
  subst hq
  exact Go.stepX (fun T L a b tg X eT kk => XS.istoreN X.here C.x rfl (hb C.b hd) rfl hl kk) hr
theorem Go.lstoreR (C : Cx Z W rm own nm bytes maxL ret) {j : Nat} {x : Int64} (hd : decode bytes pc = .ok (.lstore j, 2)) (hq : pc + 2 = q) {l' : Array Slot} (hl : storeLocals ls j (.long x) = some l')
    (hr : Go W n0 Q h k n q l' st) : Go W n0 Q h k n pc ls (.long x :: st) := by
  subst hq
  exact Go.stepX (fun T L a b tg X eT kk => XS.lstore X.here C.x rfl (hb C.b hd) rfl hl kk) hr
theorem Go.lstoreNR (C : Cx Z W rm own nm bytes maxL ret) {j : Fin 4} {x : Int64} (hd : decode bytes pc = .ok (.lstore_n j, 1)) (hq : pc + 1 = q) {l' : Array Slot} (hl : storeLocals ls j.val (.long x) = some l')
    (hr : Go W n0 Q h k n q l' st) : Go W n0 Q h k n pc ls (.long x :: st) := by
  subst hq
  exact Go.stepX (fun T L a b tg X eT kk => XS.lstoreN X.here C.x rfl (hb C.b hd) rfl hl kk) hr
theorem Go.iincR (C : Cx Z W rm own nm bytes maxL ret) {j : Nat} {cst : Int} {x : Int32} (hd : decode bytes pc = .ok (.iinc j cst, 3)) (hq : pc + 3 = q) (hl0 : ls[j]? = some (.val (.int x))) {l' : Array Slot} (hl : storeLocals ls j (.int (x + Int32.ofInt cst)) = some l')
    (hr : Go W n0 Q h k n q l' st) : Go W n0 Q h k n pc ls st := by
  subst hq
  exact Go.stepX (fun T L a b tg X eT kk => XS.iinc X.here C.x rfl (hb C.b hd) hl0 hl kk) hr
theorem Go.iinc (C : Cx Z W rm own nm bytes maxL ret) {j : Nat} {cst : Int} {x y : Int32} (hd : decode bytes pc = .ok (.iinc j cst, 3)) (hq : pc + 3 = q) (hl0 : ls[j]? = some (.val (.int x))) (hy : Int32.ofInt cst = y) (l' : Int32 → Array Slot) (hl : ∀ v, storeLocals ls j (.int v) = some (l' v))
    (hr : ∀ v, v = x + y → Go W n0 Q h k n q (l' v) st) : Go W n0 Q h k n pc ls st := by
  subst hq hy
  exact Go.stepX (fun T L a b tg X eT kk => XS.iinc X.here C.x rfl (hb C.b hd) hl0 (hl _) kk) (hr _ rfl)
theorem Go.iconst (C : Cx Z W rm own nm bytes maxL ret) {i : Int} (v : Int32) (hd : decode bytes pc = .ok (.iconst i, 1)) (hq : pc + 1 = q) (hv : Int32.ofInt i = v)
    (hr : Go W n0 Q h k n q ls (.int v :: st)) : Go W n0 Q h k n pc ls st := by
  subst hq hv
  exact Go.stepX (fun T L a b tg X eT kk => XS.iconst X.here C.x rfl (hb C.b hd) kk) hr
theorem Go.bipush (C : Cx Z W rm own nm bytes maxL ret) {i : Int} (v : Int32) (hd : decode bytes pc = .ok (.bipush i, 2)) (hq : pc + 2 = q) (hv : (Int8.ofInt i).toInt32 = v)
    (hr : Go W n0 Q h k n q ls (.int v :: st)) : Go W n0 Q h k n pc ls st := by
  subst hq hv
  exact Go.stepX (fun T L a b tg X eT kk => XS.bipush X.here C.x rfl (hb C.b hd) kk) hr
theorem Go.sipush (C : Cx Z W rm own nm bytes maxL ret) {i : Int} (v : Int32) (hd : decode bytes pc = .ok (.sipush i, 3)) (hq : pc + 3 = q) (hv : (Int16.ofInt i).toInt32 = v)
    (hr : Go W n0 Q h k n q ls (.int v :: st)) : Go W n0 Q h k n pc ls st := by
  subst hq hv
  exact Go.stepX (fun T L a b tg X eT kk => XS.sipush X.here C.x rfl (hb C.b hd) kk) hr
theorem Go.lconst (C : Cx Z W rm own nm bytes maxL ret) {i : Fin 2} (v : Int64) (hd : decode bytes pc = .ok (.lconst i, 1)) (hq : pc + 1 = q) (hv : Int64.ofNat i = v)
    (hr : Go W n0 Q h k n q ls (.long v :: st)) : Go W n0 Q h k n pc ls st := by
  subst hq hv
  exact Go.stepX (fun T L a b tg X eT kk => XS.lconst X.here C.x rfl (hb C.b hd) kk) hr
theorem Go.aconstNull (C : Cx Z W rm own nm bytes maxL ret)  (hd : decode bytes pc = .ok (.aconst_null, 1)) (hq : pc + 1 = q)
    (hr : Go W n0 Q h k n q ls (.null :: st)) : Go W n0 Q h k n pc ls st := by
  subst hq
  exact Go.stepX (fun T L a b tg X eT kk => XS.aconstNull X.here C.x rfl (hb C.b hd) kk) hr
theorem Go.ldcI (C : Cx Z W rm own nm bytes maxL ret) {index : Nat} {v : Int32} (w : (Jvm.Cond.constant own index v).before a0 Z = true) (hd : decode bytes pc = .ok (.ldc index, 2)) (hq : pc + 2 = q)
    (hr : Go W n0 Q h k n q ls (.int v :: st)) : Go W n0 Q h k n pc ls st := by
  subst hq
  exact Go.stepX (fun T L a b tg X eT kk => X.ldcInt C.x C.ow (mvT C.z w) (g := mkF W.m pc ls st) rfl (hb C.b hd) _ kk) hr
theorem Go.ldcwI (C : Cx Z W rm own nm bytes maxL ret) {index : Nat} {v : Int32} (w : (Jvm.Cond.constant own index v).before a0 Z = true) (hd : decode bytes pc = .ok (.ldc_w index, 3)) (hq : pc + 3 = q)
    (hr : Go W n0 Q h k n q ls (.int v :: st)) : Go W n0 Q h k n pc ls st := by
  subst hq
  exact Go.stepX (fun T L a b tg X eT kk => X.ldcwInt C.x C.ow (mvT C.z w) (g := mkF W.m pc ls st) rfl (hb C.b hd) _ kk) hr
theorem Go.ldc2J (C : Cx Z W rm own nm bytes maxL ret) {index : Nat} {v : Int64} (w : (Jvm.Cond.constantLong own index v).before a0 Z = true) (hd : decode bytes pc = .ok (.ldc2_w index, 3)) (hq : pc + 3 = q)
    (hr : Go W n0 Q h k n q ls (.long v :: st)) : Go W n0 Q h k n pc ls st := by
  subst hq
  exact Go.stepX (fun T L a b tg X eT kk => X.ldc2Long C.x C.ow (mvT C.z w) (g := mkF W.m pc ls st) rfl (hb C.b hd) _ kk) hr
theorem Go.iadd (C : Cx Z W rm own nm bytes maxL ret) {x y : Int32} (hd : decode bytes pc = .ok (.iadd, 1)) (hq : pc + 1 = q)
    (hr : Go W n0 Q h k n q ls (.int (x + y) :: st)) : Go W n0 Q h k n pc ls (.int y :: .int x :: st) := by
  subst hq
  exact Go.stepX (fun T L a b tg X eT kk => XS.iadd X.here C.x rfl (hb C.b hd) rfl kk) hr
theorem Go.ladd (C : Cx Z W rm own nm bytes maxL ret) {x y : Int64} (hd : decode bytes pc = .ok (.ladd, 1)) (hq : pc + 1 = q)
    (hr : Go W n0 Q h k n q ls (.long (x + y) :: st)) : Go W n0 Q h k n pc ls (.long y :: .long x :: st) := by
  subst hq
  exact Go.stepX (fun T L a b tg X eT kk => XS.ladd X.here C.x rfl (hb C.b hd) rfl kk) hr
theorem Go.isub (C : Cx Z W rm own nm bytes maxL ret) {x y : Int32} (hd : decode bytes pc = .ok (.isub, 1)) (hq : pc + 1 = q)
    (hr : Go W n0 Q h k n q ls (.int (x - y) :: st)) : Go W n0 Q h k n pc ls (.int y :: .int x :: st) := by
  subst hq
  exact Go.stepX (fun T L a b tg X eT kk => XS.isub X.here C.x rfl (hb C.b hd) rfl kk) hr
theorem Go.lsub (C : Cx Z W rm own nm bytes maxL ret) {x y : Int64} (hd : decode bytes pc = .ok (.lsub, 1)) (hq : pc + 1 = q)
    (hr : Go W n0 Q h k n q ls (.long (x - y) :: st)) : Go W n0 Q h k n pc ls (.long y :: .long x :: st) := by
  subst hq
  exact Go.stepX (fun T L a b tg X eT kk => XS.lsub X.here C.x rfl (hb C.b hd) rfl kk) hr
theorem Go.imul (C : Cx Z W rm own nm bytes maxL ret) {x y : Int32} (hd : decode bytes pc = .ok (.imul, 1)) (hq : pc + 1 = q)
    (hr : Go W n0 Q h k n q ls (.int (x * y) :: st)) : Go W n0 Q h k n pc ls (.int y :: .int x :: st) := by
  subst hq
  exact Go.stepX (fun T L a b tg X eT kk => XS.imul X.here C.x rfl (hb C.b hd) rfl kk) hr
theorem Go.lmul (C : Cx Z W rm own nm bytes maxL ret) {x y : Int64} (hd : decode bytes pc = .ok (.lmul, 1)) (hq : pc + 1 = q)
    (hr : Go W n0 Q h k n q ls (.long (x * y) :: st)) : Go W n0 Q h k n pc ls (.long y :: .long x :: st) := by
  subst hq
  exact Go.stepX (fun T L a b tg X eT kk => XS.lmul X.here C.x rfl (hb C.b hd) rfl kk) hr
theorem Go.iand (C : Cx Z W rm own nm bytes maxL ret) {x y : Int32} (hd : decode bytes pc = .ok (.iand, 1)) (hq : pc + 1 = q)
    (hr : Go W n0 Q h k n q ls (.int (x &&& y) :: st)) : Go W n0 Q h k n pc ls (.int y :: .int x :: st) := by
  subst hq
  exact Go.stepX (fun T L a b tg X eT kk => XS.iand X.here C.x rfl (hb C.b hd) rfl kk) hr
theorem Go.land (C : Cx Z W rm own nm bytes maxL ret) {x y : Int64} (hd : decode bytes pc = .ok (.land, 1)) (hq : pc + 1 = q)
    (hr : Go W n0 Q h k n q ls (.long (x &&& y) :: st)) : Go W n0 Q h k n pc ls (.long y :: .long x :: st) := by
  subst hq
  exact Go.stepX (fun T L a b tg X eT kk => XS.land X.here C.x rfl (hb C.b hd) rfl kk) hr
theorem Go.ior (C : Cx Z W rm own nm bytes maxL ret) {x y : Int32} (hd : decode bytes pc = .ok (.ior, 1)) (hq : pc + 1 = q)
    (hr : Go W n0 Q h k n q ls (.int (x ||| y) :: st)) : Go W n0 Q h k n pc ls (.int y :: .int x :: st) := by
  subst hq
  exact Go.stepX (fun T L a b tg X eT kk => XS.ior X.here C.x rfl (hb C.b hd) rfl kk) hr
theorem Go.lor (C : Cx Z W rm own nm bytes maxL ret) {x y : Int64} (hd : decode bytes pc = .ok (.lor, 1)) (hq : pc + 1 = q)
    (hr : Go W n0 Q h k n q ls (.long (x ||| y) :: st)) : Go W n0 Q h k n pc ls (.long y :: .long x :: st) := by
  subst hq
  exact Go.stepX (fun T L a b tg X eT kk => XS.lor X.here C.x rfl (hb C.b hd) rfl kk) hr
theorem Go.ixor (C : Cx Z W rm own nm bytes maxL ret) {x y : Int32} (hd : decode bytes pc = .ok (.ixor, 1)) (hq : pc + 1 = q)
    (hr : Go W n0 Q h k n q ls (.int (x ^^^ y) :: st)) : Go W n0 Q h k n pc ls (.int y :: .int x :: st) := by
  subst hq
  exact Go.stepX (fun T L a b tg X eT kk => XS.ixor X.here C.x rfl (hb C.b hd) rfl kk) hr
theorem Go.lxor (C : Cx Z W rm own nm bytes maxL ret) {x y : Int64} (hd : decode bytes pc = .ok (.lxor, 1)) (hq : pc + 1 = q)
    (hr : Go W n0 Q h k n q ls (.long (x ^^^ y) :: st)) : Go W n0 Q h k n pc ls (.long y :: .long x :: st) := by
  subst hq
  exact Go.stepX (fun T L a b tg X eT kk => XS.lxor X.here C.x rfl (hb C.b hd) rfl kk) hr
theorem Go.irem (C : Cx Z W rm own nm bytes maxL ret) {x y : Int32} (hd : decode bytes pc = .ok (.irem, 1)) (hq : pc + 1 = q) (hy : y ≠ 0)
    (hr : Go W n0 Q h k n q ls (.int (x % y) :: st)) : Go W n0 Q h k n pc ls (.int y :: .int x :: st) := by
  subst hq
  exact Go.stepX (fun T L a b tg X eT kk => iremM X C.x rfl (hb C.b hd) rfl hy kk) hr
theorem Go.idiv (C : Cx Z W rm own nm bytes maxL ret) {x y : Int32} (hd : decode bytes pc = .ok (.idiv, 1)) (hq : pc + 1 = q) (hy : y ≠ 0)
    (hr : Go W n0 Q h k n q ls (.int (x / y) :: st)) : Go W n0 Q h k n pc ls (.int y :: .int x :: st) := by
  subst hq
  exact Go.stepX (fun T L a b tg X eT kk => XS.idiv X.here C.x rfl (hb C.b hd) rfl hy kk) hr
theorem Go.lrem (C : Cx Z W rm own nm bytes maxL ret) {x y : Int64} (hd : decode bytes pc = .ok (.lrem, 1)) (hq : pc + 1 = q) (hy : y ≠ 0)
    (hr : Go W n0 Q h k n q ls (.long (x - (x / y) * y) :: st)) : Go W n0 Q h k n pc ls (.long y :: .long x :: st) := by
  subst hq
  exact Go.stepX (fun T L a b tg X eT kk => XS.lrem X.here C.x rfl (hb C.b hd) rfl hy kk) hr
theorem Go.ldiv (C : Cx Z W rm own nm bytes maxL ret) {x y : Int64} (hd : decode bytes pc = .ok (.ldiv, 1)) (hq : pc + 1 = q) (hy : y ≠ 0)
    (hr : Go W n0 Q h k n q ls (.long (x / y) :: st)) : Go W n0 Q h k n pc ls (.long y :: .long x :: st) := by
  subst hq
  exact Go.stepX (fun T L a b tg X eT kk => XS.ldiv X.here C.x rfl (hb C.b hd) rfl hy kk) hr
theorem Go.ineg (C : Cx Z W rm own nm bytes maxL ret) {x : Int32} (hd : decode bytes pc = .ok (.ineg, 1)) (hq : pc + 1 = q)
    (hr : Go W n0 Q h k n q ls (.int (-x) :: st)) : Go W n0 Q h k n pc ls (.int x :: st) := by
  subst hq
  exact Go.stepX (fun T L a b tg X eT kk => XS.ineg X.here C.x rfl (hb C.b hd) rfl kk) hr
theorem Go.lneg (C : Cx Z W rm own nm bytes maxL ret) {x : Int64} (hd : decode bytes pc = .ok (.lneg, 1)) (hq : pc + 1 = q)
    (hr : Go W n0 Q h k n q ls (.long (-x) :: st)) : Go W n0 Q h k n pc ls (.long x :: st) := by
  subst hq
  exact Go.stepX (fun T L a b tg X eT kk => XS.lneg X.here C.x rfl (hb C.b hd) rfl kk) hr
theorem Go.i2l (C : Cx Z W rm own nm bytes maxL ret) {x : Int32} (hd : decode bytes pc = .ok (.i2l, 1)) (hq : pc + 1 = q)
    (hr : Go W n0 Q h k n q ls (.long x.toInt64 :: st)) : Go W n0 Q h k n pc ls (.int x :: st) := by
  subst hq
  exact Go.stepX (fun T L a b tg X eT kk => XS.i2l X.here C.x rfl (hb C.b hd) rfl kk) hr
theorem Go.l2i (C : Cx Z W rm own nm bytes maxL ret) {x : Int64} (hd : decode bytes pc = .ok (.l2i, 1)) (hq : pc + 1 = q)
    (hr : Go W n0 Q h k n q ls (.int x.toInt32 :: st)) : Go W n0 Q h k n pc ls (.long x :: st) := by
  subst hq
  exact Go.stepX (fun T L a b tg X eT kk => XS.l2i X.here C.x rfl (hb C.b hd) rfl kk) hr
theorem Go.i2b (C : Cx Z W rm own nm bytes maxL ret) {x : Int32} (hd : decode bytes pc = .ok (.i2b, 1)) (hq : pc + 1 = q)
    (hr : Go W n0 Q h k n q ls (.int x.toInt8.toInt32 :: st)) : Go W n0 Q h k n pc ls (.int x :: st) := by
  subst hq
  exact Go.stepX (fun T L a b tg X eT kk => XS.i2b X.here C.x rfl (hb C.b hd) rfl kk) hr
theorem Go.i2s (C : Cx Z W rm own nm bytes maxL ret) {x : Int32} (hd : decode bytes pc = .ok (.i2s, 1)) (hq : pc + 1 = q)
    (hr : Go W n0 Q h k n q ls (.int x.toInt16.toInt32 :: st)) : Go W n0 Q h k n pc ls (.int x :: st) := by
  subst hq
  exact Go.stepX (fun T L a b tg X eT kk => XS.i2s X.here C.x rfl (hb C.b hd) rfl kk) hr
theorem Go.i2c (C : Cx Z W rm own nm bytes maxL ret) {x : Int32} (hd : decode bytes pc = .ok (.i2c, 1)) (hq : pc + 1 = q)
    (hr : Go W n0 Q h k n q ls (.int x.toUInt32.toUInt16.toUInt32.toInt32 :: st)) : Go W n0 Q h k n pc ls (.int x :: st) := by
  subst hq
  exact Go.stepX (fun T L a b tg X eT kk => XS.i2c X.here C.x rfl (hb C.b hd) rfl kk) hr
theorem Go.ishl (C : Cx Z W rm own nm bytes maxL ret) {x : Int32} {y : Int32} (hd : decode bytes pc = .ok (.ishl, 1)) (hq : pc + 1 = q)
    (hr : Go W n0 Q h k n q ls (.int (x <<< (y &&& 31)) :: st)) : Go W n0 Q h k n pc ls (.int y :: .int x :: st) := by
  subst hq
  exact Go.stepX (fun T L a b tg X eT kk => XS.ishl X.here C.x rfl (hb C.b hd) rfl kk) hr
theorem Go.ishr (C : Cx Z W rm own nm bytes maxL ret) {x : Int32} {y : Int32} (hd : decode bytes pc = .ok (.ishr, 1)) (hq : pc + 1 = q)
    (hr : Go W n0 Q h k n q ls (.int (x >>> (y &&& 31)) :: st)) : Go W n0 Q h k n pc ls (.int y :: .int x :: st) := by
  subst hq
  exact Go.stepX (fun T L a b tg X eT kk => XS.ishr X.here C.x rfl (hb C.b hd) rfl kk) hr
theorem Go.iushr (C : Cx Z W rm own nm bytes maxL ret) {x : Int32} {y : Int32} (hd : decode bytes pc = .ok (.iushr, 1)) (hq : pc + 1 = q)
    (hr : Go W n0 Q h k n q ls (.int ((x.toUInt32 >>> (y &&& 31).toUInt32).toInt32) :: st)) : Go W n0 Q h k n pc ls (.int y :: .int x :: st) := by
  subst hq
  exact Go.stepX (fun T L a b tg X eT kk => XS.iushr X.here C.x rfl (hb C.b hd) rfl kk) hr
theorem Go.lshl (C : Cx Z W rm own nm bytes maxL ret) {x : Int64} {y : Int32} (hd : decode bytes pc = .ok (.lshl, 1)) (hq : pc + 1 = q)
    (hr : Go W n0 Q h k n q ls (.long (x <<< (y &&& 0x3f).toInt64) :: st)) : Go W n0 Q h k n pc ls (.int y :: .long x :: st) := by
  subst hq
  exact Go.stepX (fun T L a b tg X eT kk => XS.lshl X.here C.x rfl (hb C.b hd) rfl kk) hr
theorem Go.lshr (C : Cx Z W rm own nm bytes maxL ret) {x : Int64} {y : Int32} (hd : decode bytes pc = .ok (.lshr, 1)) (hq : pc + 1 = q)
    (hr : Go W n0 Q h k n q ls (.long (x >>> (y &&& 0x3f).toInt64) :: st)) : Go W n0 Q h k n pc ls (.int y :: .long x :: st) := by
  subst hq
  exact Go.stepX (fun T L a b tg X eT kk => XS.lshr X.here C.x rfl (hb C.b hd) rfl kk) hr
theorem Go.lushr (C : Cx Z W rm own nm bytes maxL ret) {x : Int64} {y : Int32} (hd : decode bytes pc = .ok (.lushr, 1)) (hq : pc + 1 = q)
    (hr : Go W n0 Q h k n q ls (.long ((x.toUInt64 >>> (y &&& 0x3f).toInt64.toUInt64).toInt64) :: st)) : Go W n0 Q h k n pc ls (.int y :: .long x :: st) := by
  subst hq
  exact Go.stepX (fun T L a b tg X eT kk => XS.lushr X.here C.x rfl (hb C.b hd) rfl kk) hr
theorem Go.lcmp (C : Cx Z W rm own nm bytes maxL ret) {x y : Int64} (hd : decode bytes pc = .ok (.lcmp, 1)) (hq : pc + 1 = q)
    (hr : Go W n0 Q h k n q ls (.int (lcmpW x y) :: st)) : Go W n0 Q h k n pc ls (.long y :: .long x :: st) := by
  subst hq
  exact Go.stepX (fun T L a b tg X eT kk => XS.lcmp X.here C.x rfl (hb C.b hd) rfl kk) hr
theorem Go.pop (C : Cx Z W rm own nm bytes maxL ret) {x : Value} (hd : decode bytes pc = .ok (.pop, 1)) (hq : pc + 1 = q) (hc : x.category = 1)
    (hr : Go W n0 Q h k n q ls st) : Go W n0 Q h k n pc ls (x :: st) := by
  subst hq
  exact Go.stepX (fun T L a b tg X eT kk => XS.pop X.here C.x rfl (hb C.b hd) rfl hc kk) hr
theorem Go.dup (C : Cx Z W rm own nm bytes maxL ret) {x : Value} (hd : decode bytes pc = .ok (.dup, 1)) (hq : pc + 1 = q) (hc : x.category = 1)
    (hr : Go W n0 Q h k n q ls (x :: x :: st)) : Go W n0 Q h k n pc ls (x :: st) := by
  subst hq
  exact Go.stepX (fun T L a b tg X eT kk => XS.dup X.here C.x rfl (hb C.b hd) rfl hc kk) hr
theorem Go.dup2 (C : Cx Z W rm own nm bytes maxL ret) {x y : Value} (hd : decode bytes pc = .ok (.dup2, 1)) (hq : pc + 1 = q) (hc : x.category = 1) (hc' : y.category = 1)
    (hr : Go W n0 Q h k n q ls (x :: y :: x :: y :: st)) : Go W n0 Q h k n pc ls (x :: y :: st) := by
  subst hq
  exact Go.stepX (fun T L a b tg X eT kk => XT.dup2 X.here C.x rfl (hb C.b hd) rfl hc hc' kk) hr
theorem Go.goto (C : Cx Z W rm own nm bytes maxL ret) {o : Int} (hd : decode bytes pc = .ok (.goto o, 3)) (ho : 0 ≤ (pc : Int) + o) (hp : ((pc : Int) + o).toNat = q)
    (hr : Go W n0 Q h k n q ls st) : Go W n0 Q h k n pc ls st :=
  Go.stepX (fun T L a b tg X eT kk => XS.goto X.here C.x rfl (pc0 := pc) rfl (hb C.b hd) ho hp kk) hr
theorem Go.icmp (C : Cx Z W rm own nm bytes maxL ret) {cd : ClassFile.Cond} {o : Int} {x y : Int32} {qt : Nat} {P : Prop} [Decidable P] (hd : decode bytes pc = .ok (.if_icmp cd o, 3)) (hP : if_icmp.holds cd x y = decide P) (ho : 0 ≤ (pc : Int) + o) (hp : ((pc : Int) + o).toNat = qt) (hq : pc + 3 = q)
    (ht : P → Go W n0 Q h k n qt ls st) (hf : ¬ P → Go W n0 Q h k n q ls st) : Go W n0 Q h k n pc ls (.int y :: .int x :: st) := by
  subst hq
  by_cases p : P
  · exact Go.stepX (fun T L a b tg X eT kk => XS.icmpYes X.here C.x rfl (pc0 := pc) rfl (hb C.b hd) rfl (hP.trans (decide_eq_true p)) ho hp kk) (ht p)
  · exact Go.stepX (fun T L a b tg X eT kk => XS.icmpNo X.here C.x rfl (hb C.b hd) rfl (hP.trans (decide_eq_false p)) kk) (hf p)
theorem Go.if0 (C : Cx Z W rm own nm bytes maxL ret) {cd : ClassFile.Cond} {o : Int} {x : Int32} {qt : Nat} {P : Prop} [Decidable P] (hd : decode bytes pc = .ok (.ifCond cd o, 3)) (hP : ifCond.holds cd x = decide P) (ho : 0 ≤ (pc : Int) + o) (hp : ((pc : Int) + o).toNat = qt) (hq : pc + 3 = q)
    (ht : P → Go W n0 Q h k n qt ls st) (hf : ¬ P → Go W n0 Q h k n q ls st) : Go W n0 Q h k n pc ls (.int x :: st) := by
  subst hq
  by_cases p : P
  · exact Go.stepX (fun T L a b tg X eT kk => XS.ifYes X.here C.x rfl (pc0 := pc) rfl (hb C.b hd) rfl (hP.trans (decide_eq_true p)) ho hp kk) (ht p)
  · exact Go.stepX (fun T L a b tg X eT kk => XS.ifNo X.here C.x rfl (hb C.b hd) rfl (hP.trans (decide_eq_false p)) kk) (hf p)
theorem Go.ifnullY (C : Cx Z W rm own nm bytes maxL ret) {o : Int} (hd : decode bytes pc = .ok (.ifnull o, 3)) (ho : 0 ≤ (pc : Int) + o) (hp : ((pc : Int) + o).toNat = q)
    (hr : Go W n0 Q h k n q ls st) : Go W n0 Q h k n pc ls (.null :: st) :=
  Go.stepX (fun T L a b tg X eT kk => XS.ifnullYes X.here C.x rfl (pc0 := pc) rfl (hb C.b hd) rfl ho hp kk) hr
theorem Go.ifnullN (C : Cx Z W rm own nm bytes maxL ret) {o : Int} {a : Addr} (hd : decode bytes pc = .ok (.ifnull o, 3)) (hq : pc + 3 = q)
    (hr : Go W n0 Q h k n q ls st) : Go W n0 Q h k n pc ls (.ref a :: st) := by
  subst hq
  exact Go.stepX (fun T L a b tg X eT kk => XS.ifnullNo X.here C.x rfl (hb C.b hd) rfl kk) hr
theorem Go.ifnonnullY (C : Cx Z W rm own nm bytes maxL ret) {o : Int} {a : Addr} (hd : decode bytes pc = .ok (.ifnonnull o, 3)) (ho : 0 ≤ (pc : Int) + o) (hp : ((pc : Int) + o).toNat = q)
    (hr : Go W n0 Q h k n q ls st) : Go W n0 Q h k n pc ls (.ref a :: st) :=
  Go.stepX (fun T L a b tg X eT kk => XS.ifnonnullYes X.here C.x rfl (pc0 := pc) rfl (hb C.b hd) rfl ho hp kk) hr
theorem Go.ifnonnullN (C : Cx Z W rm own nm bytes maxL ret) {o : Int} (hd : decode bytes pc = .ok (.ifnonnull o, 3)) (hq : pc + 3 = q)
    (hr : Go W n0 Q h k n q ls st) : Go W n0 Q h k n pc ls (.null :: st) := by
  subst hq
  exact Go.stepX (fun T L a b tg X eT kk => XS.ifnonnullNo X.here C.x rfl (hb C.b hd) rfl kk) hr
theorem Go.acmp (C : Cx Z W rm own nm bytes maxL ret) {cd : ACond} {o : Int} {x y : Value} {same : Bool} (hd : decode bytes pc = .ok (.if_acmp cd o, 3)) (h1 : x.isRef = true) (h2 : y.isRef = true) (hs : decide (x = y) = same) (ho : 0 ≤ (pc : Int) + o) (hp : q = if acV cd same = true then ((pc : Int) + o).toNat else pc + 3)
    (hr : Go W n0 Q h k n q ls st) : Go W n0 Q h k n pc ls (y :: x :: st) :=
  Go.stepX (fun T L a b tg X eT kk => Jvm.RoadKit.acmp X C.x rfl h1 h2 (pc0 := pc) rfl (hb C.b hd) rfl hs ho hp kk) hr
theorem n_lt (x y : Int32) : if_icmp.holds .lt x y = decide (x < y) := rfl
theorem n_ge (x y : Int32) : if_icmp.holds .ge x y = decide (¬ x < y) := by simp [if_icmp.holds, Int32.not_lt]
theorem n_gt (x y : Int32) : if_icmp.holds .gt x y = decide (y < x) := rfl
theorem n_le (x y : Int32) : if_icmp.holds .le x y = decide (¬ y < x) := by simp [if_icmp.holds, Int32.not_lt]
theorem n_eq (x y : Int32) : if_icmp.holds .eq x y = decide (x = y) := by by_cases e : x = y <;> simp [if_icmp.holds, e]
theorem n_ne (x y : Int32) : if_icmp.holds .ne x y = decide (¬ x = y) := by by_cases e : x = y <;> simp [if_icmp.holds, e]
theorem z_lt (x : Int32) : ifCond.holds .lt x = decide (x < 0) := (if0 _ x).trans (n_lt x 0)
theorem z_ge (x : Int32) : ifCond.holds .ge x = decide (¬ x < 0) := (if0 _ x).trans (n_ge x 0)
theorem z_gt (x : Int32) : ifCond.holds .gt x = decide (0 < x) := (if0 _ x).trans (n_gt x 0)
theorem z_le (x : Int32) : ifCond.holds .le x = decide (¬ 0 < x) := (if0 _ x).trans (n_le x 0)
theorem z_eq (x : Int32) : ifCond.holds .eq x = decide (x = 0) := (if0 _ x).trans (n_eq x 0)
theorem z_ne (x : Int32) : ifCond.holds .ne x = decide (¬ x = 0) := (if0 _ x).trans (n_ne x 0)
theorem l_lt (x y : Int64) : ifCond.holds .lt (lcmpW x y) = decide (x < y) := by rw [z_lt]; exact decide_eq_decide.mpr (lw_lt x y)
theorem l_ge (x y : Int64) : ifCond.holds .ge (lcmpW x y) = decide (¬ x < y) := by rw [z_ge]; exact decide_eq_decide.mpr (not_congr (lw_lt x y))
theorem l_gt (x y : Int64) : ifCond.holds .gt (lcmpW x y) = decide (y < x) := by rw [z_gt]; exact decide_eq_decide.mpr (lw_gt x y)
theorem l_le (x y : Int64) : ifCond.holds .le (lcmpW x y) = decide (¬ y < x) := by rw [z_le]; exact decide_eq_decide.mpr (not_congr (lw_gt x y))
theorem l_eq (x y : Int64) : ifCond.holds .eq (lcmpW x y) = decide (x = y) := by rw [z_eq]; exact decide_eq_decide.mpr (lw_eq x y)
theorem l_ne (x y : Int64) : ifCond.holds .ne (lcmpW x y) = decide (¬ x = y) := by rw [z_ne]; exact decide_eq_decide.mpr (not_congr (lw_eq x y))
theorem nar_b (x : Int32) : nar .byte x.toInt8.toInt32 = x.toInt8.toInt32 := by
  show x.toInt8.toInt32.toInt8.toInt32 = _
  simp
/-- what the law's own walk leaves -/
def QL : Option Value → Heap → Prop := fun v _ => v = some (.int 1)
/-! the ends -/
theorem Go.out {v : Option Value} (f : ∀ T L a b fs, St W T L a b → (∀ (g : JFrame) (acts : List Action), g.method = W.m → g.locked = none → g.entered = [] → (doReturn W.e (T.setTop g) acts v).1 = T.setFrames fs) → Sp W (T.setTop (mkF W.m pc ls st)) (T.setFrames fs)) (hv : W.meth.sig.returnType = none → v = none) (hlk : W.meth.locks = false) (hk : k ≤ W.R.cells) (hn : n ≤ W.R.slots) (hQ : Q v h) : Go W n0 Q h k n pc ls st := by
  intro T L a b X ha hb N eT
  obtain ⟨fs, hr, hrun, hended, hW, hsame⟩ := X.leave (v := v) hv hlk
  refine ⟨_, _, f T L a b fs X hr, hrun, hended, v, L, rfl, ⟨N, ?_⟩, ⟨_, rfl⟩, hW, hsame.mono (Nat.le_trans ha hk) (Nat.le_trans hb hn)⟩
  have e1 : (T.setFrames fs).heap = T.heap := rfl
  rw [e1, eT]
  exact hQ
theorem Go.retI (C : Cx Z W rm own nm bytes maxL (some .int)) {x : Int32} (hd : decode bytes pc = .ok (.ireturn, 1)) (hk : k ≤ rm.cells) (hn : n ≤ rm.slots) (hQ : Q (some (.int x)) h) : Go W n0 Q h k n pc ls (.int x :: st) :=
  Go.out (v := some (.int x)) (fun T L a b fs X hr => Jvm.RoadKit.retI X C.x C.re (hb C.b hd) hr) (fun e => by rw [C.re] at e; cases e) C.lk (by rw [C.ro]; exact hk) (by rw [C.ro]; exact hn) hQ
theorem Go.retZ {t : FieldType} (ht : t = .boolean ∨ t = .byte ∨ t = .char ∨ t = .short) (C : Cx Z W rm own nm bytes maxL (some t)) {x : Int32} (hd : decode bytes pc = .ok (.ireturn, 1)) (hk : k ≤ rm.cells) (hn : n ≤ rm.slots) (hQ : Q (some (.int (nar t x))) h) : Go W n0 Q h k n pc ls (.int x :: st) :=
  Go.out (v := some (.int (nar t x))) (fun T L a b fs X hr => retN X C.x (t := t) C.re ht (hb C.b hd) hr) (fun e => by rw [C.re] at e; cases e) C.lk (by rw [C.ro]; exact hk) (by rw [C.ro]; exact hn) hQ
theorem Go.retV (C : Cx Z W rm own nm bytes maxL none) (hd : decode bytes pc = .ok (.return_, 1)) (hk : k ≤ rm.cells) (hn : n ≤ rm.slots) (hQ : Q none h) : Go W n0 Q h k n pc ls [] :=
  Go.out (v := none) (fun T L a b fs X hr => X.returnOut C.x C.re (hb C.b hd) hr) (fun _ => rfl) C.lk (by rw [C.ro]; exact hk) (by rw [C.ro]; exact hn) hQ
theorem Go.retJ (C : Cx Z W rm own nm bytes maxL (some .long)) {x : Int64} (hd : decode bytes pc = .ok (.lreturn, 1)) (hk : k ≤ rm.cells) (hn : n ≤ rm.slots) (hQ : Q (some (.long x)) h) : Go W n0 Q h k n pc ls [.long x] :=
  Go.out (v := some (.long x)) (fun T L a b fs X hr => Stand.lreturnOut X C.x C.re (hb C.b hd) hr) (fun e => by rw [C.re] at e; cases e) C.lk (by rw [C.ro]; exact hk) (by rw [C.ro]; exact hn) hQ
theorem Go.retR {t : FieldType} (C : Cx Z W rm own nm bytes maxL (some t)) {v : Value} (hd : decode bytes pc = .ok (.areturn, 1)) (ht : t.isReference = true) (hv : v.isRef = true) (hnw : narrow t v = v) (hk : k ≤ rm.cells) (hn : n ≤ rm.slots) (hQ : Q (some v) h) : Go W n0 Q h k n pc ls (v :: st) :=
  Go.out (v := some v) (fun T L a b fs X hr => retOut X C.x (t := t) (i := .areturn) C.re hnw (Or.inr (Or.inr (Or.inr (Or.inr ⟨rfl, ht, hv⟩)))) (hb C.b hd) hr) (fun e => by rw [C.re] at e; cases e) C.lk (by rw [C.ro]; exact hk) (by rw [C.ro]; exact hn) hQ
/-! the calls -/
theorem met_weak {l : Launch} {y : MethodName} {as : Array Value} {Q' : Option Value → Heap → Prop} (M : Met1 l Z y bytes maxL ret [] rm as h n0 Q) (hQ : ∀ v h', Q v h' → Q' v h') : Met1 l Z y bytes maxL ret [] rm as h n0 Q' := by
  intro p e ha hc hk s m args below hf happ hP hK
  obtain ⟨n, o, h1, h2, h3, v, L, h4, ⟨h5, h6⟩, h7⟩ := M p e ha hc hk s m args below hf happ hP hK
  exact ⟨n, o, h1, h2, h3, v, L, h4, ⟨h5, hQ _ _ h6⟩, h7⟩
theorem Go.callS (C : Cx Z W rm own nm bytes maxL ret) {index : Nat} {y : MethodName} {bytes' : ByteArray} {maxL' : Nat} {ret' : Option FieldType} {rm' : Room} {argsL : List Value} {Q' : Option Value → Heap → Prop} {ps : List FieldType} {rt : Option FieldType} {stk : List Value} {k' n' w : Nat}
    (wl : (Jvm.Cond.methodLink own index y).before a0 Z = true) (wst : (Jvm.Cond.static y).before a0 Z = true) (wi : (Jvm.Cond.initialized y.cls).before a0 Z = true) (wc : (Jvm.Cond.code y bytes' maxL' ret').before a0 Z = true)
    (M : Met1 W.l Z y bytes' maxL' ret' [] rm' argsL.toArray h n0 Q') (hd : decode bytes pc = .ok (.invokestatic index, 3)) (hpd : parseMethodDescriptor y.desc = some ⟨ps, rt⟩) (hq : pc + 3 = q) (hls : ls.size = maxL) (hstk : stk = argsL.reverse ++ st) (hlen : argsL.length = ps.length)
    (hw : (st.map fun v => v.category).sum = w) (hfr : rm'.frames + 1 ≤ rm.frames) (hlo : w + (maxL' + 11) + rm'.locals ≤ rm.locals) (hk : k + rm'.cells = k') (hn : n + rm'.slots = n') (hk' : k' ≤ rm.cells) (hn' : n' ≤ rm.slots)
    (hr : ∀ v h', Q' v h' → Go W n0 Q h' k' n' q ls (v.toList ++ st)) (hy : y.cls ≠ "java/lang/invoke/MethodHandle" ∧ y.cls ≠ "java/lang/invoke/VarHandle" := by decide) : Go W n0 Q h k n pc ls stk := by
  subst hstk hq hk hn hw
  intro T L a b X ha hb' N eT
  have e1 := C.ro
  obtain ⟨v, _, ⟨T2, L2, k2, n2⟩, -, X2, ⟨Lc, ⟨N2, hQ2⟩, l2, y2, z2⟩, sp⟩ := Jvm.LawKit.callS X C.x (y := y) C.ow (mvT C.z wl) (mvT C.z wst) (mvT C.z wi) (mvT C.z wc) hy
    (backOf (W := (st.map fun v => v.category).sum) (Q := fun v h L => Fr n0 L ∧ Q' v h) M C.z wc wi (by rw [e1]; exact hfr) (by rw [e1]; exact hlo)) (g := mkF W.m pc ls (argsL.reverse ++ st)) rfl (by rw [C.ml]; exact hls) (argsL := argsL) (rest := st) (lenOf hpd hlen) rfl (by show 2 * 0 + (st.map fun v => v.category).sum ≤ (st.map fun v => v.category).sum; omega) (hb C.b hd) (fun _ _ => ⟨rfl, eT, by rw [e1]; show a + _ ≤ _; omega, by rw [e1]; show b + _ ≤ _; omega⟩)
  dsimp only [Pt.U, Pt.locs, Pt.cells, Pt.slots] at X2 l2 y2 z2 sp hQ2
  subst l2 y2 z2
  obtain ⟨s₂, o, hs, r⟩ := hr v _ hQ2 T2 _ _ _ X2 (by omega) (by omega) (Fr.app N N2) rfl
  exact ⟨s₂, o, sp _ hs, r⟩
/-- what a callee that changes nothing leaves -/
def Ret (w : Value) (h : Heap) : Option Value → Heap → Prop := fun v h' => v = some w ∧ h' = h
theorem Go.pureS (C : Cx Z W rm own nm bytes maxL ret) {index : Nat} {y : MethodName} {bytes' : ByteArray} {maxL' : Nat} {ret' : Option FieldType} {fr lo : Nat} {argsL : List Value} {res : Value} {ps : List FieldType} {rt : Option FieldType} {stk : List Value} {w : Nat}
    (wl : (Jvm.Cond.methodLink own index y).before a0 Z = true) (wst : (Jvm.Cond.static y).before a0 Z = true) (wi : (Jvm.Cond.initialized y.cls).before a0 Z = true) (wc : (Jvm.Cond.code y bytes' maxL' ret').before a0 Z = true)
    (M : Met1 W.l Z y bytes' maxL' ret' [] ({ frames := fr, cells := 0, slots := 0, locals := lo } : Room) argsL.toArray h n0 (Ret res h)) (hd : decode bytes pc = .ok (.invokestatic index, 3)) (hpd : parseMethodDescriptor y.desc = some ⟨ps, rt⟩) (hq : pc + 3 = q) (hls : ls.size = maxL) (hstk : stk = argsL.reverse ++ st) (hlen : argsL.length = ps.length)
    (hw : (st.map fun v => v.category).sum = w) (hfr : fr + 1 ≤ rm.frames) (hlo : w + (maxL' + 11) + lo ≤ rm.locals) (hk' : k ≤ rm.cells) (hn' : n ≤ rm.slots)
    (hr : Go W n0 Q h k n q ls (res :: st)) (hy : y.cls ≠ "java/lang/invoke/MethodHandle" ∧ y.cls ≠ "java/lang/invoke/VarHandle" := by decide) : Go W n0 Q h k n pc ls stk :=
  Go.callS C wl wst wi wc M hd hpd hq hls hstk hlen hw hfr hlo rfl rfl hk' hn' (fun v h' q => by obtain ⟨rfl, rfl⟩ := q; exact hr) hy
theorem Go.callC (C : Cx Z W rm own nm bytes maxL ret) {index : Nat} {y : MethodName} {bytes' : ByteArray} {maxL' : Nat} {rm' : Room} {argsL : List Value} {Q' : Option Value → Heap → Prop} {ps : List FieldType} {rt : Option FieldType} {stk : List Value} {k' n' w : Nat} {a : Addr}
    (hy1 : y.name = "<init>") (wl : (Jvm.Cond.methodLink own index y).before a0 Z = true) (wst : (Jvm.Cond.instanceMethod y).before a0 Z = true) (wi : (Jvm.Cond.initialized y.cls).before a0 Z = true) (wc : (Jvm.Cond.code y bytes' maxL' none).before a0 Z = true)
    (M : Met1 W.l Z y bytes' maxL' none [] rm' (.ref a :: argsL).toArray h n0 Q') (hd : decode bytes pc = .ok (.invokespecial index, 3)) (hpd : parseMethodDescriptor y.desc = some ⟨ps, rt⟩) (hq : pc + 3 = q) (hls : ls.size = maxL) (hstk : stk = argsL.reverse ++ .ref a :: st) (hlen : argsL.length = ps.length)
    (hw : (st.map fun v => v.category).sum = w) (hfr : rm'.frames + 1 ≤ rm.frames) (hlo : w + (maxL' + 11) + rm'.locals ≤ rm.locals) (hk : k + rm'.cells = k') (hn : n + rm'.slots = n') (hk' : k' ≤ rm.cells) (hn' : n' ≤ rm.slots)
    (hr : ∀ v h', Q' v h' → Go W n0 Q h' k' n' q ls (v.toList ++ st)) (hy : y.cls ≠ "java/lang/invoke/MethodHandle" ∧ y.cls ≠ "java/lang/invoke/VarHandle" := by decide) : Go W n0 Q h k n pc ls stk := by
  subst hstk hq hk hn hw
  intro T L i j X ha hb' N eT
  have e1 := C.ro
  obtain ⟨v, _, ⟨T2, L2, k2, n2⟩, -, X2, ⟨Lc, ⟨N2, hQ2⟩, l2, y2, z2⟩, sp⟩ := X.specialBack C.x (y := y) hy1 C.ow (mvT C.z wl) (mvT C.z wst) (mvT C.z wc) hy
    (backOf (W := (st.map fun v => v.category).sum) (Q := fun v h L => Fr n0 L ∧ Q' v h) M C.z wc wi (by rw [e1]; exact hfr) (by rw [e1]; exact hlo)) (g := mkF W.m pc ls (argsL.reverse ++ .ref a :: st)) rfl (by rw [C.ml]; exact hls) (Steps.refl _) (a := a) (argsL := argsL) (rest := st) (lenOf hpd hlen) rfl (by show 2 * 0 + (st.map fun v => v.category).sum ≤ (st.map fun v => v.category).sum; omega) (hb C.b hd) (fun _ _ => ⟨rfl, eT, by rw [e1]; show i + _ ≤ _; omega, by rw [e1]; show j + _ ≤ _; omega⟩)
  dsimp only [Pt.U, Pt.locs, Pt.cells, Pt.slots] at X2 l2 y2 z2 sp hQ2
  subst l2 y2 z2
  obtain ⟨s₂, o, hs, r⟩ := hr v _ hQ2 T2 _ _ _ X2 (by omega) (by omega) (Fr.app N N2) rfl
  exact ⟨s₂, o, sp.trans hs, r⟩
theorem Go.callV (C : Cx Z W rm own nm bytes maxL ret) {index : Nat} {y z : MethodName} {K : String} {bytes' : ByteArray} {maxL' : Nat} {ret' : Option FieldType} {rm' : Room} {argsL : List Value} {Q' : Option Value → Heap → Prop} {ps : List FieldType} {rt : Option FieldType} {stk : List Value} {k' n' w : Nat} {a : Addr}
    (E : Exa Z h a K) (wl : (Jvm.Cond.methodLink own index y).before a0 Z = true) (wdc : (Jvm.Cond.declares y).before a0 Z = true) (hnf : NotFace W.s y) (wse : (Jvm.Cond.selects K y z).before a0 Z = true) (wst : (Jvm.Cond.instanceMethod z).before a0 Z = true) (wi : (Jvm.Cond.initialized z.cls).before a0 Z = true) (wc : (Jvm.Cond.code z bytes' maxL' ret').before a0 Z = true)
    (M : Met1 W.l Z z bytes' maxL' ret' [] rm' (.ref a :: argsL).toArray h n0 Q') (hd : decode bytes pc = .ok (.invokevirtual index, 3)) (hpd : parseMethodDescriptor y.desc = some ⟨ps, rt⟩) (hq : pc + 3 = q) (hls : ls.size = maxL) (hstk : stk = argsL.reverse ++ .ref a :: st) (hlen : argsL.length = ps.length)
    (hw : (st.map fun v => v.category).sum = w) (hfr : rm'.frames + 1 ≤ rm.frames) (hlo : w + (maxL' + 11) + rm'.locals ≤ rm.locals) (hk : k + rm'.cells = k') (hn : n + rm'.slots = n') (hk' : k' ≤ rm.cells) (hn' : n' ≤ rm.slots)
    (hr : ∀ v h', Q' v h' → Go W n0 Q h' k' n' q ls (v.toList ++ st)) (hy : y.cls ≠ "java/lang/invoke/MethodHandle" ∧ y.cls ≠ "java/lang/invoke/VarHandle" := by decide) : Go W n0 Q h k n pc ls stk := by
  subst hstk hq hk hn hw
  intro T L i j X ha hb' N eT
  have e1 := C.ro
  obtain ⟨cq, kq, qa, qb, qc⟩ := isOf (s := W.s) C.z eT E
  obtain ⟨v, _, ⟨T2, L2, k2, n2⟩, -, X2, ⟨Lc, ⟨N2, hQ2⟩, l2, y2, z2⟩, sp⟩ := X.virtualBack C.x (y := y) (z := z) C.ow (mvT C.z wl) (mvT C.z wdc) hnf (mvT C.z wse) (mvT C.z wst) hy
    (backOf (W := (st.map fun v => v.category).sum) (Q := fun v h L => Fr n0 L ∧ Q' v h) M C.z wc wi (by rw [e1]; exact hfr) (by rw [e1]; exact hlo)) qa qc (g := mkF W.m pc ls (argsL.reverse ++ .ref a :: st)) rfl (by rw [C.ml]; exact hls) (Steps.refl _) (argsL := argsL) (rest := st) (lenOf hpd hlen) rfl (by show 2 * 0 + (st.map fun v => v.category).sum ≤ (st.map fun v => v.category).sum; omega) (hb C.b hd) (fun _ _ => ⟨rfl, eT, by rw [e1]; show i + _ ≤ _; omega, by rw [e1]; show j + _ ≤ _; omega⟩)
  dsimp only [Pt.U, Pt.locs, Pt.cells, Pt.slots] at X2 l2 y2 z2 sp hQ2
  subst l2 y2 z2
  obtain ⟨s₂, o, hs, r⟩ := hr v _ hQ2 T2 _ _ _ X2 (by omega) (by omega) (Fr.app N N2) rfl
  exact ⟨s₂, o, sp.trans hs, r⟩
theorem Go.pureV (C : Cx Z W rm own nm bytes maxL ret) {index : Nat} {y : MethodName} {K : String} {bytes' : ByteArray} {maxL' : Nat} {ret' : Option FieldType} {fr lo : Nat} {argsL : List Value} {res : Value} {ps : List FieldType} {rt : Option FieldType} {stk : List Value} {w : Nat} {a : Addr}
    (E : Exa Z h a K) (wl : (Jvm.Cond.methodLink own index y).before a0 Z = true) (wdc : (Jvm.Cond.declares y).before a0 Z = true) (wse : (Jvm.Cond.selects K y y).before a0 Z = true) (wst : (Jvm.Cond.instanceMethod y).before a0 Z = true) (wi : (Jvm.Cond.initialized y.cls).before a0 Z = true) (wc : (Jvm.Cond.code y bytes' maxL' ret').before a0 Z = true)
    (M : Met1 W.l Z y bytes' maxL' ret' [] ({ frames := fr, cells := 0, slots := 0, locals := lo } : Room) (.ref a :: argsL).toArray h n0 (Ret res h)) (hd : decode bytes pc = .ok (.invokevirtual index, 3)) (hpd : parseMethodDescriptor y.desc = some ⟨ps, rt⟩) (hq : pc + 3 = q) (hls : ls.size = maxL) (hstk : stk = argsL.reverse ++ .ref a :: st) (hlen : argsL.length = ps.length)
    (hw : (st.map fun v => v.category).sum = w) (hfr : fr + 1 ≤ rm.frames) (hlo : w + (maxL' + 11) + lo ≤ rm.locals) (hk' : k ≤ rm.cells) (hn' : n ≤ rm.slots)
    (hr : Go W n0 Q h k n q ls (res :: st)) (hy : y.cls ≠ "java/lang/invoke/MethodHandle" ∧ y.cls ≠ "java/lang/invoke/VarHandle" := by decide) : Go W n0 Q h k n pc ls stk :=
  Go.callV C E wl wdc (notFace_of_selects (args := #[]) (mvT C.z wse)) wse wst wi wc M hd hpd hq hls hstk hlen hw hfr hlo rfl rfl hk' hn' (fun v h' q => by obtain ⟨rfl, rfl⟩ := q; exact hr) hy
/-- a private method, by invokevirtual; zz: any method of its class of which the sheet says what it selects (so the class is no interface) -/
theorem Go.callP (C : Cx Z W rm own nm bytes maxL ret) {index : Nat} {y zz : MethodName} {K KK : String} {bytes' : ByteArray} {maxL' : Nat} {ret' : Option FieldType} {rm' : Room} {argsL : List Value} {Q' : Option Value → Heap → Prop} {ps : List FieldType} {rt : Option FieldType} {stk : List Value} {k' n' w : Nat} {a : Addr}
    (E : Exa Z h a K) (wl : (Jvm.Cond.methodLink own index y).before a0 Z = true) (wse : (Jvm.Cond.selects KK zz zz).before a0 Z = true) (hzz : zz.cls = y.cls) (wpr : (Jvm.Cond.privateMethod y).before a0 Z = true) (wst : (Jvm.Cond.instanceMethod y).before a0 Z = true) (wi : (Jvm.Cond.initialized y.cls).before a0 Z = true) (wc : (Jvm.Cond.code y bytes' maxL' ret').before a0 Z = true)
    (M : Met1 W.l Z y bytes' maxL' ret' [] rm' (.ref a :: argsL).toArray h n0 Q') (hd : decode bytes pc = .ok (.invokevirtual index, 3)) (hpd : parseMethodDescriptor y.desc = some ⟨ps, rt⟩) (hq : pc + 3 = q) (hls : ls.size = maxL) (hstk : stk = argsL.reverse ++ .ref a :: st) (hlen : argsL.length = ps.length)
    (hw : (st.map fun v => v.category).sum = w) (hfr : rm'.frames + 1 ≤ rm.frames) (hlo : w + (maxL' + 11) + rm'.locals ≤ rm.locals) (hk : k + rm'.cells = k') (hn : n + rm'.slots = n') (hk' : k' ≤ rm.cells) (hn' : n' ≤ rm.slots)
    (hr : ∀ v h', Q' v h' → Go W n0 Q h' k' n' q ls (v.toList ++ st)) (hy : y.cls ≠ "java/lang/invoke/MethodHandle" ∧ y.cls ≠ "java/lang/invoke/VarHandle" := by decide) : Go W n0 Q h k n pc ls stk := by
  subst hstk hq hk hn hw
  intro T L i j X ha hb' N eT
  have e1 := C.ro
  obtain ⟨cell, hcell, hobj⟩ := E.cell
  rw [← eT] at hcell
  obtain ⟨mk, methM, hnamed, hmethM, hstM, habM⟩ := Cond.instanceMethod_spec (mvT (args := #[]) C.z wst)
  obtain ⟨methM', cM, hmethM', -, -, -, -, -, -, hsigM⟩ := Cond.code_spec hnamed (mvT (args := #[]) C.z wc)
  cases hmethM.symm.trans hmethM'
  obtain ⟨c2, r2, m2, -, -, q3, -, kP, hkP, hkPi⟩ := Cond.selects_spec (mvT (args := #[]) C.z wse)
  have ec : m2.cls = mk.cls := by
    have u1 := findClass_of_methodNamed q3
    have u2 := findClass_of_methodNamed hnamed
    rw [hzz] at u1
    exact Option.some.inj (u1.symm.trans u2)
  rw [ec] at hkP
  have hsel := selectMethod_private (p := W.e.platform) (c := cell.cls) hmethM (Cond.privateMethod_at (mvP C.z wpr (args := #[])) mk methM hnamed hmethM)
  obtain ⟨vm₁, X₁, hst⟩ := X.invokevirtual C.x C.ow (mvT C.z wl) hnamed hmethM hstM hkP hkPi hy (a := a) (cell := cell) hcell hobj hsel hmethM habM hkP hkPi (g := mkF W.m pc ls (argsL.reverse ++ .ref a :: st)) rfl (argsL := argsL) (rest := st) (lenOf hpd hlen _ hsigM) rfl (hb C.b hd)
  obtain ⟨v, ⟨T2, L2, k2, n2⟩, X2, ⟨Lc, ⟨N2, hQ2⟩, l2, y2, z2⟩, sp⟩ := backOf (len := 3) (W := (st.map fun v => v.category).sum) (Q := fun v h L => Fr n0 L ∧ Q' v h) M C.z wc wi (by rw [e1]; exact hfr) (by rw [e1]; exact hlo) W.m W.meth W.c ⟨T.setVm vm₁, L, i, j⟩ (mkF W.m pc ls st) (.invokevirtual index) mk (.ref a :: argsL).toArray X₁ rfl (by rw [C.ml]; exact hls) (hb C.b hd) (by show 2 * 0 + (st.map fun v => v.category).sum ≤ (st.map fun v => v.category).sum; omega) (X₁.named hnamed) ⟨rfl, eT, by rw [e1]; show i + _ ≤ _; omega, by rw [e1]; show j + _ ≤ _; omega⟩
  dsimp only [Pt.U, Pt.locs, Pt.cells, Pt.slots] at X2 l2 y2 z2 sp hQ2
  subst l2 y2 z2
  obtain ⟨s₂, o, hs, r⟩ := hr v _ hQ2 T2 _ _ _ X2 (by omega) (by omega) (Fr.app N N2) rfl
  exact ⟨s₂, o, (hst _ fun acts => by rw [doInvoke_state]; exact Steps.refl _).trans (sp.trans hs), r⟩
/-! the heap -/
theorem Go.initO (C : Cx Z W rm own nm bytes maxL ret) {index w : Nat} {a : Addr} (w1 : (Jvm.Cond.methodLink own index Lib.objectInit).before a0 Z = true) (w2 : (Jvm.Cond.instanceMethod Lib.objectInit).before a0 Z = true) (w3 : (Jvm.Cond.code Lib.objectInit ⟨#[0xb1]⟩ 1 none).before a0 Z = true)
    (hd : decode bytes pc = .ok (.invokespecial index, 3)) (hq : pc + 3 = q) (hls : ls.size = maxL) (hw : (st.map fun v => v.category).sum = w) (hfr : 1 ≤ rm.frames) (hlo : w + 12 ≤ rm.locals) (hr : Go W n0 Q h k n q ls st) : Go W n0 Q h k n pc ls (.ref a :: st) := by
  subst hq hw
  exact Go.stepT (fun T L i j X eT => Jvm.RoadKit.initO X C.x C.z C.ow w1 w2 w3 eT (g := mkF W.m pc ls (.ref a :: st)) rfl (by rw [C.ml]; exact hls) rfl (hb C.b hd) (by rw [C.ro]; exact hfr) (W := (st.map fun v => v.category).sum) (by show 2 * 0 + (st.map fun v => v.category).sum ≤ (st.map fun v => v.category).sum; omega) (by rw [C.ro]; exact hlo)) hr
theorem Go.getF (C : Cx Z W rm own nm bytes maxL ret) {R0 O f d host : String} {index : Nat} {a : Addr} {v : Value} (w : (Jvm.Cond.fieldLink own index R0 f d).before a0 Z = true ∨ (Jvm.Cond.fieldLinkNest own index R0 f d host).before a0 Z = true) (via : Via Z R0 O f d) (F : Fld Z h a O f d v)
    (hd : decode bytes pc = .ok (.getfield index, 3)) (hq : pc + 3 = q) (hr : Go W n0 Q h k n q ls (v :: st)) : Go W n0 Q h k n pc ls (.ref a :: st) := by
  subst hq
  exact Go.stepT (fun T L i j X eT => Jvm.RoadKit.getF X C.x C.z C.ow w via eT F (g := mkF W.m pc ls (.ref a :: st)) rfl rfl (hb C.b hd)) hr
theorem Go.getS (C : Cx Z W rm own nm bytes maxL ret) {R0 O f d : String} {index : Nat} {v : Value} (w : (Jvm.Cond.fieldLink own index R0 f d).before a0 Z = true) (via : Via Z R0 O f d) (F : Sta Z h O f d v)
    (hd : decode bytes pc = .ok (.getstatic index, 3)) (hq : pc + 3 = q) (hr : Go W n0 Q h k n q ls (v :: st)) : Go W n0 Q h k n pc ls st := by
  subst hq
  exact Go.stepT (fun T L i j X eT => Jvm.RoadKit.getS X C.x C.z (host := "") C.ow w via eT F (g := mkF W.m pc ls st) rfl (hb C.b hd)) hr
theorem Go.putF (C : Cx Z W rm own nm bytes maxL ret) {R0 O f d host K : String} {index kk : Nat} {ty : FieldType} {a : Addr} {v old : Value} (w : (Jvm.Cond.fieldLink own index R0 f d).before a0 Z = true ∨ (Jvm.Cond.fieldLinkNest own index R0 f d host).before a0 Z = true) (via : Via Z R0 O f d) (F : Fld Z h a O f d old) (E : Exa Z h a K)
    (Lw : (Jvm.Cond.lays K O f d).before a0 Z = true ∨ ((Jvm.Cond.laysFinal K O f d).before a0 Z = true ∧ own = O ∧ nm = "<init>")) (wi : (Jvm.Cond.instantiable K kk).before a0 Z = true) (hty : parseFieldDescriptor d = some ty) (hn : narrow ty v = v) (hf : fits ty v = true) (ha : n0 ≤ a)
    (hd : decode bytes pc = .ok (.putfield index, 3)) (hq : pc + 3 = q) (hr : ∀ h', Wr h h' a (Jvm.RoadKit.slotOf Z O f d) v → Go W n0 Q h' k n q ls st) : Go W n0 Q h k n pc ls (v :: .ref a :: st) := by
  subst hq
  intro T L i j X hk hn' N eT
  obtain ⟨T', h', X', e', W', sp⟩ := Jvm.RoadKit.putF X C.x C.z C.ow w via eT F E (Lw.imp id fun z => ⟨z.1, z.2.1, C.na.trans z.2.2⟩) wi hty hn hf (g := mkF W.m pc ls (v :: .ref a :: st)) rfl rfl (hb C.b hd)
  obtain ⟨s₂, o, hs, r⟩ := hr h' W' T' _ _ _ X' hk hn' (Fr.snoc X' N ha) e'
  exact ⟨s₂, o, sp _ hs, r⟩
theorem Go.newO (C : Cx Z W rm own nm bytes maxL ret) {K : String} {index sz k' n' : Nat} (w : (Jvm.Cond.classLink own index K).before a0 Z = true) (wi : (Jvm.Cond.instantiable K sz).before a0 Z = true) (wz : (Jvm.Cond.initialized K).before a0 Z = true)
    (hd : decode bytes pc = .ok (.new index, 3)) (hq : pc + 3 = q) (hk : k + 1 = k') (hn : n + sz = n') (hk' : k' ≤ rm.cells) (hn' : n' ≤ rm.slots)
    (hr : ∀ h' a, a = h.size → Ext h h' → Exa Z h' a K → (∀ {O f d : String} {ty : FieldType}, Laid Z a0 K O f d → parseFieldDescriptor d = some ty → Fld Z h' a O f d (defaultValue ty)) → Go W n0 Q h' k' n' q ls (.ref a :: st)) : Go W n0 Q h k n pc ls st := by
  subst hq hk hn
  intro T L i j X hk0 hn0 N eT
  have e1 := C.ro
  obtain ⟨T', h', X', e', E', A', D', -, sp⟩ := Jvm.RoadKit.newO X C.x C.z C.ow w wi wz eT (g := mkF W.m pc ls st) rfl (hb C.b hd) (by rw [e1]; omega) (by rw [e1]; omega)
  obtain ⟨s₂, o, hs, r⟩ := hr h' _ rfl E' A' D' T' _ _ _ X' (by omega) (by omega) N e'
  exact ⟨s₂, o, sp _ hs, r⟩
theorem Go.newP (C : Cx Z W rm own nm bytes maxL ret) {aty : ArrayType} {z : Int32} {cap k' n' : Nat} (w : (Jvm.Cond.arrayClass (newarray.typeOf aty)).before a0 Z = true) (hz : ¬ z < 0) (hcap : z.toNatClampNeg ≤ cap) (hbig : cap * 8 ≤ 536870912)
    (hd : decode bytes pc = .ok (.newarray aty, 2)) (hq : pc + 2 = q) (hk : k + 1 = k') (hn : n + cap = n') (hk' : k' ≤ rm.cells) (hn' : n' ≤ rm.slots)
    (hr : ∀ h' a cA, a = h.size → Ext h h' → Arv Z h' a cA (newarray.typeOf aty) z [] (defaultValue (newarray.typeOf aty)) → Go W n0 Q h' k' n' q ls (.ref a :: st)) : Go W n0 Q h k n pc ls (.int z :: st) := by
  subst hq hk hn
  intro T L i j X hk0 hn0 N eT
  have e1 := C.ro
  obtain ⟨T', h', cA, X', e', E', A', sp⟩ := Jvm.RoadKit.newP X C.x C.z w eT (g := mkF W.m pc ls (.int z :: st)) rfl (hb C.b hd) rfl hz hcap hbig (by rw [e1]; omega) (by rw [e1]; omega)
  obtain ⟨s₂, o, hs, r⟩ := hr h' _ cA rfl E' (Arv.new A' hz) T' _ _ _ X' (by omega) (by omega) N e'
  exact ⟨s₂, o, sp _ hs, r⟩

/-! arrays: the length n, the values f -/
def Av (Z : State) (h : Heap) (a : Addr) (ty : FieldType) (len : Nat) (f : Nat → Value) : Prop := ∃ c : Cell, Arr Z h a c ty ∧ c.slots.size = len ∧ len < 2 ^ 31 ∧ ∀ i, i < len → c.slots[i]? = some (f i)
def upd {α : Type} (f : Nat → α) (j : Nat) (v : α) : Nat → α := fun i => if i = j then v else f i
theorem upd_eq {α : Type} (f : Nat → α) (j : Nat) (v : α) : upd f j v j = v := if_pos rfl
theorem upd_ne {α : Type} (f : Nat → α) {j i : Nat} (v : α) (e : i ≠ j) : upd f j v i = f i := if_neg e
theorem Av.lt {a : Addr} {ty : FieldType} {len : Nat} {f : Nat → Value} (F : Av Z h a ty len f) : a < h.size := by obtain ⟨c, A, -⟩ := F; exact A.lt
theorem Av.ext {a : Addr} {ty : FieldType} {len : Nat} {f : Nat → Value} {h' : Heap} (F : Av Z h a ty len f) (E : Ext h h') : Av Z h' a ty len f := by obtain ⟨c, A, r⟩ := F; exact ⟨c, A.ext E, r⟩
theorem Av.other {a b : Addr} {ty : FieldType} {len sl : Nat} {v : Value} {f : Nat → Value} {h' : Heap} (F : Av Z h b ty len f) (W : Wr h h' a sl v) (e : b ≠ a) : Av Z h' b ty len f := by obtain ⟨c, A, r⟩ := F; exact ⟨c, A.other W e, r⟩
theorem Av.keep {a : Addr} {ty : FieldType} {len : Nat} {f : Nat → Value} {h' : Heap} {ws : List Addr} (F : Av Z h a ty len f) (K : Keep h h' ws) (e : a ∉ ws) : Av Z h' a ty len f := by obtain ⟨c, A, r⟩ := F; exact ⟨c, ⟨K.2.1 a c A.1 e, A.2⟩, r⟩
theorem Av.same {a : Addr} {ty : FieldType} {len j : Nat} {v : Value} {f : Nat → Value} {h' : Heap} (F : Av Z h a ty len f) (W : Wr h h' a j v) : Av Z h' a ty len (upd f j v) := by
  obtain ⟨c, A, r1, r2, r3⟩ := F
  refine ⟨c.setSlot j v, A.same W, by simp [Cell.setSlot, r1], r2, fun i hi => ?_⟩
  by_cases e : i = j
  · subst e
    rw [upd_eq]
    simp [Cell.setSlot, r1, hi]
  · rw [upd_ne _ _ e, ← r3 i hi]
    exact Array.getElem?_setIfInBounds_ne (Ne.symm e)
def iF (g : Nat → Int32) : Nat → Value := fun i => .int (g i)
def jF (g : Nat → Int64) : Nat → Value := fun i => .long (g i)
theorem upd_iF (g : Nat → Int32) (j : Nat) (x : Int32) : upd (iF g) j (.int x) = iF (upd g j x) := by funext i; by_cases e : i = j <;> simp [upd, iF, e]
theorem upd_jF (g : Nat → Int64) (j : Nat) (x : Int64) : upd (jF g) j (.long x) = jF (upd g j x) := by funext i; by_cases e : i = j <;> simp [upd, jF, e]
theorem Av.sameI {a : Addr} {ty : FieldType} {len j : Nat} {x : Int32} {g : Nat → Int32} {h' : Heap} (F : Av Z h a ty len (iF g)) (W : Wr h h' a j (.int x)) : Av Z h' a ty len (iF (upd g j x)) := upd_iF g j x ▸ F.same W
theorem Av.sameJ {a : Addr} {ty : FieldType} {len j : Nat} {x : Int64} {g : Nat → Int64} {h' : Heap} (F : Av Z h a ty len (jF g)) (W : Wr h h' a j (.long x)) : Av Z h' a ty len (jF (upd g j x)) := upd_jF g j x ▸ F.same W
theorem Av.of {a : Addr} {ty : FieldType} {z : Int32} {cA : ClassId} {d : Value} (F : Arv Z h a cA ty z [] d) : Av Z h a ty z.toNatClampNeg (fun _ => d) := by
  obtain ⟨c, A, -, r1, r2, r3, -⟩ := F
  refine ⟨c, A, r1, ?_, fun i hi => ?_⟩
  · have e1 := z.toInt_lt
    have e2 : z.toNatClampNeg = z.toInt.toNat := rfl
    omega
  · rw [r3 i (by omega)]
    simp
theorem Go.alen (C : Cx Z W rm own nm bytes maxL ret) {a : Addr} {ty : FieldType} {len : Nat} {f : Nat → Value} (F : Av Z h a ty len f) (hd : decode bytes pc = .ok (.arraylength, 1)) (hq : pc + 1 = q)
    (hr : Go W n0 Q h k n q ls (.int len.toInt32 :: st)) : Go W n0 Q h k n pc ls (.ref a :: st) := by
  subst hq
  obtain ⟨c, A, r1, r2, r3⟩ := F
  subst r1
  exact Go.stepX (fun T L i j tg X eT kk => X.arraylength C.x (by rw [eT]; exact A.1) (State.isArrayOf_alike C.z.alike A.2.1) (g := mkF W.m pc ls (.ref a :: st)) rfl rfl (hb C.b hd) _ kk) hr
theorem Go.alenZ (C : Cx Z W rm own nm bytes maxL ret) {a : Addr} {ty : FieldType} {z : Int32} {f : Nat → Value} (F : Av Z h a ty z.toNatClampNeg f) (hz : ¬ z < 0) (hd : decode bytes pc = .ok (.arraylength, 1)) (hq : pc + 1 = q)
    (hr : Go W n0 Q h k n q ls (.int z :: st)) : Go W n0 Q h k n pc ls (.ref a :: st) :=
  Go.alen C F hd hq (by rw [(Jvm.RoadKit.back32 hz).1]; exact hr)

theorem Go.iaload (C : Cx Z W rm own nm bytes maxL ret) {a : Addr} {len : Nat} {f : Nat → Value} {j : Int32} {v : Value} (F : Av Z h a .int len f) (i : Nat) (hji : j.toNatClampNeg = i) (hj : ¬ j < 0) (hi : i < len) (hv : f i = v) (hd : decode bytes pc = .ok (.iaload, 1)) (hq : pc + 1 = q)
    (hr : Go W n0 Q h k n q ls (v :: st)) : Go W n0 Q h k n pc ls (.int j :: .ref a :: st) := by
  subst hq hji hv
  obtain ⟨c, A, r1, r2, r3⟩ := F
  exact Go.stepX (fun T L i' j' tg X eT kk => X.iaload C.x (j := j) (by rw [eT]; exact A.1) (State.isArrayOf_alike C.z.alike A.2.1) A.2.2 (fun z => z.elim hj (fun y => absurd (Nat.lt_of_lt_of_le hi (r1 ▸ y)) (Nat.lt_irrefl _))) (r3 _ hi) (g := mkF W.m pc ls (.int j :: .ref a :: st)) rfl rfl (hb C.b hd) _ kk) hr
theorem Go.laload (C : Cx Z W rm own nm bytes maxL ret) {a : Addr} {len : Nat} {f : Nat → Value} {j : Int32} {v : Value} (F : Av Z h a .long len f) (i : Nat) (hji : j.toNatClampNeg = i) (hj : ¬ j < 0) (hi : i < len) (hv : f i = v) (hd : decode bytes pc = .ok (.laload, 1)) (hq : pc + 1 = q)
    (hr : Go W n0 Q h k n q ls (v :: st)) : Go W n0 Q h k n pc ls (.int j :: .ref a :: st) := by
  subst hq hji hv
  obtain ⟨c, A, r1, r2, r3⟩ := F
  exact Go.stepX (fun T L i' j' tg X eT kk => X.laload C.x (j := j) (by rw [eT]; exact A.1) (State.isArrayOf_alike C.z.alike A.2.1) A.2.2 (fun z => z.elim hj (fun y => absurd (Nat.lt_of_lt_of_le hi (r1 ▸ y)) (Nat.lt_irrefl _))) (r3 _ hi) (g := mkF W.m pc ls (.int j :: .ref a :: st)) rfl rfl (hb C.b hd) _ kk) hr
theorem Go.caload (C : Cx Z W rm own nm bytes maxL ret) {a : Addr} {len : Nat} {f : Nat → Value} {j : Int32} {v : Value} (F : Av Z h a .char len f) (i : Nat) (hji : j.toNatClampNeg = i) (hj : ¬ j < 0) (hi : i < len) (hv : f i = v) (hd : decode bytes pc = .ok (.caload, 1)) (hq : pc + 1 = q)
    (hr : Go W n0 Q h k n q ls (v :: st)) : Go W n0 Q h k n pc ls (.int j :: .ref a :: st) := by
  subst hq hji hv
  obtain ⟨c, A, r1, r2, r3⟩ := F
  exact Go.stepX (fun T L i' j' tg X eT kk => X.caload C.x (j := j) (by rw [eT]; exact A.1) (State.isArrayOf_alike C.z.alike A.2.1) A.2.2 (fun z => z.elim hj (fun y => absurd (Nat.lt_of_lt_of_le hi (r1 ▸ y)) (Nat.lt_irrefl _))) (r3 _ hi) (g := mkF W.m pc ls (.int j :: .ref a :: st)) rfl rfl (hb C.b hd) _ kk) hr
theorem Go.baload (C : Cx Z W rm own nm bytes maxL ret) {a : Addr} {len : Nat} {f : Nat → Value} {j : Int32} {v : Value} (F : Av Z h a .byte len f) (i : Nat) (hji : j.toNatClampNeg = i) (hj : ¬ j < 0) (hi : i < len) (hv : f i = v) (hd : decode bytes pc = .ok (.baload, 1)) (hq : pc + 1 = q)
    (hr : Go W n0 Q h k n q ls (v :: st)) : Go W n0 Q h k n pc ls (.int j :: .ref a :: st) := by
  subst hq hji hv
  obtain ⟨c, A, r1, r2, r3⟩ := F
  exact Go.stepX (fun T L i' j' tg X eT kk => X.baloadBytes C.x (j := j) (by rw [eT]; exact A.1) (State.isArrayOf_alike C.z.alike A.2.1) A.2.2 (fun z => z.elim hj (fun y => absurd (Nat.lt_of_lt_of_le hi (r1 ▸ y)) (Nat.lt_irrefl _))) (r3 _ hi) (g := mkF W.m pc ls (.int j :: .ref a :: st)) rfl rfl (hb C.b hd) _ kk) hr
theorem Go.zaload (C : Cx Z W rm own nm bytes maxL ret) {a : Addr} {len : Nat} {f : Nat → Value} {j : Int32} {v : Value} (F : Av Z h a .boolean len f) (i : Nat) (hji : j.toNatClampNeg = i) (hj : ¬ j < 0) (hi : i < len) (hv : f i = v) (hd : decode bytes pc = .ok (.baload, 1)) (hq : pc + 1 = q)
    (hr : Go W n0 Q h k n q ls (v :: st)) : Go W n0 Q h k n pc ls (.int j :: .ref a :: st) := by
  subst hq hji hv
  obtain ⟨c, A, r1, r2, r3⟩ := F
  exact Go.stepX (fun T L i' j' tg X eT kk => X.baloadBooleans C.x (j := j) (by rw [eT]; exact A.1) (State.isArrayOf_alike C.z.alike A.2.1) A.2.2 (fun z => z.elim hj (fun y => absurd (Nat.lt_of_lt_of_le hi (r1 ▸ y)) (Nat.lt_irrefl _))) (r3 _ hi) (g := mkF W.m pc ls (.int j :: .ref a :: st)) rfl rfl (hb C.b hd) _ kk) hr
theorem Go.iastore (C : Cx Z W rm own nm bytes maxL ret) {a : Addr} {len : Nat} {f : Nat → Value} {j : Int32} {x : Int32} (F : Av Z h a .int len f) (i : Nat) (hji : j.toNatClampNeg = i) (hj : ¬ j < 0) (hi : i < len) (ha : n0 ≤ a) (hd : decode bytes pc = .ok (.iastore, 1)) (hq : pc + 1 = q)
    (hr : ∀ h', Wr h h' a i (.int x) → Go W n0 Q h' k n q ls st) : Go W n0 Q h k n pc ls (.int x :: .int j :: .ref a :: st) := by
  subst hq hji
  obtain ⟨c, A, r1, r2, r3⟩ := F
  intro T L i' j' X hk hn N eT
  obtain ⟨T', h', X', e', W', sp⟩ := Jvm.RoadKit.stI X C.x C.z eT A (j := j) (fun z => z.elim hj (fun y => absurd (Nat.lt_of_lt_of_le hi (r1 ▸ y)) (Nat.lt_irrefl _))) (g := mkF W.m pc ls (.int x :: .int j :: .ref a :: st)) rfl rfl (hb C.b hd)
  obtain ⟨s₂, o, hs, r⟩ := hr h' W' T' _ _ _ X' hk hn (Fr.snoc X' N ha) e'
  exact ⟨s₂, o, sp _ hs, r⟩
theorem Go.lastore (C : Cx Z W rm own nm bytes maxL ret) {a : Addr} {len : Nat} {f : Nat → Value} {j : Int32} {x : Int64} (F : Av Z h a .long len f) (i : Nat) (hji : j.toNatClampNeg = i) (hj : ¬ j < 0) (hi : i < len) (ha : n0 ≤ a) (hd : decode bytes pc = .ok (.lastore, 1)) (hq : pc + 1 = q)
    (hr : ∀ h', Wr h h' a i (.long x) → Go W n0 Q h' k n q ls st) : Go W n0 Q h k n pc ls (.long x :: .int j :: .ref a :: st) := by
  subst hq hji
  obtain ⟨c, A, r1, r2, r3⟩ := F
  intro T L i' j' X hk hn N eT
  obtain ⟨T', h', X', e', W', sp⟩ := Jvm.RoadKit.stJ X C.x C.z eT A (j := j) (fun z => z.elim hj (fun y => absurd (Nat.lt_of_lt_of_le hi (r1 ▸ y)) (Nat.lt_irrefl _))) (g := mkF W.m pc ls (.long x :: .int j :: .ref a :: st)) rfl rfl (hb C.b hd)
  obtain ⟨s₂, o, hs, r⟩ := hr h' W' T' _ _ _ X' hk hn (Fr.snoc X' N ha) e'
  exact ⟨s₂, o, sp _ hs, r⟩
theorem Go.castore (C : Cx Z W rm own nm bytes maxL ret) {a : Addr} {len : Nat} {f : Nat → Value} {j : Int32} {x : Int32} (F : Av Z h a .char len f) (i : Nat) (hji : j.toNatClampNeg = i) (hj : ¬ j < 0) (hi : i < len) (ha : n0 ≤ a) (hd : decode bytes pc = .ok (.castore, 1)) (hq : pc + 1 = q)
    (hr : ∀ h', Wr h h' a i (.int (nar .char x)) → Go W n0 Q h' k n q ls st) : Go W n0 Q h k n pc ls (.int x :: .int j :: .ref a :: st) := by
  subst hq hji
  obtain ⟨c, A, r1, r2, r3⟩ := F
  intro T L i' j' X hk hn N eT
  obtain ⟨T', h', X', e', W', sp⟩ := Jvm.RoadKit.stC X C.x C.z eT A (j := j) (fun z => z.elim hj (fun y => absurd (Nat.lt_of_lt_of_le hi (r1 ▸ y)) (Nat.lt_irrefl _))) (g := mkF W.m pc ls (.int x :: .int j :: .ref a :: st)) rfl rfl (hb C.b hd)
  obtain ⟨s₂, o, hs, r⟩ := hr h' W' T' _ _ _ X' hk hn (Fr.snoc X' N ha) e'
  exact ⟨s₂, o, sp _ hs, r⟩
theorem Go.bastore (C : Cx Z W rm own nm bytes maxL ret) {a : Addr} {len : Nat} {f : Nat → Value} {j : Int32} {x : Int32} (F : Av Z h a .byte len f) (i : Nat) (hji : j.toNatClampNeg = i) (hj : ¬ j < 0) (hi : i < len) (ha : n0 ≤ a) (hd : decode bytes pc = .ok (.bastore, 1)) (hq : pc + 1 = q)
    (hr : ∀ h', Wr h h' a i (.int (nar .byte x)) → Go W n0 Q h' k n q ls st) : Go W n0 Q h k n pc ls (.int x :: .int j :: .ref a :: st) := by
  subst hq hji
  obtain ⟨c, A, r1, r2, r3⟩ := F
  intro T L i' j' X hk hn N eT
  obtain ⟨T', h', X', e', W', sp⟩ := Jvm.RoadKit.stB X C.x C.z eT A (j := j) (fun z => z.elim hj (fun y => absurd (Nat.lt_of_lt_of_le hi (r1 ▸ y)) (Nat.lt_irrefl _))) (g := mkF W.m pc ls (.int x :: .int j :: .ref a :: st)) rfl rfl (hb C.b hd)
  obtain ⟨s₂, o, hs, r⟩ := hr h' W' T' _ _ _ X' hk hn (Fr.snoc X' N ha) e'
  exact ⟨s₂, o, sp _ hs, r⟩
theorem Go.zastore (C : Cx Z W rm own nm bytes maxL ret) {a : Addr} {len : Nat} {f : Nat → Value} {j : Int32} {x : Int32} (F : Av Z h a .boolean len f) (i : Nat) (hji : j.toNatClampNeg = i) (hj : ¬ j < 0) (hi : i < len) (ha : n0 ≤ a) (hd : decode bytes pc = .ok (.bastore, 1)) (hq : pc + 1 = q)
    (hr : ∀ h', Wr h h' a i (.int (nar .boolean x)) → Go W n0 Q h' k n q ls st) : Go W n0 Q h k n pc ls (.int x :: .int j :: .ref a :: st) := by
  subst hq hji
  obtain ⟨c, A, r1, r2, r3⟩ := F
  intro T L i' j' X hk hn N eT
  obtain ⟨T', h', X', e', W', sp⟩ := Jvm.RoadKit.stZ X C.x C.z eT A (j := j) (fun z => z.elim hj (fun y => absurd (Nat.lt_of_lt_of_le hi (r1 ▸ y)) (Nat.lt_irrefl _))) (g := mkF W.m pc ls (.int x :: .int j :: .ref a :: st)) rfl rfl (hb C.b hd)
  obtain ⟨s₂, o, hs, r⟩ := hr h' W' T' _ _ _ X' hk hn (Fr.snoc X' N ha) e'
  exact ⟨s₂, o, sp _ hs, r⟩
end Gos

theorem d1_0 : decode prog_45_method_1_code 0 = .ok (.aload_n 0, 1) := by decide +kernel
theorem d1_1 : decode prog_45_method_1_code 1 = .ok (.invokespecial 1, 3) := by decide +kernel
theorem d1_4 : decode prog_45_method_1_code 4 = .ok (.aload_n 0, 1) := by decide +kernel
theorem d1_5 : decode prog_45_method_1_code 5 = .ok (.iload_n 1, 1) := by decide +kernel
theorem d1_6 : decode prog_45_method_1_code 6 = .ok (.newarray .long, 2) := by decide +kernel
theorem d1_8 : decode prog_45_method_1_code 8 = .ok (.putfield 7, 3) := by decide +kernel
theorem d1_11 : decode prog_45_method_1_code 11 = .ok (.aload_n 0, 1) := by decide +kernel
theorem d1_12 : decode prog_45_method_1_code 12 = .ok (.aload_n 2, 1) := by decide +kernel
theorem d1_13 : decode prog_45_method_1_code 13 = .ok (.arraylength, 1) := by decide +kernel
theorem d1_14 : decode prog_45_method_1_code 14 = .ok (.newarray .long, 2) := by decide +kernel
theorem d1_16 : decode prog_45_method_1_code 16 = .ok (.putfield 13, 3) := by decide +kernel
theorem d1_19 : decode prog_45_method_1_code 19 = .ok (.aload_n 0, 1) := by decide +kernel
theorem d1_20 : decode prog_45_method_1_code 20 = .ok (.aload_n 2, 1) := by decide +kernel
theorem d1_21 : decode prog_45_method_1_code 21 = .ok (.putfield 16, 3) := by decide +kernel
theorem d1_24 : decode prog_45_method_1_code 24 = .ok (.aload_n 0, 1) := by decide +kernel
theorem d1_25 : decode prog_45_method_1_code 25 = .ok (.aload_n 3, 1) := by decide +kernel
theorem d1_26 : decode prog_45_method_1_code 26 = .ok (.putfield 19, 3) := by decide +kernel
theorem d1_29 : decode prog_45_method_1_code 29 = .ok (.return_, 1) := by decide +kernel
theorem ef_1_l1_2Int32 (m : MethodId) (a : Addr) (x : Addr) (y : Addr) : entryFrame m #[(.ref a), (.int (2 : Int32)), (.ref x), (.ref y)] 4 = mkF m 0 #[.val (.ref a), .val (.int (2 : Int32)), .val (.ref x), .val (.ref y)] [] := by first | (simp [entryFrame, mkF, argsToLocals, Value.category]; done) | rfl
theorem pn_com_example_paretoloom_paretoloom_knapsack_Region : plainName "com/example/paretoloom/paretoloom/knapsack/Region" = true := by first | (simp [plainName, overriddenIn]; done) | decide +kernel
theorem d3_0 : decode prog_45_method_2_code 0 = .ok (.iconst 0, 1) := by decide +kernel
theorem d3_1 : decode prog_45_method_2_code 1 = .ok (.istore 5, 2) := by decide +kernel
theorem d3_3 : decode prog_45_method_2_code 3 = .ok (.iload 5, 2) := by decide +kernel
theorem d3_5 : decode prog_45_method_2_code 5 = .ok (.aload_n 0, 1) := by decide +kernel
theorem d3_6 : decode prog_45_method_2_code 6 = .ok (.getfield 13, 3) := by decide +kernel
theorem d3_9 : decode prog_45_method_2_code 9 = .ok (.arraylength, 1) := by decide +kernel
theorem d3_10 : decode prog_45_method_2_code 10 = .ok (.if_icmp .ge 41, 3) := by decide +kernel
theorem d3_51 : decode prog_45_method_2_code 51 = .ok (.iconst 1, 1) := by decide +kernel
theorem d3_52 : decode prog_45_method_2_code 52 = .ok (.ireturn, 1) := by decide +kernel
theorem ef_3 (m : MethodId) (a : Addr) (t : Int64) (u : Int64) : entryFrame m #[(.ref a), (.long t), (.long u)] 6 = mkF m 0 #[.val (.ref a), .val (.long t), .second, .val (.long u), .second, .unset] [] := by first | (simp [entryFrame, mkF, argsToLocals, Value.category]; done) | rfl
theorem d3_13 : decode prog_45_method_2_code 13 = .ok (.aload_n 0, 1) := by decide +kernel
theorem d3_14 : decode prog_45_method_2_code 14 = .ok (.getfield 16, 3) := by decide +kernel
theorem d3_17 : decode prog_45_method_2_code 17 = .ok (.iload 5, 2) := by decide +kernel
theorem d3_19 : decode prog_45_method_2_code 19 = .ok (.laload, 1) := by decide +kernel
theorem d3_20 : decode prog_45_method_2_code 20 = .ok (.lload_n 1, 1) := by decide +kernel
theorem d3_21 : decode prog_45_method_2_code 21 = .ok (.lmul, 1) := by decide +kernel
theorem d3_22 : decode prog_45_method_2_code 22 = .ok (.aload_n 0, 1) := by decide +kernel
theorem d3_23 : decode prog_45_method_2_code 23 = .ok (.getfield 19, 3) := by decide +kernel
theorem d3_26 : decode prog_45_method_2_code 26 = .ok (.iload 5, 2) := by decide +kernel
theorem d3_28 : decode prog_45_method_2_code 28 = .ok (.laload, 1) := by decide +kernel
theorem d3_29 : decode prog_45_method_2_code 29 = .ok (.lload_n 3, 1) := by decide +kernel
theorem d3_30 : decode prog_45_method_2_code 30 = .ok (.lmul, 1) := by decide +kernel
theorem d3_31 : decode prog_45_method_2_code 31 = .ok (.ladd, 1) := by decide +kernel
theorem d3_32 : decode prog_45_method_2_code 32 = .ok (.aload_n 0, 1) := by decide +kernel
theorem d3_33 : decode prog_45_method_2_code 33 = .ok (.getfield 13, 3) := by decide +kernel
theorem d3_36 : decode prog_45_method_2_code 36 = .ok (.iload 5, 2) := by decide +kernel
theorem d3_38 : decode prog_45_method_2_code 38 = .ok (.laload, 1) := by decide +kernel
theorem d3_39 : decode prog_45_method_2_code 39 = .ok (.lcmp, 1) := by decide +kernel
theorem d3_40 : decode prog_45_method_2_code 40 = .ok (.ifCond .le 5, 3) := by decide +kernel
theorem d3_43 : decode prog_45_method_2_code 43 = .ok (.iconst 0, 1) := by decide +kernel
theorem d3_44 : decode prog_45_method_2_code 44 = .ok (.ireturn, 1) := by decide +kernel
theorem d3_45 : decode prog_45_method_2_code 45 = .ok (.iinc 5 1, 3) := by decide +kernel
theorem d3_48 : decode prog_45_method_2_code 48 = .ok (.goto (-45), 3) := by decide +kernel
theorem ef_0 (m : MethodId) (p0 : Int64) (p1 : Int64) (p2 : Int64) (p3 : Int64) (p4 : Int32) (p5 : Int32) : entryFrame m #[(.long p0), (.long p1), (.long p2), (.long p3), (.int p4), (.int p5)] maxLocals = mkF m 0 #[.val (.long p0), .second, .val (.long p1), .second, .val (.long p2), .second, .val (.long p3), .second, .val (.int p4), .val (.int p5), .unset, .unset, .unset, .unset, .unset, .unset, .unset, .unset, .unset, .unset, .unset, .unset, .unset, .unset, .unset, .unset, .unset, .unset, .unset] [] := by first | (simp [entryFrame, mkF, argsToLocals, Value.category, maxLocals]; done) | rfl
theorem pn_com_example_paretoloom_paretoloom_knapsack_RegionAdmitsPinLaw : plainName "com/example/paretoloom/paretoloom/knapsack/RegionAdmitsPinLaw" = true := by first | (simp [plainName, overriddenIn]; done) | decide +kernel
theorem pd__40I_91J_91J_41V : parseMethodDescriptor "(I[J[J)V" = some ⟨[.int, (.array .long), (.array .long)], none⟩ := by decide +kernel
theorem pd__40JJ_41Z : parseMethodDescriptor "(JJ)Z" = some ⟨[.long, .long], some .boolean⟩ := by decide +kernel
set_option maxRecDepth 65536 in
theorem c_init0 (l : Launch) (Z : State) (a0 : Array Value) (hw : ∀ d ∈ tables_1, d.before a0 Z = true) (a : Addr) (x : Addr) (y : Addr) (h0 : Heap) (n0 : Nat) (f1 f2 : Nat → Int64) (Z0 : n0 ≤ h0.size) (E0 : Exa Z h0 a "com/example/paretoloom/paretoloom/knapsack/Region") (g0 : n0 ≤ a) (G0 : Fld Z h0 a "com/example/paretoloom/paretoloom/knapsack/Region" "upper" "[J" .null) (G1 : Fld Z h0 a "com/example/paretoloom/paretoloom/knapsack/Region" "limits" "[J" .null) (G2 : Fld Z h0 a "com/example/paretoloom/paretoloom/knapsack/Region" "firstWeights" "[J" .null) (G3 : Fld Z h0 a "com/example/paretoloom/paretoloom/knapsack/Region" "secondWeights" "[J" .null) (A0 : Av Z h0 x .long 0 (jF f1)) (A1 : Av Z h0 y .long 0 (jF f2)) (nx : x ≠ a) (ny : y ≠ a) : Met1 l Z (⟨"com/example/paretoloom/paretoloom/knapsack/Region", "<init>", "(I[J[J)V"⟩ : MethodName) prog_45_method_1_code 4 none [] ({ frames := 1, cells := 2, slots := 2, locals := 12 } : Room) #[(.ref a), (.int (2 : Int32)), (.ref x), (.ref y)] h0 n0 (fun v h => v = none ∧ ∃ b1 b2 : Addr, Keep h0 h [a] ∧ n0 ≤ b2 ∧ h0.size ≤ b2 ∧ Fld Z h a "com/example/paretoloom/paretoloom/knapsack/Region" "limits" "[J" (.ref b2) ∧ Fld Z h a "com/example/paretoloom/paretoloom/knapsack/Region" "firstWeights" "[J" (.ref x) ∧ Fld Z h a "com/example/paretoloom/paretoloom/knapsack/Region" "secondWeights" "[J" (.ref y) ∧ Av Z h b2 .long 0 (jF (fun _ => (0 : Int64))) ∧ True) := by
  refine met_of_go (plainFor_of_name pn_com_example_paretoloom_paretoloom_knapsack_Region) (fun m => ef_1_l1_2Int32 m a x y) ?_
  intro W hl C
  subst hl
  refine Go.aloadN C d1_0 (q := 1) rfl rfl rfl ?_
  refine Go.initO C (hw _ (List.mem_of_getElem? (i := 7) rfl)) (hw _ (List.mem_of_getElem? (i := 8) rfl)) (hw _ (List.mem_of_getElem? (i := 9) rfl)) d1_1 (q := 4) rfl rfl (w := 0) rfl (by decide) (by decide) ?_
  refine Go.aloadN C d1_4 (q := 5) rfl rfl rfl ?_
  refine Go.iloadN C d1_5 (q := 6) rfl rfl ?_
  refine Go.newP C (hw _ (List.mem_of_getElem? (i := 0) rfl)) (by decide) (cap := 2) (by decide) (by decide) d1_6 (q := 8) rfl (k' := 1) rfl (n' := 2) rfl (by decide) (by decide) ?_
  intro h1 a2 cA3 g4 E5 Fn6
  have g8 : n0 ≤ a2 := g4 ▸ Z0
  have y9 : h0.size ≤ a2 := g4 ▸ (Nat.le_refl h0.size)
  have ne10 : a ≠ a2 := Nat.ne_of_lt (g4 ▸ E0.lt)
  have ne11 : x ≠ a2 := Nat.ne_of_lt (g4 ▸ A0.lt)
  have ne12 : y ≠ a2 := Nat.ne_of_lt (g4 ▸ A1.lt)
  have F7 : Av Z h1 a2 .long 2 (jF (fun _ => (0 : Int64))) := Av.of Fn6
  have F13 := (G0.ext E5)
  have F14 := (E0.ext E5)
  refine Go.putF C (host := "") (Or.inl (hw _ (List.mem_of_getElem? (i := 10) rfl))) Via.refl F13 F14 (Or.inr ⟨(hw _ (List.mem_of_getElem? (i := 11) rfl)), rfl, rfl⟩) (hw _ (List.mem_of_getElem? (i := 2) rfl)) (ty := (.array .long)) (by decide) rfl rfl g0 d1_8 (q := 11) rfl ?_
  intro h15 W16
  have F17 := F13.same W16
  refine Go.aloadN C d1_11 (q := 12) rfl rfl rfl ?_
  refine Go.aloadN C d1_12 (q := 13) rfl rfl rfl ?_
  have F18 := ((A0.ext E5).other W16 nx)
  refine Go.alen C F18 d1_13 (q := 14) rfl ?_
  show Go W n0 (fun v h => v = none ∧ ∃ b1 b2 : Addr, Keep h0 h [a] ∧ n0 ≤ b2 ∧ h0.size ≤ b2 ∧ Fld Z h a "com/example/paretoloom/paretoloom/knapsack/Region" "limits" "[J" (.ref b2) ∧ Fld Z h a "com/example/paretoloom/paretoloom/knapsack/Region" "firstWeights" "[J" (.ref x) ∧ Fld Z h a "com/example/paretoloom/paretoloom/knapsack/Region" "secondWeights" "[J" (.ref y) ∧ Av Z h b2 .long 0 (jF (fun _ => (0 : Int64))) ∧ True) h15 1 2 14 #[.val (.ref a), .val (.int (2 : Int32)), .val (.ref x), .val (.ref y)] [(.int (0 : Int32)), (.ref a)]
  refine Go.newP C (hw _ (List.mem_of_getElem? (i := 0) rfl)) (by decide) (cap := 0) (by decide) (by decide) d1_14 (q := 16) rfl (k' := 2) rfl (n' := 2) rfl (by decide) (by decide) ?_
  intro h19 a20 cA21 g22 E23 Fn24
  have F26 := (Nat.le_trans (Nat.le_trans Z0 E5.1) (Nat.le_of_eq W16.size.symm))
  have g27 : n0 ≤ a20 := g22 ▸ F26
  have F29 := (Nat.le_trans (Nat.le_trans (Nat.le_refl h0.size) E5.1) (Nat.le_of_eq W16.size.symm))
  have y28 : h0.size ≤ a20 := g22 ▸ F29
  have F31 := (F14.wr W16)
  have ne30 : a ≠ a20 := Nat.ne_of_lt (g22 ▸ F31.lt)
  have ne32 : x ≠ a20 := Nat.ne_of_lt (g22 ▸ F18.lt)
  have F34 := ((A1.ext E5).other W16 ny)
  have ne33 : y ≠ a20 := Nat.ne_of_lt (g22 ▸ F34.lt)
  have F36 := (F7.other W16 (Ne.symm ne10))
  have ne35 : a2 ≠ a20 := Nat.ne_of_lt (g22 ▸ F36.lt)
  have F25 : Av Z h19 a20 .long 0 (jF (fun _ => (0 : Int64))) := Av.of Fn24
  have F37 := (((G1.ext E5).other W16 (Or.inr (slot_ne (Or.inr (hw _ (List.mem_of_getElem? (i := 13) rfl))) (Or.inr (hw _ (List.mem_of_getElem? (i := 11) rfl))) (by decide) (t := (.array .long)) (t' := (.array .long)) (by decide) (by decide)))).ext E23)
  have F38 := (F31.ext E23)
  refine Go.putF C (host := "") (Or.inl (hw _ (List.mem_of_getElem? (i := 12) rfl))) Via.refl F37 F38 (Or.inr ⟨(hw _ (List.mem_of_getElem? (i := 13) rfl)), rfl, rfl⟩) (hw _ (List.mem_of_getElem? (i := 2) rfl)) (ty := (.array .long)) (by decide) rfl rfl g0 d1_16 (q := 19) rfl ?_
  intro h39 W40
  have F41 := F37.same W40
  refine Go.aloadN C d1_19 (q := 20) rfl rfl rfl ?_
  refine Go.aloadN C d1_20 (q := 21) rfl rfl rfl ?_
  have F42 := ((((G2.ext E5).other W16 (Or.inr (slot_ne (Or.inr (hw _ (List.mem_of_getElem? (i := 15) rfl))) (Or.inr (hw _ (List.mem_of_getElem? (i := 11) rfl))) (by decide) (t := (.array .long)) (t' := (.array .long)) (by decide) (by decide)))).ext E23).other W40 (Or.inr (slot_ne (Or.inr (hw _ (List.mem_of_getElem? (i := 15) rfl))) (Or.inr (hw _ (List.mem_of_getElem? (i := 13) rfl))) (by decide) (t := (.array .long)) (t' := (.array .long)) (by decide) (by decide))))
  have F43 := (F38.wr W40)
  refine Go.putF C (host := "") (Or.inl (hw _ (List.mem_of_getElem? (i := 14) rfl))) Via.refl F42 F43 (Or.inr ⟨(hw _ (List.mem_of_getElem? (i := 15) rfl)), rfl, rfl⟩) (hw _ (List.mem_of_getElem? (i := 2) rfl)) (ty := (.array .long)) (by decide) rfl rfl g0 d1_21 (q := 24) rfl ?_
  intro h44 W45
  have F46 := F42.same W45
  refine Go.aloadN C d1_24 (q := 25) rfl rfl rfl ?_
  refine Go.aloadN C d1_25 (q := 26) rfl rfl rfl ?_
  have F47 := (((((G3.ext E5).other W16 (Or.inr (slot_ne (Or.inr (hw _ (List.mem_of_getElem? (i := 17) rfl))) (Or.inr (hw _ (List.mem_of_getElem? (i := 11) rfl))) (by decide) (t := (.array .long)) (t' := (.array .long)) (by decide) (by decide)))).ext E23).other W40 (Or.inr (slot_ne (Or.inr (hw _ (List.mem_of_getElem? (i := 17) rfl))) (Or.inr (hw _ (List.mem_of_getElem? (i := 13) rfl))) (by decide) (t := (.array .long)) (t' := (.array .long)) (by decide) (by decide)))).other W45 (Or.inr (slot_ne (Or.inr (hw _ (List.mem_of_getElem? (i := 17) rfl))) (Or.inr (hw _ (List.mem_of_getElem? (i := 15) rfl))) (by decide) (t := (.array .long)) (t' := (.array .long)) (by decide) (by decide))))
  have F48 := (F43.wr W45)
  refine Go.putF C (host := "") (Or.inl (hw _ (List.mem_of_getElem? (i := 16) rfl))) Via.refl F47 F48 (Or.inr ⟨(hw _ (List.mem_of_getElem? (i := 17) rfl)), rfl, rfl⟩) (hw _ (List.mem_of_getElem? (i := 2) rfl)) (ty := (.array .long)) (by decide) rfl rfl g0 d1_26 (q := 29) rfl ?_
  intro h49 W50
  have F51 := F47.same W50
  have F52 := ((F41.other W45 (Or.inr (slot_ne (Or.inr (hw _ (List.mem_of_getElem? (i := 13) rfl))) (Or.inr (hw _ (List.mem_of_getElem? (i := 15) rfl))) (by decide) (t := (.array .long)) (t' := (.array .long)) (by decide) (by decide)))).other W50 (Or.inr (slot_ne (Or.inr (hw _ (List.mem_of_getElem? (i := 13) rfl))) (Or.inr (hw _ (List.mem_of_getElem? (i := 17) rfl))) (by decide) (t := (.array .long)) (t' := (.array .long)) (by decide) (by decide))))
  have F53 := (F46.other W50 (Or.inr (slot_ne (Or.inr (hw _ (List.mem_of_getElem? (i := 15) rfl))) (Or.inr (hw _ (List.mem_of_getElem? (i := 17) rfl))) (by decide) (t := (.array .long)) (t' := (.array .long)) (by decide) (by decide))))
  have F54 := (((F25.other W40 (Ne.symm ne30)).other W45 (Ne.symm ne30)).other W50 (Ne.symm ne30))
  exact Go.retV C d1_29 (by decide) (by decide) ⟨rfl, a2, a20, (((((((Keep.refl h0 [a]).ext E5).wr W16 (Or.inl (List.mem_of_getElem? (i := 0) rfl))).ext E23).wr W40 (Or.inl (List.mem_of_getElem? (i := 0) rfl))).wr W45 (Or.inl (List.mem_of_getElem? (i := 0) rfl))).wr W50 (Or.inl (List.mem_of_getElem? (i := 0) rfl))), g27, y28, F52, F53, F51, F54, trivial⟩
def f_adm0 (fl f1 f2 : Nat → Int64) (t u : Int64) : Int32 := (1 : Int32)
set_option maxRecDepth 65536 in
theorem c_f_adm0 (l : Launch) (Z : State) (a0 : Array Value) (hw : ∀ d ∈ tables_1, d.before a0 Z = true) (a : Addr) (t : Int64) (u : Int64) (h0 : Heap) (n0 : Nat) (li x y : Addr) (fl f1 f2 : Nat → Int64) (Z0 : n0 ≤ h0.size) (G_li : Fld Z h0 a "com/example/paretoloom/paretoloom/knapsack/Region" "limits" "[J" (.ref li)) (G_x : Fld Z h0 a "com/example/paretoloom/paretoloom/knapsack/Region" "firstWeights" "[J" (.ref x)) (G_y : Fld Z h0 a "com/example/paretoloom/paretoloom/knapsack/Region" "secondWeights" "[J" (.ref y)) (A_li : Av Z h0 li .long 0 (jF fl)) (A_x : Av Z h0 x .long 0 (jF f1)) (A_y : Av Z h0 y .long 0 (jF f2)) : Met1 l Z (⟨"com/example/paretoloom/paretoloom/knapsack/Region", "admits", "(JJ)Z"⟩ : MethodName) prog_45_method_2_code 6 (some .boolean) [] ({ frames := 0, cells := 0, slots := 0, locals := 0 } : Room) #[(.ref a), (.long t), (.long u)] h0 n0 (Ret (.int (f_adm0 fl f1 f2 t u)) h0) := by
  refine met_of_go (plainFor_of_name pn_com_example_paretoloom_paretoloom_knapsack_Region) (fun m => ef_3 m a t u) ?_
  intro W hl C
  subst hl
  refine Go.iconst C (0 : Int32) d3_0 (q := 1) rfl rfl ?_
  refine Go.istoreR C d3_1 (q := 3) rfl (l' := #[.val (.ref a), .val (.long t), .second, .val (.long u), .second, .val (.int (0 : Int32))]) rfl ?_
  refine Go.iload C d3_3 (q := 5) rfl rfl ?_
  refine Go.aloadN C d3_5 (q := 6) rfl rfl rfl ?_
  refine Go.getF C (host := "") (Or.inl (hw _ (List.mem_of_getElem? (i := 12) rfl))) Via.refl G_li d3_6 (q := 9) rfl ?_
  refine Go.alen C A_li d3_9 (q := 10) rfl ?_
  show Go W n0 (Ret (.int (f_adm0 fl f1 f2 t u)) h0) h0 0 0 10 #[.val (.ref a), .val (.long t), .second, .val (.long u), .second, .val (.int (0 : Int32))] [(.int (0 : Int32)), (.int (0 : Int32))]
  refine Go.icmp C d3_10 (n_ge _ _) (qt := 51) (q := 13) (by decide) (by decide) rfl (fun _ => ?_) (fun b1 => absurd b1 (by decide))
  refine Go.iconst C (1 : Int32) d3_51 (q := 52) rfl rfl ?_
  refine Go.retZ (t := .boolean) (by simp) C d3_52 (by decide) (by decide) ⟨?_, rfl⟩
  refine congrArg (fun z => some (Value.int z)) ?_
  show (1 : Int32) = f_adm0 fl f1 f2 t u
  unfold f_adm0
  rfl
set_option maxRecDepth 65536 in
theorem c_init1 (l : Launch) (Z : State) (a0 : Array Value) (hw : ∀ d ∈ tables_1, d.before a0 Z = true) (a : Addr) (x : Addr) (y : Addr) (h0 : Heap) (n0 : Nat) (f1 f2 : Nat → Int64) (Z0 : n0 ≤ h0.size) (E0 : Exa Z h0 a "com/example/paretoloom/paretoloom/knapsack/Region") (g0 : n0 ≤ a) (G0 : Fld Z h0 a "com/example/paretoloom/paretoloom/knapsack/Region" "upper" "[J" .null) (G1 : Fld Z h0 a "com/example/paretoloom/paretoloom/knapsack/Region" "limits" "[J" .null) (G2 : Fld Z h0 a "com/example/paretoloom/paretoloom/knapsack/Region" "firstWeights" "[J" .null) (G3 : Fld Z h0 a "com/example/paretoloom/paretoloom/knapsack/Region" "secondWeights" "[J" .null) (A0 : Av Z h0 x .long 1 (jF f1)) (A1 : Av Z h0 y .long 1 (jF f2)) (nx : x ≠ a) (ny : y ≠ a) : Met1 l Z (⟨"com/example/paretoloom/paretoloom/knapsack/Region", "<init>", "(I[J[J)V"⟩ : MethodName) prog_45_method_1_code 4 none [] ({ frames := 1, cells := 2, slots := 3, locals := 12 } : Room) #[(.ref a), (.int (2 : Int32)), (.ref x), (.ref y)] h0 n0 (fun v h => v = none ∧ ∃ b1 b2 : Addr, Keep h0 h [a] ∧ n0 ≤ b2 ∧ h0.size ≤ b2 ∧ Fld Z h a "com/example/paretoloom/paretoloom/knapsack/Region" "limits" "[J" (.ref b2) ∧ Fld Z h a "com/example/paretoloom/paretoloom/knapsack/Region" "firstWeights" "[J" (.ref x) ∧ Fld Z h a "com/example/paretoloom/paretoloom/knapsack/Region" "secondWeights" "[J" (.ref y) ∧ Av Z h b2 .long 1 (jF (fun _ => (0 : Int64))) ∧ True) := by
  refine met_of_go (plainFor_of_name pn_com_example_paretoloom_paretoloom_knapsack_Region) (fun m => ef_1_l1_2Int32 m a x y) ?_
  intro W hl C
  subst hl
  refine Go.aloadN C d1_0 (q := 1) rfl rfl rfl ?_
  refine Go.initO C (hw _ (List.mem_of_getElem? (i := 7) rfl)) (hw _ (List.mem_of_getElem? (i := 8) rfl)) (hw _ (List.mem_of_getElem? (i := 9) rfl)) d1_1 (q := 4) rfl rfl (w := 0) rfl (by decide) (by decide) ?_
  refine Go.aloadN C d1_4 (q := 5) rfl rfl rfl ?_
  refine Go.iloadN C d1_5 (q := 6) rfl rfl ?_
  refine Go.newP C (hw _ (List.mem_of_getElem? (i := 0) rfl)) (by decide) (cap := 2) (by decide) (by decide) d1_6 (q := 8) rfl (k' := 1) rfl (n' := 2) rfl (by decide) (by decide) ?_
  intro h1 a2 cA3 g4 E5 Fn6
  have g8 : n0 ≤ a2 := g4 ▸ Z0
  have y9 : h0.size ≤ a2 := g4 ▸ (Nat.le_refl h0.size)
  have ne10 : a ≠ a2 := Nat.ne_of_lt (g4 ▸ E0.lt)
  have ne11 : x ≠ a2 := Nat.ne_of_lt (g4 ▸ A0.lt)
  have ne12 : y ≠ a2 := Nat.ne_of_lt (g4 ▸ A1.lt)
  have F7 : Av Z h1 a2 .long 2 (jF (fun _ => (0 : Int64))) := Av.of Fn6
  have F13 := (G0.ext E5)
  have F14 := (E0.ext E5)
  refine Go.putF C (host := "") (Or.inl (hw _ (List.mem_of_getElem? (i := 10) rfl))) Via.refl F13 F14 (Or.inr ⟨(hw _ (List.mem_of_getElem? (i := 11) rfl)), rfl, rfl⟩) (hw _ (List.mem_of_getElem? (i := 2) rfl)) (ty := (.array .long)) (by decide) rfl rfl g0 d1_8 (q := 11) rfl ?_
  intro h15 W16
  have F17 := F13.same W16
  refine Go.aloadN C d1_11 (q := 12) rfl rfl rfl ?_
  refine Go.aloadN C d1_12 (q := 13) rfl rfl rfl ?_
  have F18 := ((A0.ext E5).other W16 nx)
  refine Go.alen C F18 d1_13 (q := 14) rfl ?_
  show Go W n0 (fun v h => v = none ∧ ∃ b1 b2 : Addr, Keep h0 h [a] ∧ n0 ≤ b2 ∧ h0.size ≤ b2 ∧ Fld Z h a "com/example/paretoloom/paretoloom/knapsack/Region" "limits" "[J" (.ref b2) ∧ Fld Z h a "com/example/paretoloom/paretoloom/knapsack/Region" "firstWeights" "[J" (.ref x) ∧ Fld Z h a "com/example/paretoloom/paretoloom/knapsack/Region" "secondWeights" "[J" (.ref y) ∧ Av Z h b2 .long 1 (jF (fun _ => (0 : Int64))) ∧ True) h15 1 2 14 #[.val (.ref a), .val (.int (2 : Int32)), .val (.ref x), .val (.ref y)] [(.int (1 : Int32)), (.ref a)]
  refine Go.newP C (hw _ (List.mem_of_getElem? (i := 0) rfl)) (by decide) (cap := 1) (by decide) (by decide) d1_14 (q := 16) rfl (k' := 2) rfl (n' := 3) rfl (by decide) (by decide) ?_
  intro h19 a20 cA21 g22 E23 Fn24
  have F26 := (Nat.le_trans (Nat.le_trans Z0 E5.1) (Nat.le_of_eq W16.size.symm))
  have g27 : n0 ≤ a20 := g22 ▸ F26
  have F29 := (Nat.le_trans (Nat.le_trans (Nat.le_refl h0.size) E5.1) (Nat.le_of_eq W16.size.symm))
  have y28 : h0.size ≤ a20 := g22 ▸ F29
  have F31 := (F14.wr W16)
  have ne30 : a ≠ a20 := Nat.ne_of_lt (g22 ▸ F31.lt)
  have ne32 : x ≠ a20 := Nat.ne_of_lt (g22 ▸ F18.lt)
  have F34 := ((A1.ext E5).other W16 ny)
  have ne33 : y ≠ a20 := Nat.ne_of_lt (g22 ▸ F34.lt)
  have F36 := (F7.other W16 (Ne.symm ne10))
  have ne35 : a2 ≠ a20 := Nat.ne_of_lt (g22 ▸ F36.lt)
  have F25 : Av Z h19 a20 .long 1 (jF (fun _ => (0 : Int64))) := Av.of Fn24
  have F37 := (((G1.ext E5).other W16 (Or.inr (slot_ne (Or.inr (hw _ (List.mem_of_getElem? (i := 13) rfl))) (Or.inr (hw _ (List.mem_of_getElem? (i := 11) rfl))) (by decide) (t := (.array .long)) (t' := (.array .long)) (by decide) (by decide)))).ext E23)
  have F38 := (F31.ext E23)
  refine Go.putF C (host := "") (Or.inl (hw _ (List.mem_of_getElem? (i := 12) rfl))) Via.refl F37 F38 (Or.inr ⟨(hw _ (List.mem_of_getElem? (i := 13) rfl)), rfl, rfl⟩) (hw _ (List.mem_of_getElem? (i := 2) rfl)) (ty := (.array .long)) (by decide) rfl rfl g0 d1_16 (q := 19) rfl ?_
  intro h39 W40
  have F41 := F37.same W40
  refine Go.aloadN C d1_19 (q := 20) rfl rfl rfl ?_
  refine Go.aloadN C d1_20 (q := 21) rfl rfl rfl ?_
  have F42 := ((((G2.ext E5).other W16 (Or.inr (slot_ne (Or.inr (hw _ (List.mem_of_getElem? (i := 15) rfl))) (Or.inr (hw _ (List.mem_of_getElem? (i := 11) rfl))) (by decide) (t := (.array .long)) (t' := (.array .long)) (by decide) (by decide)))).ext E23).other W40 (Or.inr (slot_ne (Or.inr (hw _ (List.mem_of_getElem? (i := 15) rfl))) (Or.inr (hw _ (List.mem_of_getElem? (i := 13) rfl))) (by decide) (t := (.array .long)) (t' := (.array .long)) (by decide) (by decide))))
  have F43 := (F38.wr W40)
  refine Go.putF C (host := "") (Or.inl (hw _ (List.mem_of_getElem? (i := 14) rfl))) Via.refl F42 F43 (Or.inr ⟨(hw _ (List.mem_of_getElem? (i := 15) rfl)), rfl, rfl⟩) (hw _ (List.mem_of_getElem? (i := 2) rfl)) (ty := (.array .long)) (by decide) rfl rfl g0 d1_21 (q := 24) rfl ?_
  intro h44 W45
  have F46 := F42.same W45
  refine Go.aloadN C d1_24 (q := 25) rfl rfl rfl ?_
  refine Go.aloadN C d1_25 (q := 26) rfl rfl rfl ?_
  have F47 := (((((G3.ext E5).other W16 (Or.inr (slot_ne (Or.inr (hw _ (List.mem_of_getElem? (i := 17) rfl))) (Or.inr (hw _ (List.mem_of_getElem? (i := 11) rfl))) (by decide) (t := (.array .long)) (t' := (.array .long)) (by decide) (by decide)))).ext E23).other W40 (Or.inr (slot_ne (Or.inr (hw _ (List.mem_of_getElem? (i := 17) rfl))) (Or.inr (hw _ (List.mem_of_getElem? (i := 13) rfl))) (by decide) (t := (.array .long)) (t' := (.array .long)) (by decide) (by decide)))).other W45 (Or.inr (slot_ne (Or.inr (hw _ (List.mem_of_getElem? (i := 17) rfl))) (Or.inr (hw _ (List.mem_of_getElem? (i := 15) rfl))) (by decide) (t := (.array .long)) (t' := (.array .long)) (by decide) (by decide))))
  have F48 := (F43.wr W45)
  refine Go.putF C (host := "") (Or.inl (hw _ (List.mem_of_getElem? (i := 16) rfl))) Via.refl F47 F48 (Or.inr ⟨(hw _ (List.mem_of_getElem? (i := 17) rfl)), rfl, rfl⟩) (hw _ (List.mem_of_getElem? (i := 2) rfl)) (ty := (.array .long)) (by decide) rfl rfl g0 d1_26 (q := 29) rfl ?_
  intro h49 W50
  have F51 := F47.same W50
  have F52 := ((F41.other W45 (Or.inr (slot_ne (Or.inr (hw _ (List.mem_of_getElem? (i := 13) rfl))) (Or.inr (hw _ (List.mem_of_getElem? (i := 15) rfl))) (by decide) (t := (.array .long)) (t' := (.array .long)) (by decide) (by decide)))).other W50 (Or.inr (slot_ne (Or.inr (hw _ (List.mem_of_getElem? (i := 13) rfl))) (Or.inr (hw _ (List.mem_of_getElem? (i := 17) rfl))) (by decide) (t := (.array .long)) (t' := (.array .long)) (by decide) (by decide))))
  have F53 := (F46.other W50 (Or.inr (slot_ne (Or.inr (hw _ (List.mem_of_getElem? (i := 15) rfl))) (Or.inr (hw _ (List.mem_of_getElem? (i := 17) rfl))) (by decide) (t := (.array .long)) (t' := (.array .long)) (by decide) (by decide))))
  have F54 := (((F25.other W40 (Ne.symm ne30)).other W45 (Ne.symm ne30)).other W50 (Ne.symm ne30))
  exact Go.retV C d1_29 (by decide) (by decide) ⟨rfl, a2, a20, (((((((Keep.refl h0 [a]).ext E5).wr W16 (Or.inl (List.mem_of_getElem? (i := 0) rfl))).ext E23).wr W40 (Or.inl (List.mem_of_getElem? (i := 0) rfl))).wr W45 (Or.inl (List.mem_of_getElem? (i := 0) rfl))).wr W50 (Or.inl (List.mem_of_getElem? (i := 0) rfl))), g27, y28, F52, F53, F51, F54, trivial⟩
def f_adm1 (fl f1 f2 : Nat → Int64) (t u : Int64) : Int32 := (if (fl 0) < (((f1 0) * t) + ((f2 0) * u)) then (0 : Int32) else (1 : Int32))
set_option maxRecDepth 65536 in
theorem c_f_adm1 (l : Launch) (Z : State) (a0 : Array Value) (hw : ∀ d ∈ tables_1, d.before a0 Z = true) (a : Addr) (t : Int64) (u : Int64) (h0 : Heap) (n0 : Nat) (li x y : Addr) (fl f1 f2 : Nat → Int64) (Z0 : n0 ≤ h0.size) (G_li : Fld Z h0 a "com/example/paretoloom/paretoloom/knapsack/Region" "limits" "[J" (.ref li)) (G_x : Fld Z h0 a "com/example/paretoloom/paretoloom/knapsack/Region" "firstWeights" "[J" (.ref x)) (G_y : Fld Z h0 a "com/example/paretoloom/paretoloom/knapsack/Region" "secondWeights" "[J" (.ref y)) (A_li : Av Z h0 li .long 1 (jF fl)) (A_x : Av Z h0 x .long 1 (jF f1)) (A_y : Av Z h0 y .long 1 (jF f2)) : Met1 l Z (⟨"com/example/paretoloom/paretoloom/knapsack/Region", "admits", "(JJ)Z"⟩ : MethodName) prog_45_method_2_code 6 (some .boolean) [] ({ frames := 0, cells := 0, slots := 0, locals := 0 } : Room) #[(.ref a), (.long t), (.long u)] h0 n0 (Ret (.int (f_adm1 fl f1 f2 t u)) h0) := by
  refine met_of_go (plainFor_of_name pn_com_example_paretoloom_paretoloom_knapsack_Region) (fun m => ef_3 m a t u) ?_
  intro W hl C
  subst hl
  refine Go.iconst C (0 : Int32) d3_0 (q := 1) rfl rfl ?_
  refine Go.istoreR C d3_1 (q := 3) rfl (l' := #[.val (.ref a), .val (.long t), .second, .val (.long u), .second, .val (.int (0 : Int32))]) rfl ?_
  refine Go.iload C d3_3 (q := 5) rfl rfl ?_
  refine Go.aloadN C d3_5 (q := 6) rfl rfl rfl ?_
  refine Go.getF C (host := "") (Or.inl (hw _ (List.mem_of_getElem? (i := 12) rfl))) Via.refl G_li d3_6 (q := 9) rfl ?_
  refine Go.alen C A_li d3_9 (q := 10) rfl ?_
  show Go W n0 (Ret (.int (f_adm1 fl f1 f2 t u)) h0) h0 0 0 10 #[.val (.ref a), .val (.long t), .second, .val (.long u), .second, .val (.int (0 : Int32))] [(.int (1 : Int32)), (.int (0 : Int32))]
  refine Go.icmp C d3_10 (n_ge _ _) (qt := 51) (q := 13) (by decide) (by decide) rfl (fun b1 => absurd b1 (by decide)) (fun _ => ?_)
  refine Go.aloadN C d3_13 (q := 14) rfl rfl rfl ?_
  refine Go.getF C (host := "") (Or.inl (hw _ (List.mem_of_getElem? (i := 14) rfl))) Via.refl G_x d3_14 (q := 17) rfl ?_
  refine Go.iload C d3_17 (q := 19) rfl rfl ?_
  refine Go.laload C A_x 0 (v := (.long (f1 0))) (by decide) (by decide) (by decide) rfl d3_19 (q := 20) rfl ?_
  refine Go.lloadN C d3_20 (q := 21) rfl rfl ?_
  refine Go.lmul C d3_21 (q := 22) rfl ?_
  refine Go.aloadN C d3_22 (q := 23) rfl rfl rfl ?_
  refine Go.getF C (host := "") (Or.inl (hw _ (List.mem_of_getElem? (i := 16) rfl))) Via.refl G_y d3_23 (q := 26) rfl ?_
  refine Go.iload C d3_26 (q := 28) rfl rfl ?_
  refine Go.laload C A_y 0 (v := (.long (f2 0))) (by decide) (by decide) (by decide) rfl d3_28 (q := 29) rfl ?_
  refine Go.lloadN C d3_29 (q := 30) rfl rfl ?_
  refine Go.lmul C d3_30 (q := 31) rfl ?_
  refine Go.ladd C d3_31 (q := 32) rfl ?_
  refine Go.aloadN C d3_32 (q := 33) rfl rfl rfl ?_
  refine Go.getF C (host := "") (Or.inl (hw _ (List.mem_of_getElem? (i := 12) rfl))) Via.refl G_li d3_33 (q := 36) rfl ?_
  refine Go.iload C d3_36 (q := 38) rfl rfl ?_
  refine Go.laload C A_li 0 (v := (.long (fl 0))) (by decide) (by decide) (by decide) rfl d3_38 (q := 39) rfl ?_
  refine Go.lcmp C d3_39 (q := 40) rfl ?_
  refine Go.if0 C d3_40 (l_le _ _) (qt := 45) (q := 43) (by decide) (by decide) rfl (fun b2 => ?_) (fun b2 => ?_)
  ·
    refine Go.iincR C d3_45 (q := 48) rfl rfl (l' := #[.val (.ref a), .val (.long t), .second, .val (.long u), .second, .val (.int (1 : Int32))]) rfl ?_
    refine Go.goto C d3_48 (q := 3) (by decide) (by decide) ?_
    refine Go.iload C d3_3 (q := 5) rfl rfl ?_
    refine Go.aloadN C d3_5 (q := 6) rfl rfl rfl ?_
    refine Go.getF C (host := "") (Or.inl (hw _ (List.mem_of_getElem? (i := 12) rfl))) Via.refl G_li d3_6 (q := 9) rfl ?_
    refine Go.alen C A_li d3_9 (q := 10) rfl ?_
    show Go W n0 (Ret (.int (f_adm1 fl f1 f2 t u)) h0) h0 0 0 10 #[.val (.ref a), .val (.long t), .second, .val (.long u), .second, .val (.int (1 : Int32))] [(.int (1 : Int32)), (.int (1 : Int32))]
    refine Go.icmp C d3_10 (n_ge _ _) (qt := 51) (q := 13) (by decide) (by decide) rfl (fun _ => ?_) (fun b3 => absurd b3 (by decide))
    refine Go.iconst C (1 : Int32) d3_51 (q := 52) rfl rfl ?_
    refine Go.retZ (t := .boolean) (by simp) C d3_52 (by decide) (by decide) ⟨?_, rfl⟩
    refine congrArg (fun z => some (Value.int z)) ?_
    show (1 : Int32) = f_adm1 fl f1 f2 t u
    unfold f_adm1
    rw [if_neg b2]
  ·
    have b2 := Classical.not_not.mp b2
    refine Go.iconst C (0 : Int32) d3_43 (q := 44) rfl rfl ?_
    refine Go.retZ (t := .boolean) (by simp) C d3_44 (by decide) (by decide) ⟨?_, rfl⟩
    refine congrArg (fun z => some (Value.int z)) ?_
    show (0 : Int32) = f_adm1 fl f1 f2 t u
    unfold f_adm1
    rw [if_pos b2]
set_option maxRecDepth 65536 in
theorem c_init2 (l : Launch) (Z : State) (a0 : Array Value) (hw : ∀ d ∈ tables_1, d.before a0 Z = true) (a : Addr) (x : Addr) (y : Addr) (h0 : Heap) (n0 : Nat) (f1 f2 : Nat → Int64) (Z0 : n0 ≤ h0.size) (E0 : Exa Z h0 a "com/example/paretoloom/paretoloom/knapsack/Region") (g0 : n0 ≤ a) (G0 : Fld Z h0 a "com/example/paretoloom/paretoloom/knapsack/Region" "upper" "[J" .null) (G1 : Fld Z h0 a "com/example/paretoloom/paretoloom/knapsack/Region" "limits" "[J" .null) (G2 : Fld Z h0 a "com/example/paretoloom/paretoloom/knapsack/Region" "firstWeights" "[J" .null) (G3 : Fld Z h0 a "com/example/paretoloom/paretoloom/knapsack/Region" "secondWeights" "[J" .null) (A0 : Av Z h0 x .long 2 (jF f1)) (A1 : Av Z h0 y .long 2 (jF f2)) (nx : x ≠ a) (ny : y ≠ a) : Met1 l Z (⟨"com/example/paretoloom/paretoloom/knapsack/Region", "<init>", "(I[J[J)V"⟩ : MethodName) prog_45_method_1_code 4 none [] ({ frames := 1, cells := 2, slots := 4, locals := 12 } : Room) #[(.ref a), (.int (2 : Int32)), (.ref x), (.ref y)] h0 n0 (fun v h => v = none ∧ ∃ b1 b2 : Addr, Keep h0 h [a] ∧ n0 ≤ b2 ∧ h0.size ≤ b2 ∧ Fld Z h a "com/example/paretoloom/paretoloom/knapsack/Region" "limits" "[J" (.ref b2) ∧ Fld Z h a "com/example/paretoloom/paretoloom/knapsack/Region" "firstWeights" "[J" (.ref x) ∧ Fld Z h a "com/example/paretoloom/paretoloom/knapsack/Region" "secondWeights" "[J" (.ref y) ∧ Av Z h b2 .long 2 (jF (fun _ => (0 : Int64))) ∧ True) := by
  refine met_of_go (plainFor_of_name pn_com_example_paretoloom_paretoloom_knapsack_Region) (fun m => ef_1_l1_2Int32 m a x y) ?_
  intro W hl C
  subst hl
  refine Go.aloadN C d1_0 (q := 1) rfl rfl rfl ?_
  refine Go.initO C (hw _ (List.mem_of_getElem? (i := 7) rfl)) (hw _ (List.mem_of_getElem? (i := 8) rfl)) (hw _ (List.mem_of_getElem? (i := 9) rfl)) d1_1 (q := 4) rfl rfl (w := 0) rfl (by decide) (by decide) ?_
  refine Go.aloadN C d1_4 (q := 5) rfl rfl rfl ?_
  refine Go.iloadN C d1_5 (q := 6) rfl rfl ?_
  refine Go.newP C (hw _ (List.mem_of_getElem? (i := 0) rfl)) (by decide) (cap := 2) (by decide) (by decide) d1_6 (q := 8) rfl (k' := 1) rfl (n' := 2) rfl (by decide) (by decide) ?_
  intro h1 a2 cA3 g4 E5 Fn6
  have g8 : n0 ≤ a2 := g4 ▸ Z0
  have y9 : h0.size ≤ a2 := g4 ▸ (Nat.le_refl h0.size)
  have ne10 : a ≠ a2 := Nat.ne_of_lt (g4 ▸ E0.lt)
  have ne11 : x ≠ a2 := Nat.ne_of_lt (g4 ▸ A0.lt)
  have ne12 : y ≠ a2 := Nat.ne_of_lt (g4 ▸ A1.lt)
  have F7 : Av Z h1 a2 .long 2 (jF (fun _ => (0 : Int64))) := Av.of Fn6
  have F13 := (G0.ext E5)
  have F14 := (E0.ext E5)
  refine Go.putF C (host := "") (Or.inl (hw _ (List.mem_of_getElem? (i := 10) rfl))) Via.refl F13 F14 (Or.inr ⟨(hw _ (List.mem_of_getElem? (i := 11) rfl)), rfl, rfl⟩) (hw _ (List.mem_of_getElem? (i := 2) rfl)) (ty := (.array .long)) (by decide) rfl rfl g0 d1_8 (q := 11) rfl ?_
  intro h15 W16
  have F17 := F13.same W16
  refine Go.aloadN C d1_11 (q := 12) rfl rfl rfl ?_
  refine Go.aloadN C d1_12 (q := 13) rfl rfl rfl ?_
  have F18 := ((A0.ext E5).other W16 nx)
  refine Go.alen C F18 d1_13 (q := 14) rfl ?_
  show Go W n0 (fun v h => v = none ∧ ∃ b1 b2 : Addr, Keep h0 h [a] ∧ n0 ≤ b2 ∧ h0.size ≤ b2 ∧ Fld Z h a "com/example/paretoloom/paretoloom/knapsack/Region" "limits" "[J" (.ref b2) ∧ Fld Z h a "com/example/paretoloom/paretoloom/knapsack/Region" "firstWeights" "[J" (.ref x) ∧ Fld Z h a "com/example/paretoloom/paretoloom/knapsack/Region" "secondWeights" "[J" (.ref y) ∧ Av Z h b2 .long 2 (jF (fun _ => (0 : Int64))) ∧ True) h15 1 2 14 #[.val (.ref a), .val (.int (2 : Int32)), .val (.ref x), .val (.ref y)] [(.int (2 : Int32)), (.ref a)]
  refine Go.newP C (hw _ (List.mem_of_getElem? (i := 0) rfl)) (by decide) (cap := 2) (by decide) (by decide) d1_14 (q := 16) rfl (k' := 2) rfl (n' := 4) rfl (by decide) (by decide) ?_
  intro h19 a20 cA21 g22 E23 Fn24
  have F26 := (Nat.le_trans (Nat.le_trans Z0 E5.1) (Nat.le_of_eq W16.size.symm))
  have g27 : n0 ≤ a20 := g22 ▸ F26
  have F29 := (Nat.le_trans (Nat.le_trans (Nat.le_refl h0.size) E5.1) (Nat.le_of_eq W16.size.symm))
  have y28 : h0.size ≤ a20 := g22 ▸ F29
  have F31 := (F14.wr W16)
  have ne30 : a ≠ a20 := Nat.ne_of_lt (g22 ▸ F31.lt)
  have ne32 : x ≠ a20 := Nat.ne_of_lt (g22 ▸ F18.lt)
  have F34 := ((A1.ext E5).other W16 ny)
  have ne33 : y ≠ a20 := Nat.ne_of_lt (g22 ▸ F34.lt)
  have F36 := (F7.other W16 (Ne.symm ne10))
  have ne35 : a2 ≠ a20 := Nat.ne_of_lt (g22 ▸ F36.lt)
  have F25 : Av Z h19 a20 .long 2 (jF (fun _ => (0 : Int64))) := Av.of Fn24
  have F37 := (((G1.ext E5).other W16 (Or.inr (slot_ne (Or.inr (hw _ (List.mem_of_getElem? (i := 13) rfl))) (Or.inr (hw _ (List.mem_of_getElem? (i := 11) rfl))) (by decide) (t := (.array .long)) (t' := (.array .long)) (by decide) (by decide)))).ext E23)
  have F38 := (F31.ext E23)
  refine Go.putF C (host := "") (Or.inl (hw _ (List.mem_of_getElem? (i := 12) rfl))) Via.refl F37 F38 (Or.inr ⟨(hw _ (List.mem_of_getElem? (i := 13) rfl)), rfl, rfl⟩) (hw _ (List.mem_of_getElem? (i := 2) rfl)) (ty := (.array .long)) (by decide) rfl rfl g0 d1_16 (q := 19) rfl ?_
  intro h39 W40
  have F41 := F37.same W40
  refine Go.aloadN C d1_19 (q := 20) rfl rfl rfl ?_
  refine Go.aloadN C d1_20 (q := 21) rfl rfl rfl ?_
  have F42 := ((((G2.ext E5).other W16 (Or.inr (slot_ne (Or.inr (hw _ (List.mem_of_getElem? (i := 15) rfl))) (Or.inr (hw _ (List.mem_of_getElem? (i := 11) rfl))) (by decide) (t := (.array .long)) (t' := (.array .long)) (by decide) (by decide)))).ext E23).other W40 (Or.inr (slot_ne (Or.inr (hw _ (List.mem_of_getElem? (i := 15) rfl))) (Or.inr (hw _ (List.mem_of_getElem? (i := 13) rfl))) (by decide) (t := (.array .long)) (t' := (.array .long)) (by decide) (by decide))))
  have F43 := (F38.wr W40)
  refine Go.putF C (host := "") (Or.inl (hw _ (List.mem_of_getElem? (i := 14) rfl))) Via.refl F42 F43 (Or.inr ⟨(hw _ (List.mem_of_getElem? (i := 15) rfl)), rfl, rfl⟩) (hw _ (List.mem_of_getElem? (i := 2) rfl)) (ty := (.array .long)) (by decide) rfl rfl g0 d1_21 (q := 24) rfl ?_
  intro h44 W45
  have F46 := F42.same W45
  refine Go.aloadN C d1_24 (q := 25) rfl rfl rfl ?_
  refine Go.aloadN C d1_25 (q := 26) rfl rfl rfl ?_
  have F47 := (((((G3.ext E5).other W16 (Or.inr (slot_ne (Or.inr (hw _ (List.mem_of_getElem? (i := 17) rfl))) (Or.inr (hw _ (List.mem_of_getElem? (i := 11) rfl))) (by decide) (t := (.array .long)) (t' := (.array .long)) (by decide) (by decide)))).ext E23).other W40 (Or.inr (slot_ne (Or.inr (hw _ (List.mem_of_getElem? (i := 17) rfl))) (Or.inr (hw _ (List.mem_of_getElem? (i := 13) rfl))) (by decide) (t := (.array .long)) (t' := (.array .long)) (by decide) (by decide)))).other W45 (Or.inr (slot_ne (Or.inr (hw _ (List.mem_of_getElem? (i := 17) rfl))) (Or.inr (hw _ (List.mem_of_getElem? (i := 15) rfl))) (by decide) (t := (.array .long)) (t' := (.array .long)) (by decide) (by decide))))
  have F48 := (F43.wr W45)
  refine Go.putF C (host := "") (Or.inl (hw _ (List.mem_of_getElem? (i := 16) rfl))) Via.refl F47 F48 (Or.inr ⟨(hw _ (List.mem_of_getElem? (i := 17) rfl)), rfl, rfl⟩) (hw _ (List.mem_of_getElem? (i := 2) rfl)) (ty := (.array .long)) (by decide) rfl rfl g0 d1_26 (q := 29) rfl ?_
  intro h49 W50
  have F51 := F47.same W50
  have F52 := ((F41.other W45 (Or.inr (slot_ne (Or.inr (hw _ (List.mem_of_getElem? (i := 13) rfl))) (Or.inr (hw _ (List.mem_of_getElem? (i := 15) rfl))) (by decide) (t := (.array .long)) (t' := (.array .long)) (by decide) (by decide)))).other W50 (Or.inr (slot_ne (Or.inr (hw _ (List.mem_of_getElem? (i := 13) rfl))) (Or.inr (hw _ (List.mem_of_getElem? (i := 17) rfl))) (by decide) (t := (.array .long)) (t' := (.array .long)) (by decide) (by decide))))
  have F53 := (F46.other W50 (Or.inr (slot_ne (Or.inr (hw _ (List.mem_of_getElem? (i := 15) rfl))) (Or.inr (hw _ (List.mem_of_getElem? (i := 17) rfl))) (by decide) (t := (.array .long)) (t' := (.array .long)) (by decide) (by decide))))
  have F54 := (((F25.other W40 (Ne.symm ne30)).other W45 (Ne.symm ne30)).other W50 (Ne.symm ne30))
  exact Go.retV C d1_29 (by decide) (by decide) ⟨rfl, a2, a20, (((((((Keep.refl h0 [a]).ext E5).wr W16 (Or.inl (List.mem_of_getElem? (i := 0) rfl))).ext E23).wr W40 (Or.inl (List.mem_of_getElem? (i := 0) rfl))).wr W45 (Or.inl (List.mem_of_getElem? (i := 0) rfl))).wr W50 (Or.inl (List.mem_of_getElem? (i := 0) rfl))), g27, y28, F52, F53, F51, F54, trivial⟩
def f_adm2 (fl f1 f2 : Nat → Int64) (t u : Int64) : Int32 := (if (fl 0) < (((f1 0) * t) + ((f2 0) * u)) then (0 : Int32) else (if (fl 1) < (((f1 1) * t) + ((f2 1) * u)) then (0 : Int32) else (1 : Int32)))
set_option maxRecDepth 65536 in
theorem c_f_adm2 (l : Launch) (Z : State) (a0 : Array Value) (hw : ∀ d ∈ tables_1, d.before a0 Z = true) (a : Addr) (t : Int64) (u : Int64) (h0 : Heap) (n0 : Nat) (li x y : Addr) (fl f1 f2 : Nat → Int64) (Z0 : n0 ≤ h0.size) (G_li : Fld Z h0 a "com/example/paretoloom/paretoloom/knapsack/Region" "limits" "[J" (.ref li)) (G_x : Fld Z h0 a "com/example/paretoloom/paretoloom/knapsack/Region" "firstWeights" "[J" (.ref x)) (G_y : Fld Z h0 a "com/example/paretoloom/paretoloom/knapsack/Region" "secondWeights" "[J" (.ref y)) (A_li : Av Z h0 li .long 2 (jF fl)) (A_x : Av Z h0 x .long 2 (jF f1)) (A_y : Av Z h0 y .long 2 (jF f2)) : Met1 l Z (⟨"com/example/paretoloom/paretoloom/knapsack/Region", "admits", "(JJ)Z"⟩ : MethodName) prog_45_method_2_code 6 (some .boolean) [] ({ frames := 0, cells := 0, slots := 0, locals := 0 } : Room) #[(.ref a), (.long t), (.long u)] h0 n0 (Ret (.int (f_adm2 fl f1 f2 t u)) h0) := by
  refine met_of_go (plainFor_of_name pn_com_example_paretoloom_paretoloom_knapsack_Region) (fun m => ef_3 m a t u) ?_
  intro W hl C
  subst hl
  refine Go.iconst C (0 : Int32) d3_0 (q := 1) rfl rfl ?_
  refine Go.istoreR C d3_1 (q := 3) rfl (l' := #[.val (.ref a), .val (.long t), .second, .val (.long u), .second, .val (.int (0 : Int32))]) rfl ?_
  refine Go.iload C d3_3 (q := 5) rfl rfl ?_
  refine Go.aloadN C d3_5 (q := 6) rfl rfl rfl ?_
  refine Go.getF C (host := "") (Or.inl (hw _ (List.mem_of_getElem? (i := 12) rfl))) Via.refl G_li d3_6 (q := 9) rfl ?_
  refine Go.alen C A_li d3_9 (q := 10) rfl ?_
  show Go W n0 (Ret (.int (f_adm2 fl f1 f2 t u)) h0) h0 0 0 10 #[.val (.ref a), .val (.long t), .second, .val (.long u), .second, .val (.int (0 : Int32))] [(.int (2 : Int32)), (.int (0 : Int32))]
  refine Go.icmp C d3_10 (n_ge _ _) (qt := 51) (q := 13) (by decide) (by decide) rfl (fun b1 => absurd b1 (by decide)) (fun _ => ?_)
  refine Go.aloadN C d3_13 (q := 14) rfl rfl rfl ?_
  refine Go.getF C (host := "") (Or.inl (hw _ (List.mem_of_getElem? (i := 14) rfl))) Via.refl G_x d3_14 (q := 17) rfl ?_
  refine Go.iload C d3_17 (q := 19) rfl rfl ?_
  refine Go.laload C A_x 0 (v := (.long (f1 0))) (by decide) (by decide) (by decide) rfl d3_19 (q := 20) rfl ?_
  refine Go.lloadN C d3_20 (q := 21) rfl rfl ?_
  refine Go.lmul C d3_21 (q := 22) rfl ?_
  refine Go.aloadN C d3_22 (q := 23) rfl rfl rfl ?_
  refine Go.getF C (host := "") (Or.inl (hw _ (List.mem_of_getElem? (i := 16) rfl))) Via.refl G_y d3_23 (q := 26) rfl ?_
  refine Go.iload C d3_26 (q := 28) rfl rfl ?_
  refine Go.laload C A_y 0 (v := (.long (f2 0))) (by decide) (by decide) (by decide) rfl d3_28 (q := 29) rfl ?_
  refine Go.lloadN C d3_29 (q := 30) rfl rfl ?_
  refine Go.lmul C d3_30 (q := 31) rfl ?_
  refine Go.ladd C d3_31 (q := 32) rfl ?_
  refine Go.aloadN C d3_32 (q := 33) rfl rfl rfl ?_
  refine Go.getF C (host := "") (Or.inl (hw _ (List.mem_of_getElem? (i := 12) rfl))) Via.refl G_li d3_33 (q := 36) rfl ?_
  refine Go.iload C d3_36 (q := 38) rfl rfl ?_
  refine Go.laload C A_li 0 (v := (.long (fl 0))) (by decide) (by decide) (by decide) rfl d3_38 (q := 39) rfl ?_
  refine Go.lcmp C d3_39 (q := 40) rfl ?_
  refine Go.if0 C d3_40 (l_le _ _) (qt := 45) (q := 43) (by decide) (by decide) rfl (fun b2 => ?_) (fun b2 => ?_)
  ·
    refine Go.iincR C d3_45 (q := 48) rfl rfl (l' := #[.val (.ref a), .val (.long t), .second, .val (.long u), .second, .val (.int (1 : Int32))]) rfl ?_
    refine Go.goto C d3_48 (q := 3) (by decide) (by decide) ?_
    refine Go.iload C d3_3 (q := 5) rfl rfl ?_
    refine Go.aloadN C d3_5 (q := 6) rfl rfl rfl ?_
    refine Go.getF C (host := "") (Or.inl (hw _ (List.mem_of_getElem? (i := 12) rfl))) Via.refl G_li d3_6 (q := 9) rfl ?_
    refine Go.alen C A_li d3_9 (q := 10) rfl ?_
    show Go W n0 (Ret (.int (f_adm2 fl f1 f2 t u)) h0) h0 0 0 10 #[.val (.ref a), .val (.long t), .second, .val (.long u), .second, .val (.int (1 : Int32))] [(.int (2 : Int32)), (.int (1 : Int32))]
    refine Go.icmp C d3_10 (n_ge _ _) (qt := 51) (q := 13) (by decide) (by decide) rfl (fun b3 => absurd b3 (by decide)) (fun _ => ?_)
    refine Go.aloadN C d3_13 (q := 14) rfl rfl rfl ?_
    refine Go.getF C (host := "") (Or.inl (hw _ (List.mem_of_getElem? (i := 14) rfl))) Via.refl G_x d3_14 (q := 17) rfl ?_
    refine Go.iload C d3_17 (q := 19) rfl rfl ?_
    refine Go.laload C A_x 1 (v := (.long (f1 1))) (by decide) (by decide) (by decide) rfl d3_19 (q := 20) rfl ?_
    refine Go.lloadN C d3_20 (q := 21) rfl rfl ?_
    refine Go.lmul C d3_21 (q := 22) rfl ?_
    refine Go.aloadN C d3_22 (q := 23) rfl rfl rfl ?_
    refine Go.getF C (host := "") (Or.inl (hw _ (List.mem_of_getElem? (i := 16) rfl))) Via.refl G_y d3_23 (q := 26) rfl ?_
    refine Go.iload C d3_26 (q := 28) rfl rfl ?_
    refine Go.laload C A_y 1 (v := (.long (f2 1))) (by decide) (by decide) (by decide) rfl d3_28 (q := 29) rfl ?_
    refine Go.lloadN C d3_29 (q := 30) rfl rfl ?_
    refine Go.lmul C d3_30 (q := 31) rfl ?_
    refine Go.ladd C d3_31 (q := 32) rfl ?_
    refine Go.aloadN C d3_32 (q := 33) rfl rfl rfl ?_
    refine Go.getF C (host := "") (Or.inl (hw _ (List.mem_of_getElem? (i := 12) rfl))) Via.refl G_li d3_33 (q := 36) rfl ?_
    refine Go.iload C d3_36 (q := 38) rfl rfl ?_
    refine Go.laload C A_li 1 (v := (.long (fl 1))) (by decide) (by decide) (by decide) rfl d3_38 (q := 39) rfl ?_
    refine Go.lcmp C d3_39 (q := 40) rfl ?_
    refine Go.if0 C d3_40 (l_le _ _) (qt := 45) (q := 43) (by decide) (by decide) rfl (fun b4 => ?_) (fun b4 => ?_)
    ·
      refine Go.iincR C d3_45 (q := 48) rfl rfl (l' := #[.val (.ref a), .val (.long t), .second, .val (.long u), .second, .val (.int (2 : Int32))]) rfl ?_
      refine Go.goto C d3_48 (q := 3) (by decide) (by decide) ?_
      refine Go.iload C d3_3 (q := 5) rfl rfl ?_
      refine Go.aloadN C d3_5 (q := 6) rfl rfl rfl ?_
      refine Go.getF C (host := "") (Or.inl (hw _ (List.mem_of_getElem? (i := 12) rfl))) Via.refl G_li d3_6 (q := 9) rfl ?_
      refine Go.alen C A_li d3_9 (q := 10) rfl ?_
      show Go W n0 (Ret (.int (f_adm2 fl f1 f2 t u)) h0) h0 0 0 10 #[.val (.ref a), .val (.long t), .second, .val (.long u), .second, .val (.int (2 : Int32))] [(.int (2 : Int32)), (.int (2 : Int32))]
      refine Go.icmp C d3_10 (n_ge _ _) (qt := 51) (q := 13) (by decide) (by decide) rfl (fun _ => ?_) (fun b5 => absurd b5 (by decide))
      refine Go.iconst C (1 : Int32) d3_51 (q := 52) rfl rfl ?_
      refine Go.retZ (t := .boolean) (by simp) C d3_52 (by decide) (by decide) ⟨?_, rfl⟩
      refine congrArg (fun z => some (Value.int z)) ?_
      show (1 : Int32) = f_adm2 fl f1 f2 t u
      unfold f_adm2
      rw [if_neg b2, if_neg b4]
    ·
      have b4 := Classical.not_not.mp b4
      refine Go.iconst C (0 : Int32) d3_43 (q := 44) rfl rfl ?_
      refine Go.retZ (t := .boolean) (by simp) C d3_44 (by decide) (by decide) ⟨?_, rfl⟩
      refine congrArg (fun z => some (Value.int z)) ?_
      show (0 : Int32) = f_adm2 fl f1 f2 t u
      unfold f_adm2
      rw [if_neg b2, if_pos b4]
  ·
    have b2 := Classical.not_not.mp b2
    refine Go.iconst C (0 : Int32) d3_43 (q := 44) rfl rfl ?_
    refine Go.retZ (t := .boolean) (by simp) C d3_44 (by decide) (by decide) ⟨?_, rfl⟩
    refine congrArg (fun z => some (Value.int z)) ?_
    show (0 : Int32) = f_adm2 fl f1 f2 t u
    unfold f_adm2
    rw [if_pos b2]
theorem own_n3 (p v : Int32) (h : v = ((p &&& (3 : Int32)) % (3 : Int32))) : v = 0 ∨ v = 1 ∨ v = 2 := by
  have e := c_mask p 3 2 (by decide) (by decide)
  have f := (c_irem (p &&& (3 : Int32)) 3 3 rfl).1 (by omega)
  rw [← h] at f
  have e0 : (0 : Int32).toInt = 0 := rfl
  have e1 : (1 : Int32).toInt = 1 := rfl
  have e2 : (2 : Int32).toInt = 2 := rfl
  simp only [← Int32.toInt_inj]
  omega
theorem fin0 (p0 : Int64) (p1 : Int64) (p2 : Int64) (p3 : Int64) (p4 : Int32) (p5 : Int32) (hv1 : (0 : Int32) = ((p5 &&& (3 : Int32)) % (3 : Int32))) (v2 : Int64) (hv2 : v2 = ((p4 &&& (255 : Int32)) + (1 : Int32)).toInt64) (v3 : Int64) (hv3 : v3 = ((((p4.toUInt32 >>> ((8 : Int32) &&& 31).toUInt32).toInt32) &&& (255 : Int32)) + (1 : Int32)).toInt64) (v4 : Int64) (hv4 : v4 = ((((p4.toUInt32 >>> ((16 : Int32) &&& 31).toUInt32).toInt32) &&& (255 : Int32)) + (1 : Int32)).toInt64) (v5 : Int64) (hv5 : v5 = ((((p4.toUInt32 >>> ((24 : Int32) &&& 31).toUInt32).toInt32) &&& (255 : Int32)) + (1 : Int32)).toInt64) (v6 : Int64) (hv6 : v6 = (p2 >>> ((23 : Int32) &&& 0x3f).toInt64)) (v7 : Int64) (hv7 : v7 = (p3 >>> ((23 : Int32) &&& 0x3f).toInt64)) (b68 : ¬ (f_adm0 (fun _ => (0 : Int64)) (fun _ => (0 : Int64)) (fun _ => (0 : Int64)) v6 v7) = (1 : Int32)) : False := by
  exact b68 rfl
theorem fin1 (p0 : Int64) (p1 : Int64) (p2 : Int64) (p3 : Int64) (p4 : Int32) (p5 : Int32) (hv1 : (1 : Int32) = ((p5 &&& (3 : Int32)) % (3 : Int32))) (v2 : Int64) (hv2 : v2 = ((p4 &&& (255 : Int32)) + (1 : Int32)).toInt64) (v3 : Int64) (hv3 : v3 = ((((p4.toUInt32 >>> ((8 : Int32) &&& 31).toUInt32).toInt32) &&& (255 : Int32)) + (1 : Int32)).toInt64) (v4 : Int64) (hv4 : v4 = ((((p4.toUInt32 >>> ((16 : Int32) &&& 31).toUInt32).toInt32) &&& (255 : Int32)) + (1 : Int32)).toInt64) (v5 : Int64) (hv5 : v5 = ((((p4.toUInt32 >>> ((24 : Int32) &&& 31).toUInt32).toInt32) &&& (255 : Int32)) + (1 : Int32)).toInt64) (v6 : Int64) (hv6 : v6 = (p2 >>> ((23 : Int32) &&& 0x3f).toInt64)) (v7 : Int64) (hv7 : v7 = (p3 >>> ((23 : Int32) &&& 0x3f).toInt64)) (v132 : Int32) (hv132 : v132 = (if p0 < ((v2 * v6) + (v3 * v7)) then (0 : Int32) else (1 : Int32))) (v136 : Int32) (hv136 : v136 = (if v132 = (0 : Int32) then (0 : Int32) else (1 : Int32))) (b147 : ¬ (f_adm1 (upd (fun _ => (0 : Int64)) 0 p0) (upd (fun _ => (0 : Int64)) 0 v2) (upd (fun _ => (0 : Int64)) 0 v3) v6 v7) = v136) : False := by
  apply b147
  subst hv136 hv132
  show (if p0 < ((v2 * v6) + (v3 * v7)) then (0 : Int32) else (1 : Int32)) = _
  split <;> rfl
theorem fin2 (p0 : Int64) (p1 : Int64) (p2 : Int64) (p3 : Int64) (p4 : Int32) (p5 : Int32) (hv1 : (2 : Int32) = ((p5 &&& (3 : Int32)) % (3 : Int32))) (v2 : Int64) (hv2 : v2 = ((p4 &&& (255 : Int32)) + (1 : Int32)).toInt64) (v3 : Int64) (hv3 : v3 = ((((p4.toUInt32 >>> ((8 : Int32) &&& 31).toUInt32).toInt32) &&& (255 : Int32)) + (1 : Int32)).toInt64) (v4 : Int64) (hv4 : v4 = ((((p4.toUInt32 >>> ((16 : Int32) &&& 31).toUInt32).toInt32) &&& (255 : Int32)) + (1 : Int32)).toInt64) (v5 : Int64) (hv5 : v5 = ((((p4.toUInt32 >>> ((24 : Int32) &&& 31).toUInt32).toInt32) &&& (255 : Int32)) + (1 : Int32)).toInt64) (v6 : Int64) (hv6 : v6 = (p2 >>> ((23 : Int32) &&& 0x3f).toInt64)) (v7 : Int64) (hv7 : v7 = (p3 >>> ((23 : Int32) &&& 0x3f).toInt64)) (v221 : Int32) (hv221 : v221 = (if p0 < ((v2 * v6) + (v3 * v7)) then (0 : Int32) else (1 : Int32))) (v225 : Int32) (hv225 : v225 = (if p1 < ((v4 * v6) + (v5 * v7)) then (0 : Int32) else (1 : Int32))) (v228 : Int32) (hv228 : v228 = (if v221 = (0 : Int32) then (0 : Int32) else (if v225 = (0 : Int32) then (0 : Int32) else (1 : Int32)))) (b239 : ¬ (f_adm2 (upd (upd (fun _ => (0 : Int64)) 0 p0) 1 p1) (upd (upd (fun _ => (0 : Int64)) 0 v2) 1 v4) (upd (upd (fun _ => (0 : Int64)) 0 v3) 1 v5) v6 v7) = v228) : False := by
  apply b239
  subst hv228 hv221 hv225
  show (if p0 < ((v2 * v6) + (v3 * v7)) then (0 : Int32) else (if p1 < ((v4 * v6) + (v5 * v7)) then (0 : Int32) else (1 : Int32))) = _
  split
  · rfl
  · split <;> rfl
set_option maxRecDepth 65536 in
set_option maxHeartbeats 4000000 in
theorem rm0 (l : Launch) (Z : State) (a0 : Array Value) (hw : ∀ d ∈ tables_1, d.before a0 Z = true) (p0 : Int64) (p1 : Int64) (p2 : Int64) (p3 : Int64) (p4 : Int32) (p5 : Int32) (h0 : Heap) (n0 : Nat) (Z0 : n0 ≤ h0.size) : Met1 l Z x code maxLocals ret tables_1 room_1 #[(.long p0), (.long p1), (.long p2), (.long p3), (.int p4), (.int p5)] h0 n0 QL := by
  refine met_of_go (plainFor_of_name pn_com_example_paretoloom_paretoloom_knapsack_RegionAdmitsPinLaw) (fun m => ef_0 m p0 p1 p2 p3 p4 p5) ?_
  intro W hl C
  subst hl
  refine Go.iload C at_0 (q := 2) rfl rfl ?_
  refine Go.iconst C (3 : Int32) at_2 (q := 3) rfl rfl ?_
  refine Go.iand C at_3 (q := 4) rfl ?_
  refine Go.iconst C (3 : Int32) at_4 (q := 5) rfl rfl ?_
  refine Go.irem C at_5 (q := 6) rfl (by decide) ?_
  refine Go.istore C at_6 (q := 8) rfl (fun z => #[.val (.long p0), .second, .val (.long p1), .second, .val (.long p2), .second, .val (.long p3), .second, .val (.int p4), .val (.int p5), .val (.int z), .unset, .unset, .unset, .unset, .unset, .unset, .unset, .unset, .unset, .unset, .unset, .unset, .unset, .unset, .unset, .unset, .unset, .unset]) (fun _ => rfl) ?_
  intro v1 hv1
  refine Go.iload C at_8 (q := 10) rfl rfl ?_
  refine Go.sipush C (255 : Int32) at_10 (q := 13) rfl rfl ?_
  refine Go.iand C at_13 (q := 14) rfl ?_
  refine Go.iconst C (1 : Int32) at_14 (q := 15) rfl rfl ?_
  refine Go.iadd C at_15 (q := 16) rfl ?_
  refine Go.i2l C at_16 (q := 17) rfl ?_
  refine Go.lstore C at_17 (q := 19) rfl (fun z => #[.val (.long p0), .second, .val (.long p1), .second, .val (.long p2), .second, .val (.long p3), .second, .val (.int p4), .val (.int p5), .val (.int v1), .val (.long z), .second, .unset, .unset, .unset, .unset, .unset, .unset, .unset, .unset, .unset, .unset, .unset, .unset, .unset, .unset, .unset, .unset]) (fun _ => rfl) ?_
  intro v2 hv2
  refine Go.iload C at_19 (q := 21) rfl rfl ?_
  refine Go.bipush C (8 : Int32) at_21 (q := 23) rfl rfl ?_
  refine Go.iushr C at_23 (q := 24) rfl ?_
  refine Go.sipush C (255 : Int32) at_24 (q := 27) rfl rfl ?_
  refine Go.iand C at_27 (q := 28) rfl ?_
  refine Go.iconst C (1 : Int32) at_28 (q := 29) rfl rfl ?_
  refine Go.iadd C at_29 (q := 30) rfl ?_
  refine Go.i2l C at_30 (q := 31) rfl ?_
  refine Go.lstore C at_31 (q := 33) rfl (fun z => #[.val (.long p0), .second, .val (.long p1), .second, .val (.long p2), .second, .val (.long p3), .second, .val (.int p4), .val (.int p5), .val (.int v1), .val (.long v2), .second, .val (.long z), .second, .unset, .unset, .unset, .unset, .unset, .unset, .unset, .unset, .unset, .unset, .unset, .unset, .unset, .unset]) (fun _ => rfl) ?_
  intro v3 hv3
  refine Go.iload C at_33 (q := 35) rfl rfl ?_
  refine Go.bipush C (16 : Int32) at_35 (q := 37) rfl rfl ?_
  refine Go.iushr C at_37 (q := 38) rfl ?_
  refine Go.sipush C (255 : Int32) at_38 (q := 41) rfl rfl ?_
  refine Go.iand C at_41 (q := 42) rfl ?_
  refine Go.iconst C (1 : Int32) at_42 (q := 43) rfl rfl ?_
  refine Go.iadd C at_43 (q := 44) rfl ?_
  refine Go.i2l C at_44 (q := 45) rfl ?_
  refine Go.lstore C at_45 (q := 47) rfl (fun z => #[.val (.long p0), .second, .val (.long p1), .second, .val (.long p2), .second, .val (.long p3), .second, .val (.int p4), .val (.int p5), .val (.int v1), .val (.long v2), .second, .val (.long v3), .second, .val (.long z), .second, .unset, .unset, .unset, .unset, .unset, .unset, .unset, .unset, .unset, .unset, .unset, .unset]) (fun _ => rfl) ?_
  intro v4 hv4
  refine Go.iload C at_47 (q := 49) rfl rfl ?_
  refine Go.bipush C (24 : Int32) at_49 (q := 51) rfl rfl ?_
  refine Go.iushr C at_51 (q := 52) rfl ?_
  refine Go.sipush C (255 : Int32) at_52 (q := 55) rfl rfl ?_
  refine Go.iand C at_55 (q := 56) rfl ?_
  refine Go.iconst C (1 : Int32) at_56 (q := 57) rfl rfl ?_
  refine Go.iadd C at_57 (q := 58) rfl ?_
  refine Go.i2l C at_58 (q := 59) rfl ?_
  refine Go.lstore C at_59 (q := 61) rfl (fun z => #[.val (.long p0), .second, .val (.long p1), .second, .val (.long p2), .second, .val (.long p3), .second, .val (.int p4), .val (.int p5), .val (.int v1), .val (.long v2), .second, .val (.long v3), .second, .val (.long v4), .second, .val (.long z), .second, .unset, .unset, .unset, .unset, .unset, .unset, .unset, .unset, .unset, .unset]) (fun _ => rfl) ?_
  intro v5 hv5
  refine Go.lload C at_61 (q := 63) rfl rfl ?_
  refine Go.bipush C (23 : Int32) at_63 (q := 65) rfl rfl ?_
  refine Go.lshr C at_65 (q := 66) rfl ?_
  refine Go.lstore C at_66 (q := 68) rfl (fun z => #[.val (.long p0), .second, .val (.long p1), .second, .val (.long p2), .second, .val (.long p3), .second, .val (.int p4), .val (.int p5), .val (.int v1), .val (.long v2), .second, .val (.long v3), .second, .val (.long v4), .second, .val (.long v5), .second, .val (.long z), .second, .unset, .unset, .unset, .unset, .unset, .unset, .unset, .unset]) (fun _ => rfl) ?_
  intro v6 hv6
  refine Go.lload C at_68 (q := 70) rfl rfl ?_
  refine Go.bipush C (23 : Int32) at_70 (q := 72) rfl rfl ?_
  refine Go.lshr C at_72 (q := 73) rfl ?_
  refine Go.lstore C at_73 (q := 75) rfl (fun z => #[.val (.long p0), .second, .val (.long p1), .second, .val (.long p2), .second, .val (.long p3), .second, .val (.int p4), .val (.int p5), .val (.int v1), .val (.long v2), .second, .val (.long v3), .second, .val (.long v4), .second, .val (.long v5), .second, .val (.long v6), .second, .val (.long z), .second, .unset, .unset, .unset, .unset, .unset, .unset]) (fun _ => rfl) ?_
  intro v7 hv7
  rcases (own_n3 p5 v1 hv1) with rfl | rfl | rfl
  ·
    refine Go.iload C at_75 (q := 77) rfl rfl ?_
    refine Go.if0 C at_77 (z_ne _) (qt := 93) (q := 80) (by decide) (by decide) rfl (fun b8 => absurd b8 (by decide)) (fun _ => ?_)
    refine Go.iconst C (0 : Int32) at_80 (q := 81) rfl rfl ?_
    refine Go.newP C (hw _ (List.mem_of_getElem? (i := 0) rfl)) (by decide) (cap := 0) (by decide) (by decide) at_81 (q := 83) rfl (k' := 1) rfl (n' := 0) rfl (by decide) (by decide) ?_
    intro h9 a10 cA11 g12 E13 Fn14
    have g16 : n0 ≤ a10 := g12 ▸ Z0
    have F15 : Av Z h9 a10 .long 0 (jF (fun _ => (0 : Int64))) := Av.of Fn14
    refine Go.astore C at_83 (q := 85) rfl (l' := #[.val (.long p0), .second, .val (.long p1), .second, .val (.long p2), .second, .val (.long p3), .second, .val (.int p4), .val (.int p5), .val (.int (0 : Int32)), .val (.long v2), .second, .val (.long v3), .second, .val (.long v4), .second, .val (.long v5), .second, .val (.long v6), .second, .val (.long v7), .second, .val (.ref a10), .unset, .unset, .unset, .unset, .unset]) rfl rfl ?_
    refine Go.iconst C (0 : Int32) at_85 (q := 86) rfl rfl ?_
    refine Go.newP C (hw _ (List.mem_of_getElem? (i := 0) rfl)) (by decide) (cap := 0) (by decide) (by decide) at_86 (q := 88) rfl (k' := 2) rfl (n' := 0) rfl (by decide) (by decide) ?_
    intro h17 a18 cA19 g20 E21 Fn22
    have F24 := (Nat.le_trans Z0 E13.1)
    have g25 : n0 ≤ a18 := g20 ▸ F24
    have ne26 : a10 ≠ a18 := Nat.ne_of_lt (g20 ▸ F15.lt)
    have F23 : Av Z h17 a18 .long 0 (jF (fun _ => (0 : Int64))) := Av.of Fn22
    refine Go.astore C at_88 (q := 90) rfl (l' := #[.val (.long p0), .second, .val (.long p1), .second, .val (.long p2), .second, .val (.long p3), .second, .val (.int p4), .val (.int p5), .val (.int (0 : Int32)), .val (.long v2), .second, .val (.long v3), .second, .val (.long v4), .second, .val (.long v5), .second, .val (.long v6), .second, .val (.long v7), .second, .val (.ref a10), .val (.ref a18), .unset, .unset, .unset, .unset]) rfl rfl ?_
    refine Go.goto C at_90 (q := 152) (by decide) (by decide) ?_
    refine Go.newO C (hw _ (List.mem_of_getElem? (i := 1) rfl)) (hw _ (List.mem_of_getElem? (i := 2) rfl)) (hw _ (List.mem_of_getElem? (i := 3) rfl)) at_152 (q := 155) rfl (k' := 3) rfl (n' := 4) rfl (by decide) (by decide) ?_
    intro h27 a28 g29 E30 A31 D32
    have F33 := (Nat.le_trans F24 E21.1)
    have g34 : n0 ≤ a28 := g29 ▸ F33
    have F36 := (F15.ext E21)
    have ne35 : a10 ≠ a28 := Nat.ne_of_lt (g29 ▸ F36.lt)
    have ne37 : a18 ≠ a28 := Nat.ne_of_lt (g29 ▸ F23.lt)
    have F38 : Fld Z h27 a28 "com/example/paretoloom/paretoloom/knapsack/Region" "upper" "[J" .null := D32 (Or.inr (hw _ (List.mem_of_getElem? (i := 11) rfl))) (ty := (.array .long)) (by decide)
    have F39 : Fld Z h27 a28 "com/example/paretoloom/paretoloom/knapsack/Region" "limits" "[J" .null := D32 (Or.inr (hw _ (List.mem_of_getElem? (i := 13) rfl))) (ty := (.array .long)) (by decide)
    have F40 : Fld Z h27 a28 "com/example/paretoloom/paretoloom/knapsack/Region" "firstWeights" "[J" .null := D32 (Or.inr (hw _ (List.mem_of_getElem? (i := 15) rfl))) (ty := (.array .long)) (by decide)
    have F41 : Fld Z h27 a28 "com/example/paretoloom/paretoloom/knapsack/Region" "secondWeights" "[J" .null := D32 (Or.inr (hw _ (List.mem_of_getElem? (i := 17) rfl))) (ty := (.array .long)) (by decide)
    refine Go.dup C at_155 (q := 156) rfl rfl ?_
    refine Go.iconst C (2 : Int32) at_156 (q := 157) rfl rfl ?_
    refine Go.aload C at_157 (q := 159) rfl rfl rfl ?_
    refine Go.aload C at_159 (q := 161) rfl rfl rfl ?_
    have F42 := (F36.ext E30)
    have F43 := (F23.ext E30)
    have F44 := (Nat.le_trans F33 E30.1)
    refine Go.callC C rfl (hw _ (List.mem_of_getElem? (i := 4) rfl)) (hw _ (List.mem_of_getElem? (i := 5) rfl)) (hw _ (List.mem_of_getElem? (i := 3) rfl)) (hw _ (List.mem_of_getElem? (i := 6) rfl)) (c_init0 W.l Z a0 hw a28 a10 a18 h27 n0 (fun _ => (0 : Int64)) (fun _ => (0 : Int64)) F44 A31 g34 F38 F39 F40 F41 F42 F43 ne35 ne37) at_161 pd__40I_91J_91J_41V (q := 164) rfl rfl (argsL := [(.int (2 : Int32)), (.ref a10), (.ref a18)]) (st := [(.ref a28)]) rfl rfl (w := 1) rfl (by decide) (by decide) (k' := 5) rfl (n' := 6) rfl (by decide) (by decide) ?_
    intro v h45 q
    obtain ⟨rfl, a47, a48, K46, g49, y50, F51, F52, F53, F54, -⟩ := q
    have ne55 : a10 ≠ a48 := Nat.ne_of_lt (Nat.lt_of_lt_of_le F42.lt y50)
    have ne56 : a18 ≠ a48 := Nat.ne_of_lt (Nat.lt_of_lt_of_le F43.lt y50)
    have ne57 : a28 ≠ a48 := Nat.ne_of_lt (Nat.lt_of_lt_of_le A31.lt y50)
    show Go W n0 QL h45 5 6 164 #[.val (.long p0), .second, .val (.long p1), .second, .val (.long p2), .second, .val (.long p3), .second, .val (.int p4), .val (.int p5), .val (.int (0 : Int32)), .val (.long v2), .second, .val (.long v3), .second, .val (.long v4), .second, .val (.long v5), .second, .val (.long v6), .second, .val (.long v7), .second, .val (.ref a10), .val (.ref a18), .unset, .unset, .unset, .unset] [(.ref a28)]
    refine Go.astore C at_164 (q := 166) rfl (l' := #[.val (.long p0), .second, .val (.long p1), .second, .val (.long p2), .second, .val (.long p3), .second, .val (.int p4), .val (.int p5), .val (.int (0 : Int32)), .val (.long v2), .second, .val (.long v3), .second, .val (.long v4), .second, .val (.long v5), .second, .val (.long v6), .second, .val (.long v7), .second, .val (.ref a10), .val (.ref a18), .val (.ref a28), .unset, .unset, .unset]) rfl rfl ?_
    refine Go.iload C at_166 (q := 168) rfl rfl ?_
    refine Go.iconst C (1 : Int32) at_168 (q := 169) rfl rfl ?_
    refine Go.icmp C at_169 (n_lt _ _) (qt := 180) (q := 172) (by decide) (by decide) rfl (fun _ => ?_) (fun b58 => absurd b58 (by decide))
    refine Go.iload C at_180 (q := 182) rfl rfl ?_
    refine Go.iconst C (2 : Int32) at_182 (q := 183) rfl rfl ?_
    refine Go.icmp C at_183 (n_lt _ _) (qt := 194) (q := 186) (by decide) (by decide) rfl (fun _ => ?_) (fun b59 => absurd b59 (by decide))
    refine Go.iload C at_194 (q := 196) rfl rfl ?_
    refine Go.iconst C (1 : Int32) at_196 (q := 197) rfl rfl ?_
    refine Go.icmp C at_197 (n_lt _ _) (qt := 216) (q := 200) (by decide) (by decide) rfl (fun _ => ?_) (fun b60 => absurd b60 (by decide))
    refine Go.iconst C (1 : Int32) at_216 (q := 217) rfl rfl ?_
    refine Go.goto C at_217 (q := 221) (by decide) (by decide) ?_
    refine Go.istoreR C at_221 (q := 223) rfl (l' := #[.val (.long p0), .second, .val (.long p1), .second, .val (.long p2), .second, .val (.long p3), .second, .val (.int p4), .val (.int p5), .val (.int (0 : Int32)), .val (.long v2), .second, .val (.long v3), .second, .val (.long v4), .second, .val (.long v5), .second, .val (.long v6), .second, .val (.long v7), .second, .val (.ref a10), .val (.ref a18), .val (.ref a28), .val (.int (1 : Int32)), .unset, .unset]) rfl ?_
    refine Go.iload C at_223 (q := 225) rfl rfl ?_
    refine Go.iconst C (2 : Int32) at_225 (q := 226) rfl rfl ?_
    refine Go.icmp C at_226 (n_lt _ _) (qt := 245) (q := 229) (by decide) (by decide) rfl (fun _ => ?_) (fun b61 => absurd b61 (by decide))
    refine Go.iconst C (1 : Int32) at_245 (q := 246) rfl rfl ?_
    refine Go.goto C at_246 (q := 250) (by decide) (by decide) ?_
    refine Go.istoreR C at_250 (q := 252) rfl (l' := #[.val (.long p0), .second, .val (.long p1), .second, .val (.long p2), .second, .val (.long p3), .second, .val (.int p4), .val (.int p5), .val (.int (0 : Int32)), .val (.long v2), .second, .val (.long v3), .second, .val (.long v4), .second, .val (.long v5), .second, .val (.long v6), .second, .val (.long v7), .second, .val (.ref a10), .val (.ref a18), .val (.ref a28), .val (.int (1 : Int32)), .val (.int (1 : Int32)), .unset]) rfl ?_
    refine Go.iload C at_252 (q := 254) rfl rfl ?_
    refine Go.if0 C at_254 (z_eq _) (qt := 266) (q := 257) (by decide) (by decide) rfl (fun b62 => absurd b62 (by decide)) (fun _ => ?_)
    refine Go.iload C at_257 (q := 259) rfl rfl ?_
    refine Go.if0 C at_259 (z_eq _) (qt := 266) (q := 262) (by decide) (by decide) rfl (fun b63 => absurd b63 (by decide)) (fun _ => ?_)
    refine Go.iconst C (1 : Int32) at_262 (q := 263) rfl rfl ?_
    refine Go.goto C at_263 (q := 267) (by decide) (by decide) ?_
    refine Go.istoreR C at_267 (q := 269) rfl (l' := #[.val (.long p0), .second, .val (.long p1), .second, .val (.long p2), .second, .val (.long p3), .second, .val (.int p4), .val (.int p5), .val (.int (0 : Int32)), .val (.long v2), .second, .val (.long v3), .second, .val (.long v4), .second, .val (.long v5), .second, .val (.long v6), .second, .val (.long v7), .second, .val (.ref a10), .val (.ref a18), .val (.ref a28), .val (.int (1 : Int32)), .val (.int (1 : Int32)), .val (.int (1 : Int32))]) rfl ?_
    refine Go.aload C at_269 (q := 271) rfl rfl rfl ?_
    refine Go.lload C at_271 (q := 273) rfl rfl ?_
    refine Go.lload C at_273 (q := 275) rfl rfl ?_
    have F64 := (A31.keep K46)
    have F65 := (Nat.le_trans F44 K46.1)
    have F66 := (F42.keep K46 (ninS ne35 nin0))
    have F67 := (F43.keep K46 (ninS ne37 nin0))
    refine Go.pureV C F64 (hw _ (List.mem_of_getElem? (i := 18) rfl)) (hw _ (List.mem_of_getElem? (i := 19) rfl)) (hw _ (List.mem_of_getElem? (i := 21) rfl)) (hw _ (List.mem_of_getElem? (i := 20) rfl)) (hw _ (List.mem_of_getElem? (i := 3) rfl)) (hw _ (List.mem_of_getElem? (i := 22) rfl)) (c_f_adm0 W.l Z a0 hw a28 v6 v7 h45 n0 a48 a10 a18 (fun _ => (0 : Int64)) (fun _ => (0 : Int64)) (fun _ => (0 : Int64)) F65 F51 F52 F53 F54 F66 F67) at_275 pd__40JJ_41Z (q := 278) rfl rfl (argsL := [(.long v6), (.long v7)]) (st := []) rfl rfl (w := 0) rfl (by decide) (by decide) (by decide) (by decide) ?_
    refine Go.iload C at_278 (q := 280) rfl rfl ?_
    refine Go.icmp C at_280 (n_ne _ _) (qt := 287) (q := 283) (by decide) (by decide) rfl (fun b68 => ?_) (fun b68 => ?_)
    ·
      refine Go.iconst C (0 : Int32) at_287 (q := 288) rfl rfl ?_
      exact (fin0 p0 p1 p2 p3 p4 p5  hv1 v2 hv2 v3 hv3 v4 hv4 v5 hv5 v6 hv6 v7 hv7  b68).elim
    ·
      have b68 := Classical.not_not.mp b68
      refine Go.iconst C (1 : Int32) at_283 (q := 284) rfl rfl ?_
      refine Go.goto C at_284 (q := 288) (by decide) (by decide) ?_
      exact Go.retZ (t := .boolean) (by simp) C at_288 (by decide) (by decide) (show some (Value.int _) = some (.int 1) from rfl)
  ·
    refine Go.iload C at_75 (q := 77) rfl rfl ?_
    refine Go.if0 C at_77 (z_ne _) (qt := 93) (q := 80) (by decide) (by decide) rfl (fun _ => ?_) (fun b69 => absurd b69 (by decide))
    refine Go.iload C at_93 (q := 95) rfl rfl ?_
    refine Go.iconst C (1 : Int32) at_95 (q := 96) rfl rfl ?_
    refine Go.icmp C at_96 (n_ne _ _) (qt := 122) (q := 99) (by decide) (by decide) rfl (fun b70 => absurd b70 (by decide)) (fun _ => ?_)
    refine Go.iconst C (1 : Int32) at_99 (q := 100) rfl rfl ?_
    refine Go.newP C (hw _ (List.mem_of_getElem? (i := 0) rfl)) (by decide) (cap := 1) (by decide) (by decide) at_100 (q := 102) rfl (k' := 1) rfl (n' := 1) rfl (by decide) (by decide) ?_
    intro h71 a72 cA73 g74 E75 Fn76
    have g78 : n0 ≤ a72 := g74 ▸ Z0
    have F77 : Av Z h71 a72 .long 1 (jF (fun _ => (0 : Int64))) := Av.of Fn76
    refine Go.dup C at_102 (q := 103) rfl rfl ?_
    refine Go.iconst C (0 : Int32) at_103 (q := 104) rfl rfl ?_
    refine Go.lload C at_104 (q := 106) rfl rfl ?_
    refine Go.lastore C F77 0 (by decide) (by decide) (by decide) g78 at_106 (q := 107) rfl ?_
    intro h79 W80
    have F81 := F77.sameJ W80
    refine Go.astore C at_107 (q := 109) rfl (l' := #[.val (.long p0), .second, .val (.long p1), .second, .val (.long p2), .second, .val (.long p3), .second, .val (.int p4), .val (.int p5), .val (.int (1 : Int32)), .val (.long v2), .second, .val (.long v3), .second, .val (.long v4), .second, .val (.long v5), .second, .val (.long v6), .second, .val (.long v7), .second, .val (.ref a72), .unset, .unset, .unset, .unset, .unset]) rfl rfl ?_
    refine Go.iconst C (1 : Int32) at_109 (q := 110) rfl rfl ?_
    refine Go.newP C (hw _ (List.mem_of_getElem? (i := 0) rfl)) (by decide) (cap := 1) (by decide) (by decide) at_110 (q := 112) rfl (k' := 2) rfl (n' := 2) rfl (by decide) (by decide) ?_
    intro h82 a83 cA84 g85 E86 Fn87
    have F89 := (Nat.le_trans (Nat.le_trans Z0 E75.1) (Nat.le_of_eq W80.size.symm))
    have g90 : n0 ≤ a83 := g85 ▸ F89
    have ne91 : a72 ≠ a83 := Nat.ne_of_lt (g85 ▸ F81.lt)
    have F88 : Av Z h82 a83 .long 1 (jF (fun _ => (0 : Int64))) := Av.of Fn87
    refine Go.dup C at_112 (q := 113) rfl rfl ?_
    refine Go.iconst C (0 : Int32) at_113 (q := 114) rfl rfl ?_
    refine Go.lload C at_114 (q := 116) rfl rfl ?_
    refine Go.lastore C F88 0 (by decide) (by decide) (by decide) g90 at_116 (q := 117) rfl ?_
    intro h92 W93
    have F94 := F88.sameJ W93
    refine Go.astore C at_117 (q := 119) rfl (l' := #[.val (.long p0), .second, .val (.long p1), .second, .val (.long p2), .second, .val (.long p3), .second, .val (.int p4), .val (.int p5), .val (.int (1 : Int32)), .val (.long v2), .second, .val (.long v3), .second, .val (.long v4), .second, .val (.long v5), .second, .val (.long v6), .second, .val (.long v7), .second, .val (.ref a72), .val (.ref a83), .unset, .unset, .unset, .unset]) rfl rfl ?_
    refine Go.goto C at_119 (q := 152) (by decide) (by decide) ?_
    refine Go.newO C (hw _ (List.mem_of_getElem? (i := 1) rfl)) (hw _ (List.mem_of_getElem? (i := 2) rfl)) (hw _ (List.mem_of_getElem? (i := 3) rfl)) at_152 (q := 155) rfl (k' := 3) rfl (n' := 6) rfl (by decide) (by decide) ?_
    intro h95 a96 g97 E98 A99 D100
    have F101 := (Nat.le_trans (Nat.le_trans F89 E86.1) (Nat.le_of_eq W93.size.symm))
    have g102 : n0 ≤ a96 := g97 ▸ F101
    have F104 := ((F81.ext E86).other W93 ne91)
    have ne103 : a72 ≠ a96 := Nat.ne_of_lt (g97 ▸ F104.lt)
    have ne105 : a83 ≠ a96 := Nat.ne_of_lt (g97 ▸ F94.lt)
    have F106 : Fld Z h95 a96 "com/example/paretoloom/paretoloom/knapsack/Region" "upper" "[J" .null := D100 (Or.inr (hw _ (List.mem_of_getElem? (i := 11) rfl))) (ty := (.array .long)) (by decide)
    have F107 : Fld Z h95 a96 "com/example/paretoloom/paretoloom/knapsack/Region" "limits" "[J" .null := D100 (Or.inr (hw _ (List.mem_of_getElem? (i := 13) rfl))) (ty := (.array .long)) (by decide)
    have F108 : Fld Z h95 a96 "com/example/paretoloom/paretoloom/knapsack/Region" "firstWeights" "[J" .null := D100 (Or.inr (hw _ (List.mem_of_getElem? (i := 15) rfl))) (ty := (.array .long)) (by decide)
    have F109 : Fld Z h95 a96 "com/example/paretoloom/paretoloom/knapsack/Region" "secondWeights" "[J" .null := D100 (Or.inr (hw _ (List.mem_of_getElem? (i := 17) rfl))) (ty := (.array .long)) (by decide)
    refine Go.dup C at_155 (q := 156) rfl rfl ?_
    refine Go.iconst C (2 : Int32) at_156 (q := 157) rfl rfl ?_
    refine Go.aload C at_157 (q := 159) rfl rfl rfl ?_
    refine Go.aload C at_159 (q := 161) rfl rfl rfl ?_
    have F110 := (F104.ext E98)
    have F111 := (F94.ext E98)
    have F112 := (Nat.le_trans F101 E98.1)
    refine Go.callC C rfl (hw _ (List.mem_of_getElem? (i := 4) rfl)) (hw _ (List.mem_of_getElem? (i := 5) rfl)) (hw _ (List.mem_of_getElem? (i := 3) rfl)) (hw _ (List.mem_of_getElem? (i := 6) rfl)) (c_init1 W.l Z a0 hw a96 a72 a83 h95 n0 (upd (fun _ => (0 : Int64)) 0 v2) (upd (fun _ => (0 : Int64)) 0 v3) F112 A99 g102 F106 F107 F108 F109 F110 F111 ne103 ne105) at_161 pd__40I_91J_91J_41V (q := 164) rfl rfl (argsL := [(.int (2 : Int32)), (.ref a72), (.ref a83)]) (st := [(.ref a96)]) rfl rfl (w := 1) rfl (by decide) (by decide) (k' := 5) rfl (n' := 9) rfl (by decide) (by decide) ?_
    intro v h113 q
    obtain ⟨rfl, a115, a116, K114, g117, y118, F119, F120, F121, F122, -⟩ := q
    have ne123 : a72 ≠ a116 := Nat.ne_of_lt (Nat.lt_of_lt_of_le F110.lt y118)
    have ne124 : a83 ≠ a116 := Nat.ne_of_lt (Nat.lt_of_lt_of_le F111.lt y118)
    have ne125 : a96 ≠ a116 := Nat.ne_of_lt (Nat.lt_of_lt_of_le A99.lt y118)
    show Go W n0 QL h113 5 9 164 #[.val (.long p0), .second, .val (.long p1), .second, .val (.long p2), .second, .val (.long p3), .second, .val (.int p4), .val (.int p5), .val (.int (1 : Int32)), .val (.long v2), .second, .val (.long v3), .second, .val (.long v4), .second, .val (.long v5), .second, .val (.long v6), .second, .val (.long v7), .second, .val (.ref a72), .val (.ref a83), .unset, .unset, .unset, .unset] [(.ref a96)]
    refine Go.astore C at_164 (q := 166) rfl (l' := #[.val (.long p0), .second, .val (.long p1), .second, .val (.long p2), .second, .val (.long p3), .second, .val (.int p4), .val (.int p5), .val (.int (1 : Int32)), .val (.long v2), .second, .val (.long v3), .second, .val (.long v4), .second, .val (.long v5), .second, .val (.long v6), .second, .val (.long v7), .second, .val (.ref a72), .val (.ref a83), .val (.ref a96), .unset, .unset, .unset]) rfl rfl ?_
    refine Go.iload C at_166 (q := 168) rfl rfl ?_
    refine Go.iconst C (1 : Int32) at_168 (q := 169) rfl rfl ?_
    refine Go.icmp C at_169 (n_lt _ _) (qt := 180) (q := 172) (by decide) (by decide) rfl (fun b126 => absurd b126 (by decide)) (fun _ => ?_)
    refine Go.aload C at_172 (q := 174) rfl rfl rfl ?_
    refine Go.getF C (host := "") (Or.inl (hw _ (List.mem_of_getElem? (i := 23) rfl))) Via.refl F119 at_174 (q := 177) rfl ?_
    refine Go.iconst C (0 : Int32) at_177 (q := 178) rfl rfl ?_
    refine Go.lloadN C at_178 (q := 179) rfl rfl ?_
    refine Go.lastore C F122 0 (by decide) (by decide) (by decide) g117 at_179 (q := 180) rfl ?_
    intro h127 W128
    have F129 := F122.sameJ W128
    refine Go.iload C at_180 (q := 182) rfl rfl ?_
    refine Go.iconst C (2 : Int32) at_182 (q := 183) rfl rfl ?_
    refine Go.icmp C at_183 (n_lt _ _) (qt := 194) (q := 186) (by decide) (by decide) rfl (fun _ => ?_) (fun b130 => absurd b130 (by decide))
    refine Go.iload C at_194 (q := 196) rfl rfl ?_
    refine Go.iconst C (1 : Int32) at_196 (q := 197) rfl rfl ?_
    refine Go.icmp C at_197 (n_lt _ _) (qt := 216) (q := 200) (by decide) (by decide) rfl (fun b131 => absurd b131 (by decide)) (fun _ => ?_)
    refine Go.lload C at_200 (q := 202) rfl rfl ?_
    refine Go.lload C at_202 (q := 204) rfl rfl ?_
    refine Go.lmul C at_204 (q := 205) rfl ?_
    refine Go.lload C at_205 (q := 207) rfl rfl ?_
    refine Go.lload C at_207 (q := 209) rfl rfl ?_
    refine Go.lmul C at_209 (q := 210) rfl ?_
    refine Go.ladd C at_210 (q := 211) rfl ?_
    refine Go.lloadN C at_211 (q := 212) rfl rfl ?_
    refine Go.lcmp C at_212 (q := 213) rfl ?_
    suffices J133 : ∀ v132 : Int32, v132 = (if p0 < ((v2 * v6) + (v3 * v7)) then (0 : Int32) else (1 : Int32)) → Go W n0 QL h127 5 9 221 #[.val (.long p0), .second, .val (.long p1), .second, .val (.long p2), .second, .val (.long p3), .second, .val (.int p4), .val (.int p5), .val (.int (1 : Int32)), .val (.long v2), .second, .val (.long v3), .second, .val (.long v4), .second, .val (.long v5), .second, .val (.long v6), .second, .val (.long v7), .second, .val (.ref a72), .val (.ref a83), .val (.ref a96), .unset, .unset, .unset] [(.int v132)] by
      refine Go.if0 C at_213 (l_gt _ _) (qt := 220) (q := 216) (by decide) (by decide) rfl (fun b134 => ?_) (fun b134 => ?_)
      ·
        refine Go.iconst C (0 : Int32) at_220 (q := 221) rfl rfl ?_
        exact J133 _ (by rw [if_pos b134])
      ·
        refine Go.iconst C (1 : Int32) at_216 (q := 217) rfl rfl ?_
        refine Go.goto C at_217 (q := 221) (by decide) (by decide) ?_
        exact J133 _ (by rw [if_neg b134])
    intro v132 hv132
    refine Go.istoreR C at_221 (q := 223) rfl (l' := #[.val (.long p0), .second, .val (.long p1), .second, .val (.long p2), .second, .val (.long p3), .second, .val (.int p4), .val (.int p5), .val (.int (1 : Int32)), .val (.long v2), .second, .val (.long v3), .second, .val (.long v4), .second, .val (.long v5), .second, .val (.long v6), .second, .val (.long v7), .second, .val (.ref a72), .val (.ref a83), .val (.ref a96), .val (.int v132), .unset, .unset]) rfl ?_
    refine Go.iload C at_223 (q := 225) rfl rfl ?_
    refine Go.iconst C (2 : Int32) at_225 (q := 226) rfl rfl ?_
    refine Go.icmp C at_226 (n_lt _ _) (qt := 245) (q := 229) (by decide) (by decide) rfl (fun _ => ?_) (fun b135 => absurd b135 (by decide))
    refine Go.iconst C (1 : Int32) at_245 (q := 246) rfl rfl ?_
    refine Go.goto C at_246 (q := 250) (by decide) (by decide) ?_
    refine Go.istoreR C at_250 (q := 252) rfl (l' := #[.val (.long p0), .second, .val (.long p1), .second, .val (.long p2), .second, .val (.long p3), .second, .val (.int p4), .val (.int p5), .val (.int (1 : Int32)), .val (.long v2), .second, .val (.long v3), .second, .val (.long v4), .second, .val (.long v5), .second, .val (.long v6), .second, .val (.long v7), .second, .val (.ref a72), .val (.ref a83), .val (.ref a96), .val (.int v132), .val (.int (1 : Int32)), .unset]) rfl ?_
    refine Go.iload C at_252 (q := 254) rfl rfl ?_
    suffices J137 : ∀ v136 : Int32, v136 = (if v132 = (0 : Int32) then (0 : Int32) else (1 : Int32)) → Go W n0 QL h127 5 9 267 #[.val (.long p0), .second, .val (.long p1), .second, .val (.long p2), .second, .val (.long p3), .second, .val (.int p4), .val (.int p5), .val (.int (1 : Int32)), .val (.long v2), .second, .val (.long v3), .second, .val (.long v4), .second, .val (.long v5), .second, .val (.long v6), .second, .val (.long v7), .second, .val (.ref a72), .val (.ref a83), .val (.ref a96), .val (.int v132), .val (.int (1 : Int32)), .unset] [(.int v136)] by
      refine Go.if0 C at_254 (z_eq _) (qt := 266) (q := 257) (by decide) (by decide) rfl (fun b138 => ?_) (fun b138 => ?_)
      ·
        refine Go.iconst C (0 : Int32) at_266 (q := 267) rfl rfl ?_
        exact J137 _ (by rw [if_pos b138])
      ·
        refine Go.iload C at_257 (q := 259) rfl rfl ?_
        refine Go.if0 C at_259 (z_eq _) (qt := 266) (q := 262) (by decide) (by decide) rfl (fun b139 => absurd b139 (by decide)) (fun _ => ?_)
        refine Go.iconst C (1 : Int32) at_262 (q := 263) rfl rfl ?_
        refine Go.goto C at_263 (q := 267) (by decide) (by decide) ?_
        exact J137 _ (by rw [if_neg b138])
    intro v136 hv136
    refine Go.istoreR C at_267 (q := 269) rfl (l' := #[.val (.long p0), .second, .val (.long p1), .second, .val (.long p2), .second, .val (.long p3), .second, .val (.int p4), .val (.int p5), .val (.int (1 : Int32)), .val (.long v2), .second, .val (.long v3), .second, .val (.long v4), .second, .val (.long v5), .second, .val (.long v6), .second, .val (.long v7), .second, .val (.ref a72), .val (.ref a83), .val (.ref a96), .val (.int v132), .val (.int (1 : Int32)), .val (.int v136)]) rfl ?_
    refine Go.aload C at_269 (q := 271) rfl rfl rfl ?_
    refine Go.lload C at_271 (q := 273) rfl rfl ?_
    refine Go.lload C at_273 (q := 275) rfl rfl ?_
    have F140 := ((A99.keep K114).wr W128)
    have F141 := (Nat.le_trans (Nat.le_trans F112 K114.1) (Nat.le_of_eq W128.size.symm))
    have F142 := (F119.other W128 (Or.inl ne125))
    have F143 := (F120.other W128 (Or.inl ne125))
    have F144 := (F121.other W128 (Or.inl ne125))
    have F145 := ((F110.keep K114 (ninS ne103 nin0)).other W128 ne123)
    have F146 := ((F111.keep K114 (ninS ne105 nin0)).other W128 ne124)
    refine Go.pureV C F140 (hw _ (List.mem_of_getElem? (i := 18) rfl)) (hw _ (List.mem_of_getElem? (i := 19) rfl)) (hw _ (List.mem_of_getElem? (i := 21) rfl)) (hw _ (List.mem_of_getElem? (i := 20) rfl)) (hw _ (List.mem_of_getElem? (i := 3) rfl)) (hw _ (List.mem_of_getElem? (i := 22) rfl)) (c_f_adm1 W.l Z a0 hw a96 v6 v7 h127 n0 a116 a72 a83 (upd (fun _ => (0 : Int64)) 0 p0) (upd (fun _ => (0 : Int64)) 0 v2) (upd (fun _ => (0 : Int64)) 0 v3) F141 F142 F143 F144 F129 F145 F146) at_275 pd__40JJ_41Z (q := 278) rfl rfl (argsL := [(.long v6), (.long v7)]) (st := []) rfl rfl (w := 0) rfl (by decide) (by decide) (by decide) (by decide) ?_
    refine Go.iload C at_278 (q := 280) rfl rfl ?_
    refine Go.icmp C at_280 (n_ne _ _) (qt := 287) (q := 283) (by decide) (by decide) rfl (fun b147 => ?_) (fun b147 => ?_)
    ·
      refine Go.iconst C (0 : Int32) at_287 (q := 288) rfl rfl ?_
      exact (fin1 p0 p1 p2 p3 p4 p5  hv1 v2 hv2 v3 hv3 v4 hv4 v5 hv5 v6 hv6 v7 hv7 v132 hv132 v136 hv136  b147).elim
    ·
      have b147 := Classical.not_not.mp b147
      refine Go.iconst C (1 : Int32) at_283 (q := 284) rfl rfl ?_
      refine Go.goto C at_284 (q := 288) (by decide) (by decide) ?_
      exact Go.retZ (t := .boolean) (by simp) C at_288 (by decide) (by decide) (show some (Value.int _) = some (.int 1) from rfl)
  ·
    refine Go.iload C at_75 (q := 77) rfl rfl ?_
    refine Go.if0 C at_77 (z_ne _) (qt := 93) (q := 80) (by decide) (by decide) rfl (fun _ => ?_) (fun b148 => absurd b148 (by decide))
    refine Go.iload C at_93 (q := 95) rfl rfl ?_
    refine Go.iconst C (1 : Int32) at_95 (q := 96) rfl rfl ?_
    refine Go.icmp C at_96 (n_ne _ _) (qt := 122) (q := 99) (by decide) (by decide) rfl (fun _ => ?_) (fun b149 => absurd b149 (by decide))
    refine Go.iconst C (2 : Int32) at_122 (q := 123) rfl rfl ?_
    refine Go.newP C (hw _ (List.mem_of_getElem? (i := 0) rfl)) (by decide) (cap := 2) (by decide) (by decide) at_123 (q := 125) rfl (k' := 1) rfl (n' := 2) rfl (by decide) (by decide) ?_
    intro h150 a151 cA152 g153 E154 Fn155
    have g157 : n0 ≤ a151 := g153 ▸ Z0
    have F156 : Av Z h150 a151 .long 2 (jF (fun _ => (0 : Int64))) := Av.of Fn155
    refine Go.dup C at_125 (q := 126) rfl rfl ?_
    refine Go.iconst C (0 : Int32) at_126 (q := 127) rfl rfl ?_
    refine Go.lload C at_127 (q := 129) rfl rfl ?_
    refine Go.lastore C F156 0 (by decide) (by decide) (by decide) g157 at_129 (q := 130) rfl ?_
    intro h158 W159
    have F160 := F156.sameJ W159
    refine Go.dup C at_130 (q := 131) rfl rfl ?_
    refine Go.iconst C (1 : Int32) at_131 (q := 132) rfl rfl ?_
    refine Go.lload C at_132 (q := 134) rfl rfl ?_
    refine Go.lastore C F160 1 (by decide) (by decide) (by decide) g157 at_134 (q := 135) rfl ?_
    intro h161 W162
    have F163 := F160.sameJ W162
    refine Go.astore C at_135 (q := 137) rfl (l' := #[.val (.long p0), .second, .val (.long p1), .second, .val (.long p2), .second, .val (.long p3), .second, .val (.int p4), .val (.int p5), .val (.int (2 : Int32)), .val (.long v2), .second, .val (.long v3), .second, .val (.long v4), .second, .val (.long v5), .second, .val (.long v6), .second, .val (.long v7), .second, .val (.ref a151), .unset, .unset, .unset, .unset, .unset]) rfl rfl ?_
    refine Go.iconst C (2 : Int32) at_137 (q := 138) rfl rfl ?_
    refine Go.newP C (hw _ (List.mem_of_getElem? (i := 0) rfl)) (by decide) (cap := 2) (by decide) (by decide) at_138 (q := 140) rfl (k' := 2) rfl (n' := 4) rfl (by decide) (by decide) ?_
    intro h164 a165 cA166 g167 E168 Fn169
    have F171 := (Nat.le_trans (Nat.le_trans (Nat.le_trans Z0 E154.1) (Nat.le_of_eq W159.size.symm)) (Nat.le_of_eq W162.size.symm))
    have g172 : n0 ≤ a165 := g167 ▸ F171
    have ne173 : a151 ≠ a165 := Nat.ne_of_lt (g167 ▸ F163.lt)
    have F170 : Av Z h164 a165 .long 2 (jF (fun _ => (0 : Int64))) := Av.of Fn169
    refine Go.dup C at_140 (q := 141) rfl rfl ?_
    refine Go.iconst C (0 : Int32) at_141 (q := 142) rfl rfl ?_
    refine Go.lload C at_142 (q := 144) rfl rfl ?_
    refine Go.lastore C F170 0 (by decide) (by decide) (by decide) g172 at_144 (q := 145) rfl ?_
    intro h174 W175
    have F176 := F170.sameJ W175
    refine Go.dup C at_145 (q := 146) rfl rfl ?_
    refine Go.iconst C (1 : Int32) at_146 (q := 147) rfl rfl ?_
    refine Go.lload C at_147 (q := 149) rfl rfl ?_
    refine Go.lastore C F176 1 (by decide) (by decide) (by decide) g172 at_149 (q := 150) rfl ?_
    intro h177 W178
    have F179 := F176.sameJ W178
    refine Go.astore C at_150 (q := 152) rfl (l' := #[.val (.long p0), .second, .val (.long p1), .second, .val (.long p2), .second, .val (.long p3), .second, .val (.int p4), .val (.int p5), .val (.int (2 : Int32)), .val (.long v2), .second, .val (.long v3), .second, .val (.long v4), .second, .val (.long v5), .second, .val (.long v6), .second, .val (.long v7), .second, .val (.ref a151), .val (.ref a165), .unset, .unset, .unset, .unset]) rfl rfl ?_
    refine Go.newO C (hw _ (List.mem_of_getElem? (i := 1) rfl)) (hw _ (List.mem_of_getElem? (i := 2) rfl)) (hw _ (List.mem_of_getElem? (i := 3) rfl)) at_152 (q := 155) rfl (k' := 3) rfl (n' := 8) rfl (by decide) (by decide) ?_
    intro h180 a181 g182 E183 A184 D185
    have F186 := (Nat.le_trans (Nat.le_trans (Nat.le_trans F171 E168.1) (Nat.le_of_eq W175.size.symm)) (Nat.le_of_eq W178.size.symm))
    have g187 : n0 ≤ a181 := g182 ▸ F186
    have F189 := (((F163.ext E168).other W175 ne173).other W178 ne173)
    have ne188 : a151 ≠ a181 := Nat.ne_of_lt (g182 ▸ F189.lt)
    have ne190 : a165 ≠ a181 := Nat.ne_of_lt (g182 ▸ F179.lt)
    have F191 : Fld Z h180 a181 "com/example/paretoloom/paretoloom/knapsack/Region" "upper" "[J" .null := D185 (Or.inr (hw _ (List.mem_of_getElem? (i := 11) rfl))) (ty := (.array .long)) (by decide)
    have F192 : Fld Z h180 a181 "com/example/paretoloom/paretoloom/knapsack/Region" "limits" "[J" .null := D185 (Or.inr (hw _ (List.mem_of_getElem? (i := 13) rfl))) (ty := (.array .long)) (by decide)
    have F193 : Fld Z h180 a181 "com/example/paretoloom/paretoloom/knapsack/Region" "firstWeights" "[J" .null := D185 (Or.inr (hw _ (List.mem_of_getElem? (i := 15) rfl))) (ty := (.array .long)) (by decide)
    have F194 : Fld Z h180 a181 "com/example/paretoloom/paretoloom/knapsack/Region" "secondWeights" "[J" .null := D185 (Or.inr (hw _ (List.mem_of_getElem? (i := 17) rfl))) (ty := (.array .long)) (by decide)
    refine Go.dup C at_155 (q := 156) rfl rfl ?_
    refine Go.iconst C (2 : Int32) at_156 (q := 157) rfl rfl ?_
    refine Go.aload C at_157 (q := 159) rfl rfl rfl ?_
    refine Go.aload C at_159 (q := 161) rfl rfl rfl ?_
    have F195 := (F189.ext E183)
    have F196 := (F179.ext E183)
    have F197 := (Nat.le_trans F186 E183.1)
    refine Go.callC C rfl (hw _ (List.mem_of_getElem? (i := 4) rfl)) (hw _ (List.mem_of_getElem? (i := 5) rfl)) (hw _ (List.mem_of_getElem? (i := 3) rfl)) (hw _ (List.mem_of_getElem? (i := 6) rfl)) (c_init2 W.l Z a0 hw a181 a151 a165 h180 n0 (upd (upd (fun _ => (0 : Int64)) 0 v2) 1 v4) (upd (upd (fun _ => (0 : Int64)) 0 v3) 1 v5) F197 A184 g187 F191 F192 F193 F194 F195 F196 ne188 ne190) at_161 pd__40I_91J_91J_41V (q := 164) rfl rfl (argsL := [(.int (2 : Int32)), (.ref a151), (.ref a165)]) (st := [(.ref a181)]) rfl rfl (w := 1) rfl (by decide) (by decide) (k' := 5) rfl (n' := 12) rfl (by decide) (by decide) ?_
    intro v h198 q
    obtain ⟨rfl, a200, a201, K199, g202, y203, F204, F205, F206, F207, -⟩ := q
    have ne208 : a151 ≠ a201 := Nat.ne_of_lt (Nat.lt_of_lt_of_le F195.lt y203)
    have ne209 : a165 ≠ a201 := Nat.ne_of_lt (Nat.lt_of_lt_of_le F196.lt y203)
    have ne210 : a181 ≠ a201 := Nat.ne_of_lt (Nat.lt_of_lt_of_le A184.lt y203)
    show Go W n0 QL h198 5 12 164 #[.val (.long p0), .second, .val (.long p1), .second, .val (.long p2), .second, .val (.long p3), .second, .val (.int p4), .val (.int p5), .val (.int (2 : Int32)), .val (.long v2), .second, .val (.long v3), .second, .val (.long v4), .second, .val (.long v5), .second, .val (.long v6), .second, .val (.long v7), .second, .val (.ref a151), .val (.ref a165), .unset, .unset, .unset, .unset] [(.ref a181)]
    refine Go.astore C at_164 (q := 166) rfl (l' := #[.val (.long p0), .second, .val (.long p1), .second, .val (.long p2), .second, .val (.long p3), .second, .val (.int p4), .val (.int p5), .val (.int (2 : Int32)), .val (.long v2), .second, .val (.long v3), .second, .val (.long v4), .second, .val (.long v5), .second, .val (.long v6), .second, .val (.long v7), .second, .val (.ref a151), .val (.ref a165), .val (.ref a181), .unset, .unset, .unset]) rfl rfl ?_
    refine Go.iload C at_166 (q := 168) rfl rfl ?_
    refine Go.iconst C (1 : Int32) at_168 (q := 169) rfl rfl ?_
    refine Go.icmp C at_169 (n_lt _ _) (qt := 180) (q := 172) (by decide) (by decide) rfl (fun b211 => absurd b211 (by decide)) (fun _ => ?_)
    refine Go.aload C at_172 (q := 174) rfl rfl rfl ?_
    refine Go.getF C (host := "") (Or.inl (hw _ (List.mem_of_getElem? (i := 23) rfl))) Via.refl F204 at_174 (q := 177) rfl ?_
    refine Go.iconst C (0 : Int32) at_177 (q := 178) rfl rfl ?_
    refine Go.lloadN C at_178 (q := 179) rfl rfl ?_
    refine Go.lastore C F207 0 (by decide) (by decide) (by decide) g202 at_179 (q := 180) rfl ?_
    intro h212 W213
    have F214 := F207.sameJ W213
    refine Go.iload C at_180 (q := 182) rfl rfl ?_
    refine Go.iconst C (2 : Int32) at_182 (q := 183) rfl rfl ?_
    refine Go.icmp C at_183 (n_lt _ _) (qt := 194) (q := 186) (by decide) (by decide) rfl (fun b215 => absurd b215 (by decide)) (fun _ => ?_)
    refine Go.aload C at_186 (q := 188) rfl rfl rfl ?_
    have F216 := (F204.other W213 (Or.inl ne210))
    refine Go.getF C (host := "") (Or.inl (hw _ (List.mem_of_getElem? (i := 23) rfl))) Via.refl F216 at_188 (q := 191) rfl ?_
    refine Go.iconst C (1 : Int32) at_191 (q := 192) rfl rfl ?_
    refine Go.lloadN C at_192 (q := 193) rfl rfl ?_
    refine Go.lastore C F214 1 (by decide) (by decide) (by decide) g202 at_193 (q := 194) rfl ?_
    intro h217 W218
    have F219 := F214.sameJ W218
    refine Go.iload C at_194 (q := 196) rfl rfl ?_
    refine Go.iconst C (1 : Int32) at_196 (q := 197) rfl rfl ?_
    refine Go.icmp C at_197 (n_lt _ _) (qt := 216) (q := 200) (by decide) (by decide) rfl (fun b220 => absurd b220 (by decide)) (fun _ => ?_)
    refine Go.lload C at_200 (q := 202) rfl rfl ?_
    refine Go.lload C at_202 (q := 204) rfl rfl ?_
    refine Go.lmul C at_204 (q := 205) rfl ?_
    refine Go.lload C at_205 (q := 207) rfl rfl ?_
    refine Go.lload C at_207 (q := 209) rfl rfl ?_
    refine Go.lmul C at_209 (q := 210) rfl ?_
    refine Go.ladd C at_210 (q := 211) rfl ?_
    refine Go.lloadN C at_211 (q := 212) rfl rfl ?_
    refine Go.lcmp C at_212 (q := 213) rfl ?_
    suffices J222 : ∀ v221 : Int32, v221 = (if p0 < ((v2 * v6) + (v3 * v7)) then (0 : Int32) else (1 : Int32)) → Go W n0 QL h217 5 12 221 #[.val (.long p0), .second, .val (.long p1), .second, .val (.long p2), .second, .val (.long p3), .second, .val (.int p4), .val (.int p5), .val (.int (2 : Int32)), .val (.long v2), .second, .val (.long v3), .second, .val (.long v4), .second, .val (.long v5), .second, .val (.long v6), .second, .val (.long v7), .second, .val (.ref a151), .val (.ref a165), .val (.ref a181), .unset, .unset, .unset] [(.int v221)] by
      refine Go.if0 C at_213 (l_gt _ _) (qt := 220) (q := 216) (by decide) (by decide) rfl (fun b223 => ?_) (fun b223 => ?_)
      ·
        refine Go.iconst C (0 : Int32) at_220 (q := 221) rfl rfl ?_
        exact J222 _ (by rw [if_pos b223])
      ·
        refine Go.iconst C (1 : Int32) at_216 (q := 217) rfl rfl ?_
        refine Go.goto C at_217 (q := 221) (by decide) (by decide) ?_
        exact J222 _ (by rw [if_neg b223])
    intro v221 hv221
    refine Go.istoreR C at_221 (q := 223) rfl (l' := #[.val (.long p0), .second, .val (.long p1), .second, .val (.long p2), .second, .val (.long p3), .second, .val (.int p4), .val (.int p5), .val (.int (2 : Int32)), .val (.long v2), .second, .val (.long v3), .second, .val (.long v4), .second, .val (.long v5), .second, .val (.long v6), .second, .val (.long v7), .second, .val (.ref a151), .val (.ref a165), .val (.ref a181), .val (.int v221), .unset, .unset]) rfl ?_
    refine Go.iload C at_223 (q := 225) rfl rfl ?_
    refine Go.iconst C (2 : Int32) at_225 (q := 226) rfl rfl ?_
    refine Go.icmp C at_226 (n_lt _ _) (qt := 245) (q := 229) (by decide) (by decide) rfl (fun b224 => absurd b224 (by decide)) (fun _ => ?_)
    refine Go.lload C at_229 (q := 231) rfl rfl ?_
    refine Go.lload C at_231 (q := 233) rfl rfl ?_
    refine Go.lmul C at_233 (q := 234) rfl ?_
    refine Go.lload C at_234 (q := 236) rfl rfl ?_
    refine Go.lload C at_236 (q := 238) rfl rfl ?_
    refine Go.lmul C at_238 (q := 239) rfl ?_
    refine Go.ladd C at_239 (q := 240) rfl ?_
    refine Go.lloadN C at_240 (q := 241) rfl rfl ?_
    refine Go.lcmp C at_241 (q := 242) rfl ?_
    suffices J226 : ∀ v225 : Int32, v225 = (if p1 < ((v4 * v6) + (v5 * v7)) then (0 : Int32) else (1 : Int32)) → Go W n0 QL h217 5 12 250 #[.val (.long p0), .second, .val (.long p1), .second, .val (.long p2), .second, .val (.long p3), .second, .val (.int p4), .val (.int p5), .val (.int (2 : Int32)), .val (.long v2), .second, .val (.long v3), .second, .val (.long v4), .second, .val (.long v5), .second, .val (.long v6), .second, .val (.long v7), .second, .val (.ref a151), .val (.ref a165), .val (.ref a181), .val (.int v221), .unset, .unset] [(.int v225)] by
      refine Go.if0 C at_242 (l_gt _ _) (qt := 249) (q := 245) (by decide) (by decide) rfl (fun b227 => ?_) (fun b227 => ?_)
      ·
        refine Go.iconst C (0 : Int32) at_249 (q := 250) rfl rfl ?_
        exact J226 _ (by rw [if_pos b227])
      ·
        refine Go.iconst C (1 : Int32) at_245 (q := 246) rfl rfl ?_
        refine Go.goto C at_246 (q := 250) (by decide) (by decide) ?_
        exact J226 _ (by rw [if_neg b227])
    intro v225 hv225
    refine Go.istoreR C at_250 (q := 252) rfl (l' := #[.val (.long p0), .second, .val (.long p1), .second, .val (.long p2), .second, .val (.long p3), .second, .val (.int p4), .val (.int p5), .val (.int (2 : Int32)), .val (.long v2), .second, .val (.long v3), .second, .val (.long v4), .second, .val (.long v5), .second, .val (.long v6), .second, .val (.long v7), .second, .val (.ref a151), .val (.ref a165), .val (.ref a181), .val (.int v221), .val (.int v225), .unset]) rfl ?_
    refine Go.iload C at_252 (q := 254) rfl rfl ?_
    suffices J229 : ∀ v228 : Int32, v228 = (if v221 = (0 : Int32) then (0 : Int32) else (if v225 = (0 : Int32) then (0 : Int32) else (1 : Int32))) → Go W n0 QL h217 5 12 267 #[.val (.long p0), .second, .val (.long p1), .second, .val (.long p2), .second, .val (.long p3), .second, .val (.int p4), .val (.int p5), .val (.int (2 : Int32)), .val (.long v2), .second, .val (.long v3), .second, .val (.long v4), .second, .val (.long v5), .second, .val (.long v6), .second, .val (.long v7), .second, .val (.ref a151), .val (.ref a165), .val (.ref a181), .val (.int v221), .val (.int v225), .unset] [(.int v228)] by
      refine Go.if0 C at_254 (z_eq _) (qt := 266) (q := 257) (by decide) (by decide) rfl (fun b230 => ?_) (fun b230 => ?_)
      ·
        refine Go.iconst C (0 : Int32) at_266 (q := 267) rfl rfl ?_
        exact J229 _ (by rw [if_pos b230])
      ·
        refine Go.iload C at_257 (q := 259) rfl rfl ?_
        refine Go.if0 C at_259 (z_eq _) (qt := 266) (q := 262) (by decide) (by decide) rfl (fun b231 => ?_) (fun b231 => ?_)
        ·
          refine Go.iconst C (0 : Int32) at_266 (q := 267) rfl rfl ?_
          exact J229 _ (by rw [if_neg b230, if_pos b231])
        ·
          refine Go.iconst C (1 : Int32) at_262 (q := 263) rfl rfl ?_
          refine Go.goto C at_263 (q := 267) (by decide) (by decide) ?_
          exact J229 _ (by rw [if_neg b230, if_neg b231])
    intro v228 hv228
    refine Go.istoreR C at_267 (q := 269) rfl (l' := #[.val (.long p0), .second, .val (.long p1), .second, .val (.long p2), .second, .val (.long p3), .second, .val (.int p4), .val (.int p5), .val (.int (2 : Int32)), .val (.long v2), .second, .val (.long v3), .second, .val (.long v4), .second, .val (.long v5), .second, .val (.long v6), .second, .val (.long v7), .second, .val (.ref a151), .val (.ref a165), .val (.ref a181), .val (.int v221), .val (.int v225), .val (.int v228)]) rfl ?_
    refine Go.aload C at_269 (q := 271) rfl rfl rfl ?_
    refine Go.lload C at_271 (q := 273) rfl rfl ?_
    refine Go.lload C at_273 (q := 275) rfl rfl ?_
    have F232 := (((A184.keep K199).wr W213).wr W218)
    have F233 := (Nat.le_trans (Nat.le_trans (Nat.le_trans F197 K199.1) (Nat.le_of_eq W213.size.symm)) (Nat.le_of_eq W218.size.symm))
    have F234 := (F216.other W218 (Or.inl ne210))
    have F235 := ((F205.other W213 (Or.inl ne210)).other W218 (Or.inl ne210))
    have F236 := ((F206.other W213 (Or.inl ne210)).other W218 (Or.inl ne210))
    have F237 := (((F195.keep K199 (ninS ne188 nin0)).other W213 ne208).other W218 ne208)
    have F238 := (((F196.keep K199 (ninS ne190 nin0)).other W213 ne209).other W218 ne209)
    refine Go.pureV C F232 (hw _ (List.mem_of_getElem? (i := 18) rfl)) (hw _ (List.mem_of_getElem? (i := 19) rfl)) (hw _ (List.mem_of_getElem? (i := 21) rfl)) (hw _ (List.mem_of_getElem? (i := 20) rfl)) (hw _ (List.mem_of_getElem? (i := 3) rfl)) (hw _ (List.mem_of_getElem? (i := 22) rfl)) (c_f_adm2 W.l Z a0 hw a181 v6 v7 h217 n0 a201 a151 a165 (upd (upd (fun _ => (0 : Int64)) 0 p0) 1 p1) (upd (upd (fun _ => (0 : Int64)) 0 v2) 1 v4) (upd (upd (fun _ => (0 : Int64)) 0 v3) 1 v5) F233 F234 F235 F236 F219 F237 F238) at_275 pd__40JJ_41Z (q := 278) rfl rfl (argsL := [(.long v6), (.long v7)]) (st := []) rfl rfl (w := 0) rfl (by decide) (by decide) (by decide) (by decide) ?_
    refine Go.iload C at_278 (q := 280) rfl rfl ?_
    refine Go.icmp C at_280 (n_ne _ _) (qt := 287) (q := 283) (by decide) (by decide) rfl (fun b239 => ?_) (fun b239 => ?_)
    ·
      refine Go.iconst C (0 : Int32) at_287 (q := 288) rfl rfl ?_
      exact (fin2 p0 p1 p2 p3 p4 p5  hv1 v2 hv2 v3 hv3 v4 hv4 v5 hv5 v6 hv6 v7 hv7 v221 hv221 v225 hv225 v228 hv228  b239).elim
    ·
      have b239 := Classical.not_not.mp b239
      refine Go.iconst C (1 : Int32) at_283 (q := 284) rfl rfl ?_
      refine Go.goto C at_284 (q := 288) (by decide) (by decide) ?_
      exact Go.retZ (t := .boolean) (by simp) C at_288 (by decide) (by decide) (show some (Value.int _) = some (.int 1) from rfl)
set_option maxRecDepth 65536 in
set_option maxHeartbeats 4000000 in
theorem comes_1 {Post : Tables → Env → Array Value → State → Outcome → State → Prop} (hpost : ∀ tb e args s v u, (limb_1_1.after args s (.returned v) u = true ∧ limb_1_2.after args s (.returned v) u = true ∧ True) → FrameEnd s (.returned v) u (Jvm.fieldLocs frame_1_writes args s ++ Jvm.arrayLocs frame_1_arrays args s ++ Jvm.staticLocs frame_1_statics s) 24 128 → Post tb e args s (.returned v) u) :
    ArmFor flags0 classFile x code maxLocals ret World_1 tables_1 room_1 Calls_1 rest_1 Pre_1 Post := by
  intro l hfl _ _ p e ha hc hk s m args below hf hA hF happ hP
  obtain ⟨hcalls, hrest, hpre⟩ := hP
  obtain ⟨-, -, -, hnamed, -, -, -, hat⟩ := (Spec.applies_iff hf).mp happ
  obtain ⟨hg, hn⟩ := and_e (Cond.before_iff.mp (show (Jvm.Cond.and given_1 narrow_1).before args s = true from hpre))
  obtain ⟨hcount, hg0⟩ := and_e hg
  obtain ⟨ha0, hg1⟩ := and_e hg0
  obtain ⟨ha1, hg2⟩ := and_e hg1
  obtain ⟨ha2, hg3⟩ := and_e hg2
  obtain ⟨ha3, hg4⟩ := and_e hg3
  obtain ⟨ha4, hg5⟩ := and_e hg4
  have ha5 := hg5
  obtain ⟨w0, w1, w2, w3, w4, w5, rfl⟩ : ∃ w0 w1 w2 w3 w4 w5 : Value, args = #[w0, w1, w2, w3, w4, w5] := by
    have hs : args.size = 6 := by simpa [Cond.value, given_1] using hcount
    obtain ⟨L⟩ := args
    match L, hs with
    | [w0, w1, w2, w3, w4, w5], _ => exact ⟨w0, w1, w2, w3, w4, w5, rfl⟩
  have hw := fun d (hd : d ∈ tables_1) => atoms_spec (ws := Jvm.Cond.code x code maxLocals ret :: tables_1) hat d (List.mem_cons_of_mem _ hd)
  obtain ⟨i0, ei0⟩ := isL_v ha0
  obtain rfl : w0 = (.long i0) := Option.some.inj ei0
  obtain ⟨i1, ei1⟩ := isL_v ha1
  obtain rfl : w1 = (.long i1) := Option.some.inj ei1
  obtain ⟨i2, ei2⟩ := isL_v ha2
  obtain rfl : w2 = (.long i2) := Option.some.inj ei2
  obtain ⟨i3, ei3⟩ := isL_v ha3
  obtain rfl : w3 = (.long i3) := Option.some.inj ei3
  obtain ⟨i4, ei4⟩ := is_v ha4
  obtain rfl : w4 = (.int i4) := Option.some.inj ei4
  obtain ⟨i5, ei5⟩ := is_v ha5
  obtain rfl : w5 = (.int i5) := Option.some.inj ei5
  obtain ⟨n, o, h1, h2, h3, _, L, rfl, ⟨N, rfl⟩, hq⟩ := rm0 l s _ hw i0 i1 i2 i3 i4 i5 s.heap s.heap.size (Nat.le_refl _)  p e ha hc hk s m _ below hf ((Spec.applies_iff_loose hf).mp happ).1 ⟨rfl, State.Warmed39.refl s, rfl⟩ trivial
  refine ⟨n, _, h1, h2, h3, hpost _ _ _ _ _ _ ⟨Cond.after_iff.mpr rfl, Cond.after_iff.mpr (eq_i res_at (Term.int_eval (1)) rfl), trivial⟩ ⟨hq.1, hq.2.1, (hq.2.2.sift fun y hy => Or.inr (N y hy)).mono (by decide) (by decide)⟩⟩
theorem main_1_1 : Claimed_1_1 := comes_1 fun _ _ _ _ _ _ h hF => ⟨h.1, hF⟩
theorem main_1_2 : Claimed_1_2 := comes_1 fun _ _ _ _ _ _ h hF => ⟨h.2.1, hF⟩
end Jvm.Pilot.@@N@@
namespace Jvm.Pilot.@@N@@
open Jvm Jvm.ClassFile Sem Op Lib Jvm.Free Jvm.Stand Jvm.Pilot.@@N@@.Jvm.D
/-! MADE BY PROGRAM (witnessworld.py) out of the Statement's table words and the real class files: 12 classes; the members and pool entries that the words name. The judged class is class 1, her method 1. -/
namespace start1
open Jvm.ClassFile
def u (s : String) : CpInfo := .utf8 (stringToUtf16 s)
/-- a pool by its gaps: so many unusable entries, then the entry; so many at the end -/
def gap : Nat → List CpInfo → List CpInfo
  | 0, r => r
  | n + 1, r => .unusable :: gap n r
def poolList (es : List (Nat × CpInfo)) (last : Nat) : List CpInfo := es.foldr (fun e r => gap e.1 (e.2 :: r)) (gap last [])
def pool (es : List (Nat × CpInfo)) (last : Nat) : Array CpInfo := ⟨poolList es last⟩
def fileOf (pool : Array CpInfo) (this : Nat) (attrs : Array Attribute := #[]) (ms : Array MethodInfo := #[]) (fl : Nat := 33) (sup : Nat := 0) (ifs : Array Nat := #[]) (fds : Array FieldInfo := #[]) : ClassFile where
  minorVersion := 0
  majorVersion := 65
  constantPool := pool
  accessFlags := fl
  thisClass := this
  superClass := sup
  interfaces := ifs
  fields := fds
  methods := ms
  attributes := attrs
def plain (name : String) (sup : Option ClassId) : Class where
  name := name
  kind := .ordinary
  loader := none
  accessFlags := 33
  super := sup
  interfaces := #[]
  cf := none
  fields := #[]
  methods := #[]
  instanceTypes := #[]
  staticTypes := #[]
  resolved := #[]
  callSites := []
  init := .initialized
  statics := none
  mirror := none

def pool0 : Array CpInfo := pool [(5, u "<init>"), (0, u "()V"), (1, .class_ 10), (1, u "java/lang/Object")] 113

def k0c0 : Code := { maxStack := 0, maxLocals := 1, code := object_method_1_code, exceptionTable := #[], attributes := #[] }
def k0m0 : Method := { name := "<init>", desc := "()V", sig := { parameters := [], returnType := none }, accessFlags := 1, code := some k0c0 }
/-- java/lang/Object -/
def k0 : Class := { plain "java/lang/Object" none with
  accessFlags := 33
  interfaces := #[]
  cf := some (fileOf pool0 8 #[] #[{ accessFlags := 1, nameIndex := 5, descriptorIndex := 6, attributes := #[] }] 33 0 #[] #[])
  fields := #[]
  methods := #[k0m0]
  instanceTypes := #[]
  staticTypes := #[]
  resolved := Array.replicate 124 none
  statics := none }

def pool1 : Array CpInfo := pool [(2, .class_ 4), (1, u "java/lang/Object"), (0, u "<init>"), (0, u "()V"), (0, .class_ 8), (0, u "com/example/paretoloom/paretoloom/knapsack/Region"), (0, .methodref 7 10), (0, .nameAndType 5 11), (0, u "(I[J[J)V"), (0, .fieldref 7 13), (0, .nameAndType 14 15), (0, u "limits"), (0, u "[J"), (0, .methodref 7 17), (0, .nameAndType 18 19), (0, u "admits"), (0, u "(JJ)Z"), (0, .class_ 21), (0, u "com/example/paretoloom/paretoloom/knapsack/RegionAdmitsPinLaw"), (2, u "law"), (0, u "(JJJJII)Z")] 4

def k1m0 : Method := { name := "<init>", desc := "()V", sig := { parameters := [], returnType := none }, accessFlags := 1, code := none }
def k1c1 : Code := { maxStack := 6, maxLocals := 29, code := code, exceptionTable := #[], attributes := #[] }
def k1m1 : Method := { name := "law", desc := "(JJJJII)Z", sig := { parameters := [.long, .long, .long, .long, .int, .int], returnType := some .boolean }, accessFlags := 9, code := some k1c1 }
/-- com/example/paretoloom/paretoloom/knapsack/RegionAdmitsPinLaw -/
def k1 : Class := { plain "com/example/paretoloom/paretoloom/knapsack/RegionAdmitsPinLaw" (some 0) with
  accessFlags := 49
  interfaces := #[]
  cf := some (fileOf pool1 20 #[] #[{ accessFlags := 1, nameIndex := 5, descriptorIndex := 6, attributes := #[] }, { accessFlags := 9, nameIndex := 24, descriptorIndex := 25, attributes := #[] }] 49 2 #[] #[])
  fields := #[]
  methods := #[k1m0, k1m1]
  instanceTypes := #[]
  staticTypes := #[]
  resolved := Array.replicate 30 none
  statics := none }

def pool2 : Array CpInfo := pool [(1, .class_ 2), (0, u "com/example/paretoloom/paretoloom/pareto/DominanceIndex$LowerSet"), (0, .class_ 4), (0, u "java/lang/Object"), (7, .class_ 13), (0, u "com/example/paretoloom/paretoloom/pareto/DominanceIndex")] 2

/-- com/example/paretoloom/paretoloom/pareto/DominanceIndex$LowerSet -/
def k2 : Class := { plain "com/example/paretoloom/paretoloom/pareto/DominanceIndex$LowerSet" (some 0) with
  accessFlags := 1537
  interfaces := #[]
  cf := some (fileOf pool2 1 #[.nestHost 12] #[] 1537 3 #[] #[])
  fields := #[]
  methods := #[]
  instanceTypes := #[]
  staticTypes := #[]
  resolved := Array.replicate 16 none
  statics := none }

def pool3 : Array CpInfo := pool [(1, .methodref 2 3), (0, .class_ 4), (0, .nameAndType 5 6), (0, u "java/lang/Object"), (0, u "<init>"), (0, u "()V"), (0, .fieldref 8 9), (0, .class_ 10), (0, .nameAndType 11 12), (0, u "com/example/paretoloom/paretoloom/knapsack/Region"), (0, u "upper"), (0, u "[J"), (0, .fieldref 8 14), (0, .nameAndType 15 12), (0, u "limits"), (0, .fieldref 8 17), (0, .nameAndType 18 12), (0, u "firstWeights"), (0, .fieldref 8 20), (0, .nameAndType 21 12), (0, u "secondWeights"), (22, .class_ 45), (0, u "com/example/paretoloom/paretoloom/pareto/DominanceIndex$LowerSet"), (0, u "(I[J[J)V"), (2, u "admits"), (0, u "(JJ)Z")] 9

def k3c0 : Code := { maxStack := 2, maxLocals := 4, code := prog_45_method_1_code, exceptionTable := #[], attributes := #[] }
def k3m0 : Method := { name := "<init>", desc := "(I[J[J)V", sig := { parameters := [.int, (.array .long), (.array .long)], returnType := none }, accessFlags := 0, code := some k3c0 }
def k3c1 : Code := { maxStack := 6, maxLocals := 6, code := prog_45_method_2_code, exceptionTable := #[], attributes := #[] }
def k3m1 : Method := { name := "admits", desc := "(JJ)Z", sig := { parameters := [.long, .long], returnType := some .boolean }, accessFlags := 1, code := some k3c1 }
/-- com/example/paretoloom/paretoloom/knapsack/Region -/
def k3 : Class := { plain "com/example/paretoloom/paretoloom/knapsack/Region" (some 0) with
  accessFlags := 48
  interfaces := #[2]
  cf := some (fileOf pool3 8 #[] #[{ accessFlags := 0, nameIndex := 5, descriptorIndex := 46, attributes := #[] }, { accessFlags := 1, nameIndex := 49, descriptorIndex := 50, attributes := #[] }] 48 2 #[44] #[{ accessFlags := 16, nameIndex := 11, descriptorIndex := 12, attributes := #[] }, { accessFlags := 16, nameIndex := 15, descriptorIndex := 12, attributes := #[] }, { accessFlags := 18, nameIndex := 18, descriptorIndex := 12, attributes := #[] }, { accessFlags := 18, nameIndex := 21, descriptorIndex := 12, attributes := #[] }])
  fields := #[{ name := "upper", type := (.array .long), accessFlags := 16, slot := 0, constantValue := 0 }, { name := "limits", type := (.array .long), accessFlags := 16, slot := 1, constantValue := 0 }, { name := "firstWeights", type := (.array .long), accessFlags := 18, slot := 2, constantValue := 0 }, { name := "secondWeights", type := (.array .long), accessFlags := 18, slot := 3, constantValue := 0 }]
  methods := #[k3m0, k3m1]
  instanceTypes := #[(.array .long), (.array .long), (.array .long), (.array .long)]
  staticTypes := #[]
  resolved := Array.replicate 60 none
  statics := none }

def pool4 : Array CpInfo := pool [(1, u "java/lang/Cloneable"), (0, .class_ 1), (0, u "java/lang/Object"), (0, .class_ 3)] 3

/-- java/lang/Cloneable -/
def k4 : Class := { plain "java/lang/Cloneable" (some 0) with
  accessFlags := 1537
  interfaces := #[]
  cf := some (fileOf pool4 2 #[] #[] 1537 4 #[] #[])
  fields := #[]
  methods := #[]
  instanceTypes := #[]
  staticTypes := #[]
  resolved := Array.replicate 8 none
  statics := none }

def pool5 : Array CpInfo := pool [(1, u "java/io/Serializable"), (0, .class_ 1), (0, u "java/lang/Object"), (0, .class_ 3)] 3

/-- java/io/Serializable -/
def k5 : Class := { plain "java/io/Serializable" (some 0) with
  accessFlags := 1537
  interfaces := #[]
  cf := some (fileOf pool5 2 #[] #[] 1537 4 #[] #[])
  fields := #[]
  methods := #[]
  instanceTypes := #[]
  staticTypes := #[]
  resolved := Array.replicate 8 none
  statics := none }

/-- the primitive byte -/
def k6 : Class := { plain "byte" none with kind := .primitive 'B', accessFlags := 0x411 }
/-- [B -/
def k7 : Class := { plain "[B" (some 0) with kind := .array 6 .byte, interfaces := #[4, 5], accessFlags := 1041 }

/-- the primitive int -/
def k8 : Class := { plain "int" none with kind := .primitive 'I', accessFlags := 0x411 }
/-- [I -/
def k9 : Class := { plain "[I" (some 0) with kind := .array 8 .int, interfaces := #[4, 5], accessFlags := 1041 }

/-- the primitive long -/
def k10 : Class := { plain "long" none with kind := .primitive 'J', accessFlags := 0x411 }
/-- [J -/
def k11 : Class := { plain "[J" (some 0) with kind := .array 10 .long, interfaces := #[4, 5], accessFlags := 1041 }

def heap : Heap := #[]
def classes : Array Class := #[k0, k1, k2, k3, k4, k5, k6, k7, k8, k9, k10, k11]
def interned : List (Array UInt16 × Addr) := []
def slotsUsed : Nat := 0
def theMethod : MethodId := ⟨1, 1⟩
def args0 : Array Value := #[.long 1, .long 2, .long 3, .long 4, .int 5, .int 6]
def aboutOver (below : List Frame) : State where
  vm := { classes := classes, interned := interned.toArray }
  heap := heap
  slotsUsed := slotsUsed
  threads := #[{ frames := .invoking theMethod args0 :: below }]
def below0 : List Frame := [.native { method := ⟨0, 0⟩, args := #[] }]
def about1 : State := aboutOver below0
def p0 : Program := .bare "" "" ""
def e0 : Env := launch0.env 0 0 0
theorem w_frames : about1.frames = Frame.invoking theMethod args0 :: below0 := rfl
set_option maxRecDepth 65536 in
theorem w_args : argsFit about1.vm theMethod args0 = true := by decide +kernel
set_option maxRecDepth 65536 in
theorem w_heap : heapFits about1 = true := by decide +kernel
set_option maxRecDepth 65536 in
theorem w_runnable : about1.curStatus? = some .runnable := by decide +kernel
set_option maxRecDepth 65536 in
theorem w_alone : about1.alone = true := by decide +kernel
set_option maxRecDepth 65536 in
theorem w_named : about1.methodNamed? x = some theMethod := by decide +kernel
set_option maxRecDepth 65536 in
theorem w_hears : about1.hears theMethod below0 = true := by decide +kernel
set_option maxRecDepth 65536 in
theorem w_ripe : about1.ripe theMethod args0 below0 = true := by decide +kernel
theorem w_running : about1.status = .running := rfl
set_option maxRecDepth 65536 in
theorem w_room : about1.hasRoom e0.platform room_1 = true :=
  launch0.hasRoom_least _ room_1 (by decide +kernel) (by decide +kernel) (by decide +kernel) (by decide +kernel) (by decide +kernel) (by decide +kernel)
theorem allAtoms_all (ts : List Jvm.Cond) (a : Array Jvm.Value) (st : Jvm.State) : (allAtoms ts).before a st = ts.all (fun c => c.before a st) := by
  induction ts with
  | nil => rfl
  | cons c t ih =>
    show (Jvm.Cond.and c (allAtoms t)).before a st = _
    rw [Jvm.Cond.before_and, ih, List.all_cons]
def words1 : List Jvm.Cond := Jvm.Cond.code x code maxLocals ret :: tables_1
/-- a 'code' word, met by the world's own term for the bytes: nothing is compared byte by byte -/
theorem code_word {y : MethodName} {bytes : ByteArray} {mx : Nat} {rt : Option FieldType} {a : Array Value} {s : State} {m : MethodId} {meth : Method} {c : Code} (h1 : s.methodNamed? y = some m) (h2 : s.vm.method? m = some meth) (h3 : meth.code = some c) (h4 : c.code = bytes)
    (h5 : (c.maxLocals == mx && c.exceptionTable.isEmpty && decide (c.maxStack ≤ mostOperands) && decide (meth.sig.returnType = rt) && !meth.locks && decide (parseMethodDescriptor y.desc = some meth.sig)) = true) : (Jvm.Cond.code y bytes mx rt).before a s = true := by
  simp only [Bool.and_eq_true, beq_iff_eq, Bool.not_eq_true', decide_eq_true_eq] at h5
  obtain ⟨⟨⟨⟨⟨g1, g2⟩, g3⟩, g4⟩, g5⟩, g6⟩ := h5
  simp [Cond.before, Cond.holds, Cond.value, h1, h2, h3, h4, g1, g2, g3, g4, g5, g6]
def isCode : Jvm.Cond → Bool
  | .code _ _ _ _ => true
  | _ => false
theorem all_split {L : List Jvm.Cond} {P : Jvm.Cond → Bool} (h1 : L.all (fun c => isCode c || P c) = true) (h2 : ∀ c ∈ L.filter isCode, P c = true) : L.all P = true := by
  refine List.all_eq_true.mpr fun c hc => ?_
  have h := List.all_eq_true.mp h1 c hc
  rcases Bool.eq_false_or_eq_true (isCode c) with hi | hi
  · exact h2 c (List.mem_filter.mpr ⟨hc, hi⟩)
  · simpa [hi] using h
set_option maxRecDepth 65536 in
theorem w_c0 : (Jvm.Cond.code x code maxLocals ret).before args0 about1 = true := code_word (m := ⟨1, 1⟩) (meth := k1m1) (c := k1c1) (by decide +kernel) rfl rfl rfl (by decide +kernel)
set_option maxRecDepth 65536 in
theorem w_c1 : (Jvm.Cond.code ({ cls := "com/example/paretoloom/paretoloom/knapsack/Region", name := "<init>", desc := "(I[J[J)V" } : Jvm.MethodName) prog_45_method_1_code (4 : Nat) (Option.none : Option Jvm.ClassFile.FieldType)).before args0 about1 = true := code_word (m := ⟨3, 0⟩) (meth := k3m0) (c := k3c0) (by decide +kernel) rfl rfl rfl (by decide +kernel)
set_option maxRecDepth 65536 in
theorem w_c2 : (Jvm.Cond.code ({ cls := "java/lang/Object", name := "<init>", desc := "()V" } : Jvm.MethodName) object_method_1_code (1 : Nat) (Option.none : Option Jvm.ClassFile.FieldType)).before args0 about1 = true := code_word (m := ⟨0, 0⟩) (meth := k0m0) (c := k0c0) (by decide +kernel) rfl rfl rfl (by decide +kernel)
set_option maxRecDepth 65536 in
theorem w_c3 : (Jvm.Cond.code ({ cls := "com/example/paretoloom/paretoloom/knapsack/Region", name := "admits", desc := "(JJ)Z" } : Jvm.MethodName) prog_45_method_2_code (6 : Nat) (Option.some Jvm.ClassFile.FieldType.boolean)).before args0 about1 = true := code_word (m := ⟨3, 1⟩) (meth := k3m1) (c := k3c1) (by decide +kernel) rfl rfl rfl (by decide +kernel)
def codes1 : List Jvm.Cond := [Jvm.Cond.code x code maxLocals ret, Jvm.Cond.code ({ cls := "com/example/paretoloom/paretoloom/knapsack/Region", name := "<init>", desc := "(I[J[J)V" } : Jvm.MethodName) prog_45_method_1_code (4 : Nat) (Option.none : Option Jvm.ClassFile.FieldType), Jvm.Cond.code ({ cls := "java/lang/Object", name := "<init>", desc := "()V" } : Jvm.MethodName) object_method_1_code (1 : Nat) (Option.none : Option Jvm.ClassFile.FieldType), Jvm.Cond.code ({ cls := "com/example/paretoloom/paretoloom/knapsack/Region", name := "admits", desc := "(JJ)Z" } : Jvm.MethodName) prog_45_method_2_code (6 : Nat) (Option.some Jvm.ClassFile.FieldType.boolean)]
set_option maxRecDepth 65536 in
theorem codes_eq : words1.filter isCode = codes1 := rfl
theorem w_codes : ∀ c ∈ words1.filter isCode, c.before args0 about1 = true := by
  rw [codes_eq]
  intro c hc
  simp only [codes1, List.mem_cons, List.not_mem_nil, or_false] at hc
  rcases hc with rfl | rfl | rfl | rfl
  · exact w_c0
  · exact w_c1
  · exact w_c2
  · exact w_c3
set_option maxRecDepth 65536 in
theorem w_t1 : (words1.take 24).all (fun c => isCode c || c.before args0 about1) = true := by decide +kernel
set_option maxRecDepth 65536 in
theorem w_t2 : (words1.drop 24).all (fun c => isCode c || c.before args0 about1) = true := by decide +kernel
theorem w_tables : (allAtoms (Jvm.Cond.code x code maxLocals ret :: tables_1)).before args0 about1 = true := by
  rw [allAtoms_all]
  show words1.all (fun c => c.before args0 about1) = true
  refine all_split ?_ w_codes
  rw [← List.take_append_drop 24 words1, List.all_append, w_t1, w_t2]
  rfl
set_option maxRecDepth 65536 in
theorem w_case : (Jvm.Cond.and given_1 narrow_1).before args0 about1 = true := by decide +kernel
theorem w_applies : (headSpec (Jvm.Cond.code x code maxLocals ret :: tables_1) room_1).applies x e0.platform about1 = true :=
  (Spec.applies_iff w_frames).mpr ⟨w_running, w_runnable, w_alone, w_named, w_hears, w_ripe, w_room, w_tables⟩
theorem atStart : AtStart classFile x code maxLocals ret World_1 tables_1 room_1 Calls_1 rest_1 Pre_1 launch0 p0 e0 about1 theMethod args0 below0 :=
  ⟨lists_1, trivial, launch0.admits_env _ _ _, launch0.least_env, fairChoices_fair.cas, fairChoices_fair.clock, w_frames, w_args, w_heap, w_applies, trivial, trivial, w_case⟩
end start1
theorem witness_1 : WitnessClaimed_1 := ⟨start1.p0, start1.e0, start1.about1, start1.theMethod, start1.args0, start1.below0, start1.atStart⟩
end Jvm.Pilot.@@N@@
