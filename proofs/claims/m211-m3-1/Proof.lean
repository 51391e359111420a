import JvmDerived
import JvmDerived.Pilot.@@N@@Statement
import JvmDerived.Pilot.@@N@@Code
set_option linter.unusedVariables false
set_option linter.unusedSimpArgs false
namespace Jvm.RoadKit
open Sem ClassFile Op Lib Jvm.Stand Jvm.Free Jvm.LawKit
section New
variable {p : Program} {l : Launch} {e : Env} {R : Room} {s : State} {m : MethodId} {args : Array Value} {below : List Frame} {meth : Method} {c : Code} {T : State} {locs : List Loc} {cells slots : Nat}
theorem retI (X : Stand p l e R s m args below meth c T locs cells slots) (hx : p.tables.exec = Jvm.exec) {pc : Nat} {Ls : Array Slot} {z : Int32} {rest : List Value} (hret : meth.sig.returnType = some .int) (hd : decode c.code pc = .ok (.ireturn, 1)) {fs : List Frame}
    (hl : ∀ (f : JFrame) (acts : List Action), f.method = m → f.locked = none → f.entered = [] → (doReturn e (T.setTop f) acts (some (.int z))).1 = T.setFrames fs) : Steps p.tables e below (T.setTop (mkF m pc Ls (.int z :: rest))) (T.setFrames fs) := by
  have hm' : T.vm.method? m = some meth := X.method'
  have hn : narrow .int (.int z) = .int z := rfl
  show Steps p.tables e below (T.setTop { method := m, pc := pc, locals := Ls, stack := _ :: rest, locked := none }) _
  jvm_step X.here [X.here.top, hx, hd, hm', hret, hn]
  first | (intro acts; rw [hl _ acts rfl rfl rfl]) | rw [hl _ _ rfl rfl rfl]
  exact Steps.refl _
end New
end Jvm.RoadKit
namespace Jvm.Pilot.@@N@@
open Jvm Jvm.ClassFile Sem Op Lib Jvm.Free Jvm.Stand Jvm.LawKit Jvm.RoadKit Bundle Jvm.Pilot.@@N@@.Jvm.D
/-- the fixed things of one body's walk -/
abbrev Wk : Type := Program × Launch × Env × Room × State × MethodId × Array Value × List Frame × Method × Code
abbrev Wk.p (W : Wk) : Program := W.1
abbrev Wk.l (W : Wk) : Launch := W.2.1
abbrev Wk.e (W : Wk) : Env := W.2.2.1
abbrev Wk.R (W : Wk) : Room := W.2.2.2.1
abbrev Wk.s (W : Wk) : State := W.2.2.2.2.1
abbrev Wk.m (W : Wk) : MethodId := W.2.2.2.2.2.1
abbrev Wk.args (W : Wk) : Array Value := W.2.2.2.2.2.2.1
abbrev Wk.below (W : Wk) : List Frame := W.2.2.2.2.2.2.2.1
abbrev Wk.meth (W : Wk) : Method := W.2.2.2.2.2.2.2.2.1
abbrev Wk.c (W : Wk) : Code := W.2.2.2.2.2.2.2.2.2
abbrev St (W : Wk) (T : State) (L : List Loc) (k n : Nat) : Prop := Stand W.p W.l W.e W.R W.s W.m W.args W.below W.meth W.c T L k n
abbrev Sp (W : Wk) (a b : State) : Prop := Steps W.p.tables W.e W.below a b
/-- what holds throughout the walk -/
def Cx (Z : State) (W : Wk) (rm : Room) (own nm : String) (bytes : ByteArray) (maxL : Nat) (ret : Option FieldType) : Prop :=
  W.p.tables.exec = Jvm.exec ∧ W.c.code = bytes ∧ W.c.maxLocals = maxL ∧ W.s.vm.findClass own = some W.m.cls ∧ W.meth.name = nm ∧ W.meth.sig.returnType = ret ∧ Z.Warmed39 W.s.vm ∧ W.meth.locks = false ∧ W.R = rm
section Cxs
variable {Z : State} {W : Wk} {rm : Room} {own nm : String} {bytes : ByteArray} {maxL : Nat} {ret : Option FieldType}
theorem Cx.x (C : Cx Z W rm own nm bytes maxL ret) : W.p.tables.exec = Jvm.exec := C.1
theorem Cx.b (C : Cx Z W rm own nm bytes maxL ret) : W.c.code = bytes := C.2.1
theorem Cx.ml (C : Cx Z W rm own nm bytes maxL ret) : W.c.maxLocals = maxL := C.2.2.1
theorem Cx.ow (C : Cx Z W rm own nm bytes maxL ret) : W.s.vm.findClass own = some W.m.cls := C.2.2.2.1
theorem Cx.na (C : Cx Z W rm own nm bytes maxL ret) : W.meth.name = nm := C.2.2.2.2.1
theorem Cx.re (C : Cx Z W rm own nm bytes maxL ret) : W.meth.sig.returnType = ret := C.2.2.2.2.2.1
theorem Cx.z (C : Cx Z W rm own nm bytes maxL ret) : Z.Warmed39 W.s.vm := C.2.2.2.2.2.2.1
theorem Cx.lk (C : Cx Z W rm own nm bytes maxL ret) : W.meth.locks = false := C.2.2.2.2.2.2.2.1
theorem Cx.ro (C : Cx Z W rm own nm bytes maxL ret) : W.R = rm := C.2.2.2.2.2.2.2.2
end Cxs
/-- the run comes to the invocation's end, with what Q says -/
def Ends (W : Wk) (n0 : Nat) (Q : Option Value → Heap → Prop) (U : State) : Prop :=
  ∃ s₂ o, Sp W U s₂ ∧ s₂.status = .running ∧ Ended s₂ W.below o ∧ ∃ v L, o = .returned v ∧ (Fr n0 L ∧ Q v s₂.heap) ∧ FrameEnd W.s o s₂ L W.R.cells W.R.slots
/-- from pc, with these locals and this stack, over the heap h, at most k cells of n slots made so far -/
def Go (W : Wk) (n0 : Nat) (Q : Option Value → Heap → Prop) (h : Heap) (k n pc : Nat) (ls : Array Slot) (st : List Value) : Prop :=
  ∀ T L k' n', St W T L k' n' → k' ≤ k → n' ≤ n → Fr n0 L → T.heap = h → Ends W n0 Q (T.setTop (mkF W.m pc ls st))
/-- a body's contract: on these arguments, over the heap h, it ends and Q holds of what it returns and of the heap that it leaves -/
def Met1 (l : Launch) (Z : State) (y : MethodName) (bytes : ByteArray) (maxL : Nat) (ret : Option FieldType) (ws : List Jvm.Cond) (rm : Room) (as : Array Value) (h : Heap) (n0 : Nat) (Q : Option Value → Heap → Prop) : Prop :=
  MetFree l y (head1 (Jvm.Cond.code y bytes maxL ret :: ws) rm) (fun a U => a = as ∧ Z.Warmed39 U.vm ∧ U.heap = h) (fun _ _ _ _ _ => True) (fun _ U o U' => ∃ v L, o = .returned v ∧ (Fr n0 L ∧ Q v U'.heap) ∧ FrameEnd U o U' L rm.cells rm.slots)
theorem met_of_go {l : Launch} {Z : State} {y : MethodName} {bytes : ByteArray} {maxL : Nat} {ret : Option FieldType} {ws : List Jvm.Cond} {rm : Room} {as : Array Value} {h : Heap} {n0 : Nat} {Q : Option Value → Heap → Prop} {ls : Array Slot}
    (hpl : plainFor y = true) (hef : ∀ m, entryFrame m as maxL = mkF m 0 ls [])
    (go : ∀ W : Wk, W.l = l → Cx Z W rm y.cls y.name bytes maxL ret → Go W n0 Q h 0 0 0 ls []) : Met1 l Z y bytes maxL ret ws rm as h n0 Q := by
  refine MetFree.of_bodySF hpl hisR ?_
  intro p e s m args below meth c s₁ Bd hml0 hP hK
  obtain ⟨rfl, hZ, hh⟩ := hP
  have X0 : Stand p l e rm s m args below meth c s₁ [] 0 0 := Stand.of_body Bd
  have e0 : s₁.heap = h := by rw [← hh, Bd.state]; rfl
  obtain ⟨s₂, o, h1, h2, h3, h4⟩ := go (p, l, e, rm, s, m, args, below, meth, c) rfl ⟨Bd.exec, Bd.bytes, hml0, findClass_of_methodNamed Bd.named, (name_of_methodNamed Bd.named Bd.method).1, Bd.returns, hZ, Bd.notSynchronized, rfl⟩ s₁ [] 0 0 X0 (Nat.le_refl _) (Nat.le_refl _) (Fr.nil n0) e0
  exact ⟨s₂, o, castTop (hef m) h1, h2, h3, h4⟩
section Gos
variable {Z : State} {W : Wk} {rm : Room} {own nm : String} {bytes : ByteArray} {maxL : Nat} {ret : Option FieldType} {n0 : Nat} {Q : Option Value → Heap → Prop} {h : Heap} {k n pc q : Nat} {ls : Array Slot} {st : List Value} {a0 : Array Value}
theorem Go.mono {k' n' : Nat} (hk : k ≤ k') (hn : n ≤ n') (g : Go W n0 Q h k' n' pc ls st) : Go W n0 Q h k n pc ls st :=
  fun T L a b X h1 h2 => g T L a b X (Nat.le_trans h1 hk) (Nat.le_trans h2 hn)
theorem Go.stepX {ls' : Array Slot} {st' : List Value} (f : ∀ T L a b tg, St W T L a b → T.heap = h → Sp W (T.setTop (mkF W.m q ls' st')) tg → Sp W (T.setTop (mkF W.m pc ls st)) tg) (hr : Go W n0 Q h k n q ls' st') : Go W n0 Q h k n pc ls st := by
  intro T L a b X hk hn N eT
  obtain ⟨s₂, o, hs, r⟩ := hr T L a b X hk hn N eT
  exact ⟨s₂, o, f T L a b _ X eT hs, r⟩
theorem Go.stepT {ls' : Array Slot} {st' : List Value} (f : ∀ T L a b, St W T L a b → T.heap = h → ∃ T', St W T' L a b ∧ T'.heap = h ∧ ∀ tg, Sp W (T'.setTop (mkF W.m q ls' st')) tg → Sp W (T.setTop (mkF W.m pc ls st)) tg) (hr : Go W n0 Q h k n q ls' st') : Go W n0 Q h k n pc ls st := by
  intro T L a b X hk hn N eT
  obtain ⟨T', X', e', sp⟩ := f T L a b X eT
  obtain ⟨s₂, o, hs, r⟩ := hr T' L a b X' hk hn N e'
  exact ⟨s₂, o, sp _ hs, r⟩

theorem Go.iload (C : Cx Z W rm own nm bytes maxL ret) {j : Nat} {v : Int32} (hd : decode bytes pc = .ok (.iload j, 2)) (hq : pc + 2 = q) (hl : ls[j]? = some (.val (.int v)))
    (hr : Go W n0 Q h k n q ls (.int v :: st)) : Go W n0 Q h k n pc ls st := by
  subst hq
  exact Go.stepX (fun T L a b tg X eT kk => XS.iload X.here C.x rfl (hb C.b hd) hl kk) hr
theorem Go.iloadN (C : Cx Z W rm own nm bytes maxL ret) {j : Fin 4} {v : Int32} (hd : decode bytes pc = .ok (.iload_n j, 1)) (hq : pc + 1 = q) (hl : ls[j.val]? = some (.val (.int v)))
    (hr : Go W n0 Q h k n q ls (.int v :: st)) : Go W n0 Q h k n pc ls st := by
  subst hq
  exact Go.stepX (fun T L a b tg X eT kk => XS.iloadN X.here C.x rfl (hb C.b hd) hl kk) hr
theorem Go.lload (C : Cx Z W rm own nm bytes maxL ret) {j : Nat} {v : Int64} (hd : decode bytes pc = .ok (.lload j, 2)) (hq : pc + 2 = q) (hl : ls[j]? = some (.val (.long v)))
    (hr : Go W n0 Q h k n q ls (.long v :: st)) : Go W n0 Q h k n pc ls st := by
  subst hq
  exact Go.stepX (fun T L a b tg X eT kk => XS.lload X.here C.x rfl (hb C.b hd) hl kk) hr
theorem Go.lloadN (C : Cx Z W rm own nm bytes maxL ret) {j : Fin 4} {v : Int64} (hd : decode bytes pc = .ok (.lload_n j, 1)) (hq : pc + 1 = q) (hl : ls[j.val]? = some (.val (.long v)))
    (hr : Go W n0 Q h k n q ls (.long v :: st)) : Go W n0 Q h k n pc ls st := by
  subst hq
  exact Go.stepX (fun T L a b tg X eT kk => XS.lloadN X.here C.x rfl (hb C.b hd) hl kk) hr
theorem Go.aload (C : Cx Z W rm own nm bytes maxL ret) {j : Nat} {v : Value} (hd : decode bytes pc = .ok (.aload j, 2)) (hq : pc + 2 = q) (hl : ls[j]? = some (.val v)) (hv : v.isRef = true)
    (hr : Go W n0 Q h k n q ls (v :: st)) : Go W n0 Q h k n pc ls st := by
  subst hq
  exact Go.stepX (fun T L a b tg X eT kk => XS.aload X.here C.x rfl (hb C.b hd) hl hv kk) hr
theorem Go.aloadN (C : Cx Z W rm own nm bytes maxL ret) {j : Fin 4} {v : Value} (hd : decode bytes pc = .ok (.aload_n j, 1)) (hq : pc + 1 = q) (hl : ls[j.val]? = some (.val v)) (hv : v.isRef = true)
    (hr : Go W n0 Q h k n q ls (v :: st)) : Go W n0 Q h k n pc ls st := by
  subst hq
  exact Go.stepX (fun T L a b tg X eT kk => XS.aloadN X.here C.x rfl (hb C.b hd) hl hv kk) hr
theorem Go.istore (C : Cx Z W rm own nm bytes maxL ret) {j : Nat} {x : Int32} (hd : decode bytes pc = .ok (.istore j, 2)) (hq : pc + 2 = q) (l' : Int32 → Array Slot) (hl : ∀ v, storeLocals ls j (.int v) = some (l' v))
    (hr : ∀ v, v = x → Go W n0 Q h k n q (l' v) st) : Go W n0 Q h k n pc ls (.int x :: st) := by
  subst hq
  exact Go.stepX (fun T L a b tg X eT kk => XS.istore X.here C.x rfl (hb C.b hd) rfl (hl x) kk) (hr x rfl)
theorem Go.istoreN (C : Cx Z W rm own nm bytes maxL ret) {j : Fin 4} {x : Int32} (hd : decode bytes pc = .ok (.istore_n j, 1)) (hq : pc + 1 = q) (l' : Int32 → Array Slot) (hl : ∀ v, storeLocals ls j.val (.int v) = some (l' v))
    (hr : ∀ v, v = x → Go W n0 Q h k n q (l' v) st) : Go W n0 Q h k n pc ls (.int x :: st) := by
  subst hq
  exact Go.stepX (fun T L a b tg X eT kk => XS.istoreN X.here C.x rfl (hb C.b hd) rfl (hl x) kk) (hr x rfl)
theorem Go.lstore (C : Cx Z W rm own nm bytes maxL ret) {j : Nat} {x : Int64} (hd : decode bytes pc = .ok (.lstore j, 2)) (hq : pc + 2 = q) (l' : Int64 → Array Slot) (hl : ∀ v, storeLocals ls j (.long v) = some (l' v))
    (hr : ∀ v, v = x → Go W n0 Q h k n q (l' v) st) : Go W n0 Q h k n pc ls (.long x :: st) := by
  subst hq
  exact Go.stepX (fun T L a b tg X eT kk => XS.lstore X.here C.x rfl (hb C.b hd) rfl (hl x) kk) (hr x rfl)
theorem Go.lstoreN (C : Cx Z W rm own nm bytes maxL ret) {j : Fin 4} {x : Int64} (hd : decode bytes pc = .ok (.lstore_n j, 1)) (hq : pc + 1 = q) (l' : Int64 → Array Slot) (hl : ∀ v, storeLocals ls j.val (.long v) = some (l' v))
    (hr : ∀ v, v = x → Go W n0 Q h k n q (l' v) st) : Go W n0 Q h k n pc ls (.long x :: st) := by
  subst hq
  exact Go.stepX (fun T L a b tg X eT kk => XS.lstoreN X.here C.x rfl (hb C.b hd) rfl (hl x) kk) (hr x rfl)
theorem Go.astore (C : Cx Z W rm own nm bytes maxL ret) {j : Nat} {x : Value} (hd : decode bytes pc = .ok (.astore j, 2)) (hq : pc + 2 = q) {l' : Array Slot} (hv : x.isRef = true) (hl : storeLocals ls j x = some l')
    (hr : Go W n0 Q h k n q l' st) : Go W n0 Q h k n pc ls (x :: st) := by
  subst hq
  exact Go.stepX (fun T L a b tg X eT kk => XS.astore X.here C.x rfl (hb C.b hd) rfl hv hl kk) hr
theorem Go.astoreN (C : Cx Z W rm own nm bytes maxL ret) {j : Fin 4} {x : Value} (hd : decode bytes pc = .ok (.astore_n j, 1)) (hq : pc + 1 = q) {l' : Array Slot} (hv : x.isRef = true) (hl : storeLocals ls j.val x = some l')
    (hr : Go W n0 Q h k n q l' st) : Go W n0 Q h k n pc ls (x :: st) := by
  subst hq
  exact Go.stepX (fun T L a b tg X eT kk => XS.astoreN X.here C.x rfl (hb C.b hd) rfl hv hl kk) hr
theorem Go.istoreR (C : Cx Z W rm own nm bytes maxL ret) {j : Nat} {x : Int32} (hd : decode bytes pc = .ok (.istore j, 2)) (hq : pc + 2 = q) {l' : Array Slot} (hl : storeLocals ls j (.int x) = some l')
    (hr : Go W n0 Q h k n q l' st) : Go W n0 Q h k n pc ls (.int x :: st) := by
  subst hq
  exact Go.stepX (fun T L a b tg X eT kk => XS.istore X.here C.x rfl (hb C.b hd) rfl hl kk) hr
theorem Go.istoreNR (C : Cx Z W rm own nm bytes maxL ret) {j : Fin 4} {x : Int32} (hd : decode bytes pc = .ok (.istore_n j, 1)) (hq : pc + 1 = q) {l' : Array Slot} (hl : storeLocals ls j.val (.int x) = some l')
    (hr : Go W n0 Q h k n q l' st) : Go W n0 Q h k n pc ls (.int x :: st) := by
  subst hq
  exact Go.stepX (fun T L a b tg X eT kk => XS.istoreN X.here C.x rfl (hb C.b hd) rfl hl kk) hr
theorem Go.lstoreR (C : Cx Z W rm own nm bytes maxL ret) {j : Nat} {x : Int64} (hd : decode bytes pc = .ok (.lstore j, 2)) (hq : pc + 2 = q) {l' : Array Slot} (hl : storeLocals ls j (.long x) = some l')
    (hr : Go W n0 Q h k n q l' st) : Go W n0 Q h k n pc ls (.long x :: st) := by
  subst hq
  exact Go.stepX (fun T L a b tg X eT kk => XS.lstore X.here C.x rfl (hb C.b hd) rfl hl kk) hr
theorem Go.lstoreNR (C : Cx Z W rm own nm bytes maxL ret) {j : Fin 4} {x : Int64} (hd : decode bytes pc = .ok (.lstore_n j, 1)) (hq : pc + 1 = q) {l' : Array Slot} (hl : storeLocals ls j.val (.long x) = some l')
    (hr : Go W n0 Q h k n q l' st) : Go W n0 Q h k n pc ls (.long x :: st) := by
  subst hq
  exact Go.stepX (fun T L a b tg X eT kk => XS.lstoreN X.here C.x rfl (hb C.b hd) rfl hl kk) hr
theorem Go.iincR (C : Cx Z W rm own nm bytes maxL ret) {j : Nat} {cst : Int} {x : Int32} (hd : decode bytes pc = .ok (.iinc j cst, 3)) (hq : pc + 3 = q) (hl0 : ls[j]? = some (.val (.int x))) {l' : Array Slot} (hl : storeLocals ls j (.int (x + Int32.ofInt cst)) = some l')
    (hr : Go W n0 Q h k n q l' st) : Go W n0 Q h k n pc ls st := by
  subst hq
  exact Go.stepX (fun T L a b tg X eT kk => XS.iinc X.here C.x rfl (hb C.b hd) hl0 hl kk) hr
theorem Go.iinc (C : Cx Z W rm own nm bytes maxL ret) {j : Nat} {cst : Int} {x y : Int32} (hd : decode bytes pc = .ok (.iinc j cst, 3)) (hq : pc + 3 = q) (hl0 : ls[j]? = some (.val (.int x))) (hy : Int32.ofInt cst = y) (l' : Int32 → Array Slot) (hl : ∀ v, storeLocals ls j (.int v) = some (l' v))
    (hr : ∀ v, v = x + y → Go W n0 Q h k n q (l' v) st) : Go W n0 Q h k n pc ls st := by
  subst hq hy
  exact Go.stepX (fun T L a b tg X eT kk => XS.iinc X.here C.x rfl (hb C.b hd) hl0 (hl _) kk) (hr _ rfl)
theorem Go.iconst (C : Cx Z W rm own nm bytes maxL ret) {i : Int} (v : Int32) (hd : decode bytes pc = .ok (.iconst i, 1)) (hq : pc + 1 = q) (hv : Int32.ofInt i = v)
    (hr : Go W n0 Q h k n q ls (.int v :: st)) : Go W n0 Q h k n pc ls st := by
  subst hq hv
  exact Go.stepX (fun T L a b tg X eT kk => XS.iconst X.here C.x rfl (hb C.b hd) kk) hr
theorem Go.bipush (C : Cx Z W rm own nm bytes maxL ret) {i : Int} (v : Int32) (hd : decode bytes pc = .ok (.bipush i, 2)) (hq : pc + 2 = q) (hv : (Int8.ofInt i).toInt32 = v)
    (hr : Go W n0 Q h k n q ls (.int v :: st)) : Go W n0 Q h k n pc ls st := by
  subst hq hv
  exact Go.stepX (fun T L a b tg X eT kk => XS.bipush X.here C.x rfl (hb C.b hd) kk) hr
theorem Go.sipush (C : Cx Z W rm own nm bytes maxL ret) {i : Int} (v : Int32) (hd : decode bytes pc = .ok (.sipush i, 3)) (hq : pc + 3 = q) (hv : (Int16.ofInt i).toInt32 = v)
    (hr : Go W n0 Q h k n q ls (.int v :: st)) : Go W n0 Q h k n pc ls st := by
  subst hq hv
  exact Go.stepX (fun T L a b tg X eT kk => XS.sipush X.here C.x rfl (hb C.b hd) kk) hr
theorem Go.lconst (C : Cx Z W rm own nm bytes maxL ret) {i : Fin 2} (v : Int64) (hd : decode bytes pc = .ok (.lconst i, 1)) (hq : pc + 1 = q) (hv : Int64.ofNat i = v)
    (hr : Go W n0 Q h k n q ls (.long v :: st)) : Go W n0 Q h k n pc ls st := by
  subst hq hv
  exact Go.stepX (fun T L a b tg X eT kk => XS.lconst X.here C.x rfl (hb C.b hd) kk) hr
theorem Go.aconstNull (C : Cx Z W rm own nm bytes maxL ret)  (hd : decode bytes pc = .ok (.aconst_null, 1)) (hq : pc + 1 = q)
    (hr : Go W n0 Q h k n q ls (.null :: st)) : Go W n0 Q h k n pc ls st := by
  subst hq
  exact Go.stepX (fun T L a b tg X eT kk => XS.aconstNull X.here C.x rfl (hb C.b hd) kk) hr
theorem Go.ldcI (C : Cx Z W rm own nm bytes maxL ret) {index : Nat} {v : Int32} (w : (Jvm.Cond.constant own index v).before a0 Z = true) (hd : decode bytes pc = .ok (.ldc index, 2)) (hq : pc + 2 = q)
    (hr : Go W n0 Q h k n q ls (.int v :: st)) : Go W n0 Q h k n pc ls st := by
  subst hq
  exact Go.stepX (fun T L a b tg X eT kk => X.ldcInt C.x C.ow (mvT C.z w) (g := mkF W.m pc ls st) rfl (hb C.b hd) _ kk) hr
theorem Go.ldcwI (C : Cx Z W rm own nm bytes maxL ret) {index : Nat} {v : Int32} (w : (Jvm.Cond.constant own index v).before a0 Z = true) (hd : decode bytes pc = .ok (.ldc_w index, 3)) (hq : pc + 3 = q)
    (hr : Go W n0 Q h k n q ls (.int v :: st)) : Go W n0 Q h k n pc ls st := by
  subst hq
  exact Go.stepX (fun T L a b tg X eT kk => X.ldcwInt C.x C.ow (mvT C.z w) (g := mkF W.m pc ls st) rfl (hb C.b hd) _ kk) hr
theorem Go.ldc2J (C : Cx Z W rm own nm bytes maxL ret) {index : Nat} {v : Int64} (w : (Jvm.Cond.constantLong own index v).before a0 Z = true) (hd : decode bytes pc = .ok (.ldc2_w index, 3)) (hq : pc + 3 = q)
    (hr : Go W n0 Q h k n q ls (.long v :: st)) : Go W n0 Q h k n pc ls st := by
  subst hq
  exact Go.stepX (fun T L a b tg X eT kk => X.ldc2Long C.x C.ow (mvT C.z w) (g := mkF W.m pc ls st) rfl (hb C.b hd) _ kk) hr
theorem Go.iadd (C : Cx Z W rm own nm bytes maxL ret) {x y : Int32} (hd : decode bytes pc = .ok (.iadd, 1)) (hq : pc + 1 = q)
    (hr : Go W n0 Q h k n q ls (.int (x + y) :: st)) : Go W n0 Q h k n pc ls (.int y :: .int x :: st) := by
  subst hq
  exact Go.stepX (fun T L a b tg X eT kk => XS.iadd X.here C.x rfl (hb C.b hd) rfl kk) hr
theorem Go.ladd (C : Cx Z W rm own nm bytes maxL ret) {x y : Int64} (hd : decode bytes pc = .ok (.ladd, 1)) (hq : pc + 1 = q)
    (hr : Go W n0 Q h k n q ls (.long (x + y) :: st)) : Go W n0 Q h k n pc ls (.long y :: .long x :: st) := by
  subst hq
  exact Go.stepX (fun T L a b tg X eT kk => XS.ladd X.here C.x rfl (hb C.b hd) rfl kk) hr
theorem Go.isub (C : Cx Z W rm own nm bytes maxL ret) {x y : Int32} (hd : decode bytes pc = .ok (.isub, 1)) (hq : pc + 1 = q)
    (hr : Go W n0 Q h k n q ls (.int (x - y) :: st)) : Go W n0 Q h k n pc ls (.int y :: .int x :: st) := by
  subst hq
  exact Go.stepX (fun T L a b tg X eT kk => XS.isub X.here C.x rfl (hb C.b hd) rfl kk) hr
theorem Go.lsub (C : Cx Z W rm own nm bytes maxL ret) {x y : Int64} (hd : decode bytes pc = .ok (.lsub, 1)) (hq : pc + 1 = q)
    (hr : Go W n0 Q h k n q ls (.long (x - y) :: st)) : Go W n0 Q h k n pc ls (.long y :: .long x :: st) := by
  subst hq
  exact Go.stepX (fun T L a b tg X eT kk => XS.lsub X.here C.x rfl (hb C.b hd) rfl kk) hr
theorem Go.imul (C : Cx Z W rm own nm bytes maxL ret) {x y : Int32} (hd : decode bytes pc = .ok (.imul, 1)) (hq : pc + 1 = q)
    (hr : Go W n0 Q h k n q ls (.int (x * y) :: st)) : Go W n0 Q h k n pc ls (.int y :: .int x :: st) := by
  subst hq
  exact Go.stepX (fun T L a b tg X eT kk => XS.imul X.here C.x rfl (hb C.b hd) rfl kk) hr
theorem Go.lmul (C : Cx Z W rm own nm bytes maxL ret) {x y : Int64} (hd : decode bytes pc = .ok (.lmul, 1)) (hq : pc + 1 = q)
    (hr : Go W n0 Q h k n q ls (.long (x * y) :: st)) : Go W n0 Q h k n pc ls (.long y :: .long x :: st) := by
  subst hq
  exact Go.stepX (fun T L a b tg X eT kk => XS.lmul X.here C.x rfl (hb C.b hd) rfl kk) hr
theorem Go.iand (C : Cx Z W rm own nm bytes maxL ret) {x y : Int32} (hd : decode bytes pc = .ok (.iand, 1)) (hq : pc + 1 = q)
    (hr : Go W n0 Q h k n q ls (.int (x &&& y) :: st)) : Go W n0 Q h k n pc ls (.int y :: .int x :: st) := by
  subst hq
  exact Go.stepX (fun T L a b tg X eT kk => XS.iand X.here C.x rfl (hb C.b hd) rfl kk) hr
theorem Go.land (C : Cx Z W rm own nm bytes maxL ret) {x y : Int64} (hd : decode bytes pc = .ok (.land, 1)) (hq : pc + 1 = q)
    (hr : Go W n0 Q h k n q ls (.long (x &&& y) :: st)) : Go W n0 Q h k n pc ls (.long y :: .long x :: st) := by
  subst hq
  exact Go.stepX (fun T L a b tg X eT kk => XS.land X.here C.x rfl (hb C.b hd) rfl kk) hr
theorem Go.ior (C : Cx Z W rm own nm bytes maxL ret) {x y : Int32} (hd : decode bytes pc = .ok (.ior, 1)) (hq : pc + 1 = q)
    (hr : Go W n0 Q h k n q ls (.int (x ||| y) :: st)) : Go W n0 Q h k n pc ls (.int y :: .int x :: st) := by
  subst hq
  exact Go.stepX (fun T L a b tg X eT kk => XS.ior X.here C.x rfl (hb C.b hd) rfl kk) hr
theorem Go.lor (C : Cx Z W rm own nm bytes maxL ret) {x y : Int64} (hd : decode bytes pc = .ok (.lor, 1)) (hq : pc + 1 = q)
    (hr : Go W n0 Q h k n q ls (.long (x ||| y) :: st)) : Go W n0 Q h k n pc ls (.long y :: .long x :: st) := by
  subst hq
  exact Go.stepX (fun T L a b tg X eT kk => XS.lor X.here C.x rfl (hb C.b hd) rfl kk) hr
theorem Go.ixor (C : Cx Z W rm own nm bytes maxL ret) {x y : Int32} (hd : decode bytes pc = .ok (.ixor, 1)) (hq : pc + 1 = q)
    (hr : Go W n0 Q h k n q ls (.int (x ^^^ y) :: st)) : Go W n0 Q h k n pc ls (.int y :: .int x :: st) := by
  subst hq
  exact Go.stepX (fun T L a b tg X eT kk => XS.ixor X.here C.x rfl (hb C.b hd) rfl kk) hr
theorem Go.lxor (C : Cx Z W rm own nm bytes maxL ret) {x y : Int64} (hd : decode bytes pc = .ok (.lxor, 1)) (hq : pc + 1 = q)
    (hr : Go W n0 Q h k n q ls (.long (x ^^^ y) :: st)) : Go W n0 Q h k n pc ls (.long y :: .long x :: st) := by
  subst hq
  exact Go.stepX (fun T L a b tg X eT kk => XS.lxor X.here C.x rfl (hb C.b hd) rfl kk) hr
theorem Go.irem (C : Cx Z W rm own nm bytes maxL ret) {x y : Int32} (hd : decode bytes pc = .ok (.irem, 1)) (hq : pc + 1 = q) (hy : y ≠ 0)
    (hr : Go W n0 Q h k n q ls (.int (x % y) :: st)) : Go W n0 Q h k n pc ls (.int y :: .int x :: st) := by
  subst hq
  exact Go.stepX (fun T L a b tg X eT kk => iremM X C.x rfl (hb C.b hd) rfl hy kk) hr
theorem Go.idiv (C : Cx Z W rm own nm bytes maxL ret) {x y : Int32} (hd : decode bytes pc = .ok (.idiv, 1)) (hq : pc + 1 = q) (hy : y ≠ 0)
    (hr : Go W n0 Q h k n q ls (.int (x / y) :: st)) : Go W n0 Q h k n pc ls (.int y :: .int x :: st) := by
  subst hq
  exact Go.stepX (fun T L a b tg X eT kk => XS.idiv X.here C.x rfl (hb C.b hd) rfl hy kk) hr
theorem Go.lrem (C : Cx Z W rm own nm bytes maxL ret) {x y : Int64} (hd : decode bytes pc = .ok (.lrem, 1)) (hq : pc + 1 = q) (hy : y ≠ 0)
    (hr : Go W n0 Q h k n q ls (.long (x - (x / y) * y) :: st)) : Go W n0 Q h k n pc ls (.long y :: .long x :: st) := by
  subst hq
  exact Go.stepX (fun T L a b tg X eT kk => XS.lrem X.here C.x rfl (hb C.b hd) rfl hy kk) hr
theorem Go.ldiv (C : Cx Z W rm own nm bytes maxL ret) {x y : Int64} (hd : decode bytes pc = .ok (.ldiv, 1)) (hq : pc + 1 = q) (hy : y ≠ 0)
    (hr : Go W n0 Q h k n q ls (.long (x / y) :: st)) : Go W n0 Q h k n pc ls (.long y :: .long x :: st) := by
  subst hq
  exact Go.stepX (fun T L a b tg X eT kk => XS.ldiv X.here C.x rfl (hb C.b hd) rfl hy kk) hr
theorem Go.ineg (C : Cx Z W rm own nm bytes maxL ret) {x : Int32} (hd : decode bytes pc = .ok (.ineg, 1)) (hq : pc + 1 = q)
    (hr : Go W n0 Q h k n q ls (.int (-x) :: st)) : Go W n0 Q h k n pc ls (.int x :: st) := by
  subst hq
  exact Go.stepX (fun T L a b tg X eT kk => XS.ineg X.here C.x rfl (hb C.b hd) rfl kk) hr
theorem Go.lneg (C : Cx Z W rm own nm bytes maxL ret) {x : Int64} (hd : decode bytes pc = .ok (.lneg, 1)) (hq : pc + 1 = q)
    (hr : Go W n0 Q h k n q ls (.long (-x) :: st)) : Go W n0 Q h k n pc ls (.long x :: st) := by
  subst hq
  exact Go.stepX (fun T L a b tg X eT kk => XS.lneg X.here C.x rfl (hb C.b hd) rfl kk) hr
theorem Go.i2l (C : Cx Z W rm own nm bytes maxL ret) {x : Int32} (hd : decode bytes pc = .ok (.i2l, 1)) (hq : pc + 1 = q)
    (hr : Go W n0 Q h k n q ls (.long x.toInt64 :: st)) : Go W n0 Q h k n pc ls (.int x :: st) := by
  subst hq
  exact Go.stepX (fun T L a b tg X eT kk => XS.i2l X.here C.x rfl (hb C.b hd) rfl kk) hr
theorem Go.l2i (C : Cx Z W rm own nm bytes maxL ret) {x : Int64} (hd : decode bytes pc = .ok (.l2i, 1)) (hq : pc + 1 = q)
    (hr : Go W n0 Q h k n q ls (.int x.toInt32 :: st)) : Go W n0 Q h k n pc ls (.long x :: st) := by
  subst hq
  exact Go.stepX (fun T L a b tg X eT kk => XS.l2i X.here C.x rfl (hb C.b hd) rfl kk) hr
theorem Go.i2b (C : Cx Z W rm own nm bytes maxL ret) {x : Int32} (hd : decode bytes pc = .ok (.i2b, 1)) (hq : pc + 1 = q)
    (hr : Go W n0 Q h k n q ls (.int x.toInt8.toInt32 :: st)) : Go W n0 Q h k n pc ls (.int x :: st) := by
  subst hq
  exact Go.stepX (fun T L a b tg X eT kk => XS.i2b X.here C.x rfl (hb C.b hd) rfl kk) hr
theorem Go.i2s (C : Cx Z W rm own nm bytes maxL ret) {x : Int32} (hd : decode bytes pc = .ok (.i2s, 1)) (hq : pc + 1 = q)
    (hr : Go W n0 Q h k n q ls (.int x.toInt16.toInt32 :: st)) : Go W n0 Q h k n pc ls (.int x :: st) := by
  subst hq
  exact Go.stepX (fun T L a b tg X eT kk => XS.i2s X.here C.x rfl (hb C.b hd) rfl kk) hr
theorem Go.i2c (C : Cx Z W rm own nm bytes maxL ret) {x : Int32} (hd : decode bytes pc = .ok (.i2c, 1)) (hq : pc + 1 = q)
    (hr : Go W n0 Q h k n q ls (.int x.toUInt32.toUInt16.toUInt32.toInt32 :: st)) : Go W n0 Q h k n pc ls (.int x :: st) := by
  subst hq
  exact Go.stepX (fun T L a b tg X eT kk => XS.i2c X.here C.x rfl (hb C.b hd) rfl kk) hr
theorem Go.ishl (C : Cx Z W rm own nm bytes maxL ret) {x : Int32} {y : Int32} (hd : decode bytes pc = .ok (.ishl, 1)) (hq : pc + 1 = q)
    (hr : Go W n0 Q h k n q ls (.int (x <<< (y &&& 31)) :: st)) : Go W n0 Q h k n pc ls (.int y :: .int x :: st) := by
  subst hq
  exact Go.stepX (fun T L a b tg X eT kk => XS.ishl X.here C.x rfl (hb C.b hd) rfl kk) hr
theorem Go.ishr (C : Cx Z W rm own nm bytes maxL ret) {x : Int32} {y : Int32} (hd : decode bytes pc = .ok (.ishr, 1)) (hq : pc + 1 = q)
    (hr : Go W n0 Q h k n q ls (.int (x >>> (y &&& 31)) :: st)) : Go W n0 Q h k n pc ls (.int y :: .int x :: st) := by
  subst hq
  exact Go.stepX (fun T L a b tg X eT kk => XS.ishr X.here C.x rfl (hb C.b hd) rfl kk) hr
theorem Go.iushr (C : Cx Z W rm own nm bytes maxL ret) {x : Int32} {y : Int32} (hd : decode bytes pc = .ok (.iushr, 1)) (hq : pc + 1 = q)
    (hr : Go W n0 Q h k n q ls (.int ((x.toUInt32 >>> (y &&& 31).toUInt32).toInt32) :: st)) : Go W n0 Q h k n pc ls (.int y :: .int x :: st) := by
  subst hq
  exact Go.stepX (fun T L a b tg X eT kk => XS.iushr X.here C.x rfl (hb C.b hd) rfl kk) hr
theorem Go.lshl (C : Cx Z W rm own nm bytes maxL ret) {x : Int64} {y : Int32} (hd : decode bytes pc = .ok (.lshl, 1)) (hq : pc + 1 = q)
    (hr : Go W n0 Q h k n q ls (.long (x <<< (y &&& 0x3f).toInt64) :: st)) : Go W n0 Q h k n pc ls (.int y :: .long x :: st) := by
  subst hq
  exact Go.stepX (fun T L a b tg X eT kk => XS.lshl X.here C.x rfl (hb C.b hd) rfl kk) hr
theorem Go.lshr (C : Cx Z W rm own nm bytes maxL ret) {x : Int64} {y : Int32} (hd : decode bytes pc = .ok (.lshr, 1)) (hq : pc + 1 = q)
    (hr : Go W n0 Q h k n q ls (.long (x >>> (y &&& 0x3f).toInt64) :: st)) : Go W n0 Q h k n pc ls (.int y :: .long x :: st) := by
  subst hq
  exact Go.stepX (fun T L a b tg X eT kk => XS.lshr X.here C.x rfl (hb C.b hd) rfl kk) hr
theorem Go.lushr (C : Cx Z W rm own nm bytes maxL ret) {x : Int64} {y : Int32} (hd : decode bytes pc = .ok (.lushr, 1)) (hq : pc + 1 = q)
    (hr : Go W n0 Q h k n q ls (.long ((x.toUInt64 >>> (y &&& 0x3f).toInt64.toUInt64).toInt64) :: st)) : Go W n0 Q h k n pc ls (.int y :: .long x :: st) := by
  subst hq
  exact Go.stepX (fun T L a b tg X eT kk => XS.lushr X.here C.x rfl (hb C.b hd) rfl kk) hr
theorem Go.i2d (C : Cx Z W rm own nm bytes maxL ret) {x : Int32} (hd : decode bytes pc = .ok (.i2d, 1)) (hq : pc + 1 = q)
    (hr : Go W n0 Q h k n q ls (.double (FP.l2d x.toInt64) :: st)) : Go W n0 Q h k n pc ls (.int x :: st) := by
  subst hq
  exact Go.stepX (fun T L a b tg X eT kk => XS.i2dS X.here C.x rfl (hb C.b hd) rfl (Jvm.RoadKit.i2d_w x) kk) hr
theorem Go.dcmp (C : Cx Z W rm own nm bytes maxL ret) {o : CmpOp} {x y : Int64} (hd : decode bytes pc = .ok (.dcmp o, 1)) (hq : pc + 1 = q) (hx : B53 x) (hy : B53 y)
    (hr : Go W n0 Q h k n q ls (.int (lcmpW x y) :: st)) : Go W n0 Q h k n pc ls (.double (FP.l2d y) :: .double (FP.l2d x) :: st) := by
  subst hq
  exact Go.stepX (fun T L a b tg X eT kk => XS.dcmpS X.here C.x rfl (hb C.b hd) rfl (dcmpV_w hx hy o) kk) hr
theorem Go.lcmp (C : Cx Z W rm own nm bytes maxL ret) {x y : Int64} (hd : decode bytes pc = .ok (.lcmp, 1)) (hq : pc + 1 = q)
    (hr : Go W n0 Q h k n q ls (.int (lcmpW x y) :: st)) : Go W n0 Q h k n pc ls (.long y :: .long x :: st) := by
  subst hq
  exact Go.stepX (fun T L a b tg X eT kk => XS.lcmp X.here C.x rfl (hb C.b hd) rfl kk) hr
theorem Go.pop (C : Cx Z W rm own nm bytes maxL ret) {x : Value} (hd : decode bytes pc = .ok (.pop, 1)) (hq : pc + 1 = q) (hc : x.category = 1)
    (hr : Go W n0 Q h k n q ls st) : Go W n0 Q h k n pc ls (x :: st) := by
  subst hq
  exact Go.stepX (fun T L a b tg X eT kk => XS.pop X.here C.x rfl (hb C.b hd) rfl hc kk) hr
theorem Go.dup (C : Cx Z W rm own nm bytes maxL ret) {x : Value} (hd : decode bytes pc = .ok (.dup, 1)) (hq : pc + 1 = q) (hc : x.category = 1)
    (hr : Go W n0 Q h k n q ls (x :: x :: st)) : Go W n0 Q h k n pc ls (x :: st) := by
  subst hq
  exact Go.stepX (fun T L a b tg X eT kk => XS.dup X.here C.x rfl (hb C.b hd) rfl hc kk) hr
theorem Go.dup2 (C : Cx Z W rm own nm bytes maxL ret) {x y : Value} (hd : decode bytes pc = .ok (.dup2, 1)) (hq : pc + 1 = q) (hc : x.category = 1) (hc' : y.category = 1)
    (hr : Go W n0 Q h k n q ls (x :: y :: x :: y :: st)) : Go W n0 Q h k n pc ls (x :: y :: st) := by
  subst hq
  exact Go.stepX (fun T L a b tg X eT kk => XT.dup2 X.here C.x rfl (hb C.b hd) rfl hc hc' kk) hr
theorem Go.goto (C : Cx Z W rm own nm bytes maxL ret) {o : Int} (hd : decode bytes pc = .ok (.goto o, 3)) (ho : 0 ≤ (pc : Int) + o) (hp : ((pc : Int) + o).toNat = q)
    (hr : Go W n0 Q h k n q ls st) : Go W n0 Q h k n pc ls st :=
  Go.stepX (fun T L a b tg X eT kk => XS.goto X.here C.x rfl (pc0 := pc) rfl (hb C.b hd) ho hp kk) hr
theorem Go.icmp (C : Cx Z W rm own nm bytes maxL ret) {cd : ClassFile.Cond} {o : Int} {x y : Int32} {qt : Nat} {P : Prop} [Decidable P] (hd : decode bytes pc = .ok (.if_icmp cd o, 3)) (hP : if_icmp.holds cd x y = decide P) (ho : 0 ≤ (pc : Int) + o) (hp : ((pc : Int) + o).toNat = qt) (hq : pc + 3 = q)
    (ht : P → Go W n0 Q h k n qt ls st) (hf : ¬ P → Go W n0 Q h k n q ls st) : Go W n0 Q h k n pc ls (.int y :: .int x :: st) := by
  subst hq
  by_cases p : P
  · exact Go.stepX (fun T L a b tg X eT kk => XS.icmpYes X.here C.x rfl (pc0 := pc) rfl (hb C.b hd) rfl (hP.trans (decide_eq_true p)) ho hp kk) (ht p)
  · exact Go.stepX (fun T L a b tg X eT kk => XS.icmpNo X.here C.x rfl (hb C.b hd) rfl (hP.trans (decide_eq_false p)) kk) (hf p)
theorem Go.if0 (C : Cx Z W rm own nm bytes maxL ret) {cd : ClassFile.Cond} {o : Int} {x : Int32} {qt : Nat} {P : Prop} [Decidable P] (hd : decode bytes pc = .ok (.ifCond cd o, 3)) (hP : ifCond.holds cd x = decide P) (ho : 0 ≤ (pc : Int) + o) (hp : ((pc : Int) + o).toNat = qt) (hq : pc + 3 = q)
    (ht : P → Go W n0 Q h k n qt ls st) (hf : ¬ P → Go W n0 Q h k n q ls st) : Go W n0 Q h k n pc ls (.int x :: st) := by
  subst hq
  by_cases p : P
  · exact Go.stepX (fun T L a b tg X eT kk => XS.ifYes X.here C.x rfl (pc0 := pc) rfl (hb C.b hd) rfl (hP.trans (decide_eq_true p)) ho hp kk) (ht p)
  · exact Go.stepX (fun T L a b tg X eT kk => XS.ifNo X.here C.x rfl (hb C.b hd) rfl (hP.trans (decide_eq_false p)) kk) (hf p)
theorem Go.ifnullY (C : Cx Z W rm own nm bytes maxL ret) {o : Int} (hd : decode bytes pc = .ok (.ifnull o, 3)) (ho : 0 ≤ (pc : Int) + o) (hp : ((pc : Int) + o).toNat = q)
    (hr : Go W n0 Q h k n q ls st) : Go W n0 Q h k n pc ls (.null :: st) :=
  Go.stepX (fun T L a b tg X eT kk => XS.ifnullYes X.here C.x rfl (pc0 := pc) rfl (hb C.b hd) rfl ho hp kk) hr
theorem Go.ifnullN (C : Cx Z W rm own nm bytes maxL ret) {o : Int} {a : Addr} (hd : decode bytes pc = .ok (.ifnull o, 3)) (hq : pc + 3 = q)
    (hr : Go W n0 Q h k n q ls st) : Go W n0 Q h k n pc ls (.ref a :: st) := by
  subst hq
  exact Go.stepX (fun T L a b tg X eT kk => XS.ifnullNo X.here C.x rfl (hb C.b hd) rfl kk) hr
theorem Go.ifnonnullY (C : Cx Z W rm own nm bytes maxL ret) {o : Int} {a : Addr} (hd : decode bytes pc = .ok (.ifnonnull o, 3)) (ho : 0 ≤ (pc : Int) + o) (hp : ((pc : Int) + o).toNat = q)
    (hr : Go W n0 Q h k n q ls st) : Go W n0 Q h k n pc ls (.ref a :: st) :=
  Go.stepX (fun T L a b tg X eT kk => XS.ifnonnullYes X.here C.x rfl (pc0 := pc) rfl (hb C.b hd) rfl ho hp kk) hr
theorem Go.ifnonnullN (C : Cx Z W rm own nm bytes maxL ret) {o : Int} (hd : decode bytes pc = .ok (.ifnonnull o, 3)) (hq : pc + 3 = q)
    (hr : Go W n0 Q h k n q ls st) : Go W n0 Q h k n pc ls (.null :: st) := by
  subst hq
  exact Go.stepX (fun T L a b tg X eT kk => XS.ifnonnullNo X.here C.x rfl (hb C.b hd) rfl kk) hr
theorem Go.acmp (C : Cx Z W rm own nm bytes maxL ret) {cd : ACond} {o : Int} {x y : Value} {same : Bool} (hd : decode bytes pc = .ok (.if_acmp cd o, 3)) (h1 : x.isRef = true) (h2 : y.isRef = true) (hs : decide (x = y) = same) (ho : 0 ≤ (pc : Int) + o) (hp : q = if acV cd same = true then ((pc : Int) + o).toNat else pc + 3)
    (hr : Go W n0 Q h k n q ls st) : Go W n0 Q h k n pc ls (y :: x :: st) :=
  Go.stepX (fun T L a b tg X eT kk => Jvm.RoadKit.acmp X C.x rfl h1 h2 (pc0 := pc) rfl (hb C.b hd) rfl hs ho hp kk) hr
theorem n_lt (x y : Int32) : if_icmp.holds .lt x y = decide (x < y) := rfl
theorem n_ge (x y : Int32) : if_icmp.holds .ge x y = decide (¬ x < y) := by simp [if_icmp.holds, Int32.not_lt]
theorem n_gt (x y : Int32) : if_icmp.holds .gt x y = decide (y < x) := rfl
theorem n_le (x y : Int32) : if_icmp.holds .le x y = decide (¬ y < x) := by simp [if_icmp.holds, Int32.not_lt]
theorem n_eq (x y : Int32) : if_icmp.holds .eq x y = decide (x = y) := by by_cases e : x = y <;> simp [if_icmp.holds, e]
theorem n_ne (x y : Int32) : if_icmp.holds .ne x y = decide (¬ x = y) := by by_cases e : x = y <;> simp [if_icmp.holds, e]
theorem z_lt (x : Int32) : ifCond.holds .lt x = decide (x < 0) := (if0 _ x).trans (n_lt x 0)
theorem z_ge (x : Int32) : ifCond.holds .ge x = decide (¬ x < 0) := (if0 _ x).trans (n_ge x 0)
theorem z_gt (x : Int32) : ifCond.holds .gt x = decide (0 < x) := (if0 _ x).trans (n_gt x 0)
theorem z_le (x : Int32) : ifCond.holds .le x = decide (¬ 0 < x) := (if0 _ x).trans (n_le x 0)
theorem z_eq (x : Int32) : ifCond.holds .eq x = decide (x = 0) := (if0 _ x).trans (n_eq x 0)
theorem z_ne (x : Int32) : ifCond.holds .ne x = decide (¬ x = 0) := (if0 _ x).trans (n_ne x 0)
theorem l_lt (x y : Int64) : ifCond.holds .lt (lcmpW x y) = decide (x < y) := by rw [z_lt]; exact decide_eq_decide.mpr (lw_lt x y)
theorem l_ge (x y : Int64) : ifCond.holds .ge (lcmpW x y) = decide (¬ x < y) := by rw [z_ge]; exact decide_eq_decide.mpr (not_congr (lw_lt x y))
theorem l_gt (x y : Int64) : ifCond.holds .gt (lcmpW x y) = decide (y < x) := by rw [z_gt]; exact decide_eq_decide.mpr (lw_gt x y)
theorem l_le (x y : Int64) : ifCond.holds .le (lcmpW x y) = decide (¬ y < x) := by rw [z_le]; exact decide_eq_decide.mpr (not_congr (lw_gt x y))
theorem l_eq (x y : Int64) : ifCond.holds .eq (lcmpW x y) = decide (x = y) := by rw [z_eq]; exact decide_eq_decide.mpr (lw_eq x y)
theorem l_ne (x y : Int64) : ifCond.holds .ne (lcmpW x y) = decide (¬ x = y) := by rw [z_ne]; exact decide_eq_decide.mpr (not_congr (lw_eq x y))
theorem nar_b (x : Int32) : nar .byte x.toInt8.toInt32 = x.toInt8.toInt32 := by
  show x.toInt8.toInt32.toInt8.toInt32 = _
  simp
/-- what the law's own walk leaves -/
def QL : Option Value → Heap → Prop := fun v _ => v = some (.int 1)
/-! the ends -/
theorem Go.out {v : Option Value} (f : ∀ T L a b fs, St W T L a b → (∀ (g : JFrame) (acts : List Action), g.method = W.m → g.locked = none → g.entered = [] → (doReturn W.e (T.setTop g) acts v).1 = T.setFrames fs) → Sp W (T.setTop (mkF W.m pc ls st)) (T.setFrames fs)) (hv : W.meth.sig.returnType = none → v = none) (hlk : W.meth.locks = false) (hk : k ≤ W.R.cells) (hn : n ≤ W.R.slots) (hQ : Q v h) : Go W n0 Q h k n pc ls st := by
  intro T L a b X ha hb N eT
  obtain ⟨fs, hr, hrun, hended, hW, hsame⟩ := X.leave (v := v) hv hlk
  refine ⟨_, _, f T L a b fs X hr, hrun, hended, v, L, rfl, ⟨N, ?_⟩, ⟨_, rfl⟩, hW, hsame.mono (Nat.le_trans ha hk) (Nat.le_trans hb hn)⟩
  have e1 : (T.setFrames fs).heap = T.heap := rfl
  rw [e1, eT]
  exact hQ
theorem Go.retI (C : Cx Z W rm own nm bytes maxL (some .int)) {x : Int32} (hd : decode bytes pc = .ok (.ireturn, 1)) (hk : k ≤ rm.cells) (hn : n ≤ rm.slots) (hQ : Q (some (.int x)) h) : Go W n0 Q h k n pc ls (.int x :: st) :=
  Go.out (v := some (.int x)) (fun T L a b fs X hr => Jvm.RoadKit.retI X C.x C.re (hb C.b hd) hr) (fun e => by rw [C.re] at e; cases e) C.lk (by rw [C.ro]; exact hk) (by rw [C.ro]; exact hn) hQ
theorem Go.retZ {t : FieldType} (ht : t = .boolean ∨ t = .byte ∨ t = .char ∨ t = .short) (C : Cx Z W rm own nm bytes maxL (some t)) {x : Int32} (hd : decode bytes pc = .ok (.ireturn, 1)) (hk : k ≤ rm.cells) (hn : n ≤ rm.slots) (hQ : Q (some (.int (nar t x))) h) : Go W n0 Q h k n pc ls (.int x :: st) :=
  Go.out (v := some (.int (nar t x))) (fun T L a b fs X hr => retN X C.x (t := t) C.re ht (hb C.b hd) hr) (fun e => by rw [C.re] at e; cases e) C.lk (by rw [C.ro]; exact hk) (by rw [C.ro]; exact hn) hQ
theorem Go.retV (C : Cx Z W rm own nm bytes maxL none) (hd : decode bytes pc = .ok (.return_, 1)) (hk : k ≤ rm.cells) (hn : n ≤ rm.slots) (hQ : Q none h) : Go W n0 Q h k n pc ls [] :=
  Go.out (v := none) (fun T L a b fs X hr => X.returnOut C.x C.re (hb C.b hd) hr) (fun _ => rfl) C.lk (by rw [C.ro]; exact hk) (by rw [C.ro]; exact hn) hQ
theorem Go.retJ (C : Cx Z W rm own nm bytes maxL (some .long)) {x : Int64} (hd : decode bytes pc = .ok (.lreturn, 1)) (hk : k ≤ rm.cells) (hn : n ≤ rm.slots) (hQ : Q (some (.long x)) h) : Go W n0 Q h k n pc ls [.long x] :=
  Go.out (v := some (.long x)) (fun T L a b fs X hr => Stand.lreturnOut X C.x C.re (hb C.b hd) hr) (fun e => by rw [C.re] at e; cases e) C.lk (by rw [C.ro]; exact hk) (by rw [C.ro]; exact hn) hQ
theorem Go.retR {t : FieldType} (C : Cx Z W rm own nm bytes maxL (some t)) {v : Value} (hd : decode bytes pc = .ok (.areturn, 1)) (ht : t.isReference = true) (hv : v.isRef = true) (hnw : narrow t v = v) (hk : k ≤ rm.cells) (hn : n ≤ rm.slots) (hQ : Q (some v) h) : Go W n0 Q h k n pc ls (v :: st) :=
  Go.out (v := some v) (fun T L a b fs X hr => retOut X C.x (t := t) (i := .areturn) C.re hnw (Or.inr (Or.inr (Or.inr (Or.inr ⟨rfl, ht, hv⟩)))) (hb C.b hd) hr) (fun e => by rw [C.re] at e; cases e) C.lk (by rw [C.ro]; exact hk) (by rw [C.ro]; exact hn) hQ
/-! the calls -/
theorem met_weak {l : Launch} {y : MethodName} {as : Array Value} {Q' : Option Value → Heap → Prop} (M : Met1 l Z y bytes maxL ret [] rm as h n0 Q) (hQ : ∀ v h', Q v h' → Q' v h') : Met1 l Z y bytes maxL ret [] rm as h n0 Q' := by
  intro p e ha hc hk s m args below hf happ hP hK
  obtain ⟨n, o, h1, h2, h3, v, L, h4, ⟨h5, h6⟩, h7⟩ := M p e ha hc hk s m args below hf happ hP hK
  exact ⟨n, o, h1, h2, h3, v, L, h4, ⟨h5, hQ _ _ h6⟩, h7⟩
theorem Go.callS (C : Cx Z W rm own nm bytes maxL ret) {index : Nat} {y : MethodName} {bytes' : ByteArray} {maxL' : Nat} {ret' : Option FieldType} {rm' : Room} {argsL : List Value} {Q' : Option Value → Heap → Prop} {ps : List FieldType} {rt : Option FieldType} {stk : List Value} {k' n' w : Nat}
    (wl : (Jvm.Cond.methodLink own index y).before a0 Z = true) (wst : (Jvm.Cond.static y).before a0 Z = true) (wi : (Jvm.Cond.initialized y.cls).before a0 Z = true) (wc : (Jvm.Cond.code y bytes' maxL' ret').before a0 Z = true)
    (M : Met1 W.l Z y bytes' maxL' ret' [] rm' argsL.toArray h n0 Q') (hd : decode bytes pc = .ok (.invokestatic index, 3)) (hpd : parseMethodDescriptor y.desc = some ⟨ps, rt⟩) (hq : pc + 3 = q) (hls : ls.size = maxL) (hstk : stk = argsL.reverse ++ st) (hlen : argsL.length = ps.length)
    (hw : (st.map fun v => v.category).sum = w) (hfr : rm'.frames + 1 ≤ rm.frames) (hlo : w + (maxL' + 11) + rm'.locals ≤ rm.locals) (hk : k + rm'.cells = k') (hn : n + rm'.slots = n') (hk' : k' ≤ rm.cells) (hn' : n' ≤ rm.slots)
    (hr : ∀ v h', Q' v h' → Go W n0 Q h' k' n' q ls (v.toList ++ st)) (hy : y.cls ≠ "java/lang/invoke/MethodHandle" ∧ y.cls ≠ "java/lang/invoke/VarHandle" := by decide) : Go W n0 Q h k n pc ls stk := by
  subst hstk hq hk hn hw
  intro T L a b X ha hb' N eT
  have e1 := C.ro
  obtain ⟨v, _, ⟨T2, L2, k2, n2⟩, -, X2, ⟨Lc, ⟨N2, hQ2⟩, l2, y2, z2⟩, sp⟩ := Jvm.LawKit.callS X C.x (y := y) C.ow (mvT C.z wl) (mvT C.z wst) (mvT C.z wi) (mvT C.z wc) hy
    (backOf (W := (st.map fun v => v.category).sum) (Q := fun v h L => Fr n0 L ∧ Q' v h) M C.z wc wi (by rw [e1]; exact hfr) (by rw [e1]; exact hlo)) (g := mkF W.m pc ls (argsL.reverse ++ st)) rfl (by rw [C.ml]; exact hls) (argsL := argsL) (rest := st) (lenOf hpd hlen) rfl (by show 2 * 0 + (st.map fun v => v.category).sum ≤ (st.map fun v => v.category).sum; omega) (hb C.b hd) (fun _ _ => ⟨rfl, eT, by rw [e1]; show a + _ ≤ _; omega, by rw [e1]; show b + _ ≤ _; omega⟩)
  dsimp only [Pt.U, Pt.locs, Pt.cells, Pt.slots] at X2 l2 y2 z2 sp hQ2
  subst l2 y2 z2
  obtain ⟨s₂, o, hs, r⟩ := hr v _ hQ2 T2 _ _ _ X2 (by omega) (by omega) (Fr.app N N2) rfl
  exact ⟨s₂, o, sp _ hs, r⟩
/-- what a callee that changes nothing leaves -/
def Ret (w : Value) (h : Heap) : Option Value → Heap → Prop := fun v h' => v = some w ∧ h' = h
theorem Go.pureS (C : Cx Z W rm own nm bytes maxL ret) {index : Nat} {y : MethodName} {bytes' : ByteArray} {maxL' : Nat} {ret' : Option FieldType} {fr lo : Nat} {argsL : List Value} {res : Value} {ps : List FieldType} {rt : Option FieldType} {stk : List Value} {w : Nat}
    (wl : (Jvm.Cond.methodLink own index y).before a0 Z = true) (wst : (Jvm.Cond.static y).before a0 Z = true) (wi : (Jvm.Cond.initialized y.cls).before a0 Z = true) (wc : (Jvm.Cond.code y bytes' maxL' ret').before a0 Z = true)
    (M : Met1 W.l Z y bytes' maxL' ret' [] ({ frames := fr, cells := 0, slots := 0, locals := lo } : Room) argsL.toArray h n0 (Ret res h)) (hd : decode bytes pc = .ok (.invokestatic index, 3)) (hpd : parseMethodDescriptor y.desc = some ⟨ps, rt⟩) (hq : pc + 3 = q) (hls : ls.size = maxL) (hstk : stk = argsL.reverse ++ st) (hlen : argsL.length = ps.length)
    (hw : (st.map fun v => v.category).sum = w) (hfr : fr + 1 ≤ rm.frames) (hlo : w + (maxL' + 11) + lo ≤ rm.locals) (hk' : k ≤ rm.cells) (hn' : n ≤ rm.slots)
    (hr : Go W n0 Q h k n q ls (res :: st)) (hy : y.cls ≠ "java/lang/invoke/MethodHandle" ∧ y.cls ≠ "java/lang/invoke/VarHandle" := by decide) : Go W n0 Q h k n pc ls stk :=
  Go.callS C wl wst wi wc M hd hpd hq hls hstk hlen hw hfr hlo rfl rfl hk' hn' (fun v h' q => by obtain ⟨rfl, rfl⟩ := q; exact hr) hy
theorem Go.callC (C : Cx Z W rm own nm bytes maxL ret) {index : Nat} {y : MethodName} {bytes' : ByteArray} {maxL' : Nat} {rm' : Room} {argsL : List Value} {Q' : Option Value → Heap → Prop} {ps : List FieldType} {rt : Option FieldType} {stk : List Value} {k' n' w : Nat} {a : Addr}
    (hy1 : y.name = "<init>") (wl : (Jvm.Cond.methodLink own index y).before a0 Z = true) (wst : (Jvm.Cond.instanceMethod y).before a0 Z = true) (wi : (Jvm.Cond.initialized y.cls).before a0 Z = true) (wc : (Jvm.Cond.code y bytes' maxL' none).before a0 Z = true)
    (M : Met1 W.l Z y bytes' maxL' none [] rm' (.ref a :: argsL).toArray h n0 Q') (hd : decode bytes pc = .ok (.invokespecial index, 3)) (hpd : parseMethodDescriptor y.desc = some ⟨ps, rt⟩) (hq : pc + 3 = q) (hls : ls.size = maxL) (hstk : stk = argsL.reverse ++ .ref a :: st) (hlen : argsL.length = ps.length)
    (hw : (st.map fun v => v.category).sum = w) (hfr : rm'.frames + 1 ≤ rm.frames) (hlo : w + (maxL' + 11) + rm'.locals ≤ rm.locals) (hk : k + rm'.cells = k') (hn : n + rm'.slots = n') (hk' : k' ≤ rm.cells) (hn' : n' ≤ rm.slots)
    (hr : ∀ v h', Q' v h' → Go W n0 Q h' k' n' q ls (v.toList ++ st)) (hy : y.cls ≠ "java/lang/invoke/MethodHandle" ∧ y.cls ≠ "java/lang/invoke/VarHandle" := by decide) : Go W n0 Q h k n pc ls stk := by
  subst hstk hq hk hn hw
  intro T L i j X ha hb' N eT
  have e1 := C.ro
  obtain ⟨v, _, ⟨T2, L2, k2, n2⟩, -, X2, ⟨Lc, ⟨N2, hQ2⟩, l2, y2, z2⟩, sp⟩ := X.specialBack C.x (y := y) hy1 C.ow (mvT C.z wl) (mvT C.z wst) (mvT C.z wc) hy
    (backOf (W := (st.map fun v => v.category).sum) (Q := fun v h L => Fr n0 L ∧ Q' v h) M C.z wc wi (by rw [e1]; exact hfr) (by rw [e1]; exact hlo)) (g := mkF W.m pc ls (argsL.reverse ++ .ref a :: st)) rfl (by rw [C.ml]; exact hls) (Steps.refl _) (a := a) (argsL := argsL) (rest := st) (lenOf hpd hlen) rfl (by show 2 * 0 + (st.map fun v => v.category).sum ≤ (st.map fun v => v.category).sum; omega) (hb C.b hd) (fun _ _ => ⟨rfl, eT, by rw [e1]; show i + _ ≤ _; omega, by rw [e1]; show j + _ ≤ _; omega⟩)
  dsimp only [Pt.U, Pt.locs, Pt.cells, Pt.slots] at X2 l2 y2 z2 sp hQ2
  subst l2 y2 z2
  obtain ⟨s₂, o, hs, r⟩ := hr v _ hQ2 T2 _ _ _ X2 (by omega) (by omega) (Fr.app N N2) rfl
  exact ⟨s₂, o, sp.trans hs, r⟩
theorem Go.callV (C : Cx Z W rm own nm bytes maxL ret) {index : Nat} {y z : MethodName} {K : String} {bytes' : ByteArray} {maxL' : Nat} {ret' : Option FieldType} {rm' : Room} {argsL : List Value} {Q' : Option Value → Heap → Prop} {ps : List FieldType} {rt : Option FieldType} {stk : List Value} {k' n' w : Nat} {a : Addr}
    (E : Exa Z h a K) (wl : (Jvm.Cond.methodLink own index y).before a0 Z = true) (wdc : (Jvm.Cond.declares y).before a0 Z = true) (hnf : NotFace W.s y) (wse : (Jvm.Cond.selects K y z).before a0 Z = true) (wst : (Jvm.Cond.instanceMethod z).before a0 Z = true) (wi : (Jvm.Cond.initialized z.cls).before a0 Z = true) (wc : (Jvm.Cond.code z bytes' maxL' ret').before a0 Z = true)
    (M : Met1 W.l Z z bytes' maxL' ret' [] rm' (.ref a :: argsL).toArray h n0 Q') (hd : decode bytes pc = .ok (.invokevirtual index, 3)) (hpd : parseMethodDescriptor y.desc = some ⟨ps, rt⟩) (hq : pc + 3 = q) (hls : ls.size = maxL) (hstk : stk = argsL.reverse ++ .ref a :: st) (hlen : argsL.length = ps.length)
    (hw : (st.map fun v => v.category).sum = w) (hfr : rm'.frames + 1 ≤ rm.frames) (hlo : w + (maxL' + 11) + rm'.locals ≤ rm.locals) (hk : k + rm'.cells = k') (hn : n + rm'.slots = n') (hk' : k' ≤ rm.cells) (hn' : n' ≤ rm.slots)
    (hr : ∀ v h', Q' v h' → Go W n0 Q h' k' n' q ls (v.toList ++ st)) (hy : y.cls ≠ "java/lang/invoke/MethodHandle" ∧ y.cls ≠ "java/lang/invoke/VarHandle" := by decide) : Go W n0 Q h k n pc ls stk := by
  subst hstk hq hk hn hw
  intro T L i j X ha hb' N eT
  have e1 := C.ro
  obtain ⟨cq, kq, qa, qb, qc⟩ := isOf (s := W.s) C.z eT E
  obtain ⟨v, _, ⟨T2, L2, k2, n2⟩, -, X2, ⟨Lc, ⟨N2, hQ2⟩, l2, y2, z2⟩, sp⟩ := X.virtualBack C.x (y := y) (z := z) C.ow (mvT C.z wl) (mvT C.z wdc) hnf (mvT C.z wse) (mvT C.z wst) hy
    (backOf (W := (st.map fun v => v.category).sum) (Q := fun v h L => Fr n0 L ∧ Q' v h) M C.z wc wi (by rw [e1]; exact hfr) (by rw [e1]; exact hlo)) qa qc (g := mkF W.m pc ls (argsL.reverse ++ .ref a :: st)) rfl (by rw [C.ml]; exact hls) (Steps.refl _) (argsL := argsL) (rest := st) (lenOf hpd hlen) rfl (by show 2 * 0 + (st.map fun v => v.category).sum ≤ (st.map fun v => v.category).sum; omega) (hb C.b hd) (fun _ _ => ⟨rfl, eT, by rw [e1]; show i + _ ≤ _; omega, by rw [e1]; show j + _ ≤ _; omega⟩)
  dsimp only [Pt.U, Pt.locs, Pt.cells, Pt.slots] at X2 l2 y2 z2 sp hQ2
  subst l2 y2 z2
  obtain ⟨s₂, o, hs, r⟩ := hr v _ hQ2 T2 _ _ _ X2 (by omega) (by omega) (Fr.app N N2) rfl
  exact ⟨s₂, o, sp.trans hs, r⟩
theorem Go.pureV (C : Cx Z W rm own nm bytes maxL ret) {index : Nat} {y : MethodName} {K : String} {bytes' : ByteArray} {maxL' : Nat} {ret' : Option FieldType} {fr lo : Nat} {argsL : List Value} {res : Value} {ps : List FieldType} {rt : Option FieldType} {stk : List Value} {w : Nat} {a : Addr}
    (E : Exa Z h a K) (wl : (Jvm.Cond.methodLink own index y).before a0 Z = true) (wdc : (Jvm.Cond.declares y).before a0 Z = true) (wse : (Jvm.Cond.selects K y y).before a0 Z = true) (wst : (Jvm.Cond.instanceMethod y).before a0 Z = true) (wi : (Jvm.Cond.initialized y.cls).before a0 Z = true) (wc : (Jvm.Cond.code y bytes' maxL' ret').before a0 Z = true)
    (M : Met1 W.l Z y bytes' maxL' ret' [] ({ frames := fr, cells := 0, slots := 0, locals := lo } : Room) (.ref a :: argsL).toArray h n0 (Ret res h)) (hd : decode bytes pc = .ok (.invokevirtual index, 3)) (hpd : parseMethodDescriptor y.desc = some ⟨ps, rt⟩) (hq : pc + 3 = q) (hls : ls.size = maxL) (hstk : stk = argsL.reverse ++ .ref a :: st) (hlen : argsL.length = ps.length)
    (hw : (st.map fun v => v.category).sum = w) (hfr : fr + 1 ≤ rm.frames) (hlo : w + (maxL' + 11) + lo ≤ rm.locals) (hk' : k ≤ rm.cells) (hn' : n ≤ rm.slots)
    (hr : Go W n0 Q h k n q ls (res :: st)) (hy : y.cls ≠ "java/lang/invoke/MethodHandle" ∧ y.cls ≠ "java/lang/invoke/VarHandle" := by decide) : Go W n0 Q h k n pc ls stk :=
  Go.callV C E wl wdc (notFace_of_selects (args := #[]) (mvT C.z wse)) wse wst wi wc M hd hpd hq hls hstk hlen hw hfr hlo rfl rfl hk' hn' (fun v h' q => by obtain ⟨rfl, rfl⟩ := q; exact hr) hy
/-- a private method, by invokevirtual; zz: any method of its class of which the sheet says what it selects (so the class is no interface) -/
theorem Go.callP (C : Cx Z W rm own nm bytes maxL ret) {index : Nat} {y zz : MethodName} {K KK : String} {bytes' : ByteArray} {maxL' : Nat} {ret' : Option FieldType} {rm' : Room} {argsL : List Value} {Q' : Option Value → Heap → Prop} {ps : List FieldType} {rt : Option FieldType} {stk : List Value} {k' n' w : Nat} {a : Addr}
    (E : Exa Z h a K) (wl : (Jvm.Cond.methodLink own index y).before a0 Z = true) (wse : (Jvm.Cond.selects KK zz zz).before a0 Z = true) (hzz : zz.cls = y.cls) (wpr : (Jvm.Cond.privateMethod y).before a0 Z = true) (wst : (Jvm.Cond.instanceMethod y).before a0 Z = true) (wi : (Jvm.Cond.initialized y.cls).before a0 Z = true) (wc : (Jvm.Cond.code y bytes' maxL' ret').before a0 Z = true)
    (M : Met1 W.l Z y bytes' maxL' ret' [] rm' (.ref a :: argsL).toArray h n0 Q') (hd : decode bytes pc = .ok (.invokevirtual index, 3)) (hpd : parseMethodDescriptor y.desc = some ⟨ps, rt⟩) (hq : pc + 3 = q) (hls : ls.size = maxL) (hstk : stk = argsL.reverse ++ .ref a :: st) (hlen : argsL.length = ps.length)
    (hw : (st.map fun v => v.category).sum = w) (hfr : rm'.frames + 1 ≤ rm.frames) (hlo : w + (maxL' + 11) + rm'.locals ≤ rm.locals) (hk : k + rm'.cells = k') (hn : n + rm'.slots = n') (hk' : k' ≤ rm.cells) (hn' : n' ≤ rm.slots)
    (hr : ∀ v h', Q' v h' → Go W n0 Q h' k' n' q ls (v.toList ++ st)) (hy : y.cls ≠ "java/lang/invoke/MethodHandle" ∧ y.cls ≠ "java/lang/invoke/VarHandle" := by decide) : Go W n0 Q h k n pc ls stk := by
  subst hstk hq hk hn hw
  intro T L i j X ha hb' N eT
  have e1 := C.ro
  obtain ⟨cell, hcell, hobj⟩ := E.cell
  rw [← eT] at hcell
  obtain ⟨mk, methM, hnamed, hmethM, hstM, habM⟩ := Cond.instanceMethod_spec (mvT (args := #[]) C.z wst)
  obtain ⟨methM', cM, hmethM', -, -, -, -, -, -, hsigM⟩ := Cond.code_spec hnamed (mvT (args := #[]) C.z wc)
  cases hmethM.symm.trans hmethM'
  obtain ⟨c2, r2, m2, -, -, q3, -, kP, hkP, hkPi⟩ := Cond.selects_spec (mvT (args := #[]) C.z wse)
  have ec : m2.cls = mk.cls := by
    have u1 := findClass_of_methodNamed q3
    have u2 := findClass_of_methodNamed hnamed
    rw [hzz] at u1
    exact Option.some.inj (u1.symm.trans u2)
  rw [ec] at hkP
  have hsel := selectMethod_private (p := W.e.platform) (c := cell.cls) hmethM (Cond.privateMethod_at (mvP C.z wpr (args := #[])) mk methM hnamed hmethM)
  obtain ⟨vm₁, X₁, hst⟩ := X.invokevirtual C.x C.ow (mvT C.z wl) hnamed hmethM hstM hkP hkPi hy (a := a) (cell := cell) hcell hobj hsel hmethM habM hkP hkPi (g := mkF W.m pc ls (argsL.reverse ++ .ref a :: st)) rfl (argsL := argsL) (rest := st) (lenOf hpd hlen _ hsigM) rfl (hb C.b hd)
  obtain ⟨v, ⟨T2, L2, k2, n2⟩, X2, ⟨Lc, ⟨N2, hQ2⟩, l2, y2, z2⟩, sp⟩ := backOf (len := 3) (W := (st.map fun v => v.category).sum) (Q := fun v h L => Fr n0 L ∧ Q' v h) M C.z wc wi (by rw [e1]; exact hfr) (by rw [e1]; exact hlo) W.m W.meth W.c ⟨T.setVm vm₁, L, i, j⟩ (mkF W.m pc ls st) (.invokevirtual index) mk (.ref a :: argsL).toArray X₁ rfl (by rw [C.ml]; exact hls) (hb C.b hd) (by show 2 * 0 + (st.map fun v => v.category).sum ≤ (st.map fun v => v.category).sum; omega) (X₁.named hnamed) ⟨rfl, eT, by rw [e1]; show i + _ ≤ _; omega, by rw [e1]; show j + _ ≤ _; omega⟩
  dsimp only [Pt.U, Pt.locs, Pt.cells, Pt.slots] at X2 l2 y2 z2 sp hQ2
  subst l2 y2 z2
  obtain ⟨s₂, o, hs, r⟩ := hr v _ hQ2 T2 _ _ _ X2 (by omega) (by omega) (Fr.app N N2) rfl
  exact ⟨s₂, o, (hst _ fun acts => by rw [doInvoke_state]; exact Steps.refl _).trans (sp.trans hs), r⟩
/-! the heap -/
theorem Go.initO (C : Cx Z W rm own nm bytes maxL ret) {index w : Nat} {a : Addr} (w1 : (Jvm.Cond.methodLink own index Lib.objectInit).before a0 Z = true) (w2 : (Jvm.Cond.instanceMethod Lib.objectInit).before a0 Z = true) (w3 : (Jvm.Cond.code Lib.objectInit ⟨#[0xb1]⟩ 1 none).before a0 Z = true)
    (hd : decode bytes pc = .ok (.invokespecial index, 3)) (hq : pc + 3 = q) (hls : ls.size = maxL) (hw : (st.map fun v => v.category).sum = w) (hfr : 1 ≤ rm.frames) (hlo : w + 12 ≤ rm.locals) (hr : Go W n0 Q h k n q ls st) : Go W n0 Q h k n pc ls (.ref a :: st) := by
  subst hq hw
  exact Go.stepT (fun T L i j X eT => Jvm.RoadKit.initO X C.x C.z C.ow w1 w2 w3 eT (g := mkF W.m pc ls (.ref a :: st)) rfl (by rw [C.ml]; exact hls) rfl (hb C.b hd) (by rw [C.ro]; exact hfr) (W := (st.map fun v => v.category).sum) (by show 2 * 0 + (st.map fun v => v.category).sum ≤ (st.map fun v => v.category).sum; omega) (by rw [C.ro]; exact hlo)) hr
theorem Go.getF (C : Cx Z W rm own nm bytes maxL ret) {R0 O f d host : String} {index : Nat} {a : Addr} {v : Value} (w : (Jvm.Cond.fieldLink own index R0 f d).before a0 Z = true ∨ (Jvm.Cond.fieldLinkNest own index R0 f d host).before a0 Z = true) (via : Via Z R0 O f d) (F : Fld Z h a O f d v)
    (hd : decode bytes pc = .ok (.getfield index, 3)) (hq : pc + 3 = q) (hr : Go W n0 Q h k n q ls (v :: st)) : Go W n0 Q h k n pc ls (.ref a :: st) := by
  subst hq
  exact Go.stepT (fun T L i j X eT => Jvm.RoadKit.getF X C.x C.z C.ow w via eT F (g := mkF W.m pc ls (.ref a :: st)) rfl rfl (hb C.b hd)) hr
theorem Go.getS (C : Cx Z W rm own nm bytes maxL ret) {R0 O f d : String} {index : Nat} {v : Value} (w : (Jvm.Cond.fieldLink own index R0 f d).before a0 Z = true) (via : Via Z R0 O f d) (F : Sta Z h O f d v)
    (hd : decode bytes pc = .ok (.getstatic index, 3)) (hq : pc + 3 = q) (hr : Go W n0 Q h k n q ls (v :: st)) : Go W n0 Q h k n pc ls st := by
  subst hq
  exact Go.stepT (fun T L i j X eT => Jvm.RoadKit.getS X C.x C.z (host := "") C.ow w via eT F (g := mkF W.m pc ls st) rfl (hb C.b hd)) hr
theorem Go.putF (C : Cx Z W rm own nm bytes maxL ret) {R0 O f d host K : String} {index kk : Nat} {ty : FieldType} {a : Addr} {v old : Value} (w : (Jvm.Cond.fieldLink own index R0 f d).before a0 Z = true ∨ (Jvm.Cond.fieldLinkNest own index R0 f d host).before a0 Z = true) (via : Via Z R0 O f d) (F : Fld Z h a O f d old) (E : Exa Z h a K)
    (Lw : (Jvm.Cond.lays K O f d).before a0 Z = true ∨ ((Jvm.Cond.laysFinal K O f d).before a0 Z = true ∧ own = O ∧ nm = "<init>")) (wi : (Jvm.Cond.instantiable K kk).before a0 Z = true) (hty : parseFieldDescriptor d = some ty) (hn : narrow ty v = v) (hf : fits ty v = true) (ha : n0 ≤ a)
    (hd : decode bytes pc = .ok (.putfield index, 3)) (hq : pc + 3 = q) (hr : ∀ h', Wr h h' a (Jvm.RoadKit.slotOf Z O f d) v → Go W n0 Q h' k n q ls st) : Go W n0 Q h k n pc ls (v :: .ref a :: st) := by
  subst hq
  intro T L i j X hk hn' N eT
  obtain ⟨T', h', X', e', W', sp⟩ := Jvm.RoadKit.putF X C.x C.z C.ow w via eT F E (Lw.imp id fun z => ⟨z.1, z.2.1, C.na.trans z.2.2⟩) wi hty hn hf (g := mkF W.m pc ls (v :: .ref a :: st)) rfl rfl (hb C.b hd)
  obtain ⟨s₂, o, hs, r⟩ := hr h' W' T' _ _ _ X' hk hn' (Fr.snoc X' N ha) e'
  exact ⟨s₂, o, sp _ hs, r⟩
theorem Go.newO (C : Cx Z W rm own nm bytes maxL ret) {K : String} {index sz k' n' : Nat} (w : (Jvm.Cond.classLink own index K).before a0 Z = true) (wi : (Jvm.Cond.instantiable K sz).before a0 Z = true) (wz : (Jvm.Cond.initialized K).before a0 Z = true)
    (hd : decode bytes pc = .ok (.new index, 3)) (hq : pc + 3 = q) (hk : k + 1 = k') (hn : n + sz = n') (hk' : k' ≤ rm.cells) (hn' : n' ≤ rm.slots)
    (hr : ∀ h' a, a = h.size → Ext h h' → Exa Z h' a K → (∀ {O f d : String} {ty : FieldType}, Laid Z a0 K O f d → parseFieldDescriptor d = some ty → Fld Z h' a O f d (defaultValue ty)) → Go W n0 Q h' k' n' q ls (.ref a :: st)) : Go W n0 Q h k n pc ls st := by
  subst hq hk hn
  intro T L i j X hk0 hn0 N eT
  have e1 := C.ro
  obtain ⟨T', h', X', e', E', A', D', -, sp⟩ := Jvm.RoadKit.newO X C.x C.z C.ow w wi wz eT (g := mkF W.m pc ls st) rfl (hb C.b hd) (by rw [e1]; omega) (by rw [e1]; omega)
  obtain ⟨s₂, o, hs, r⟩ := hr h' _ rfl E' A' D' T' _ _ _ X' (by omega) (by omega) N e'
  exact ⟨s₂, o, sp _ hs, r⟩
theorem Go.newP (C : Cx Z W rm own nm bytes maxL ret) {aty : ArrayType} {z : Int32} {cap k' n' : Nat} (w : (Jvm.Cond.arrayClass (newarray.typeOf aty)).before a0 Z = true) (hz : ¬ z < 0) (hcap : z.toNatClampNeg ≤ cap) (hbig : cap * 8 ≤ 536870912)
    (hd : decode bytes pc = .ok (.newarray aty, 2)) (hq : pc + 2 = q) (hk : k + 1 = k') (hn : n + cap = n') (hk' : k' ≤ rm.cells) (hn' : n' ≤ rm.slots)
    (hr : ∀ h' a cA, a = h.size → Ext h h' → Arv Z h' a cA (newarray.typeOf aty) z [] (defaultValue (newarray.typeOf aty)) → Go W n0 Q h' k' n' q ls (.ref a :: st)) : Go W n0 Q h k n pc ls (.int z :: st) := by
  subst hq hk hn
  intro T L i j X hk0 hn0 N eT
  have e1 := C.ro
  obtain ⟨T', h', cA, X', e', E', A', sp⟩ := Jvm.RoadKit.newP X C.x C.z w eT (g := mkF W.m pc ls (.int z :: st)) rfl (hb C.b hd) rfl hz hcap hbig (by rw [e1]; omega) (by rw [e1]; omega)
  obtain ⟨s₂, o, hs, r⟩ := hr h' _ cA rfl E' (Arv.new A' hz) T' _ _ _ X' (by omega) (by omega) N e'
  exact ⟨s₂, o, sp _ hs, r⟩

/-! arrays: the length n, the values f -/
def Av (Z : State) (h : Heap) (a : Addr) (ty : FieldType) (len : Nat) (f : Nat → Value) : Prop := ∃ c : Cell, Arr Z h a c ty ∧ c.slots.size = len ∧ len < 2 ^ 31 ∧ ∀ i, i < len → c.slots[i]? = some (f i)
def upd {α : Type} (f : Nat → α) (j : Nat) (v : α) : Nat → α := fun i => if i = j then v else f i
theorem upd_eq {α : Type} (f : Nat → α) (j : Nat) (v : α) : upd f j v j = v := if_pos rfl
theorem upd_ne {α : Type} (f : Nat → α) {j i : Nat} (v : α) (e : i ≠ j) : upd f j v i = f i := if_neg e
theorem Av.lt {a : Addr} {ty : FieldType} {len : Nat} {f : Nat → Value} (F : Av Z h a ty len f) : a < h.size := by obtain ⟨c, A, -⟩ := F; exact A.lt
theorem Av.ext {a : Addr} {ty : FieldType} {len : Nat} {f : Nat → Value} {h' : Heap} (F : Av Z h a ty len f) (E : Ext h h') : Av Z h' a ty len f := by obtain ⟨c, A, r⟩ := F; exact ⟨c, A.ext E, r⟩
theorem Av.other {a b : Addr} {ty : FieldType} {len sl : Nat} {v : Value} {f : Nat → Value} {h' : Heap} (F : Av Z h b ty len f) (W : Wr h h' a sl v) (e : b ≠ a) : Av Z h' b ty len f := by obtain ⟨c, A, r⟩ := F; exact ⟨c, A.other W e, r⟩
theorem Av.keep {a : Addr} {ty : FieldType} {len : Nat} {f : Nat → Value} {h' : Heap} {ws : List Addr} (F : Av Z h a ty len f) (K : Keep h h' ws) (e : a ∉ ws) : Av Z h' a ty len f := by obtain ⟨c, A, r⟩ := F; exact ⟨c, ⟨K.2.1 a c A.1 e, A.2⟩, r⟩
theorem Av.same {a : Addr} {ty : FieldType} {len j : Nat} {v : Value} {f : Nat → Value} {h' : Heap} (F : Av Z h a ty len f) (W : Wr h h' a j v) : Av Z h' a ty len (upd f j v) := by
  obtain ⟨c, A, r1, r2, r3⟩ := F
  refine ⟨c.setSlot j v, A.same W, by simp [Cell.setSlot, r1], r2, fun i hi => ?_⟩
  by_cases e : i = j
  · subst e
    rw [upd_eq]
    simp [Cell.setSlot, r1, hi]
  · rw [upd_ne _ _ e, ← r3 i hi]
    exact Array.getElem?_setIfInBounds_ne (Ne.symm e)
def iF (g : Nat → Int32) : Nat → Value := fun i => .int (g i)
def jF (g : Nat → Int64) : Nat → Value := fun i => .long (g i)
theorem upd_iF (g : Nat → Int32) (j : Nat) (x : Int32) : upd (iF g) j (.int x) = iF (upd g j x) := by funext i; by_cases e : i = j <;> simp [upd, iF, e]
theorem upd_jF (g : Nat → Int64) (j : Nat) (x : Int64) : upd (jF g) j (.long x) = jF (upd g j x) := by funext i; by_cases e : i = j <;> simp [upd, jF, e]
theorem Av.sameI {a : Addr} {ty : FieldType} {len j : Nat} {x : Int32} {g : Nat → Int32} {h' : Heap} (F : Av Z h a ty len (iF g)) (W : Wr h h' a j (.int x)) : Av Z h' a ty len (iF (upd g j x)) := upd_iF g j x ▸ F.same W
theorem Av.sameJ {a : Addr} {ty : FieldType} {len j : Nat} {x : Int64} {g : Nat → Int64} {h' : Heap} (F : Av Z h a ty len (jF g)) (W : Wr h h' a j (.long x)) : Av Z h' a ty len (jF (upd g j x)) := upd_jF g j x ▸ F.same W
def kF (g : Nat → Int64) : Nat → Value := fun i => .double (FP.l2d (g i))
theorem upd_kF (g : Nat → Int64) (j : Nat) (x : Int64) : upd (kF g) j (.double (FP.l2d x)) = kF (upd g j x) := by funext i; by_cases e : i = j <;> simp [upd, kF, e]
theorem Av.sameK {a : Addr} {ty : FieldType} {len j : Nat} {x : Int64} {g : Nat → Int64} {h' : Heap} (F : Av Z h a ty len (kF g)) (W : Wr h h' a j (.double (FP.l2d x))) : Av Z h' a ty len (kF (upd g j x)) := upd_kF g j x ▸ F.same W
theorem Av.of {a : Addr} {ty : FieldType} {z : Int32} {cA : ClassId} {d : Value} (F : Arv Z h a cA ty z [] d) : Av Z h a ty z.toNatClampNeg (fun _ => d) := by
  obtain ⟨c, A, -, r1, r2, r3, -⟩ := F
  refine ⟨c, A, r1, ?_, fun i hi => ?_⟩
  · have e1 := z.toInt_lt
    have e2 : z.toNatClampNeg = z.toInt.toNat := rfl
    omega
  · rw [r3 i (by omega)]
    simp
theorem Av.ofD {a : Addr} {z : Int32} {cA : ClassId} (F : Arv Z h a cA .double z [] (defaultValue .double)) : Av Z h a .double z.toNatClampNeg (kF (fun _ => 0)) := by
  have e : kF (fun _ => 0) = (fun _ => defaultValue .double) := by funext i; show Value.double (FP.l2d 0) = _; rw [Jvm.RoadKit.l2d_zero]; rfl
  rw [e]
  exact Av.of F
theorem Go.alen (C : Cx Z W rm own nm bytes maxL ret) {a : Addr} {ty : FieldType} {len : Nat} {f : Nat → Value} (F : Av Z h a ty len f) (hd : decode bytes pc = .ok (.arraylength, 1)) (hq : pc + 1 = q)
    (hr : Go W n0 Q h k n q ls (.int len.toInt32 :: st)) : Go W n0 Q h k n pc ls (.ref a :: st) := by
  subst hq
  obtain ⟨c, A, r1, r2, r3⟩ := F
  subst r1
  exact Go.stepX (fun T L i j tg X eT kk => X.arraylength C.x (by rw [eT]; exact A.1) (State.isArrayOf_alike C.z.alike A.2.1) (g := mkF W.m pc ls (.ref a :: st)) rfl rfl (hb C.b hd) _ kk) hr
theorem Go.alenZ (C : Cx Z W rm own nm bytes maxL ret) {a : Addr} {ty : FieldType} {z : Int32} {f : Nat → Value} (F : Av Z h a ty z.toNatClampNeg f) (hz : ¬ z < 0) (hd : decode bytes pc = .ok (.arraylength, 1)) (hq : pc + 1 = q)
    (hr : Go W n0 Q h k n q ls (.int z :: st)) : Go W n0 Q h k n pc ls (.ref a :: st) :=
  Go.alen C F hd hq (by rw [(Jvm.RoadKit.back32 hz).1]; exact hr)

theorem Go.iaload (C : Cx Z W rm own nm bytes maxL ret) {a : Addr} {len : Nat} {f : Nat → Value} {j : Int32} {v : Value} (F : Av Z h a .int len f) (i : Nat) (hji : j.toNatClampNeg = i) (hj : ¬ j < 0) (hi : i < len) (hv : f i = v) (hd : decode bytes pc = .ok (.iaload, 1)) (hq : pc + 1 = q)
    (hr : Go W n0 Q h k n q ls (v :: st)) : Go W n0 Q h k n pc ls (.int j :: .ref a :: st) := by
  subst hq hji hv
  obtain ⟨c, A, r1, r2, r3⟩ := F
  exact Go.stepX (fun T L i' j' tg X eT kk => X.iaload C.x (j := j) (by rw [eT]; exact A.1) (State.isArrayOf_alike C.z.alike A.2.1) A.2.2 (fun z => z.elim hj (fun y => absurd (Nat.lt_of_lt_of_le hi (r1 ▸ y)) (Nat.lt_irrefl _))) (r3 _ hi) (g := mkF W.m pc ls (.int j :: .ref a :: st)) rfl rfl (hb C.b hd) _ kk) hr
theorem Go.laload (C : Cx Z W rm own nm bytes maxL ret) {a : Addr} {len : Nat} {f : Nat → Value} {j : Int32} {v : Value} (F : Av Z h a .long len f) (i : Nat) (hji : j.toNatClampNeg = i) (hj : ¬ j < 0) (hi : i < len) (hv : f i = v) (hd : decode bytes pc = .ok (.laload, 1)) (hq : pc + 1 = q)
    (hr : Go W n0 Q h k n q ls (v :: st)) : Go W n0 Q h k n pc ls (.int j :: .ref a :: st) := by
  subst hq hji hv
  obtain ⟨c, A, r1, r2, r3⟩ := F
  exact Go.stepX (fun T L i' j' tg X eT kk => X.laload C.x (j := j) (by rw [eT]; exact A.1) (State.isArrayOf_alike C.z.alike A.2.1) A.2.2 (fun z => z.elim hj (fun y => absurd (Nat.lt_of_lt_of_le hi (r1 ▸ y)) (Nat.lt_irrefl _))) (r3 _ hi) (g := mkF W.m pc ls (.int j :: .ref a :: st)) rfl rfl (hb C.b hd) _ kk) hr
theorem Go.caload (C : Cx Z W rm own nm bytes maxL ret) {a : Addr} {len : Nat} {f : Nat → Value} {j : Int32} {v : Value} (F : Av Z h a .char len f) (i : Nat) (hji : j.toNatClampNeg = i) (hj : ¬ j < 0) (hi : i < len) (hv : f i = v) (hd : decode bytes pc = .ok (.caload, 1)) (hq : pc + 1 = q)
    (hr : Go W n0 Q h k n q ls (v :: st)) : Go W n0 Q h k n pc ls (.int j :: .ref a :: st) := by
  subst hq hji hv
  obtain ⟨c, A, r1, r2, r3⟩ := F
  exact Go.stepX (fun T L i' j' tg X eT kk => X.caload C.x (j := j) (by rw [eT]; exact A.1) (State.isArrayOf_alike C.z.alike A.2.1) A.2.2 (fun z => z.elim hj (fun y => absurd (Nat.lt_of_lt_of_le hi (r1 ▸ y)) (Nat.lt_irrefl _))) (r3 _ hi) (g := mkF W.m pc ls (.int j :: .ref a :: st)) rfl rfl (hb C.b hd) _ kk) hr
theorem Go.baload (C : Cx Z W rm own nm bytes maxL ret) {a : Addr} {len : Nat} {f : Nat → Value} {j : Int32} {v : Value} (F : Av Z h a .byte len f) (i : Nat) (hji : j.toNatClampNeg = i) (hj : ¬ j < 0) (hi : i < len) (hv : f i = v) (hd : decode bytes pc = .ok (.baload, 1)) (hq : pc + 1 = q)
    (hr : Go W n0 Q h k n q ls (v :: st)) : Go W n0 Q h k n pc ls (.int j :: .ref a :: st) := by
  subst hq hji hv
  obtain ⟨c, A, r1, r2, r3⟩ := F
  exact Go.stepX (fun T L i' j' tg X eT kk => X.baloadBytes C.x (j := j) (by rw [eT]; exact A.1) (State.isArrayOf_alike C.z.alike A.2.1) A.2.2 (fun z => z.elim hj (fun y => absurd (Nat.lt_of_lt_of_le hi (r1 ▸ y)) (Nat.lt_irrefl _))) (r3 _ hi) (g := mkF W.m pc ls (.int j :: .ref a :: st)) rfl rfl (hb C.b hd) _ kk) hr
theorem Go.zaload (C : Cx Z W rm own nm bytes maxL ret) {a : Addr} {len : Nat} {f : Nat → Value} {j : Int32} {v : Value} (F : Av Z h a .boolean len f) (i : Nat) (hji : j.toNatClampNeg = i) (hj : ¬ j < 0) (hi : i < len) (hv : f i = v) (hd : decode bytes pc = .ok (.baload, 1)) (hq : pc + 1 = q)
    (hr : Go W n0 Q h k n q ls (v :: st)) : Go W n0 Q h k n pc ls (.int j :: .ref a :: st) := by
  subst hq hji hv
  obtain ⟨c, A, r1, r2, r3⟩ := F
  exact Go.stepX (fun T L i' j' tg X eT kk => X.baloadBooleans C.x (j := j) (by rw [eT]; exact A.1) (State.isArrayOf_alike C.z.alike A.2.1) A.2.2 (fun z => z.elim hj (fun y => absurd (Nat.lt_of_lt_of_le hi (r1 ▸ y)) (Nat.lt_irrefl _))) (r3 _ hi) (g := mkF W.m pc ls (.int j :: .ref a :: st)) rfl rfl (hb C.b hd) _ kk) hr
theorem Go.daload (C : Cx Z W rm own nm bytes maxL ret) {a : Addr} {len : Nat} {f : Nat → Value} {j : Int32} {v : Value} (F : Av Z h a .double len f) (i : Nat) (hji : j.toNatClampNeg = i) (hj : ¬ j < 0) (hi : i < len) (hv : f i = v) (hd : decode bytes pc = .ok (.daload, 1)) (hq : pc + 1 = q)
    (hr : Go W n0 Q h k n q ls (v :: st)) : Go W n0 Q h k n pc ls (.int j :: .ref a :: st) := by
  subst hq hji hv
  obtain ⟨c, A, r1, r2, r3⟩ := F
  exact Go.stepX (fun T L i' j' tg X eT kk => X.daload C.x (j := j) (by rw [eT]; exact A.1) (State.isArrayOf_alike C.z.alike A.2.1) A.2.2 (fun z => z.elim hj (fun y => absurd (Nat.lt_of_lt_of_le hi (r1 ▸ y)) (Nat.lt_irrefl _))) (r3 _ hi) (g := mkF W.m pc ls (.int j :: .ref a :: st)) rfl rfl (hb C.b hd) _ kk) hr
theorem Go.dastore (C : Cx Z W rm own nm bytes maxL ret) {a : Addr} {len : Nat} {f : Nat → Value} {j : Int32} {x : UInt64} (F : Av Z h a .double len f) (i : Nat) (hji : j.toNatClampNeg = i) (hj : ¬ j < 0) (hi : i < len) (ha : n0 ≤ a) (hd : decode bytes pc = .ok (.dastore, 1)) (hq : pc + 1 = q)
    (hr : ∀ h', Wr h h' a i (.double x) → Go W n0 Q h' k n q ls st) : Go W n0 Q h k n pc ls (.double x :: .int j :: .ref a :: st) := by
  subst hq hji
  obtain ⟨c, A, r1, r2, r3⟩ := F
  intro T L i' j' X hk hn N eT
  obtain ⟨T', h', X', e', W', sp⟩ := Jvm.RoadKit.stD X C.x C.z eT A (j := j) (fun z => z.elim hj (fun y => absurd (Nat.lt_of_lt_of_le hi (r1 ▸ y)) (Nat.lt_irrefl _))) (g := mkF W.m pc ls (.double x :: .int j :: .ref a :: st)) rfl rfl (hb C.b hd)
  obtain ⟨s₂, o, hs, r⟩ := hr h' W' T' _ _ _ X' hk hn (Fr.snoc X' N ha) e'
  exact ⟨s₂, o, sp _ hs, r⟩
theorem Go.iastore (C : Cx Z W rm own nm bytes maxL ret) {a : Addr} {len : Nat} {f : Nat → Value} {j : Int32} {x : Int32} (F : Av Z h a .int len f) (i : Nat) (hji : j.toNatClampNeg = i) (hj : ¬ j < 0) (hi : i < len) (ha : n0 ≤ a) (hd : decode bytes pc = .ok (.iastore, 1)) (hq : pc + 1 = q)
    (hr : ∀ h', Wr h h' a i (.int x) → Go W n0 Q h' k n q ls st) : Go W n0 Q h k n pc ls (.int x :: .int j :: .ref a :: st) := by
  subst hq hji
  obtain ⟨c, A, r1, r2, r3⟩ := F
  intro T L i' j' X hk hn N eT
  obtain ⟨T', h', X', e', W', sp⟩ := Jvm.RoadKit.stI X C.x C.z eT A (j := j) (fun z => z.elim hj (fun y => absurd (Nat.lt_of_lt_of_le hi (r1 ▸ y)) (Nat.lt_irrefl _))) (g := mkF W.m pc ls (.int x :: .int j :: .ref a :: st)) rfl rfl (hb C.b hd)
  obtain ⟨s₂, o, hs, r⟩ := hr h' W' T' _ _ _ X' hk hn (Fr.snoc X' N ha) e'
  exact ⟨s₂, o, sp _ hs, r⟩
theorem Go.lastore (C : Cx Z W rm own nm bytes maxL ret) {a : Addr} {len : Nat} {f : Nat → Value} {j : Int32} {x : Int64} (F : Av Z h a .long len f) (i : Nat) (hji : j.toNatClampNeg = i) (hj : ¬ j < 0) (hi : i < len) (ha : n0 ≤ a) (hd : decode bytes pc = .ok (.lastore, 1)) (hq : pc + 1 = q)
    (hr : ∀ h', Wr h h' a i (.long x) → Go W n0 Q h' k n q ls st) : Go W n0 Q h k n pc ls (.long x :: .int j :: .ref a :: st) := by
  subst hq hji
  obtain ⟨c, A, r1, r2, r3⟩ := F
  intro T L i' j' X hk hn N eT
  obtain ⟨T', h', X', e', W', sp⟩ := Jvm.RoadKit.stJ X C.x C.z eT A (j := j) (fun z => z.elim hj (fun y => absurd (Nat.lt_of_lt_of_le hi (r1 ▸ y)) (Nat.lt_irrefl _))) (g := mkF W.m pc ls (.long x :: .int j :: .ref a :: st)) rfl rfl (hb C.b hd)
  obtain ⟨s₂, o, hs, r⟩ := hr h' W' T' _ _ _ X' hk hn (Fr.snoc X' N ha) e'
  exact ⟨s₂, o, sp _ hs, r⟩
theorem Go.castore (C : Cx Z W rm own nm bytes maxL ret) {a : Addr} {len : Nat} {f : Nat → Value} {j : Int32} {x : Int32} (F : Av Z h a .char len f) (i : Nat) (hji : j.toNatClampNeg = i) (hj : ¬ j < 0) (hi : i < len) (ha : n0 ≤ a) (hd : decode bytes pc = .ok (.castore, 1)) (hq : pc + 1 = q)
    (hr : ∀ h', Wr h h' a i (.int (nar .char x)) → Go W n0 Q h' k n q ls st) : Go W n0 Q h k n pc ls (.int x :: .int j :: .ref a :: st) := by
  subst hq hji
  obtain ⟨c, A, r1, r2, r3⟩ := F
  intro T L i' j' X hk hn N eT
  obtain ⟨T', h', X', e', W', sp⟩ := Jvm.RoadKit.stC X C.x C.z eT A (j := j) (fun z => z.elim hj (fun y => absurd (Nat.lt_of_lt_of_le hi (r1 ▸ y)) (Nat.lt_irrefl _))) (g := mkF W.m pc ls (.int x :: .int j :: .ref a :: st)) rfl rfl (hb C.b hd)
  obtain ⟨s₂, o, hs, r⟩ := hr h' W' T' _ _ _ X' hk hn (Fr.snoc X' N ha) e'
  exact ⟨s₂, o, sp _ hs, r⟩
theorem Go.bastore (C : Cx Z W rm own nm bytes maxL ret) {a : Addr} {len : Nat} {f : Nat → Value} {j : Int32} {x : Int32} (F : Av Z h a .byte len f) (i : Nat) (hji : j.toNatClampNeg = i) (hj : ¬ j < 0) (hi : i < len) (ha : n0 ≤ a) (hd : decode bytes pc = .ok (.bastore, 1)) (hq : pc + 1 = q)
    (hr : ∀ h', Wr h h' a i (.int (nar .byte x)) → Go W n0 Q h' k n q ls st) : Go W n0 Q h k n pc ls (.int x :: .int j :: .ref a :: st) := by
  subst hq hji
  obtain ⟨c, A, r1, r2, r3⟩ := F
  intro T L i' j' X hk hn N eT
  obtain ⟨T', h', X', e', W', sp⟩ := Jvm.RoadKit.stB X C.x C.z eT A (j := j) (fun z => z.elim hj (fun y => absurd (Nat.lt_of_lt_of_le hi (r1 ▸ y)) (Nat.lt_irrefl _))) (g := mkF W.m pc ls (.int x :: .int j :: .ref a :: st)) rfl rfl (hb C.b hd)
  obtain ⟨s₂, o, hs, r⟩ := hr h' W' T' _ _ _ X' hk hn (Fr.snoc X' N ha) e'
  exact ⟨s₂, o, sp _ hs, r⟩
theorem Go.zastore (C : Cx Z W rm own nm bytes maxL ret) {a : Addr} {len : Nat} {f : Nat → Value} {j : Int32} {x : Int32} (F : Av Z h a .boolean len f) (i : Nat) (hji : j.toNatClampNeg = i) (hj : ¬ j < 0) (hi : i < len) (ha : n0 ≤ a) (hd : decode bytes pc = .ok (.bastore, 1)) (hq : pc + 1 = q)
    (hr : ∀ h', Wr h h' a i (.int (nar .boolean x)) → Go W n0 Q h' k n q ls st) : Go W n0 Q h k n pc ls (.int x :: .int j :: .ref a :: st) := by
  subst hq hji
  obtain ⟨c, A, r1, r2, r3⟩ := F
  intro T L i' j' X hk hn N eT
  obtain ⟨T', h', X', e', W', sp⟩ := Jvm.RoadKit.stZ X C.x C.z eT A (j := j) (fun z => z.elim hj (fun y => absurd (Nat.lt_of_lt_of_le hi (r1 ▸ y)) (Nat.lt_irrefl _))) (g := mkF W.m pc ls (.int x :: .int j :: .ref a :: st)) rfl rfl (hb C.b hd)
  obtain ⟨s₂, o, hs, r⟩ := hr h' W' T' _ _ _ X' hk hn (Fr.snoc X' N ha) e'
  exact ⟨s₂, o, sp _ hs, r⟩
end Gos

theorem d3_0 : decode method_2_code 0 = .ok (.iload_n 0, 1) := by decide +kernel
theorem d3_1 : decode method_2_code 1 = .ok (.ifCond .eq 14, 3) := by decide +kernel
theorem d3_15 : decode method_2_code 15 = .ok (.iload_n 1, 1) := by decide +kernel
theorem d3_16 : decode method_2_code 16 = .ok (.iload_n 2, 1) := by decide +kernel
theorem d3_17 : decode method_2_code 17 = .ok (.if_icmp .gt 7, 3) := by decide +kernel
theorem d3_24 : decode method_2_code 24 = .ok (.iconst 0, 1) := by decide +kernel
theorem d3_25 : decode method_2_code 25 = .ok (.ireturn, 1) := by decide +kernel
theorem d3_20 : decode method_2_code 20 = .ok (.iconst 1, 1) := by decide +kernel
theorem d3_21 : decode method_2_code 21 = .ok (.goto 4, 3) := by decide +kernel
theorem d3_4 : decode method_2_code 4 = .ok (.iload_n 1, 1) := by decide +kernel
theorem d3_5 : decode method_2_code 5 = .ok (.iload_n 2, 1) := by decide +kernel
theorem d3_6 : decode method_2_code 6 = .ok (.if_icmp .lt 7, 3) := by decide +kernel
theorem d3_13 : decode method_2_code 13 = .ok (.iconst 0, 1) := by decide +kernel
theorem d3_14 : decode method_2_code 14 = .ok (.ireturn, 1) := by decide +kernel
theorem d3_9 : decode method_2_code 9 = .ok (.iconst 1, 1) := by decide +kernel
theorem d3_10 : decode method_2_code 10 = .ok (.goto 4, 3) := by decide +kernel
theorem ef_3 (m : MethodId) (p0 : Int32) (p1 : Int32) (p2 : Int32) : entryFrame m #[(.int p0), (.int p1), (.int p2)] 3 = mkF m 0 #[.val (.int p0), .val (.int p1), .val (.int p2)] [] := by first | (simp [entryFrame, mkF, argsToLocals, Value.category]; done) | rfl
theorem pn_com_example_paretoloom_paretoloom_pareto_SenseWeaklyDominatesPinLaw : plainName "com/example/paretoloom/paretoloom/pareto/SenseWeaklyDominatesPinLaw" = true := by first | (simp [plainName, overriddenIn]; done) | decide +kernel
theorem d1_0 : decode method_3_code 0 = .ok (.iload_n 0, 1) := by decide +kernel
theorem d1_1 : decode method_3_code 1 = .ok (.ifCond .ne 7, 3) := by decide +kernel
theorem d1_4 : decode method_3_code 4 = .ok (.iconst 0, 1) := by decide +kernel
theorem d1_5 : decode method_3_code 5 = .ok (.newarray .double, 2) := by decide +kernel
theorem d1_7 : decode method_3_code 7 = .ok (.areturn, 1) := by decide +kernel
theorem ef_1_l0_0Int32 (m : MethodId) (p0 : Int32) (p1 : Int32) (p2 : Int32) : entryFrame m #[(.int (0 : Int32)), (.int p0), (.int p1), (.int p2)] 4 = mkF m 0 #[.val (.int (0 : Int32)), .val (.int p0), .val (.int p1), .val (.int p2)] [] := by first | (simp [entryFrame, mkF, argsToLocals, Value.category]; done) | rfl
theorem d1_8 : decode method_3_code 8 = .ok (.iload_n 0, 1) := by decide +kernel
theorem d1_9 : decode method_3_code 9 = .ok (.iconst 1, 1) := by decide +kernel
theorem d1_10 : decode method_3_code 10 = .ok (.if_icmp .ne 12, 3) := by decide +kernel
theorem d1_13 : decode method_3_code 13 = .ok (.iconst 1, 1) := by decide +kernel
theorem d1_14 : decode method_3_code 14 = .ok (.newarray .double, 2) := by decide +kernel
theorem d1_16 : decode method_3_code 16 = .ok (.dup, 1) := by decide +kernel
theorem d1_17 : decode method_3_code 17 = .ok (.iconst 0, 1) := by decide +kernel
theorem d1_18 : decode method_3_code 18 = .ok (.iload_n 1, 1) := by decide +kernel
theorem d1_19 : decode method_3_code 19 = .ok (.i2d, 1) := by decide +kernel
theorem d1_20 : decode method_3_code 20 = .ok (.dastore, 1) := by decide +kernel
theorem d1_21 : decode method_3_code 21 = .ok (.areturn, 1) := by decide +kernel
theorem ef_1_l0_1Int32 (m : MethodId) (p0 : Int32) (p1 : Int32) (p2 : Int32) : entryFrame m #[(.int (1 : Int32)), (.int p0), (.int p1), (.int p2)] 4 = mkF m 0 #[.val (.int (1 : Int32)), .val (.int p0), .val (.int p1), .val (.int p2)] [] := by first | (simp [entryFrame, mkF, argsToLocals, Value.category]; done) | rfl
theorem d1_22 : decode method_3_code 22 = .ok (.iload_n 0, 1) := by decide +kernel
theorem d1_23 : decode method_3_code 23 = .ok (.iconst 2, 1) := by decide +kernel
theorem d1_24 : decode method_3_code 24 = .ok (.if_icmp .ne 17, 3) := by decide +kernel
theorem d1_27 : decode method_3_code 27 = .ok (.iconst 2, 1) := by decide +kernel
theorem d1_28 : decode method_3_code 28 = .ok (.newarray .double, 2) := by decide +kernel
theorem d1_30 : decode method_3_code 30 = .ok (.dup, 1) := by decide +kernel
theorem d1_31 : decode method_3_code 31 = .ok (.iconst 0, 1) := by decide +kernel
theorem d1_32 : decode method_3_code 32 = .ok (.iload_n 1, 1) := by decide +kernel
theorem d1_33 : decode method_3_code 33 = .ok (.i2d, 1) := by decide +kernel
theorem d1_34 : decode method_3_code 34 = .ok (.dastore, 1) := by decide +kernel
theorem d1_35 : decode method_3_code 35 = .ok (.dup, 1) := by decide +kernel
theorem d1_36 : decode method_3_code 36 = .ok (.iconst 1, 1) := by decide +kernel
theorem d1_37 : decode method_3_code 37 = .ok (.iload_n 2, 1) := by decide +kernel
theorem d1_38 : decode method_3_code 38 = .ok (.i2d, 1) := by decide +kernel
theorem d1_39 : decode method_3_code 39 = .ok (.dastore, 1) := by decide +kernel
theorem d1_40 : decode method_3_code 40 = .ok (.areturn, 1) := by decide +kernel
theorem ef_1_l0_2Int32 (m : MethodId) (p0 : Int32) (p1 : Int32) (p2 : Int32) : entryFrame m #[(.int (2 : Int32)), (.int p0), (.int p1), (.int p2)] 4 = mkF m 0 #[.val (.int (2 : Int32)), .val (.int p0), .val (.int p1), .val (.int p2)] [] := by first | (simp [entryFrame, mkF, argsToLocals, Value.category]; done) | rfl
theorem d1_41 : decode method_3_code 41 = .ok (.iconst 3, 1) := by decide +kernel
theorem d1_42 : decode method_3_code 42 = .ok (.newarray .double, 2) := by decide +kernel
theorem d1_44 : decode method_3_code 44 = .ok (.dup, 1) := by decide +kernel
theorem d1_45 : decode method_3_code 45 = .ok (.iconst 0, 1) := by decide +kernel
theorem d1_46 : decode method_3_code 46 = .ok (.iload_n 1, 1) := by decide +kernel
theorem d1_47 : decode method_3_code 47 = .ok (.i2d, 1) := by decide +kernel
theorem d1_48 : decode method_3_code 48 = .ok (.dastore, 1) := by decide +kernel
theorem d1_49 : decode method_3_code 49 = .ok (.dup, 1) := by decide +kernel
theorem d1_50 : decode method_3_code 50 = .ok (.iconst 1, 1) := by decide +kernel
theorem d1_51 : decode method_3_code 51 = .ok (.iload_n 2, 1) := by decide +kernel
theorem d1_52 : decode method_3_code 52 = .ok (.i2d, 1) := by decide +kernel
theorem d1_53 : decode method_3_code 53 = .ok (.dastore, 1) := by decide +kernel
theorem d1_54 : decode method_3_code 54 = .ok (.dup, 1) := by decide +kernel
theorem d1_55 : decode method_3_code 55 = .ok (.iconst 2, 1) := by decide +kernel
theorem d1_56 : decode method_3_code 56 = .ok (.iload_n 3, 1) := by decide +kernel
theorem d1_57 : decode method_3_code 57 = .ok (.i2d, 1) := by decide +kernel
theorem d1_58 : decode method_3_code 58 = .ok (.dastore, 1) := by decide +kernel
theorem d1_59 : decode method_3_code 59 = .ok (.areturn, 1) := by decide +kernel
theorem ef_1_l0_3Int32 (m : MethodId) (p0 : Int32) (p1 : Int32) (p2 : Int32) : entryFrame m #[(.int (3 : Int32)), (.int p0), (.int p1), (.int p2)] 4 = mkF m 0 #[.val (.int (3 : Int32)), .val (.int p0), .val (.int p1), .val (.int p2)] [] := by first | (simp [entryFrame, mkF, argsToLocals, Value.category]; done) | rfl
theorem d2_0 : decode prog_73_method_4_code 0 = .ok (.iconst 0, 1) := by decide +kernel
theorem d2_1 : decode prog_73_method_4_code 1 = .ok (.istore_n 3, 1) := by decide +kernel
theorem d2_2 : decode prog_73_method_4_code 2 = .ok (.iload_n 3, 1) := by decide +kernel
theorem d2_3 : decode prog_73_method_4_code 3 = .ok (.aload_n 1, 1) := by decide +kernel
theorem d2_4 : decode prog_73_method_4_code 4 = .ok (.arraylength, 1) := by decide +kernel
theorem d2_5 : decode prog_73_method_4_code 5 = .ok (.if_icmp .ge 41, 3) := by decide +kernel
theorem d2_46 : decode prog_73_method_4_code 46 = .ok (.iconst 1, 1) := by decide +kernel
theorem d2_47 : decode prog_73_method_4_code 47 = .ok (.ireturn, 1) := by decide +kernel
theorem ef_2 (m : MethodId) (a : Addr) (x : Addr) (y : Addr) : entryFrame m #[(.ref a), (.ref x), (.ref y)] 4 = mkF m 0 #[.val (.ref a), .val (.ref x), .val (.ref y), .unset] [] := by first | (simp [entryFrame, mkF, argsToLocals, Value.category]; done) | rfl
theorem pn_com_example_paretoloom_paretoloom_pareto_Sense : plainName "com/example/paretoloom/paretoloom/pareto/Sense" = true := by first | (simp [plainName, overriddenIn]; done) | decide +kernel
theorem d2_8 : decode prog_73_method_4_code 8 = .ok (.aload_n 0, 1) := by decide +kernel
theorem d2_9 : decode prog_73_method_4_code 9 = .ok (.getstatic 3, 3) := by decide +kernel
theorem d2_12 : decode prog_73_method_4_code 12 = .ok (.if_acmp .ne 16, 3) := by decide +kernel
theorem d2_28 : decode prog_73_method_4_code 28 = .ok (.aload_n 1, 1) := by decide +kernel
theorem d2_29 : decode prog_73_method_4_code 29 = .ok (.iload_n 3, 1) := by decide +kernel
theorem d2_30 : decode prog_73_method_4_code 30 = .ok (.daload, 1) := by decide +kernel
theorem d2_31 : decode prog_73_method_4_code 31 = .ok (.aload_n 2, 1) := by decide +kernel
theorem d2_32 : decode prog_73_method_4_code 32 = .ok (.iload_n 3, 1) := by decide +kernel
theorem d2_33 : decode prog_73_method_4_code 33 = .ok (.daload, 1) := by decide +kernel
theorem d2_34 : decode prog_73_method_4_code 34 = .ok (.dcmp .l, 1) := by decide +kernel
theorem d2_35 : decode prog_73_method_4_code 35 = .ok (.ifCond .le 5, 3) := by decide +kernel
theorem d2_38 : decode prog_73_method_4_code 38 = .ok (.iconst 0, 1) := by decide +kernel
theorem d2_39 : decode prog_73_method_4_code 39 = .ok (.ireturn, 1) := by decide +kernel
theorem d2_40 : decode prog_73_method_4_code 40 = .ok (.iinc 3 1, 3) := by decide +kernel
theorem d2_43 : decode prog_73_method_4_code 43 = .ok (.goto (-41), 3) := by decide +kernel
theorem d2_15 : decode prog_73_method_4_code 15 = .ok (.aload_n 1, 1) := by decide +kernel
theorem d2_16 : decode prog_73_method_4_code 16 = .ok (.iload_n 3, 1) := by decide +kernel
theorem d2_17 : decode prog_73_method_4_code 17 = .ok (.daload, 1) := by decide +kernel
theorem d2_18 : decode prog_73_method_4_code 18 = .ok (.aload_n 2, 1) := by decide +kernel
theorem d2_19 : decode prog_73_method_4_code 19 = .ok (.iload_n 3, 1) := by decide +kernel
theorem d2_20 : decode prog_73_method_4_code 20 = .ok (.daload, 1) := by decide +kernel
theorem d2_21 : decode prog_73_method_4_code 21 = .ok (.dcmp .g, 1) := by decide +kernel
theorem d2_22 : decode prog_73_method_4_code 22 = .ok (.ifCond .ge 18, 3) := by decide +kernel
theorem d2_25 : decode prog_73_method_4_code 25 = .ok (.goto 13, 3) := by decide +kernel
theorem ef_0 (m : MethodId) (p0 : Int32) (p1 : Int64) (p2 : Int64) (p3 : Int64) : entryFrame m #[(.int p0), (.long p1), (.long p2), (.long p3)] maxLocals = mkF m 0 #[.val (.int p0), .val (.long p1), .second, .val (.long p2), .second, .val (.long p3), .second, .unset, .unset, .unset, .unset, .unset, .unset, .unset, .unset, .unset, .unset, .unset, .unset, .unset] [] := by first | (simp [entryFrame, mkF, argsToLocals, Value.category, maxLocals]; done) | rfl
theorem pd__40IIII_41_91D : parseMethodDescriptor "(IIII)[D" = some ⟨[.int, .int, .int, .int], some (.array .double)⟩ := by decide +kernel
theorem pd__40_91D_91D_41Z : parseMethodDescriptor "([D[D)Z" = some ⟨[(.array .double), (.array .double)], some .boolean⟩ := by decide +kernel
theorem pd__40ZII_41Z : parseMethodDescriptor "(ZII)Z" = some ⟨[.boolean, .int, .int], some .boolean⟩ := by decide +kernel
/-! statics and what the case says of them -/
theorem own_sta {s : State} {args : Array Value} {C n d K : String} (h : (Jvm.Cond.exactly (.static C n d) K).value args s none s [] = some true) (wi : (Jvm.Cond.initialized C).before args s = true) (wl : (Jvm.Cond.laysStatic C n d).before args s = true) : ∃ a, Sta s s.heap C n d (.ref a) ∧ Exa s s.heap a K ∧ (Term.static C n d).eval args s none [] s = some (.ref a) := by
  obtain ⟨a, ev⟩ := exa_v h
  exact ⟨a, Sta.start ev (Or.inr ⟨wi, wl⟩), Exa.start ev h, ev⟩
theorem own_fld {s : State} {args : Array Value} {t : Term} {a : Addr} {C f d : String} {v : Value} (ht : t.eval args s none [] s = some (.ref a)) (hv : (Term.field t C f d).eval args s none [] s = some v) : Fld s s.heap a C f d v := Fld.start ((fld_at ht).symm.trans hv)
theorem own_eqI {s : State} {args : Array Value} {t : Term} {k : Int32} (h : (Jvm.Cond.eq t (.int k)).value args s none s [] = some true) : t.eval args s none [] s = some (.int k) := by
  obtain ⟨x, y, h1, h2, hk, -⟩ := cmp_v (Or.inl h)
  have e2 : (Term.int k).eval args s none [] s = some (.int k) := Term.int_eval k
  rw [e2] at h2
  cases h2
  cases x <;> simp [Kin, Value.isRef] at hk
  rename_i i
  have h3 : (Jvm.Cond.eq t (.int k)).value args s none s [] = some (decide (i = k)) := by simp [Cond.value, h1, e2]
  rw [h3] at h
  rw [h1, of_decide_eq_true (Option.some.inj h)]
theorem own_eqR {s : State} {args : Array Value} {t u : Term} {b : Addr} (h : (Jvm.Cond.eq t u).value args s none s [] = some true) (hu : u.eval args s none [] s = some (.ref b)) : t.eval args s none [] s = some (.ref b) := by
  obtain ⟨x, y, h1, h2, hk, -⟩ := cmp_v (Or.inl h)
  rw [hu] at h2
  cases h2
  have hx : x.isRef = true := by cases x <;> simp [Kin, Value.isRef] at hk ⊢
  rw [eq_R h1 hu hx rfl] at h
  rw [h1, of_decide_eq_true (Option.some.inj h)]
theorem own_or {s : State} {args : Array Value} {idx : List Nat} {c d : Jvm.Cond} (h : (Jvm.Cond.or c d).value args s none s idx = some true) (hc : c.value args s none s idx = some false) : d.value args s none s idx = some true := by
  have e : (Jvm.Cond.or c d).value args s none s idx = (match c.value args s none s idx with | some false => d.value args s none s idx | x => x) := rfl
  rw [e, hc] at h
  exact h
theorem own_len {s : State} {args : Array Value} {t : Term} {a : Addr} {cell : Cell} {k : Int32} (ht : t.eval args s none [] s = some (.ref a)) (hc : s.arrayAt? a = some cell) (h : (Term.length t).eval args s none [] s = some (.int k)) : cell.slots.size < 2 ^ 31 ∧ cell.slots.size.toInt32 = k := by
  simp [Term.eval, ht, hc] at h
  exact h
/-- a cell that holds no statics -/
def Pl (h : Heap) (a : Addr) : Prop := ∃ c : Cell, h[a]? = some c ∧ c.vm.isStatics = false
theorem own_plE {Z : State} {h : Heap} {a : Addr} {C : String} (F : Exa Z h a C) : Pl h a := by obtain ⟨c, k, h1, -, -, h2, -⟩ := F; exact ⟨c, h1, h2⟩
theorem own_plA {Z : State} {h : Heap} {a : Addr} {ty : FieldType} {len : Nat} {f : Nat → Value} (F : Av Z h a ty len f) : Pl h a := by obtain ⟨c, A, -⟩ := F; exact ⟨c, A.1, A.plain⟩
theorem own_sta_keep {Z : State} {h h' : Heap} {C n d : String} {v : Value} {ws : List Addr} (F : Sta Z h C n d v) (K : Keep h h' ws) (q : ∀ a ∈ ws, Pl h a) : Sta Z h' C n d v := by
  obtain ⟨cf, i, k, f, st, cell, h1, h2, h3, h4, h5, h6, h7⟩ := F
  refine ⟨cf, i, k, f, st, cell, h1, h2, h3, h4, K.2.1 st cell h5 (fun hm => ?_), h6, h7⟩
  obtain ⟨c, e1, e2⟩ := q st hm
  rw [h5] at e1
  cases e1
  rw [h6] at e2
  cases e2

def f_ok (p0 : Int32) (p1 : Int32) (p2 : Int32) : Int32 := (if p0 = (0 : Int32) then (if p2 < p1 then (0 : Int32) else (1 : Int32)) else (if p1 < p2 then (0 : Int32) else (1 : Int32)))
set_option maxRecDepth 65536 in
theorem c_f_ok (l : Launch) (Z : State) (a0 : Array Value) (hw : ∀ d ∈ tables_1, d.before a0 Z = true) (p0 : Int32) (p1 : Int32) (p2 : Int32) (h0 : Heap) (n0 : Nat) : Met1 l Z (⟨"com/example/paretoloom/paretoloom/pareto/SenseWeaklyDominatesPinLaw", "ok", "(ZII)Z"⟩ : MethodName) method_2_code 3 (some .boolean) [] ({ frames := 0, cells := 0, slots := 0, locals := 0 } : Room) #[(.int p0), (.int p1), (.int p2)] h0 n0 (Ret (.int (f_ok p0 p1 p2)) h0) := by
  refine met_of_go (plainFor_of_name pn_com_example_paretoloom_paretoloom_pareto_SenseWeaklyDominatesPinLaw) (fun m => ef_3 m p0 p1 p2) ?_
  intro W hl C
  subst hl
  refine Go.iloadN C d3_0 (q := 1) rfl rfl ?_
  refine Go.if0 C d3_1 (z_eq _) (qt := 15) (q := 4) (by decide) (by decide) rfl (fun b1 => ?_) (fun b1 => ?_)
  ·
    refine Go.iloadN C d3_15 (q := 16) rfl rfl ?_
    refine Go.iloadN C d3_16 (q := 17) rfl rfl ?_
    refine Go.icmp C d3_17 (n_gt _ _) (qt := 24) (q := 20) (by decide) (by decide) rfl (fun b2 => ?_) (fun b2 => ?_)
    ·
      refine Go.iconst C (0 : Int32) d3_24 (q := 25) rfl rfl ?_
      refine Go.retZ (t := .boolean) (by simp) C d3_25 (by decide) (by decide) ⟨?_, rfl⟩
      refine congrArg (fun z => some (Value.int z)) ?_
      show (0 : Int32) = f_ok p0 p1 p2
      unfold f_ok
      rw [if_pos b1, if_pos b2]
    ·
      refine Go.iconst C (1 : Int32) d3_20 (q := 21) rfl rfl ?_
      refine Go.goto C d3_21 (q := 25) (by decide) (by decide) ?_
      refine Go.retZ (t := .boolean) (by simp) C d3_25 (by decide) (by decide) ⟨?_, rfl⟩
      refine congrArg (fun z => some (Value.int z)) ?_
      show (1 : Int32) = f_ok p0 p1 p2
      unfold f_ok
      rw [if_pos b1, if_neg b2]
  ·
    refine Go.iloadN C d3_4 (q := 5) rfl rfl ?_
    refine Go.iloadN C d3_5 (q := 6) rfl rfl ?_
    refine Go.icmp C d3_6 (n_lt _ _) (qt := 13) (q := 9) (by decide) (by decide) rfl (fun b3 => ?_) (fun b3 => ?_)
    ·
      refine Go.iconst C (0 : Int32) d3_13 (q := 14) rfl rfl ?_
      refine Go.retZ (t := .boolean) (by simp) C d3_14 (by decide) (by decide) ⟨?_, rfl⟩
      refine congrArg (fun z => some (Value.int z)) ?_
      show (0 : Int32) = f_ok p0 p1 p2
      unfold f_ok
      rw [if_neg b1, if_pos b3]
    ·
      refine Go.iconst C (1 : Int32) d3_9 (q := 10) rfl rfl ?_
      refine Go.goto C d3_10 (q := 14) (by decide) (by decide) ?_
      refine Go.retZ (t := .boolean) (by simp) C d3_14 (by decide) (by decide) ⟨?_, rfl⟩
      refine congrArg (fun z => some (Value.int z)) ?_
      show (1 : Int32) = f_ok p0 p1 p2
      unfold f_ok
      rw [if_neg b1, if_neg b3]
set_option maxRecDepth 65536 in
theorem c_vec0 (l : Launch) (Z : State) (a0 : Array Value) (hw : ∀ d ∈ tables_1, d.before a0 Z = true) (p0 : Int32) (p1 : Int32) (p2 : Int32) (h0 : Heap) (n0 : Nat)  (Z0 : n0 ≤ h0.size)  : Met1 l Z (⟨"com/example/paretoloom/paretoloom/pareto/SenseWeaklyDominatesPinLaw", "vec", "(IIII)[D"⟩ : MethodName) method_3_code 4 (some (.array .double)) [] ({ frames := 0, cells := 1, slots := 0, locals := 0 } : Room) #[(.int (0 : Int32)), (.int p0), (.int p1), (.int p2)] h0 n0 (fun v h => ∃ b : Addr, v = some (.ref b) ∧ Keep h0 h [] ∧ n0 ≤ b ∧ h0.size ≤ b ∧ Av Z h b .double 0 (kF (fun _ => (0 : Int64)))) := by
  refine met_of_go (plainFor_of_name pn_com_example_paretoloom_paretoloom_pareto_SenseWeaklyDominatesPinLaw) (fun m => ef_1_l0_0Int32 m p0 p1 p2) ?_
  intro W hl C
  subst hl
  refine Go.iloadN C d1_0 (q := 1) rfl rfl ?_
  refine Go.if0 C d1_1 (z_ne _) (qt := 8) (q := 4) (by decide) (by decide) rfl (fun b1 => absurd b1 (by decide)) (fun _ => ?_)
  refine Go.iconst C (0 : Int32) d1_4 (q := 5) rfl rfl ?_
  refine Go.newP C (hw _ (List.mem_of_getElem? (i := 4) rfl)) (by decide) (cap := 0) (by decide) (by decide) d1_5 (q := 7) rfl (k' := 1) rfl (n' := 0) rfl (by decide) (by decide) ?_
  intro h2 a3 cA4 g5 E6 Fn7
  have g9 : n0 ≤ a3 := g5 ▸ Z0
  have y10 : h0.size ≤ a3 := g5 ▸ (Nat.le_refl h0.size)
  have F8 : Av Z h2 a3 .double 0 (kF (fun _ => (0 : Int64))) := Av.ofD Fn7
  exact Go.retR C d1_7 rfl rfl rfl (by decide) (by decide) ⟨a3, rfl, ((Keep.refl h0 []).ext E6), g9, y10, F8⟩
set_option maxRecDepth 65536 in
theorem c_vec1 (l : Launch) (Z : State) (a0 : Array Value) (hw : ∀ d ∈ tables_1, d.before a0 Z = true) (p0 : Int32) (p1 : Int32) (p2 : Int32) (h0 : Heap) (n0 : Nat)  (Z0 : n0 ≤ h0.size)  : Met1 l Z (⟨"com/example/paretoloom/paretoloom/pareto/SenseWeaklyDominatesPinLaw", "vec", "(IIII)[D"⟩ : MethodName) method_3_code 4 (some (.array .double)) [] ({ frames := 0, cells := 1, slots := 1, locals := 0 } : Room) #[(.int (1 : Int32)), (.int p0), (.int p1), (.int p2)] h0 n0 (fun v h => ∃ b : Addr, v = some (.ref b) ∧ Keep h0 h [] ∧ n0 ≤ b ∧ h0.size ≤ b ∧ Av Z h b .double 1 (kF (upd (fun _ => (0 : Int64)) 0 p0.toInt64))) := by
  refine met_of_go (plainFor_of_name pn_com_example_paretoloom_paretoloom_pareto_SenseWeaklyDominatesPinLaw) (fun m => ef_1_l0_1Int32 m p0 p1 p2) ?_
  intro W hl C
  subst hl
  refine Go.iloadN C d1_0 (q := 1) rfl rfl ?_
  refine Go.if0 C d1_1 (z_ne _) (qt := 8) (q := 4) (by decide) (by decide) rfl (fun _ => ?_) (fun b1 => absurd b1 (by decide))
  refine Go.iloadN C d1_8 (q := 9) rfl rfl ?_
  refine Go.iconst C (1 : Int32) d1_9 (q := 10) rfl rfl ?_
  refine Go.icmp C d1_10 (n_ne _ _) (qt := 22) (q := 13) (by decide) (by decide) rfl (fun b2 => absurd b2 (by decide)) (fun _ => ?_)
  refine Go.iconst C (1 : Int32) d1_13 (q := 14) rfl rfl ?_
  refine Go.newP C (hw _ (List.mem_of_getElem? (i := 4) rfl)) (by decide) (cap := 1) (by decide) (by decide) d1_14 (q := 16) rfl (k' := 1) rfl (n' := 1) rfl (by decide) (by decide) ?_
  intro h3 a4 cA5 g6 E7 Fn8
  have g10 : n0 ≤ a4 := g6 ▸ Z0
  have y11 : h0.size ≤ a4 := g6 ▸ (Nat.le_refl h0.size)
  have F9 : Av Z h3 a4 .double 1 (kF (fun _ => (0 : Int64))) := Av.ofD Fn8
  refine Go.dup C d1_16 (q := 17) rfl rfl ?_
  refine Go.iconst C (0 : Int32) d1_17 (q := 18) rfl rfl ?_
  refine Go.iloadN C d1_18 (q := 19) rfl rfl ?_
  refine Go.i2d C d1_19 (q := 20) rfl ?_
  refine Go.dastore C F9 0 (by decide) (by decide) (by decide) g10 d1_20 (q := 21) rfl ?_
  intro h12 W13
  have F14 := F9.sameK W13
  exact Go.retR C d1_21 rfl rfl rfl (by decide) (by decide) ⟨a4, rfl, (((Keep.refl h0 []).ext E7).wr W13 (Or.inr y11)), g10, y11, F14⟩
set_option maxRecDepth 65536 in
theorem c_vec2 (l : Launch) (Z : State) (a0 : Array Value) (hw : ∀ d ∈ tables_1, d.before a0 Z = true) (p0 : Int32) (p1 : Int32) (p2 : Int32) (h0 : Heap) (n0 : Nat)  (Z0 : n0 ≤ h0.size)  : Met1 l Z (⟨"com/example/paretoloom/paretoloom/pareto/SenseWeaklyDominatesPinLaw", "vec", "(IIII)[D"⟩ : MethodName) method_3_code 4 (some (.array .double)) [] ({ frames := 0, cells := 1, slots := 2, locals := 0 } : Room) #[(.int (2 : Int32)), (.int p0), (.int p1), (.int p2)] h0 n0 (fun v h => ∃ b : Addr, v = some (.ref b) ∧ Keep h0 h [] ∧ n0 ≤ b ∧ h0.size ≤ b ∧ Av Z h b .double 2 (kF (upd (upd (fun _ => (0 : Int64)) 0 p0.toInt64) 1 p1.toInt64))) := by
  refine met_of_go (plainFor_of_name pn_com_example_paretoloom_paretoloom_pareto_SenseWeaklyDominatesPinLaw) (fun m => ef_1_l0_2Int32 m p0 p1 p2) ?_
  intro W hl C
  subst hl
  refine Go.iloadN C d1_0 (q := 1) rfl rfl ?_
  refine Go.if0 C d1_1 (z_ne _) (qt := 8) (q := 4) (by decide) (by decide) rfl (fun _ => ?_) (fun b1 => absurd b1 (by decide))
  refine Go.iloadN C d1_8 (q := 9) rfl rfl ?_
  refine Go.iconst C (1 : Int32) d1_9 (q := 10) rfl rfl ?_
  refine Go.icmp C d1_10 (n_ne _ _) (qt := 22) (q := 13) (by decide) (by decide) rfl (fun _ => ?_) (fun b2 => absurd b2 (by decide))
  refine Go.iloadN C d1_22 (q := 23) rfl rfl ?_
  refine Go.iconst C (2 : Int32) d1_23 (q := 24) rfl rfl ?_
  refine Go.icmp C d1_24 (n_ne _ _) (qt := 41) (q := 27) (by decide) (by decide) rfl (fun b3 => absurd b3 (by decide)) (fun _ => ?_)
  refine Go.iconst C (2 : Int32) d1_27 (q := 28) rfl rfl ?_
  refine Go.newP C (hw _ (List.mem_of_getElem? (i := 4) rfl)) (by decide) (cap := 2) (by decide) (by decide) d1_28 (q := 30) rfl (k' := 1) rfl (n' := 2) rfl (by decide) (by decide) ?_
  intro h4 a5 cA6 g7 E8 Fn9
  have g11 : n0 ≤ a5 := g7 ▸ Z0
  have y12 : h0.size ≤ a5 := g7 ▸ (Nat.le_refl h0.size)
  have F10 : Av Z h4 a5 .double 2 (kF (fun _ => (0 : Int64))) := Av.ofD Fn9
  refine Go.dup C d1_30 (q := 31) rfl rfl ?_
  refine Go.iconst C (0 : Int32) d1_31 (q := 32) rfl rfl ?_
  refine Go.iloadN C d1_32 (q := 33) rfl rfl ?_
  refine Go.i2d C d1_33 (q := 34) rfl ?_
  refine Go.dastore C F10 0 (by decide) (by decide) (by decide) g11 d1_34 (q := 35) rfl ?_
  intro h13 W14
  have F15 := F10.sameK W14
  refine Go.dup C d1_35 (q := 36) rfl rfl ?_
  refine Go.iconst C (1 : Int32) d1_36 (q := 37) rfl rfl ?_
  refine Go.iloadN C d1_37 (q := 38) rfl rfl ?_
  refine Go.i2d C d1_38 (q := 39) rfl ?_
  refine Go.dastore C F15 1 (by decide) (by decide) (by decide) g11 d1_39 (q := 40) rfl ?_
  intro h16 W17
  have F18 := F15.sameK W17
  exact Go.retR C d1_40 rfl rfl rfl (by decide) (by decide) ⟨a5, rfl, ((((Keep.refl h0 []).ext E8).wr W14 (Or.inr y12)).wr W17 (Or.inr y12)), g11, y12, F18⟩
set_option maxRecDepth 65536 in
theorem c_vec3 (l : Launch) (Z : State) (a0 : Array Value) (hw : ∀ d ∈ tables_1, d.before a0 Z = true) (p0 : Int32) (p1 : Int32) (p2 : Int32) (h0 : Heap) (n0 : Nat)  (Z0 : n0 ≤ h0.size)  : Met1 l Z (⟨"com/example/paretoloom/paretoloom/pareto/SenseWeaklyDominatesPinLaw", "vec", "(IIII)[D"⟩ : MethodName) method_3_code 4 (some (.array .double)) [] ({ frames := 0, cells := 1, slots := 3, locals := 0 } : Room) #[(.int (3 : Int32)), (.int p0), (.int p1), (.int p2)] h0 n0 (fun v h => ∃ b : Addr, v = some (.ref b) ∧ Keep h0 h [] ∧ n0 ≤ b ∧ h0.size ≤ b ∧ Av Z h b .double 3 (kF (upd (upd (upd (fun _ => (0 : Int64)) 0 p0.toInt64) 1 p1.toInt64) 2 p2.toInt64))) := by
  refine met_of_go (plainFor_of_name pn_com_example_paretoloom_paretoloom_pareto_SenseWeaklyDominatesPinLaw) (fun m => ef_1_l0_3Int32 m p0 p1 p2) ?_
  intro W hl C
  subst hl
  refine Go.iloadN C d1_0 (q := 1) rfl rfl ?_
  refine Go.if0 C d1_1 (z_ne _) (qt := 8) (q := 4) (by decide) (by decide) rfl (fun _ => ?_) (fun b1 => absurd b1 (by decide))
  refine Go.iloadN C d1_8 (q := 9) rfl rfl ?_
  refine Go.iconst C (1 : Int32) d1_9 (q := 10) rfl rfl ?_
  refine Go.icmp C d1_10 (n_ne _ _) (qt := 22) (q := 13) (by decide) (by decide) rfl (fun _ => ?_) (fun b2 => absurd b2 (by decide))
  refine Go.iloadN C d1_22 (q := 23) rfl rfl ?_
  refine Go.iconst C (2 : Int32) d1_23 (q := 24) rfl rfl ?_
  refine Go.icmp C d1_24 (n_ne _ _) (qt := 41) (q := 27) (by decide) (by decide) rfl (fun _ => ?_) (fun b3 => absurd b3 (by decide))
  refine Go.iconst C (3 : Int32) d1_41 (q := 42) rfl rfl ?_
  refine Go.newP C (hw _ (List.mem_of_getElem? (i := 4) rfl)) (by decide) (cap := 3) (by decide) (by decide) d1_42 (q := 44) rfl (k' := 1) rfl (n' := 3) rfl (by decide) (by decide) ?_
  intro h4 a5 cA6 g7 E8 Fn9
  have g11 : n0 ≤ a5 := g7 ▸ Z0
  have y12 : h0.size ≤ a5 := g7 ▸ (Nat.le_refl h0.size)
  have F10 : Av Z h4 a5 .double 3 (kF (fun _ => (0 : Int64))) := Av.ofD Fn9
  refine Go.dup C d1_44 (q := 45) rfl rfl ?_
  refine Go.iconst C (0 : Int32) d1_45 (q := 46) rfl rfl ?_
  refine Go.iloadN C d1_46 (q := 47) rfl rfl ?_
  refine Go.i2d C d1_47 (q := 48) rfl ?_
  refine Go.dastore C F10 0 (by decide) (by decide) (by decide) g11 d1_48 (q := 49) rfl ?_
  intro h13 W14
  have F15 := F10.sameK W14
  refine Go.dup C d1_49 (q := 50) rfl rfl ?_
  refine Go.iconst C (1 : Int32) d1_50 (q := 51) rfl rfl ?_
  refine Go.iloadN C d1_51 (q := 52) rfl rfl ?_
  refine Go.i2d C d1_52 (q := 53) rfl ?_
  refine Go.dastore C F15 1 (by decide) (by decide) (by decide) g11 d1_53 (q := 54) rfl ?_
  intro h16 W17
  have F18 := F15.sameK W17
  refine Go.dup C d1_54 (q := 55) rfl rfl ?_
  refine Go.iconst C (2 : Int32) d1_55 (q := 56) rfl rfl ?_
  refine Go.iloadN C d1_56 (q := 57) rfl rfl ?_
  refine Go.i2d C d1_57 (q := 58) rfl ?_
  refine Go.dastore C F18 2 (by decide) (by decide) (by decide) g11 d1_58 (q := 59) rfl ?_
  intro h19 W20
  have F21 := F18.sameK W20
  exact Go.retR C d1_59 rfl rfl rfl (by decide) (by decide) ⟨a5, rfl, (((((Keep.refl h0 []).ext E8).wr W14 (Or.inr y12)).wr W17 (Or.inr y12)).wr W20 (Or.inr y12)), g11, y12, F21⟩
def f_wd0_0 (f1 f2 : Nat → Int64) : Int32 := (1 : Int32)
set_option maxRecDepth 65536 in
theorem c_f_wd0_0 (l : Launch) (Z : State) (a0 : Array Value) (hw : ∀ d ∈ tables_1, d.before a0 Z = true) (a : Addr) (x : Addr) (y : Addr) (h0 : Heap) (n0 : Nat) (f1 f2 : Nat → Int64) (mx : Addr) (Z0 : n0 ≤ h0.size) (A_x : Av Z h0 x .double 0 (kF f1)) (A_y : Av Z h0 y .double 0 (kF f2)) (h1 : ∀ i, B53 (f1 i)) (h2 : ∀ i, B53 (f2 i)) (S0 : Sta Z h0 "com/example/paretoloom/paretoloom/pareto/Sense" "MAXIMIZE" "Lcom/example/paretoloom/paretoloom/pareto/Sense;" (.ref mx)) (ne0 : a ≠ mx) : Met1 l Z (⟨"com/example/paretoloom/paretoloom/pareto/Sense", "weaklyDominates", "([D[D)Z"⟩ : MethodName) prog_73_method_4_code 4 (some .boolean) [] ({ frames := 0, cells := 0, slots := 0, locals := 0 } : Room) #[(.ref a), (.ref x), (.ref y)] h0 n0 (Ret (.int (f_wd0_0 f1 f2)) h0) := by
  refine met_of_go (plainFor_of_name pn_com_example_paretoloom_paretoloom_pareto_Sense) (fun m => ef_2 m a x y) ?_
  intro W hl C
  subst hl
  refine Go.iconst C (0 : Int32) d2_0 (q := 1) rfl rfl ?_
  refine Go.istoreNR C d2_1 (q := 2) rfl (l' := #[.val (.ref a), .val (.ref x), .val (.ref y), .val (.int (0 : Int32))]) rfl ?_
  refine Go.iloadN C d2_2 (q := 3) rfl rfl ?_
  refine Go.aloadN C d2_3 (q := 4) rfl rfl rfl ?_
  refine Go.alen C A_x d2_4 (q := 5) rfl ?_
  show Go W n0 (Ret (.int (f_wd0_0 f1 f2)) h0) h0 0 0 5 #[.val (.ref a), .val (.ref x), .val (.ref y), .val (.int (0 : Int32))] [(.int (0 : Int32)), (.int (0 : Int32))]
  refine Go.icmp C d2_5 (n_ge _ _) (qt := 46) (q := 8) (by decide) (by decide) rfl (fun _ => ?_) (fun b1 => absurd b1 (by decide))
  refine Go.iconst C (1 : Int32) d2_46 (q := 47) rfl rfl ?_
  refine Go.retZ (t := .boolean) (by simp) C d2_47 (by decide) (by decide) ⟨?_, rfl⟩
  refine congrArg (fun z => some (Value.int z)) ?_
  show (1 : Int32) = f_wd0_0 f1 f2
  unfold f_wd0_0
  rfl
def f_wd0_1 (f1 f2 : Nat → Int64) : Int32 := (if (f2 0) < (f1 0) then (0 : Int32) else (1 : Int32))
set_option maxRecDepth 65536 in
theorem c_f_wd0_1 (l : Launch) (Z : State) (a0 : Array Value) (hw : ∀ d ∈ tables_1, d.before a0 Z = true) (a : Addr) (x : Addr) (y : Addr) (h0 : Heap) (n0 : Nat) (f1 f2 : Nat → Int64) (mx : Addr) (Z0 : n0 ≤ h0.size) (A_x : Av Z h0 x .double 1 (kF f1)) (A_y : Av Z h0 y .double 1 (kF f2)) (h1 : ∀ i, B53 (f1 i)) (h2 : ∀ i, B53 (f2 i)) (S0 : Sta Z h0 "com/example/paretoloom/paretoloom/pareto/Sense" "MAXIMIZE" "Lcom/example/paretoloom/paretoloom/pareto/Sense;" (.ref mx)) (ne0 : a ≠ mx) : Met1 l Z (⟨"com/example/paretoloom/paretoloom/pareto/Sense", "weaklyDominates", "([D[D)Z"⟩ : MethodName) prog_73_method_4_code 4 (some .boolean) [] ({ frames := 0, cells := 0, slots := 0, locals := 0 } : Room) #[(.ref a), (.ref x), (.ref y)] h0 n0 (Ret (.int (f_wd0_1 f1 f2)) h0) := by
  refine met_of_go (plainFor_of_name pn_com_example_paretoloom_paretoloom_pareto_Sense) (fun m => ef_2 m a x y) ?_
  intro W hl C
  subst hl
  refine Go.iconst C (0 : Int32) d2_0 (q := 1) rfl rfl ?_
  refine Go.istoreNR C d2_1 (q := 2) rfl (l' := #[.val (.ref a), .val (.ref x), .val (.ref y), .val (.int (0 : Int32))]) rfl ?_
  refine Go.iloadN C d2_2 (q := 3) rfl rfl ?_
  refine Go.aloadN C d2_3 (q := 4) rfl rfl rfl ?_
  refine Go.alen C A_x d2_4 (q := 5) rfl ?_
  show Go W n0 (Ret (.int (f_wd0_1 f1 f2)) h0) h0 0 0 5 #[.val (.ref a), .val (.ref x), .val (.ref y), .val (.int (0 : Int32))] [(.int (1 : Int32)), (.int (0 : Int32))]
  refine Go.icmp C d2_5 (n_ge _ _) (qt := 46) (q := 8) (by decide) (by decide) rfl (fun b1 => absurd b1 (by decide)) (fun _ => ?_)
  refine Go.aloadN C d2_8 (q := 9) rfl rfl rfl ?_
  refine Go.getS C (hw _ (List.mem_of_getElem? (i := 18) rfl)) Via.refl S0 d2_9 (q := 12) rfl ?_
  refine Go.acmp C d2_12 (x := (.ref a)) (y := (.ref mx)) rfl rfl (decide_eq_false (fun e => ne0 (Value.ref.inj e))) (by decide) (q := 28) rfl ?_
  refine Go.aloadN C d2_28 (q := 29) rfl rfl rfl ?_
  refine Go.iloadN C d2_29 (q := 30) rfl rfl ?_
  refine Go.daload C A_x 0 (v := (.double (FP.l2d (f1 0)))) (by decide) (by decide) (by decide) rfl d2_30 (q := 31) rfl ?_
  refine Go.aloadN C d2_31 (q := 32) rfl rfl rfl ?_
  refine Go.iloadN C d2_32 (q := 33) rfl rfl ?_
  refine Go.daload C A_y 0 (v := (.double (FP.l2d (f2 0)))) (by decide) (by decide) (by decide) rfl d2_33 (q := 34) rfl ?_
  refine Go.dcmp C d2_34 (q := 35) rfl (h1 0) (h2 0) ?_
  refine Go.if0 C d2_35 (l_le _ _) (qt := 40) (q := 38) (by decide) (by decide) rfl (fun b2 => ?_) (fun b2 => ?_)
  ·
    refine Go.iincR C d2_40 (q := 43) rfl rfl (l' := #[.val (.ref a), .val (.ref x), .val (.ref y), .val (.int (1 : Int32))]) rfl ?_
    refine Go.goto C d2_43 (q := 2) (by decide) (by decide) ?_
    refine Go.iloadN C d2_2 (q := 3) rfl rfl ?_
    refine Go.aloadN C d2_3 (q := 4) rfl rfl rfl ?_
    refine Go.alen C A_x d2_4 (q := 5) rfl ?_
    show Go W n0 (Ret (.int (f_wd0_1 f1 f2)) h0) h0 0 0 5 #[.val (.ref a), .val (.ref x), .val (.ref y), .val (.int (1 : Int32))] [(.int (1 : Int32)), (.int (1 : Int32))]
    refine Go.icmp C d2_5 (n_ge _ _) (qt := 46) (q := 8) (by decide) (by decide) rfl (fun _ => ?_) (fun b3 => absurd b3 (by decide))
    refine Go.iconst C (1 : Int32) d2_46 (q := 47) rfl rfl ?_
    refine Go.retZ (t := .boolean) (by simp) C d2_47 (by decide) (by decide) ⟨?_, rfl⟩
    refine congrArg (fun z => some (Value.int z)) ?_
    show (1 : Int32) = f_wd0_1 f1 f2
    unfold f_wd0_1
    rw [if_neg b2]
  ·
    have b2 := Classical.not_not.mp b2
    refine Go.iconst C (0 : Int32) d2_38 (q := 39) rfl rfl ?_
    refine Go.retZ (t := .boolean) (by simp) C d2_39 (by decide) (by decide) ⟨?_, rfl⟩
    refine congrArg (fun z => some (Value.int z)) ?_
    show (0 : Int32) = f_wd0_1 f1 f2
    unfold f_wd0_1
    rw [if_pos b2]
def f_wd0_2 (f1 f2 : Nat → Int64) : Int32 := (if (f2 0) < (f1 0) then (0 : Int32) else (if (f2 1) < (f1 1) then (0 : Int32) else (1 : Int32)))
set_option maxRecDepth 65536 in
theorem c_f_wd0_2 (l : Launch) (Z : State) (a0 : Array Value) (hw : ∀ d ∈ tables_1, d.before a0 Z = true) (a : Addr) (x : Addr) (y : Addr) (h0 : Heap) (n0 : Nat) (f1 f2 : Nat → Int64) (mx : Addr) (Z0 : n0 ≤ h0.size) (A_x : Av Z h0 x .double 2 (kF f1)) (A_y : Av Z h0 y .double 2 (kF f2)) (h1 : ∀ i, B53 (f1 i)) (h2 : ∀ i, B53 (f2 i)) (S0 : Sta Z h0 "com/example/paretoloom/paretoloom/pareto/Sense" "MAXIMIZE" "Lcom/example/paretoloom/paretoloom/pareto/Sense;" (.ref mx)) (ne0 : a ≠ mx) : Met1 l Z (⟨"com/example/paretoloom/paretoloom/pareto/Sense", "weaklyDominates", "([D[D)Z"⟩ : MethodName) prog_73_method_4_code 4 (some .boolean) [] ({ frames := 0, cells := 0, slots := 0, locals := 0 } : Room) #[(.ref a), (.ref x), (.ref y)] h0 n0 (Ret (.int (f_wd0_2 f1 f2)) h0) := by
  refine met_of_go (plainFor_of_name pn_com_example_paretoloom_paretoloom_pareto_Sense) (fun m => ef_2 m a x y) ?_
  intro W hl C
  subst hl
  refine Go.iconst C (0 : Int32) d2_0 (q := 1) rfl rfl ?_
  refine Go.istoreNR C d2_1 (q := 2) rfl (l' := #[.val (.ref a), .val (.ref x), .val (.ref y), .val (.int (0 : Int32))]) rfl ?_
  refine Go.iloadN C d2_2 (q := 3) rfl rfl ?_
  refine Go.aloadN C d2_3 (q := 4) rfl rfl rfl ?_
  refine Go.alen C A_x d2_4 (q := 5) rfl ?_
  show Go W n0 (Ret (.int (f_wd0_2 f1 f2)) h0) h0 0 0 5 #[.val (.ref a), .val (.ref x), .val (.ref y), .val (.int (0 : Int32))] [(.int (2 : Int32)), (.int (0 : Int32))]
  refine Go.icmp C d2_5 (n_ge _ _) (qt := 46) (q := 8) (by decide) (by decide) rfl (fun b1 => absurd b1 (by decide)) (fun _ => ?_)
  refine Go.aloadN C d2_8 (q := 9) rfl rfl rfl ?_
  refine Go.getS C (hw _ (List.mem_of_getElem? (i := 18) rfl)) Via.refl S0 d2_9 (q := 12) rfl ?_
  refine Go.acmp C d2_12 (x := (.ref a)) (y := (.ref mx)) rfl rfl (decide_eq_false (fun e => ne0 (Value.ref.inj e))) (by decide) (q := 28) rfl ?_
  refine Go.aloadN C d2_28 (q := 29) rfl rfl rfl ?_
  refine Go.iloadN C d2_29 (q := 30) rfl rfl ?_
  refine Go.daload C A_x 0 (v := (.double (FP.l2d (f1 0)))) (by decide) (by decide) (by decide) rfl d2_30 (q := 31) rfl ?_
  refine Go.aloadN C d2_31 (q := 32) rfl rfl rfl ?_
  refine Go.iloadN C d2_32 (q := 33) rfl rfl ?_
  refine Go.daload C A_y 0 (v := (.double (FP.l2d (f2 0)))) (by decide) (by decide) (by decide) rfl d2_33 (q := 34) rfl ?_
  refine Go.dcmp C d2_34 (q := 35) rfl (h1 0) (h2 0) ?_
  refine Go.if0 C d2_35 (l_le _ _) (qt := 40) (q := 38) (by decide) (by decide) rfl (fun b2 => ?_) (fun b2 => ?_)
  ·
    refine Go.iincR C d2_40 (q := 43) rfl rfl (l' := #[.val (.ref a), .val (.ref x), .val (.ref y), .val (.int (1 : Int32))]) rfl ?_
    refine Go.goto C d2_43 (q := 2) (by decide) (by decide) ?_
    refine Go.iloadN C d2_2 (q := 3) rfl rfl ?_
    refine Go.aloadN C d2_3 (q := 4) rfl rfl rfl ?_
    refine Go.alen C A_x d2_4 (q := 5) rfl ?_
    show Go W n0 (Ret (.int (f_wd0_2 f1 f2)) h0) h0 0 0 5 #[.val (.ref a), .val (.ref x), .val (.ref y), .val (.int (1 : Int32))] [(.int (2 : Int32)), (.int (1 : Int32))]
    refine Go.icmp C d2_5 (n_ge _ _) (qt := 46) (q := 8) (by decide) (by decide) rfl (fun b3 => absurd b3 (by decide)) (fun _ => ?_)
    refine Go.aloadN C d2_8 (q := 9) rfl rfl rfl ?_
    refine Go.getS C (hw _ (List.mem_of_getElem? (i := 18) rfl)) Via.refl S0 d2_9 (q := 12) rfl ?_
    refine Go.acmp C d2_12 (x := (.ref a)) (y := (.ref mx)) rfl rfl (decide_eq_false (fun e => ne0 (Value.ref.inj e))) (by decide) (q := 28) rfl ?_
    refine Go.aloadN C d2_28 (q := 29) rfl rfl rfl ?_
    refine Go.iloadN C d2_29 (q := 30) rfl rfl ?_
    refine Go.daload C A_x 1 (v := (.double (FP.l2d (f1 1)))) (by decide) (by decide) (by decide) rfl d2_30 (q := 31) rfl ?_
    refine Go.aloadN C d2_31 (q := 32) rfl rfl rfl ?_
    refine Go.iloadN C d2_32 (q := 33) rfl rfl ?_
    refine Go.daload C A_y 1 (v := (.double (FP.l2d (f2 1)))) (by decide) (by decide) (by decide) rfl d2_33 (q := 34) rfl ?_
    refine Go.dcmp C d2_34 (q := 35) rfl (h1 1) (h2 1) ?_
    refine Go.if0 C d2_35 (l_le _ _) (qt := 40) (q := 38) (by decide) (by decide) rfl (fun b4 => ?_) (fun b4 => ?_)
    ·
      refine Go.iincR C d2_40 (q := 43) rfl rfl (l' := #[.val (.ref a), .val (.ref x), .val (.ref y), .val (.int (2 : Int32))]) rfl ?_
      refine Go.goto C d2_43 (q := 2) (by decide) (by decide) ?_
      refine Go.iloadN C d2_2 (q := 3) rfl rfl ?_
      refine Go.aloadN C d2_3 (q := 4) rfl rfl rfl ?_
      refine Go.alen C A_x d2_4 (q := 5) rfl ?_
      show Go W n0 (Ret (.int (f_wd0_2 f1 f2)) h0) h0 0 0 5 #[.val (.ref a), .val (.ref x), .val (.ref y), .val (.int (2 : Int32))] [(.int (2 : Int32)), (.int (2 : Int32))]
      refine Go.icmp C d2_5 (n_ge _ _) (qt := 46) (q := 8) (by decide) (by decide) rfl (fun _ => ?_) (fun b5 => absurd b5 (by decide))
      refine Go.iconst C (1 : Int32) d2_46 (q := 47) rfl rfl ?_
      refine Go.retZ (t := .boolean) (by simp) C d2_47 (by decide) (by decide) ⟨?_, rfl⟩
      refine congrArg (fun z => some (Value.int z)) ?_
      show (1 : Int32) = f_wd0_2 f1 f2
      unfold f_wd0_2
      rw [if_neg b2, if_neg b4]
    ·
      have b4 := Classical.not_not.mp b4
      refine Go.iconst C (0 : Int32) d2_38 (q := 39) rfl rfl ?_
      refine Go.retZ (t := .boolean) (by simp) C d2_39 (by decide) (by decide) ⟨?_, rfl⟩
      refine congrArg (fun z => some (Value.int z)) ?_
      show (0 : Int32) = f_wd0_2 f1 f2
      unfold f_wd0_2
      rw [if_neg b2, if_pos b4]
  ·
    have b2 := Classical.not_not.mp b2
    refine Go.iconst C (0 : Int32) d2_38 (q := 39) rfl rfl ?_
    refine Go.retZ (t := .boolean) (by simp) C d2_39 (by decide) (by decide) ⟨?_, rfl⟩
    refine congrArg (fun z => some (Value.int z)) ?_
    show (0 : Int32) = f_wd0_2 f1 f2
    unfold f_wd0_2
    rw [if_pos b2]
def f_wd0_3 (f1 f2 : Nat → Int64) : Int32 := (if (f2 0) < (f1 0) then (0 : Int32) else (if (f2 1) < (f1 1) then (0 : Int32) else (if (f2 2) < (f1 2) then (0 : Int32) else (1 : Int32))))
set_option maxRecDepth 65536 in
theorem c_f_wd0_3 (l : Launch) (Z : State) (a0 : Array Value) (hw : ∀ d ∈ tables_1, d.before a0 Z = true) (a : Addr) (x : Addr) (y : Addr) (h0 : Heap) (n0 : Nat) (f1 f2 : Nat → Int64) (mx : Addr) (Z0 : n0 ≤ h0.size) (A_x : Av Z h0 x .double 3 (kF f1)) (A_y : Av Z h0 y .double 3 (kF f2)) (h1 : ∀ i, B53 (f1 i)) (h2 : ∀ i, B53 (f2 i)) (S0 : Sta Z h0 "com/example/paretoloom/paretoloom/pareto/Sense" "MAXIMIZE" "Lcom/example/paretoloom/paretoloom/pareto/Sense;" (.ref mx)) (ne0 : a ≠ mx) : Met1 l Z (⟨"com/example/paretoloom/paretoloom/pareto/Sense", "weaklyDominates", "([D[D)Z"⟩ : MethodName) prog_73_method_4_code 4 (some .boolean) [] ({ frames := 0, cells := 0, slots := 0, locals := 0 } : Room) #[(.ref a), (.ref x), (.ref y)] h0 n0 (Ret (.int (f_wd0_3 f1 f2)) h0) := by
  refine met_of_go (plainFor_of_name pn_com_example_paretoloom_paretoloom_pareto_Sense) (fun m => ef_2 m a x y) ?_
  intro W hl C
  subst hl
  refine Go.iconst C (0 : Int32) d2_0 (q := 1) rfl rfl ?_
  refine Go.istoreNR C d2_1 (q := 2) rfl (l' := #[.val (.ref a), .val (.ref x), .val (.ref y), .val (.int (0 : Int32))]) rfl ?_
  refine Go.iloadN C d2_2 (q := 3) rfl rfl ?_
  refine Go.aloadN C d2_3 (q := 4) rfl rfl rfl ?_
  refine Go.alen C A_x d2_4 (q := 5) rfl ?_
  show Go W n0 (Ret (.int (f_wd0_3 f1 f2)) h0) h0 0 0 5 #[.val (.ref a), .val (.ref x), .val (.ref y), .val (.int (0 : Int32))] [(.int (3 : Int32)), (.int (0 : Int32))]
  refine Go.icmp C d2_5 (n_ge _ _) (qt := 46) (q := 8) (by decide) (by decide) rfl (fun b1 => absurd b1 (by decide)) (fun _ => ?_)
  refine Go.aloadN C d2_8 (q := 9) rfl rfl rfl ?_
  refine Go.getS C (hw _ (List.mem_of_getElem? (i := 18) rfl)) Via.refl S0 d2_9 (q := 12) rfl ?_
  refine Go.acmp C d2_12 (x := (.ref a)) (y := (.ref mx)) rfl rfl (decide_eq_false (fun e => ne0 (Value.ref.inj e))) (by decide) (q := 28) rfl ?_
  refine Go.aloadN C d2_28 (q := 29) rfl rfl rfl ?_
  refine Go.iloadN C d2_29 (q := 30) rfl rfl ?_
  refine Go.daload C A_x 0 (v := (.double (FP.l2d (f1 0)))) (by decide) (by decide) (by decide) rfl d2_30 (q := 31) rfl ?_
  refine Go.aloadN C d2_31 (q := 32) rfl rfl rfl ?_
  refine Go.iloadN C d2_32 (q := 33) rfl rfl ?_
  refine Go.daload C A_y 0 (v := (.double (FP.l2d (f2 0)))) (by decide) (by decide) (by decide) rfl d2_33 (q := 34) rfl ?_
  refine Go.dcmp C d2_34 (q := 35) rfl (h1 0) (h2 0) ?_
  refine Go.if0 C d2_35 (l_le _ _) (qt := 40) (q := 38) (by decide) (by decide) rfl (fun b2 => ?_) (fun b2 => ?_)
  ·
    refine Go.iincR C d2_40 (q := 43) rfl rfl (l' := #[.val (.ref a), .val (.ref x), .val (.ref y), .val (.int (1 : Int32))]) rfl ?_
    refine Go.goto C d2_43 (q := 2) (by decide) (by decide) ?_
    refine Go.iloadN C d2_2 (q := 3) rfl rfl ?_
    refine Go.aloadN C d2_3 (q := 4) rfl rfl rfl ?_
    refine Go.alen C A_x d2_4 (q := 5) rfl ?_
    show Go W n0 (Ret (.int (f_wd0_3 f1 f2)) h0) h0 0 0 5 #[.val (.ref a), .val (.ref x), .val (.ref y), .val (.int (1 : Int32))] [(.int (3 : Int32)), (.int (1 : Int32))]
    refine Go.icmp C d2_5 (n_ge _ _) (qt := 46) (q := 8) (by decide) (by decide) rfl (fun b3 => absurd b3 (by decide)) (fun _ => ?_)
    refine Go.aloadN C d2_8 (q := 9) rfl rfl rfl ?_
    refine Go.getS C (hw _ (List.mem_of_getElem? (i := 18) rfl)) Via.refl S0 d2_9 (q := 12) rfl ?_
    refine Go.acmp C d2_12 (x := (.ref a)) (y := (.ref mx)) rfl rfl (decide_eq_false (fun e => ne0 (Value.ref.inj e))) (by decide) (q := 28) rfl ?_
    refine Go.aloadN C d2_28 (q := 29) rfl rfl rfl ?_
    refine Go.iloadN C d2_29 (q := 30) rfl rfl ?_
    refine Go.daload C A_x 1 (v := (.double (FP.l2d (f1 1)))) (by decide) (by decide) (by decide) rfl d2_30 (q := 31) rfl ?_
    refine Go.aloadN C d2_31 (q := 32) rfl rfl rfl ?_
    refine Go.iloadN C d2_32 (q := 33) rfl rfl ?_
    refine Go.daload C A_y 1 (v := (.double (FP.l2d (f2 1)))) (by decide) (by decide) (by decide) rfl d2_33 (q := 34) rfl ?_
    refine Go.dcmp C d2_34 (q := 35) rfl (h1 1) (h2 1) ?_
    refine Go.if0 C d2_35 (l_le _ _) (qt := 40) (q := 38) (by decide) (by decide) rfl (fun b4 => ?_) (fun b4 => ?_)
    ·
      refine Go.iincR C d2_40 (q := 43) rfl rfl (l' := #[.val (.ref a), .val (.ref x), .val (.ref y), .val (.int (2 : Int32))]) rfl ?_
      refine Go.goto C d2_43 (q := 2) (by decide) (by decide) ?_
      refine Go.iloadN C d2_2 (q := 3) rfl rfl ?_
      refine Go.aloadN C d2_3 (q := 4) rfl rfl rfl ?_
      refine Go.alen C A_x d2_4 (q := 5) rfl ?_
      show Go W n0 (Ret (.int (f_wd0_3 f1 f2)) h0) h0 0 0 5 #[.val (.ref a), .val (.ref x), .val (.ref y), .val (.int (2 : Int32))] [(.int (3 : Int32)), (.int (2 : Int32))]
      refine Go.icmp C d2_5 (n_ge _ _) (qt := 46) (q := 8) (by decide) (by decide) rfl (fun b5 => absurd b5 (by decide)) (fun _ => ?_)
      refine Go.aloadN C d2_8 (q := 9) rfl rfl rfl ?_
      refine Go.getS C (hw _ (List.mem_of_getElem? (i := 18) rfl)) Via.refl S0 d2_9 (q := 12) rfl ?_
      refine Go.acmp C d2_12 (x := (.ref a)) (y := (.ref mx)) rfl rfl (decide_eq_false (fun e => ne0 (Value.ref.inj e))) (by decide) (q := 28) rfl ?_
      refine Go.aloadN C d2_28 (q := 29) rfl rfl rfl ?_
      refine Go.iloadN C d2_29 (q := 30) rfl rfl ?_
      refine Go.daload C A_x 2 (v := (.double (FP.l2d (f1 2)))) (by decide) (by decide) (by decide) rfl d2_30 (q := 31) rfl ?_
      refine Go.aloadN C d2_31 (q := 32) rfl rfl rfl ?_
      refine Go.iloadN C d2_32 (q := 33) rfl rfl ?_
      refine Go.daload C A_y 2 (v := (.double (FP.l2d (f2 2)))) (by decide) (by decide) (by decide) rfl d2_33 (q := 34) rfl ?_
      refine Go.dcmp C d2_34 (q := 35) rfl (h1 2) (h2 2) ?_
      refine Go.if0 C d2_35 (l_le _ _) (qt := 40) (q := 38) (by decide) (by decide) rfl (fun b6 => ?_) (fun b6 => ?_)
      ·
        refine Go.iincR C d2_40 (q := 43) rfl rfl (l' := #[.val (.ref a), .val (.ref x), .val (.ref y), .val (.int (3 : Int32))]) rfl ?_
        refine Go.goto C d2_43 (q := 2) (by decide) (by decide) ?_
        refine Go.iloadN C d2_2 (q := 3) rfl rfl ?_
        refine Go.aloadN C d2_3 (q := 4) rfl rfl rfl ?_
        refine Go.alen C A_x d2_4 (q := 5) rfl ?_
        show Go W n0 (Ret (.int (f_wd0_3 f1 f2)) h0) h0 0 0 5 #[.val (.ref a), .val (.ref x), .val (.ref y), .val (.int (3 : Int32))] [(.int (3 : Int32)), (.int (3 : Int32))]
        refine Go.icmp C d2_5 (n_ge _ _) (qt := 46) (q := 8) (by decide) (by decide) rfl (fun _ => ?_) (fun b7 => absurd b7 (by decide))
        refine Go.iconst C (1 : Int32) d2_46 (q := 47) rfl rfl ?_
        refine Go.retZ (t := .boolean) (by simp) C d2_47 (by decide) (by decide) ⟨?_, rfl⟩
        refine congrArg (fun z => some (Value.int z)) ?_
        show (1 : Int32) = f_wd0_3 f1 f2
        unfold f_wd0_3
        rw [if_neg b2, if_neg b4, if_neg b6]
      ·
        have b6 := Classical.not_not.mp b6
        refine Go.iconst C (0 : Int32) d2_38 (q := 39) rfl rfl ?_
        refine Go.retZ (t := .boolean) (by simp) C d2_39 (by decide) (by decide) ⟨?_, rfl⟩
        refine congrArg (fun z => some (Value.int z)) ?_
        show (0 : Int32) = f_wd0_3 f1 f2
        unfold f_wd0_3
        rw [if_neg b2, if_neg b4, if_pos b6]
    ·
      have b4 := Classical.not_not.mp b4
      refine Go.iconst C (0 : Int32) d2_38 (q := 39) rfl rfl ?_
      refine Go.retZ (t := .boolean) (by simp) C d2_39 (by decide) (by decide) ⟨?_, rfl⟩
      refine congrArg (fun z => some (Value.int z)) ?_
      show (0 : Int32) = f_wd0_3 f1 f2
      unfold f_wd0_3
      rw [if_neg b2, if_pos b4]
  ·
    have b2 := Classical.not_not.mp b2
    refine Go.iconst C (0 : Int32) d2_38 (q := 39) rfl rfl ?_
    refine Go.retZ (t := .boolean) (by simp) C d2_39 (by decide) (by decide) ⟨?_, rfl⟩
    refine congrArg (fun z => some (Value.int z)) ?_
    show (0 : Int32) = f_wd0_3 f1 f2
    unfold f_wd0_3
    rw [if_pos b2]
def f_wd1_0 (f1 f2 : Nat → Int64) : Int32 := (1 : Int32)
set_option maxRecDepth 65536 in
theorem c_f_wd1_0 (l : Launch) (Z : State) (a0 : Array Value) (hw : ∀ d ∈ tables_1, d.before a0 Z = true) (a : Addr) (x : Addr) (y : Addr) (h0 : Heap) (n0 : Nat) (f1 f2 : Nat → Int64) (Z0 : n0 ≤ h0.size) (A_x : Av Z h0 x .double 0 (kF f1)) (A_y : Av Z h0 y .double 0 (kF f2)) (h1 : ∀ i, B53 (f1 i)) (h2 : ∀ i, B53 (f2 i)) (S0 : Sta Z h0 "com/example/paretoloom/paretoloom/pareto/Sense" "MAXIMIZE" "Lcom/example/paretoloom/paretoloom/pareto/Sense;" (.ref a)) : Met1 l Z (⟨"com/example/paretoloom/paretoloom/pareto/Sense", "weaklyDominates", "([D[D)Z"⟩ : MethodName) prog_73_method_4_code 4 (some .boolean) [] ({ frames := 0, cells := 0, slots := 0, locals := 0 } : Room) #[(.ref a), (.ref x), (.ref y)] h0 n0 (Ret (.int (f_wd1_0 f1 f2)) h0) := by
  refine met_of_go (plainFor_of_name pn_com_example_paretoloom_paretoloom_pareto_Sense) (fun m => ef_2 m a x y) ?_
  intro W hl C
  subst hl
  refine Go.iconst C (0 : Int32) d2_0 (q := 1) rfl rfl ?_
  refine Go.istoreNR C d2_1 (q := 2) rfl (l' := #[.val (.ref a), .val (.ref x), .val (.ref y), .val (.int (0 : Int32))]) rfl ?_
  refine Go.iloadN C d2_2 (q := 3) rfl rfl ?_
  refine Go.aloadN C d2_3 (q := 4) rfl rfl rfl ?_
  refine Go.alen C A_x d2_4 (q := 5) rfl ?_
  show Go W n0 (Ret (.int (f_wd1_0 f1 f2)) h0) h0 0 0 5 #[.val (.ref a), .val (.ref x), .val (.ref y), .val (.int (0 : Int32))] [(.int (0 : Int32)), (.int (0 : Int32))]
  refine Go.icmp C d2_5 (n_ge _ _) (qt := 46) (q := 8) (by decide) (by decide) rfl (fun _ => ?_) (fun b1 => absurd b1 (by decide))
  refine Go.iconst C (1 : Int32) d2_46 (q := 47) rfl rfl ?_
  refine Go.retZ (t := .boolean) (by simp) C d2_47 (by decide) (by decide) ⟨?_, rfl⟩
  refine congrArg (fun z => some (Value.int z)) ?_
  show (1 : Int32) = f_wd1_0 f1 f2
  unfold f_wd1_0
  rfl
def f_wd1_1 (f1 f2 : Nat → Int64) : Int32 := (if (f1 0) < (f2 0) then (0 : Int32) else (1 : Int32))
set_option maxRecDepth 65536 in
theorem c_f_wd1_1 (l : Launch) (Z : State) (a0 : Array Value) (hw : ∀ d ∈ tables_1, d.before a0 Z = true) (a : Addr) (x : Addr) (y : Addr) (h0 : Heap) (n0 : Nat) (f1 f2 : Nat → Int64) (Z0 : n0 ≤ h0.size) (A_x : Av Z h0 x .double 1 (kF f1)) (A_y : Av Z h0 y .double 1 (kF f2)) (h1 : ∀ i, B53 (f1 i)) (h2 : ∀ i, B53 (f2 i)) (S0 : Sta Z h0 "com/example/paretoloom/paretoloom/pareto/Sense" "MAXIMIZE" "Lcom/example/paretoloom/paretoloom/pareto/Sense;" (.ref a)) : Met1 l Z (⟨"com/example/paretoloom/paretoloom/pareto/Sense", "weaklyDominates", "([D[D)Z"⟩ : MethodName) prog_73_method_4_code 4 (some .boolean) [] ({ frames := 0, cells := 0, slots := 0, locals := 0 } : Room) #[(.ref a), (.ref x), (.ref y)] h0 n0 (Ret (.int (f_wd1_1 f1 f2)) h0) := by
  refine met_of_go (plainFor_of_name pn_com_example_paretoloom_paretoloom_pareto_Sense) (fun m => ef_2 m a x y) ?_
  intro W hl C
  subst hl
  refine Go.iconst C (0 : Int32) d2_0 (q := 1) rfl rfl ?_
  refine Go.istoreNR C d2_1 (q := 2) rfl (l' := #[.val (.ref a), .val (.ref x), .val (.ref y), .val (.int (0 : Int32))]) rfl ?_
  refine Go.iloadN C d2_2 (q := 3) rfl rfl ?_
  refine Go.aloadN C d2_3 (q := 4) rfl rfl rfl ?_
  refine Go.alen C A_x d2_4 (q := 5) rfl ?_
  show Go W n0 (Ret (.int (f_wd1_1 f1 f2)) h0) h0 0 0 5 #[.val (.ref a), .val (.ref x), .val (.ref y), .val (.int (0 : Int32))] [(.int (1 : Int32)), (.int (0 : Int32))]
  refine Go.icmp C d2_5 (n_ge _ _) (qt := 46) (q := 8) (by decide) (by decide) rfl (fun b1 => absurd b1 (by decide)) (fun _ => ?_)
  refine Go.aloadN C d2_8 (q := 9) rfl rfl rfl ?_
  refine Go.getS C (hw _ (List.mem_of_getElem? (i := 18) rfl)) Via.refl S0 d2_9 (q := 12) rfl ?_
  refine Go.acmp C d2_12 (x := (.ref a)) (y := (.ref a)) rfl rfl (decide_eq_true rfl) (by decide) (q := 15) rfl ?_
  refine Go.aloadN C d2_15 (q := 16) rfl rfl rfl ?_
  refine Go.iloadN C d2_16 (q := 17) rfl rfl ?_
  refine Go.daload C A_x 0 (v := (.double (FP.l2d (f1 0)))) (by decide) (by decide) (by decide) rfl d2_17 (q := 18) rfl ?_
  refine Go.aloadN C d2_18 (q := 19) rfl rfl rfl ?_
  refine Go.iloadN C d2_19 (q := 20) rfl rfl ?_
  refine Go.daload C A_y 0 (v := (.double (FP.l2d (f2 0)))) (by decide) (by decide) (by decide) rfl d2_20 (q := 21) rfl ?_
  refine Go.dcmp C d2_21 (q := 22) rfl (h1 0) (h2 0) ?_
  refine Go.if0 C d2_22 (l_ge _ _) (qt := 40) (q := 25) (by decide) (by decide) rfl (fun b2 => ?_) (fun b2 => ?_)
  ·
    refine Go.iincR C d2_40 (q := 43) rfl rfl (l' := #[.val (.ref a), .val (.ref x), .val (.ref y), .val (.int (1 : Int32))]) rfl ?_
    refine Go.goto C d2_43 (q := 2) (by decide) (by decide) ?_
    refine Go.iloadN C d2_2 (q := 3) rfl rfl ?_
    refine Go.aloadN C d2_3 (q := 4) rfl rfl rfl ?_
    refine Go.alen C A_x d2_4 (q := 5) rfl ?_
    show Go W n0 (Ret (.int (f_wd1_1 f1 f2)) h0) h0 0 0 5 #[.val (.ref a), .val (.ref x), .val (.ref y), .val (.int (1 : Int32))] [(.int (1 : Int32)), (.int (1 : Int32))]
    refine Go.icmp C d2_5 (n_ge _ _) (qt := 46) (q := 8) (by decide) (by decide) rfl (fun _ => ?_) (fun b3 => absurd b3 (by decide))
    refine Go.iconst C (1 : Int32) d2_46 (q := 47) rfl rfl ?_
    refine Go.retZ (t := .boolean) (by simp) C d2_47 (by decide) (by decide) ⟨?_, rfl⟩
    refine congrArg (fun z => some (Value.int z)) ?_
    show (1 : Int32) = f_wd1_1 f1 f2
    unfold f_wd1_1
    rw [if_neg b2]
  ·
    have b2 := Classical.not_not.mp b2
    refine Go.goto C d2_25 (q := 38) (by decide) (by decide) ?_
    refine Go.iconst C (0 : Int32) d2_38 (q := 39) rfl rfl ?_
    refine Go.retZ (t := .boolean) (by simp) C d2_39 (by decide) (by decide) ⟨?_, rfl⟩
    refine congrArg (fun z => some (Value.int z)) ?_
    show (0 : Int32) = f_wd1_1 f1 f2
    unfold f_wd1_1
    rw [if_pos b2]
def f_wd1_2 (f1 f2 : Nat → Int64) : Int32 := (if (f1 0) < (f2 0) then (0 : Int32) else (if (f1 1) < (f2 1) then (0 : Int32) else (1 : Int32)))
set_option maxRecDepth 65536 in
theorem c_f_wd1_2 (l : Launch) (Z : State) (a0 : Array Value) (hw : ∀ d ∈ tables_1, d.before a0 Z = true) (a : Addr) (x : Addr) (y : Addr) (h0 : Heap) (n0 : Nat) (f1 f2 : Nat → Int64) (Z0 : n0 ≤ h0.size) (A_x : Av Z h0 x .double 2 (kF f1)) (A_y : Av Z h0 y .double 2 (kF f2)) (h1 : ∀ i, B53 (f1 i)) (h2 : ∀ i, B53 (f2 i)) (S0 : Sta Z h0 "com/example/paretoloom/paretoloom/pareto/Sense" "MAXIMIZE" "Lcom/example/paretoloom/paretoloom/pareto/Sense;" (.ref a)) : Met1 l Z (⟨"com/example/paretoloom/paretoloom/pareto/Sense", "weaklyDominates", "([D[D)Z"⟩ : MethodName) prog_73_method_4_code 4 (some .boolean) [] ({ frames := 0, cells := 0, slots := 0, locals := 0 } : Room) #[(.ref a), (.ref x), (.ref y)] h0 n0 (Ret (.int (f_wd1_2 f1 f2)) h0) := by
  refine met_of_go (plainFor_of_name pn_com_example_paretoloom_paretoloom_pareto_Sense) (fun m => ef_2 m a x y) ?_
  intro W hl C
  subst hl
  refine Go.iconst C (0 : Int32) d2_0 (q := 1) rfl rfl ?_
  refine Go.istoreNR C d2_1 (q := 2) rfl (l' := #[.val (.ref a), .val (.ref x), .val (.ref y), .val (.int (0 : Int32))]) rfl ?_
  refine Go.iloadN C d2_2 (q := 3) rfl rfl ?_
  refine Go.aloadN C d2_3 (q := 4) rfl rfl rfl ?_
  refine Go.alen C A_x d2_4 (q := 5) rfl ?_
  show Go W n0 (Ret (.int (f_wd1_2 f1 f2)) h0) h0 0 0 5 #[.val (.ref a), .val (.ref x), .val (.ref y), .val (.int (0 : Int32))] [(.int (2 : Int32)), (.int (0 : Int32))]
  refine Go.icmp C d2_5 (n_ge _ _) (qt := 46) (q := 8) (by decide) (by decide) rfl (fun b1 => absurd b1 (by decide)) (fun _ => ?_)
  refine Go.aloadN C d2_8 (q := 9) rfl rfl rfl ?_
  refine Go.getS C (hw _ (List.mem_of_getElem? (i := 18) rfl)) Via.refl S0 d2_9 (q := 12) rfl ?_
  refine Go.acmp C d2_12 (x := (.ref a)) (y := (.ref a)) rfl rfl (decide_eq_true rfl) (by decide) (q := 15) rfl ?_
  refine Go.aloadN C d2_15 (q := 16) rfl rfl rfl ?_
  refine Go.iloadN C d2_16 (q := 17) rfl rfl ?_
  refine Go.daload C A_x 0 (v := (.double (FP.l2d (f1 0)))) (by decide) (by decide) (by decide) rfl d2_17 (q := 18) rfl ?_
  refine Go.aloadN C d2_18 (q := 19) rfl rfl rfl ?_
  refine Go.iloadN C d2_19 (q := 20) rfl rfl ?_
  refine Go.daload C A_y 0 (v := (.double (FP.l2d (f2 0)))) (by decide) (by decide) (by decide) rfl d2_20 (q := 21) rfl ?_
  refine Go.dcmp C d2_21 (q := 22) rfl (h1 0) (h2 0) ?_
  refine Go.if0 C d2_22 (l_ge _ _) (qt := 40) (q := 25) (by decide) (by decide) rfl (fun b2 => ?_) (fun b2 => ?_)
  ·
    refine Go.iincR C d2_40 (q := 43) rfl rfl (l' := #[.val (.ref a), .val (.ref x), .val (.ref y), .val (.int (1 : Int32))]) rfl ?_
    refine Go.goto C d2_43 (q := 2) (by decide) (by decide) ?_
    refine Go.iloadN C d2_2 (q := 3) rfl rfl ?_
    refine Go.aloadN C d2_3 (q := 4) rfl rfl rfl ?_
    refine Go.alen C A_x d2_4 (q := 5) rfl ?_
    show Go W n0 (Ret (.int (f_wd1_2 f1 f2)) h0) h0 0 0 5 #[.val (.ref a), .val (.ref x), .val (.ref y), .val (.int (1 : Int32))] [(.int (2 : Int32)), (.int (1 : Int32))]
    refine Go.icmp C d2_5 (n_ge _ _) (qt := 46) (q := 8) (by decide) (by decide) rfl (fun b3 => absurd b3 (by decide)) (fun _ => ?_)
    refine Go.aloadN C d2_8 (q := 9) rfl rfl rfl ?_
    refine Go.getS C (hw _ (List.mem_of_getElem? (i := 18) rfl)) Via.refl S0 d2_9 (q := 12) rfl ?_
    refine Go.acmp C d2_12 (x := (.ref a)) (y := (.ref a)) rfl rfl (decide_eq_true rfl) (by decide) (q := 15) rfl ?_
    refine Go.aloadN C d2_15 (q := 16) rfl rfl rfl ?_
    refine Go.iloadN C d2_16 (q := 17) rfl rfl ?_
    refine Go.daload C A_x 1 (v := (.double (FP.l2d (f1 1)))) (by decide) (by decide) (by decide) rfl d2_17 (q := 18) rfl ?_
    refine Go.aloadN C d2_18 (q := 19) rfl rfl rfl ?_
    refine Go.iloadN C d2_19 (q := 20) rfl rfl ?_
    refine Go.daload C A_y 1 (v := (.double (FP.l2d (f2 1)))) (by decide) (by decide) (by decide) rfl d2_20 (q := 21) rfl ?_
    refine Go.dcmp C d2_21 (q := 22) rfl (h1 1) (h2 1) ?_
    refine Go.if0 C d2_22 (l_ge _ _) (qt := 40) (q := 25) (by decide) (by decide) rfl (fun b4 => ?_) (fun b4 => ?_)
    ·
      refine Go.iincR C d2_40 (q := 43) rfl rfl (l' := #[.val (.ref a), .val (.ref x), .val (.ref y), .val (.int (2 : Int32))]) rfl ?_
      refine Go.goto C d2_43 (q := 2) (by decide) (by decide) ?_
      refine Go.iloadN C d2_2 (q := 3) rfl rfl ?_
      refine Go.aloadN C d2_3 (q := 4) rfl rfl rfl ?_
      refine Go.alen C A_x d2_4 (q := 5) rfl ?_
      show Go W n0 (Ret (.int (f_wd1_2 f1 f2)) h0) h0 0 0 5 #[.val (.ref a), .val (.ref x), .val (.ref y), .val (.int (2 : Int32))] [(.int (2 : Int32)), (.int (2 : Int32))]
      refine Go.icmp C d2_5 (n_ge _ _) (qt := 46) (q := 8) (by decide) (by decide) rfl (fun _ => ?_) (fun b5 => absurd b5 (by decide))
      refine Go.iconst C (1 : Int32) d2_46 (q := 47) rfl rfl ?_
      refine Go.retZ (t := .boolean) (by simp) C d2_47 (by decide) (by decide) ⟨?_, rfl⟩
      refine congrArg (fun z => some (Value.int z)) ?_
      show (1 : Int32) = f_wd1_2 f1 f2
      unfold f_wd1_2
      rw [if_neg b2, if_neg b4]
    ·
      have b4 := Classical.not_not.mp b4
      refine Go.goto C d2_25 (q := 38) (by decide) (by decide) ?_
      refine Go.iconst C (0 : Int32) d2_38 (q := 39) rfl rfl ?_
      refine Go.retZ (t := .boolean) (by simp) C d2_39 (by decide) (by decide) ⟨?_, rfl⟩
      refine congrArg (fun z => some (Value.int z)) ?_
      show (0 : Int32) = f_wd1_2 f1 f2
      unfold f_wd1_2
      rw [if_neg b2, if_pos b4]
  ·
    have b2 := Classical.not_not.mp b2
    refine Go.goto C d2_25 (q := 38) (by decide) (by decide) ?_
    refine Go.iconst C (0 : Int32) d2_38 (q := 39) rfl rfl ?_
    refine Go.retZ (t := .boolean) (by simp) C d2_39 (by decide) (by decide) ⟨?_, rfl⟩
    refine congrArg (fun z => some (Value.int z)) ?_
    show (0 : Int32) = f_wd1_2 f1 f2
    unfold f_wd1_2
    rw [if_pos b2]
def f_wd1_3 (f1 f2 : Nat → Int64) : Int32 := (if (f1 0) < (f2 0) then (0 : Int32) else (if (f1 1) < (f2 1) then (0 : Int32) else (if (f1 2) < (f2 2) then (0 : Int32) else (1 : Int32))))
set_option maxRecDepth 65536 in
theorem c_f_wd1_3 (l : Launch) (Z : State) (a0 : Array Value) (hw : ∀ d ∈ tables_1, d.before a0 Z = true) (a : Addr) (x : Addr) (y : Addr) (h0 : Heap) (n0 : Nat) (f1 f2 : Nat → Int64) (Z0 : n0 ≤ h0.size) (A_x : Av Z h0 x .double 3 (kF f1)) (A_y : Av Z h0 y .double 3 (kF f2)) (h1 : ∀ i, B53 (f1 i)) (h2 : ∀ i, B53 (f2 i)) (S0 : Sta Z h0 "com/example/paretoloom/paretoloom/pareto/Sense" "MAXIMIZE" "Lcom/example/paretoloom/paretoloom/pareto/Sense;" (.ref a)) : Met1 l Z (⟨"com/example/paretoloom/paretoloom/pareto/Sense", "weaklyDominates", "([D[D)Z"⟩ : MethodName) prog_73_method_4_code 4 (some .boolean) [] ({ frames := 0, cells := 0, slots := 0, locals := 0 } : Room) #[(.ref a), (.ref x), (.ref y)] h0 n0 (Ret (.int (f_wd1_3 f1 f2)) h0) := by
  refine met_of_go (plainFor_of_name pn_com_example_paretoloom_paretoloom_pareto_Sense) (fun m => ef_2 m a x y) ?_
  intro W hl C
  subst hl
  refine Go.iconst C (0 : Int32) d2_0 (q := 1) rfl rfl ?_
  refine Go.istoreNR C d2_1 (q := 2) rfl (l' := #[.val (.ref a), .val (.ref x), .val (.ref y), .val (.int (0 : Int32))]) rfl ?_
  refine Go.iloadN C d2_2 (q := 3) rfl rfl ?_
  refine Go.aloadN C d2_3 (q := 4) rfl rfl rfl ?_
  refine Go.alen C A_x d2_4 (q := 5) rfl ?_
  show Go W n0 (Ret (.int (f_wd1_3 f1 f2)) h0) h0 0 0 5 #[.val (.ref a), .val (.ref x), .val (.ref y), .val (.int (0 : Int32))] [(.int (3 : Int32)), (.int (0 : Int32))]
  refine Go.icmp C d2_5 (n_ge _ _) (qt := 46) (q := 8) (by decide) (by decide) rfl (fun b1 => absurd b1 (by decide)) (fun _ => ?_)
  refine Go.aloadN C d2_8 (q := 9) rfl rfl rfl ?_
  refine Go.getS C (hw _ (List.mem_of_getElem? (i := 18) rfl)) Via.refl S0 d2_9 (q := 12) rfl ?_
  refine Go.acmp C d2_12 (x := (.ref a)) (y := (.ref a)) rfl rfl (decide_eq_true rfl) (by decide) (q := 15) rfl ?_
  refine Go.aloadN C d2_15 (q := 16) rfl rfl rfl ?_
  refine Go.iloadN C d2_16 (q := 17) rfl rfl ?_
  refine Go.daload C A_x 0 (v := (.double (FP.l2d (f1 0)))) (by decide) (by decide) (by decide) rfl d2_17 (q := 18) rfl ?_
  refine Go.aloadN C d2_18 (q := 19) rfl rfl rfl ?_
  refine Go.iloadN C d2_19 (q := 20) rfl rfl ?_
  refine Go.daload C A_y 0 (v := (.double (FP.l2d (f2 0)))) (by decide) (by decide) (by decide) rfl d2_20 (q := 21) rfl ?_
  refine Go.dcmp C d2_21 (q := 22) rfl (h1 0) (h2 0) ?_
  refine Go.if0 C d2_22 (l_ge _ _) (qt := 40) (q := 25) (by decide) (by decide) rfl (fun b2 => ?_) (fun b2 => ?_)
  ·
    refine Go.iincR C d2_40 (q := 43) rfl rfl (l' := #[.val (.ref a), .val (.ref x), .val (.ref y), .val (.int (1 : Int32))]) rfl ?_
    refine Go.goto C d2_43 (q := 2) (by decide) (by decide) ?_
    refine Go.iloadN C d2_2 (q := 3) rfl rfl ?_
    refine Go.aloadN C d2_3 (q := 4) rfl rfl rfl ?_
    refine Go.alen C A_x d2_4 (q := 5) rfl ?_
    show Go W n0 (Ret (.int (f_wd1_3 f1 f2)) h0) h0 0 0 5 #[.val (.ref a), .val (.ref x), .val (.ref y), .val (.int (1 : Int32))] [(.int (3 : Int32)), (.int (1 : Int32))]
    refine Go.icmp C d2_5 (n_ge _ _) (qt := 46) (q := 8) (by decide) (by decide) rfl (fun b3 => absurd b3 (by decide)) (fun _ => ?_)
    refine Go.aloadN C d2_8 (q := 9) rfl rfl rfl ?_
    refine Go.getS C (hw _ (List.mem_of_getElem? (i := 18) rfl)) Via.refl S0 d2_9 (q := 12) rfl ?_
    refine Go.acmp C d2_12 (x := (.ref a)) (y := (.ref a)) rfl rfl (decide_eq_true rfl) (by decide) (q := 15) rfl ?_
    refine Go.aloadN C d2_15 (q := 16) rfl rfl rfl ?_
    refine Go.iloadN C d2_16 (q := 17) rfl rfl ?_
    refine Go.daload C A_x 1 (v := (.double (FP.l2d (f1 1)))) (by decide) (by decide) (by decide) rfl d2_17 (q := 18) rfl ?_
    refine Go.aloadN C d2_18 (q := 19) rfl rfl rfl ?_
    refine Go.iloadN C d2_19 (q := 20) rfl rfl ?_
    refine Go.daload C A_y 1 (v := (.double (FP.l2d (f2 1)))) (by decide) (by decide) (by decide) rfl d2_20 (q := 21) rfl ?_
    refine Go.dcmp C d2_21 (q := 22) rfl (h1 1) (h2 1) ?_
    refine Go.if0 C d2_22 (l_ge _ _) (qt := 40) (q := 25) (by decide) (by decide) rfl (fun b4 => ?_) (fun b4 => ?_)
    ·
      refine Go.iincR C d2_40 (q := 43) rfl rfl (l' := #[.val (.ref a), .val (.ref x), .val (.ref y), .val (.int (2 : Int32))]) rfl ?_
      refine Go.goto C d2_43 (q := 2) (by decide) (by decide) ?_
      refine Go.iloadN C d2_2 (q := 3) rfl rfl ?_
      refine Go.aloadN C d2_3 (q := 4) rfl rfl rfl ?_
      refine Go.alen C A_x d2_4 (q := 5) rfl ?_
      show Go W n0 (Ret (.int (f_wd1_3 f1 f2)) h0) h0 0 0 5 #[.val (.ref a), .val (.ref x), .val (.ref y), .val (.int (2 : Int32))] [(.int (3 : Int32)), (.int (2 : Int32))]
      refine Go.icmp C d2_5 (n_ge _ _) (qt := 46) (q := 8) (by decide) (by decide) rfl (fun b5 => absurd b5 (by decide)) (fun _ => ?_)
      refine Go.aloadN C d2_8 (q := 9) rfl rfl rfl ?_
      refine Go.getS C (hw _ (List.mem_of_getElem? (i := 18) rfl)) Via.refl S0 d2_9 (q := 12) rfl ?_
      refine Go.acmp C d2_12 (x := (.ref a)) (y := (.ref a)) rfl rfl (decide_eq_true rfl) (by decide) (q := 15) rfl ?_
      refine Go.aloadN C d2_15 (q := 16) rfl rfl rfl ?_
      refine Go.iloadN C d2_16 (q := 17) rfl rfl ?_
      refine Go.daload C A_x 2 (v := (.double (FP.l2d (f1 2)))) (by decide) (by decide) (by decide) rfl d2_17 (q := 18) rfl ?_
      refine Go.aloadN C d2_18 (q := 19) rfl rfl rfl ?_
      refine Go.iloadN C d2_19 (q := 20) rfl rfl ?_
      refine Go.daload C A_y 2 (v := (.double (FP.l2d (f2 2)))) (by decide) (by decide) (by decide) rfl d2_20 (q := 21) rfl ?_
      refine Go.dcmp C d2_21 (q := 22) rfl (h1 2) (h2 2) ?_
      refine Go.if0 C d2_22 (l_ge _ _) (qt := 40) (q := 25) (by decide) (by decide) rfl (fun b6 => ?_) (fun b6 => ?_)
      ·
        refine Go.iincR C d2_40 (q := 43) rfl rfl (l' := #[.val (.ref a), .val (.ref x), .val (.ref y), .val (.int (3 : Int32))]) rfl ?_
        refine Go.goto C d2_43 (q := 2) (by decide) (by decide) ?_
        refine Go.iloadN C d2_2 (q := 3) rfl rfl ?_
        refine Go.aloadN C d2_3 (q := 4) rfl rfl rfl ?_
        refine Go.alen C A_x d2_4 (q := 5) rfl ?_
        show Go W n0 (Ret (.int (f_wd1_3 f1 f2)) h0) h0 0 0 5 #[.val (.ref a), .val (.ref x), .val (.ref y), .val (.int (3 : Int32))] [(.int (3 : Int32)), (.int (3 : Int32))]
        refine Go.icmp C d2_5 (n_ge _ _) (qt := 46) (q := 8) (by decide) (by decide) rfl (fun _ => ?_) (fun b7 => absurd b7 (by decide))
        refine Go.iconst C (1 : Int32) d2_46 (q := 47) rfl rfl ?_
        refine Go.retZ (t := .boolean) (by simp) C d2_47 (by decide) (by decide) ⟨?_, rfl⟩
        refine congrArg (fun z => some (Value.int z)) ?_
        show (1 : Int32) = f_wd1_3 f1 f2
        unfold f_wd1_3
        rw [if_neg b2, if_neg b4, if_neg b6]
      ·
        have b6 := Classical.not_not.mp b6
        refine Go.goto C d2_25 (q := 38) (by decide) (by decide) ?_
        refine Go.iconst C (0 : Int32) d2_38 (q := 39) rfl rfl ?_
        refine Go.retZ (t := .boolean) (by simp) C d2_39 (by decide) (by decide) ⟨?_, rfl⟩
        refine congrArg (fun z => some (Value.int z)) ?_
        show (0 : Int32) = f_wd1_3 f1 f2
        unfold f_wd1_3
        rw [if_neg b2, if_neg b4, if_pos b6]
    ·
      have b4 := Classical.not_not.mp b4
      refine Go.goto C d2_25 (q := 38) (by decide) (by decide) ?_
      refine Go.iconst C (0 : Int32) d2_38 (q := 39) rfl rfl ?_
      refine Go.retZ (t := .boolean) (by simp) C d2_39 (by decide) (by decide) ⟨?_, rfl⟩
      refine congrArg (fun z => some (Value.int z)) ?_
      show (0 : Int32) = f_wd1_3 f1 f2
      unfold f_wd1_3
      rw [if_neg b2, if_pos b4]
  ·
    have b2 := Classical.not_not.mp b2
    refine Go.goto C d2_25 (q := 38) (by decide) (by decide) ?_
    refine Go.iconst C (0 : Int32) d2_38 (q := 39) rfl rfl ?_
    refine Go.retZ (t := .boolean) (by simp) C d2_39 (by decide) (by decide) ⟨?_, rfl⟩
    refine congrArg (fun z => some (Value.int z)) ?_
    show (0 : Int32) = f_wd1_3 f1 f2
    unfold f_wd1_3
    rw [if_pos b2]
theorem own_at4 (p1 v : Int32) (h : v = (p1 &&& (3 : Int32))) : v = 0 ∨ v = 1 ∨ v = 2 ∨ v = 3 := by
  have e := c_mask p1 3 2 (by decide) (by decide)
  rw [← h] at e
  have e0 : (0 : Int32).toInt = 0 := rfl
  have e1 : (1 : Int32).toInt = 1 := rfl
  have e2 : (2 : Int32).toInt = 2 := rfl
  have e3 : (3 : Int32).toInt = 3 := rfl
  simp only [← Int32.toInt_inj]
  omega
theorem own_bi (x : Int32) : B53 x.toInt64 := by
  have a := c_i2l x
  have r := rng32 x
  unfold B53
  omega
theorem own_bz : B53 0 := ⟨by decide, by decide⟩
theorem own_bu (g : Nat → Int64) (j : Nat) (x : Int32) (h : ∀ i, B53 (g i)) : ∀ i, B53 (upd g j x.toInt64 i) := fun i => by
  by_cases e : i = j
  · rw [e, upd_eq]; exact own_bi x
  · rw [upd_ne _ _ e]; exact h i
theorem own_b0 : ∀ i : Nat, B53 ((fun _ => (0 : Int64)) i) := fun _ => own_bz
theorem own_b1 (x : Int32) : ∀ i, B53 ((upd (fun _ => (0 : Int64)) 0 x.toInt64) i) := own_bu _ 0 x own_b0
theorem own_b2 (x y : Int32) : ∀ i, B53 ((upd (upd (fun _ => (0 : Int64)) 0 x.toInt64) 1 y.toInt64) i) := own_bu _ 1 y (own_b1 x)
theorem own_b3 (x y z : Int32) : ∀ i, B53 ((upd (upd (upd (fun _ => (0 : Int64)) 0 x.toInt64) 1 y.toInt64) 2 z.toInt64) i) := own_bu _ 2 z (own_b2 x y)
theorem own_lt (x y : Int32) : (x.toInt64 < y.toInt64) ↔ x < y := by
  rw [Int64.lt_iff_toInt_lt, Int32.lt_iff_toInt_lt, c_i2l, c_i2l]
theorem fin0 (p0 : Int32) (p1 : Int64) (p2 : Int64) (p3 : Int64) (v1 : Int32) (hv1 : v1 = (if (p0 &&& (1 : Int32)) = (0 : Int32) then (1 : Int32) else (0 : Int32))) (hv4 : (0 : Int32) = (((p0.toUInt32 >>> ((1 : Int32) &&& 31).toUInt32).toInt32) &&& (3 : Int32))) (v5 : Int32) (hv5 : v5 = (p1 >>> ((32 : Int32) &&& 0x3f).toInt64).toInt32) (v6 : Int32) (hv6 : v6 = p1.toInt32) (v7 : Int32) (hv7 : v7 = (p2 >>> ((32 : Int32) &&& 0x3f).toInt64).toInt32) (v8 : Int32) (hv8 : v8 = p2.toInt32) (v9 : Int32) (hv9 : v9 = (p3 >>> ((32 : Int32) &&& 0x3f).toInt64).toInt32) (v10 : Int32) (hv10 : v10 = p3.toInt32) (b31 : v1 = (0 : Int32)) (v40 : Int32) (hv40 : v40 = (f_wd0_0 (fun _ => (0 : Int64)) (fun _ => (0 : Int64)))) (b41 : ¬ v40 = (1 : Int32)) : False := by
  apply b41
  rw [hv40]
  rfl
theorem fin1 (p0 : Int32) (p1 : Int64) (p2 : Int64) (p3 : Int64) (v1 : Int32) (hv1 : v1 = (if (p0 &&& (1 : Int32)) = (0 : Int32) then (1 : Int32) else (0 : Int32))) (hv4 : (0 : Int32) = (((p0.toUInt32 >>> ((1 : Int32) &&& 31).toUInt32).toInt32) &&& (3 : Int32))) (v5 : Int32) (hv5 : v5 = (p1 >>> ((32 : Int32) &&& 0x3f).toInt64).toInt32) (v6 : Int32) (hv6 : v6 = p1.toInt32) (v7 : Int32) (hv7 : v7 = (p2 >>> ((32 : Int32) &&& 0x3f).toInt64).toInt32) (v8 : Int32) (hv8 : v8 = p2.toInt32) (v9 : Int32) (hv9 : v9 = (p3 >>> ((32 : Int32) &&& 0x3f).toInt64).toInt32) (v10 : Int32) (hv10 : v10 = p3.toInt32) (b31 : ¬ v1 = (0 : Int32)) (v49 : Int32) (hv49 : v49 = (f_wd1_0 (fun _ => (0 : Int64)) (fun _ => (0 : Int64)))) (b50 : ¬ v49 = (1 : Int32)) : False := by
  apply b50
  rw [hv49]
  rfl
theorem fin2 (p0 : Int32) (p1 : Int64) (p2 : Int64) (p3 : Int64) (v1 : Int32) (hv1 : v1 = (if (p0 &&& (1 : Int32)) = (0 : Int32) then (1 : Int32) else (0 : Int32))) (hv4 : (1 : Int32) = (((p0.toUInt32 >>> ((1 : Int32) &&& 31).toUInt32).toInt32) &&& (3 : Int32))) (v5 : Int32) (hv5 : v5 = (p1 >>> ((32 : Int32) &&& 0x3f).toInt64).toInt32) (v6 : Int32) (hv6 : v6 = p1.toInt32) (v7 : Int32) (hv7 : v7 = (p2 >>> ((32 : Int32) &&& 0x3f).toInt64).toInt32) (v8 : Int32) (hv8 : v8 = p2.toInt32) (v9 : Int32) (hv9 : v9 = (p3 >>> ((32 : Int32) &&& 0x3f).toInt64).toInt32) (v10 : Int32) (hv10 : v10 = p3.toInt32) (b71 : v1 = (0 : Int32)) (v74 : Int32) (hv74 : v74 = (if (f_ok v1 v5 v6) = (0 : Int32) then (0 : Int32) else (1 : Int32))) (v83 : Int32) (hv83 : v83 = (f_wd0_1 (upd (fun _ => (0 : Int64)) 0 v5.toInt64) (upd (fun _ => (0 : Int64)) 0 v6.toInt64))) (b84 : ¬ v83 = v74) : False := by
  apply b84
  have k : ∀ a b : Int32, f_ok v1 a b = if b < a then 0 else 1 := fun a b => by unfold f_ok; rw [if_pos b71]
  rw [hv83, hv74]
  simp only [k]
  show (if v6.toInt64 < v5.toInt64 then (0 : Int32) else (1 : Int32)) = _
  simp only [own_lt]
  by_cases h0 : v6 < v5 <;> simp [h0]
theorem fin3 (p0 : Int32) (p1 : Int64) (p2 : Int64) (p3 : Int64) (v1 : Int32) (hv1 : v1 = (if (p0 &&& (1 : Int32)) = (0 : Int32) then (1 : Int32) else (0 : Int32))) (hv4 : (1 : Int32) = (((p0.toUInt32 >>> ((1 : Int32) &&& 31).toUInt32).toInt32) &&& (3 : Int32))) (v5 : Int32) (hv5 : v5 = (p1 >>> ((32 : Int32) &&& 0x3f).toInt64).toInt32) (v6 : Int32) (hv6 : v6 = p1.toInt32) (v7 : Int32) (hv7 : v7 = (p2 >>> ((32 : Int32) &&& 0x3f).toInt64).toInt32) (v8 : Int32) (hv8 : v8 = p2.toInt32) (v9 : Int32) (hv9 : v9 = (p3 >>> ((32 : Int32) &&& 0x3f).toInt64).toInt32) (v10 : Int32) (hv10 : v10 = p3.toInt32) (b71 : ¬ v1 = (0 : Int32)) (v87 : Int32) (hv87 : v87 = (if (f_ok v1 v5 v6) = (0 : Int32) then (0 : Int32) else (1 : Int32))) (v95 : Int32) (hv95 : v95 = (f_wd1_1 (upd (fun _ => (0 : Int64)) 0 v5.toInt64) (upd (fun _ => (0 : Int64)) 0 v6.toInt64))) (b96 : ¬ v95 = v87) : False := by
  apply b96
  have k : ∀ a b : Int32, f_ok v1 a b = if a < b then 0 else 1 := fun a b => by unfold f_ok; rw [if_neg b71]
  rw [hv95, hv87]
  simp only [k]
  show (if v5.toInt64 < v6.toInt64 then (0 : Int32) else (1 : Int32)) = _
  simp only [own_lt]
  by_cases h0 : v5 < v6 <;> simp [h0]
theorem fin4 (p0 : Int32) (p1 : Int64) (p2 : Int64) (p3 : Int64) (v1 : Int32) (hv1 : v1 = (if (p0 &&& (1 : Int32)) = (0 : Int32) then (1 : Int32) else (0 : Int32))) (hv4 : (2 : Int32) = (((p0.toUInt32 >>> ((1 : Int32) &&& 31).toUInt32).toInt32) &&& (3 : Int32))) (v5 : Int32) (hv5 : v5 = (p1 >>> ((32 : Int32) &&& 0x3f).toInt64).toInt32) (v6 : Int32) (hv6 : v6 = p1.toInt32) (v7 : Int32) (hv7 : v7 = (p2 >>> ((32 : Int32) &&& 0x3f).toInt64).toInt32) (v8 : Int32) (hv8 : v8 = p2.toInt32) (v9 : Int32) (hv9 : v9 = (p3 >>> ((32 : Int32) &&& 0x3f).toInt64).toInt32) (v10 : Int32) (hv10 : v10 = p3.toInt32) (b117 : v1 = (0 : Int32)) (v120 : Int32) (hv120 : v120 = (if (f_ok v1 v5 v6) = (0 : Int32) then (0 : Int32) else (if (f_ok v1 v7 v8) = (0 : Int32) then (0 : Int32) else (1 : Int32)))) (v130 : Int32) (hv130 : v130 = (f_wd0_2 (upd (upd (fun _ => (0 : Int64)) 0 v5.toInt64) 1 v7.toInt64) (upd (upd (fun _ => (0 : Int64)) 0 v6.toInt64) 1 v8.toInt64))) (b131 : ¬ v130 = v120) : False := by
  apply b131
  have k : ∀ a b : Int32, f_ok v1 a b = if b < a then 0 else 1 := fun a b => by unfold f_ok; rw [if_pos b117]
  rw [hv130, hv120]
  simp only [k]
  show (if v6.toInt64 < v5.toInt64 then (0 : Int32) else (if v8.toInt64 < v7.toInt64 then (0 : Int32) else (1 : Int32))) = _
  simp only [own_lt]
  by_cases h0 : v6 < v5 <;> by_cases h1 : v8 < v7 <;> simp [h0, h1]
theorem fin5 (p0 : Int32) (p1 : Int64) (p2 : Int64) (p3 : Int64) (v1 : Int32) (hv1 : v1 = (if (p0 &&& (1 : Int32)) = (0 : Int32) then (1 : Int32) else (0 : Int32))) (hv4 : (2 : Int32) = (((p0.toUInt32 >>> ((1 : Int32) &&& 31).toUInt32).toInt32) &&& (3 : Int32))) (v5 : Int32) (hv5 : v5 = (p1 >>> ((32 : Int32) &&& 0x3f).toInt64).toInt32) (v6 : Int32) (hv6 : v6 = p1.toInt32) (v7 : Int32) (hv7 : v7 = (p2 >>> ((32 : Int32) &&& 0x3f).toInt64).toInt32) (v8 : Int32) (hv8 : v8 = p2.toInt32) (v9 : Int32) (hv9 : v9 = (p3 >>> ((32 : Int32) &&& 0x3f).toInt64).toInt32) (v10 : Int32) (hv10 : v10 = p3.toInt32) (b117 : ¬ v1 = (0 : Int32)) (v134 : Int32) (hv134 : v134 = (if (f_ok v1 v5 v6) = (0 : Int32) then (0 : Int32) else (if (f_ok v1 v7 v8) = (0 : Int32) then (0 : Int32) else (1 : Int32)))) (v143 : Int32) (hv143 : v143 = (f_wd1_2 (upd (upd (fun _ => (0 : Int64)) 0 v5.toInt64) 1 v7.toInt64) (upd (upd (fun _ => (0 : Int64)) 0 v6.toInt64) 1 v8.toInt64))) (b144 : ¬ v143 = v134) : False := by
  apply b144
  have k : ∀ a b : Int32, f_ok v1 a b = if a < b then 0 else 1 := fun a b => by unfold f_ok; rw [if_neg b117]
  rw [hv143, hv134]
  simp only [k]
  show (if v5.toInt64 < v6.toInt64 then (0 : Int32) else (if v7.toInt64 < v8.toInt64 then (0 : Int32) else (1 : Int32))) = _
  simp only [own_lt]
  by_cases h0 : v5 < v6 <;> by_cases h1 : v7 < v8 <;> simp [h0, h1]
theorem fin6 (p0 : Int32) (p1 : Int64) (p2 : Int64) (p3 : Int64) (v1 : Int32) (hv1 : v1 = (if (p0 &&& (1 : Int32)) = (0 : Int32) then (1 : Int32) else (0 : Int32))) (hv4 : (3 : Int32) = (((p0.toUInt32 >>> ((1 : Int32) &&& 31).toUInt32).toInt32) &&& (3 : Int32))) (v5 : Int32) (hv5 : v5 = (p1 >>> ((32 : Int32) &&& 0x3f).toInt64).toInt32) (v6 : Int32) (hv6 : v6 = p1.toInt32) (v7 : Int32) (hv7 : v7 = (p2 >>> ((32 : Int32) &&& 0x3f).toInt64).toInt32) (v8 : Int32) (hv8 : v8 = p2.toInt32) (v9 : Int32) (hv9 : v9 = (p3 >>> ((32 : Int32) &&& 0x3f).toInt64).toInt32) (v10 : Int32) (hv10 : v10 = p3.toInt32) (b165 : v1 = (0 : Int32)) (v168 : Int32) (hv168 : v168 = (if (f_ok v1 v5 v6) = (0 : Int32) then (0 : Int32) else (if (f_ok v1 v7 v8) = (0 : Int32) then (0 : Int32) else (if (f_ok v1 v9 v10) = (0 : Int32) then (0 : Int32) else (1 : Int32))))) (v179 : Int32) (hv179 : v179 = (f_wd0_3 (upd (upd (upd (fun _ => (0 : Int64)) 0 v5.toInt64) 1 v7.toInt64) 2 v9.toInt64) (upd (upd (upd (fun _ => (0 : Int64)) 0 v6.toInt64) 1 v8.toInt64) 2 v10.toInt64))) (b180 : ¬ v179 = v168) : False := by
  apply b180
  have k : ∀ a b : Int32, f_ok v1 a b = if b < a then 0 else 1 := fun a b => by unfold f_ok; rw [if_pos b165]
  rw [hv179, hv168]
  simp only [k]
  show (if v6.toInt64 < v5.toInt64 then (0 : Int32) else (if v8.toInt64 < v7.toInt64 then (0 : Int32) else (if v10.toInt64 < v9.toInt64 then (0 : Int32) else (1 : Int32)))) = _
  simp only [own_lt]
  by_cases h0 : v6 < v5 <;> by_cases h1 : v8 < v7 <;> by_cases h2 : v10 < v9 <;> simp [h0, h1, h2]
theorem fin7 (p0 : Int32) (p1 : Int64) (p2 : Int64) (p3 : Int64) (v1 : Int32) (hv1 : v1 = (if (p0 &&& (1 : Int32)) = (0 : Int32) then (1 : Int32) else (0 : Int32))) (hv4 : (3 : Int32) = (((p0.toUInt32 >>> ((1 : Int32) &&& 31).toUInt32).toInt32) &&& (3 : Int32))) (v5 : Int32) (hv5 : v5 = (p1 >>> ((32 : Int32) &&& 0x3f).toInt64).toInt32) (v6 : Int32) (hv6 : v6 = p1.toInt32) (v7 : Int32) (hv7 : v7 = (p2 >>> ((32 : Int32) &&& 0x3f).toInt64).toInt32) (v8 : Int32) (hv8 : v8 = p2.toInt32) (v9 : Int32) (hv9 : v9 = (p3 >>> ((32 : Int32) &&& 0x3f).toInt64).toInt32) (v10 : Int32) (hv10 : v10 = p3.toInt32) (b165 : ¬ v1 = (0 : Int32)) (v183 : Int32) (hv183 : v183 = (if (f_ok v1 v5 v6) = (0 : Int32) then (0 : Int32) else (if (f_ok v1 v7 v8) = (0 : Int32) then (0 : Int32) else (if (f_ok v1 v9 v10) = (0 : Int32) then (0 : Int32) else (1 : Int32))))) (v193 : Int32) (hv193 : v193 = (f_wd1_3 (upd (upd (upd (fun _ => (0 : Int64)) 0 v5.toInt64) 1 v7.toInt64) 2 v9.toInt64) (upd (upd (upd (fun _ => (0 : Int64)) 0 v6.toInt64) 1 v8.toInt64) 2 v10.toInt64))) (b194 : ¬ v193 = v183) : False := by
  apply b194
  have k : ∀ a b : Int32, f_ok v1 a b = if a < b then 0 else 1 := fun a b => by unfold f_ok; rw [if_neg b165]
  rw [hv193, hv183]
  simp only [k]
  show (if v5.toInt64 < v6.toInt64 then (0 : Int32) else (if v7.toInt64 < v8.toInt64 then (0 : Int32) else (if v9.toInt64 < v10.toInt64 then (0 : Int32) else (1 : Int32)))) = _
  simp only [own_lt]
  by_cases h0 : v5 < v6 <;> by_cases h1 : v7 < v8 <;> by_cases h2 : v9 < v10 <;> simp [h0, h1, h2]
set_option maxRecDepth 65536 in
set_option maxHeartbeats 4000000 in
theorem rm0 (l : Launch) (Z : State) (a0 : Array Value) (hw : ∀ d ∈ tables_1, d.before a0 Z = true) (p0 : Int32) (p1 : Int64) (p2 : Int64) (p3 : Int64) (h0 : Heap) (n0 : Nat) (Z0 : n0 ≤ h0.size) (w_MAXIMIZE : Addr) (S_MAXIMIZE : Sta Z h0 "com/example/paretoloom/paretoloom/pareto/Sense" "MAXIMIZE" "Lcom/example/paretoloom/paretoloom/pareto/Sense;" (.ref w_MAXIMIZE)) (E_MAXIMIZE : Exa Z h0 w_MAXIMIZE "com/example/paretoloom/paretoloom/pareto/Sense") (w_MINIMIZE : Addr) (S_MINIMIZE : Sta Z h0 "com/example/paretoloom/paretoloom/pareto/Sense" "MINIMIZE" "Lcom/example/paretoloom/paretoloom/pareto/Sense;" (.ref w_MINIMIZE)) (E_MINIMIZE : Exa Z h0 w_MINIMIZE "com/example/paretoloom/paretoloom/pareto/Sense") (ne_mm : w_MINIMIZE ≠ w_MAXIMIZE) : Met1 l Z x code maxLocals ret tables_1 room_1 #[(.int p0), (.long p1), (.long p2), (.long p3)] h0 n0 QL := by
  refine met_of_go (plainFor_of_name pn_com_example_paretoloom_paretoloom_pareto_SenseWeaklyDominatesPinLaw) (fun m => ef_0 m p0 p1 p2 p3) ?_
  intro W hl C
  subst hl
  refine Go.iloadN C at_0 (q := 1) rfl rfl ?_
  refine Go.iconst C (1 : Int32) at_1 (q := 2) rfl rfl ?_
  refine Go.iand C at_2 (q := 3) rfl ?_
  suffices J2 : ∀ v1 : Int32, v1 = (if (p0 &&& (1 : Int32)) = (0 : Int32) then (1 : Int32) else (0 : Int32)) → Go W n0 QL h0 0 0 11 #[.val (.int p0), .val (.long p1), .second, .val (.long p2), .second, .val (.long p3), .second, .unset, .unset, .unset, .unset, .unset, .unset, .unset, .unset, .unset, .unset, .unset, .unset, .unset] [(.int v1)] by
    refine Go.if0 C at_3 (z_ne _) (qt := 10) (q := 6) (by decide) (by decide) rfl (fun b3 => ?_) (fun b3 => ?_)
    ·
      refine Go.iconst C (0 : Int32) at_10 (q := 11) rfl rfl ?_
      exact J2 _ (by rw [if_neg b3])
    ·
      have b3 := Classical.not_not.mp b3
      refine Go.iconst C (1 : Int32) at_6 (q := 7) rfl rfl ?_
      refine Go.goto C at_7 (q := 11) (by decide) (by decide) ?_
      exact J2 _ (by rw [if_pos b3])
  intro v1 hv1
  refine Go.istoreR C at_11 (q := 13) rfl (l' := #[.val (.int p0), .val (.long p1), .second, .val (.long p2), .second, .val (.long p3), .second, .val (.int v1), .unset, .unset, .unset, .unset, .unset, .unset, .unset, .unset, .unset, .unset, .unset, .unset]) rfl ?_
  refine Go.iloadN C at_13 (q := 14) rfl rfl ?_
  refine Go.iconst C (1 : Int32) at_14 (q := 15) rfl rfl ?_
  refine Go.iushr C at_15 (q := 16) rfl ?_
  refine Go.iconst C (3 : Int32) at_16 (q := 17) rfl rfl ?_
  refine Go.iand C at_17 (q := 18) rfl ?_
  refine Go.istore C at_18 (q := 20) rfl (fun z => #[.val (.int p0), .val (.long p1), .second, .val (.long p2), .second, .val (.long p3), .second, .val (.int v1), .val (.int z), .unset, .unset, .unset, .unset, .unset, .unset, .unset, .unset, .unset, .unset, .unset]) (fun _ => rfl) ?_
  intro v4 hv4
  refine Go.lloadN C at_20 (q := 21) rfl rfl ?_
  refine Go.bipush C (32 : Int32) at_21 (q := 23) rfl rfl ?_
  refine Go.lshr C at_23 (q := 24) rfl ?_
  refine Go.l2i C at_24 (q := 25) rfl ?_
  refine Go.istore C at_25 (q := 27) rfl (fun z => #[.val (.int p0), .val (.long p1), .second, .val (.long p2), .second, .val (.long p3), .second, .val (.int v1), .val (.int v4), .val (.int z), .unset, .unset, .unset, .unset, .unset, .unset, .unset, .unset, .unset, .unset]) (fun _ => rfl) ?_
  intro v5 hv5
  refine Go.lloadN C at_27 (q := 28) rfl rfl ?_
  refine Go.l2i C at_28 (q := 29) rfl ?_
  refine Go.istore C at_29 (q := 31) rfl (fun z => #[.val (.int p0), .val (.long p1), .second, .val (.long p2), .second, .val (.long p3), .second, .val (.int v1), .val (.int v4), .val (.int v5), .val (.int z), .unset, .unset, .unset, .unset, .unset, .unset, .unset, .unset, .unset]) (fun _ => rfl) ?_
  intro v6 hv6
  refine Go.lloadN C at_31 (q := 32) rfl rfl ?_
  refine Go.bipush C (32 : Int32) at_32 (q := 34) rfl rfl ?_
  refine Go.lshr C at_34 (q := 35) rfl ?_
  refine Go.l2i C at_35 (q := 36) rfl ?_
  refine Go.istore C at_36 (q := 38) rfl (fun z => #[.val (.int p0), .val (.long p1), .second, .val (.long p2), .second, .val (.long p3), .second, .val (.int v1), .val (.int v4), .val (.int v5), .val (.int v6), .val (.int z), .unset, .unset, .unset, .unset, .unset, .unset, .unset, .unset]) (fun _ => rfl) ?_
  intro v7 hv7
  refine Go.lloadN C at_38 (q := 39) rfl rfl ?_
  refine Go.l2i C at_39 (q := 40) rfl ?_
  refine Go.istore C at_40 (q := 42) rfl (fun z => #[.val (.int p0), .val (.long p1), .second, .val (.long p2), .second, .val (.long p3), .second, .val (.int v1), .val (.int v4), .val (.int v5), .val (.int v6), .val (.int v7), .val (.int z), .unset, .unset, .unset, .unset, .unset, .unset, .unset]) (fun _ => rfl) ?_
  intro v8 hv8
  refine Go.lload C at_42 (q := 44) rfl rfl ?_
  refine Go.bipush C (32 : Int32) at_44 (q := 46) rfl rfl ?_
  refine Go.lshr C at_46 (q := 47) rfl ?_
  refine Go.l2i C at_47 (q := 48) rfl ?_
  refine Go.istore C at_48 (q := 50) rfl (fun z => #[.val (.int p0), .val (.long p1), .second, .val (.long p2), .second, .val (.long p3), .second, .val (.int v1), .val (.int v4), .val (.int v5), .val (.int v6), .val (.int v7), .val (.int v8), .val (.int z), .unset, .unset, .unset, .unset, .unset, .unset]) (fun _ => rfl) ?_
  intro v9 hv9
  refine Go.lload C at_50 (q := 52) rfl rfl ?_
  refine Go.l2i C at_52 (q := 53) rfl ?_
  refine Go.istore C at_53 (q := 55) rfl (fun z => #[.val (.int p0), .val (.long p1), .second, .val (.long p2), .second, .val (.long p3), .second, .val (.int v1), .val (.int v4), .val (.int v5), .val (.int v6), .val (.int v7), .val (.int v8), .val (.int v9), .val (.int z), .unset, .unset, .unset, .unset, .unset]) (fun _ => rfl) ?_
  intro v10 hv10
  rcases (own_at4 _ v4 hv4) with rfl | rfl | rfl | rfl
  ·
    refine Go.iload C at_55 (q := 57) rfl rfl ?_
    refine Go.iload C at_57 (q := 59) rfl rfl ?_
    refine Go.iload C at_59 (q := 61) rfl rfl ?_
    refine Go.iload C at_61 (q := 63) rfl rfl ?_
    refine Go.callS C (hw _ (List.mem_of_getElem? (i := 0) rfl)) (hw _ (List.mem_of_getElem? (i := 1) rfl)) (hw _ (List.mem_of_getElem? (i := 2) rfl)) (hw _ (List.mem_of_getElem? (i := 3) rfl)) (c_vec0 W.l Z a0 hw v5 v7 v9 h0 n0 Z0) at_63 pd__40IIII_41_91D (q := 66) rfl rfl (argsL := [(.int (0 : Int32)), (.int v5), (.int v7), (.int v9)]) (st := []) rfl rfl (w := 0) rfl (by decide) (by decide) (k' := 1) rfl (n' := 0) rfl (by decide) (by decide) ?_
    intro v h11 q
    obtain ⟨a12, rfl, K13, g14, y15, F16⟩ := q
    have ne17 : w_MAXIMIZE ≠ a12 := Nat.ne_of_lt (Nat.lt_of_lt_of_le E_MAXIMIZE.lt y15)
    have ne18 : w_MINIMIZE ≠ a12 := Nat.ne_of_lt (Nat.lt_of_lt_of_le E_MINIMIZE.lt y15)
    show Go W n0 QL h11 1 0 66 #[.val (.int p0), .val (.long p1), .second, .val (.long p2), .second, .val (.long p3), .second, .val (.int v1), .val (.int (0 : Int32)), .val (.int v5), .val (.int v6), .val (.int v7), .val (.int v8), .val (.int v9), .val (.int v10), .unset, .unset, .unset, .unset, .unset] [(.ref a12)]
    refine Go.astore C at_66 (q := 68) rfl (l' := #[.val (.int p0), .val (.long p1), .second, .val (.long p2), .second, .val (.long p3), .second, .val (.int v1), .val (.int (0 : Int32)), .val (.int v5), .val (.int v6), .val (.int v7), .val (.int v8), .val (.int v9), .val (.int v10), .val (.ref a12), .unset, .unset, .unset, .unset]) rfl rfl ?_
    refine Go.iload C at_68 (q := 70) rfl rfl ?_
    refine Go.iload C at_70 (q := 72) rfl rfl ?_
    refine Go.iload C at_72 (q := 74) rfl rfl ?_
    refine Go.iload C at_74 (q := 76) rfl rfl ?_
    have F19 := (E_MAXIMIZE.keep K13)
    have F20 := (E_MINIMIZE.keep K13)
    have F21 := (Nat.le_trans Z0 K13.1)
    refine Go.callS C (hw _ (List.mem_of_getElem? (i := 0) rfl)) (hw _ (List.mem_of_getElem? (i := 1) rfl)) (hw _ (List.mem_of_getElem? (i := 2) rfl)) (hw _ (List.mem_of_getElem? (i := 3) rfl)) (c_vec0 W.l Z a0 hw v6 v8 v10 h11 n0 F21) at_76 pd__40IIII_41_91D (q := 79) rfl rfl (argsL := [(.int (0 : Int32)), (.int v6), (.int v8), (.int v10)]) (st := []) rfl rfl (w := 0) rfl (by decide) (by decide) (k' := 2) rfl (n' := 0) rfl (by decide) (by decide) ?_
    intro v h22 q
    obtain ⟨a23, rfl, K24, g25, y26, F27⟩ := q
    have ne28 : w_MAXIMIZE ≠ a23 := Nat.ne_of_lt (Nat.lt_of_lt_of_le F19.lt y26)
    have ne29 : w_MINIMIZE ≠ a23 := Nat.ne_of_lt (Nat.lt_of_lt_of_le F20.lt y26)
    have ne30 : a12 ≠ a23 := Nat.ne_of_lt (Nat.lt_of_lt_of_le F16.lt y26)
    show Go W n0 QL h22 2 0 79 #[.val (.int p0), .val (.long p1), .second, .val (.long p2), .second, .val (.long p3), .second, .val (.int v1), .val (.int (0 : Int32)), .val (.int v5), .val (.int v6), .val (.int v7), .val (.int v8), .val (.int v9), .val (.int v10), .val (.ref a12), .unset, .unset, .unset, .unset] [(.ref a23)]
    refine Go.astore C at_79 (q := 81) rfl (l' := #[.val (.int p0), .val (.long p1), .second, .val (.long p2), .second, .val (.long p3), .second, .val (.int v1), .val (.int (0 : Int32)), .val (.int v5), .val (.int v6), .val (.int v7), .val (.int v8), .val (.int v9), .val (.int v10), .val (.ref a12), .val (.ref a23), .unset, .unset, .unset]) rfl rfl ?_
    refine Go.iload C at_81 (q := 83) rfl rfl ?_
    refine Go.if0 C at_83 (z_eq _) (qt := 92) (q := 86) (by decide) (by decide) rfl (fun b31 => ?_) (fun b31 => ?_)
    ·
      have F32 := (own_sta_keep (own_sta_keep S_MINIMIZE K13 all0) K24 all0)
      refine Go.getS C (hw _ (List.mem_of_getElem? (i := 13) rfl)) Via.refl F32 at_92 (q := 95) rfl ?_
      refine Go.astore C at_95 (q := 97) rfl (l' := #[.val (.int p0), .val (.long p1), .second, .val (.long p2), .second, .val (.long p3), .second, .val (.int v1), .val (.int (0 : Int32)), .val (.int v5), .val (.int v6), .val (.int v7), .val (.int v8), .val (.int v9), .val (.int v10), .val (.ref a12), .val (.ref a23), .val (.ref w_MINIMIZE), .unset, .unset]) rfl rfl ?_
      refine Go.iload C at_97 (q := 99) rfl rfl ?_
      refine Go.iconst C (1 : Int32) at_99 (q := 100) rfl rfl ?_
      refine Go.icmp C at_100 (n_lt _ _) (qt := 115) (q := 103) (by decide) (by decide) rfl (fun _ => ?_) (fun b33 => absurd b33 (by decide))
      refine Go.iload C at_115 (q := 117) rfl rfl ?_
      refine Go.iconst C (2 : Int32) at_117 (q := 118) rfl rfl ?_
      refine Go.icmp C at_118 (n_lt _ _) (qt := 133) (q := 121) (by decide) (by decide) rfl (fun _ => ?_) (fun b34 => absurd b34 (by decide))
      refine Go.iload C at_133 (q := 135) rfl rfl ?_
      refine Go.iconst C (3 : Int32) at_135 (q := 136) rfl rfl ?_
      refine Go.icmp C at_136 (n_lt _ _) (qt := 151) (q := 139) (by decide) (by decide) rfl (fun _ => ?_) (fun b35 => absurd b35 (by decide))
      refine Go.iconst C (1 : Int32) at_151 (q := 152) rfl rfl ?_
      refine Go.goto C at_152 (q := 156) (by decide) (by decide) ?_
      refine Go.istoreR C at_156 (q := 158) rfl (l' := #[.val (.int p0), .val (.long p1), .second, .val (.long p2), .second, .val (.long p3), .second, .val (.int v1), .val (.int (0 : Int32)), .val (.int v5), .val (.int v6), .val (.int v7), .val (.int v8), .val (.int v9), .val (.int v10), .val (.ref a12), .val (.ref a23), .val (.ref w_MINIMIZE), .val (.int (1 : Int32)), .unset]) rfl ?_
      refine Go.aload C at_158 (q := 160) rfl rfl rfl ?_
      refine Go.aload C at_160 (q := 162) rfl rfl rfl ?_
      refine Go.aload C at_162 (q := 164) rfl rfl rfl ?_
      have F36 := (F20.keep K24)
      have F37 := (Nat.le_trans F21 K24.1)
      have F38 := (F16.keep K24 nin0)
      have F39 := (own_sta_keep (own_sta_keep S_MAXIMIZE K13 all0) K24 all0)
      refine Go.pureV C F36 (hw _ (List.mem_of_getElem? (i := 8) rfl)) (hw _ (List.mem_of_getElem? (i := 9) rfl)) (hw _ (List.mem_of_getElem? (i := 11) rfl)) (hw _ (List.mem_of_getElem? (i := 10) rfl)) (hw _ (List.mem_of_getElem? (i := 6) rfl)) (hw _ (List.mem_of_getElem? (i := 12) rfl)) (c_f_wd0_0 W.l Z a0 hw w_MINIMIZE a12 a23 h22 n0 (fun _ => (0 : Int64)) (fun _ => (0 : Int64)) w_MAXIMIZE F37 F38 F27 (own_b0) (own_b0) F39 ne_mm) at_164 pd__40_91D_91D_41Z (q := 167) rfl rfl (argsL := [(.ref a12), (.ref a23)]) (st := []) rfl rfl (w := 0) rfl (by decide) (by decide) (by decide) (by decide) ?_
      refine Go.istore C at_167 (q := 169) rfl (fun z => #[.val (.int p0), .val (.long p1), .second, .val (.long p2), .second, .val (.long p3), .second, .val (.int v1), .val (.int (0 : Int32)), .val (.int v5), .val (.int v6), .val (.int v7), .val (.int v8), .val (.int v9), .val (.int v10), .val (.ref a12), .val (.ref a23), .val (.ref w_MINIMIZE), .val (.int (1 : Int32)), .val (.int z)]) (fun _ => rfl) ?_
      intro v40 hv40
      refine Go.iload C at_169 (q := 171) rfl rfl ?_
      refine Go.iload C at_171 (q := 173) rfl rfl ?_
      refine Go.icmp C at_173 (n_ne _ _) (qt := 180) (q := 176) (by decide) (by decide) rfl (fun b41 => ?_) (fun b41 => ?_)
      ·
        refine Go.iconst C (0 : Int32) at_180 (q := 181) rfl rfl ?_
        exact (fin0 p0 p1 p2 p3 v1 hv1  hv4 v5 hv5 v6 hv6 v7 hv7 v8 hv8 v9 hv9 v10 hv10  b31 v40 hv40  b41).elim
      ·
        have b41 := Classical.not_not.mp b41
        refine Go.iconst C (1 : Int32) at_176 (q := 177) rfl rfl ?_
        refine Go.goto C at_177 (q := 181) (by decide) (by decide) ?_
        exact Go.retZ (t := .boolean) (by simp) C at_181 (by decide) (by decide) (show some (Value.int _) = some (.int 1) from rfl)
    ·
      have F42 := (own_sta_keep (own_sta_keep S_MAXIMIZE K13 all0) K24 all0)
      refine Go.getS C (hw _ (List.mem_of_getElem? (i := 5) rfl)) Via.refl F42 at_86 (q := 89) rfl ?_
      refine Go.goto C at_89 (q := 95) (by decide) (by decide) ?_
      refine Go.astore C at_95 (q := 97) rfl (l' := #[.val (.int p0), .val (.long p1), .second, .val (.long p2), .second, .val (.long p3), .second, .val (.int v1), .val (.int (0 : Int32)), .val (.int v5), .val (.int v6), .val (.int v7), .val (.int v8), .val (.int v9), .val (.int v10), .val (.ref a12), .val (.ref a23), .val (.ref w_MAXIMIZE), .unset, .unset]) rfl rfl ?_
      refine Go.iload C at_97 (q := 99) rfl rfl ?_
      refine Go.iconst C (1 : Int32) at_99 (q := 100) rfl rfl ?_
      refine Go.icmp C at_100 (n_lt _ _) (qt := 115) (q := 103) (by decide) (by decide) rfl (fun _ => ?_) (fun b43 => absurd b43 (by decide))
      refine Go.iload C at_115 (q := 117) rfl rfl ?_
      refine Go.iconst C (2 : Int32) at_117 (q := 118) rfl rfl ?_
      refine Go.icmp C at_118 (n_lt _ _) (qt := 133) (q := 121) (by decide) (by decide) rfl (fun _ => ?_) (fun b44 => absurd b44 (by decide))
      refine Go.iload C at_133 (q := 135) rfl rfl ?_
      refine Go.iconst C (3 : Int32) at_135 (q := 136) rfl rfl ?_
      refine Go.icmp C at_136 (n_lt _ _) (qt := 151) (q := 139) (by decide) (by decide) rfl (fun _ => ?_) (fun b45 => absurd b45 (by decide))
      refine Go.iconst C (1 : Int32) at_151 (q := 152) rfl rfl ?_
      refine Go.goto C at_152 (q := 156) (by decide) (by decide) ?_
      refine Go.istoreR C at_156 (q := 158) rfl (l' := #[.val (.int p0), .val (.long p1), .second, .val (.long p2), .second, .val (.long p3), .second, .val (.int v1), .val (.int (0 : Int32)), .val (.int v5), .val (.int v6), .val (.int v7), .val (.int v8), .val (.int v9), .val (.int v10), .val (.ref a12), .val (.ref a23), .val (.ref w_MAXIMIZE), .val (.int (1 : Int32)), .unset]) rfl ?_
      refine Go.aload C at_158 (q := 160) rfl rfl rfl ?_
      refine Go.aload C at_160 (q := 162) rfl rfl rfl ?_
      refine Go.aload C at_162 (q := 164) rfl rfl rfl ?_
      have F46 := (F19.keep K24)
      have F47 := (Nat.le_trans F21 K24.1)
      have F48 := (F16.keep K24 nin0)
      refine Go.pureV C F46 (hw _ (List.mem_of_getElem? (i := 8) rfl)) (hw _ (List.mem_of_getElem? (i := 9) rfl)) (hw _ (List.mem_of_getElem? (i := 11) rfl)) (hw _ (List.mem_of_getElem? (i := 10) rfl)) (hw _ (List.mem_of_getElem? (i := 6) rfl)) (hw _ (List.mem_of_getElem? (i := 12) rfl)) (c_f_wd1_0 W.l Z a0 hw w_MAXIMIZE a12 a23 h22 n0 (fun _ => (0 : Int64)) (fun _ => (0 : Int64)) F47 F48 F27 (own_b0) (own_b0) F42) at_164 pd__40_91D_91D_41Z (q := 167) rfl rfl (argsL := [(.ref a12), (.ref a23)]) (st := []) rfl rfl (w := 0) rfl (by decide) (by decide) (by decide) (by decide) ?_
      refine Go.istore C at_167 (q := 169) rfl (fun z => #[.val (.int p0), .val (.long p1), .second, .val (.long p2), .second, .val (.long p3), .second, .val (.int v1), .val (.int (0 : Int32)), .val (.int v5), .val (.int v6), .val (.int v7), .val (.int v8), .val (.int v9), .val (.int v10), .val (.ref a12), .val (.ref a23), .val (.ref w_MAXIMIZE), .val (.int (1 : Int32)), .val (.int z)]) (fun _ => rfl) ?_
      intro v49 hv49
      refine Go.iload C at_169 (q := 171) rfl rfl ?_
      refine Go.iload C at_171 (q := 173) rfl rfl ?_
      refine Go.icmp C at_173 (n_ne _ _) (qt := 180) (q := 176) (by decide) (by decide) rfl (fun b50 => ?_) (fun b50 => ?_)
      ·
        refine Go.iconst C (0 : Int32) at_180 (q := 181) rfl rfl ?_
        exact (fin1 p0 p1 p2 p3 v1 hv1  hv4 v5 hv5 v6 hv6 v7 hv7 v8 hv8 v9 hv9 v10 hv10  b31 v49 hv49  b50).elim
      ·
        have b50 := Classical.not_not.mp b50
        refine Go.iconst C (1 : Int32) at_176 (q := 177) rfl rfl ?_
        refine Go.goto C at_177 (q := 181) (by decide) (by decide) ?_
        exact Go.retZ (t := .boolean) (by simp) C at_181 (by decide) (by decide) (show some (Value.int _) = some (.int 1) from rfl)
  ·
    refine Go.iload C at_55 (q := 57) rfl rfl ?_
    refine Go.iload C at_57 (q := 59) rfl rfl ?_
    refine Go.iload C at_59 (q := 61) rfl rfl ?_
    refine Go.iload C at_61 (q := 63) rfl rfl ?_
    refine Go.callS C (hw _ (List.mem_of_getElem? (i := 0) rfl)) (hw _ (List.mem_of_getElem? (i := 1) rfl)) (hw _ (List.mem_of_getElem? (i := 2) rfl)) (hw _ (List.mem_of_getElem? (i := 3) rfl)) (c_vec1 W.l Z a0 hw v5 v7 v9 h0 n0 Z0) at_63 pd__40IIII_41_91D (q := 66) rfl rfl (argsL := [(.int (1 : Int32)), (.int v5), (.int v7), (.int v9)]) (st := []) rfl rfl (w := 0) rfl (by decide) (by decide) (k' := 1) rfl (n' := 1) rfl (by decide) (by decide) ?_
    intro v h51 q
    obtain ⟨a52, rfl, K53, g54, y55, F56⟩ := q
    have ne57 : w_MAXIMIZE ≠ a52 := Nat.ne_of_lt (Nat.lt_of_lt_of_le E_MAXIMIZE.lt y55)
    have ne58 : w_MINIMIZE ≠ a52 := Nat.ne_of_lt (Nat.lt_of_lt_of_le E_MINIMIZE.lt y55)
    show Go W n0 QL h51 1 1 66 #[.val (.int p0), .val (.long p1), .second, .val (.long p2), .second, .val (.long p3), .second, .val (.int v1), .val (.int (1 : Int32)), .val (.int v5), .val (.int v6), .val (.int v7), .val (.int v8), .val (.int v9), .val (.int v10), .unset, .unset, .unset, .unset, .unset] [(.ref a52)]
    refine Go.astore C at_66 (q := 68) rfl (l' := #[.val (.int p0), .val (.long p1), .second, .val (.long p2), .second, .val (.long p3), .second, .val (.int v1), .val (.int (1 : Int32)), .val (.int v5), .val (.int v6), .val (.int v7), .val (.int v8), .val (.int v9), .val (.int v10), .val (.ref a52), .unset, .unset, .unset, .unset]) rfl rfl ?_
    refine Go.iload C at_68 (q := 70) rfl rfl ?_
    refine Go.iload C at_70 (q := 72) rfl rfl ?_
    refine Go.iload C at_72 (q := 74) rfl rfl ?_
    refine Go.iload C at_74 (q := 76) rfl rfl ?_
    have F59 := (E_MAXIMIZE.keep K53)
    have F60 := (E_MINIMIZE.keep K53)
    have F61 := (Nat.le_trans Z0 K53.1)
    refine Go.callS C (hw _ (List.mem_of_getElem? (i := 0) rfl)) (hw _ (List.mem_of_getElem? (i := 1) rfl)) (hw _ (List.mem_of_getElem? (i := 2) rfl)) (hw _ (List.mem_of_getElem? (i := 3) rfl)) (c_vec1 W.l Z a0 hw v6 v8 v10 h51 n0 F61) at_76 pd__40IIII_41_91D (q := 79) rfl rfl (argsL := [(.int (1 : Int32)), (.int v6), (.int v8), (.int v10)]) (st := []) rfl rfl (w := 0) rfl (by decide) (by decide) (k' := 2) rfl (n' := 2) rfl (by decide) (by decide) ?_
    intro v h62 q
    obtain ⟨a63, rfl, K64, g65, y66, F67⟩ := q
    have ne68 : w_MAXIMIZE ≠ a63 := Nat.ne_of_lt (Nat.lt_of_lt_of_le F59.lt y66)
    have ne69 : w_MINIMIZE ≠ a63 := Nat.ne_of_lt (Nat.lt_of_lt_of_le F60.lt y66)
    have ne70 : a52 ≠ a63 := Nat.ne_of_lt (Nat.lt_of_lt_of_le F56.lt y66)
    show Go W n0 QL h62 2 2 79 #[.val (.int p0), .val (.long p1), .second, .val (.long p2), .second, .val (.long p3), .second, .val (.int v1), .val (.int (1 : Int32)), .val (.int v5), .val (.int v6), .val (.int v7), .val (.int v8), .val (.int v9), .val (.int v10), .val (.ref a52), .unset, .unset, .unset, .unset] [(.ref a63)]
    refine Go.astore C at_79 (q := 81) rfl (l' := #[.val (.int p0), .val (.long p1), .second, .val (.long p2), .second, .val (.long p3), .second, .val (.int v1), .val (.int (1 : Int32)), .val (.int v5), .val (.int v6), .val (.int v7), .val (.int v8), .val (.int v9), .val (.int v10), .val (.ref a52), .val (.ref a63), .unset, .unset, .unset]) rfl rfl ?_
    refine Go.iload C at_81 (q := 83) rfl rfl ?_
    refine Go.if0 C at_83 (z_eq _) (qt := 92) (q := 86) (by decide) (by decide) rfl (fun b71 => ?_) (fun b71 => ?_)
    ·
      have F72 := (own_sta_keep (own_sta_keep S_MINIMIZE K53 all0) K64 all0)
      refine Go.getS C (hw _ (List.mem_of_getElem? (i := 13) rfl)) Via.refl F72 at_92 (q := 95) rfl ?_
      refine Go.astore C at_95 (q := 97) rfl (l' := #[.val (.int p0), .val (.long p1), .second, .val (.long p2), .second, .val (.long p3), .second, .val (.int v1), .val (.int (1 : Int32)), .val (.int v5), .val (.int v6), .val (.int v7), .val (.int v8), .val (.int v9), .val (.int v10), .val (.ref a52), .val (.ref a63), .val (.ref w_MINIMIZE), .unset, .unset]) rfl rfl ?_
      refine Go.iload C at_97 (q := 99) rfl rfl ?_
      refine Go.iconst C (1 : Int32) at_99 (q := 100) rfl rfl ?_
      refine Go.icmp C at_100 (n_lt _ _) (qt := 115) (q := 103) (by decide) (by decide) rfl (fun b73 => absurd b73 (by decide)) (fun _ => ?_)
      refine Go.iload C at_103 (q := 105) rfl rfl ?_
      refine Go.iload C at_105 (q := 107) rfl rfl ?_
      refine Go.iload C at_107 (q := 109) rfl rfl ?_
      refine Go.pureS C (hw _ (List.mem_of_getElem? (i := 15) rfl)) (hw _ (List.mem_of_getElem? (i := 16) rfl)) (hw _ (List.mem_of_getElem? (i := 2) rfl)) (hw _ (List.mem_of_getElem? (i := 17) rfl)) (c_f_ok W.l Z a0 hw v1 v5 v6 h62 n0) at_109 pd__40ZII_41Z (q := 112) rfl rfl (argsL := [(.int v1), (.int v5), (.int v6)]) (st := []) rfl rfl (w := 0) rfl (by decide) (by decide) (by decide) (by decide) ?_
      suffices J75 : ∀ v74 : Int32, v74 = (if (f_ok v1 v5 v6) = (0 : Int32) then (0 : Int32) else (1 : Int32)) → Go W n0 QL h62 2 2 156 #[.val (.int p0), .val (.long p1), .second, .val (.long p2), .second, .val (.long p3), .second, .val (.int v1), .val (.int (1 : Int32)), .val (.int v5), .val (.int v6), .val (.int v7), .val (.int v8), .val (.int v9), .val (.int v10), .val (.ref a52), .val (.ref a63), .val (.ref w_MINIMIZE), .unset, .unset] [(.int v74)] by
        refine Go.if0 C at_112 (z_eq _) (qt := 155) (q := 115) (by decide) (by decide) rfl (fun b76 => ?_) (fun b76 => ?_)
        ·
          refine Go.iconst C (0 : Int32) at_155 (q := 156) rfl rfl ?_
          exact J75 _ (by rw [if_pos b76])
        ·
          refine Go.iload C at_115 (q := 117) rfl rfl ?_
          refine Go.iconst C (2 : Int32) at_117 (q := 118) rfl rfl ?_
          refine Go.icmp C at_118 (n_lt _ _) (qt := 133) (q := 121) (by decide) (by decide) rfl (fun _ => ?_) (fun b77 => absurd b77 (by decide))
          refine Go.iload C at_133 (q := 135) rfl rfl ?_
          refine Go.iconst C (3 : Int32) at_135 (q := 136) rfl rfl ?_
          refine Go.icmp C at_136 (n_lt _ _) (qt := 151) (q := 139) (by decide) (by decide) rfl (fun _ => ?_) (fun b78 => absurd b78 (by decide))
          refine Go.iconst C (1 : Int32) at_151 (q := 152) rfl rfl ?_
          refine Go.goto C at_152 (q := 156) (by decide) (by decide) ?_
          exact J75 _ (by rw [if_neg b76])
      intro v74 hv74
      refine Go.istoreR C at_156 (q := 158) rfl (l' := #[.val (.int p0), .val (.long p1), .second, .val (.long p2), .second, .val (.long p3), .second, .val (.int v1), .val (.int (1 : Int32)), .val (.int v5), .val (.int v6), .val (.int v7), .val (.int v8), .val (.int v9), .val (.int v10), .val (.ref a52), .val (.ref a63), .val (.ref w_MINIMIZE), .val (.int v74), .unset]) rfl ?_
      refine Go.aload C at_158 (q := 160) rfl rfl rfl ?_
      refine Go.aload C at_160 (q := 162) rfl rfl rfl ?_
      refine Go.aload C at_162 (q := 164) rfl rfl rfl ?_
      have F79 := (F60.keep K64)
      have F80 := (Nat.le_trans F61 K64.1)
      have F81 := (F56.keep K64 nin0)
      have F82 := (own_sta_keep (own_sta_keep S_MAXIMIZE K53 all0) K64 all0)
      refine Go.pureV C F79 (hw _ (List.mem_of_getElem? (i := 8) rfl)) (hw _ (List.mem_of_getElem? (i := 9) rfl)) (hw _ (List.mem_of_getElem? (i := 11) rfl)) (hw _ (List.mem_of_getElem? (i := 10) rfl)) (hw _ (List.mem_of_getElem? (i := 6) rfl)) (hw _ (List.mem_of_getElem? (i := 12) rfl)) (c_f_wd0_1 W.l Z a0 hw w_MINIMIZE a52 a63 h62 n0 (upd (fun _ => (0 : Int64)) 0 v5.toInt64) (upd (fun _ => (0 : Int64)) 0 v6.toInt64) w_MAXIMIZE F80 F81 F67 (own_b1 _) (own_b1 _) F82 ne_mm) at_164 pd__40_91D_91D_41Z (q := 167) rfl rfl (argsL := [(.ref a52), (.ref a63)]) (st := []) rfl rfl (w := 0) rfl (by decide) (by decide) (by decide) (by decide) ?_
      refine Go.istore C at_167 (q := 169) rfl (fun z => #[.val (.int p0), .val (.long p1), .second, .val (.long p2), .second, .val (.long p3), .second, .val (.int v1), .val (.int (1 : Int32)), .val (.int v5), .val (.int v6), .val (.int v7), .val (.int v8), .val (.int v9), .val (.int v10), .val (.ref a52), .val (.ref a63), .val (.ref w_MINIMIZE), .val (.int v74), .val (.int z)]) (fun _ => rfl) ?_
      intro v83 hv83
      refine Go.iload C at_169 (q := 171) rfl rfl ?_
      refine Go.iload C at_171 (q := 173) rfl rfl ?_
      refine Go.icmp C at_173 (n_ne _ _) (qt := 180) (q := 176) (by decide) (by decide) rfl (fun b84 => ?_) (fun b84 => ?_)
      ·
        refine Go.iconst C (0 : Int32) at_180 (q := 181) rfl rfl ?_
        exact (fin2 p0 p1 p2 p3 v1 hv1  hv4 v5 hv5 v6 hv6 v7 hv7 v8 hv8 v9 hv9 v10 hv10  b71 v74 hv74 v83 hv83  b84).elim
      ·
        have b84 := Classical.not_not.mp b84
        refine Go.iconst C (1 : Int32) at_176 (q := 177) rfl rfl ?_
        refine Go.goto C at_177 (q := 181) (by decide) (by decide) ?_
        exact Go.retZ (t := .boolean) (by simp) C at_181 (by decide) (by decide) (show some (Value.int _) = some (.int 1) from rfl)
    ·
      have F85 := (own_sta_keep (own_sta_keep S_MAXIMIZE K53 all0) K64 all0)
      refine Go.getS C (hw _ (List.mem_of_getElem? (i := 5) rfl)) Via.refl F85 at_86 (q := 89) rfl ?_
      refine Go.goto C at_89 (q := 95) (by decide) (by decide) ?_
      refine Go.astore C at_95 (q := 97) rfl (l' := #[.val (.int p0), .val (.long p1), .second, .val (.long p2), .second, .val (.long p3), .second, .val (.int v1), .val (.int (1 : Int32)), .val (.int v5), .val (.int v6), .val (.int v7), .val (.int v8), .val (.int v9), .val (.int v10), .val (.ref a52), .val (.ref a63), .val (.ref w_MAXIMIZE), .unset, .unset]) rfl rfl ?_
      refine Go.iload C at_97 (q := 99) rfl rfl ?_
      refine Go.iconst C (1 : Int32) at_99 (q := 100) rfl rfl ?_
      refine Go.icmp C at_100 (n_lt _ _) (qt := 115) (q := 103) (by decide) (by decide) rfl (fun b86 => absurd b86 (by decide)) (fun _ => ?_)
      refine Go.iload C at_103 (q := 105) rfl rfl ?_
      refine Go.iload C at_105 (q := 107) rfl rfl ?_
      refine Go.iload C at_107 (q := 109) rfl rfl ?_
      refine Go.pureS C (hw _ (List.mem_of_getElem? (i := 15) rfl)) (hw _ (List.mem_of_getElem? (i := 16) rfl)) (hw _ (List.mem_of_getElem? (i := 2) rfl)) (hw _ (List.mem_of_getElem? (i := 17) rfl)) (c_f_ok W.l Z a0 hw v1 v5 v6 h62 n0) at_109 pd__40ZII_41Z (q := 112) rfl rfl (argsL := [(.int v1), (.int v5), (.int v6)]) (st := []) rfl rfl (w := 0) rfl (by decide) (by decide) (by decide) (by decide) ?_
      suffices J88 : ∀ v87 : Int32, v87 = (if (f_ok v1 v5 v6) = (0 : Int32) then (0 : Int32) else (1 : Int32)) → Go W n0 QL h62 2 2 156 #[.val (.int p0), .val (.long p1), .second, .val (.long p2), .second, .val (.long p3), .second, .val (.int v1), .val (.int (1 : Int32)), .val (.int v5), .val (.int v6), .val (.int v7), .val (.int v8), .val (.int v9), .val (.int v10), .val (.ref a52), .val (.ref a63), .val (.ref w_MAXIMIZE), .unset, .unset] [(.int v87)] by
        refine Go.if0 C at_112 (z_eq _) (qt := 155) (q := 115) (by decide) (by decide) rfl (fun b89 => ?_) (fun b89 => ?_)
        ·
          refine Go.iconst C (0 : Int32) at_155 (q := 156) rfl rfl ?_
          exact J88 _ (by rw [if_pos b89])
        ·
          refine Go.iload C at_115 (q := 117) rfl rfl ?_
          refine Go.iconst C (2 : Int32) at_117 (q := 118) rfl rfl ?_
          refine Go.icmp C at_118 (n_lt _ _) (qt := 133) (q := 121) (by decide) (by decide) rfl (fun _ => ?_) (fun b90 => absurd b90 (by decide))
          refine Go.iload C at_133 (q := 135) rfl rfl ?_
          refine Go.iconst C (3 : Int32) at_135 (q := 136) rfl rfl ?_
          refine Go.icmp C at_136 (n_lt _ _) (qt := 151) (q := 139) (by decide) (by decide) rfl (fun _ => ?_) (fun b91 => absurd b91 (by decide))
          refine Go.iconst C (1 : Int32) at_151 (q := 152) rfl rfl ?_
          refine Go.goto C at_152 (q := 156) (by decide) (by decide) ?_
          exact J88 _ (by rw [if_neg b89])
      intro v87 hv87
      refine Go.istoreR C at_156 (q := 158) rfl (l' := #[.val (.int p0), .val (.long p1), .second, .val (.long p2), .second, .val (.long p3), .second, .val (.int v1), .val (.int (1 : Int32)), .val (.int v5), .val (.int v6), .val (.int v7), .val (.int v8), .val (.int v9), .val (.int v10), .val (.ref a52), .val (.ref a63), .val (.ref w_MAXIMIZE), .val (.int v87), .unset]) rfl ?_
      refine Go.aload C at_158 (q := 160) rfl rfl rfl ?_
      refine Go.aload C at_160 (q := 162) rfl rfl rfl ?_
      refine Go.aload C at_162 (q := 164) rfl rfl rfl ?_
      have F92 := (F59.keep K64)
      have F93 := (Nat.le_trans F61 K64.1)
      have F94 := (F56.keep K64 nin0)
      refine Go.pureV C F92 (hw _ (List.mem_of_getElem? (i := 8) rfl)) (hw _ (List.mem_of_getElem? (i := 9) rfl)) (hw _ (List.mem_of_getElem? (i := 11) rfl)) (hw _ (List.mem_of_getElem? (i := 10) rfl)) (hw _ (List.mem_of_getElem? (i := 6) rfl)) (hw _ (List.mem_of_getElem? (i := 12) rfl)) (c_f_wd1_1 W.l Z a0 hw w_MAXIMIZE a52 a63 h62 n0 (upd (fun _ => (0 : Int64)) 0 v5.toInt64) (upd (fun _ => (0 : Int64)) 0 v6.toInt64) F93 F94 F67 (own_b1 _) (own_b1 _) F85) at_164 pd__40_91D_91D_41Z (q := 167) rfl rfl (argsL := [(.ref a52), (.ref a63)]) (st := []) rfl rfl (w := 0) rfl (by decide) (by decide) (by decide) (by decide) ?_
      refine Go.istore C at_167 (q := 169) rfl (fun z => #[.val (.int p0), .val (.long p1), .second, .val (.long p2), .second, .val (.long p3), .second, .val (.int v1), .val (.int (1 : Int32)), .val (.int v5), .val (.int v6), .val (.int v7), .val (.int v8), .val (.int v9), .val (.int v10), .val (.ref a52), .val (.ref a63), .val (.ref w_MAXIMIZE), .val (.int v87), .val (.int z)]) (fun _ => rfl) ?_
      intro v95 hv95
      refine Go.iload C at_169 (q := 171) rfl rfl ?_
      refine Go.iload C at_171 (q := 173) rfl rfl ?_
      refine Go.icmp C at_173 (n_ne _ _) (qt := 180) (q := 176) (by decide) (by decide) rfl (fun b96 => ?_) (fun b96 => ?_)
      ·
        refine Go.iconst C (0 : Int32) at_180 (q := 181) rfl rfl ?_
        exact (fin3 p0 p1 p2 p3 v1 hv1  hv4 v5 hv5 v6 hv6 v7 hv7 v8 hv8 v9 hv9 v10 hv10  b71 v87 hv87 v95 hv95  b96).elim
      ·
        have b96 := Classical.not_not.mp b96
        refine Go.iconst C (1 : Int32) at_176 (q := 177) rfl rfl ?_
        refine Go.goto C at_177 (q := 181) (by decide) (by decide) ?_
        exact Go.retZ (t := .boolean) (by simp) C at_181 (by decide) (by decide) (show some (Value.int _) = some (.int 1) from rfl)
  ·
    refine Go.iload C at_55 (q := 57) rfl rfl ?_
    refine Go.iload C at_57 (q := 59) rfl rfl ?_
    refine Go.iload C at_59 (q := 61) rfl rfl ?_
    refine Go.iload C at_61 (q := 63) rfl rfl ?_
    refine Go.callS C (hw _ (List.mem_of_getElem? (i := 0) rfl)) (hw _ (List.mem_of_getElem? (i := 1) rfl)) (hw _ (List.mem_of_getElem? (i := 2) rfl)) (hw _ (List.mem_of_getElem? (i := 3) rfl)) (c_vec2 W.l Z a0 hw v5 v7 v9 h0 n0 Z0) at_63 pd__40IIII_41_91D (q := 66) rfl rfl (argsL := [(.int (2 : Int32)), (.int v5), (.int v7), (.int v9)]) (st := []) rfl rfl (w := 0) rfl (by decide) (by decide) (k' := 1) rfl (n' := 2) rfl (by decide) (by decide) ?_
    intro v h97 q
    obtain ⟨a98, rfl, K99, g100, y101, F102⟩ := q
    have ne103 : w_MAXIMIZE ≠ a98 := Nat.ne_of_lt (Nat.lt_of_lt_of_le E_MAXIMIZE.lt y101)
    have ne104 : w_MINIMIZE ≠ a98 := Nat.ne_of_lt (Nat.lt_of_lt_of_le E_MINIMIZE.lt y101)
    show Go W n0 QL h97 1 2 66 #[.val (.int p0), .val (.long p1), .second, .val (.long p2), .second, .val (.long p3), .second, .val (.int v1), .val (.int (2 : Int32)), .val (.int v5), .val (.int v6), .val (.int v7), .val (.int v8), .val (.int v9), .val (.int v10), .unset, .unset, .unset, .unset, .unset] [(.ref a98)]
    refine Go.astore C at_66 (q := 68) rfl (l' := #[.val (.int p0), .val (.long p1), .second, .val (.long p2), .second, .val (.long p3), .second, .val (.int v1), .val (.int (2 : Int32)), .val (.int v5), .val (.int v6), .val (.int v7), .val (.int v8), .val (.int v9), .val (.int v10), .val (.ref a98), .unset, .unset, .unset, .unset]) rfl rfl ?_
    refine Go.iload C at_68 (q := 70) rfl rfl ?_
    refine Go.iload C at_70 (q := 72) rfl rfl ?_
    refine Go.iload C at_72 (q := 74) rfl rfl ?_
    refine Go.iload C at_74 (q := 76) rfl rfl ?_
    have F105 := (E_MAXIMIZE.keep K99)
    have F106 := (E_MINIMIZE.keep K99)
    have F107 := (Nat.le_trans Z0 K99.1)
    refine Go.callS C (hw _ (List.mem_of_getElem? (i := 0) rfl)) (hw _ (List.mem_of_getElem? (i := 1) rfl)) (hw _ (List.mem_of_getElem? (i := 2) rfl)) (hw _ (List.mem_of_getElem? (i := 3) rfl)) (c_vec2 W.l Z a0 hw v6 v8 v10 h97 n0 F107) at_76 pd__40IIII_41_91D (q := 79) rfl rfl (argsL := [(.int (2 : Int32)), (.int v6), (.int v8), (.int v10)]) (st := []) rfl rfl (w := 0) rfl (by decide) (by decide) (k' := 2) rfl (n' := 4) rfl (by decide) (by decide) ?_
    intro v h108 q
    obtain ⟨a109, rfl, K110, g111, y112, F113⟩ := q
    have ne114 : w_MAXIMIZE ≠ a109 := Nat.ne_of_lt (Nat.lt_of_lt_of_le F105.lt y112)
    have ne115 : w_MINIMIZE ≠ a109 := Nat.ne_of_lt (Nat.lt_of_lt_of_le F106.lt y112)
    have ne116 : a98 ≠ a109 := Nat.ne_of_lt (Nat.lt_of_lt_of_le F102.lt y112)
    show Go W n0 QL h108 2 4 79 #[.val (.int p0), .val (.long p1), .second, .val (.long p2), .second, .val (.long p3), .second, .val (.int v1), .val (.int (2 : Int32)), .val (.int v5), .val (.int v6), .val (.int v7), .val (.int v8), .val (.int v9), .val (.int v10), .val (.ref a98), .unset, .unset, .unset, .unset] [(.ref a109)]
    refine Go.astore C at_79 (q := 81) rfl (l' := #[.val (.int p0), .val (.long p1), .second, .val (.long p2), .second, .val (.long p3), .second, .val (.int v1), .val (.int (2 : Int32)), .val (.int v5), .val (.int v6), .val (.int v7), .val (.int v8), .val (.int v9), .val (.int v10), .val (.ref a98), .val (.ref a109), .unset, .unset, .unset]) rfl rfl ?_
    refine Go.iload C at_81 (q := 83) rfl rfl ?_
    refine Go.if0 C at_83 (z_eq _) (qt := 92) (q := 86) (by decide) (by decide) rfl (fun b117 => ?_) (fun b117 => ?_)
    ·
      have F118 := (own_sta_keep (own_sta_keep S_MINIMIZE K99 all0) K110 all0)
      refine Go.getS C (hw _ (List.mem_of_getElem? (i := 13) rfl)) Via.refl F118 at_92 (q := 95) rfl ?_
      refine Go.astore C at_95 (q := 97) rfl (l' := #[.val (.int p0), .val (.long p1), .second, .val (.long p2), .second, .val (.long p3), .second, .val (.int v1), .val (.int (2 : Int32)), .val (.int v5), .val (.int v6), .val (.int v7), .val (.int v8), .val (.int v9), .val (.int v10), .val (.ref a98), .val (.ref a109), .val (.ref w_MINIMIZE), .unset, .unset]) rfl rfl ?_
      refine Go.iload C at_97 (q := 99) rfl rfl ?_
      refine Go.iconst C (1 : Int32) at_99 (q := 100) rfl rfl ?_
      refine Go.icmp C at_100 (n_lt _ _) (qt := 115) (q := 103) (by decide) (by decide) rfl (fun b119 => absurd b119 (by decide)) (fun _ => ?_)
      refine Go.iload C at_103 (q := 105) rfl rfl ?_
      refine Go.iload C at_105 (q := 107) rfl rfl ?_
      refine Go.iload C at_107 (q := 109) rfl rfl ?_
      refine Go.pureS C (hw _ (List.mem_of_getElem? (i := 15) rfl)) (hw _ (List.mem_of_getElem? (i := 16) rfl)) (hw _ (List.mem_of_getElem? (i := 2) rfl)) (hw _ (List.mem_of_getElem? (i := 17) rfl)) (c_f_ok W.l Z a0 hw v1 v5 v6 h108 n0) at_109 pd__40ZII_41Z (q := 112) rfl rfl (argsL := [(.int v1), (.int v5), (.int v6)]) (st := []) rfl rfl (w := 0) rfl (by decide) (by decide) (by decide) (by decide) ?_
      suffices J121 : ∀ v120 : Int32, v120 = (if (f_ok v1 v5 v6) = (0 : Int32) then (0 : Int32) else (if (f_ok v1 v7 v8) = (0 : Int32) then (0 : Int32) else (1 : Int32))) → Go W n0 QL h108 2 4 156 #[.val (.int p0), .val (.long p1), .second, .val (.long p2), .second, .val (.long p3), .second, .val (.int v1), .val (.int (2 : Int32)), .val (.int v5), .val (.int v6), .val (.int v7), .val (.int v8), .val (.int v9), .val (.int v10), .val (.ref a98), .val (.ref a109), .val (.ref w_MINIMIZE), .unset, .unset] [(.int v120)] by
        refine Go.if0 C at_112 (z_eq _) (qt := 155) (q := 115) (by decide) (by decide) rfl (fun b122 => ?_) (fun b122 => ?_)
        ·
          refine Go.iconst C (0 : Int32) at_155 (q := 156) rfl rfl ?_
          exact J121 _ (by rw [if_pos b122])
        ·
          refine Go.iload C at_115 (q := 117) rfl rfl ?_
          refine Go.iconst C (2 : Int32) at_117 (q := 118) rfl rfl ?_
          refine Go.icmp C at_118 (n_lt _ _) (qt := 133) (q := 121) (by decide) (by decide) rfl (fun b123 => absurd b123 (by decide)) (fun _ => ?_)
          refine Go.iload C at_121 (q := 123) rfl rfl ?_
          refine Go.iload C at_123 (q := 125) rfl rfl ?_
          refine Go.iload C at_125 (q := 127) rfl rfl ?_
          refine Go.pureS C (hw _ (List.mem_of_getElem? (i := 15) rfl)) (hw _ (List.mem_of_getElem? (i := 16) rfl)) (hw _ (List.mem_of_getElem? (i := 2) rfl)) (hw _ (List.mem_of_getElem? (i := 17) rfl)) (c_f_ok W.l Z a0 hw v1 v7 v8 h108 n0) at_127 pd__40ZII_41Z (q := 130) rfl rfl (argsL := [(.int v1), (.int v7), (.int v8)]) (st := []) rfl rfl (w := 0) rfl (by decide) (by decide) (by decide) (by decide) ?_
          refine Go.if0 C at_130 (z_eq _) (qt := 155) (q := 133) (by decide) (by decide) rfl (fun b124 => ?_) (fun b124 => ?_)
          ·
            refine Go.iconst C (0 : Int32) at_155 (q := 156) rfl rfl ?_
            exact J121 _ (by rw [if_neg b122, if_pos b124])
          ·
            refine Go.iload C at_133 (q := 135) rfl rfl ?_
            refine Go.iconst C (3 : Int32) at_135 (q := 136) rfl rfl ?_
            refine Go.icmp C at_136 (n_lt _ _) (qt := 151) (q := 139) (by decide) (by decide) rfl (fun _ => ?_) (fun b125 => absurd b125 (by decide))
            refine Go.iconst C (1 : Int32) at_151 (q := 152) rfl rfl ?_
            refine Go.goto C at_152 (q := 156) (by decide) (by decide) ?_
            exact J121 _ (by rw [if_neg b122, if_neg b124])
      intro v120 hv120
      refine Go.istoreR C at_156 (q := 158) rfl (l' := #[.val (.int p0), .val (.long p1), .second, .val (.long p2), .second, .val (.long p3), .second, .val (.int v1), .val (.int (2 : Int32)), .val (.int v5), .val (.int v6), .val (.int v7), .val (.int v8), .val (.int v9), .val (.int v10), .val (.ref a98), .val (.ref a109), .val (.ref w_MINIMIZE), .val (.int v120), .unset]) rfl ?_
      refine Go.aload C at_158 (q := 160) rfl rfl rfl ?_
      refine Go.aload C at_160 (q := 162) rfl rfl rfl ?_
      refine Go.aload C at_162 (q := 164) rfl rfl rfl ?_
      have F126 := (F106.keep K110)
      have F127 := (Nat.le_trans F107 K110.1)
      have F128 := (F102.keep K110 nin0)
      have F129 := (own_sta_keep (own_sta_keep S_MAXIMIZE K99 all0) K110 all0)
      refine Go.pureV C F126 (hw _ (List.mem_of_getElem? (i := 8) rfl)) (hw _ (List.mem_of_getElem? (i := 9) rfl)) (hw _ (List.mem_of_getElem? (i := 11) rfl)) (hw _ (List.mem_of_getElem? (i := 10) rfl)) (hw _ (List.mem_of_getElem? (i := 6) rfl)) (hw _ (List.mem_of_getElem? (i := 12) rfl)) (c_f_wd0_2 W.l Z a0 hw w_MINIMIZE a98 a109 h108 n0 (upd (upd (fun _ => (0 : Int64)) 0 v5.toInt64) 1 v7.toInt64) (upd (upd (fun _ => (0 : Int64)) 0 v6.toInt64) 1 v8.toInt64) w_MAXIMIZE F127 F128 F113 (own_b2 _ _) (own_b2 _ _) F129 ne_mm) at_164 pd__40_91D_91D_41Z (q := 167) rfl rfl (argsL := [(.ref a98), (.ref a109)]) (st := []) rfl rfl (w := 0) rfl (by decide) (by decide) (by decide) (by decide) ?_
      refine Go.istore C at_167 (q := 169) rfl (fun z => #[.val (.int p0), .val (.long p1), .second, .val (.long p2), .second, .val (.long p3), .second, .val (.int v1), .val (.int (2 : Int32)), .val (.int v5), .val (.int v6), .val (.int v7), .val (.int v8), .val (.int v9), .val (.int v10), .val (.ref a98), .val (.ref a109), .val (.ref w_MINIMIZE), .val (.int v120), .val (.int z)]) (fun _ => rfl) ?_
      intro v130 hv130
      refine Go.iload C at_169 (q := 171) rfl rfl ?_
      refine Go.iload C at_171 (q := 173) rfl rfl ?_
      refine Go.icmp C at_173 (n_ne _ _) (qt := 180) (q := 176) (by decide) (by decide) rfl (fun b131 => ?_) (fun b131 => ?_)
      ·
        refine Go.iconst C (0 : Int32) at_180 (q := 181) rfl rfl ?_
        exact (fin4 p0 p1 p2 p3 v1 hv1  hv4 v5 hv5 v6 hv6 v7 hv7 v8 hv8 v9 hv9 v10 hv10  b117 v120 hv120 v130 hv130  b131).elim
      ·
        have b131 := Classical.not_not.mp b131
        refine Go.iconst C (1 : Int32) at_176 (q := 177) rfl rfl ?_
        refine Go.goto C at_177 (q := 181) (by decide) (by decide) ?_
        exact Go.retZ (t := .boolean) (by simp) C at_181 (by decide) (by decide) (show some (Value.int _) = some (.int 1) from rfl)
    ·
      have F132 := (own_sta_keep (own_sta_keep S_MAXIMIZE K99 all0) K110 all0)
      refine Go.getS C (hw _ (List.mem_of_getElem? (i := 5) rfl)) Via.refl F132 at_86 (q := 89) rfl ?_
      refine Go.goto C at_89 (q := 95) (by decide) (by decide) ?_
      refine Go.astore C at_95 (q := 97) rfl (l' := #[.val (.int p0), .val (.long p1), .second, .val (.long p2), .second, .val (.long p3), .second, .val (.int v1), .val (.int (2 : Int32)), .val (.int v5), .val (.int v6), .val (.int v7), .val (.int v8), .val (.int v9), .val (.int v10), .val (.ref a98), .val (.ref a109), .val (.ref w_MAXIMIZE), .unset, .unset]) rfl rfl ?_
      refine Go.iload C at_97 (q := 99) rfl rfl ?_
      refine Go.iconst C (1 : Int32) at_99 (q := 100) rfl rfl ?_
      refine Go.icmp C at_100 (n_lt _ _) (qt := 115) (q := 103) (by decide) (by decide) rfl (fun b133 => absurd b133 (by decide)) (fun _ => ?_)
      refine Go.iload C at_103 (q := 105) rfl rfl ?_
      refine Go.iload C at_105 (q := 107) rfl rfl ?_
      refine Go.iload C at_107 (q := 109) rfl rfl ?_
      refine Go.pureS C (hw _ (List.mem_of_getElem? (i := 15) rfl)) (hw _ (List.mem_of_getElem? (i := 16) rfl)) (hw _ (List.mem_of_getElem? (i := 2) rfl)) (hw _ (List.mem_of_getElem? (i := 17) rfl)) (c_f_ok W.l Z a0 hw v1 v5 v6 h108 n0) at_109 pd__40ZII_41Z (q := 112) rfl rfl (argsL := [(.int v1), (.int v5), (.int v6)]) (st := []) rfl rfl (w := 0) rfl (by decide) (by decide) (by decide) (by decide) ?_
      suffices J135 : ∀ v134 : Int32, v134 = (if (f_ok v1 v5 v6) = (0 : Int32) then (0 : Int32) else (if (f_ok v1 v7 v8) = (0 : Int32) then (0 : Int32) else (1 : Int32))) → Go W n0 QL h108 2 4 156 #[.val (.int p0), .val (.long p1), .second, .val (.long p2), .second, .val (.long p3), .second, .val (.int v1), .val (.int (2 : Int32)), .val (.int v5), .val (.int v6), .val (.int v7), .val (.int v8), .val (.int v9), .val (.int v10), .val (.ref a98), .val (.ref a109), .val (.ref w_MAXIMIZE), .unset, .unset] [(.int v134)] by
        refine Go.if0 C at_112 (z_eq _) (qt := 155) (q := 115) (by decide) (by decide) rfl (fun b136 => ?_) (fun b136 => ?_)
        ·
          refine Go.iconst C (0 : Int32) at_155 (q := 156) rfl rfl ?_
          exact J135 _ (by rw [if_pos b136])
        ·
          refine Go.iload C at_115 (q := 117) rfl rfl ?_
          refine Go.iconst C (2 : Int32) at_117 (q := 118) rfl rfl ?_
          refine Go.icmp C at_118 (n_lt _ _) (qt := 133) (q := 121) (by decide) (by decide) rfl (fun b137 => absurd b137 (by decide)) (fun _ => ?_)
          refine Go.iload C at_121 (q := 123) rfl rfl ?_
          refine Go.iload C at_123 (q := 125) rfl rfl ?_
          refine Go.iload C at_125 (q := 127) rfl rfl ?_
          refine Go.pureS C (hw _ (List.mem_of_getElem? (i := 15) rfl)) (hw _ (List.mem_of_getElem? (i := 16) rfl)) (hw _ (List.mem_of_getElem? (i := 2) rfl)) (hw _ (List.mem_of_getElem? (i := 17) rfl)) (c_f_ok W.l Z a0 hw v1 v7 v8 h108 n0) at_127 pd__40ZII_41Z (q := 130) rfl rfl (argsL := [(.int v1), (.int v7), (.int v8)]) (st := []) rfl rfl (w := 0) rfl (by decide) (by decide) (by decide) (by decide) ?_
          refine Go.if0 C at_130 (z_eq _) (qt := 155) (q := 133) (by decide) (by decide) rfl (fun b138 => ?_) (fun b138 => ?_)
          ·
            refine Go.iconst C (0 : Int32) at_155 (q := 156) rfl rfl ?_
            exact J135 _ (by rw [if_neg b136, if_pos b138])
          ·
            refine Go.iload C at_133 (q := 135) rfl rfl ?_
            refine Go.iconst C (3 : Int32) at_135 (q := 136) rfl rfl ?_
            refine Go.icmp C at_136 (n_lt _ _) (qt := 151) (q := 139) (by decide) (by decide) rfl (fun _ => ?_) (fun b139 => absurd b139 (by decide))
            refine Go.iconst C (1 : Int32) at_151 (q := 152) rfl rfl ?_
            refine Go.goto C at_152 (q := 156) (by decide) (by decide) ?_
            exact J135 _ (by rw [if_neg b136, if_neg b138])
      intro v134 hv134
      refine Go.istoreR C at_156 (q := 158) rfl (l' := #[.val (.int p0), .val (.long p1), .second, .val (.long p2), .second, .val (.long p3), .second, .val (.int v1), .val (.int (2 : Int32)), .val (.int v5), .val (.int v6), .val (.int v7), .val (.int v8), .val (.int v9), .val (.int v10), .val (.ref a98), .val (.ref a109), .val (.ref w_MAXIMIZE), .val (.int v134), .unset]) rfl ?_
      refine Go.aload C at_158 (q := 160) rfl rfl rfl ?_
      refine Go.aload C at_160 (q := 162) rfl rfl rfl ?_
      refine Go.aload C at_162 (q := 164) rfl rfl rfl ?_
      have F140 := (F105.keep K110)
      have F141 := (Nat.le_trans F107 K110.1)
      have F142 := (F102.keep K110 nin0)
      refine Go.pureV C F140 (hw _ (List.mem_of_getElem? (i := 8) rfl)) (hw _ (List.mem_of_getElem? (i := 9) rfl)) (hw _ (List.mem_of_getElem? (i := 11) rfl)) (hw _ (List.mem_of_getElem? (i := 10) rfl)) (hw _ (List.mem_of_getElem? (i := 6) rfl)) (hw _ (List.mem_of_getElem? (i := 12) rfl)) (c_f_wd1_2 W.l Z a0 hw w_MAXIMIZE a98 a109 h108 n0 (upd (upd (fun _ => (0 : Int64)) 0 v5.toInt64) 1 v7.toInt64) (upd (upd (fun _ => (0 : Int64)) 0 v6.toInt64) 1 v8.toInt64) F141 F142 F113 (own_b2 _ _) (own_b2 _ _) F132) at_164 pd__40_91D_91D_41Z (q := 167) rfl rfl (argsL := [(.ref a98), (.ref a109)]) (st := []) rfl rfl (w := 0) rfl (by decide) (by decide) (by decide) (by decide) ?_
      refine Go.istore C at_167 (q := 169) rfl (fun z => #[.val (.int p0), .val (.long p1), .second, .val (.long p2), .second, .val (.long p3), .second, .val (.int v1), .val (.int (2 : Int32)), .val (.int v5), .val (.int v6), .val (.int v7), .val (.int v8), .val (.int v9), .val (.int v10), .val (.ref a98), .val (.ref a109), .val (.ref w_MAXIMIZE), .val (.int v134), .val (.int z)]) (fun _ => rfl) ?_
      intro v143 hv143
      refine Go.iload C at_169 (q := 171) rfl rfl ?_
      refine Go.iload C at_171 (q := 173) rfl rfl ?_
      refine Go.icmp C at_173 (n_ne _ _) (qt := 180) (q := 176) (by decide) (by decide) rfl (fun b144 => ?_) (fun b144 => ?_)
      ·
        refine Go.iconst C (0 : Int32) at_180 (q := 181) rfl rfl ?_
        exact (fin5 p0 p1 p2 p3 v1 hv1  hv4 v5 hv5 v6 hv6 v7 hv7 v8 hv8 v9 hv9 v10 hv10  b117 v134 hv134 v143 hv143  b144).elim
      ·
        have b144 := Classical.not_not.mp b144
        refine Go.iconst C (1 : Int32) at_176 (q := 177) rfl rfl ?_
        refine Go.goto C at_177 (q := 181) (by decide) (by decide) ?_
        exact Go.retZ (t := .boolean) (by simp) C at_181 (by decide) (by decide) (show some (Value.int _) = some (.int 1) from rfl)
  ·
    refine Go.iload C at_55 (q := 57) rfl rfl ?_
    refine Go.iload C at_57 (q := 59) rfl rfl ?_
    refine Go.iload C at_59 (q := 61) rfl rfl ?_
    refine Go.iload C at_61 (q := 63) rfl rfl ?_
    refine Go.callS C (hw _ (List.mem_of_getElem? (i := 0) rfl)) (hw _ (List.mem_of_getElem? (i := 1) rfl)) (hw _ (List.mem_of_getElem? (i := 2) rfl)) (hw _ (List.mem_of_getElem? (i := 3) rfl)) (c_vec3 W.l Z a0 hw v5 v7 v9 h0 n0 Z0) at_63 pd__40IIII_41_91D (q := 66) rfl rfl (argsL := [(.int (3 : Int32)), (.int v5), (.int v7), (.int v9)]) (st := []) rfl rfl (w := 0) rfl (by decide) (by decide) (k' := 1) rfl (n' := 3) rfl (by decide) (by decide) ?_
    intro v h145 q
    obtain ⟨a146, rfl, K147, g148, y149, F150⟩ := q
    have ne151 : w_MAXIMIZE ≠ a146 := Nat.ne_of_lt (Nat.lt_of_lt_of_le E_MAXIMIZE.lt y149)
    have ne152 : w_MINIMIZE ≠ a146 := Nat.ne_of_lt (Nat.lt_of_lt_of_le E_MINIMIZE.lt y149)
    show Go W n0 QL h145 1 3 66 #[.val (.int p0), .val (.long p1), .second, .val (.long p2), .second, .val (.long p3), .second, .val (.int v1), .val (.int (3 : Int32)), .val (.int v5), .val (.int v6), .val (.int v7), .val (.int v8), .val (.int v9), .val (.int v10), .unset, .unset, .unset, .unset, .unset] [(.ref a146)]
    refine Go.astore C at_66 (q := 68) rfl (l' := #[.val (.int p0), .val (.long p1), .second, .val (.long p2), .second, .val (.long p3), .second, .val (.int v1), .val (.int (3 : Int32)), .val (.int v5), .val (.int v6), .val (.int v7), .val (.int v8), .val (.int v9), .val (.int v10), .val (.ref a146), .unset, .unset, .unset, .unset]) rfl rfl ?_
    refine Go.iload C at_68 (q := 70) rfl rfl ?_
    refine Go.iload C at_70 (q := 72) rfl rfl ?_
    refine Go.iload C at_72 (q := 74) rfl rfl ?_
    refine Go.iload C at_74 (q := 76) rfl rfl ?_
    have F153 := (E_MAXIMIZE.keep K147)
    have F154 := (E_MINIMIZE.keep K147)
    have F155 := (Nat.le_trans Z0 K147.1)
    refine Go.callS C (hw _ (List.mem_of_getElem? (i := 0) rfl)) (hw _ (List.mem_of_getElem? (i := 1) rfl)) (hw _ (List.mem_of_getElem? (i := 2) rfl)) (hw _ (List.mem_of_getElem? (i := 3) rfl)) (c_vec3 W.l Z a0 hw v6 v8 v10 h145 n0 F155) at_76 pd__40IIII_41_91D (q := 79) rfl rfl (argsL := [(.int (3 : Int32)), (.int v6), (.int v8), (.int v10)]) (st := []) rfl rfl (w := 0) rfl (by decide) (by decide) (k' := 2) rfl (n' := 6) rfl (by decide) (by decide) ?_
    intro v h156 q
    obtain ⟨a157, rfl, K158, g159, y160, F161⟩ := q
    have ne162 : w_MAXIMIZE ≠ a157 := Nat.ne_of_lt (Nat.lt_of_lt_of_le F153.lt y160)
    have ne163 : w_MINIMIZE ≠ a157 := Nat.ne_of_lt (Nat.lt_of_lt_of_le F154.lt y160)
    have ne164 : a146 ≠ a157 := Nat.ne_of_lt (Nat.lt_of_lt_of_le F150.lt y160)
    show Go W n0 QL h156 2 6 79 #[.val (.int p0), .val (.long p1), .second, .val (.long p2), .second, .val (.long p3), .second, .val (.int v1), .val (.int (3 : Int32)), .val (.int v5), .val (.int v6), .val (.int v7), .val (.int v8), .val (.int v9), .val (.int v10), .val (.ref a146), .unset, .unset, .unset, .unset] [(.ref a157)]
    refine Go.astore C at_79 (q := 81) rfl (l' := #[.val (.int p0), .val (.long p1), .second, .val (.long p2), .second, .val (.long p3), .second, .val (.int v1), .val (.int (3 : Int32)), .val (.int v5), .val (.int v6), .val (.int v7), .val (.int v8), .val (.int v9), .val (.int v10), .val (.ref a146), .val (.ref a157), .unset, .unset, .unset]) rfl rfl ?_
    refine Go.iload C at_81 (q := 83) rfl rfl ?_
    refine Go.if0 C at_83 (z_eq _) (qt := 92) (q := 86) (by decide) (by decide) rfl (fun b165 => ?_) (fun b165 => ?_)
    ·
      have F166 := (own_sta_keep (own_sta_keep S_MINIMIZE K147 all0) K158 all0)
      refine Go.getS C (hw _ (List.mem_of_getElem? (i := 13) rfl)) Via.refl F166 at_92 (q := 95) rfl ?_
      refine Go.astore C at_95 (q := 97) rfl (l' := #[.val (.int p0), .val (.long p1), .second, .val (.long p2), .second, .val (.long p3), .second, .val (.int v1), .val (.int (3 : Int32)), .val (.int v5), .val (.int v6), .val (.int v7), .val (.int v8), .val (.int v9), .val (.int v10), .val (.ref a146), .val (.ref a157), .val (.ref w_MINIMIZE), .unset, .unset]) rfl rfl ?_
      refine Go.iload C at_97 (q := 99) rfl rfl ?_
      refine Go.iconst C (1 : Int32) at_99 (q := 100) rfl rfl ?_
      refine Go.icmp C at_100 (n_lt _ _) (qt := 115) (q := 103) (by decide) (by decide) rfl (fun b167 => absurd b167 (by decide)) (fun _ => ?_)
      refine Go.iload C at_103 (q := 105) rfl rfl ?_
      refine Go.iload C at_105 (q := 107) rfl rfl ?_
      refine Go.iload C at_107 (q := 109) rfl rfl ?_
      refine Go.pureS C (hw _ (List.mem_of_getElem? (i := 15) rfl)) (hw _ (List.mem_of_getElem? (i := 16) rfl)) (hw _ (List.mem_of_getElem? (i := 2) rfl)) (hw _ (List.mem_of_getElem? (i := 17) rfl)) (c_f_ok W.l Z a0 hw v1 v5 v6 h156 n0) at_109 pd__40ZII_41Z (q := 112) rfl rfl (argsL := [(.int v1), (.int v5), (.int v6)]) (st := []) rfl rfl (w := 0) rfl (by decide) (by decide) (by decide) (by decide) ?_
      suffices J169 : ∀ v168 : Int32, v168 = (if (f_ok v1 v5 v6) = (0 : Int32) then (0 : Int32) else (if (f_ok v1 v7 v8) = (0 : Int32) then (0 : Int32) else (if (f_ok v1 v9 v10) = (0 : Int32) then (0 : Int32) else (1 : Int32)))) → Go W n0 QL h156 2 6 156 #[.val (.int p0), .val (.long p1), .second, .val (.long p2), .second, .val (.long p3), .second, .val (.int v1), .val (.int (3 : Int32)), .val (.int v5), .val (.int v6), .val (.int v7), .val (.int v8), .val (.int v9), .val (.int v10), .val (.ref a146), .val (.ref a157), .val (.ref w_MINIMIZE), .unset, .unset] [(.int v168)] by
        refine Go.if0 C at_112 (z_eq _) (qt := 155) (q := 115) (by decide) (by decide) rfl (fun b170 => ?_) (fun b170 => ?_)
        ·
          refine Go.iconst C (0 : Int32) at_155 (q := 156) rfl rfl ?_
          exact J169 _ (by rw [if_pos b170])
        ·
          refine Go.iload C at_115 (q := 117) rfl rfl ?_
          refine Go.iconst C (2 : Int32) at_117 (q := 118) rfl rfl ?_
          refine Go.icmp C at_118 (n_lt _ _) (qt := 133) (q := 121) (by decide) (by decide) rfl (fun b171 => absurd b171 (by decide)) (fun _ => ?_)
          refine Go.iload C at_121 (q := 123) rfl rfl ?_
          refine Go.iload C at_123 (q := 125) rfl rfl ?_
          refine Go.iload C at_125 (q := 127) rfl rfl ?_
          refine Go.pureS C (hw _ (List.mem_of_getElem? (i := 15) rfl)) (hw _ (List.mem_of_getElem? (i := 16) rfl)) (hw _ (List.mem_of_getElem? (i := 2) rfl)) (hw _ (List.mem_of_getElem? (i := 17) rfl)) (c_f_ok W.l Z a0 hw v1 v7 v8 h156 n0) at_127 pd__40ZII_41Z (q := 130) rfl rfl (argsL := [(.int v1), (.int v7), (.int v8)]) (st := []) rfl rfl (w := 0) rfl (by decide) (by decide) (by decide) (by decide) ?_
          refine Go.if0 C at_130 (z_eq _) (qt := 155) (q := 133) (by decide) (by decide) rfl (fun b172 => ?_) (fun b172 => ?_)
          ·
            refine Go.iconst C (0 : Int32) at_155 (q := 156) rfl rfl ?_
            exact J169 _ (by rw [if_neg b170, if_pos b172])
          ·
            refine Go.iload C at_133 (q := 135) rfl rfl ?_
            refine Go.iconst C (3 : Int32) at_135 (q := 136) rfl rfl ?_
            refine Go.icmp C at_136 (n_lt _ _) (qt := 151) (q := 139) (by decide) (by decide) rfl (fun b173 => absurd b173 (by decide)) (fun _ => ?_)
            refine Go.iload C at_139 (q := 141) rfl rfl ?_
            refine Go.iload C at_141 (q := 143) rfl rfl ?_
            refine Go.iload C at_143 (q := 145) rfl rfl ?_
            refine Go.pureS C (hw _ (List.mem_of_getElem? (i := 15) rfl)) (hw _ (List.mem_of_getElem? (i := 16) rfl)) (hw _ (List.mem_of_getElem? (i := 2) rfl)) (hw _ (List.mem_of_getElem? (i := 17) rfl)) (c_f_ok W.l Z a0 hw v1 v9 v10 h156 n0) at_145 pd__40ZII_41Z (q := 148) rfl rfl (argsL := [(.int v1), (.int v9), (.int v10)]) (st := []) rfl rfl (w := 0) rfl (by decide) (by decide) (by decide) (by decide) ?_
            refine Go.if0 C at_148 (z_eq _) (qt := 155) (q := 151) (by decide) (by decide) rfl (fun b174 => ?_) (fun b174 => ?_)
            ·
              refine Go.iconst C (0 : Int32) at_155 (q := 156) rfl rfl ?_
              exact J169 _ (by rw [if_neg b170, if_neg b172, if_pos b174])
            ·
              refine Go.iconst C (1 : Int32) at_151 (q := 152) rfl rfl ?_
              refine Go.goto C at_152 (q := 156) (by decide) (by decide) ?_
              exact J169 _ (by rw [if_neg b170, if_neg b172, if_neg b174])
      intro v168 hv168
      refine Go.istoreR C at_156 (q := 158) rfl (l' := #[.val (.int p0), .val (.long p1), .second, .val (.long p2), .second, .val (.long p3), .second, .val (.int v1), .val (.int (3 : Int32)), .val (.int v5), .val (.int v6), .val (.int v7), .val (.int v8), .val (.int v9), .val (.int v10), .val (.ref a146), .val (.ref a157), .val (.ref w_MINIMIZE), .val (.int v168), .unset]) rfl ?_
      refine Go.aload C at_158 (q := 160) rfl rfl rfl ?_
      refine Go.aload C at_160 (q := 162) rfl rfl rfl ?_
      refine Go.aload C at_162 (q := 164) rfl rfl rfl ?_
      have F175 := (F154.keep K158)
      have F176 := (Nat.le_trans F155 K158.1)
      have F177 := (F150.keep K158 nin0)
      have F178 := (own_sta_keep (own_sta_keep S_MAXIMIZE K147 all0) K158 all0)
      refine Go.pureV C F175 (hw _ (List.mem_of_getElem? (i := 8) rfl)) (hw _ (List.mem_of_getElem? (i := 9) rfl)) (hw _ (List.mem_of_getElem? (i := 11) rfl)) (hw _ (List.mem_of_getElem? (i := 10) rfl)) (hw _ (List.mem_of_getElem? (i := 6) rfl)) (hw _ (List.mem_of_getElem? (i := 12) rfl)) (c_f_wd0_3 W.l Z a0 hw w_MINIMIZE a146 a157 h156 n0 (upd (upd (upd (fun _ => (0 : Int64)) 0 v5.toInt64) 1 v7.toInt64) 2 v9.toInt64) (upd (upd (upd (fun _ => (0 : Int64)) 0 v6.toInt64) 1 v8.toInt64) 2 v10.toInt64) w_MAXIMIZE F176 F177 F161 (own_b3 _ _ _) (own_b3 _ _ _) F178 ne_mm) at_164 pd__40_91D_91D_41Z (q := 167) rfl rfl (argsL := [(.ref a146), (.ref a157)]) (st := []) rfl rfl (w := 0) rfl (by decide) (by decide) (by decide) (by decide) ?_
      refine Go.istore C at_167 (q := 169) rfl (fun z => #[.val (.int p0), .val (.long p1), .second, .val (.long p2), .second, .val (.long p3), .second, .val (.int v1), .val (.int (3 : Int32)), .val (.int v5), .val (.int v6), .val (.int v7), .val (.int v8), .val (.int v9), .val (.int v10), .val (.ref a146), .val (.ref a157), .val (.ref w_MINIMIZE), .val (.int v168), .val (.int z)]) (fun _ => rfl) ?_
      intro v179 hv179
      refine Go.iload C at_169 (q := 171) rfl rfl ?_
      refine Go.iload C at_171 (q := 173) rfl rfl ?_
      refine Go.icmp C at_173 (n_ne _ _) (qt := 180) (q := 176) (by decide) (by decide) rfl (fun b180 => ?_) (fun b180 => ?_)
      ·
        refine Go.iconst C (0 : Int32) at_180 (q := 181) rfl rfl ?_
        exact (fin6 p0 p1 p2 p3 v1 hv1  hv4 v5 hv5 v6 hv6 v7 hv7 v8 hv8 v9 hv9 v10 hv10  b165 v168 hv168 v179 hv179  b180).elim
      ·
        have b180 := Classical.not_not.mp b180
        refine Go.iconst C (1 : Int32) at_176 (q := 177) rfl rfl ?_
        refine Go.goto C at_177 (q := 181) (by decide) (by decide) ?_
        exact Go.retZ (t := .boolean) (by simp) C at_181 (by decide) (by decide) (show some (Value.int _) = some (.int 1) from rfl)
    ·
      have F181 := (own_sta_keep (own_sta_keep S_MAXIMIZE K147 all0) K158 all0)
      refine Go.getS C (hw _ (List.mem_of_getElem? (i := 5) rfl)) Via.refl F181 at_86 (q := 89) rfl ?_
      refine Go.goto C at_89 (q := 95) (by decide) (by decide) ?_
      refine Go.astore C at_95 (q := 97) rfl (l' := #[.val (.int p0), .val (.long p1), .second, .val (.long p2), .second, .val (.long p3), .second, .val (.int v1), .val (.int (3 : Int32)), .val (.int v5), .val (.int v6), .val (.int v7), .val (.int v8), .val (.int v9), .val (.int v10), .val (.ref a146), .val (.ref a157), .val (.ref w_MAXIMIZE), .unset, .unset]) rfl rfl ?_
      refine Go.iload C at_97 (q := 99) rfl rfl ?_
      refine Go.iconst C (1 : Int32) at_99 (q := 100) rfl rfl ?_
      refine Go.icmp C at_100 (n_lt _ _) (qt := 115) (q := 103) (by decide) (by decide) rfl (fun b182 => absurd b182 (by decide)) (fun _ => ?_)
      refine Go.iload C at_103 (q := 105) rfl rfl ?_
      refine Go.iload C at_105 (q := 107) rfl rfl ?_
      refine Go.iload C at_107 (q := 109) rfl rfl ?_
      refine Go.pureS C (hw _ (List.mem_of_getElem? (i := 15) rfl)) (hw _ (List.mem_of_getElem? (i := 16) rfl)) (hw _ (List.mem_of_getElem? (i := 2) rfl)) (hw _ (List.mem_of_getElem? (i := 17) rfl)) (c_f_ok W.l Z a0 hw v1 v5 v6 h156 n0) at_109 pd__40ZII_41Z (q := 112) rfl rfl (argsL := [(.int v1), (.int v5), (.int v6)]) (st := []) rfl rfl (w := 0) rfl (by decide) (by decide) (by decide) (by decide) ?_
      suffices J184 : ∀ v183 : Int32, v183 = (if (f_ok v1 v5 v6) = (0 : Int32) then (0 : Int32) else (if (f_ok v1 v7 v8) = (0 : Int32) then (0 : Int32) else (if (f_ok v1 v9 v10) = (0 : Int32) then (0 : Int32) else (1 : Int32)))) → Go W n0 QL h156 2 6 156 #[.val (.int p0), .val (.long p1), .second, .val (.long p2), .second, .val (.long p3), .second, .val (.int v1), .val (.int (3 : Int32)), .val (.int v5), .val (.int v6), .val (.int v7), .val (.int v8), .val (.int v9), .val (.int v10), .val (.ref a146), .val (.ref a157), .val (.ref w_MAXIMIZE), .unset, .unset] [(.int v183)] by
        refine Go.if0 C at_112 (z_eq _) (qt := 155) (q := 115) (by decide) (by decide) rfl (fun b185 => ?_) (fun b185 => ?_)
        ·
          refine Go.iconst C (0 : Int32) at_155 (q := 156) rfl rfl ?_
          exact J184 _ (by rw [if_pos b185])
        ·
          refine Go.iload C at_115 (q := 117) rfl rfl ?_
          refine Go.iconst C (2 : Int32) at_117 (q := 118) rfl rfl ?_
          refine Go.icmp C at_118 (n_lt _ _) (qt := 133) (q := 121) (by decide) (by decide) rfl (fun b186 => absurd b186 (by decide)) (fun _ => ?_)
          refine Go.iload C at_121 (q := 123) rfl rfl ?_
          refine Go.iload C at_123 (q := 125) rfl rfl ?_
          refine Go.iload C at_125 (q := 127) rfl rfl ?_
          refine Go.pureS C (hw _ (List.mem_of_getElem? (i := 15) rfl)) (hw _ (List.mem_of_getElem? (i := 16) rfl)) (hw _ (List.mem_of_getElem? (i := 2) rfl)) (hw _ (List.mem_of_getElem? (i := 17) rfl)) (c_f_ok W.l Z a0 hw v1 v7 v8 h156 n0) at_127 pd__40ZII_41Z (q := 130) rfl rfl (argsL := [(.int v1), (.int v7), (.int v8)]) (st := []) rfl rfl (w := 0) rfl (by decide) (by decide) (by decide) (by decide) ?_
          refine Go.if0 C at_130 (z_eq _) (qt := 155) (q := 133) (by decide) (by decide) rfl (fun b187 => ?_) (fun b187 => ?_)
          ·
            refine Go.iconst C (0 : Int32) at_155 (q := 156) rfl rfl ?_
            exact J184 _ (by rw [if_neg b185, if_pos b187])
          ·
            refine Go.iload C at_133 (q := 135) rfl rfl ?_
            refine Go.iconst C (3 : Int32) at_135 (q := 136) rfl rfl ?_
            refine Go.icmp C at_136 (n_lt _ _) (qt := 151) (q := 139) (by decide) (by decide) rfl (fun b188 => absurd b188 (by decide)) (fun _ => ?_)
            refine Go.iload C at_139 (q := 141) rfl rfl ?_
            refine Go.iload C at_141 (q := 143) rfl rfl ?_
            refine Go.iload C at_143 (q := 145) rfl rfl ?_
            refine Go.pureS C (hw _ (List.mem_of_getElem? (i := 15) rfl)) (hw _ (List.mem_of_getElem? (i := 16) rfl)) (hw _ (List.mem_of_getElem? (i := 2) rfl)) (hw _ (List.mem_of_getElem? (i := 17) rfl)) (c_f_ok W.l Z a0 hw v1 v9 v10 h156 n0) at_145 pd__40ZII_41Z (q := 148) rfl rfl (argsL := [(.int v1), (.int v9), (.int v10)]) (st := []) rfl rfl (w := 0) rfl (by decide) (by decide) (by decide) (by decide) ?_
            refine Go.if0 C at_148 (z_eq _) (qt := 155) (q := 151) (by decide) (by decide) rfl (fun b189 => ?_) (fun b189 => ?_)
            ·
              refine Go.iconst C (0 : Int32) at_155 (q := 156) rfl rfl ?_
              exact J184 _ (by rw [if_neg b185, if_neg b187, if_pos b189])
            ·
              refine Go.iconst C (1 : Int32) at_151 (q := 152) rfl rfl ?_
              refine Go.goto C at_152 (q := 156) (by decide) (by decide) ?_
              exact J184 _ (by rw [if_neg b185, if_neg b187, if_neg b189])
      intro v183 hv183
      refine Go.istoreR C at_156 (q := 158) rfl (l' := #[.val (.int p0), .val (.long p1), .second, .val (.long p2), .second, .val (.long p3), .second, .val (.int v1), .val (.int (3 : Int32)), .val (.int v5), .val (.int v6), .val (.int v7), .val (.int v8), .val (.int v9), .val (.int v10), .val (.ref a146), .val (.ref a157), .val (.ref w_MAXIMIZE), .val (.int v183), .unset]) rfl ?_
      refine Go.aload C at_158 (q := 160) rfl rfl rfl ?_
      refine Go.aload C at_160 (q := 162) rfl rfl rfl ?_
      refine Go.aload C at_162 (q := 164) rfl rfl rfl ?_
      have F190 := (F153.keep K158)
      have F191 := (Nat.le_trans F155 K158.1)
      have F192 := (F150.keep K158 nin0)
      refine Go.pureV C F190 (hw _ (List.mem_of_getElem? (i := 8) rfl)) (hw _ (List.mem_of_getElem? (i := 9) rfl)) (hw _ (List.mem_of_getElem? (i := 11) rfl)) (hw _ (List.mem_of_getElem? (i := 10) rfl)) (hw _ (List.mem_of_getElem? (i := 6) rfl)) (hw _ (List.mem_of_getElem? (i := 12) rfl)) (c_f_wd1_3 W.l Z a0 hw w_MAXIMIZE a146 a157 h156 n0 (upd (upd (upd (fun _ => (0 : Int64)) 0 v5.toInt64) 1 v7.toInt64) 2 v9.toInt64) (upd (upd (upd (fun _ => (0 : Int64)) 0 v6.toInt64) 1 v8.toInt64) 2 v10.toInt64) F191 F192 F161 (own_b3 _ _ _) (own_b3 _ _ _) F181) at_164 pd__40_91D_91D_41Z (q := 167) rfl rfl (argsL := [(.ref a146), (.ref a157)]) (st := []) rfl rfl (w := 0) rfl (by decide) (by decide) (by decide) (by decide) ?_
      refine Go.istore C at_167 (q := 169) rfl (fun z => #[.val (.int p0), .val (.long p1), .second, .val (.long p2), .second, .val (.long p3), .second, .val (.int v1), .val (.int (3 : Int32)), .val (.int v5), .val (.int v6), .val (.int v7), .val (.int v8), .val (.int v9), .val (.int v10), .val (.ref a146), .val (.ref a157), .val (.ref w_MAXIMIZE), .val (.int v183), .val (.int z)]) (fun _ => rfl) ?_
      intro v193 hv193
      refine Go.iload C at_169 (q := 171) rfl rfl ?_
      refine Go.iload C at_171 (q := 173) rfl rfl ?_
      refine Go.icmp C at_173 (n_ne _ _) (qt := 180) (q := 176) (by decide) (by decide) rfl (fun b194 => ?_) (fun b194 => ?_)
      ·
        refine Go.iconst C (0 : Int32) at_180 (q := 181) rfl rfl ?_
        exact (fin7 p0 p1 p2 p3 v1 hv1  hv4 v5 hv5 v6 hv6 v7 hv7 v8 hv8 v9 hv9 v10 hv10  b165 v183 hv183 v193 hv193  b194).elim
      ·
        have b194 := Classical.not_not.mp b194
        refine Go.iconst C (1 : Int32) at_176 (q := 177) rfl rfl ?_
        refine Go.goto C at_177 (q := 181) (by decide) (by decide) ?_
        exact Go.retZ (t := .boolean) (by simp) C at_181 (by decide) (by decide) (show some (Value.int _) = some (.int 1) from rfl)
set_option maxRecDepth 65536 in
set_option maxHeartbeats 4000000 in
theorem comes_1 {Post : Tables → Env → Array Value → State → Outcome → State → Prop} (hpost : ∀ tb e args s v u, (limb_1_1.after args s (.returned v) u = true ∧ limb_1_2.after args s (.returned v) u = true ∧ True) → FrameEnd s (.returned v) u (Jvm.fieldLocs frame_1_writes args s ++ Jvm.arrayLocs frame_1_arrays args s ++ Jvm.staticLocs frame_1_statics s) 16 128 → Post tb e args s (.returned v) u) :
    ArmFor flags0 classFile x code maxLocals ret World_1 tables_1 room_1 Calls_1 rest_1 Pre_1 Post := by
  intro l hfl _ _ p e ha hc hk s m args below hf hA hF happ hP
  obtain ⟨hcalls, hrest, hpre⟩ := hP
  obtain ⟨-, -, -, hnamed, -, -, -, hat⟩ := (Spec.applies_iff hf).mp happ
  obtain ⟨hg, hn⟩ := and_e (Cond.before_iff.mp (show (Jvm.Cond.and given_1 narrow_1).before args s = true from hpre))
  obtain ⟨hcount, hg0⟩ := and_e hg
  obtain ⟨ha0, hg1⟩ := and_e hg0
  obtain ⟨ha1, hg2⟩ := and_e hg1
  obtain ⟨ha2, hg3⟩ := and_e hg2
  have ha3 := hg3
  obtain ⟨w0, w1, w2, w3, rfl⟩ : ∃ w0 w1 w2 w3 : Value, args = #[w0, w1, w2, w3] := by
    have hs : args.size = 4 := by simpa [Cond.value, given_1] using hcount
    obtain ⟨L⟩ := args
    match L, hs with
    | [w0, w1, w2, w3], _ => exact ⟨w0, w1, w2, w3, rfl⟩
  have hw := fun d (hd : d ∈ tables_1) => atoms_spec (ws := Jvm.Cond.code x code maxLocals ret :: tables_1) hat d (List.mem_cons_of_mem _ hd)
  obtain ⟨i0, ei0⟩ := is_v ha0
  obtain rfl : w0 = (.int i0) := Option.some.inj ei0
  obtain ⟨i1, ei1⟩ := isL_v ha1
  obtain rfl : w1 = (.long i1) := Option.some.inj ei1
  obtain ⟨i2, ei2⟩ := isL_v ha2
  obtain rfl : w2 = (.long i2) := Option.some.inj ei2
  obtain ⟨i3, ei3⟩ := isL_v ha3
  obtain rfl : w3 = (.long i3) := Option.some.inj ei3
  obtain ⟨na0, nb0⟩ := and_e hn
  obtain ⟨na1, nb1⟩ := and_e nb0
  obtain ⟨na2, nb2⟩ := and_e nb1
  obtain ⟨w_MAXIMIZE, S_MAXIMIZE, E_MAXIMIZE, ev_MAXIMIZE⟩ := own_sta na0 (hw _ (List.mem_of_getElem? (i := 6) rfl)) (hw _ (List.mem_of_getElem? (i := 7) rfl))
  have O_MAXIMIZE := own_fld ev_MAXIMIZE (own_eqI nb2)
  obtain ⟨w_MINIMIZE, S_MINIMIZE, E_MINIMIZE, ev_MINIMIZE⟩ := own_sta na1 (hw _ (List.mem_of_getElem? (i := 6) rfl)) (hw _ (List.mem_of_getElem? (i := 14) rfl))
  have O_MINIMIZE := own_fld ev_MINIMIZE (own_eqI na2)
  have ne_mm : w_MINIMIZE ≠ w_MAXIMIZE := Fld.ne O_MINIMIZE O_MAXIMIZE (by decide)
  obtain ⟨n, o, h1, h2, h3, _, L, rfl, ⟨N, rfl⟩, hq⟩ := rm0 l s _ hw i0 i1 i2 i3 s.heap s.heap.size (Nat.le_refl _) w_MAXIMIZE S_MAXIMIZE E_MAXIMIZE w_MINIMIZE S_MINIMIZE E_MINIMIZE ne_mm p e ha hc hk s m _ below hf ((Spec.applies_iff_loose hf).mp happ).1 ⟨rfl, State.Warmed39.refl s, rfl⟩ trivial
  refine ⟨n, _, h1, h2, h3, hpost _ _ _ _ _ _ ⟨Cond.after_iff.mpr rfl, Cond.after_iff.mpr (eq_i res_at (Term.int_eval (1)) rfl), trivial⟩ ⟨hq.1, hq.2.1, (hq.2.2.sift fun y hy => Or.inr (N y hy)).mono (by decide) (by decide)⟩⟩
theorem main_1_1 : Claimed_1_1 := comes_1 fun _ _ _ _ _ _ h hF => ⟨h.1, hF⟩
theorem main_1_2 : Claimed_1_2 := comes_1 fun _ _ _ _ _ _ h hF => ⟨h.2.1, hF⟩
end Jvm.Pilot.@@N@@
namespace Jvm.Pilot.@@N@@
open Jvm Jvm.ClassFile Sem Op Lib Jvm.Free Jvm.Stand Jvm.Pilot.@@N@@.Jvm.D
/-! MADE BY PROGRAM (witnessworld.py) out of the Statement's table words and the real class files: 15 classes; the members and pool entries that the words name. The judged class is class 1, her method 3. -/
namespace start1
open Jvm.ClassFile
def u (s : String) : CpInfo := .utf8 (stringToUtf16 s)
/-- a pool by its gaps: so many unusable entries, then the entry; so many at the end -/
def gap : Nat → List CpInfo → List CpInfo
  | 0, r => r
  | n + 1, r => .unusable :: gap n r
def poolList (es : List (Nat × CpInfo)) (last : Nat) : List CpInfo := es.foldr (fun e r => gap e.1 (e.2 :: r)) (gap last [])
def pool (es : List (Nat × CpInfo)) (last : Nat) : Array CpInfo := ⟨poolList es last⟩
def fileOf (pool : Array CpInfo) (this : Nat) (attrs : Array Attribute := #[]) (ms : Array MethodInfo := #[]) (fl : Nat := 33) (sup : Nat := 0) (ifs : Array Nat := #[]) (fds : Array FieldInfo := #[]) : ClassFile where
  minorVersion := 0
  majorVersion := 65
  constantPool := pool
  accessFlags := fl
  thisClass := this
  superClass := sup
  interfaces := ifs
  fields := fds
  methods := ms
  attributes := attrs
def plain (name : String) (sup : Option ClassId) : Class where
  name := name
  kind := .ordinary
  loader := none
  accessFlags := 33
  super := sup
  interfaces := #[]
  cf := none
  fields := #[]
  methods := #[]
  instanceTypes := #[]
  staticTypes := #[]
  resolved := #[]
  callSites := []
  init := .initialized
  statics := none
  mirror := none

def pool0 : Array CpInfo := pool [(5, u "<init>"), (0, u "()V"), (1, .class_ 10), (1, u "java/lang/Object")] 113

def k0m0 : Method := { name := "<init>", desc := "()V", sig := { parameters := [], returnType := none }, accessFlags := 1, code := none }
/-- java/lang/Object -/
def k0 : Class := { plain "java/lang/Object" none with
  accessFlags := 33
  interfaces := #[]
  cf := some (fileOf pool0 8 #[] #[{ accessFlags := 1, nameIndex := 5, descriptorIndex := 6, attributes := #[] }] 33 0 #[] #[])
  fields := #[]
  methods := #[k0m0]
  instanceTypes := #[]
  staticTypes := #[]
  resolved := Array.replicate 124 none
  statics := none }

def pool1 : Array CpInfo := pool [(2, .class_ 4), (1, u "java/lang/Object"), (0, u "<init>"), (0, u "()V"), (0, .methodref 8 9), (0, .class_ 10), (0, .nameAndType 11 12), (0, u "com/example/paretoloom/paretoloom/pareto/SenseWeaklyDominatesPinLaw"), (0, u "vec"), (0, u "(IIII)[D"), (0, .fieldref 14 15), (0, .class_ 16), (0, .nameAndType 17 18), (0, u "com/example/paretoloom/paretoloom/pareto/Sense"), (0, u "MAXIMIZE"), (0, u "Lcom/example/paretoloom/paretoloom/pareto/Sense;"), (0, .fieldref 14 20), (0, .nameAndType 21 18), (0, u "MINIMIZE"), (0, .methodref 8 23), (0, .nameAndType 24 25), (0, u "ok"), (0, u "(ZII)Z"), (0, .methodref 14 27), (0, .nameAndType 28 29), (0, u "weaklyDominates"), (0, u "([D[D)Z"), (3, u "law"), (0, u "(IJJJ)Z")] 4

def k1m0 : Method := { name := "<init>", desc := "()V", sig := { parameters := [], returnType := none }, accessFlags := 1, code := none }
def k1c1 : Code := { maxStack := 2, maxLocals := 3, code := method_2_code, exceptionTable := #[], attributes := #[] }
def k1m1 : Method := { name := "ok", desc := "(ZII)Z", sig := { parameters := [.boolean, .int, .int], returnType := some .boolean }, accessFlags := 10, code := some k1c1 }
def k1c2 : Code := { maxStack := 5, maxLocals := 4, code := method_3_code, exceptionTable := #[], attributes := #[] }
def k1m2 : Method := { name := "vec", desc := "(IIII)[D", sig := { parameters := [.int, .int, .int, .int], returnType := some (.array .double) }, accessFlags := 10, code := some k1c2 }
def k1c3 : Code := { maxStack := 4, maxLocals := 20, code := code, exceptionTable := #[], attributes := #[] }
def k1m3 : Method := { name := "law", desc := "(IJJJ)Z", sig := { parameters := [.int, .long, .long, .long], returnType := some .boolean }, accessFlags := 9, code := some k1c3 }
/-- com/example/paretoloom/paretoloom/pareto/SenseWeaklyDominatesPinLaw -/
def k1 : Class := { plain "com/example/paretoloom/paretoloom/pareto/SenseWeaklyDominatesPinLaw" (some 0) with
  accessFlags := 49
  interfaces := #[]
  cf := some (fileOf pool1 8 #[] #[{ accessFlags := 1, nameIndex := 5, descriptorIndex := 6, attributes := #[] }, { accessFlags := 10, nameIndex := 24, descriptorIndex := 25, attributes := #[] }, { accessFlags := 10, nameIndex := 11, descriptorIndex := 12, attributes := #[] }, { accessFlags := 9, nameIndex := 33, descriptorIndex := 34, attributes := #[] }] 49 2 #[] #[])
  fields := #[]
  methods := #[k1m0, k1m1, k1m2, k1m3]
  instanceTypes := #[]
  staticTypes := #[]
  resolved := Array.replicate 39 none
  statics := none }

def pool2 : Array CpInfo := pool [(1, .class_ 2), (0, u "java/lang/constant/Constable"), (0, .class_ 4), (0, u "java/lang/Object")] 6

/-- java/lang/constant/Constable -/
def k2 : Class := { plain "java/lang/constant/Constable" (some 0) with
  accessFlags := 1537
  interfaces := #[]
  cf := some (fileOf pool2 1 #[] #[] 1537 3 #[] #[])
  fields := #[]
  methods := #[]
  instanceTypes := #[]
  staticTypes := #[]
  resolved := Array.replicate 11 none
  statics := none }

def pool3 : Array CpInfo := pool [(1, .class_ 2), (0, u "java/lang/Comparable"), (0, .class_ 4), (0, u "java/lang/Object")] 7

/-- java/lang/Comparable -/
def k3 : Class := { plain "java/lang/Comparable" (some 0) with
  accessFlags := 1537
  interfaces := #[]
  cf := some (fileOf pool3 1 #[] #[] 1537 3 #[] #[])
  fields := #[]
  methods := #[]
  instanceTypes := #[]
  staticTypes := #[]
  resolved := Array.replicate 12 none
  statics := none }

def pool4 : Array CpInfo := pool [(1, .class_ 2), (0, u "java/io/Serializable"), (0, .class_ 4), (0, u "java/lang/Object")] 2

/-- java/io/Serializable -/
def k4 : Class := { plain "java/io/Serializable" (some 0) with
  accessFlags := 1537
  interfaces := #[]
  cf := some (fileOf pool4 1 #[] #[] 1537 3 #[] #[])
  fields := #[]
  methods := #[]
  instanceTypes := #[]
  staticTypes := #[]
  resolved := Array.replicate 7 none
  statics := none }

def pool5 : Array CpInfo := pool [(2, .class_ 4), (1, u "java/lang/Enum"), (0, u "name"), (0, u "Ljava/lang/String;"), (2, u "ordinal"), (0, u "I"), (1, .class_ 14), (1, u "java/lang/Object"), (4, u "hash"), (86, .class_ 108), (1, u "java/lang/Enum$EnumDesc"), (2, .class_ 112), (0, u "java/lang/constant/Constable"), (0, .class_ 114), (0, u "java/lang/Comparable"), (0, .class_ 116), (0, u "java/io/Serializable")] 87

/-- java/lang/Enum -/
def k5 : Class := { plain "java/lang/Enum" (some 0) with
  accessFlags := 1057
  interfaces := #[2, 3, 4]
  cf := some (fileOf pool5 2 #[.nestMembers #[106]] #[] 1057 12 #[111, 113, 115] #[{ accessFlags := 18, nameIndex := 5, descriptorIndex := 6, attributes := #[] }, { accessFlags := 18, nameIndex := 9, descriptorIndex := 10, attributes := #[] }, { accessFlags := 2, nameIndex := 19, descriptorIndex := 10, attributes := #[] }])
  fields := #[{ name := "name", type := (.object "java/lang/String"), accessFlags := 18, slot := 0, constantValue := 0 }, { name := "ordinal", type := .int, accessFlags := 18, slot := 1, constantValue := 0 }, { name := "hash", type := .int, accessFlags := 2, slot := 2, constantValue := 0 }]
  methods := #[]
  instanceTypes := #[(.object "java/lang/String"), .int, .int]
  staticTypes := #[]
  resolved := Array.replicate 204 none
  statics := none }

def pool6 : Array CpInfo := pool [(1, .class_ 2), (0, u "com/example/paretoloom/paretoloom/pareto/Dominance"), (0, .class_ 4), (0, u "java/lang/Object")] 4

/-- com/example/paretoloom/paretoloom/pareto/Dominance -/
def k6 : Class := { plain "com/example/paretoloom/paretoloom/pareto/Dominance" (some 0) with
  accessFlags := 1537
  interfaces := #[]
  cf := some (fileOf pool6 1 #[] #[] 1537 3 #[] #[])
  fields := #[]
  methods := #[]
  instanceTypes := #[]
  staticTypes := #[]
  resolved := Array.replicate 9 none
  statics := none }

def pool7 : Array CpInfo := pool [(1, .class_ 2), (0, u "com/example/paretoloom/paretoloom/pareto/Sense"), (0, .fieldref 1 4), (0, .nameAndType 5 6), (0, u "MAXIMIZE"), (0, u "Lcom/example/paretoloom/paretoloom/pareto/Sense;"), (2, u "MINIMIZE"), (2, u "$VALUES"), (0, u "[Lcom/example/paretoloom/paretoloom/pareto/Sense;"), (6, .class_ 22), (1, u "java/lang/Enum"), (66, .class_ 90), (0, u "com/example/paretoloom/paretoloom/pareto/Dominance"), (7, u "weaklyDominates"), (0, u "([D[D)Z")] 23

def k7c0 : Code := { maxStack := 4, maxLocals := 4, code := prog_73_method_4_code, exceptionTable := #[], attributes := #[] }
def k7m0 : Method := { name := "weaklyDominates", desc := "([D[D)Z", sig := { parameters := [(.array .double), (.array .double)], returnType := some .boolean }, accessFlags := 1, code := some k7c0 }
/-- com/example/paretoloom/paretoloom/pareto/Sense -/
def k7 : Class := { plain "com/example/paretoloom/paretoloom/pareto/Sense" (some 5) with
  accessFlags := 16433
  interfaces := #[6]
  cf := some (fileOf pool7 1 #[] #[{ accessFlags := 1, nameIndex := 98, descriptorIndex := 99, attributes := #[] }] 16433 20 #[89] #[{ accessFlags := 16409, nameIndex := 5, descriptorIndex := 6, attributes := #[] }, { accessFlags := 16409, nameIndex := 9, descriptorIndex := 6, attributes := #[] }, { accessFlags := 4122, nameIndex := 12, descriptorIndex := 13, attributes := #[] }])
  fields := #[{ name := "MAXIMIZE", type := (.object "com/example/paretoloom/paretoloom/pareto/Sense"), accessFlags := 16409, slot := 0, constantValue := 0 }, { name := "MINIMIZE", type := (.object "com/example/paretoloom/paretoloom/pareto/Sense"), accessFlags := 16409, slot := 1, constantValue := 0 }, { name := "$VALUES", type := (.array (.object "com/example/paretoloom/paretoloom/pareto/Sense")), accessFlags := 4122, slot := 2, constantValue := 0 }]
  methods := #[k7m0]
  instanceTypes := #[(.object "java/lang/String"), .int, .int]
  staticTypes := #[(.object "com/example/paretoloom/paretoloom/pareto/Sense"), (.object "com/example/paretoloom/paretoloom/pareto/Sense"), (.array (.object "com/example/paretoloom/paretoloom/pareto/Sense"))]
  resolved := Array.replicate 123 none
  statics := some 0 }

def pool8 : Array CpInfo := pool [(1, u "java/lang/Cloneable"), (0, .class_ 1), (0, u "java/lang/Object"), (0, .class_ 3)] 3

/-- java/lang/Cloneable -/
def k8 : Class := { plain "java/lang/Cloneable" (some 0) with
  accessFlags := 1537
  interfaces := #[]
  cf := some (fileOf pool8 2 #[] #[] 1537 4 #[] #[])
  fields := #[]
  methods := #[]
  instanceTypes := #[]
  staticTypes := #[]
  resolved := Array.replicate 8 none
  statics := none }

/-- the primitive byte -/
def k9 : Class := { plain "byte" none with kind := .primitive 'B', accessFlags := 0x411 }
/-- [B -/
def k10 : Class := { plain "[B" (some 0) with kind := .array 9 .byte, interfaces := #[8, 4], accessFlags := 1041 }

/-- the primitive int -/
def k11 : Class := { plain "int" none with kind := .primitive 'I', accessFlags := 0x411 }
/-- [I -/
def k12 : Class := { plain "[I" (some 0) with kind := .array 11 .int, interfaces := #[8, 4], accessFlags := 1041 }

/-- the primitive long -/
def k13 : Class := { plain "double" none with kind := .primitive 'D', accessFlags := 0x411 }
/-- [J -/
def k14 : Class := { plain "[D" (some 0) with kind := .array 13 .double, interfaces := #[8, 4], accessFlags := 1041 }

def heap : Heap := #[{ cls := 7, slots := #[.ref 1, .ref 2, .null], vm := .statics 7 },
  { cls := 7, slots := #[.null, .int 0, .int 0], vm := .none },
  { cls := 7, slots := #[.null, .int 1, .int 0], vm := .none },
  { cls := 14, slots := #[.double 0], vm := .none }]
def classes : Array Class := #[k0, k1, k2, k3, k4, k5, k6, k7, k8, k9, k10, k11, k12, k13, k14]
def interned : List (Array UInt16 × Addr) := []
def slotsUsed : Nat := 10
def theMethod : MethodId := ⟨1, 3⟩
def args0 : Array Value := #[.int 1, .long 2, .long 3, .long 4]
def aboutOver (below : List Frame) : State where
  vm := { classes := classes, interned := interned.toArray }
  heap := heap
  slotsUsed := slotsUsed
  threads := #[{ frames := .invoking theMethod args0 :: below }]
def below0 : List Frame := [.native { method := ⟨0, 0⟩, args := #[] }]
def about1 : State := aboutOver below0
def p0 : Program := .bare "" "" ""
def e0 : Env := launch0.env 0 0 0
theorem w_frames : about1.frames = Frame.invoking theMethod args0 :: below0 := rfl
set_option maxRecDepth 65536 in
theorem w_args : argsFit about1.vm theMethod args0 = true := by decide +kernel
set_option maxRecDepth 65536 in
theorem w_heap : heapFits about1 = true := by decide +kernel
set_option maxRecDepth 65536 in
theorem w_runnable : about1.curStatus? = some .runnable := by decide +kernel
set_option maxRecDepth 65536 in
theorem w_alone : about1.alone = true := by decide +kernel
set_option maxRecDepth 65536 in
theorem w_named : about1.methodNamed? x = some theMethod := by decide +kernel
set_option maxRecDepth 65536 in
theorem w_hears : about1.hears theMethod below0 = true := by decide +kernel
set_option maxRecDepth 65536 in
theorem w_ripe : about1.ripe theMethod args0 below0 = true := by decide +kernel
theorem w_running : about1.status = .running := rfl
set_option maxRecDepth 65536 in
theorem w_room : about1.hasRoom e0.platform room_1 = true :=
  launch0.hasRoom_least _ room_1 (by decide +kernel) (by decide +kernel) (by decide +kernel) (by decide +kernel) (by decide +kernel) (by decide +kernel)
theorem allAtoms_all (ts : List Jvm.Cond) (a : Array Jvm.Value) (st : Jvm.State) : (allAtoms ts).before a st = ts.all (fun c => c.before a st) := by
  induction ts with
  | nil => rfl
  | cons c t ih =>
    show (Jvm.Cond.and c (allAtoms t)).before a st = _
    rw [Jvm.Cond.before_and, ih, List.all_cons]
def words1 : List Jvm.Cond := Jvm.Cond.code x code maxLocals ret :: tables_1
/-- a 'code' word, met by the world's own term for the bytes: nothing is compared byte by byte -/
theorem code_word {y : MethodName} {bytes : ByteArray} {mx : Nat} {rt : Option FieldType} {a : Array Value} {s : State} {m : MethodId} {meth : Method} {c : Code} (h1 : s.methodNamed? y = some m) (h2 : s.vm.method? m = some meth) (h3 : meth.code = some c) (h4 : c.code = bytes)
    (h5 : (c.maxLocals == mx && c.exceptionTable.isEmpty && decide (c.maxStack ≤ mostOperands) && decide (meth.sig.returnType = rt) && !meth.locks && decide (parseMethodDescriptor y.desc = some meth.sig)) = true) : (Jvm.Cond.code y bytes mx rt).before a s = true := by
  simp only [Bool.and_eq_true, beq_iff_eq, Bool.not_eq_true', decide_eq_true_eq] at h5
  obtain ⟨⟨⟨⟨⟨g1, g2⟩, g3⟩, g4⟩, g5⟩, g6⟩ := h5
  simp [Cond.before, Cond.holds, Cond.value, h1, h2, h3, h4, g1, g2, g3, g4, g5, g6]
def isCode : Jvm.Cond → Bool
  | .code _ _ _ _ => true
  | _ => false
theorem all_split {L : List Jvm.Cond} {P : Jvm.Cond → Bool} (h1 : L.all (fun c => isCode c || P c) = true) (h2 : ∀ c ∈ L.filter isCode, P c = true) : L.all P = true := by
  refine List.all_eq_true.mpr fun c hc => ?_
  have h := List.all_eq_true.mp h1 c hc
  rcases Bool.eq_false_or_eq_true (isCode c) with hi | hi
  · exact h2 c (List.mem_filter.mpr ⟨hc, hi⟩)
  · simpa [hi] using h
set_option maxRecDepth 65536 in
theorem w_c0 : (Jvm.Cond.code x code maxLocals ret).before args0 about1 = true := code_word (m := ⟨1, 3⟩) (meth := k1m3) (c := k1c3) (by decide +kernel) rfl rfl rfl (by decide +kernel)
set_option maxRecDepth 65536 in
theorem w_c1 : (Jvm.Cond.code ({ cls := "com/example/paretoloom/paretoloom/pareto/SenseWeaklyDominatesPinLaw", name := "vec", desc := "(IIII)[D" } : Jvm.MethodName) method_3_code (4 : Nat) (Option.some (Jvm.ClassFile.FieldType.array Jvm.ClassFile.FieldType.double))).before args0 about1 = true := code_word (m := ⟨1, 2⟩) (meth := k1m2) (c := k1c2) (by decide +kernel) rfl rfl rfl (by decide +kernel)
set_option maxRecDepth 65536 in
theorem w_c2 : (Jvm.Cond.code ({ cls := "com/example/paretoloom/paretoloom/pareto/Sense", name := "weaklyDominates", desc := "([D[D)Z" } : Jvm.MethodName) prog_73_method_4_code (4 : Nat) (Option.some Jvm.ClassFile.FieldType.boolean)).before args0 about1 = true := code_word (m := ⟨7, 0⟩) (meth := k7m0) (c := k7c0) (by decide +kernel) rfl rfl rfl (by decide +kernel)
set_option maxRecDepth 65536 in
theorem w_c3 : (Jvm.Cond.code ({ cls := "com/example/paretoloom/paretoloom/pareto/SenseWeaklyDominatesPinLaw", name := "ok", desc := "(ZII)Z" } : Jvm.MethodName) method_2_code (3 : Nat) (Option.some Jvm.ClassFile.FieldType.boolean)).before args0 about1 = true := code_word (m := ⟨1, 1⟩) (meth := k1m1) (c := k1c1) (by decide +kernel) rfl rfl rfl (by decide +kernel)
def codes1 : List Jvm.Cond := [Jvm.Cond.code x code maxLocals ret, Jvm.Cond.code ({ cls := "com/example/paretoloom/paretoloom/pareto/SenseWeaklyDominatesPinLaw", name := "vec", desc := "(IIII)[D" } : Jvm.MethodName) method_3_code (4 : Nat) (Option.some (Jvm.ClassFile.FieldType.array Jvm.ClassFile.FieldType.double)), Jvm.Cond.code ({ cls := "com/example/paretoloom/paretoloom/pareto/Sense", name := "weaklyDominates", desc := "([D[D)Z" } : Jvm.MethodName) prog_73_method_4_code (4 : Nat) (Option.some Jvm.ClassFile.FieldType.boolean), Jvm.Cond.code ({ cls := "com/example/paretoloom/paretoloom/pareto/SenseWeaklyDominatesPinLaw", name := "ok", desc := "(ZII)Z" } : Jvm.MethodName) method_2_code (3 : Nat) (Option.some Jvm.ClassFile.FieldType.boolean)]
set_option maxRecDepth 65536 in
theorem codes_eq : words1.filter isCode = codes1 := rfl
theorem w_codes : ∀ c ∈ words1.filter isCode, c.before args0 about1 = true := by
  rw [codes_eq]
  intro c hc
  simp only [codes1, List.mem_cons, List.not_mem_nil, or_false] at hc
  rcases hc with rfl | rfl | rfl | rfl
  · exact w_c0
  · exact w_c1
  · exact w_c2
  · exact w_c3
set_option maxRecDepth 65536 in
theorem w_t1 : words1.all (fun c => isCode c || c.before args0 about1) = true := by decide +kernel
theorem w_tables : (allAtoms (Jvm.Cond.code x code maxLocals ret :: tables_1)).before args0 about1 = true := by
  rw [allAtoms_all]
  show words1.all (fun c => c.before args0 about1) = true
  refine all_split ?_ w_codes
  rw [w_t1]
set_option maxRecDepth 65536 in
theorem w_case : (Jvm.Cond.and given_1 narrow_1).before args0 about1 = true := by decide +kernel
theorem w_applies : (headSpec (Jvm.Cond.code x code maxLocals ret :: tables_1) room_1).applies x e0.platform about1 = true :=
  (Spec.applies_iff w_frames).mpr ⟨w_running, w_runnable, w_alone, w_named, w_hears, w_ripe, w_room, w_tables⟩
theorem atStart : AtStart classFile x code maxLocals ret World_1 tables_1 room_1 Calls_1 rest_1 Pre_1 launch0 p0 e0 about1 theMethod args0 below0 :=
  ⟨lists_1, trivial, launch0.admits_env _ _ _, launch0.least_env, fairChoices_fair.cas, fairChoices_fair.clock, w_frames, w_args, w_heap, w_applies, trivial, trivial, w_case⟩
end start1
theorem witness_1 : WitnessClaimed_1 := ⟨start1.p0, start1.e0, start1.about1, start1.theMethod, start1.args0, start1.below0, start1.atStart⟩
end Jvm.Pilot.@@N@@
