import JvmDerived
import JvmDerived.Pilot.@@N@@Statement
import JvmDerived.Pilot.@@N@@Code
set_option linter.unusedVariables false
set_option linter.unusedSimpArgs false
namespace Jvm.RoadKit
open Sem ClassFile Op Lib Jvm.Stand Jvm.Free Jvm.LawKit
section New
variable {p : Program} {l : Launch} {e : Env} {R : Room} {s : State} {m : MethodId} {args : Array Value} {below : List Frame} {meth : Method} {c : Code} {T : State} {locs : List Loc} {cells slots : Nat}
theorem retI (X : Stand p l e R s m args below meth c T locs cells slots) (hx : p.tables.exec = Jvm.exec) {pc : Nat} {Ls : Array Slot} {z : Int32} {rest : List Value} (hret : meth.sig.returnType = some .int) (hd : decode c.code pc = .ok (.ireturn, 1)) {fs : List Frame}
    (hl : ∀ (f : JFrame) (acts : List Action), f.method = m → f.locked = none → f.entered = [] → (doReturn e (T.setTop f) acts (some (.int z))).1 = T.setFrames fs) : Steps p.tables e below (T.setTop (mkF m pc Ls (.int z :: rest))) (T.setFrames fs) := by
  have hm' : T.vm.method? m = some meth := X.method'
  have hn : narrow .int (.int z) = .int z := rfl
  show Steps p.tables e below (T.setTop { method := m, pc := pc, locals := Ls, stack := _ :: rest, locked := none }) _
  jvm_step X.here [X.here.top, hx, hd, hm', hret, hn]
  first | (intro acts; rw [hl _ acts rfl rfl rfl]) | rw [hl _ _ rfl rfl rfl]
  exact Steps.refl _
end New
end Jvm.RoadKit
namespace Jvm.Pilot.@@N@@
open Jvm Jvm.ClassFile Sem Op Lib Jvm.Free Jvm.Stand Jvm.LawKit Jvm.RoadKit Bundle Jvm.Pilot.@@N@@.Jvm.D
/-- the fixed things of one body's walk -/
abbrev Wk : Type := Program × Launch × Env × Room × State × MethodId × Array Value × List Frame × Method × Code
abbrev Wk.p (W : Wk) : Program := W.1
abbrev Wk.l (W : Wk) : Launch := W.2.1
abbrev Wk.e (W : Wk) : Env := W.2.2.1
abbrev Wk.R (W : Wk) : Room := W.2.2.2.1
abbrev Wk.s (W : Wk) : State := W.2.2.2.2.1
abbrev Wk.m (W : Wk) : MethodId := W.2.2.2.2.2.1
abbrev Wk.args (W : Wk) : Array Value := W.2.2.2.2.2.2.1
abbrev Wk.below (W : Wk) : List Frame := W.2.2.2.2.2.2.2.1
abbrev Wk.meth (W : Wk) : Method := W.2.2.2.2.2.2.2.2.1
abbrev Wk.c (W : Wk) : Code := W.2.2.2.2.2.2.2.2.2
abbrev St (W : Wk) (T : State) (L : List Loc) (k n : Nat) : Prop := Stand W.p W.l W.e W.R W.s W.m W.args W.below W.meth W.c T L k n
abbrev Sp (W : Wk) (a b : State) : Prop := Steps W.p.tables W.e W.below a b
/-- what holds throughout the walk -/
def Cx (Z : State) (W : Wk) (rm : Room) (own nm : String) (bytes : ByteArray) (maxL : Nat) (ret : Option FieldType) : Prop :=
  W.p.tables.exec = Jvm.exec ∧ W.c.code = bytes ∧ W.c.maxLocals = maxL ∧ W.s.vm.findClass own = some W.m.cls ∧ W.meth.name = nm ∧ W.meth.sig.returnType = ret ∧ Z.Warmed39 W.s.vm ∧ W.meth.locks = false ∧ W.R = rm
section Cxs
variable {Z : State} {W : Wk} {rm : Room} {own nm : String} {bytes : ByteArray} {maxL : Nat} {ret : Option FieldType}
theorem Cx.x (C : Cx Z W rm own nm bytes maxL ret) : W.p.tables.exec = Jvm.exec := C.1
theorem Cx.b (C : Cx Z W rm own nm bytes maxL ret) : W.c.code = bytes := C.2.1
theorem Cx.ml (C : Cx Z W rm own nm bytes maxL ret) : W.c.maxLocals = maxL := C.2.2.1
theorem Cx.ow (C : Cx Z W rm own nm bytes maxL ret) : W.s.vm.findClass own = some W.m.cls := C.2.2.2.1
theorem Cx.na (C : Cx Z W rm own nm bytes maxL ret) : W.meth.name = nm := C.2.2.2.2.1
theorem Cx.re (C : Cx Z W rm own nm bytes maxL ret) : W.meth.sig.returnType = ret := C.2.2.2.2.2.1
theorem Cx.z (C : Cx Z W rm own nm bytes maxL ret) : Z.Warmed39 W.s.vm := C.2.2.2.2.2.2.1
theorem Cx.lk (C : Cx Z W rm own nm bytes maxL ret) : W.meth.locks = false := C.2.2.2.2.2.2.2.1
theorem Cx.ro (C : Cx Z W rm own nm bytes maxL ret) : W.R = rm := C.2.2.2.2.2.2.2.2
end Cxs
/-- the run comes to the invocation's end, with what Q says -/
def Ends (W : Wk) (n0 : Nat) (Q : Option Value → Heap → Prop) (U : State) : Prop :=
  ∃ s₂ o, Sp W U s₂ ∧ s₂.status = .running ∧ Ended s₂ W.below o ∧ ∃ v L, o = .returned v ∧ (Fr n0 L ∧ Q v s₂.heap) ∧ FrameEnd W.s o s₂ L W.R.cells W.R.slots
/-- from pc, with these locals and this stack, over the heap h, at most k cells of n slots made so far -/
def Go (W : Wk) (n0 : Nat) (Q : Option Value → Heap → Prop) (h : Heap) (k n pc : Nat) (ls : Array Slot) (st : List Value) : Prop :=
  ∀ T L k' n', St W T L k' n' → k' ≤ k → n' ≤ n → Fr n0 L → T.heap = h → Ends W n0 Q (T.setTop (mkF W.m pc ls st))
/-- a body's contract: on these arguments, over the heap h, it ends and Q holds of what it returns and of the heap that it leaves -/
def Met1 (l : Launch) (Z : State) (y : MethodName) (bytes : ByteArray) (maxL : Nat) (ret : Option FieldType) (ws : List Jvm.Cond) (rm : Room) (as : Array Value) (h : Heap) (n0 : Nat) (Q : Option Value → Heap → Prop) : Prop :=
  MetFree l y (head1 (Jvm.Cond.code y bytes maxL ret :: ws) rm) (fun a U => a = as ∧ Z.Warmed39 U.vm ∧ U.heap = h) (fun _ _ _ _ _ => True) (fun _ U o U' => ∃ v L, o = .returned v ∧ (Fr n0 L ∧ Q v U'.heap) ∧ FrameEnd U o U' L rm.cells rm.slots)
theorem met_of_go {l : Launch} {Z : State} {y : MethodName} {bytes : ByteArray} {maxL : Nat} {ret : Option FieldType} {ws : List Jvm.Cond} {rm : Room} {as : Array Value} {h : Heap} {n0 : Nat} {Q : Option Value → Heap → Prop} {ls : Array Slot}
    (hpl : plainFor y = true) (hef : ∀ m, entryFrame m as maxL = mkF m 0 ls [])
    (go : ∀ W : Wk, W.l = l → Cx Z W rm y.cls y.name bytes maxL ret → Go W n0 Q h 0 0 0 ls []) : Met1 l Z y bytes maxL ret ws rm as h n0 Q := by
  refine MetFree.of_bodySF hpl hisR ?_
  intro p e s m args below meth c s₁ Bd hml0 hP hK
  obtain ⟨rfl, hZ, hh⟩ := hP
  have X0 : Stand p l e rm s m args below meth c s₁ [] 0 0 := Stand.of_body Bd
  have e0 : s₁.heap = h := by rw [← hh, Bd.state]; rfl
  obtain ⟨s₂, o, h1, h2, h3, h4⟩ := go (p, l, e, rm, s, m, args, below, meth, c) rfl ⟨Bd.exec, Bd.bytes, hml0, findClass_of_methodNamed Bd.named, (name_of_methodNamed Bd.named Bd.method).1, Bd.returns, hZ, Bd.notSynchronized, rfl⟩ s₁ [] 0 0 X0 (Nat.le_refl _) (Nat.le_refl _) (Fr.nil n0) e0
  exact ⟨s₂, o, castTop (hef m) h1, h2, h3, h4⟩
section Gos
variable {Z : State} {W : Wk} {rm : Room} {own nm : String} {bytes : ByteArray} {maxL : Nat} {ret : Option FieldType} {n0 : Nat} {Q : Option Value → Heap → Prop} {h : Heap} {k n pc q : Nat} {ls : Array Slot} {st : List Value} {a0 : Array Value}
theorem Go.mono {k' n' : Nat} (hk : k ≤ k') (hn : n ≤ n') (g : Go W n0 Q h k' n' pc ls st) : Go W n0 Q h k n pc ls st :=
  fun T L a b X h1 h2 => g T L a b X (Nat.le_trans h1 hk) (Nat.le_trans h2 hn)
theorem Go.stepX {ls' : Array Slot} {st' : List Value} (f : ∀ T L a b tg, St W T L a b → T.heap = h → Sp W (T.setTop (mkF W.m q ls' st')) tg → Sp W (T.setTop (mkF W.m pc ls st)) tg) (hr : Go W n0 Q h k n q ls' st') : Go W n0 Q h k n pc ls st := by
  intro T L a b X hk hn N eT
  obtain ⟨s₂, o, hs, r⟩ := hr T L a b X hk hn N eT
  exact ⟨s₂, o, f T L a b _ X eT hs, r⟩
theorem Go.stepT {ls' : Array Slot} {st' : List Value} (f : ∀ T L a b, St W T L a b → T.heap = h → ∃ T', St W T' L a b ∧ T'.heap = h ∧ ∀ tg, Sp W (T'.setTop (mkF W.m q ls' st')) tg → Sp W (T.setTop (mkF W.m pc ls st)) tg) (hr : Go W n0 Q h k n q ls' st') : Go W n0 Q h k n pc ls st := by
  intro T L a b X hk hn N eT
  obtain ⟨T', X', e', sp⟩ := f T L a b X eT
  obtain ⟨s₂, o, hs, r⟩ := hr T' L a b X' hk hn N e'
  exact ⟨s₂, o, sp _ hs, r⟩

theorem Go.iload (C : Cx Z W rm own nm bytes maxL ret) {j : Nat} {v : Int32} (hd : decode bytes pc = .ok (.iload j, 2)) (hq : pc + 2 = q) (hl : ls[j]? = some (.val (.int v)))
    (hr : Go W n0 Q h k n q ls (.int v :: st)) : Go W n0 Q h k n pc ls st := by
  subst hq
  exact Go.stepX (fun T L a b tg X eT kk => XS.iload X.here C.x rfl (hb C.b hd) hl kk) hr
theorem Go.iloadN (C : Cx Z W rm own nm bytes maxL ret) {j : Fin 4} {v : Int32} (hd : decode bytes pc = .ok (.iload_n j, 1)) (hq : pc + 1 = q) (hl : ls[j.val]? = some (.val (.int v)))
    (hr : Go W n0 Q h k n q ls (.int v :: st)) : Go W n0 Q h k n pc ls st := by
  subst hq
  exact Go.stepX (fun T L a b tg X eT kk => XS.iloadN X.here C.x rfl (hb C.b hd) hl kk) hr
theorem Go.lload (C : Cx Z W rm own nm bytes maxL ret) {j : Nat} {v : Int64} (hd : decode bytes pc = .ok (.lload j, 2)) (hq : pc + 2 = q) (hl : ls[j]? = some (.val (.long v)))
    (hr : Go W n0 Q h k n q ls (.long v :: st)) : Go W n0 Q h k n pc ls st := by
  subst hq
  exact Go.stepX (fun T L a b tg X eT kk => XS.lload X.here C.x rfl (hb C.b hd) hl kk) hr
theorem Go.lloadN (C : Cx Z W rm own nm bytes maxL ret) {j : Fin 4} {v : Int64} (hd : decode bytes pc = .ok (.lload_n j, 1)) (hq : pc + 1 = q) (hl : ls[j.val]? = some (.val (.long v)))
    (hr : Go W n0 Q h k n q ls (.long v :: st)) : Go W n0 Q h k n pc ls st := by
  subst hq
  exact Go.stepX (fun T L a b tg X eT kk => XS.lloadN X.here C.x rfl (hb C.b hd) hl kk) hr
theorem Go.aload (C : Cx Z W rm own nm bytes maxL ret) {j : Nat} {v : Value} (hd : decode bytes pc = .ok (.aload j, 2)) (hq : pc + 2 = q) (hl : ls[j]? = some (.val v)) (hv : v.isRef = true)
    (hr : Go W n0 Q h k n q ls (v :: st)) : Go W n0 Q h k n pc ls st := by
  subst hq
  exact Go.stepX (fun T L a b tg X eT kk => XS.aload X.here C.x rfl (hb C.b hd) hl hv kk) hr
theorem Go.aloadN (C : Cx Z W rm own nm bytes maxL ret) {j : Fin 4} {v : Value} (hd : decode bytes pc = .ok (.aload_n j, 1)) (hq : pc + 1 = q) (hl : ls[j.val]? = some (.val v)) (hv : v.isRef = true)
    (hr : Go W n0 Q h k n q ls (v :: st)) : Go W n0 Q h k n pc ls st := by
  subst hq
  exact Go.stepX (fun T L a b tg X eT kk => XS.aloadN X.here C.x rfl (hb C.b hd) hl hv kk) hr
theorem Go.istore (C : Cx Z W rm own nm bytes maxL ret) {j : Nat} {x : Int32} (hd : decode bytes pc = .ok (.istore j, 2)) (hq : pc + 2 = q) (l' : Int32 → Array Slot) (hl : ∀ v, storeLocals ls j (.int v) = some (l' v))
    (hr : ∀ v, v = x → Go W n0 Q h k n q (l' v) st) : Go W n0 Q h k n pc ls (.int x :: st) := by
  subst hq
  exact Go.stepX (fun T L a b tg X eT kk => XS.istore X.here C.x rfl (hb C.b hd) rfl (hl x) kk) (hr x rfl)
theorem Go.istoreN (C : Cx Z W rm own nm bytes maxL ret) {j : Fin 4} {x : Int32} (hd : decode bytes pc = .ok (.istore_n j, 1)) (hq : pc + 1 = q) (l' : Int32 → Array Slot) (hl : ∀ v, storeLocals ls j.val (.int v) = some (l' v))
    (hr : ∀ v, v = x → Go W n0 Q h k n q (l' v) st) : Go W n0 Q h k n pc ls (.int x :: st) := by
  subst hq
  exact Go.stepX (fun T L a b tg X eT kk => XS.istoreN X.here C.x rfl (hb C.b hd) rfl (hl x) kk) (hr x rfl)
theorem Go.lstore (C : Cx Z W rm own nm bytes maxL ret) {j : Nat} {x : Int64} (hd : decode bytes pc = .ok (.lstore j, 2)) (hq : pc + 2 = q) (l' : Int64 → Array Slot) (hl : ∀ v, storeLocals ls j (.long v) = some (l' v))
    (hr : ∀ v, v = x → Go W n0 Q h k n q (l' v) st) : Go W n0 Q h k n pc ls (.long x :: st) := by
  subst hq
  exact Go.stepX (fun T L a b tg X eT kk => XS.lstore X.here C.x rfl (hb C.b hd) rfl (hl x) kk) (hr x rfl)
theorem Go.lstoreN (C : Cx Z W rm own nm bytes maxL ret) {j : Fin 4} {x : Int64} (hd : decode bytes pc = .ok (.lstore_n j, 1)) (hq : pc + 1 = q) (l' : Int64 → Array Slot) (hl : ∀ v, storeLocals ls j.val (.long v) = some (l' v))
    (hr : ∀ v, v = x → Go W n0 Q h k n q (l' v) st) : Go W n0 Q h k n pc ls (.long x :: st) := by
  subst hq
  exact Go.stepX (fun T L a b tg X eT kk => XS.lstoreN X.here C.x rfl (hb C.b hd) rfl (hl x) kk) (hr x rfl)
theorem Go.astore (C : Cx Z W rm own nm bytes maxL ret) {j : Nat} {x : Value} (hd : decode bytes pc = .ok (.astore j, 2)) (hq : pc + 2 = q) {l' : Array Slot} (hv : x.isRef = true) (hl : storeLocals ls j x = some l')
    (hr : Go W n0 Q h k n q l' st) : Go W n0 Q h k n pc ls (x :: st) := by
  subst hq
  exact Go.stepX (fun T L a b tg X eT kk => XS.astore X.here C.x rfl (hb C.b hd) rfl hv hl kk) hr
theorem Go.astoreN (C : Cx Z W rm own nm bytes maxL ret) {j : Fin 4} {x : Value} (hd : decode bytes pc = .ok (.astore_n j, 1)) (hq : pc + 1 = q) {l' : Array Slot} (hv : x.isRef = true) (hl : storeLocals ls j.val x = some l')
    (hr : Go W n0 Q h k n q l' st) : Go W n0 Q h k n pc ls (x :: st) := by
  subst hq
  exact Go.stepX (fun T L a b tg X eT kk => XS.astoreN X.here C.x rfl (hb C.b hd) rfl hv hl kk) hr
theorem Go.istoreR (C : Cx Z W rm own nm bytes maxL ret) {j : Nat} {x : Int32} (hd : decode bytes pc = .ok (.istore j, 2)) (hq : pc + 2 = q) {l' : Array Slot} (hl : storeLocals ls j (.int x) = some l')
    (hr : Go W n0 Q h k n q l' st) : Go W n0 Q h k n pc ls (.int x :: st) := by
  subst hq
  exact Go.stepX (fun T L a b tg X eT kk => XS.istore X.here C.x rfl (hb C.b hd) rfl hl kk) hr
theorem Go.istoreNR (C : Cx Z W rm own nm bytes maxL ret) {j : Fin 4} {x : Int32} (hd : decode bytes pc = .ok (.istore_n j, 1)) (hq : pc + 1 = q) {l' : Array Slot} (hl : storeLocals ls j.val (.int x) = some l')
    (hr : Go W n0 Q h k n q l' st) : Go W n0 Q h k n pc ls (.int x :: st) := by
  subst hq
  exact Go.stepX (fun T L a b tg X eT kk => XS.istoreN X.here C.x rfl (hb C.b hd) rfl hl kk) hr
theorem Go.lstoreR (C : Cx Z W rm own nm bytes maxL ret) {j : Nat} {x : Int64} (hd : decode bytes pc = .ok (.lstore j, 2)) (hq : pc + 2 = q) {l' : Array Slot} (hl : storeLocals ls j (.long x) = some l')
    (hr : Go W n0 Q h k n q l' st) : Go W n0 Q h k n pc ls (.long x :: st) := by
  subst hq
  exact Go.stepX (fun T L a b tg X eT kk => XS.lstore X.here C.x rfl (hb C.b hd) rfl hl kk) hr
theorem Go.lstoreNR (C : Cx Z W rm own nm bytes maxL ret) {j : Fin 4} {x : Int64} (hd : decode bytes pc = .ok (.lstore_n j, 1)) (hq : pc + 1 = q) {l' : Array Slot} (hl : storeLocals ls j.val (.long x) = some l')
    (hr : Go W n0 Q h k n q l' st) : Go W n0 Q h k n pc ls (.long x :: st) := by
  subst hq
  exact Go.stepX (fun T L a b tg X eT kk => XS.lstoreN X.here C.x rfl (hb C.b hd) rfl hl kk) hr
theorem Go.iincR (C : Cx Z W rm own nm bytes maxL ret) {j : Nat} {cst : Int} {x : Int32} (hd : decode bytes pc = .ok (.iinc j cst, 3)) (hq : pc + 3 = q) (hl0 : ls[j]? = some (.val (.int x))) {l' : Array Slot} (hl : storeLocals ls j (.int (x + Int32.ofInt cst)) = some l')
    (hr : Go W n0 Q h k n q l' st) : Go W n0 Q h k n pc ls st := by
  subst hq
  exact Go.stepX (fun T L a b tg X eT kk => XS.iinc X.here C.x rfl (hb C.b hd) hl0 hl kk) hr
theorem Go.iinc (C : Cx Z W rm own nm bytes maxL ret) {j : Nat} {cst : Int} {x y : Int32} (hd : decode bytes pc = .ok (.iinc j cst, 3)) (hq : pc + 3 = q) (hl0 : ls[j]? = some (.val (.int x))) (hy : Int32.ofInt cst = y) (l' : Int32 → Array Slot) (hl : ∀ v, storeLocals ls j (.int v) = some (l' v))
    (hr : ∀ v, v = x + y → Go W n0 Q h k n q (l' v) st) : Go W n0 Q h k n pc ls st := by
  subst hq hy
  exact Go.stepX (fun T L a b tg X eT kk => XS.iinc X.here C.x rfl (hb C.b hd) hl0 (hl _) kk) (hr _ rfl)
theorem Go.iconst (C : Cx Z W rm own nm bytes maxL ret) {i : Int} (v : Int32) (hd : decode bytes pc = .ok (.iconst i, 1)) (hq : pc + 1 = q) (hv : Int32.ofInt i = v)
    (hr : Go W n0 Q h k n q ls (.int v :: st)) : Go W n0 Q h k n pc ls st := by
  subst hq hv
  exact Go.stepX (fun T L a b tg X eT kk => XS.iconst X.here C.x rfl (hb C.b hd) kk) hr
theorem Go.bipush (C : Cx Z W rm own nm bytes maxL ret) {i : Int} (v : Int32) (hd : decode bytes pc = .ok (.bipush i, 2)) (hq : pc + 2 = q) (hv : (Int8.ofInt i).toInt32 = v)
    (hr : Go W n0 Q h k n q ls (.int v :: st)) : Go W n0 Q h k n pc ls st := by
  subst hq hv
  exact Go.stepX (fun T L a b tg X eT kk => XS.bipush X.here C.x rfl (hb C.b hd) kk) hr
theorem Go.sipush (C : Cx Z W rm own nm bytes maxL ret) {i : Int} (v : Int32) (hd : decode bytes pc = .ok (.sipush i, 3)) (hq : pc + 3 = q) (hv : (Int16.ofInt i).toInt32 = v)
    (hr : Go W n0 Q h k n q ls (.int v :: st)) : Go W n0 Q h k n pc ls st := by
  subst hq hv
  exact Go.stepX (fun T L a b tg X eT kk => XS.sipush X.here C.x rfl (hb C.b hd) kk) hr
theorem Go.lconst (C : Cx Z W rm own nm bytes maxL ret) {i : Fin 2} (v : Int64) (hd : decode bytes pc = .ok (.lconst i, 1)) (hq : pc + 1 = q) (hv : Int64.ofNat i = v)
    (hr : Go W n0 Q h k n q ls (.long v :: st)) : Go W n0 Q h k n pc ls st := by
  subst hq hv
  exact Go.stepX (fun T L a b tg X eT kk => XS.lconst X.here C.x rfl (hb C.b hd) kk) hr
theorem Go.aconstNull (C : Cx Z W rm own nm bytes maxL ret)  (hd : decode bytes pc = .ok (.aconst_null, 1)) (hq : pc + 1 = q)
    (hr : Go W n0 Q h k n q ls (.null :: st)) : Go W n0 Q h k n pc ls st := by
  subst hq
  exact Go.stepX (fun T L a b tg X eT kk => XS.aconstNull X.here C.x rfl (hb C.b hd) kk) hr
theorem Go.ldcI (C : Cx Z W rm own nm bytes maxL ret) {index : Nat} {v : Int32} (w : (Jvm.Cond.constant own index v).before a0 Z = true) (hd : decode bytes pc = .ok (.ldc index, 2)) (hq : pc + 2 = q)
    (hr : Go W n0 Q h k n q ls (.int v :: st)) : Go W n0 Q h k n pc ls st := by
  subst hq
  exact Go.stepX (fun T L a b tg X eT kk => X.ldcInt C.x C.ow (mvT C.z w) (g := mkF W.m pc ls st) rfl (hb C.b hd) _ kk) hr
theorem Go.ldcwI (C : Cx Z W rm own nm bytes maxL ret) {index : Nat} {v : Int32} (w : (Jvm.Cond.constant own index v).before a0 Z = true) (hd : decode bytes pc = .ok (.ldc_w index, 3)) (hq : pc + 3 = q)
    (hr : Go W n0 Q h k n q ls (.int v :: st)) : Go W n0 Q h k n pc ls st := by
  subst hq
  exact Go.stepX (fun T L a b tg X eT kk => X.ldcwInt C.x C.ow (mvT C.z w) (g := mkF W.m pc ls st) rfl (hb C.b hd) _ kk) hr
theorem Go.ldc2J (C : Cx Z W rm own nm bytes maxL ret) {index : Nat} {v : Int64} (w : (Jvm.Cond.constantLong own index v).before a0 Z = true) (hd : decode bytes pc = .ok (.ldc2_w index, 3)) (hq : pc + 3 = q)
    (hr : Go W n0 Q h k n q ls (.long v :: st)) : Go W n0 Q h k n pc ls st := by
  subst hq
  exact Go.stepX (fun T L a b tg X eT kk => X.ldc2Long C.x C.ow (mvT C.z w) (g := mkF W.m pc ls st) rfl (hb C.b hd) _ kk) hr
theorem Go.iadd (C : Cx Z W rm own nm bytes maxL ret) {x y : Int32} (hd : decode bytes pc = .ok (.iadd, 1)) (hq : pc + 1 = q)
    (hr : Go W n0 Q h k n q ls (.int (x + y) :: st)) : Go W n0 Q h k n pc ls (.int y :: .int x :: st) := by
  subst hq
  exact Go.stepX (fun T L a b tg X eT kk => XS.iadd X.here C.x rfl (hb C.b hd) rfl kk) hr
theorem Go.ladd (C : Cx Z W rm own nm bytes maxL ret) {x y : Int64} (hd : decode bytes pc = .ok (.ladd, 1)) (hq : pc + 1 = q)
    (hr : Go W n0 Q h k n q ls (.long (x + y) :: st)) : Go W n0 Q h k n pc ls (.long y :: .long x :: st) := by
  subst hq
  exact Go.stepX (fun T L a b tg X eT kk => XS.ladd X.here C.x rfl (hb C.b hd) rfl kk) hr
theorem Go.isub (C : Cx Z W rm own nm bytes maxL ret) {x y : Int32} (hd : decode bytes pc = .ok (.isub, 1)) (hq : pc + 1 = q)
    (hr : Go W n0 Q h k n q ls (.int (x - y) :: st)) : Go W n0 Q h k n pc ls (.int y :: .int x :: st) := by
  subst hq
  exact Go.stepX (fun T L a b tg X eT kk => XS.isub X.here C.x rfl (hb C.b hd) rfl kk) hr
theorem Go.lsub (C : Cx Z W rm own nm bytes maxL ret) {x y : Int64} (hd : decode bytes pc = .ok (.lsub, 1)) (hq : pc + 1 = q)
    (hr : Go W n0 Q h k n q ls (.long (x - y) :: st)) : Go W n0 Q h k n pc ls (.long y :: .long x :: st) := by
  subst hq
  exact Go.stepX (fun T L a b tg X eT kk => XS.lsub X.here C.x rfl (hb C.b hd) rfl kk) hr
theorem Go.imul (C : Cx Z W rm own nm bytes maxL ret) {x y : Int32} (hd : decode bytes pc = .ok (.imul, 1)) (hq : pc + 1 = q)
    (hr : Go W n0 Q h k n q ls (.int (x * y) :: st)) : Go W n0 Q h k n pc ls (.int y :: .int x :: st) := by
  subst hq
  exact Go.stepX (fun T L a b tg X eT kk => XS.imul X.here C.x rfl (hb C.b hd) rfl kk) hr
theorem Go.lmul (C : Cx Z W rm own nm bytes maxL ret) {x y : Int64} (hd : decode bytes pc = .ok (.lmul, 1)) (hq : pc + 1 = q)
    (hr : Go W n0 Q h k n q ls (.long (x * y) :: st)) : Go W n0 Q h k n pc ls (.long y :: .long x :: st) := by
  subst hq
  exact Go.stepX (fun T L a b tg X eT kk => XS.lmul X.here C.x rfl (hb C.b hd) rfl kk) hr
theorem Go.iand (C : Cx Z W rm own nm bytes maxL ret) {x y : Int32} (hd : decode bytes pc = .ok (.iand, 1)) (hq : pc + 1 = q)
    (hr : Go W n0 Q h k n q ls (.int (x &&& y) :: st)) : Go W n0 Q h k n pc ls (.int y :: .int x :: st) := by
  subst hq
  exact Go.stepX (fun T L a b tg X eT kk => XS.iand X.here C.x rfl (hb C.b hd) rfl kk) hr
theorem Go.land (C : Cx Z W rm own nm bytes maxL ret) {x y : Int64} (hd : decode bytes pc = .ok (.land, 1)) (hq : pc + 1 = q)
    (hr : Go W n0 Q h k n q ls (.long (x &&& y) :: st)) : Go W n0 Q h k n pc ls (.long y :: .long x :: st) := by
  subst hq
  exact Go.stepX (fun T L a b tg X eT kk => XS.land X.here C.x rfl (hb C.b hd) rfl kk) hr
theorem Go.ior (C : Cx Z W rm own nm bytes maxL ret) {x y : Int32} (hd : decode bytes pc = .ok (.ior, 1)) (hq : pc + 1 = q)
    (hr : Go W n0 Q h k n q ls (.int (x ||| y) :: st)) : Go W n0 Q h k n pc ls (.int y :: .int x :: st) := by
  subst hq
  exact Go.stepX (fun T L a b tg X eT kk => XS.ior X.here C.x rfl (hb C.b hd) rfl kk) hr
theorem Go.lor (C : Cx Z W rm own nm bytes maxL ret) {x y : Int64} (hd : decode bytes pc = .ok (.lor, 1)) (hq : pc + 1 = q)
    (hr : Go W n0 Q h k n q ls (.long (x ||| y) :: st)) : Go W n0 Q h k n pc ls (.long y :: .long x :: st) := by
  subst hq
  exact Go.stepX (fun T L a b tg X eT kk => XS.lor X.here C.x rfl (hb C.b hd) rfl kk) hr
theorem Go.ixor (C : Cx Z W rm own nm bytes maxL ret) {x y : Int32} (hd : decode bytes pc = .ok (.ixor, 1)) (hq : pc + 1 = q)
    (hr : Go W n0 Q h k n q ls (.int (x ^^^ y) :: st)) : Go W n0 Q h k n pc ls (.int y :: .int x :: st) := by
  subst hq
  exact Go.stepX (fun T L a b tg X eT kk => XS.ixor X.here C.x rfl (hb C.b hd) rfl kk) hr
theorem Go.lxor (C : Cx Z W rm own nm bytes maxL ret) {x y : Int64} (hd : decode bytes pc = .ok (.lxor, 1)) (hq : pc + 1 = q)
    (hr : Go W n0 Q h k n q ls (.long (x ^^^ y) :: st)) : Go W n0 Q h k n pc ls (.long y :: .long x :: st) := by
  subst hq
  exact Go.stepX (fun T L a b tg X eT kk => XS.lxor X.here C.x rfl (hb C.b hd) rfl kk) hr
theorem Go.irem (C : Cx Z W rm own nm bytes maxL ret) {x y : Int32} (hd : decode bytes pc = .ok (.irem, 1)) (hq : pc + 1 = q) (hy : y ≠ 0)
    (hr : Go W n0 Q h k n q ls (.int (x % y) :: st)) : Go W n0 Q h k n pc ls (.int y :: .int x :: st) := by
  subst hq
  exact Go.stepX (fun T L a b tg X eT kk => iremM X C.x rfl (hb C.b hd) rfl hy kk) hr
theorem Go.idiv (C : Cx Z W rm own nm bytes maxL ret) {x y : Int32} (hd : decode bytes pc = .ok (.idiv, 1)) (hq : pc + 1 = q) (hy : y ≠ 0)
    (hr : Go W n0 Q h k n q ls (.int (x / y) :: st)) : Go W n0 Q h k n pc ls (.int y :: .int x :: st) := by
  subst hq
  exact Go.stepX (fun T L a b tg X eT kk => XS.idiv X.here C.x rfl (hb C.b hd) rfl hy kk) hr
theorem Go.lrem (C : Cx Z W rm own nm bytes maxL ret) {x y : Int64} (hd : decode bytes pc = .ok (.lrem, 1)) (hq : pc + 1 = q) (hy : y ≠ 0)
    (hr : Go W n0 Q h k n q ls (.long (x - (x / y) * y) :: st)) : Go W n0 Q h k n pc ls (.long y :: .long x :: st) := by
  subst hq
  exact Go.stepX (fun T L a b tg X eT kk => XS.lrem X.here C.x rfl (hb C.b hd) rfl hy kk) hr
theorem Go.ldiv (C : Cx Z W rm own nm bytes maxL ret) {x y : Int64} (hd : decode bytes pc = .ok (.ldiv, 1)) (hq : pc + 1 = q) (hy : y ≠ 0)
    (hr : Go W n0 Q h k n q ls (.long (x / y) :: st)) : Go W n0 Q h k n pc ls (.long y :: .long x :: st) := by
  subst hq
  exact Go.stepX (fun T L a b tg X eT kk => XS.ldiv X.here C.x rfl (hb C.b hd) rfl hy kk) hr
theorem Go.ineg (C : Cx Z W rm own nm bytes maxL ret) {x : Int32} (hd : decode bytes pc = .ok (.ineg, 1)) (hq : pc + 1 = q)
    (hr : Go W n0 Q h k n q ls (.int (-x) :: st)) : Go W n0 Q h k n pc ls (.int x :: st) := by
  subst hq
  exact Go.stepX (fun T L a b tg X eT kk => XS.ineg X.here C.x rfl (hb C.b hd) rfl kk) hr
theorem Go.lneg (C : Cx Z W rm own nm bytes maxL ret) {x : Int64} (hd : decode bytes pc = .ok (.lneg, 1)) (hq : pc + 1 = q)
    (hr : Go W n0 Q h k n q ls (.long (-x) :: st)) : Go W n0 Q h k n pc ls (.long x :: st) := by
  subst hq
  exact Go.stepX (fun T L a b tg X eT kk => XS.lneg X.here C.x rfl (hb C.b hd) rfl kk) hr
theorem Go.i2l (C : Cx Z W rm own nm bytes maxL ret) {x : Int32} (hd : decode bytes pc = .ok (.i2l, 1)) (hq : pc + 1 = q)
    (hr : Go W n0 Q h k n q ls (.long x.toInt64 :: st)) : Go W n0 Q h k n pc ls (.int x :: st) := by
  subst hq
  exact Go.stepX (fun T L a b tg X eT kk => XS.i2l X.here C.x rfl (hb C.b hd) rfl kk) hr
theorem Go.l2i (C : Cx Z W rm own nm bytes maxL ret) {x : Int64} (hd : decode bytes pc = .ok (.l2i, 1)) (hq : pc + 1 = q)
    (hr : Go W n0 Q h k n q ls (.int x.toInt32 :: st)) : Go W n0 Q h k n pc ls (.long x :: st) := by
  subst hq
  exact Go.stepX (fun T L a b tg X eT kk => XS.l2i X.here C.x rfl (hb C.b hd) rfl kk) hr
theorem Go.i2b (C : Cx Z W rm own nm bytes maxL ret) {x : Int32} (hd : decode bytes pc = .ok (.i2b, 1)) (hq : pc + 1 = q)
    (hr : Go W n0 Q h k n q ls (.int x.toInt8.toInt32 :: st)) : Go W n0 Q h k n pc ls (.int x :: st) := by
  subst hq
  exact Go.stepX (fun T L a b tg X eT kk => XS.i2b X.here C.x rfl (hb C.b hd) rfl kk) hr
theorem Go.i2s (C : Cx Z W rm own nm bytes maxL ret) {x : Int32} (hd : decode bytes pc = .ok (.i2s, 1)) (hq : pc + 1 = q)
    (hr : Go W n0 Q h k n q ls (.int x.toInt16.toInt32 :: st)) : Go W n0 Q h k n pc ls (.int x :: st) := by
  subst hq
  exact Go.stepX (fun T L a b tg X eT kk => XS.i2s X.here C.x rfl (hb C.b hd) rfl kk) hr
theorem Go.i2c (C : Cx Z W rm own nm bytes maxL ret) {x : Int32} (hd : decode bytes pc = .ok (.i2c, 1)) (hq : pc + 1 = q)
    (hr : Go W n0 Q h k n q ls (.int x.toUInt32.toUInt16.toUInt32.toInt32 :: st)) : Go W n0 Q h k n pc ls (.int x :: st) := by
  subst hq
  exact Go.stepX (fun T L a b tg X eT kk => XS.i2c X.here C.x rfl (hb C.b hd) rfl kk) hr
theorem Go.ishl (C : Cx Z W rm own nm bytes maxL ret) {x : Int32} {y : Int32} (hd : decode bytes pc = .ok (.ishl, 1)) (hq : pc + 1 = q)
    (hr : Go W n0 Q h k n q ls (.int (x <<< (y &&& 31)) :: st)) : Go W n0 Q h k n pc ls (.int y :: .int x :: st) := by
  subst hq
  exact Go.stepX (fun T L a b tg X eT kk => XS.ishl X.here C.x rfl (hb C.b hd) rfl kk) hr
theorem Go.ishr (C : Cx Z W rm own nm bytes maxL ret) {x : Int32} {y : Int32} (hd : decode bytes pc = .ok (.ishr, 1)) (hq : pc + 1 = q)
    (hr : Go W n0 Q h k n q ls (.int (x >>> (y &&& 31)) :: st)) : Go W n0 Q h k n pc ls (.int y :: .int x :: st) := by
  subst hq
  exact Go.stepX (fun T L a b tg X eT kk => XS.ishr X.here C.x rfl (hb C.b hd) rfl kk) hr
theorem Go.iushr (C : Cx Z W rm own nm bytes maxL ret) {x : Int32} {y : Int32} (hd : decode bytes pc = .ok (.iushr, 1)) (hq : pc + 1 = q)
    (hr : Go W n0 Q h k n q ls (.int ((x.toUInt32 >>> (y &&& 31).toUInt32).toInt32) :: st)) : Go W n0 Q h k n pc ls (.int y :: .int x :: st) := by
  subst hq
  exact Go.stepX (fun T L a b tg X eT kk => XS.iushr X.here C.x rfl (hb C.b hd) rfl kk) hr
theorem Go.lshl (C : Cx Z W rm own nm bytes maxL ret) {x : Int64} {y : Int32} (hd : decode bytes pc = .ok (.lshl, 1)) (hq : pc + 1 = q)
    (hr : Go W n0 Q h k n q ls (.long (x <<< (y &&& 0x3f).toInt64) :: st)) : Go W n0 Q h k n pc ls (.int y :: .long x :: st) := by
  subst hq
  exact Go.stepX (fun T L a b tg X eT kk => XS.lshl X.here C.x rfl (hb C.b hd) rfl kk) hr
theorem Go.lshr (C : Cx Z W rm own nm bytes maxL ret) {x : Int64} {y : Int32} (hd : decode bytes pc = .ok (.lshr, 1)) (hq : pc + 1 = q)
    (hr : Go W n0 Q h k n q ls (.long (x >>> (y &&& 0x3f).toInt64) :: st)) : Go W n0 Q h k n pc ls (.int y :: .long x :: st) := by
  subst hq
  exact Go.stepX (fun T L a b tg X eT kk => XS.lshr X.here C.x rfl (hb C.b hd) rfl kk) hr
theorem Go.lushr (C : Cx Z W rm own nm bytes maxL ret) {x : Int64} {y : Int32} (hd : decode bytes pc = .ok (.lushr, 1)) (hq : pc + 1 = q)
    (hr : Go W n0 Q h k n q ls (.long ((x.toUInt64 >>> (y &&& 0x3f).toInt64.toUInt64).toInt64) :: st)) : Go W n0 Q h k n pc ls (.int y :: .long x :: st) := by
  subst hq
  exact Go.stepX (fun T L a b tg X eT kk => XS.lushr X.here C.x rfl (hb C.b hd) rfl kk) hr
theorem Go.lcmp (C : Cx Z W rm own nm bytes maxL ret) {x y : Int64} (hd : decode bytes pc = .ok (.lcmp, 1)) (hq : pc + 1 = q)
    (hr : Go W n0 Q h k n q ls (.int (lcmpW x y) :: st)) : Go W n0 Q h k n pc ls (.long y :: .long x :: st) := by
  subst hq
  exact Go.stepX (fun T L a b tg X eT kk => XS.lcmp X.here C.x rfl (hb C.b hd) rfl kk) hr
theorem Go.pop (C : Cx Z W rm own nm bytes maxL ret) {x : Value} (hd : decode bytes pc = .ok (.pop, 1)) (hq : pc + 1 = q) (hc : x.category = 1)
    (hr : Go W n0 Q h k n q ls st) : Go W n0 Q h k n pc ls (x :: st) := by
  subst hq
  exact Go.stepX (fun T L a b tg X eT kk => XS.pop X.here C.x rfl (hb C.b hd) rfl hc kk) hr
theorem Go.dup (C : Cx Z W rm own nm bytes maxL ret) {x : Value} (hd : decode bytes pc = .ok (.dup, 1)) (hq : pc + 1 = q) (hc : x.category = 1)
    (hr : Go W n0 Q h k n q ls (x :: x :: st)) : Go W n0 Q h k n pc ls (x :: st) := by
  subst hq
  exact Go.stepX (fun T L a b tg X eT kk => XS.dup X.here C.x rfl (hb C.b hd) rfl hc kk) hr
theorem Go.dup2 (C : Cx Z W rm own nm bytes maxL ret) {x y : Value} (hd : decode bytes pc = .ok (.dup2, 1)) (hq : pc + 1 = q) (hc : x.category = 1) (hc' : y.category = 1)
    (hr : Go W n0 Q h k n q ls (x :: y :: x :: y :: st)) : Go W n0 Q h k n pc ls (x :: y :: st) := by
  subst hq
  exact Go.stepX (fun T L a b tg X eT kk => XT.dup2 X.here C.x rfl (hb C.b hd) rfl hc hc' kk) hr
theorem Go.goto (C : Cx Z W rm own nm bytes maxL ret) {o : Int} (hd : decode bytes pc = .ok (.goto o, 3)) (ho : 0 ≤ (pc : Int) + o) (hp : ((pc : Int) + o).toNat = q)
    (hr : Go W n0 Q h k n q ls st) : Go W n0 Q h k n pc ls st :=
  Go.stepX (fun T L a b tg X eT kk => XS.goto X.here C.x rfl (pc0 := pc) rfl (hb C.b hd) ho hp kk) hr
theorem Go.icmp (C : Cx Z W rm own nm bytes maxL ret) {cd : ClassFile.Cond} {o : Int} {x y : Int32} {qt : Nat} {P : Prop} [Decidable P] (hd : decode bytes pc = .ok (.if_icmp cd o, 3)) (hP : if_icmp.holds cd x y = decide P) (ho : 0 ≤ (pc : Int) + o) (hp : ((pc : Int) + o).toNat = qt) (hq : pc + 3 = q)
    (ht : P → Go W n0 Q h k n qt ls st) (hf : ¬ P → Go W n0 Q h k n q ls st) : Go W n0 Q h k n pc ls (.int y :: .int x :: st) := by
  subst hq
  by_cases p : P
  · exact Go.stepX (fun T L a b tg X eT kk => XS.icmpYes X.here C.x rfl (pc0 := pc) rfl (hb C.b hd) rfl (hP.trans (decide_eq_true p)) ho hp kk) (ht p)
  · exact Go.stepX (fun T L a b tg X eT kk => XS.icmpNo X.here C.x rfl (hb C.b hd) rfl (hP.trans (decide_eq_false p)) kk) (hf p)
theorem Go.if0 (C : Cx Z W rm own nm bytes maxL ret) {cd : ClassFile.Cond} {o : Int} {x : Int32} {qt : Nat} {P : Prop} [Decidable P] (hd : decode bytes pc = .ok (.ifCond cd o, 3)) (hP : ifCond.holds cd x = decide P) (ho : 0 ≤ (pc : Int) + o) (hp : ((pc : Int) + o).toNat = qt) (hq : pc + 3 = q)
    (ht : P → Go W n0 Q h k n qt ls st) (hf : ¬ P → Go W n0 Q h k n q ls st) : Go W n0 Q h k n pc ls (.int x :: st) := by
  subst hq
  by_cases p : P
  · exact Go.stepX (fun T L a b tg X eT kk => XS.ifYes X.here C.x rfl (pc0 := pc) rfl (hb C.b hd) rfl (hP.trans (decide_eq_true p)) ho hp kk) (ht p)
  · exact Go.stepX (fun T L a b tg X eT kk => XS.ifNo X.here C.x rfl (hb C.b hd) rfl (hP.trans (decide_eq_false p)) kk) (hf p)
theorem Go.ifnullY (C : Cx Z W rm own nm bytes maxL ret) {o : Int} (hd : decode bytes pc = .ok (.ifnull o, 3)) (ho : 0 ≤ (pc : Int) + o) (hp : ((pc : Int) + o).toNat = q)
    (hr : Go W n0 Q h k n q ls st) : Go W n0 Q h k n pc ls (.null :: st) :=
  Go.stepX (fun T L a b tg X eT kk => XS.ifnullYes X.here C.x rfl (pc0 := pc) rfl (hb C.b hd) rfl ho hp kk) hr
theorem Go.ifnullN (C : Cx Z W rm own nm bytes maxL ret) {o : Int} {a : Addr} (hd : decode bytes pc = .ok (.ifnull o, 3)) (hq : pc + 3 = q)
    (hr : Go W n0 Q h k n q ls st) : Go W n0 Q h k n pc ls (.ref a :: st) := by
  subst hq
  exact Go.stepX (fun T L a b tg X eT kk => XS.ifnullNo X.here C.x rfl (hb C.b hd) rfl kk) hr
theorem Go.ifnonnullY (C : Cx Z W rm own nm bytes maxL ret) {o : Int} {a : Addr} (hd : decode bytes pc = .ok (.ifnonnull o, 3)) (ho : 0 ≤ (pc : Int) + o) (hp : ((pc : Int) + o).toNat = q)
    (hr : Go W n0 Q h k n q ls st) : Go W n0 Q h k n pc ls (.ref a :: st) :=
  Go.stepX (fun T L a b tg X eT kk => XS.ifnonnullYes X.here C.x rfl (pc0 := pc) rfl (hb C.b hd) rfl ho hp kk) hr
theorem Go.ifnonnullN (C : Cx Z W rm own nm bytes maxL ret) {o : Int} (hd : decode bytes pc = .ok (.ifnonnull o, 3)) (hq : pc + 3 = q)
    (hr : Go W n0 Q h k n q ls st) : Go W n0 Q h k n pc ls (.null :: st) := by
  subst hq
  exact Go.stepX (fun T L a b tg X eT kk => XS.ifnonnullNo X.here C.x rfl (hb C.b hd) rfl kk) hr
theorem Go.acmp (C : Cx Z W rm own nm bytes maxL ret) {cd : ACond} {o : Int} {x y : Value} {same : Bool} (hd : decode bytes pc = .ok (.if_acmp cd o, 3)) (h1 : x.isRef = true) (h2 : y.isRef = true) (hs : decide (x = y) = same) (ho : 0 ≤ (pc : Int) + o) (hp : q = if acV cd same = true then ((pc : Int) + o).toNat else pc + 3)
    (hr : Go W n0 Q h k n q ls st) : Go W n0 Q h k n pc ls (y :: x :: st) :=
  Go.stepX (fun T L a b tg X eT kk => Jvm.RoadKit.acmp X C.x rfl h1 h2 (pc0 := pc) rfl (hb C.b hd) rfl hs ho hp kk) hr
theorem n_lt (x y : Int32) : if_icmp.holds .lt x y = decide (x < y) := rfl
theorem n_ge (x y : Int32) : if_icmp.holds .ge x y = decide (¬ x < y) := by simp [if_icmp.holds, Int32.not_lt]
theorem n_gt (x y : Int32) : if_icmp.holds .gt x y = decide (y < x) := rfl
theorem n_le (x y : Int32) : if_icmp.holds .le x y = decide (¬ y < x) := by simp [if_icmp.holds, Int32.not_lt]
theorem n_eq (x y : Int32) : if_icmp.holds .eq x y = decide (x = y) := by by_cases e : x = y <;> simp [if_icmp.holds, e]
theorem n_ne (x y : Int32) : if_icmp.holds .ne x y = decide (¬ x = y) := by by_cases e : x = y <;> simp [if_icmp.holds, e]
theorem z_lt (x : Int32) : ifCond.holds .lt x = decide (x < 0) := (if0 _ x).trans (n_lt x 0)
theorem z_ge (x : Int32) : ifCond.holds .ge x = decide (¬ x < 0) := (if0 _ x).trans (n_ge x 0)
theorem z_gt (x : Int32) : ifCond.holds .gt x = decide (0 < x) := (if0 _ x).trans (n_gt x 0)
theorem z_le (x : Int32) : ifCond.holds .le x = decide (¬ 0 < x) := (if0 _ x).trans (n_le x 0)
theorem z_eq (x : Int32) : ifCond.holds .eq x = decide (x = 0) := (if0 _ x).trans (n_eq x 0)
theorem z_ne (x : Int32) : ifCond.holds .ne x = decide (¬ x = 0) := (if0 _ x).trans (n_ne x 0)
theorem l_lt (x y : Int64) : ifCond.holds .lt (lcmpW x y) = decide (x < y) := by rw [z_lt]; exact decide_eq_decide.mpr (lw_lt x y)
theorem l_ge (x y : Int64) : ifCond.holds .ge (lcmpW x y) = decide (¬ x < y) := by rw [z_ge]; exact decide_eq_decide.mpr (not_congr (lw_lt x y))
theorem l_gt (x y : Int64) : ifCond.holds .gt (lcmpW x y) = decide (y < x) := by rw [z_gt]; exact decide_eq_decide.mpr (lw_gt x y)
theorem l_le (x y : Int64) : ifCond.holds .le (lcmpW x y) = decide (¬ y < x) := by rw [z_le]; exact decide_eq_decide.mpr (not_congr (lw_gt x y))
theorem l_eq (x y : Int64) : ifCond.holds .eq (lcmpW x y) = decide (x = y) := by rw [z_eq]; exact decide_eq_decide.mpr (lw_eq x y)
theorem l_ne (x y : Int64) : ifCond.holds .ne (lcmpW x y) = decide (¬ x = y) := by rw [z_ne]; exact decide_eq_decide.mpr (not_congr (lw_eq x y))
theorem nar_b (x : Int32) : nar .byte x.toInt8.toInt32 = x.toInt8.toInt32 := by
  show x.toInt8.toInt32.toInt8.toInt32 = _
  simp
/-- what the law's own walk leaves -/
def QL : Option Value → Heap → Prop := fun v _ => v = some (.int 1)
/-! the ends -/
theorem Go.out {v : Option Value} (f : ∀ T L a b fs, St W T L a b → (∀ (g : JFrame) (acts : List Action), g.method = W.m → g.locked = none → g.entered = [] → (doReturn W.e (T.setTop g) acts v).1 = T.setFrames fs) → Sp W (T.setTop (mkF W.m pc ls st)) (T.setFrames fs)) (hv : W.meth.sig.returnType = none → v = none) (hlk : W.meth.locks = false) (hk : k ≤ W.R.cells) (hn : n ≤ W.R.slots) (hQ : Q v h) : Go W n0 Q h k n pc ls st := by
  intro T L a b X ha hb N eT
  obtain ⟨fs, hr, hrun, hended, hW, hsame⟩ := X.leave (v := v) hv hlk
  refine ⟨_, _, f T L a b fs X hr, hrun, hended, v, L, rfl, ⟨N, ?_⟩, ⟨_, rfl⟩, hW, hsame.mono (Nat.le_trans ha hk) (Nat.le_trans hb hn)⟩
  have e1 : (T.setFrames fs).heap = T.heap := rfl
  rw [e1, eT]
  exact hQ
theorem Go.retI (C : Cx Z W rm own nm bytes maxL (some .int)) {x : Int32} (hd : decode bytes pc = .ok (.ireturn, 1)) (hk : k ≤ rm.cells) (hn : n ≤ rm.slots) (hQ : Q (some (.int x)) h) : Go W n0 Q h k n pc ls (.int x :: st) :=
  Go.out (v := some (.int x)) (fun T L a b fs X hr => Jvm.RoadKit.retI X C.x C.re (hb C.b hd) hr) (fun e => by rw [C.re] at e; cases e) C.lk (by rw [C.ro]; exact hk) (by rw [C.ro]; exact hn) hQ
theorem Go.retZ {t : FieldType} (ht : t = .boolean ∨ t = .byte ∨ t = .char ∨ t = .short) (C : Cx Z W rm own nm bytes maxL (some t)) {x : Int32} (hd : decode bytes pc = .ok (.ireturn, 1)) (hk : k ≤ rm.cells) (hn : n ≤ rm.slots) (hQ : Q (some (.int (nar t x))) h) : Go W n0 Q h k n pc ls (.int x :: st) :=
  Go.out (v := some (.int (nar t x))) (fun T L a b fs X hr => retN X C.x (t := t) C.re ht (hb C.b hd) hr) (fun e => by rw [C.re] at e; cases e) C.lk (by rw [C.ro]; exact hk) (by rw [C.ro]; exact hn) hQ
theorem Go.retV (C : Cx Z W rm own nm bytes maxL none) (hd : decode bytes pc = .ok (.return_, 1)) (hk : k ≤ rm.cells) (hn : n ≤ rm.slots) (hQ : Q none h) : Go W n0 Q h k n pc ls [] :=
  Go.out (v := none) (fun T L a b fs X hr => X.returnOut C.x C.re (hb C.b hd) hr) (fun _ => rfl) C.lk (by rw [C.ro]; exact hk) (by rw [C.ro]; exact hn) hQ
theorem Go.retJ (C : Cx Z W rm own nm bytes maxL (some .long)) {x : Int64} (hd : decode bytes pc = .ok (.lreturn, 1)) (hk : k ≤ rm.cells) (hn : n ≤ rm.slots) (hQ : Q (some (.long x)) h) : Go W n0 Q h k n pc ls [.long x] :=
  Go.out (v := some (.long x)) (fun T L a b fs X hr => Stand.lreturnOut X C.x C.re (hb C.b hd) hr) (fun e => by rw [C.re] at e; cases e) C.lk (by rw [C.ro]; exact hk) (by rw [C.ro]; exact hn) hQ
theorem Go.retR {t : FieldType} (C : Cx Z W rm own nm bytes maxL (some t)) {v : Value} (hd : decode bytes pc = .ok (.areturn, 1)) (ht : t.isReference = true) (hv : v.isRef = true) (hnw : narrow t v = v) (hk : k ≤ rm.cells) (hn : n ≤ rm.slots) (hQ : Q (some v) h) : Go W n0 Q h k n pc ls (v :: st) :=
  Go.out (v := some v) (fun T L a b fs X hr => retOut X C.x (t := t) (i := .areturn) C.re hnw (Or.inr (Or.inr (Or.inr (Or.inr ⟨rfl, ht, hv⟩)))) (hb C.b hd) hr) (fun e => by rw [C.re] at e; cases e) C.lk (by rw [C.ro]; exact hk) (by rw [C.ro]; exact hn) hQ
/-! the calls -/
theorem met_weak {l : Launch} {y : MethodName} {as : Array Value} {Q' : Option Value → Heap → Prop} (M : Met1 l Z y bytes maxL ret [] rm as h n0 Q) (hQ : ∀ v h', Q v h' → Q' v h') : Met1 l Z y bytes maxL ret [] rm as h n0 Q' := by
  intro p e ha hc hk s m args below hf happ hP hK
  obtain ⟨n, o, h1, h2, h3, v, L, h4, ⟨h5, h6⟩, h7⟩ := M p e ha hc hk s m args below hf happ hP hK
  exact ⟨n, o, h1, h2, h3, v, L, h4, ⟨h5, hQ _ _ h6⟩, h7⟩
theorem Go.callS (C : Cx Z W rm own nm bytes maxL ret) {index : Nat} {y : MethodName} {bytes' : ByteArray} {maxL' : Nat} {ret' : Option FieldType} {rm' : Room} {argsL : List Value} {Q' : Option Value → Heap → Prop} {ps : List FieldType} {rt : Option FieldType} {stk : List Value} {k' n' w : Nat}
    (wl : (Jvm.Cond.methodLink own index y).before a0 Z = true) (wst : (Jvm.Cond.static y).before a0 Z = true) (wi : (Jvm.Cond.initialized y.cls).before a0 Z = true) (wc : (Jvm.Cond.code y bytes' maxL' ret').before a0 Z = true)
    (M : Met1 W.l Z y bytes' maxL' ret' [] rm' argsL.toArray h n0 Q') (hd : decode bytes pc = .ok (.invokestatic index, 3)) (hpd : parseMethodDescriptor y.desc = some ⟨ps, rt⟩) (hq : pc + 3 = q) (hls : ls.size = maxL) (hstk : stk = argsL.reverse ++ st) (hlen : argsL.length = ps.length)
    (hw : (st.map fun v => v.category).sum = w) (hfr : rm'.frames + 1 ≤ rm.frames) (hlo : w + (maxL' + 11) + rm'.locals ≤ rm.locals) (hk : k + rm'.cells = k') (hn : n + rm'.slots = n') (hk' : k' ≤ rm.cells) (hn' : n' ≤ rm.slots)
    (hr : ∀ v h', Q' v h' → Go W n0 Q h' k' n' q ls (v.toList ++ st)) (hy : y.cls ≠ "java/lang/invoke/MethodHandle" ∧ y.cls ≠ "java/lang/invoke/VarHandle" := by decide) : Go W n0 Q h k n pc ls stk := by
  subst hstk hq hk hn hw
  intro T L a b X ha hb' N eT
  have e1 := C.ro
  obtain ⟨v, _, ⟨T2, L2, k2, n2⟩, -, X2, ⟨Lc, ⟨N2, hQ2⟩, l2, y2, z2⟩, sp⟩ := Jvm.LawKit.callS X C.x (y := y) C.ow (mvT C.z wl) (mvT C.z wst) (mvT C.z wi) (mvT C.z wc) hy
    (backOf (W := (st.map fun v => v.category).sum) (Q := fun v h L => Fr n0 L ∧ Q' v h) M C.z wc wi (by rw [e1]; exact hfr) (by rw [e1]; exact hlo)) (g := mkF W.m pc ls (argsL.reverse ++ st)) rfl (by rw [C.ml]; exact hls) (argsL := argsL) (rest := st) (lenOf hpd hlen) rfl (by show 2 * 0 + (st.map fun v => v.category).sum ≤ (st.map fun v => v.category).sum; omega) (hb C.b hd) (fun _ _ => ⟨rfl, eT, by rw [e1]; show a + _ ≤ _; omega, by rw [e1]; show b + _ ≤ _; omega⟩)
  dsimp only [Pt.U, Pt.locs, Pt.cells, Pt.slots] at X2 l2 y2 z2 sp hQ2
  subst l2 y2 z2
  obtain ⟨s₂, o, hs, r⟩ := hr v _ hQ2 T2 _ _ _ X2 (by omega) (by omega) (Fr.app N N2) rfl
  exact ⟨s₂, o, sp _ hs, r⟩
/-- what a callee that changes nothing leaves -/
def Ret (w : Value) (h : Heap) : Option Value → Heap → Prop := fun v h' => v = some w ∧ h' = h
theorem Go.pureS (C : Cx Z W rm own nm bytes maxL ret) {index : Nat} {y : MethodName} {bytes' : ByteArray} {maxL' : Nat} {ret' : Option FieldType} {fr lo : Nat} {argsL : List Value} {res : Value} {ps : List FieldType} {rt : Option FieldType} {stk : List Value} {w : Nat}
    (wl : (Jvm.Cond.methodLink own index y).before a0 Z = true) (wst : (Jvm.Cond.static y).before a0 Z = true) (wi : (Jvm.Cond.initialized y.cls).before a0 Z = true) (wc : (Jvm.Cond.code y bytes' maxL' ret').before a0 Z = true)
    (M : Met1 W.l Z y bytes' maxL' ret' [] ({ frames := fr, cells := 0, slots := 0, locals := lo } : Room) argsL.toArray h n0 (Ret res h)) (hd : decode bytes pc = .ok (.invokestatic index, 3)) (hpd : parseMethodDescriptor y.desc = some ⟨ps, rt⟩) (hq : pc + 3 = q) (hls : ls.size = maxL) (hstk : stk = argsL.reverse ++ st) (hlen : argsL.length = ps.length)
    (hw : (st.map fun v => v.category).sum = w) (hfr : fr + 1 ≤ rm.frames) (hlo : w + (maxL' + 11) + lo ≤ rm.locals) (hk' : k ≤ rm.cells) (hn' : n ≤ rm.slots)
    (hr : Go W n0 Q h k n q ls (res :: st)) (hy : y.cls ≠ "java/lang/invoke/MethodHandle" ∧ y.cls ≠ "java/lang/invoke/VarHandle" := by decide) : Go W n0 Q h k n pc ls stk :=
  Go.callS C wl wst wi wc M hd hpd hq hls hstk hlen hw hfr hlo rfl rfl hk' hn' (fun v h' q => by obtain ⟨rfl, rfl⟩ := q; exact hr) hy
theorem Go.callC (C : Cx Z W rm own nm bytes maxL ret) {index : Nat} {y : MethodName} {bytes' : ByteArray} {maxL' : Nat} {rm' : Room} {argsL : List Value} {Q' : Option Value → Heap → Prop} {ps : List FieldType} {rt : Option FieldType} {stk : List Value} {k' n' w : Nat} {a : Addr}
    (hy1 : y.name = "<init>") (wl : (Jvm.Cond.methodLink own index y).before a0 Z = true) (wst : (Jvm.Cond.instanceMethod y).before a0 Z = true) (wi : (Jvm.Cond.initialized y.cls).before a0 Z = true) (wc : (Jvm.Cond.code y bytes' maxL' none).before a0 Z = true)
    (M : Met1 W.l Z y bytes' maxL' none [] rm' (.ref a :: argsL).toArray h n0 Q') (hd : decode bytes pc = .ok (.invokespecial index, 3)) (hpd : parseMethodDescriptor y.desc = some ⟨ps, rt⟩) (hq : pc + 3 = q) (hls : ls.size = maxL) (hstk : stk = argsL.reverse ++ .ref a :: st) (hlen : argsL.length = ps.length)
    (hw : (st.map fun v => v.category).sum = w) (hfr : rm'.frames + 1 ≤ rm.frames) (hlo : w + (maxL' + 11) + rm'.locals ≤ rm.locals) (hk : k + rm'.cells = k') (hn : n + rm'.slots = n') (hk' : k' ≤ rm.cells) (hn' : n' ≤ rm.slots)
    (hr : ∀ v h', Q' v h' → Go W n0 Q h' k' n' q ls (v.toList ++ st)) (hy : y.cls ≠ "java/lang/invoke/MethodHandle" ∧ y.cls ≠ "java/lang/invoke/VarHandle" := by decide) : Go W n0 Q h k n pc ls stk := by
  subst hstk hq hk hn hw
  intro T L i j X ha hb' N eT
  have e1 := C.ro
  obtain ⟨v, _, ⟨T2, L2, k2, n2⟩, -, X2, ⟨Lc, ⟨N2, hQ2⟩, l2, y2, z2⟩, sp⟩ := X.specialBack C.x (y := y) hy1 C.ow (mvT C.z wl) (mvT C.z wst) (mvT C.z wc) hy
    (backOf (W := (st.map fun v => v.category).sum) (Q := fun v h L => Fr n0 L ∧ Q' v h) M C.z wc wi (by rw [e1]; exact hfr) (by rw [e1]; exact hlo)) (g := mkF W.m pc ls (argsL.reverse ++ .ref a :: st)) rfl (by rw [C.ml]; exact hls) (Steps.refl _) (a := a) (argsL := argsL) (rest := st) (lenOf hpd hlen) rfl (by show 2 * 0 + (st.map fun v => v.category).sum ≤ (st.map fun v => v.category).sum; omega) (hb C.b hd) (fun _ _ => ⟨rfl, eT, by rw [e1]; show i + _ ≤ _; omega, by rw [e1]; show j + _ ≤ _; omega⟩)
  dsimp only [Pt.U, Pt.locs, Pt.cells, Pt.slots] at X2 l2 y2 z2 sp hQ2
  subst l2 y2 z2
  obtain ⟨s₂, o, hs, r⟩ := hr v _ hQ2 T2 _ _ _ X2 (by omega) (by omega) (Fr.app N N2) rfl
  exact ⟨s₂, o, sp.trans hs, r⟩
theorem Go.callV (C : Cx Z W rm own nm bytes maxL ret) {index : Nat} {y z : MethodName} {K : String} {bytes' : ByteArray} {maxL' : Nat} {ret' : Option FieldType} {rm' : Room} {argsL : List Value} {Q' : Option Value → Heap → Prop} {ps : List FieldType} {rt : Option FieldType} {stk : List Value} {k' n' w : Nat} {a : Addr}
    (E : Exa Z h a K) (wl : (Jvm.Cond.methodLink own index y).before a0 Z = true) (wdc : (Jvm.Cond.declares y).before a0 Z = true) (hnf : NotFace W.s y) (wse : (Jvm.Cond.selects K y z).before a0 Z = true) (wst : (Jvm.Cond.instanceMethod z).before a0 Z = true) (wi : (Jvm.Cond.initialized z.cls).before a0 Z = true) (wc : (Jvm.Cond.code z bytes' maxL' ret').before a0 Z = true)
    (M : Met1 W.l Z z bytes' maxL' ret' [] rm' (.ref a :: argsL).toArray h n0 Q') (hd : decode bytes pc = .ok (.invokevirtual index, 3)) (hpd : parseMethodDescriptor y.desc = some ⟨ps, rt⟩) (hq : pc + 3 = q) (hls : ls.size = maxL) (hstk : stk = argsL.reverse ++ .ref a :: st) (hlen : argsL.length = ps.length)
    (hw : (st.map fun v => v.category).sum = w) (hfr : rm'.frames + 1 ≤ rm.frames) (hlo : w + (maxL' + 11) + rm'.locals ≤ rm.locals) (hk : k + rm'.cells = k') (hn : n + rm'.slots = n') (hk' : k' ≤ rm.cells) (hn' : n' ≤ rm.slots)
    (hr : ∀ v h', Q' v h' → Go W n0 Q h' k' n' q ls (v.toList ++ st)) (hy : y.cls ≠ "java/lang/invoke/MethodHandle" ∧ y.cls ≠ "java/lang/invoke/VarHandle" := by decide) : Go W n0 Q h k n pc ls stk := by
  subst hstk hq hk hn hw
  intro T L i j X ha hb' N eT
  have e1 := C.ro
  obtain ⟨cq, kq, qa, qb, qc⟩ := isOf (s := W.s) C.z eT E
  obtain ⟨v, _, ⟨T2, L2, k2, n2⟩, -, X2, ⟨Lc, ⟨N2, hQ2⟩, l2, y2, z2⟩, sp⟩ := X.virtualBack C.x (y := y) (z := z) C.ow (mvT C.z wl) (mvT C.z wdc) hnf (mvT C.z wse) (mvT C.z wst) hy
    (backOf (W := (st.map fun v => v.category).sum) (Q := fun v h L => Fr n0 L ∧ Q' v h) M C.z wc wi (by rw [e1]; exact hfr) (by rw [e1]; exact hlo)) qa qc (g := mkF W.m pc ls (argsL.reverse ++ .ref a :: st)) rfl (by rw [C.ml]; exact hls) (Steps.refl _) (argsL := argsL) (rest := st) (lenOf hpd hlen) rfl (by show 2 * 0 + (st.map fun v => v.category).sum ≤ (st.map fun v => v.category).sum; omega) (hb C.b hd) (fun _ _ => ⟨rfl, eT, by rw [e1]; show i + _ ≤ _; omega, by rw [e1]; show j + _ ≤ _; omega⟩)
  dsimp only [Pt.U, Pt.locs, Pt.cells, Pt.slots] at X2 l2 y2 z2 sp hQ2
  subst l2 y2 z2
  obtain ⟨s₂, o, hs, r⟩ := hr v _ hQ2 T2 _ _ _ X2 (by omega) (by omega) (Fr.app N N2) rfl
  exact ⟨s₂, o, sp.trans hs, r⟩
theorem Go.pureV (C : Cx Z W rm own nm bytes maxL ret) {index : Nat} {y : MethodName} {K : String} {bytes' : ByteArray} {maxL' : Nat} {ret' : Option FieldType} {fr lo : Nat} {argsL : List Value} {res : Value} {ps : List FieldType} {rt : Option FieldType} {stk : List Value} {w : Nat} {a : Addr}
    (E : Exa Z h a K) (wl : (Jvm.Cond.methodLink own index y).before a0 Z = true) (wdc : (Jvm.Cond.declares y).before a0 Z = true) (wse : (Jvm.Cond.selects K y y).before a0 Z = true) (wst : (Jvm.Cond.instanceMethod y).before a0 Z = true) (wi : (Jvm.Cond.initialized y.cls).before a0 Z = true) (wc : (Jvm.Cond.code y bytes' maxL' ret').before a0 Z = true)
    (M : Met1 W.l Z y bytes' maxL' ret' [] ({ frames := fr, cells := 0, slots := 0, locals := lo } : Room) (.ref a :: argsL).toArray h n0 (Ret res h)) (hd : decode bytes pc = .ok (.invokevirtual index, 3)) (hpd : parseMethodDescriptor y.desc = some ⟨ps, rt⟩) (hq : pc + 3 = q) (hls : ls.size = maxL) (hstk : stk = argsL.reverse ++ .ref a :: st) (hlen : argsL.length = ps.length)
    (hw : (st.map fun v => v.category).sum = w) (hfr : fr + 1 ≤ rm.frames) (hlo : w + (maxL' + 11) + lo ≤ rm.locals) (hk' : k ≤ rm.cells) (hn' : n ≤ rm.slots)
    (hr : Go W n0 Q h k n q ls (res :: st)) (hy : y.cls ≠ "java/lang/invoke/MethodHandle" ∧ y.cls ≠ "java/lang/invoke/VarHandle" := by decide) : Go W n0 Q h k n pc ls stk :=
  Go.callV C E wl wdc (notFace_of_selects (args := #[]) (mvT C.z wse)) wse wst wi wc M hd hpd hq hls hstk hlen hw hfr hlo rfl rfl hk' hn' (fun v h' q => by obtain ⟨rfl, rfl⟩ := q; exact hr) hy
/-- a private method, by invokevirtual; zz: any method of its class of which the sheet says what it selects (so the class is no interface) -/
theorem Go.callP (C : Cx Z W rm own nm bytes maxL ret) {index : Nat} {y zz : MethodName} {K KK : String} {bytes' : ByteArray} {maxL' : Nat} {ret' : Option FieldType} {rm' : Room} {argsL : List Value} {Q' : Option Value → Heap → Prop} {ps : List FieldType} {rt : Option FieldType} {stk : List Value} {k' n' w : Nat} {a : Addr}
    (E : Exa Z h a K) (wl : (Jvm.Cond.methodLink own index y).before a0 Z = true) (wse : (Jvm.Cond.selects KK zz zz).before a0 Z = true) (hzz : zz.cls = y.cls) (wpr : (Jvm.Cond.privateMethod y).before a0 Z = true) (wst : (Jvm.Cond.instanceMethod y).before a0 Z = true) (wi : (Jvm.Cond.initialized y.cls).before a0 Z = true) (wc : (Jvm.Cond.code y bytes' maxL' ret').before a0 Z = true)
    (M : Met1 W.l Z y bytes' maxL' ret' [] rm' (.ref a :: argsL).toArray h n0 Q') (hd : decode bytes pc = .ok (.invokevirtual index, 3)) (hpd : parseMethodDescriptor y.desc = some ⟨ps, rt⟩) (hq : pc + 3 = q) (hls : ls.size = maxL) (hstk : stk = argsL.reverse ++ .ref a :: st) (hlen : argsL.length = ps.length)
    (hw : (st.map fun v => v.category).sum = w) (hfr : rm'.frames + 1 ≤ rm.frames) (hlo : w + (maxL' + 11) + rm'.locals ≤ rm.locals) (hk : k + rm'.cells = k') (hn : n + rm'.slots = n') (hk' : k' ≤ rm.cells) (hn' : n' ≤ rm.slots)
    (hr : ∀ v h', Q' v h' → Go W n0 Q h' k' n' q ls (v.toList ++ st)) (hy : y.cls ≠ "java/lang/invoke/MethodHandle" ∧ y.cls ≠ "java/lang/invoke/VarHandle" := by decide) : Go W n0 Q h k n pc ls stk := by
  subst hstk hq hk hn hw
  intro T L i j X ha hb' N eT
  have e1 := C.ro
  obtain ⟨cell, hcell, hobj⟩ := E.cell
  rw [← eT] at hcell
  obtain ⟨mk, methM, hnamed, hmethM, hstM, habM⟩ := Cond.instanceMethod_spec (mvT (args := #[]) C.z wst)
  obtain ⟨methM', cM, hmethM', -, -, -, -, -, -, hsigM⟩ := Cond.code_spec hnamed (mvT (args := #[]) C.z wc)
  cases hmethM.symm.trans hmethM'
  obtain ⟨c2, r2, m2, -, -, q3, -, kP, hkP, hkPi⟩ := Cond.selects_spec (mvT (args := #[]) C.z wse)
  have ec : m2.cls = mk.cls := by
    have u1 := findClass_of_methodNamed q3
    have u2 := findClass_of_methodNamed hnamed
    rw [hzz] at u1
    exact Option.some.inj (u1.symm.trans u2)
  rw [ec] at hkP
  have hsel := selectMethod_private (p := W.e.platform) (c := cell.cls) hmethM (Cond.privateMethod_at (mvP C.z wpr (args := #[])) mk methM hnamed hmethM)
  obtain ⟨vm₁, X₁, hst⟩ := X.invokevirtual C.x C.ow (mvT C.z wl) hnamed hmethM hstM hkP hkPi hy (a := a) (cell := cell) hcell hobj hsel hmethM habM hkP hkPi (g := mkF W.m pc ls (argsL.reverse ++ .ref a :: st)) rfl (argsL := argsL) (rest := st) (lenOf hpd hlen _ hsigM) rfl (hb C.b hd)
  obtain ⟨v, ⟨T2, L2, k2, n2⟩, X2, ⟨Lc, ⟨N2, hQ2⟩, l2, y2, z2⟩, sp⟩ := backOf (len := 3) (W := (st.map fun v => v.category).sum) (Q := fun v h L => Fr n0 L ∧ Q' v h) M C.z wc wi (by rw [e1]; exact hfr) (by rw [e1]; exact hlo) W.m W.meth W.c ⟨T.setVm vm₁, L, i, j⟩ (mkF W.m pc ls st) (.invokevirtual index) mk (.ref a :: argsL).toArray X₁ rfl (by rw [C.ml]; exact hls) (hb C.b hd) (by show 2 * 0 + (st.map fun v => v.category).sum ≤ (st.map fun v => v.category).sum; omega) (X₁.named hnamed) ⟨rfl, eT, by rw [e1]; show i + _ ≤ _; omega, by rw [e1]; show j + _ ≤ _; omega⟩
  dsimp only [Pt.U, Pt.locs, Pt.cells, Pt.slots] at X2 l2 y2 z2 sp hQ2
  subst l2 y2 z2
  obtain ⟨s₂, o, hs, r⟩ := hr v _ hQ2 T2 _ _ _ X2 (by omega) (by omega) (Fr.app N N2) rfl
  exact ⟨s₂, o, (hst _ fun acts => by rw [doInvoke_state]; exact Steps.refl _).trans (sp.trans hs), r⟩
/-! the heap -/
theorem Go.initO (C : Cx Z W rm own nm bytes maxL ret) {index w : Nat} {a : Addr} (w1 : (Jvm.Cond.methodLink own index Lib.objectInit).before a0 Z = true) (w2 : (Jvm.Cond.instanceMethod Lib.objectInit).before a0 Z = true) (w3 : (Jvm.Cond.code Lib.objectInit ⟨#[0xb1]⟩ 1 none).before a0 Z = true)
    (hd : decode bytes pc = .ok (.invokespecial index, 3)) (hq : pc + 3 = q) (hls : ls.size = maxL) (hw : (st.map fun v => v.category).sum = w) (hfr : 1 ≤ rm.frames) (hlo : w + 12 ≤ rm.locals) (hr : Go W n0 Q h k n q ls st) : Go W n0 Q h k n pc ls (.ref a :: st) := by
  subst hq hw
  exact Go.stepT (fun T L i j X eT => Jvm.RoadKit.initO X C.x C.z C.ow w1 w2 w3 eT (g := mkF W.m pc ls (.ref a :: st)) rfl (by rw [C.ml]; exact hls) rfl (hb C.b hd) (by rw [C.ro]; exact hfr) (W := (st.map fun v => v.category).sum) (by show 2 * 0 + (st.map fun v => v.category).sum ≤ (st.map fun v => v.category).sum; omega) (by rw [C.ro]; exact hlo)) hr
theorem Go.getF (C : Cx Z W rm own nm bytes maxL ret) {R0 O f d host : String} {index : Nat} {a : Addr} {v : Value} (w : (Jvm.Cond.fieldLink own index R0 f d).before a0 Z = true ∨ (Jvm.Cond.fieldLinkNest own index R0 f d host).before a0 Z = true) (via : Via Z R0 O f d) (F : Fld Z h a O f d v)
    (hd : decode bytes pc = .ok (.getfield index, 3)) (hq : pc + 3 = q) (hr : Go W n0 Q h k n q ls (v :: st)) : Go W n0 Q h k n pc ls (.ref a :: st) := by
  subst hq
  exact Go.stepT (fun T L i j X eT => Jvm.RoadKit.getF X C.x C.z C.ow w via eT F (g := mkF W.m pc ls (.ref a :: st)) rfl rfl (hb C.b hd)) hr
theorem Go.getS (C : Cx Z W rm own nm bytes maxL ret) {R0 O f d : String} {index : Nat} {v : Value} (w : (Jvm.Cond.fieldLink own index R0 f d).before a0 Z = true) (via : Via Z R0 O f d) (F : Sta Z h O f d v)
    (hd : decode bytes pc = .ok (.getstatic index, 3)) (hq : pc + 3 = q) (hr : Go W n0 Q h k n q ls (v :: st)) : Go W n0 Q h k n pc ls st := by
  subst hq
  exact Go.stepT (fun T L i j X eT => Jvm.RoadKit.getS X C.x C.z (host := "") C.ow w via eT F (g := mkF W.m pc ls st) rfl (hb C.b hd)) hr
theorem Go.putF (C : Cx Z W rm own nm bytes maxL ret) {R0 O f d host K : String} {index kk : Nat} {ty : FieldType} {a : Addr} {v old : Value} (w : (Jvm.Cond.fieldLink own index R0 f d).before a0 Z = true ∨ (Jvm.Cond.fieldLinkNest own index R0 f d host).before a0 Z = true) (via : Via Z R0 O f d) (F : Fld Z h a O f d old) (E : Exa Z h a K)
    (Lw : (Jvm.Cond.lays K O f d).before a0 Z = true ∨ ((Jvm.Cond.laysFinal K O f d).before a0 Z = true ∧ own = O ∧ nm = "<init>")) (wi : (Jvm.Cond.instantiable K kk).before a0 Z = true) (hty : parseFieldDescriptor d = some ty) (hn : narrow ty v = v) (hf : fits ty v = true) (ha : n0 ≤ a)
    (hd : decode bytes pc = .ok (.putfield index, 3)) (hq : pc + 3 = q) (hr : ∀ h', Wr h h' a (Jvm.RoadKit.slotOf Z O f d) v → Go W n0 Q h' k n q ls st) : Go W n0 Q h k n pc ls (v :: .ref a :: st) := by
  subst hq
  intro T L i j X hk hn' N eT
  obtain ⟨T', h', X', e', W', sp⟩ := Jvm.RoadKit.putF X C.x C.z C.ow w via eT F E (Lw.imp id fun z => ⟨z.1, z.2.1, C.na.trans z.2.2⟩) wi hty hn hf (g := mkF W.m pc ls (v :: .ref a :: st)) rfl rfl (hb C.b hd)
  obtain ⟨s₂, o, hs, r⟩ := hr h' W' T' _ _ _ X' hk hn' (Fr.snoc X' N ha) e'
  exact ⟨s₂, o, sp _ hs, r⟩
theorem Go.newO (C : Cx Z W rm own nm bytes maxL ret) {K : String} {index sz k' n' : Nat} (w : (Jvm.Cond.classLink own index K).before a0 Z = true) (wi : (Jvm.Cond.instantiable K sz).before a0 Z = true) (wz : (Jvm.Cond.initialized K).before a0 Z = true)
    (hd : decode bytes pc = .ok (.new index, 3)) (hq : pc + 3 = q) (hk : k + 1 = k') (hn : n + sz = n') (hk' : k' ≤ rm.cells) (hn' : n' ≤ rm.slots)
    (hr : ∀ h' a, a = h.size → Ext h h' → Exa Z h' a K → (∀ {O f d : String} {ty : FieldType}, Laid Z a0 K O f d → parseFieldDescriptor d = some ty → Fld Z h' a O f d (defaultValue ty)) → Go W n0 Q h' k' n' q ls (.ref a :: st)) : Go W n0 Q h k n pc ls st := by
  subst hq hk hn
  intro T L i j X hk0 hn0 N eT
  have e1 := C.ro
  obtain ⟨T', h', X', e', E', A', D', -, sp⟩ := Jvm.RoadKit.newO X C.x C.z C.ow w wi wz eT (g := mkF W.m pc ls st) rfl (hb C.b hd) (by rw [e1]; omega) (by rw [e1]; omega)
  obtain ⟨s₂, o, hs, r⟩ := hr h' _ rfl E' A' D' T' _ _ _ X' (by omega) (by omega) N e'
  exact ⟨s₂, o, sp _ hs, r⟩
theorem Go.newP (C : Cx Z W rm own nm bytes maxL ret) {aty : ArrayType} {z : Int32} {cap k' n' : Nat} (w : (Jvm.Cond.arrayClass (newarray.typeOf aty)).before a0 Z = true) (hz : ¬ z < 0) (hcap : z.toNatClampNeg ≤ cap) (hbig : cap * 8 ≤ 536870912)
    (hd : decode bytes pc = .ok (.newarray aty, 2)) (hq : pc + 2 = q) (hk : k + 1 = k') (hn : n + cap = n') (hk' : k' ≤ rm.cells) (hn' : n' ≤ rm.slots)
    (hr : ∀ h' a cA, a = h.size → Ext h h' → Arv Z h' a cA (newarray.typeOf aty) z [] (defaultValue (newarray.typeOf aty)) → Go W n0 Q h' k' n' q ls (.ref a :: st)) : Go W n0 Q h k n pc ls (.int z :: st) := by
  subst hq hk hn
  intro T L i j X hk0 hn0 N eT
  have e1 := C.ro
  obtain ⟨T', h', cA, X', e', E', A', sp⟩ := Jvm.RoadKit.newP X C.x C.z w eT (g := mkF W.m pc ls (.int z :: st)) rfl (hb C.b hd) rfl hz hcap hbig (by rw [e1]; omega) (by rw [e1]; omega)
  obtain ⟨s₂, o, hs, r⟩ := hr h' _ cA rfl E' (Arv.new A' hz) T' _ _ _ X' (by omega) (by omega) N e'
  exact ⟨s₂, o, sp _ hs, r⟩

/-! arrays: the length n, the values f -/
def Av (Z : State) (h : Heap) (a : Addr) (ty : FieldType) (len : Nat) (f : Nat → Value) : Prop := ∃ c : Cell, Arr Z h a c ty ∧ c.slots.size = len ∧ len < 2 ^ 31 ∧ ∀ i, i < len → c.slots[i]? = some (f i)
def upd {α : Type} (f : Nat → α) (j : Nat) (v : α) : Nat → α := fun i => if i = j then v else f i
theorem upd_eq {α : Type} (f : Nat → α) (j : Nat) (v : α) : upd f j v j = v := if_pos rfl
theorem upd_ne {α : Type} (f : Nat → α) {j i : Nat} (v : α) (e : i ≠ j) : upd f j v i = f i := if_neg e
theorem Av.lt {a : Addr} {ty : FieldType} {len : Nat} {f : Nat → Value} (F : Av Z h a ty len f) : a < h.size := by obtain ⟨c, A, -⟩ := F; exact A.lt
theorem Av.ext {a : Addr} {ty : FieldType} {len : Nat} {f : Nat → Value} {h' : Heap} (F : Av Z h a ty len f) (E : Ext h h') : Av Z h' a ty len f := by obtain ⟨c, A, r⟩ := F; exact ⟨c, A.ext E, r⟩
theorem Av.other {a b : Addr} {ty : FieldType} {len sl : Nat} {v : Value} {f : Nat → Value} {h' : Heap} (F : Av Z h b ty len f) (W : Wr h h' a sl v) (e : b ≠ a) : Av Z h' b ty len f := by obtain ⟨c, A, r⟩ := F; exact ⟨c, A.other W e, r⟩
theorem Av.keep {a : Addr} {ty : FieldType} {len : Nat} {f : Nat → Value} {h' : Heap} {ws : List Addr} (F : Av Z h a ty len f) (K : Keep h h' ws) (e : a ∉ ws) : Av Z h' a ty len f := by obtain ⟨c, A, r⟩ := F; exact ⟨c, ⟨K.2.1 a c A.1 e, A.2⟩, r⟩
theorem Av.same {a : Addr} {ty : FieldType} {len j : Nat} {v : Value} {f : Nat → Value} {h' : Heap} (F : Av Z h a ty len f) (W : Wr h h' a j v) : Av Z h' a ty len (upd f j v) := by
  obtain ⟨c, A, r1, r2, r3⟩ := F
  refine ⟨c.setSlot j v, A.same W, by simp [Cell.setSlot, r1], r2, fun i hi => ?_⟩
  by_cases e : i = j
  · subst e
    rw [upd_eq]
    simp [Cell.setSlot, r1, hi]
  · rw [upd_ne _ _ e, ← r3 i hi]
    exact Array.getElem?_setIfInBounds_ne (Ne.symm e)
def iF (g : Nat → Int32) : Nat → Value := fun i => .int (g i)
def jF (g : Nat → Int64) : Nat → Value := fun i => .long (g i)
theorem upd_iF (g : Nat → Int32) (j : Nat) (x : Int32) : upd (iF g) j (.int x) = iF (upd g j x) := by funext i; by_cases e : i = j <;> simp [upd, iF, e]
theorem upd_jF (g : Nat → Int64) (j : Nat) (x : Int64) : upd (jF g) j (.long x) = jF (upd g j x) := by funext i; by_cases e : i = j <;> simp [upd, jF, e]
theorem Av.sameI {a : Addr} {ty : FieldType} {len j : Nat} {x : Int32} {g : Nat → Int32} {h' : Heap} (F : Av Z h a ty len (iF g)) (W : Wr h h' a j (.int x)) : Av Z h' a ty len (iF (upd g j x)) := upd_iF g j x ▸ F.same W
theorem Av.sameJ {a : Addr} {ty : FieldType} {len j : Nat} {x : Int64} {g : Nat → Int64} {h' : Heap} (F : Av Z h a ty len (jF g)) (W : Wr h h' a j (.long x)) : Av Z h' a ty len (jF (upd g j x)) := upd_jF g j x ▸ F.same W
theorem Av.of {a : Addr} {ty : FieldType} {z : Int32} {cA : ClassId} {d : Value} (F : Arv Z h a cA ty z [] d) : Av Z h a ty z.toNatClampNeg (fun _ => d) := by
  obtain ⟨c, A, -, r1, r2, r3, -⟩ := F
  refine ⟨c, A, r1, ?_, fun i hi => ?_⟩
  · have e1 := z.toInt_lt
    have e2 : z.toNatClampNeg = z.toInt.toNat := rfl
    omega
  · rw [r3 i (by omega)]
    simp
theorem Go.alen (C : Cx Z W rm own nm bytes maxL ret) {a : Addr} {ty : FieldType} {len : Nat} {f : Nat → Value} (F : Av Z h a ty len f) (hd : decode bytes pc = .ok (.arraylength, 1)) (hq : pc + 1 = q)
    (hr : Go W n0 Q h k n q ls (.int len.toInt32 :: st)) : Go W n0 Q h k n pc ls (.ref a :: st) := by
  subst hq
  obtain ⟨c, A, r1, r2, r3⟩ := F
  subst r1
  exact Go.stepX (fun T L i j tg X eT kk => X.arraylength C.x (by rw [eT]; exact A.1) (State.isArrayOf_alike C.z.alike A.2.1) (g := mkF W.m pc ls (.ref a :: st)) rfl rfl (hb C.b hd) _ kk) hr
theorem Go.alenZ (C : Cx Z W rm own nm bytes maxL ret) {a : Addr} {ty : FieldType} {z : Int32} {f : Nat → Value} (F : Av Z h a ty z.toNatClampNeg f) (hz : ¬ z < 0) (hd : decode bytes pc = .ok (.arraylength, 1)) (hq : pc + 1 = q)
    (hr : Go W n0 Q h k n q ls (.int z :: st)) : Go W n0 Q h k n pc ls (.ref a :: st) :=
  Go.alen C F hd hq (by rw [(Jvm.RoadKit.back32 hz).1]; exact hr)

theorem Go.iaload (C : Cx Z W rm own nm bytes maxL ret) {a : Addr} {len : Nat} {f : Nat → Value} {j : Int32} {v : Value} (F : Av Z h a .int len f) (i : Nat) (hji : j.toNatClampNeg = i) (hj : ¬ j < 0) (hi : i < len) (hv : f i = v) (hd : decode bytes pc = .ok (.iaload, 1)) (hq : pc + 1 = q)
    (hr : Go W n0 Q h k n q ls (v :: st)) : Go W n0 Q h k n pc ls (.int j :: .ref a :: st) := by
  subst hq hji hv
  obtain ⟨c, A, r1, r2, r3⟩ := F
  exact Go.stepX (fun T L i' j' tg X eT kk => X.iaload C.x (j := j) (by rw [eT]; exact A.1) (State.isArrayOf_alike C.z.alike A.2.1) A.2.2 (fun z => z.elim hj (fun y => absurd (Nat.lt_of_lt_of_le hi (r1 ▸ y)) (Nat.lt_irrefl _))) (r3 _ hi) (g := mkF W.m pc ls (.int j :: .ref a :: st)) rfl rfl (hb C.b hd) _ kk) hr
theorem Go.laload (C : Cx Z W rm own nm bytes maxL ret) {a : Addr} {len : Nat} {f : Nat → Value} {j : Int32} {v : Value} (F : Av Z h a .long len f) (i : Nat) (hji : j.toNatClampNeg = i) (hj : ¬ j < 0) (hi : i < len) (hv : f i = v) (hd : decode bytes pc = .ok (.laload, 1)) (hq : pc + 1 = q)
    (hr : Go W n0 Q h k n q ls (v :: st)) : Go W n0 Q h k n pc ls (.int j :: .ref a :: st) := by
  subst hq hji hv
  obtain ⟨c, A, r1, r2, r3⟩ := F
  exact Go.stepX (fun T L i' j' tg X eT kk => X.laload C.x (j := j) (by rw [eT]; exact A.1) (State.isArrayOf_alike C.z.alike A.2.1) A.2.2 (fun z => z.elim hj (fun y => absurd (Nat.lt_of_lt_of_le hi (r1 ▸ y)) (Nat.lt_irrefl _))) (r3 _ hi) (g := mkF W.m pc ls (.int j :: .ref a :: st)) rfl rfl (hb C.b hd) _ kk) hr
theorem Go.caload (C : Cx Z W rm own nm bytes maxL ret) {a : Addr} {len : Nat} {f : Nat → Value} {j : Int32} {v : Value} (F : Av Z h a .char len f) (i : Nat) (hji : j.toNatClampNeg = i) (hj : ¬ j < 0) (hi : i < len) (hv : f i = v) (hd : decode bytes pc = .ok (.caload, 1)) (hq : pc + 1 = q)
    (hr : Go W n0 Q h k n q ls (v :: st)) : Go W n0 Q h k n pc ls (.int j :: .ref a :: st) := by
  subst hq hji hv
  obtain ⟨c, A, r1, r2, r3⟩ := F
  exact Go.stepX (fun T L i' j' tg X eT kk => X.caload C.x (j := j) (by rw [eT]; exact A.1) (State.isArrayOf_alike C.z.alike A.2.1) A.2.2 (fun z => z.elim hj (fun y => absurd (Nat.lt_of_lt_of_le hi (r1 ▸ y)) (Nat.lt_irrefl _))) (r3 _ hi) (g := mkF W.m pc ls (.int j :: .ref a :: st)) rfl rfl (hb C.b hd) _ kk) hr
theorem Go.baload (C : Cx Z W rm own nm bytes maxL ret) {a : Addr} {len : Nat} {f : Nat → Value} {j : Int32} {v : Value} (F : Av Z h a .byte len f) (i : Nat) (hji : j.toNatClampNeg = i) (hj : ¬ j < 0) (hi : i < len) (hv : f i = v) (hd : decode bytes pc = .ok (.baload, 1)) (hq : pc + 1 = q)
    (hr : Go W n0 Q h k n q ls (v :: st)) : Go W n0 Q h k n pc ls (.int j :: .ref a :: st) := by
  subst hq hji hv
  obtain ⟨c, A, r1, r2, r3⟩ := F
  exact Go.stepX (fun T L i' j' tg X eT kk => X.baloadBytes C.x (j := j) (by rw [eT]; exact A.1) (State.isArrayOf_alike C.z.alike A.2.1) A.2.2 (fun z => z.elim hj (fun y => absurd (Nat.lt_of_lt_of_le hi (r1 ▸ y)) (Nat.lt_irrefl _))) (r3 _ hi) (g := mkF W.m pc ls (.int j :: .ref a :: st)) rfl rfl (hb C.b hd) _ kk) hr
theorem Go.zaload (C : Cx Z W rm own nm bytes maxL ret) {a : Addr} {len : Nat} {f : Nat → Value} {j : Int32} {v : Value} (F : Av Z h a .boolean len f) (i : Nat) (hji : j.toNatClampNeg = i) (hj : ¬ j < 0) (hi : i < len) (hv : f i = v) (hd : decode bytes pc = .ok (.baload, 1)) (hq : pc + 1 = q)
    (hr : Go W n0 Q h k n q ls (v :: st)) : Go W n0 Q h k n pc ls (.int j :: .ref a :: st) := by
  subst hq hji hv
  obtain ⟨c, A, r1, r2, r3⟩ := F
  exact Go.stepX (fun T L i' j' tg X eT kk => X.baloadBooleans C.x (j := j) (by rw [eT]; exact A.1) (State.isArrayOf_alike C.z.alike A.2.1) A.2.2 (fun z => z.elim hj (fun y => absurd (Nat.lt_of_lt_of_le hi (r1 ▸ y)) (Nat.lt_irrefl _))) (r3 _ hi) (g := mkF W.m pc ls (.int j :: .ref a :: st)) rfl rfl (hb C.b hd) _ kk) hr
theorem Go.iastore (C : Cx Z W rm own nm bytes maxL ret) {a : Addr} {len : Nat} {f : Nat → Value} {j : Int32} {x : Int32} (F : Av Z h a .int len f) (i : Nat) (hji : j.toNatClampNeg = i) (hj : ¬ j < 0) (hi : i < len) (ha : n0 ≤ a) (hd : decode bytes pc = .ok (.iastore, 1)) (hq : pc + 1 = q)
    (hr : ∀ h', Wr h h' a i (.int x) → Go W n0 Q h' k n q ls st) : Go W n0 Q h k n pc ls (.int x :: .int j :: .ref a :: st) := by
  subst hq hji
  obtain ⟨c, A, r1, r2, r3⟩ := F
  intro T L i' j' X hk hn N eT
  obtain ⟨T', h', X', e', W', sp⟩ := Jvm.RoadKit.stI X C.x C.z eT A (j := j) (fun z => z.elim hj (fun y => absurd (Nat.lt_of_lt_of_le hi (r1 ▸ y)) (Nat.lt_irrefl _))) (g := mkF W.m pc ls (.int x :: .int j :: .ref a :: st)) rfl rfl (hb C.b hd)
  obtain ⟨s₂, o, hs, r⟩ := hr h' W' T' _ _ _ X' hk hn (Fr.snoc X' N ha) e'
  exact ⟨s₂, o, sp _ hs, r⟩
theorem Go.lastore (C : Cx Z W rm own nm bytes maxL ret) {a : Addr} {len : Nat} {f : Nat → Value} {j : Int32} {x : Int64} (F : Av Z h a .long len f) (i : Nat) (hji : j.toNatClampNeg = i) (hj : ¬ j < 0) (hi : i < len) (ha : n0 ≤ a) (hd : decode bytes pc = .ok (.lastore, 1)) (hq : pc + 1 = q)
    (hr : ∀ h', Wr h h' a i (.long x) → Go W n0 Q h' k n q ls st) : Go W n0 Q h k n pc ls (.long x :: .int j :: .ref a :: st) := by
  subst hq hji
  obtain ⟨c, A, r1, r2, r3⟩ := F
  intro T L i' j' X hk hn N eT
  obtain ⟨T', h', X', e', W', sp⟩ := Jvm.RoadKit.stJ X C.x C.z eT A (j := j) (fun z => z.elim hj (fun y => absurd (Nat.lt_of_lt_of_le hi (r1 ▸ y)) (Nat.lt_irrefl _))) (g := mkF W.m pc ls (.long x :: .int j :: .ref a :: st)) rfl rfl (hb C.b hd)
  obtain ⟨s₂, o, hs, r⟩ := hr h' W' T' _ _ _ X' hk hn (Fr.snoc X' N ha) e'
  exact ⟨s₂, o, sp _ hs, r⟩
theorem Go.castore (C : Cx Z W rm own nm bytes maxL ret) {a : Addr} {len : Nat} {f : Nat → Value} {j : Int32} {x : Int32} (F : Av Z h a .char len f) (i : Nat) (hji : j.toNatClampNeg = i) (hj : ¬ j < 0) (hi : i < len) (ha : n0 ≤ a) (hd : decode bytes pc = .ok (.castore, 1)) (hq : pc + 1 = q)
    (hr : ∀ h', Wr h h' a i (.int (nar .char x)) → Go W n0 Q h' k n q ls st) : Go W n0 Q h k n pc ls (.int x :: .int j :: .ref a :: st) := by
  subst hq hji
  obtain ⟨c, A, r1, r2, r3⟩ := F
  intro T L i' j' X hk hn N eT
  obtain ⟨T', h', X', e', W', sp⟩ := Jvm.RoadKit.stC X C.x C.z eT A (j := j) (fun z => z.elim hj (fun y => absurd (Nat.lt_of_lt_of_le hi (r1 ▸ y)) (Nat.lt_irrefl _))) (g := mkF W.m pc ls (.int x :: .int j :: .ref a :: st)) rfl rfl (hb C.b hd)
  obtain ⟨s₂, o, hs, r⟩ := hr h' W' T' _ _ _ X' hk hn (Fr.snoc X' N ha) e'
  exact ⟨s₂, o, sp _ hs, r⟩
theorem Go.bastore (C : Cx Z W rm own nm bytes maxL ret) {a : Addr} {len : Nat} {f : Nat → Value} {j : Int32} {x : Int32} (F : Av Z h a .byte len f) (i : Nat) (hji : j.toNatClampNeg = i) (hj : ¬ j < 0) (hi : i < len) (ha : n0 ≤ a) (hd : decode bytes pc = .ok (.bastore, 1)) (hq : pc + 1 = q)
    (hr : ∀ h', Wr h h' a i (.int (nar .byte x)) → Go W n0 Q h' k n q ls st) : Go W n0 Q h k n pc ls (.int x :: .int j :: .ref a :: st) := by
  subst hq hji
  obtain ⟨c, A, r1, r2, r3⟩ := F
  intro T L i' j' X hk hn N eT
  obtain ⟨T', h', X', e', W', sp⟩ := Jvm.RoadKit.stB X C.x C.z eT A (j := j) (fun z => z.elim hj (fun y => absurd (Nat.lt_of_lt_of_le hi (r1 ▸ y)) (Nat.lt_irrefl _))) (g := mkF W.m pc ls (.int x :: .int j :: .ref a :: st)) rfl rfl (hb C.b hd)
  obtain ⟨s₂, o, hs, r⟩ := hr h' W' T' _ _ _ X' hk hn (Fr.snoc X' N ha) e'
  exact ⟨s₂, o, sp _ hs, r⟩
theorem Go.zastore (C : Cx Z W rm own nm bytes maxL ret) {a : Addr} {len : Nat} {f : Nat → Value} {j : Int32} {x : Int32} (F : Av Z h a .boolean len f) (i : Nat) (hji : j.toNatClampNeg = i) (hj : ¬ j < 0) (hi : i < len) (ha : n0 ≤ a) (hd : decode bytes pc = .ok (.bastore, 1)) (hq : pc + 1 = q)
    (hr : ∀ h', Wr h h' a i (.int (nar .boolean x)) → Go W n0 Q h' k n q ls st) : Go W n0 Q h k n pc ls (.int x :: .int j :: .ref a :: st) := by
  subst hq hji
  obtain ⟨c, A, r1, r2, r3⟩ := F
  intro T L i' j' X hk hn N eT
  obtain ⟨T', h', X', e', W', sp⟩ := Jvm.RoadKit.stZ X C.x C.z eT A (j := j) (fun z => z.elim hj (fun y => absurd (Nat.lt_of_lt_of_le hi (r1 ▸ y)) (Nat.lt_irrefl _))) (g := mkF W.m pc ls (.int x :: .int j :: .ref a :: st)) rfl rfl (hb C.b hd)
  obtain ⟨s₂, o, hs, r⟩ := hr h' W' T' _ _ _ X' hk hn (Fr.snoc X' N ha) e'
  exact ⟨s₂, o, sp _ hs, r⟩
end Gos

theorem d2_0 : decode jdk_29_method_65_code 0 = .ok (.iload_n 0, 1) := by decide +kernel
theorem d2_1 : decode jdk_29_method_65_code 1 = .ok (.iload_n 1, 1) := by decide +kernel
theorem d2_2 : decode jdk_29_method_65_code 2 = .ok (.if_icmp .lt 7, 3) := by decide +kernel
theorem d2_9 : decode jdk_29_method_65_code 9 = .ok (.iload_n 1, 1) := by decide +kernel
theorem d2_10 : decode jdk_29_method_65_code 10 = .ok (.ireturn, 1) := by decide +kernel
theorem d2_5 : decode jdk_29_method_65_code 5 = .ok (.iload_n 0, 1) := by decide +kernel
theorem d2_6 : decode jdk_29_method_65_code 6 = .ok (.goto 4, 3) := by decide +kernel
theorem ef_2 (m : MethodId) (p0 : Int32) (p1 : Int32) : entryFrame m #[(.int p0), (.int p1)] 2 = mkF m 0 #[.val (.int p0), .val (.int p1)] [] := by first | (simp [entryFrame, mkF, argsToLocals, Value.category]; done) | rfl
theorem d3_0 : decode method_3_code 0 = .ok (.iload_n 0, 1) := by decide +kernel
theorem d3_1 : decode method_3_code 1 = .ok (.iload_n 1, 1) := by decide +kernel
theorem d3_2 : decode method_3_code 2 = .ok (.if_icmp .ge 5, 3) := by decide +kernel
theorem d3_5 : decode method_3_code 5 = .ok (.iload_n 1, 1) := by decide +kernel
theorem d3_6 : decode method_3_code 6 = .ok (.ireturn, 1) := by decide +kernel
theorem d3_7 : decode method_3_code 7 = .ok (.iload_n 0, 1) := by decide +kernel
theorem d3_8 : decode method_3_code 8 = .ok (.ireturn, 1) := by decide +kernel
theorem ef_3 (m : MethodId) (p0 : Int32) (p1 : Int32) : entryFrame m #[(.int p0), (.int p1)] 2 = mkF m 0 #[.val (.int p0), .val (.int p1)] [] := by first | (simp [entryFrame, mkF, argsToLocals, Value.category]; done) | rfl
theorem pn_com_example_interlace_interlace_ClocksJoinPinLaw : plainName "com/example/interlace/interlace/ClocksJoinPinLaw" = true := by first | (simp [plainName, overriddenIn]; done) | decide +kernel
theorem d1_0 : decode prog_10_method_6_code 0 = .ok (.iconst 0, 1) := by decide +kernel
theorem d1_1 : decode prog_10_method_6_code 1 = .ok (.istore_n 2, 1) := by decide +kernel
theorem d1_2 : decode prog_10_method_6_code 2 = .ok (.iload_n 2, 1) := by decide +kernel
theorem d1_3 : decode prog_10_method_6_code 3 = .ok (.aload_n 0, 1) := by decide +kernel
theorem d1_4 : decode prog_10_method_6_code 4 = .ok (.arraylength, 1) := by decide +kernel
theorem d1_5 : decode prog_10_method_6_code 5 = .ok (.if_icmp .ge 21, 3) := by decide +kernel
theorem d1_26 : decode prog_10_method_6_code 26 = .ok (.return_, 1) := by decide +kernel
theorem ef_1 (m : MethodId) (x : Addr) (y : Addr) : entryFrame m #[(.ref x), (.ref y)] 3 = mkF m 0 #[.val (.ref x), .val (.ref y), .unset] [] := by first | (simp [entryFrame, mkF, argsToLocals, Value.category]; done) | rfl
theorem pn_com_example_interlace_interlace_Clocks : plainName "com/example/interlace/interlace/Clocks" = true := by first | (simp [plainName, overriddenIn]; done) | decide +kernel
theorem d1_8 : decode prog_10_method_6_code 8 = .ok (.aload_n 0, 1) := by decide +kernel
theorem d1_9 : decode prog_10_method_6_code 9 = .ok (.iload_n 2, 1) := by decide +kernel
theorem d1_10 : decode prog_10_method_6_code 10 = .ok (.aload_n 0, 1) := by decide +kernel
theorem d1_11 : decode prog_10_method_6_code 11 = .ok (.iload_n 2, 1) := by decide +kernel
theorem d1_12 : decode prog_10_method_6_code 12 = .ok (.iaload, 1) := by decide +kernel
theorem d1_13 : decode prog_10_method_6_code 13 = .ok (.aload_n 1, 1) := by decide +kernel
theorem d1_14 : decode prog_10_method_6_code 14 = .ok (.iload_n 2, 1) := by decide +kernel
theorem d1_15 : decode prog_10_method_6_code 15 = .ok (.iaload, 1) := by decide +kernel
theorem d1_16 : decode prog_10_method_6_code 16 = .ok (.invokestatic 143, 3) := by decide +kernel
theorem pd__40II_41I : parseMethodDescriptor "(II)I" = some ⟨[.int, .int], some .int⟩ := by decide +kernel
theorem d1_19 : decode prog_10_method_6_code 19 = .ok (.iastore, 1) := by decide +kernel
theorem d1_20 : decode prog_10_method_6_code 20 = .ok (.iinc 2 1, 3) := by decide +kernel
theorem d1_23 : decode prog_10_method_6_code 23 = .ok (.goto (-21), 3) := by decide +kernel
theorem ef_0 (m : MethodId) (p0 : Int64) (p1 : Int32) (p2 : Int64) (p3 : Int32) (p4 : Int32) : entryFrame m #[(.long p0), (.int p1), (.long p2), (.int p3), (.int p4)] maxLocals = mkF m 0 #[.val (.long p0), .second, .val (.int p1), .val (.long p2), .second, .val (.int p3), .val (.int p4), .unset, .unset, .unset, .unset, .unset, .unset, .unset, .unset] [] := by first | (simp [entryFrame, mkF, argsToLocals, Value.category, maxLocals]; done) | rfl
theorem pd__40_91I_91I_41V : parseMethodDescriptor "([I[I)V" = some ⟨[(.array .int), (.array .int)], none⟩ := by decide +kernel
def f_mmax (p0 : Int32) (p1 : Int32) : Int32 := (if p0 < p1 then p1 else p0)
set_option maxRecDepth 65536 in
theorem c_f_mmax (l : Launch) (Z : State) (a0 : Array Value) (hw : ∀ d ∈ tables_1, d.before a0 Z = true) (p0 : Int32) (p1 : Int32) (h0 : Heap) (n0 : Nat) : Met1 l Z (⟨"java/lang/Math", "max", "(II)I"⟩ : MethodName) jdk_29_method_65_code 2 (some .int) [] ({ frames := 0, cells := 0, slots := 0, locals := 0 } : Room) #[(.int p0), (.int p1)] h0 n0 (Ret (.int (f_mmax p0 p1)) h0) := by
  refine met_of_go (Jvm.Free.JP.mathPlain rfl (by decide +kernel)) (fun m => ef_2 m p0 p1) ?_
  intro W hl C
  subst hl
  refine Go.iloadN C d2_0 (q := 1) rfl rfl ?_
  refine Go.iloadN C d2_1 (q := 2) rfl rfl ?_
  refine Go.icmp C d2_2 (n_lt _ _) (qt := 9) (q := 5) (by decide) (by decide) rfl (fun b1 => ?_) (fun b1 => ?_)
  ·
    refine Go.iloadN C d2_9 (q := 10) rfl rfl ?_
    refine Go.retI C d2_10 (by decide) (by decide) ⟨?_, rfl⟩
    refine congrArg (fun z => some (Value.int z)) ?_
    show p1 = f_mmax p0 p1
    unfold f_mmax
    rw [if_pos b1]
  ·
    refine Go.iloadN C d2_5 (q := 6) rfl rfl ?_
    refine Go.goto C d2_6 (q := 10) (by decide) (by decide) ?_
    refine Go.retI C d2_10 (by decide) (by decide) ⟨?_, rfl⟩
    refine congrArg (fun z => some (Value.int z)) ?_
    show p0 = f_mmax p0 p1
    unfold f_mmax
    rw [if_neg b1]
def f_larger (p0 : Int32) (p1 : Int32) : Int32 := (if p0 < p1 then p1 else p0)
set_option maxRecDepth 65536 in
theorem c_f_larger (l : Launch) (Z : State) (a0 : Array Value) (hw : ∀ d ∈ tables_1, d.before a0 Z = true) (p0 : Int32) (p1 : Int32) (h0 : Heap) (n0 : Nat) : Met1 l Z (⟨"com/example/interlace/interlace/ClocksJoinPinLaw", "larger", "(II)I"⟩ : MethodName) method_3_code 2 (some .int) [] ({ frames := 0, cells := 0, slots := 0, locals := 0 } : Room) #[(.int p0), (.int p1)] h0 n0 (Ret (.int (f_larger p0 p1)) h0) := by
  refine met_of_go (plainFor_of_name pn_com_example_interlace_interlace_ClocksJoinPinLaw) (fun m => ef_3 m p0 p1) ?_
  intro W hl C
  subst hl
  refine Go.iloadN C d3_0 (q := 1) rfl rfl ?_
  refine Go.iloadN C d3_1 (q := 2) rfl rfl ?_
  refine Go.icmp C d3_2 (n_ge _ _) (qt := 7) (q := 5) (by decide) (by decide) rfl (fun b1 => ?_) (fun b1 => ?_)
  ·
    refine Go.iloadN C d3_7 (q := 8) rfl rfl ?_
    refine Go.retI C d3_8 (by decide) (by decide) ⟨?_, rfl⟩
    refine congrArg (fun z => some (Value.int z)) ?_
    show p0 = f_larger p0 p1
    unfold f_larger
    rw [if_neg b1]
  ·
    have b1 := Classical.not_not.mp b1
    refine Go.iloadN C d3_5 (q := 6) rfl rfl ?_
    refine Go.retI C d3_6 (by decide) (by decide) ⟨?_, rfl⟩
    refine congrArg (fun z => some (Value.int z)) ?_
    show p1 = f_larger p0 p1
    unfold f_larger
    rw [if_pos b1]
set_option maxRecDepth 65536 in
theorem c_join0 (l : Launch) (Z : State) (a0 : Array Value) (hw : ∀ d ∈ tables_1, d.before a0 Z = true) (x : Addr) (y : Addr) (h0 : Heap) (n0 : Nat) (g f : Nat → Int32) (Z0 : n0 ≤ h0.size) (A0 : Av Z h0 x .int 0 (iF g)) (g0 : n0 ≤ x) (A1 : Av Z h0 y .int 0 (iF f)) (ne0 : x ≠ y) : Met1 l Z (⟨"com/example/interlace/interlace/Clocks", "join", "([I[I)V"⟩ : MethodName) prog_10_method_6_code 3 none [] ({ frames := 0, cells := 0, slots := 0, locals := 0 } : Room) #[(.ref x), (.ref y)] h0 n0 (fun v h => v = none ∧ Keep h0 h [x] ∧ Av Z h x .int 0 (iF g)) := by
  refine met_of_go (plainFor_of_name pn_com_example_interlace_interlace_Clocks) (fun m => ef_1 m x y) ?_
  intro W hl C
  subst hl
  refine Go.iconst C (0 : Int32) d1_0 (q := 1) rfl rfl ?_
  refine Go.istoreNR C d1_1 (q := 2) rfl (l' := #[.val (.ref x), .val (.ref y), .val (.int (0 : Int32))]) rfl ?_
  refine Go.iloadN C d1_2 (q := 3) rfl rfl ?_
  refine Go.aloadN C d1_3 (q := 4) rfl rfl rfl ?_
  refine Go.alen C A0 d1_4 (q := 5) rfl ?_
  show Go W n0 (fun v h => v = none ∧ Keep h0 h [x] ∧ Av Z h x .int 0 (iF g)) h0 0 0 5 #[.val (.ref x), .val (.ref y), .val (.int (0 : Int32))] [(.int (0 : Int32)), (.int (0 : Int32))]
  refine Go.icmp C d1_5 (n_ge _ _) (qt := 26) (q := 8) (by decide) (by decide) rfl (fun _ => ?_) (fun b1 => absurd b1 (by decide))
  exact Go.retV C d1_26 (by decide) (by decide) ⟨rfl, (Keep.refl h0 [x]), A0⟩
set_option maxRecDepth 65536 in
theorem c_join1 (l : Launch) (Z : State) (a0 : Array Value) (hw : ∀ d ∈ tables_1, d.before a0 Z = true) (x : Addr) (y : Addr) (h0 : Heap) (n0 : Nat) (g f : Nat → Int32) (Z0 : n0 ≤ h0.size) (A0 : Av Z h0 x .int 1 (iF g)) (g0 : n0 ≤ x) (A1 : Av Z h0 y .int 1 (iF f)) (ne0 : x ≠ y) : Met1 l Z (⟨"com/example/interlace/interlace/Clocks", "join", "([I[I)V"⟩ : MethodName) prog_10_method_6_code 3 none [] ({ frames := 1, cells := 0, slots := 0, locals := 15 } : Room) #[(.ref x), (.ref y)] h0 n0 (fun v h => v = none ∧ Keep h0 h [x] ∧ Av Z h x .int 1 (iF (upd g 0 (f_mmax (g 0) (f 0))))) := by
  refine met_of_go (plainFor_of_name pn_com_example_interlace_interlace_Clocks) (fun m => ef_1 m x y) ?_
  intro W hl C
  subst hl
  refine Go.iconst C (0 : Int32) d1_0 (q := 1) rfl rfl ?_
  refine Go.istoreNR C d1_1 (q := 2) rfl (l' := #[.val (.ref x), .val (.ref y), .val (.int (0 : Int32))]) rfl ?_
  refine Go.iloadN C d1_2 (q := 3) rfl rfl ?_
  refine Go.aloadN C d1_3 (q := 4) rfl rfl rfl ?_
  refine Go.alen C A0 d1_4 (q := 5) rfl ?_
  show Go W n0 (fun v h => v = none ∧ Keep h0 h [x] ∧ Av Z h x .int 1 (iF (upd g 0 (f_mmax (g 0) (f 0))))) h0 0 0 5 #[.val (.ref x), .val (.ref y), .val (.int (0 : Int32))] [(.int (1 : Int32)), (.int (0 : Int32))]
  refine Go.icmp C d1_5 (n_ge _ _) (qt := 26) (q := 8) (by decide) (by decide) rfl (fun b1 => absurd b1 (by decide)) (fun _ => ?_)
  refine Go.aloadN C d1_8 (q := 9) rfl rfl rfl ?_
  refine Go.iloadN C d1_9 (q := 10) rfl rfl ?_
  refine Go.aloadN C d1_10 (q := 11) rfl rfl rfl ?_
  refine Go.iloadN C d1_11 (q := 12) rfl rfl ?_
  refine Go.iaload C A0 0 (v := (.int (g 0))) (by decide) (by decide) (by decide) rfl d1_12 (q := 13) rfl ?_
  refine Go.aloadN C d1_13 (q := 14) rfl rfl rfl ?_
  refine Go.iloadN C d1_14 (q := 15) rfl rfl ?_
  refine Go.iaload C A1 0 (v := (.int (f 0))) (by decide) (by decide) (by decide) rfl d1_15 (q := 16) rfl ?_
  refine Go.pureS C (hw _ (List.mem_of_getElem? (i := 5) rfl)) (hw _ (List.mem_of_getElem? (i := 6) rfl)) (hw _ (List.mem_of_getElem? (i := 7) rfl)) (hw _ (List.mem_of_getElem? (i := 8) rfl)) (c_f_mmax W.l Z a0 hw (g 0) (f 0) h0 n0) d1_16 pd__40II_41I (q := 19) rfl rfl (argsL := [(.int (g 0)), (.int (f 0))]) (st := [(.int (0 : Int32)), (.ref x)]) rfl rfl (w := 2) rfl (by decide) (by decide) (by decide) (by decide) ?_
  refine Go.iastore C A0 0 (by decide) (by decide) (by decide) g0 d1_19 (q := 20) rfl ?_
  intro h2 W3
  have F4 := A0.sameI W3
  refine Go.iincR C d1_20 (q := 23) rfl rfl (l' := #[.val (.ref x), .val (.ref y), .val (.int (1 : Int32))]) rfl ?_
  refine Go.goto C d1_23 (q := 2) (by decide) (by decide) ?_
  refine Go.iloadN C d1_2 (q := 3) rfl rfl ?_
  refine Go.aloadN C d1_3 (q := 4) rfl rfl rfl ?_
  refine Go.alen C F4 d1_4 (q := 5) rfl ?_
  show Go W n0 (fun v h => v = none ∧ Keep h0 h [x] ∧ Av Z h x .int 1 (iF (upd g 0 (f_mmax (g 0) (f 0))))) h2 0 0 5 #[.val (.ref x), .val (.ref y), .val (.int (1 : Int32))] [(.int (1 : Int32)), (.int (1 : Int32))]
  refine Go.icmp C d1_5 (n_ge _ _) (qt := 26) (q := 8) (by decide) (by decide) rfl (fun _ => ?_) (fun b5 => absurd b5 (by decide))
  exact Go.retV C d1_26 (by decide) (by decide) ⟨rfl, ((Keep.refl h0 [x]).wr W3 (Or.inl (List.mem_of_getElem? (i := 0) rfl))), F4⟩
set_option maxRecDepth 65536 in
theorem c_join2 (l : Launch) (Z : State) (a0 : Array Value) (hw : ∀ d ∈ tables_1, d.before a0 Z = true) (x : Addr) (y : Addr) (h0 : Heap) (n0 : Nat) (g f : Nat → Int32) (Z0 : n0 ≤ h0.size) (A0 : Av Z h0 x .int 2 (iF g)) (g0 : n0 ≤ x) (A1 : Av Z h0 y .int 2 (iF f)) (ne0 : x ≠ y) : Met1 l Z (⟨"com/example/interlace/interlace/Clocks", "join", "([I[I)V"⟩ : MethodName) prog_10_method_6_code 3 none [] ({ frames := 1, cells := 0, slots := 0, locals := 15 } : Room) #[(.ref x), (.ref y)] h0 n0 (fun v h => v = none ∧ Keep h0 h [x] ∧ Av Z h x .int 2 (iF (upd (upd g 0 (f_mmax (g 0) (f 0))) 1 (f_mmax (g 1) (f 1))))) := by
  refine met_of_go (plainFor_of_name pn_com_example_interlace_interlace_Clocks) (fun m => ef_1 m x y) ?_
  intro W hl C
  subst hl
  refine Go.iconst C (0 : Int32) d1_0 (q := 1) rfl rfl ?_
  refine Go.istoreNR C d1_1 (q := 2) rfl (l' := #[.val (.ref x), .val (.ref y), .val (.int (0 : Int32))]) rfl ?_
  refine Go.iloadN C d1_2 (q := 3) rfl rfl ?_
  refine Go.aloadN C d1_3 (q := 4) rfl rfl rfl ?_
  refine Go.alen C A0 d1_4 (q := 5) rfl ?_
  show Go W n0 (fun v h => v = none ∧ Keep h0 h [x] ∧ Av Z h x .int 2 (iF (upd (upd g 0 (f_mmax (g 0) (f 0))) 1 (f_mmax (g 1) (f 1))))) h0 0 0 5 #[.val (.ref x), .val (.ref y), .val (.int (0 : Int32))] [(.int (2 : Int32)), (.int (0 : Int32))]
  refine Go.icmp C d1_5 (n_ge _ _) (qt := 26) (q := 8) (by decide) (by decide) rfl (fun b1 => absurd b1 (by decide)) (fun _ => ?_)
  refine Go.aloadN C d1_8 (q := 9) rfl rfl rfl ?_
  refine Go.iloadN C d1_9 (q := 10) rfl rfl ?_
  refine Go.aloadN C d1_10 (q := 11) rfl rfl rfl ?_
  refine Go.iloadN C d1_11 (q := 12) rfl rfl ?_
  refine Go.iaload C A0 0 (v := (.int (g 0))) (by decide) (by decide) (by decide) rfl d1_12 (q := 13) rfl ?_
  refine Go.aloadN C d1_13 (q := 14) rfl rfl rfl ?_
  refine Go.iloadN C d1_14 (q := 15) rfl rfl ?_
  refine Go.iaload C A1 0 (v := (.int (f 0))) (by decide) (by decide) (by decide) rfl d1_15 (q := 16) rfl ?_
  refine Go.pureS C (hw _ (List.mem_of_getElem? (i := 5) rfl)) (hw _ (List.mem_of_getElem? (i := 6) rfl)) (hw _ (List.mem_of_getElem? (i := 7) rfl)) (hw _ (List.mem_of_getElem? (i := 8) rfl)) (c_f_mmax W.l Z a0 hw (g 0) (f 0) h0 n0) d1_16 pd__40II_41I (q := 19) rfl rfl (argsL := [(.int (g 0)), (.int (f 0))]) (st := [(.int (0 : Int32)), (.ref x)]) rfl rfl (w := 2) rfl (by decide) (by decide) (by decide) (by decide) ?_
  refine Go.iastore C A0 0 (by decide) (by decide) (by decide) g0 d1_19 (q := 20) rfl ?_
  intro h2 W3
  have F4 := A0.sameI W3
  refine Go.iincR C d1_20 (q := 23) rfl rfl (l' := #[.val (.ref x), .val (.ref y), .val (.int (1 : Int32))]) rfl ?_
  refine Go.goto C d1_23 (q := 2) (by decide) (by decide) ?_
  refine Go.iloadN C d1_2 (q := 3) rfl rfl ?_
  refine Go.aloadN C d1_3 (q := 4) rfl rfl rfl ?_
  refine Go.alen C F4 d1_4 (q := 5) rfl ?_
  show Go W n0 (fun v h => v = none ∧ Keep h0 h [x] ∧ Av Z h x .int 2 (iF (upd (upd g 0 (f_mmax (g 0) (f 0))) 1 (f_mmax (g 1) (f 1))))) h2 0 0 5 #[.val (.ref x), .val (.ref y), .val (.int (1 : Int32))] [(.int (2 : Int32)), (.int (1 : Int32))]
  refine Go.icmp C d1_5 (n_ge _ _) (qt := 26) (q := 8) (by decide) (by decide) rfl (fun b5 => absurd b5 (by decide)) (fun _ => ?_)
  refine Go.aloadN C d1_8 (q := 9) rfl rfl rfl ?_
  refine Go.iloadN C d1_9 (q := 10) rfl rfl ?_
  refine Go.aloadN C d1_10 (q := 11) rfl rfl rfl ?_
  refine Go.iloadN C d1_11 (q := 12) rfl rfl ?_
  refine Go.iaload C F4 1 (v := (.int (g 1))) (by decide) (by decide) (by decide) rfl d1_12 (q := 13) rfl ?_
  refine Go.aloadN C d1_13 (q := 14) rfl rfl rfl ?_
  refine Go.iloadN C d1_14 (q := 15) rfl rfl ?_
  have F6 := (A1.other W3 (Ne.symm ne0))
  refine Go.iaload C F6 1 (v := (.int (f 1))) (by decide) (by decide) (by decide) rfl d1_15 (q := 16) rfl ?_
  refine Go.pureS C (hw _ (List.mem_of_getElem? (i := 5) rfl)) (hw _ (List.mem_of_getElem? (i := 6) rfl)) (hw _ (List.mem_of_getElem? (i := 7) rfl)) (hw _ (List.mem_of_getElem? (i := 8) rfl)) (c_f_mmax W.l Z a0 hw (g 1) (f 1) h2 n0) d1_16 pd__40II_41I (q := 19) rfl rfl (argsL := [(.int (g 1)), (.int (f 1))]) (st := [(.int (1 : Int32)), (.ref x)]) rfl rfl (w := 2) rfl (by decide) (by decide) (by decide) (by decide) ?_
  refine Go.iastore C F4 1 (by decide) (by decide) (by decide) g0 d1_19 (q := 20) rfl ?_
  intro h7 W8
  have F9 := F4.sameI W8
  refine Go.iincR C d1_20 (q := 23) rfl rfl (l' := #[.val (.ref x), .val (.ref y), .val (.int (2 : Int32))]) rfl ?_
  refine Go.goto C d1_23 (q := 2) (by decide) (by decide) ?_
  refine Go.iloadN C d1_2 (q := 3) rfl rfl ?_
  refine Go.aloadN C d1_3 (q := 4) rfl rfl rfl ?_
  refine Go.alen C F9 d1_4 (q := 5) rfl ?_
  show Go W n0 (fun v h => v = none ∧ Keep h0 h [x] ∧ Av Z h x .int 2 (iF (upd (upd g 0 (f_mmax (g 0) (f 0))) 1 (f_mmax (g 1) (f 1))))) h7 0 0 5 #[.val (.ref x), .val (.ref y), .val (.int (2 : Int32))] [(.int (2 : Int32)), (.int (2 : Int32))]
  refine Go.icmp C d1_5 (n_ge _ _) (qt := 26) (q := 8) (by decide) (by decide) rfl (fun _ => ?_) (fun b10 => absurd b10 (by decide))
  exact Go.retV C d1_26 (by decide) (by decide) ⟨rfl, (((Keep.refl h0 [x]).wr W3 (Or.inl (List.mem_of_getElem? (i := 0) rfl))).wr W8 (Or.inl (List.mem_of_getElem? (i := 0) rfl))), F9⟩
set_option maxRecDepth 65536 in
theorem c_join3 (l : Launch) (Z : State) (a0 : Array Value) (hw : ∀ d ∈ tables_1, d.before a0 Z = true) (x : Addr) (y : Addr) (h0 : Heap) (n0 : Nat) (g f : Nat → Int32) (Z0 : n0 ≤ h0.size) (A0 : Av Z h0 x .int 3 (iF g)) (g0 : n0 ≤ x) (A1 : Av Z h0 y .int 3 (iF f)) (ne0 : x ≠ y) : Met1 l Z (⟨"com/example/interlace/interlace/Clocks", "join", "([I[I)V"⟩ : MethodName) prog_10_method_6_code 3 none [] ({ frames := 1, cells := 0, slots := 0, locals := 15 } : Room) #[(.ref x), (.ref y)] h0 n0 (fun v h => v = none ∧ Keep h0 h [x] ∧ Av Z h x .int 3 (iF (upd (upd (upd g 0 (f_mmax (g 0) (f 0))) 1 (f_mmax (g 1) (f 1))) 2 (f_mmax (g 2) (f 2))))) := by
  refine met_of_go (plainFor_of_name pn_com_example_interlace_interlace_Clocks) (fun m => ef_1 m x y) ?_
  intro W hl C
  subst hl
  refine Go.iconst C (0 : Int32) d1_0 (q := 1) rfl rfl ?_
  refine Go.istoreNR C d1_1 (q := 2) rfl (l' := #[.val (.ref x), .val (.ref y), .val (.int (0 : Int32))]) rfl ?_
  refine Go.iloadN C d1_2 (q := 3) rfl rfl ?_
  refine Go.aloadN C d1_3 (q := 4) rfl rfl rfl ?_
  refine Go.alen C A0 d1_4 (q := 5) rfl ?_
  show Go W n0 (fun v h => v = none ∧ Keep h0 h [x] ∧ Av Z h x .int 3 (iF (upd (upd (upd g 0 (f_mmax (g 0) (f 0))) 1 (f_mmax (g 1) (f 1))) 2 (f_mmax (g 2) (f 2))))) h0 0 0 5 #[.val (.ref x), .val (.ref y), .val (.int (0 : Int32))] [(.int (3 : Int32)), (.int (0 : Int32))]
  refine Go.icmp C d1_5 (n_ge _ _) (qt := 26) (q := 8) (by decide) (by decide) rfl (fun b1 => absurd b1 (by decide)) (fun _ => ?_)
  refine Go.aloadN C d1_8 (q := 9) rfl rfl rfl ?_
  refine Go.iloadN C d1_9 (q := 10) rfl rfl ?_
  refine Go.aloadN C d1_10 (q := 11) rfl rfl rfl ?_
  refine Go.iloadN C d1_11 (q := 12) rfl rfl ?_
  refine Go.iaload C A0 0 (v := (.int (g 0))) (by decide) (by decide) (by decide) rfl d1_12 (q := 13) rfl ?_
  refine Go.aloadN C d1_13 (q := 14) rfl rfl rfl ?_
  refine Go.iloadN C d1_14 (q := 15) rfl rfl ?_
  refine Go.iaload C A1 0 (v := (.int (f 0))) (by decide) (by decide) (by decide) rfl d1_15 (q := 16) rfl ?_
  refine Go.pureS C (hw _ (List.mem_of_getElem? (i := 5) rfl)) (hw _ (List.mem_of_getElem? (i := 6) rfl)) (hw _ (List.mem_of_getElem? (i := 7) rfl)) (hw _ (List.mem_of_getElem? (i := 8) rfl)) (c_f_mmax W.l Z a0 hw (g 0) (f 0) h0 n0) d1_16 pd__40II_41I (q := 19) rfl rfl (argsL := [(.int (g 0)), (.int (f 0))]) (st := [(.int (0 : Int32)), (.ref x)]) rfl rfl (w := 2) rfl (by decide) (by decide) (by decide) (by decide) ?_
  refine Go.iastore C A0 0 (by decide) (by decide) (by decide) g0 d1_19 (q := 20) rfl ?_
  intro h2 W3
  have F4 := A0.sameI W3
  refine Go.iincR C d1_20 (q := 23) rfl rfl (l' := #[.val (.ref x), .val (.ref y), .val (.int (1 : Int32))]) rfl ?_
  refine Go.goto C d1_23 (q := 2) (by decide) (by decide) ?_
  refine Go.iloadN C d1_2 (q := 3) rfl rfl ?_
  refine Go.aloadN C d1_3 (q := 4) rfl rfl rfl ?_
  refine Go.alen C F4 d1_4 (q := 5) rfl ?_
  show Go W n0 (fun v h => v = none ∧ Keep h0 h [x] ∧ Av Z h x .int 3 (iF (upd (upd (upd g 0 (f_mmax (g 0) (f 0))) 1 (f_mmax (g 1) (f 1))) 2 (f_mmax (g 2) (f 2))))) h2 0 0 5 #[.val (.ref x), .val (.ref y), .val (.int (1 : Int32))] [(.int (3 : Int32)), (.int (1 : Int32))]
  refine Go.icmp C d1_5 (n_ge _ _) (qt := 26) (q := 8) (by decide) (by decide) rfl (fun b5 => absurd b5 (by decide)) (fun _ => ?_)
  refine Go.aloadN C d1_8 (q := 9) rfl rfl rfl ?_
  refine Go.iloadN C d1_9 (q := 10) rfl rfl ?_
  refine Go.aloadN C d1_10 (q := 11) rfl rfl rfl ?_
  refine Go.iloadN C d1_11 (q := 12) rfl rfl ?_
  refine Go.iaload C F4 1 (v := (.int (g 1))) (by decide) (by decide) (by decide) rfl d1_12 (q := 13) rfl ?_
  refine Go.aloadN C d1_13 (q := 14) rfl rfl rfl ?_
  refine Go.iloadN C d1_14 (q := 15) rfl rfl ?_
  have F6 := (A1.other W3 (Ne.symm ne0))
  refine Go.iaload C F6 1 (v := (.int (f 1))) (by decide) (by decide) (by decide) rfl d1_15 (q := 16) rfl ?_
  refine Go.pureS C (hw _ (List.mem_of_getElem? (i := 5) rfl)) (hw _ (List.mem_of_getElem? (i := 6) rfl)) (hw _ (List.mem_of_getElem? (i := 7) rfl)) (hw _ (List.mem_of_getElem? (i := 8) rfl)) (c_f_mmax W.l Z a0 hw (g 1) (f 1) h2 n0) d1_16 pd__40II_41I (q := 19) rfl rfl (argsL := [(.int (g 1)), (.int (f 1))]) (st := [(.int (1 : Int32)), (.ref x)]) rfl rfl (w := 2) rfl (by decide) (by decide) (by decide) (by decide) ?_
  refine Go.iastore C F4 1 (by decide) (by decide) (by decide) g0 d1_19 (q := 20) rfl ?_
  intro h7 W8
  have F9 := F4.sameI W8
  refine Go.iincR C d1_20 (q := 23) rfl rfl (l' := #[.val (.ref x), .val (.ref y), .val (.int (2 : Int32))]) rfl ?_
  refine Go.goto C d1_23 (q := 2) (by decide) (by decide) ?_
  refine Go.iloadN C d1_2 (q := 3) rfl rfl ?_
  refine Go.aloadN C d1_3 (q := 4) rfl rfl rfl ?_
  refine Go.alen C F9 d1_4 (q := 5) rfl ?_
  show Go W n0 (fun v h => v = none ∧ Keep h0 h [x] ∧ Av Z h x .int 3 (iF (upd (upd (upd g 0 (f_mmax (g 0) (f 0))) 1 (f_mmax (g 1) (f 1))) 2 (f_mmax (g 2) (f 2))))) h7 0 0 5 #[.val (.ref x), .val (.ref y), .val (.int (2 : Int32))] [(.int (3 : Int32)), (.int (2 : Int32))]
  refine Go.icmp C d1_5 (n_ge _ _) (qt := 26) (q := 8) (by decide) (by decide) rfl (fun b10 => absurd b10 (by decide)) (fun _ => ?_)
  refine Go.aloadN C d1_8 (q := 9) rfl rfl rfl ?_
  refine Go.iloadN C d1_9 (q := 10) rfl rfl ?_
  refine Go.aloadN C d1_10 (q := 11) rfl rfl rfl ?_
  refine Go.iloadN C d1_11 (q := 12) rfl rfl ?_
  refine Go.iaload C F9 2 (v := (.int (g 2))) (by decide) (by decide) (by decide) rfl d1_12 (q := 13) rfl ?_
  refine Go.aloadN C d1_13 (q := 14) rfl rfl rfl ?_
  refine Go.iloadN C d1_14 (q := 15) rfl rfl ?_
  have F11 := (F6.other W8 (Ne.symm ne0))
  refine Go.iaload C F11 2 (v := (.int (f 2))) (by decide) (by decide) (by decide) rfl d1_15 (q := 16) rfl ?_
  refine Go.pureS C (hw _ (List.mem_of_getElem? (i := 5) rfl)) (hw _ (List.mem_of_getElem? (i := 6) rfl)) (hw _ (List.mem_of_getElem? (i := 7) rfl)) (hw _ (List.mem_of_getElem? (i := 8) rfl)) (c_f_mmax W.l Z a0 hw (g 2) (f 2) h7 n0) d1_16 pd__40II_41I (q := 19) rfl rfl (argsL := [(.int (g 2)), (.int (f 2))]) (st := [(.int (2 : Int32)), (.ref x)]) rfl rfl (w := 2) rfl (by decide) (by decide) (by decide) (by decide) ?_
  refine Go.iastore C F9 2 (by decide) (by decide) (by decide) g0 d1_19 (q := 20) rfl ?_
  intro h12 W13
  have F14 := F9.sameI W13
  refine Go.iincR C d1_20 (q := 23) rfl rfl (l' := #[.val (.ref x), .val (.ref y), .val (.int (3 : Int32))]) rfl ?_
  refine Go.goto C d1_23 (q := 2) (by decide) (by decide) ?_
  refine Go.iloadN C d1_2 (q := 3) rfl rfl ?_
  refine Go.aloadN C d1_3 (q := 4) rfl rfl rfl ?_
  refine Go.alen C F14 d1_4 (q := 5) rfl ?_
  show Go W n0 (fun v h => v = none ∧ Keep h0 h [x] ∧ Av Z h x .int 3 (iF (upd (upd (upd g 0 (f_mmax (g 0) (f 0))) 1 (f_mmax (g 1) (f 1))) 2 (f_mmax (g 2) (f 2))))) h12 0 0 5 #[.val (.ref x), .val (.ref y), .val (.int (3 : Int32))] [(.int (3 : Int32)), (.int (3 : Int32))]
  refine Go.icmp C d1_5 (n_ge _ _) (qt := 26) (q := 8) (by decide) (by decide) rfl (fun _ => ?_) (fun b15 => absurd b15 (by decide))
  exact Go.retV C d1_26 (by decide) (by decide) ⟨rfl, ((((Keep.refl h0 [x]).wr W3 (Or.inl (List.mem_of_getElem? (i := 0) rfl))).wr W8 (Or.inl (List.mem_of_getElem? (i := 0) rfl))).wr W13 (Or.inl (List.mem_of_getElem? (i := 0) rfl))), F14⟩
theorem own_at4 (p1 v : Int32) (h : v = (p1 &&& (3 : Int32))) : v = 0 ∨ v = 1 ∨ v = 2 ∨ v = 3 := by
  have e := c_mask p1 3 2 (by decide) (by decide)
  rw [← h] at e
  have e0 : (0 : Int32).toInt = 0 := rfl
  have e1 : (1 : Int32).toInt = 1 := rfl
  have e2 : (2 : Int32).toInt = 2 := rfl
  have e3 : (3 : Int32).toInt = 3 := rfl
  simp only [← Int32.toInt_inj]
  omega
theorem own_mx (x y : Int32) : f_mmax x y = f_larger x y := by
  unfold f_mmax f_larger
  rfl
theorem fin0 (p0 : Int64) (p1 : Int32) (p2 : Int64) (p3 : Int32) (p4 : Int32) (hv1 : (1 : Int32) = (p4 &&& (3 : Int32))) (v38 : Int32) (hv38 : v38 = p0.toInt32) (v39 : Int32) (hv39 : v39 = (p0 >>> ((32 : Int32) &&& 0x3f).toInt64).toInt32) (v40 : Int32) (hv40 : v40 = p2.toInt32) (v41 : Int32) (hv41 : v41 = (p2 >>> ((32 : Int32) &&& 0x3f).toInt64).toInt32) (v81 : Int32) (hv81 : v81 = (if (f_mmax v38 v40) = (f_larger v38 v40) then (if v40 = v40 then (1 : Int32) else (0 : Int32)) else (0 : Int32))) : nar .boolean v81 = 1 := by
  simp [own_mx] at hv81
  rw [hv81]
  rfl
theorem fin1 (p0 : Int64) (p1 : Int32) (p2 : Int64) (p3 : Int32) (p4 : Int32) (hv1 : (2 : Int32) = (p4 &&& (3 : Int32))) (v87 : Int32) (hv87 : v87 = p0.toInt32) (v88 : Int32) (hv88 : v88 = (p0 >>> ((32 : Int32) &&& 0x3f).toInt64).toInt32) (v89 : Int32) (hv89 : v89 = p2.toInt32) (v90 : Int32) (hv90 : v90 = (p2 >>> ((32 : Int32) &&& 0x3f).toInt64).toInt32) (v138 : Int32) (hv138 : v138 = (if (f_mmax v87 v89) = (f_larger v87 v89) then (if v89 = v89 then (1 : Int32) else (0 : Int32)) else (0 : Int32))) (v143 : Int32) (hv143 : v143 = (if v138 = (0 : Int32) then (0 : Int32) else (if (f_mmax v88 v90) = (f_larger v88 v90) then (if v90 = v90 then (1 : Int32) else (0 : Int32)) else (0 : Int32)))) : nar .boolean v143 = 1 := by
  simp [own_mx] at hv138
  simp [own_mx, hv138] at hv143
  rw [hv143]
  rfl
theorem fin2 (p0 : Int64) (p1 : Int32) (p2 : Int64) (p3 : Int32) (p4 : Int32) (hv1 : (3 : Int32) = (p4 &&& (3 : Int32))) (v149 : Int32) (hv149 : v149 = p0.toInt32) (v150 : Int32) (hv150 : v150 = (p0 >>> ((32 : Int32) &&& 0x3f).toInt64).toInt32) (v151 : Int32) (hv151 : v151 = p2.toInt32) (v152 : Int32) (hv152 : v152 = (p2 >>> ((32 : Int32) &&& 0x3f).toInt64).toInt32) (v208 : Int32) (hv208 : v208 = (if (f_mmax v149 v151) = (f_larger v149 v151) then (if v151 = v151 then (1 : Int32) else (0 : Int32)) else (0 : Int32))) (v213 : Int32) (hv213 : v213 = (if v208 = (0 : Int32) then (0 : Int32) else (if (f_mmax v150 v152) = (f_larger v150 v152) then (if v152 = v152 then (1 : Int32) else (0 : Int32)) else (0 : Int32)))) (v219 : Int32) (hv219 : v219 = (if v213 = (0 : Int32) then (0 : Int32) else (if (f_mmax p1 p3) = (f_larger p1 p3) then (if p3 = p3 then (1 : Int32) else (0 : Int32)) else (0 : Int32)))) : nar .boolean v219 = 1 := by
  simp [own_mx] at hv208
  simp [own_mx, hv208] at hv213
  simp [own_mx, hv213] at hv219
  rw [hv219]
  rfl
set_option maxRecDepth 65536 in
set_option maxHeartbeats 4000000 in
theorem rm0 (l : Launch) (Z : State) (a0 : Array Value) (hw : ∀ d ∈ tables_1, d.before a0 Z = true) (p0 : Int64) (p1 : Int32) (p2 : Int64) (p3 : Int32) (p4 : Int32) (h0 : Heap) (n0 : Nat) (Z0 : n0 ≤ h0.size) : Met1 l Z x code maxLocals ret tables_1 room_1 #[(.long p0), (.int p1), (.long p2), (.int p3), (.int p4)] h0 n0 QL := by
  refine met_of_go (plainFor_of_name pn_com_example_interlace_interlace_ClocksJoinPinLaw) (fun m => ef_0 m p0 p1 p2 p3 p4) ?_
  intro W hl C
  subst hl
  refine Go.iload C at_0 (q := 2) rfl rfl ?_
  refine Go.iconst C (3 : Int32) at_2 (q := 3) rfl rfl ?_
  refine Go.iand C at_3 (q := 4) rfl ?_
  refine Go.istore C at_4 (q := 6) rfl (fun z => #[.val (.long p0), .second, .val (.int p1), .val (.long p2), .second, .val (.int p3), .val (.int p4), .val (.int z), .unset, .unset, .unset, .unset, .unset, .unset, .unset]) (fun _ => rfl) ?_
  intro v1 hv1
  rcases (own_at4 p4 v1 hv1) with rfl | rfl | rfl | rfl
  ·
    refine Go.lloadN C at_6 (q := 7) rfl rfl ?_
    refine Go.l2i C at_7 (q := 8) rfl ?_
    refine Go.istore C at_8 (q := 10) rfl (fun z => #[.val (.long p0), .second, .val (.int p1), .val (.long p2), .second, .val (.int p3), .val (.int p4), .val (.int (0 : Int32)), .val (.int z), .unset, .unset, .unset, .unset, .unset, .unset]) (fun _ => rfl) ?_
    intro v2 hv2
    refine Go.lloadN C at_10 (q := 11) rfl rfl ?_
    refine Go.bipush C (32 : Int32) at_11 (q := 13) rfl rfl ?_
    refine Go.lshr C at_13 (q := 14) rfl ?_
    refine Go.l2i C at_14 (q := 15) rfl ?_
    refine Go.istore C at_15 (q := 17) rfl (fun z => #[.val (.long p0), .second, .val (.int p1), .val (.long p2), .second, .val (.int p3), .val (.int p4), .val (.int (0 : Int32)), .val (.int v2), .val (.int z), .unset, .unset, .unset, .unset, .unset]) (fun _ => rfl) ?_
    intro v3 hv3
    refine Go.lloadN C at_17 (q := 18) rfl rfl ?_
    refine Go.l2i C at_18 (q := 19) rfl ?_
    refine Go.istore C at_19 (q := 21) rfl (fun z => #[.val (.long p0), .second, .val (.int p1), .val (.long p2), .second, .val (.int p3), .val (.int p4), .val (.int (0 : Int32)), .val (.int v2), .val (.int v3), .val (.int z), .unset, .unset, .unset, .unset]) (fun _ => rfl) ?_
    intro v4 hv4
    refine Go.lloadN C at_21 (q := 22) rfl rfl ?_
    refine Go.bipush C (32 : Int32) at_22 (q := 24) rfl rfl ?_
    refine Go.lshr C at_24 (q := 25) rfl ?_
    refine Go.l2i C at_25 (q := 26) rfl ?_
    refine Go.istore C at_26 (q := 28) rfl (fun z => #[.val (.long p0), .second, .val (.int p1), .val (.long p2), .second, .val (.int p3), .val (.int p4), .val (.int (0 : Int32)), .val (.int v2), .val (.int v3), .val (.int v4), .val (.int z), .unset, .unset, .unset]) (fun _ => rfl) ?_
    intro v5 hv5
    refine Go.iload C at_28 (q := 30) rfl rfl ?_
    refine Go.newP C (hw _ (List.mem_of_getElem? (i := 0) rfl)) (by decide) (cap := 0) (by decide) (by decide) at_30 (q := 32) rfl (k' := 1) rfl (n' := 0) rfl (by decide) (by decide) ?_
    intro h6 a7 cA8 g9 E10 Fn11
    have g13 : n0 ≤ a7 := g9 ▸ Z0
    have F12 : Av Z h6 a7 .int 0 (iF (fun _ => (0 : Int32))) := Av.of Fn11
    refine Go.astore C at_32 (q := 34) rfl (l' := #[.val (.long p0), .second, .val (.int p1), .val (.long p2), .second, .val (.int p3), .val (.int p4), .val (.int (0 : Int32)), .val (.int v2), .val (.int v3), .val (.int v4), .val (.int v5), .val (.ref a7), .unset, .unset]) rfl rfl ?_
    refine Go.iload C at_34 (q := 36) rfl rfl ?_
    refine Go.newP C (hw _ (List.mem_of_getElem? (i := 0) rfl)) (by decide) (cap := 0) (by decide) (by decide) at_36 (q := 38) rfl (k' := 2) rfl (n' := 0) rfl (by decide) (by decide) ?_
    intro h14 a15 cA16 g17 E18 Fn19
    have F21 := (Nat.le_trans Z0 E10.1)
    have g22 : n0 ≤ a15 := g17 ▸ F21
    have ne23 : a7 ≠ a15 := Nat.ne_of_lt (g17 ▸ F12.lt)
    have F20 : Av Z h14 a15 .int 0 (iF (fun _ => (0 : Int32))) := Av.of Fn19
    refine Go.astore C at_38 (q := 40) rfl (l' := #[.val (.long p0), .second, .val (.int p1), .val (.long p2), .second, .val (.int p3), .val (.int p4), .val (.int (0 : Int32)), .val (.int v2), .val (.int v3), .val (.int v4), .val (.int v5), .val (.ref a7), .val (.ref a15), .unset]) rfl rfl ?_
    refine Go.iload C at_40 (q := 42) rfl rfl ?_
    refine Go.if0 C at_42 (z_le _) (qt := 57) (q := 45) (by decide) (by decide) rfl (fun _ => ?_) (fun b24 => absurd b24 (by decide))
    refine Go.iload C at_57 (q := 59) rfl rfl ?_
    refine Go.iconst C (1 : Int32) at_59 (q := 60) rfl rfl ?_
    refine Go.icmp C at_60 (n_le _ _) (qt := 75) (q := 63) (by decide) (by decide) rfl (fun _ => ?_) (fun b25 => absurd b25 (by decide))
    refine Go.iload C at_75 (q := 77) rfl rfl ?_
    refine Go.iconst C (2 : Int32) at_77 (q := 78) rfl rfl ?_
    refine Go.icmp C at_78 (n_le _ _) (qt := 92) (q := 81) (by decide) (by decide) rfl (fun _ => ?_) (fun b26 => absurd b26 (by decide))
    refine Go.aload C at_92 (q := 94) rfl rfl rfl ?_
    refine Go.aload C at_94 (q := 96) rfl rfl rfl ?_
    have F27 := (Nat.le_trans F21 E18.1)
    have F28 := (F12.ext E18)
    refine Go.callS C (hw _ (List.mem_of_getElem? (i := 1) rfl)) (hw _ (List.mem_of_getElem? (i := 2) rfl)) (hw _ (List.mem_of_getElem? (i := 3) rfl)) (hw _ (List.mem_of_getElem? (i := 4) rfl)) (c_join0 W.l Z a0 hw a7 a15 h14 n0 (fun _ => (0 : Int32)) (fun _ => (0 : Int32)) F27 F28 g13 F20 ne23) at_96 pd__40_91I_91I_41V (q := 99) rfl rfl (argsL := [(.ref a7), (.ref a15)]) (st := []) rfl rfl (w := 0) rfl (by decide) (by decide) (k' := 2) rfl (n' := 0) rfl (by decide) (by decide) ?_
    intro v h29 q
    obtain ⟨rfl, K30, F31⟩ := q
    change Av Z h29 a7 .int 0 (iF (fun _ => (0 : Int32))) at F31
    show Go W n0 QL h29 2 0 99 #[.val (.long p0), .second, .val (.int p1), .val (.long p2), .second, .val (.int p3), .val (.int p4), .val (.int (0 : Int32)), .val (.int v2), .val (.int v3), .val (.int v4), .val (.int v5), .val (.ref a7), .val (.ref a15), .unset] []
    refine Go.aload C at_99 (q := 101) rfl rfl rfl ?_
    refine Go.alen C F31 at_101 (q := 102) rfl ?_
    show Go W n0 QL h29 2 0 102 #[.val (.long p0), .second, .val (.int p1), .val (.long p2), .second, .val (.int p3), .val (.int p4), .val (.int (0 : Int32)), .val (.int v2), .val (.int v3), .val (.int v4), .val (.int v5), .val (.ref a7), .val (.ref a15), .unset] [(.int (0 : Int32))]
    refine Go.iload C at_102 (q := 104) rfl rfl ?_
    refine Go.icmp C at_104 (n_ne _ _) (qt := 119) (q := 107) (by decide) (by decide) rfl (fun b32 => absurd b32 (by decide)) (fun _ => ?_)
    refine Go.aload C at_107 (q := 109) rfl rfl rfl ?_
    have F33 := (F20.keep K30 (ninS (Ne.symm ne23) nin0))
    refine Go.alen C F33 at_109 (q := 110) rfl ?_
    show Go W n0 QL h29 2 0 110 #[.val (.long p0), .second, .val (.int p1), .val (.long p2), .second, .val (.int p3), .val (.int p4), .val (.int (0 : Int32)), .val (.int v2), .val (.int v3), .val (.int v4), .val (.int v5), .val (.ref a7), .val (.ref a15), .unset] [(.int (0 : Int32))]
    refine Go.iload C at_110 (q := 112) rfl rfl ?_
    refine Go.icmp C at_112 (n_ne _ _) (qt := 119) (q := 115) (by decide) (by decide) rfl (fun b34 => absurd b34 (by decide)) (fun _ => ?_)
    refine Go.iconst C (1 : Int32) at_115 (q := 116) rfl rfl ?_
    refine Go.goto C at_116 (q := 120) (by decide) (by decide) ?_
    refine Go.istoreR C at_120 (q := 122) rfl (l' := #[.val (.long p0), .second, .val (.int p1), .val (.long p2), .second, .val (.int p3), .val (.int p4), .val (.int (0 : Int32)), .val (.int v2), .val (.int v3), .val (.int v4), .val (.int v5), .val (.ref a7), .val (.ref a15), .val (.int (1 : Int32))]) rfl ?_
    refine Go.iload C at_122 (q := 124) rfl rfl ?_
    refine Go.if0 C at_124 (z_le _) (qt := 162) (q := 127) (by decide) (by decide) rfl (fun _ => ?_) (fun b35 => absurd b35 (by decide))
    refine Go.iload C at_162 (q := 164) rfl rfl ?_
    refine Go.iconst C (1 : Int32) at_164 (q := 165) rfl rfl ?_
    refine Go.icmp C at_165 (n_le _ _) (qt := 203) (q := 168) (by decide) (by decide) rfl (fun _ => ?_) (fun b36 => absurd b36 (by decide))
    refine Go.iload C at_203 (q := 205) rfl rfl ?_
    refine Go.iconst C (2 : Int32) at_205 (q := 206) rfl rfl ?_
    refine Go.icmp C at_206 (n_le _ _) (qt := 243) (q := 209) (by decide) (by decide) rfl (fun _ => ?_) (fun b37 => absurd b37 (by decide))
    refine Go.iload C at_243 (q := 245) rfl rfl ?_
    exact Go.retZ (t := .boolean) (by simp) C at_245 (by decide) (by decide) (show some (Value.int _) = some (.int 1) from rfl)
  ·
    refine Go.lloadN C at_6 (q := 7) rfl rfl ?_
    refine Go.l2i C at_7 (q := 8) rfl ?_
    refine Go.istore C at_8 (q := 10) rfl (fun z => #[.val (.long p0), .second, .val (.int p1), .val (.long p2), .second, .val (.int p3), .val (.int p4), .val (.int (1 : Int32)), .val (.int z), .unset, .unset, .unset, .unset, .unset, .unset]) (fun _ => rfl) ?_
    intro v38 hv38
    refine Go.lloadN C at_10 (q := 11) rfl rfl ?_
    refine Go.bipush C (32 : Int32) at_11 (q := 13) rfl rfl ?_
    refine Go.lshr C at_13 (q := 14) rfl ?_
    refine Go.l2i C at_14 (q := 15) rfl ?_
    refine Go.istore C at_15 (q := 17) rfl (fun z => #[.val (.long p0), .second, .val (.int p1), .val (.long p2), .second, .val (.int p3), .val (.int p4), .val (.int (1 : Int32)), .val (.int v38), .val (.int z), .unset, .unset, .unset, .unset, .unset]) (fun _ => rfl) ?_
    intro v39 hv39
    refine Go.lloadN C at_17 (q := 18) rfl rfl ?_
    refine Go.l2i C at_18 (q := 19) rfl ?_
    refine Go.istore C at_19 (q := 21) rfl (fun z => #[.val (.long p0), .second, .val (.int p1), .val (.long p2), .second, .val (.int p3), .val (.int p4), .val (.int (1 : Int32)), .val (.int v38), .val (.int v39), .val (.int z), .unset, .unset, .unset, .unset]) (fun _ => rfl) ?_
    intro v40 hv40
    refine Go.lloadN C at_21 (q := 22) rfl rfl ?_
    refine Go.bipush C (32 : Int32) at_22 (q := 24) rfl rfl ?_
    refine Go.lshr C at_24 (q := 25) rfl ?_
    refine Go.l2i C at_25 (q := 26) rfl ?_
    refine Go.istore C at_26 (q := 28) rfl (fun z => #[.val (.long p0), .second, .val (.int p1), .val (.long p2), .second, .val (.int p3), .val (.int p4), .val (.int (1 : Int32)), .val (.int v38), .val (.int v39), .val (.int v40), .val (.int z), .unset, .unset, .unset]) (fun _ => rfl) ?_
    intro v41 hv41
    refine Go.iload C at_28 (q := 30) rfl rfl ?_
    refine Go.newP C (hw _ (List.mem_of_getElem? (i := 0) rfl)) (by decide) (cap := 1) (by decide) (by decide) at_30 (q := 32) rfl (k' := 1) rfl (n' := 1) rfl (by decide) (by decide) ?_
    intro h42 a43 cA44 g45 E46 Fn47
    have g49 : n0 ≤ a43 := g45 ▸ Z0
    have F48 : Av Z h42 a43 .int 1 (iF (fun _ => (0 : Int32))) := Av.of Fn47
    refine Go.astore C at_32 (q := 34) rfl (l' := #[.val (.long p0), .second, .val (.int p1), .val (.long p2), .second, .val (.int p3), .val (.int p4), .val (.int (1 : Int32)), .val (.int v38), .val (.int v39), .val (.int v40), .val (.int v41), .val (.ref a43), .unset, .unset]) rfl rfl ?_
    refine Go.iload C at_34 (q := 36) rfl rfl ?_
    refine Go.newP C (hw _ (List.mem_of_getElem? (i := 0) rfl)) (by decide) (cap := 1) (by decide) (by decide) at_36 (q := 38) rfl (k' := 2) rfl (n' := 2) rfl (by decide) (by decide) ?_
    intro h50 a51 cA52 g53 E54 Fn55
    have F57 := (Nat.le_trans Z0 E46.1)
    have g58 : n0 ≤ a51 := g53 ▸ F57
    have ne59 : a43 ≠ a51 := Nat.ne_of_lt (g53 ▸ F48.lt)
    have F56 : Av Z h50 a51 .int 1 (iF (fun _ => (0 : Int32))) := Av.of Fn55
    refine Go.astore C at_38 (q := 40) rfl (l' := #[.val (.long p0), .second, .val (.int p1), .val (.long p2), .second, .val (.int p3), .val (.int p4), .val (.int (1 : Int32)), .val (.int v38), .val (.int v39), .val (.int v40), .val (.int v41), .val (.ref a43), .val (.ref a51), .unset]) rfl rfl ?_
    refine Go.iload C at_40 (q := 42) rfl rfl ?_
    refine Go.if0 C at_42 (z_le _) (qt := 57) (q := 45) (by decide) (by decide) rfl (fun b60 => absurd b60 (by decide)) (fun _ => ?_)
    refine Go.aload C at_45 (q := 47) rfl rfl rfl ?_
    refine Go.iconst C (0 : Int32) at_47 (q := 48) rfl rfl ?_
    refine Go.iload C at_48 (q := 50) rfl rfl ?_
    have F61 := (F48.ext E54)
    refine Go.iastore C F61 0 (by decide) (by decide) (by decide) g49 at_50 (q := 51) rfl ?_
    intro h62 W63
    have F64 := F61.sameI W63
    refine Go.aload C at_51 (q := 53) rfl rfl rfl ?_
    refine Go.iconst C (0 : Int32) at_53 (q := 54) rfl rfl ?_
    refine Go.iload C at_54 (q := 56) rfl rfl ?_
    have F65 := (F56.other W63 (Ne.symm ne59))
    refine Go.iastore C F65 0 (by decide) (by decide) (by decide) g58 at_56 (q := 57) rfl ?_
    intro h66 W67
    have F68 := F65.sameI W67
    refine Go.iload C at_57 (q := 59) rfl rfl ?_
    refine Go.iconst C (1 : Int32) at_59 (q := 60) rfl rfl ?_
    refine Go.icmp C at_60 (n_le _ _) (qt := 75) (q := 63) (by decide) (by decide) rfl (fun _ => ?_) (fun b69 => absurd b69 (by decide))
    refine Go.iload C at_75 (q := 77) rfl rfl ?_
    refine Go.iconst C (2 : Int32) at_77 (q := 78) rfl rfl ?_
    refine Go.icmp C at_78 (n_le _ _) (qt := 92) (q := 81) (by decide) (by decide) rfl (fun _ => ?_) (fun b70 => absurd b70 (by decide))
    refine Go.aload C at_92 (q := 94) rfl rfl rfl ?_
    refine Go.aload C at_94 (q := 96) rfl rfl rfl ?_
    have F71 := (Nat.le_trans (Nat.le_trans (Nat.le_trans F57 E54.1) (Nat.le_of_eq W63.size.symm)) (Nat.le_of_eq W67.size.symm))
    have F72 := (F64.other W67 ne59)
    refine Go.callS C (hw _ (List.mem_of_getElem? (i := 1) rfl)) (hw _ (List.mem_of_getElem? (i := 2) rfl)) (hw _ (List.mem_of_getElem? (i := 3) rfl)) (hw _ (List.mem_of_getElem? (i := 4) rfl)) (c_join1 W.l Z a0 hw a43 a51 h66 n0 (upd (fun _ => (0 : Int32)) 0 v38) (upd (fun _ => (0 : Int32)) 0 v40) F71 F72 g49 F68 ne59) at_96 pd__40_91I_91I_41V (q := 99) rfl rfl (argsL := [(.ref a43), (.ref a51)]) (st := []) rfl rfl (w := 0) rfl (by decide) (by decide) (k' := 2) rfl (n' := 2) rfl (by decide) (by decide) ?_
    intro v h73 q
    obtain ⟨rfl, K74, F75⟩ := q
    change Av Z h73 a43 .int 1 (iF (upd (upd (fun _ => (0 : Int32)) 0 v38) 0 (f_mmax v38 v40))) at F75
    show Go W n0 QL h73 2 2 99 #[.val (.long p0), .second, .val (.int p1), .val (.long p2), .second, .val (.int p3), .val (.int p4), .val (.int (1 : Int32)), .val (.int v38), .val (.int v39), .val (.int v40), .val (.int v41), .val (.ref a43), .val (.ref a51), .unset] []
    refine Go.aload C at_99 (q := 101) rfl rfl rfl ?_
    refine Go.alen C F75 at_101 (q := 102) rfl ?_
    show Go W n0 QL h73 2 2 102 #[.val (.long p0), .second, .val (.int p1), .val (.long p2), .second, .val (.int p3), .val (.int p4), .val (.int (1 : Int32)), .val (.int v38), .val (.int v39), .val (.int v40), .val (.int v41), .val (.ref a43), .val (.ref a51), .unset] [(.int (1 : Int32))]
    refine Go.iload C at_102 (q := 104) rfl rfl ?_
    refine Go.icmp C at_104 (n_ne _ _) (qt := 119) (q := 107) (by decide) (by decide) rfl (fun b76 => absurd b76 (by decide)) (fun _ => ?_)
    refine Go.aload C at_107 (q := 109) rfl rfl rfl ?_
    have F77 := (F68.keep K74 (ninS (Ne.symm ne59) nin0))
    refine Go.alen C F77 at_109 (q := 110) rfl ?_
    show Go W n0 QL h73 2 2 110 #[.val (.long p0), .second, .val (.int p1), .val (.long p2), .second, .val (.int p3), .val (.int p4), .val (.int (1 : Int32)), .val (.int v38), .val (.int v39), .val (.int v40), .val (.int v41), .val (.ref a43), .val (.ref a51), .unset] [(.int (1 : Int32))]
    refine Go.iload C at_110 (q := 112) rfl rfl ?_
    refine Go.icmp C at_112 (n_ne _ _) (qt := 119) (q := 115) (by decide) (by decide) rfl (fun b78 => absurd b78 (by decide)) (fun _ => ?_)
    refine Go.iconst C (1 : Int32) at_115 (q := 116) rfl rfl ?_
    refine Go.goto C at_116 (q := 120) (by decide) (by decide) ?_
    refine Go.istoreR C at_120 (q := 122) rfl (l' := #[.val (.long p0), .second, .val (.int p1), .val (.long p2), .second, .val (.int p3), .val (.int p4), .val (.int (1 : Int32)), .val (.int v38), .val (.int v39), .val (.int v40), .val (.int v41), .val (.ref a43), .val (.ref a51), .val (.int (1 : Int32))]) rfl ?_
    refine Go.iload C at_122 (q := 124) rfl rfl ?_
    refine Go.if0 C at_124 (z_le _) (qt := 162) (q := 127) (by decide) (by decide) rfl (fun b79 => absurd b79 (by decide)) (fun _ => ?_)
    refine Go.iload C at_127 (q := 129) rfl rfl ?_
    refine Go.if0 C at_129 (z_eq _) (qt := 159) (q := 132) (by decide) (by decide) rfl (fun b80 => absurd b80 (by decide)) (fun _ => ?_)
    refine Go.aload C at_132 (q := 134) rfl rfl rfl ?_
    refine Go.iconst C (0 : Int32) at_134 (q := 135) rfl rfl ?_
    refine Go.iaload C F75 0 (v := (.int (f_mmax v38 v40))) (by decide) (by decide) (by decide) rfl at_135 (q := 136) rfl ?_
    refine Go.iload C at_136 (q := 138) rfl rfl ?_
    refine Go.iload C at_138 (q := 140) rfl rfl ?_
    refine Go.pureS C (hw _ (List.mem_of_getElem? (i := 9) rfl)) (hw _ (List.mem_of_getElem? (i := 10) rfl)) (hw _ (List.mem_of_getElem? (i := 11) rfl)) (hw _ (List.mem_of_getElem? (i := 12) rfl)) (c_f_larger W.l Z a0 hw v38 v40 h73 n0) at_140 pd__40II_41I (q := 143) rfl rfl (argsL := [(.int v38), (.int v40)]) (st := [(.int (f_mmax v38 v40))]) rfl rfl (w := 1) rfl (by decide) (by decide) (by decide) (by decide) ?_
    suffices J82 : ∀ v81 : Int32, v81 = (if (f_mmax v38 v40) = (f_larger v38 v40) then (if v40 = v40 then (1 : Int32) else (0 : Int32)) else (0 : Int32)) → Go W n0 QL h73 2 2 160 #[.val (.long p0), .second, .val (.int p1), .val (.long p2), .second, .val (.int p3), .val (.int p4), .val (.int (1 : Int32)), .val (.int v38), .val (.int v39), .val (.int v40), .val (.int v41), .val (.ref a43), .val (.ref a51), .val (.int (1 : Int32))] [(.int v81)] by
      refine Go.icmp C at_143 (n_ne _ _) (qt := 159) (q := 146) (by decide) (by decide) rfl (fun b83 => ?_) (fun b83 => ?_)
      ·
        refine Go.iconst C (0 : Int32) at_159 (q := 160) rfl rfl ?_
        exact J82 _ (by rw [if_neg b83])
      ·
        have b83 := Classical.not_not.mp b83
        refine Go.aload C at_146 (q := 148) rfl rfl rfl ?_
        refine Go.iconst C (0 : Int32) at_148 (q := 149) rfl rfl ?_
        refine Go.iaload C F77 0 (v := (.int v40)) (by decide) (by decide) (by decide) rfl at_149 (q := 150) rfl ?_
        refine Go.iload C at_150 (q := 152) rfl rfl ?_
        refine Go.icmp C at_152 (n_ne _ _) (qt := 159) (q := 155) (by decide) (by decide) rfl (fun b84 => ?_) (fun b84 => ?_)
        ·
          refine Go.iconst C (0 : Int32) at_159 (q := 160) rfl rfl ?_
          exact J82 _ (by rw [if_pos b83, if_neg b84])
        ·
          have b84 := Classical.not_not.mp b84
          refine Go.iconst C (1 : Int32) at_155 (q := 156) rfl rfl ?_
          refine Go.goto C at_156 (q := 160) (by decide) (by decide) ?_
          exact J82 _ (by rw [if_pos b83, if_pos b84])
    intro v81 hv81
    refine Go.istoreR C at_160 (q := 162) rfl (l' := #[.val (.long p0), .second, .val (.int p1), .val (.long p2), .second, .val (.int p3), .val (.int p4), .val (.int (1 : Int32)), .val (.int v38), .val (.int v39), .val (.int v40), .val (.int v41), .val (.ref a43), .val (.ref a51), .val (.int v81)]) rfl ?_
    refine Go.iload C at_162 (q := 164) rfl rfl ?_
    refine Go.iconst C (1 : Int32) at_164 (q := 165) rfl rfl ?_
    refine Go.icmp C at_165 (n_le _ _) (qt := 203) (q := 168) (by decide) (by decide) rfl (fun _ => ?_) (fun b85 => absurd b85 (by decide))
    refine Go.iload C at_203 (q := 205) rfl rfl ?_
    refine Go.iconst C (2 : Int32) at_205 (q := 206) rfl rfl ?_
    refine Go.icmp C at_206 (n_le _ _) (qt := 243) (q := 209) (by decide) (by decide) rfl (fun _ => ?_) (fun b86 => absurd b86 (by decide))
    refine Go.iload C at_243 (q := 245) rfl rfl ?_
    exact Go.retZ (t := .boolean) (by simp) C at_245 (by decide) (by decide) (congrArg (fun z => some (Value.int z)) (fin0 p0 p1 p2 p3 p4  hv1 v38 hv38 v39 hv39 v40 hv40 v41 hv41 v81 hv81))
  ·
    refine Go.lloadN C at_6 (q := 7) rfl rfl ?_
    refine Go.l2i C at_7 (q := 8) rfl ?_
    refine Go.istore C at_8 (q := 10) rfl (fun z => #[.val (.long p0), .second, .val (.int p1), .val (.long p2), .second, .val (.int p3), .val (.int p4), .val (.int (2 : Int32)), .val (.int z), .unset, .unset, .unset, .unset, .unset, .unset]) (fun _ => rfl) ?_
    intro v87 hv87
    refine Go.lloadN C at_10 (q := 11) rfl rfl ?_
    refine Go.bipush C (32 : Int32) at_11 (q := 13) rfl rfl ?_
    refine Go.lshr C at_13 (q := 14) rfl ?_
    refine Go.l2i C at_14 (q := 15) rfl ?_
    refine Go.istore C at_15 (q := 17) rfl (fun z => #[.val (.long p0), .second, .val (.int p1), .val (.long p2), .second, .val (.int p3), .val (.int p4), .val (.int (2 : Int32)), .val (.int v87), .val (.int z), .unset, .unset, .unset, .unset, .unset]) (fun _ => rfl) ?_
    intro v88 hv88
    refine Go.lloadN C at_17 (q := 18) rfl rfl ?_
    refine Go.l2i C at_18 (q := 19) rfl ?_
    refine Go.istore C at_19 (q := 21) rfl (fun z => #[.val (.long p0), .second, .val (.int p1), .val (.long p2), .second, .val (.int p3), .val (.int p4), .val (.int (2 : Int32)), .val (.int v87), .val (.int v88), .val (.int z), .unset, .unset, .unset, .unset]) (fun _ => rfl) ?_
    intro v89 hv89
    refine Go.lloadN C at_21 (q := 22) rfl rfl ?_
    refine Go.bipush C (32 : Int32) at_22 (q := 24) rfl rfl ?_
    refine Go.lshr C at_24 (q := 25) rfl ?_
    refine Go.l2i C at_25 (q := 26) rfl ?_
    refine Go.istore C at_26 (q := 28) rfl (fun z => #[.val (.long p0), .second, .val (.int p1), .val (.long p2), .second, .val (.int p3), .val (.int p4), .val (.int (2 : Int32)), .val (.int v87), .val (.int v88), .val (.int v89), .val (.int z), .unset, .unset, .unset]) (fun _ => rfl) ?_
    intro v90 hv90
    refine Go.iload C at_28 (q := 30) rfl rfl ?_
    refine Go.newP C (hw _ (List.mem_of_getElem? (i := 0) rfl)) (by decide) (cap := 2) (by decide) (by decide) at_30 (q := 32) rfl (k' := 1) rfl (n' := 2) rfl (by decide) (by decide) ?_
    intro h91 a92 cA93 g94 E95 Fn96
    have g98 : n0 ≤ a92 := g94 ▸ Z0
    have F97 : Av Z h91 a92 .int 2 (iF (fun _ => (0 : Int32))) := Av.of Fn96
    refine Go.astore C at_32 (q := 34) rfl (l' := #[.val (.long p0), .second, .val (.int p1), .val (.long p2), .second, .val (.int p3), .val (.int p4), .val (.int (2 : Int32)), .val (.int v87), .val (.int v88), .val (.int v89), .val (.int v90), .val (.ref a92), .unset, .unset]) rfl rfl ?_
    refine Go.iload C at_34 (q := 36) rfl rfl ?_
    refine Go.newP C (hw _ (List.mem_of_getElem? (i := 0) rfl)) (by decide) (cap := 2) (by decide) (by decide) at_36 (q := 38) rfl (k' := 2) rfl (n' := 4) rfl (by decide) (by decide) ?_
    intro h99 a100 cA101 g102 E103 Fn104
    have F106 := (Nat.le_trans Z0 E95.1)
    have g107 : n0 ≤ a100 := g102 ▸ F106
    have ne108 : a92 ≠ a100 := Nat.ne_of_lt (g102 ▸ F97.lt)
    have F105 : Av Z h99 a100 .int 2 (iF (fun _ => (0 : Int32))) := Av.of Fn104
    refine Go.astore C at_38 (q := 40) rfl (l' := #[.val (.long p0), .second, .val (.int p1), .val (.long p2), .second, .val (.int p3), .val (.int p4), .val (.int (2 : Int32)), .val (.int v87), .val (.int v88), .val (.int v89), .val (.int v90), .val (.ref a92), .val (.ref a100), .unset]) rfl rfl ?_
    refine Go.iload C at_40 (q := 42) rfl rfl ?_
    refine Go.if0 C at_42 (z_le _) (qt := 57) (q := 45) (by decide) (by decide) rfl (fun b109 => absurd b109 (by decide)) (fun _ => ?_)
    refine Go.aload C at_45 (q := 47) rfl rfl rfl ?_
    refine Go.iconst C (0 : Int32) at_47 (q := 48) rfl rfl ?_
    refine Go.iload C at_48 (q := 50) rfl rfl ?_
    have F110 := (F97.ext E103)
    refine Go.iastore C F110 0 (by decide) (by decide) (by decide) g98 at_50 (q := 51) rfl ?_
    intro h111 W112
    have F113 := F110.sameI W112
    refine Go.aload C at_51 (q := 53) rfl rfl rfl ?_
    refine Go.iconst C (0 : Int32) at_53 (q := 54) rfl rfl ?_
    refine Go.iload C at_54 (q := 56) rfl rfl ?_
    have F114 := (F105.other W112 (Ne.symm ne108))
    refine Go.iastore C F114 0 (by decide) (by decide) (by decide) g107 at_56 (q := 57) rfl ?_
    intro h115 W116
    have F117 := F114.sameI W116
    refine Go.iload C at_57 (q := 59) rfl rfl ?_
    refine Go.iconst C (1 : Int32) at_59 (q := 60) rfl rfl ?_
    refine Go.icmp C at_60 (n_le _ _) (qt := 75) (q := 63) (by decide) (by decide) rfl (fun b118 => absurd b118 (by decide)) (fun _ => ?_)
    refine Go.aload C at_63 (q := 65) rfl rfl rfl ?_
    refine Go.iconst C (1 : Int32) at_65 (q := 66) rfl rfl ?_
    refine Go.iload C at_66 (q := 68) rfl rfl ?_
    have F119 := (F113.other W116 ne108)
    refine Go.iastore C F119 1 (by decide) (by decide) (by decide) g98 at_68 (q := 69) rfl ?_
    intro h120 W121
    have F122 := F119.sameI W121
    refine Go.aload C at_69 (q := 71) rfl rfl rfl ?_
    refine Go.iconst C (1 : Int32) at_71 (q := 72) rfl rfl ?_
    refine Go.iload C at_72 (q := 74) rfl rfl ?_
    have F123 := (F117.other W121 (Ne.symm ne108))
    refine Go.iastore C F123 1 (by decide) (by decide) (by decide) g107 at_74 (q := 75) rfl ?_
    intro h124 W125
    have F126 := F123.sameI W125
    refine Go.iload C at_75 (q := 77) rfl rfl ?_
    refine Go.iconst C (2 : Int32) at_77 (q := 78) rfl rfl ?_
    refine Go.icmp C at_78 (n_le _ _) (qt := 92) (q := 81) (by decide) (by decide) rfl (fun _ => ?_) (fun b127 => absurd b127 (by decide))
    refine Go.aload C at_92 (q := 94) rfl rfl rfl ?_
    refine Go.aload C at_94 (q := 96) rfl rfl rfl ?_
    have F128 := (Nat.le_trans (Nat.le_trans (Nat.le_trans (Nat.le_trans (Nat.le_trans F106 E103.1) (Nat.le_of_eq W112.size.symm)) (Nat.le_of_eq W116.size.symm)) (Nat.le_of_eq W121.size.symm)) (Nat.le_of_eq W125.size.symm))
    have F129 := (F122.other W125 ne108)
    refine Go.callS C (hw _ (List.mem_of_getElem? (i := 1) rfl)) (hw _ (List.mem_of_getElem? (i := 2) rfl)) (hw _ (List.mem_of_getElem? (i := 3) rfl)) (hw _ (List.mem_of_getElem? (i := 4) rfl)) (c_join2 W.l Z a0 hw a92 a100 h124 n0 (upd (upd (fun _ => (0 : Int32)) 0 v87) 1 v88) (upd (upd (fun _ => (0 : Int32)) 0 v89) 1 v90) F128 F129 g98 F126 ne108) at_96 pd__40_91I_91I_41V (q := 99) rfl rfl (argsL := [(.ref a92), (.ref a100)]) (st := []) rfl rfl (w := 0) rfl (by decide) (by decide) (k' := 2) rfl (n' := 4) rfl (by decide) (by decide) ?_
    intro v h130 q
    obtain ⟨rfl, K131, F132⟩ := q
    change Av Z h130 a92 .int 2 (iF (upd (upd (upd (upd (fun _ => (0 : Int32)) 0 v87) 1 v88) 0 (f_mmax v87 v89)) 1 (f_mmax v88 v90))) at F132
    show Go W n0 QL h130 2 4 99 #[.val (.long p0), .second, .val (.int p1), .val (.long p2), .second, .val (.int p3), .val (.int p4), .val (.int (2 : Int32)), .val (.int v87), .val (.int v88), .val (.int v89), .val (.int v90), .val (.ref a92), .val (.ref a100), .unset] []
    refine Go.aload C at_99 (q := 101) rfl rfl rfl ?_
    refine Go.alen C F132 at_101 (q := 102) rfl ?_
    show Go W n0 QL h130 2 4 102 #[.val (.long p0), .second, .val (.int p1), .val (.long p2), .second, .val (.int p3), .val (.int p4), .val (.int (2 : Int32)), .val (.int v87), .val (.int v88), .val (.int v89), .val (.int v90), .val (.ref a92), .val (.ref a100), .unset] [(.int (2 : Int32))]
    refine Go.iload C at_102 (q := 104) rfl rfl ?_
    refine Go.icmp C at_104 (n_ne _ _) (qt := 119) (q := 107) (by decide) (by decide) rfl (fun b133 => absurd b133 (by decide)) (fun _ => ?_)
    refine Go.aload C at_107 (q := 109) rfl rfl rfl ?_
    have F134 := (F126.keep K131 (ninS (Ne.symm ne108) nin0))
    refine Go.alen C F134 at_109 (q := 110) rfl ?_
    show Go W n0 QL h130 2 4 110 #[.val (.long p0), .second, .val (.int p1), .val (.long p2), .second, .val (.int p3), .val (.int p4), .val (.int (2 : Int32)), .val (.int v87), .val (.int v88), .val (.int v89), .val (.int v90), .val (.ref a92), .val (.ref a100), .unset] [(.int (2 : Int32))]
    refine Go.iload C at_110 (q := 112) rfl rfl ?_
    refine Go.icmp C at_112 (n_ne _ _) (qt := 119) (q := 115) (by decide) (by decide) rfl (fun b135 => absurd b135 (by decide)) (fun _ => ?_)
    refine Go.iconst C (1 : Int32) at_115 (q := 116) rfl rfl ?_
    refine Go.goto C at_116 (q := 120) (by decide) (by decide) ?_
    refine Go.istoreR C at_120 (q := 122) rfl (l' := #[.val (.long p0), .second, .val (.int p1), .val (.long p2), .second, .val (.int p3), .val (.int p4), .val (.int (2 : Int32)), .val (.int v87), .val (.int v88), .val (.int v89), .val (.int v90), .val (.ref a92), .val (.ref a100), .val (.int (1 : Int32))]) rfl ?_
    refine Go.iload C at_122 (q := 124) rfl rfl ?_
    refine Go.if0 C at_124 (z_le _) (qt := 162) (q := 127) (by decide) (by decide) rfl (fun b136 => absurd b136 (by decide)) (fun _ => ?_)
    refine Go.iload C at_127 (q := 129) rfl rfl ?_
    refine Go.if0 C at_129 (z_eq _) (qt := 159) (q := 132) (by decide) (by decide) rfl (fun b137 => absurd b137 (by decide)) (fun _ => ?_)
    refine Go.aload C at_132 (q := 134) rfl rfl rfl ?_
    refine Go.iconst C (0 : Int32) at_134 (q := 135) rfl rfl ?_
    refine Go.iaload C F132 0 (v := (.int (f_mmax v87 v89))) (by decide) (by decide) (by decide) rfl at_135 (q := 136) rfl ?_
    refine Go.iload C at_136 (q := 138) rfl rfl ?_
    refine Go.iload C at_138 (q := 140) rfl rfl ?_
    refine Go.pureS C (hw _ (List.mem_of_getElem? (i := 9) rfl)) (hw _ (List.mem_of_getElem? (i := 10) rfl)) (hw _ (List.mem_of_getElem? (i := 11) rfl)) (hw _ (List.mem_of_getElem? (i := 12) rfl)) (c_f_larger W.l Z a0 hw v87 v89 h130 n0) at_140 pd__40II_41I (q := 143) rfl rfl (argsL := [(.int v87), (.int v89)]) (st := [(.int (f_mmax v87 v89))]) rfl rfl (w := 1) rfl (by decide) (by decide) (by decide) (by decide) ?_
    suffices J139 : ∀ v138 : Int32, v138 = (if (f_mmax v87 v89) = (f_larger v87 v89) then (if v89 = v89 then (1 : Int32) else (0 : Int32)) else (0 : Int32)) → Go W n0 QL h130 2 4 160 #[.val (.long p0), .second, .val (.int p1), .val (.long p2), .second, .val (.int p3), .val (.int p4), .val (.int (2 : Int32)), .val (.int v87), .val (.int v88), .val (.int v89), .val (.int v90), .val (.ref a92), .val (.ref a100), .val (.int (1 : Int32))] [(.int v138)] by
      refine Go.icmp C at_143 (n_ne _ _) (qt := 159) (q := 146) (by decide) (by decide) rfl (fun b140 => ?_) (fun b140 => ?_)
      ·
        refine Go.iconst C (0 : Int32) at_159 (q := 160) rfl rfl ?_
        exact J139 _ (by rw [if_neg b140])
      ·
        have b140 := Classical.not_not.mp b140
        refine Go.aload C at_146 (q := 148) rfl rfl rfl ?_
        refine Go.iconst C (0 : Int32) at_148 (q := 149) rfl rfl ?_
        refine Go.iaload C F134 0 (v := (.int v89)) (by decide) (by decide) (by decide) rfl at_149 (q := 150) rfl ?_
        refine Go.iload C at_150 (q := 152) rfl rfl ?_
        refine Go.icmp C at_152 (n_ne _ _) (qt := 159) (q := 155) (by decide) (by decide) rfl (fun b141 => ?_) (fun b141 => ?_)
        ·
          refine Go.iconst C (0 : Int32) at_159 (q := 160) rfl rfl ?_
          exact J139 _ (by rw [if_pos b140, if_neg b141])
        ·
          have b141 := Classical.not_not.mp b141
          refine Go.iconst C (1 : Int32) at_155 (q := 156) rfl rfl ?_
          refine Go.goto C at_156 (q := 160) (by decide) (by decide) ?_
          exact J139 _ (by rw [if_pos b140, if_pos b141])
    intro v138 hv138
    refine Go.istoreR C at_160 (q := 162) rfl (l' := #[.val (.long p0), .second, .val (.int p1), .val (.long p2), .second, .val (.int p3), .val (.int p4), .val (.int (2 : Int32)), .val (.int v87), .val (.int v88), .val (.int v89), .val (.int v90), .val (.ref a92), .val (.ref a100), .val (.int v138)]) rfl ?_
    refine Go.iload C at_162 (q := 164) rfl rfl ?_
    refine Go.iconst C (1 : Int32) at_164 (q := 165) rfl rfl ?_
    refine Go.icmp C at_165 (n_le _ _) (qt := 203) (q := 168) (by decide) (by decide) rfl (fun b142 => absurd b142 (by decide)) (fun _ => ?_)
    refine Go.iload C at_168 (q := 170) rfl rfl ?_
    suffices J144 : ∀ v143 : Int32, v143 = (if v138 = (0 : Int32) then (0 : Int32) else (if (f_mmax v88 v90) = (f_larger v88 v90) then (if v90 = v90 then (1 : Int32) else (0 : Int32)) else (0 : Int32))) → Go W n0 QL h130 2 4 201 #[.val (.long p0), .second, .val (.int p1), .val (.long p2), .second, .val (.int p3), .val (.int p4), .val (.int (2 : Int32)), .val (.int v87), .val (.int v88), .val (.int v89), .val (.int v90), .val (.ref a92), .val (.ref a100), .val (.int v138)] [(.int v143)] by
      refine Go.if0 C at_170 (z_eq _) (qt := 200) (q := 173) (by decide) (by decide) rfl (fun b145 => ?_) (fun b145 => ?_)
      ·
        refine Go.iconst C (0 : Int32) at_200 (q := 201) rfl rfl ?_
        exact J144 _ (by rw [if_pos b145])
      ·
        refine Go.aload C at_173 (q := 175) rfl rfl rfl ?_
        refine Go.iconst C (1 : Int32) at_175 (q := 176) rfl rfl ?_
        refine Go.iaload C F132 1 (v := (.int (f_mmax v88 v90))) (by decide) (by decide) (by decide) rfl at_176 (q := 177) rfl ?_
        refine Go.iload C at_177 (q := 179) rfl rfl ?_
        refine Go.iload C at_179 (q := 181) rfl rfl ?_
        refine Go.pureS C (hw _ (List.mem_of_getElem? (i := 9) rfl)) (hw _ (List.mem_of_getElem? (i := 10) rfl)) (hw _ (List.mem_of_getElem? (i := 11) rfl)) (hw _ (List.mem_of_getElem? (i := 12) rfl)) (c_f_larger W.l Z a0 hw v88 v90 h130 n0) at_181 pd__40II_41I (q := 184) rfl rfl (argsL := [(.int v88), (.int v90)]) (st := [(.int (f_mmax v88 v90))]) rfl rfl (w := 1) rfl (by decide) (by decide) (by decide) (by decide) ?_
        refine Go.icmp C at_184 (n_ne _ _) (qt := 200) (q := 187) (by decide) (by decide) rfl (fun b146 => ?_) (fun b146 => ?_)
        ·
          refine Go.iconst C (0 : Int32) at_200 (q := 201) rfl rfl ?_
          exact J144 _ (by rw [if_neg b145, if_neg b146])
        ·
          have b146 := Classical.not_not.mp b146
          refine Go.aload C at_187 (q := 189) rfl rfl rfl ?_
          refine Go.iconst C (1 : Int32) at_189 (q := 190) rfl rfl ?_
          refine Go.iaload C F134 1 (v := (.int v90)) (by decide) (by decide) (by decide) rfl at_190 (q := 191) rfl ?_
          refine Go.iload C at_191 (q := 193) rfl rfl ?_
          refine Go.icmp C at_193 (n_ne _ _) (qt := 200) (q := 196) (by decide) (by decide) rfl (fun b147 => ?_) (fun b147 => ?_)
          ·
            refine Go.iconst C (0 : Int32) at_200 (q := 201) rfl rfl ?_
            exact J144 _ (by rw [if_neg b145, if_pos b146, if_neg b147])
          ·
            have b147 := Classical.not_not.mp b147
            refine Go.iconst C (1 : Int32) at_196 (q := 197) rfl rfl ?_
            refine Go.goto C at_197 (q := 201) (by decide) (by decide) ?_
            exact J144 _ (by rw [if_neg b145, if_pos b146, if_pos b147])
    intro v143 hv143
    refine Go.istoreR C at_201 (q := 203) rfl (l' := #[.val (.long p0), .second, .val (.int p1), .val (.long p2), .second, .val (.int p3), .val (.int p4), .val (.int (2 : Int32)), .val (.int v87), .val (.int v88), .val (.int v89), .val (.int v90), .val (.ref a92), .val (.ref a100), .val (.int v143)]) rfl ?_
    refine Go.iload C at_203 (q := 205) rfl rfl ?_
    refine Go.iconst C (2 : Int32) at_205 (q := 206) rfl rfl ?_
    refine Go.icmp C at_206 (n_le _ _) (qt := 243) (q := 209) (by decide) (by decide) rfl (fun _ => ?_) (fun b148 => absurd b148 (by decide))
    refine Go.iload C at_243 (q := 245) rfl rfl ?_
    exact Go.retZ (t := .boolean) (by simp) C at_245 (by decide) (by decide) (congrArg (fun z => some (Value.int z)) (fin1 p0 p1 p2 p3 p4  hv1 v87 hv87 v88 hv88 v89 hv89 v90 hv90 v138 hv138 v143 hv143))
  ·
    refine Go.lloadN C at_6 (q := 7) rfl rfl ?_
    refine Go.l2i C at_7 (q := 8) rfl ?_
    refine Go.istore C at_8 (q := 10) rfl (fun z => #[.val (.long p0), .second, .val (.int p1), .val (.long p2), .second, .val (.int p3), .val (.int p4), .val (.int (3 : Int32)), .val (.int z), .unset, .unset, .unset, .unset, .unset, .unset]) (fun _ => rfl) ?_
    intro v149 hv149
    refine Go.lloadN C at_10 (q := 11) rfl rfl ?_
    refine Go.bipush C (32 : Int32) at_11 (q := 13) rfl rfl ?_
    refine Go.lshr C at_13 (q := 14) rfl ?_
    refine Go.l2i C at_14 (q := 15) rfl ?_
    refine Go.istore C at_15 (q := 17) rfl (fun z => #[.val (.long p0), .second, .val (.int p1), .val (.long p2), .second, .val (.int p3), .val (.int p4), .val (.int (3 : Int32)), .val (.int v149), .val (.int z), .unset, .unset, .unset, .unset, .unset]) (fun _ => rfl) ?_
    intro v150 hv150
    refine Go.lloadN C at_17 (q := 18) rfl rfl ?_
    refine Go.l2i C at_18 (q := 19) rfl ?_
    refine Go.istore C at_19 (q := 21) rfl (fun z => #[.val (.long p0), .second, .val (.int p1), .val (.long p2), .second, .val (.int p3), .val (.int p4), .val (.int (3 : Int32)), .val (.int v149), .val (.int v150), .val (.int z), .unset, .unset, .unset, .unset]) (fun _ => rfl) ?_
    intro v151 hv151
    refine Go.lloadN C at_21 (q := 22) rfl rfl ?_
    refine Go.bipush C (32 : Int32) at_22 (q := 24) rfl rfl ?_
    refine Go.lshr C at_24 (q := 25) rfl ?_
    refine Go.l2i C at_25 (q := 26) rfl ?_
    refine Go.istore C at_26 (q := 28) rfl (fun z => #[.val (.long p0), .second, .val (.int p1), .val (.long p2), .second, .val (.int p3), .val (.int p4), .val (.int (3 : Int32)), .val (.int v149), .val (.int v150), .val (.int v151), .val (.int z), .unset, .unset, .unset]) (fun _ => rfl) ?_
    intro v152 hv152
    refine Go.iload C at_28 (q := 30) rfl rfl ?_
    refine Go.newP C (hw _ (List.mem_of_getElem? (i := 0) rfl)) (by decide) (cap := 3) (by decide) (by decide) at_30 (q := 32) rfl (k' := 1) rfl (n' := 3) rfl (by decide) (by decide) ?_
    intro h153 a154 cA155 g156 E157 Fn158
    have g160 : n0 ≤ a154 := g156 ▸ Z0
    have F159 : Av Z h153 a154 .int 3 (iF (fun _ => (0 : Int32))) := Av.of Fn158
    refine Go.astore C at_32 (q := 34) rfl (l' := #[.val (.long p0), .second, .val (.int p1), .val (.long p2), .second, .val (.int p3), .val (.int p4), .val (.int (3 : Int32)), .val (.int v149), .val (.int v150), .val (.int v151), .val (.int v152), .val (.ref a154), .unset, .unset]) rfl rfl ?_
    refine Go.iload C at_34 (q := 36) rfl rfl ?_
    refine Go.newP C (hw _ (List.mem_of_getElem? (i := 0) rfl)) (by decide) (cap := 3) (by decide) (by decide) at_36 (q := 38) rfl (k' := 2) rfl (n' := 6) rfl (by decide) (by decide) ?_
    intro h161 a162 cA163 g164 E165 Fn166
    have F168 := (Nat.le_trans Z0 E157.1)
    have g169 : n0 ≤ a162 := g164 ▸ F168
    have ne170 : a154 ≠ a162 := Nat.ne_of_lt (g164 ▸ F159.lt)
    have F167 : Av Z h161 a162 .int 3 (iF (fun _ => (0 : Int32))) := Av.of Fn166
    refine Go.astore C at_38 (q := 40) rfl (l' := #[.val (.long p0), .second, .val (.int p1), .val (.long p2), .second, .val (.int p3), .val (.int p4), .val (.int (3 : Int32)), .val (.int v149), .val (.int v150), .val (.int v151), .val (.int v152), .val (.ref a154), .val (.ref a162), .unset]) rfl rfl ?_
    refine Go.iload C at_40 (q := 42) rfl rfl ?_
    refine Go.if0 C at_42 (z_le _) (qt := 57) (q := 45) (by decide) (by decide) rfl (fun b171 => absurd b171 (by decide)) (fun _ => ?_)
    refine Go.aload C at_45 (q := 47) rfl rfl rfl ?_
    refine Go.iconst C (0 : Int32) at_47 (q := 48) rfl rfl ?_
    refine Go.iload C at_48 (q := 50) rfl rfl ?_
    have F172 := (F159.ext E165)
    refine Go.iastore C F172 0 (by decide) (by decide) (by decide) g160 at_50 (q := 51) rfl ?_
    intro h173 W174
    have F175 := F172.sameI W174
    refine Go.aload C at_51 (q := 53) rfl rfl rfl ?_
    refine Go.iconst C (0 : Int32) at_53 (q := 54) rfl rfl ?_
    refine Go.iload C at_54 (q := 56) rfl rfl ?_
    have F176 := (F167.other W174 (Ne.symm ne170))
    refine Go.iastore C F176 0 (by decide) (by decide) (by decide) g169 at_56 (q := 57) rfl ?_
    intro h177 W178
    have F179 := F176.sameI W178
    refine Go.iload C at_57 (q := 59) rfl rfl ?_
    refine Go.iconst C (1 : Int32) at_59 (q := 60) rfl rfl ?_
    refine Go.icmp C at_60 (n_le _ _) (qt := 75) (q := 63) (by decide) (by decide) rfl (fun b180 => absurd b180 (by decide)) (fun _ => ?_)
    refine Go.aload C at_63 (q := 65) rfl rfl rfl ?_
    refine Go.iconst C (1 : Int32) at_65 (q := 66) rfl rfl ?_
    refine Go.iload C at_66 (q := 68) rfl rfl ?_
    have F181 := (F175.other W178 ne170)
    refine Go.iastore C F181 1 (by decide) (by decide) (by decide) g160 at_68 (q := 69) rfl ?_
    intro h182 W183
    have F184 := F181.sameI W183
    refine Go.aload C at_69 (q := 71) rfl rfl rfl ?_
    refine Go.iconst C (1 : Int32) at_71 (q := 72) rfl rfl ?_
    refine Go.iload C at_72 (q := 74) rfl rfl ?_
    have F185 := (F179.other W183 (Ne.symm ne170))
    refine Go.iastore C F185 1 (by decide) (by decide) (by decide) g169 at_74 (q := 75) rfl ?_
    intro h186 W187
    have F188 := F185.sameI W187
    refine Go.iload C at_75 (q := 77) rfl rfl ?_
    refine Go.iconst C (2 : Int32) at_77 (q := 78) rfl rfl ?_
    refine Go.icmp C at_78 (n_le _ _) (qt := 92) (q := 81) (by decide) (by decide) rfl (fun b189 => absurd b189 (by decide)) (fun _ => ?_)
    refine Go.aload C at_81 (q := 83) rfl rfl rfl ?_
    refine Go.iconst C (2 : Int32) at_83 (q := 84) rfl rfl ?_
    refine Go.iloadN C at_84 (q := 85) rfl rfl ?_
    have F190 := (F184.other W187 ne170)
    refine Go.iastore C F190 2 (by decide) (by decide) (by decide) g160 at_85 (q := 86) rfl ?_
    intro h191 W192
    have F193 := F190.sameI W192
    refine Go.aload C at_86 (q := 88) rfl rfl rfl ?_
    refine Go.iconst C (2 : Int32) at_88 (q := 89) rfl rfl ?_
    refine Go.iload C at_89 (q := 91) rfl rfl ?_
    have F194 := (F188.other W192 (Ne.symm ne170))
    refine Go.iastore C F194 2 (by decide) (by decide) (by decide) g169 at_91 (q := 92) rfl ?_
    intro h195 W196
    have F197 := F194.sameI W196
    refine Go.aload C at_92 (q := 94) rfl rfl rfl ?_
    refine Go.aload C at_94 (q := 96) rfl rfl rfl ?_
    have F198 := (Nat.le_trans (Nat.le_trans (Nat.le_trans (Nat.le_trans (Nat.le_trans (Nat.le_trans (Nat.le_trans F168 E165.1) (Nat.le_of_eq W174.size.symm)) (Nat.le_of_eq W178.size.symm)) (Nat.le_of_eq W183.size.symm)) (Nat.le_of_eq W187.size.symm)) (Nat.le_of_eq W192.size.symm)) (Nat.le_of_eq W196.size.symm))
    have F199 := (F193.other W196 ne170)
    refine Go.callS C (hw _ (List.mem_of_getElem? (i := 1) rfl)) (hw _ (List.mem_of_getElem? (i := 2) rfl)) (hw _ (List.mem_of_getElem? (i := 3) rfl)) (hw _ (List.mem_of_getElem? (i := 4) rfl)) (c_join3 W.l Z a0 hw a154 a162 h195 n0 (upd (upd (upd (fun _ => (0 : Int32)) 0 v149) 1 v150) 2 p1) (upd (upd (upd (fun _ => (0 : Int32)) 0 v151) 1 v152) 2 p3) F198 F199 g160 F197 ne170) at_96 pd__40_91I_91I_41V (q := 99) rfl rfl (argsL := [(.ref a154), (.ref a162)]) (st := []) rfl rfl (w := 0) rfl (by decide) (by decide) (k' := 2) rfl (n' := 6) rfl (by decide) (by decide) ?_
    intro v h200 q
    obtain ⟨rfl, K201, F202⟩ := q
    change Av Z h200 a154 .int 3 (iF (upd (upd (upd (upd (upd (upd (fun _ => (0 : Int32)) 0 v149) 1 v150) 2 p1) 0 (f_mmax v149 v151)) 1 (f_mmax v150 v152)) 2 (f_mmax p1 p3))) at F202
    show Go W n0 QL h200 2 6 99 #[.val (.long p0), .second, .val (.int p1), .val (.long p2), .second, .val (.int p3), .val (.int p4), .val (.int (3 : Int32)), .val (.int v149), .val (.int v150), .val (.int v151), .val (.int v152), .val (.ref a154), .val (.ref a162), .unset] []
    refine Go.aload C at_99 (q := 101) rfl rfl rfl ?_
    refine Go.alen C F202 at_101 (q := 102) rfl ?_
    show Go W n0 QL h200 2 6 102 #[.val (.long p0), .second, .val (.int p1), .val (.long p2), .second, .val (.int p3), .val (.int p4), .val (.int (3 : Int32)), .val (.int v149), .val (.int v150), .val (.int v151), .val (.int v152), .val (.ref a154), .val (.ref a162), .unset] [(.int (3 : Int32))]
    refine Go.iload C at_102 (q := 104) rfl rfl ?_
    refine Go.icmp C at_104 (n_ne _ _) (qt := 119) (q := 107) (by decide) (by decide) rfl (fun b203 => absurd b203 (by decide)) (fun _ => ?_)
    refine Go.aload C at_107 (q := 109) rfl rfl rfl ?_
    have F204 := (F197.keep K201 (ninS (Ne.symm ne170) nin0))
    refine Go.alen C F204 at_109 (q := 110) rfl ?_
    show Go W n0 QL h200 2 6 110 #[.val (.long p0), .second, .val (.int p1), .val (.long p2), .second, .val (.int p3), .val (.int p4), .val (.int (3 : Int32)), .val (.int v149), .val (.int v150), .val (.int v151), .val (.int v152), .val (.ref a154), .val (.ref a162), .unset] [(.int (3 : Int32))]
    refine Go.iload C at_110 (q := 112) rfl rfl ?_
    refine Go.icmp C at_112 (n_ne _ _) (qt := 119) (q := 115) (by decide) (by decide) rfl (fun b205 => absurd b205 (by decide)) (fun _ => ?_)
    refine Go.iconst C (1 : Int32) at_115 (q := 116) rfl rfl ?_
    refine Go.goto C at_116 (q := 120) (by decide) (by decide) ?_
    refine Go.istoreR C at_120 (q := 122) rfl (l' := #[.val (.long p0), .second, .val (.int p1), .val (.long p2), .second, .val (.int p3), .val (.int p4), .val (.int (3 : Int32)), .val (.int v149), .val (.int v150), .val (.int v151), .val (.int v152), .val (.ref a154), .val (.ref a162), .val (.int (1 : Int32))]) rfl ?_
    refine Go.iload C at_122 (q := 124) rfl rfl ?_
    refine Go.if0 C at_124 (z_le _) (qt := 162) (q := 127) (by decide) (by decide) rfl (fun b206 => absurd b206 (by decide)) (fun _ => ?_)
    refine Go.iload C at_127 (q := 129) rfl rfl ?_
    refine Go.if0 C at_129 (z_eq _) (qt := 159) (q := 132) (by decide) (by decide) rfl (fun b207 => absurd b207 (by decide)) (fun _ => ?_)
    refine Go.aload C at_132 (q := 134) rfl rfl rfl ?_
    refine Go.iconst C (0 : Int32) at_134 (q := 135) rfl rfl ?_
    refine Go.iaload C F202 0 (v := (.int (f_mmax v149 v151))) (by decide) (by decide) (by decide) rfl at_135 (q := 136) rfl ?_
    refine Go.iload C at_136 (q := 138) rfl rfl ?_
    refine Go.iload C at_138 (q := 140) rfl rfl ?_
    refine Go.pureS C (hw _ (List.mem_of_getElem? (i := 9) rfl)) (hw _ (List.mem_of_getElem? (i := 10) rfl)) (hw _ (List.mem_of_getElem? (i := 11) rfl)) (hw _ (List.mem_of_getElem? (i := 12) rfl)) (c_f_larger W.l Z a0 hw v149 v151 h200 n0) at_140 pd__40II_41I (q := 143) rfl rfl (argsL := [(.int v149), (.int v151)]) (st := [(.int (f_mmax v149 v151))]) rfl rfl (w := 1) rfl (by decide) (by decide) (by decide) (by decide) ?_
    suffices J209 : ∀ v208 : Int32, v208 = (if (f_mmax v149 v151) = (f_larger v149 v151) then (if v151 = v151 then (1 : Int32) else (0 : Int32)) else (0 : Int32)) → Go W n0 QL h200 2 6 160 #[.val (.long p0), .second, .val (.int p1), .val (.long p2), .second, .val (.int p3), .val (.int p4), .val (.int (3 : Int32)), .val (.int v149), .val (.int v150), .val (.int v151), .val (.int v152), .val (.ref a154), .val (.ref a162), .val (.int (1 : Int32))] [(.int v208)] by
      refine Go.icmp C at_143 (n_ne _ _) (qt := 159) (q := 146) (by decide) (by decide) rfl (fun b210 => ?_) (fun b210 => ?_)
      ·
        refine Go.iconst C (0 : Int32) at_159 (q := 160) rfl rfl ?_
        exact J209 _ (by rw [if_neg b210])
      ·
        have b210 := Classical.not_not.mp b210
        refine Go.aload C at_146 (q := 148) rfl rfl rfl ?_
        refine Go.iconst C (0 : Int32) at_148 (q := 149) rfl rfl ?_
        refine Go.iaload C F204 0 (v := (.int v151)) (by decide) (by decide) (by decide) rfl at_149 (q := 150) rfl ?_
        refine Go.iload C at_150 (q := 152) rfl rfl ?_
        refine Go.icmp C at_152 (n_ne _ _) (qt := 159) (q := 155) (by decide) (by decide) rfl (fun b211 => ?_) (fun b211 => ?_)
        ·
          refine Go.iconst C (0 : Int32) at_159 (q := 160) rfl rfl ?_
          exact J209 _ (by rw [if_pos b210, if_neg b211])
        ·
          have b211 := Classical.not_not.mp b211
          refine Go.iconst C (1 : Int32) at_155 (q := 156) rfl rfl ?_
          refine Go.goto C at_156 (q := 160) (by decide) (by decide) ?_
          exact J209 _ (by rw [if_pos b210, if_pos b211])
    intro v208 hv208
    refine Go.istoreR C at_160 (q := 162) rfl (l' := #[.val (.long p0), .second, .val (.int p1), .val (.long p2), .second, .val (.int p3), .val (.int p4), .val (.int (3 : Int32)), .val (.int v149), .val (.int v150), .val (.int v151), .val (.int v152), .val (.ref a154), .val (.ref a162), .val (.int v208)]) rfl ?_
    refine Go.iload C at_162 (q := 164) rfl rfl ?_
    refine Go.iconst C (1 : Int32) at_164 (q := 165) rfl rfl ?_
    refine Go.icmp C at_165 (n_le _ _) (qt := 203) (q := 168) (by decide) (by decide) rfl (fun b212 => absurd b212 (by decide)) (fun _ => ?_)
    refine Go.iload C at_168 (q := 170) rfl rfl ?_
    suffices J214 : ∀ v213 : Int32, v213 = (if v208 = (0 : Int32) then (0 : Int32) else (if (f_mmax v150 v152) = (f_larger v150 v152) then (if v152 = v152 then (1 : Int32) else (0 : Int32)) else (0 : Int32))) → Go W n0 QL h200 2 6 201 #[.val (.long p0), .second, .val (.int p1), .val (.long p2), .second, .val (.int p3), .val (.int p4), .val (.int (3 : Int32)), .val (.int v149), .val (.int v150), .val (.int v151), .val (.int v152), .val (.ref a154), .val (.ref a162), .val (.int v208)] [(.int v213)] by
      refine Go.if0 C at_170 (z_eq _) (qt := 200) (q := 173) (by decide) (by decide) rfl (fun b215 => ?_) (fun b215 => ?_)
      ·
        refine Go.iconst C (0 : Int32) at_200 (q := 201) rfl rfl ?_
        exact J214 _ (by rw [if_pos b215])
      ·
        refine Go.aload C at_173 (q := 175) rfl rfl rfl ?_
        refine Go.iconst C (1 : Int32) at_175 (q := 176) rfl rfl ?_
        refine Go.iaload C F202 1 (v := (.int (f_mmax v150 v152))) (by decide) (by decide) (by decide) rfl at_176 (q := 177) rfl ?_
        refine Go.iload C at_177 (q := 179) rfl rfl ?_
        refine Go.iload C at_179 (q := 181) rfl rfl ?_
        refine Go.pureS C (hw _ (List.mem_of_getElem? (i := 9) rfl)) (hw _ (List.mem_of_getElem? (i := 10) rfl)) (hw _ (List.mem_of_getElem? (i := 11) rfl)) (hw _ (List.mem_of_getElem? (i := 12) rfl)) (c_f_larger W.l Z a0 hw v150 v152 h200 n0) at_181 pd__40II_41I (q := 184) rfl rfl (argsL := [(.int v150), (.int v152)]) (st := [(.int (f_mmax v150 v152))]) rfl rfl (w := 1) rfl (by decide) (by decide) (by decide) (by decide) ?_
        refine Go.icmp C at_184 (n_ne _ _) (qt := 200) (q := 187) (by decide) (by decide) rfl (fun b216 => ?_) (fun b216 => ?_)
        ·
          refine Go.iconst C (0 : Int32) at_200 (q := 201) rfl rfl ?_
          exact J214 _ (by rw [if_neg b215, if_neg b216])
        ·
          have b216 := Classical.not_not.mp b216
          refine Go.aload C at_187 (q := 189) rfl rfl rfl ?_
          refine Go.iconst C (1 : Int32) at_189 (q := 190) rfl rfl ?_
          refine Go.iaload C F204 1 (v := (.int v152)) (by decide) (by decide) (by decide) rfl at_190 (q := 191) rfl ?_
          refine Go.iload C at_191 (q := 193) rfl rfl ?_
          refine Go.icmp C at_193 (n_ne _ _) (qt := 200) (q := 196) (by decide) (by decide) rfl (fun b217 => ?_) (fun b217 => ?_)
          ·
            refine Go.iconst C (0 : Int32) at_200 (q := 201) rfl rfl ?_
            exact J214 _ (by rw [if_neg b215, if_pos b216, if_neg b217])
          ·
            have b217 := Classical.not_not.mp b217
            refine Go.iconst C (1 : Int32) at_196 (q := 197) rfl rfl ?_
            refine Go.goto C at_197 (q := 201) (by decide) (by decide) ?_
            exact J214 _ (by rw [if_neg b215, if_pos b216, if_pos b217])
    intro v213 hv213
    refine Go.istoreR C at_201 (q := 203) rfl (l' := #[.val (.long p0), .second, .val (.int p1), .val (.long p2), .second, .val (.int p3), .val (.int p4), .val (.int (3 : Int32)), .val (.int v149), .val (.int v150), .val (.int v151), .val (.int v152), .val (.ref a154), .val (.ref a162), .val (.int v213)]) rfl ?_
    refine Go.iload C at_203 (q := 205) rfl rfl ?_
    refine Go.iconst C (2 : Int32) at_205 (q := 206) rfl rfl ?_
    refine Go.icmp C at_206 (n_le _ _) (qt := 243) (q := 209) (by decide) (by decide) rfl (fun b218 => absurd b218 (by decide)) (fun _ => ?_)
    refine Go.iload C at_209 (q := 211) rfl rfl ?_
    suffices J220 : ∀ v219 : Int32, v219 = (if v213 = (0 : Int32) then (0 : Int32) else (if (f_mmax p1 p3) = (f_larger p1 p3) then (if p3 = p3 then (1 : Int32) else (0 : Int32)) else (0 : Int32))) → Go W n0 QL h200 2 6 241 #[.val (.long p0), .second, .val (.int p1), .val (.long p2), .second, .val (.int p3), .val (.int p4), .val (.int (3 : Int32)), .val (.int v149), .val (.int v150), .val (.int v151), .val (.int v152), .val (.ref a154), .val (.ref a162), .val (.int v213)] [(.int v219)] by
      refine Go.if0 C at_211 (z_eq _) (qt := 240) (q := 214) (by decide) (by decide) rfl (fun b221 => ?_) (fun b221 => ?_)
      ·
        refine Go.iconst C (0 : Int32) at_240 (q := 241) rfl rfl ?_
        exact J220 _ (by rw [if_pos b221])
      ·
        refine Go.aload C at_214 (q := 216) rfl rfl rfl ?_
        refine Go.iconst C (2 : Int32) at_216 (q := 217) rfl rfl ?_
        refine Go.iaload C F202 2 (v := (.int (f_mmax p1 p3))) (by decide) (by decide) (by decide) rfl at_217 (q := 218) rfl ?_
        refine Go.iloadN C at_218 (q := 219) rfl rfl ?_
        refine Go.iload C at_219 (q := 221) rfl rfl ?_
        refine Go.pureS C (hw _ (List.mem_of_getElem? (i := 9) rfl)) (hw _ (List.mem_of_getElem? (i := 10) rfl)) (hw _ (List.mem_of_getElem? (i := 11) rfl)) (hw _ (List.mem_of_getElem? (i := 12) rfl)) (c_f_larger W.l Z a0 hw p1 p3 h200 n0) at_221 pd__40II_41I (q := 224) rfl rfl (argsL := [(.int p1), (.int p3)]) (st := [(.int (f_mmax p1 p3))]) rfl rfl (w := 1) rfl (by decide) (by decide) (by decide) (by decide) ?_
        refine Go.icmp C at_224 (n_ne _ _) (qt := 240) (q := 227) (by decide) (by decide) rfl (fun b222 => ?_) (fun b222 => ?_)
        ·
          refine Go.iconst C (0 : Int32) at_240 (q := 241) rfl rfl ?_
          exact J220 _ (by rw [if_neg b221, if_neg b222])
        ·
          have b222 := Classical.not_not.mp b222
          refine Go.aload C at_227 (q := 229) rfl rfl rfl ?_
          refine Go.iconst C (2 : Int32) at_229 (q := 230) rfl rfl ?_
          refine Go.iaload C F204 2 (v := (.int p3)) (by decide) (by decide) (by decide) rfl at_230 (q := 231) rfl ?_
          refine Go.iload C at_231 (q := 233) rfl rfl ?_
          refine Go.icmp C at_233 (n_ne _ _) (qt := 240) (q := 236) (by decide) (by decide) rfl (fun b223 => ?_) (fun b223 => ?_)
          ·
            refine Go.iconst C (0 : Int32) at_240 (q := 241) rfl rfl ?_
            exact J220 _ (by rw [if_neg b221, if_pos b222, if_neg b223])
          ·
            have b223 := Classical.not_not.mp b223
            refine Go.iconst C (1 : Int32) at_236 (q := 237) rfl rfl ?_
            refine Go.goto C at_237 (q := 241) (by decide) (by decide) ?_
            exact J220 _ (by rw [if_neg b221, if_pos b222, if_pos b223])
    intro v219 hv219
    refine Go.istoreR C at_241 (q := 243) rfl (l' := #[.val (.long p0), .second, .val (.int p1), .val (.long p2), .second, .val (.int p3), .val (.int p4), .val (.int (3 : Int32)), .val (.int v149), .val (.int v150), .val (.int v151), .val (.int v152), .val (.ref a154), .val (.ref a162), .val (.int v219)]) rfl ?_
    refine Go.iload C at_243 (q := 245) rfl rfl ?_
    exact Go.retZ (t := .boolean) (by simp) C at_245 (by decide) (by decide) (congrArg (fun z => some (Value.int z)) (fin2 p0 p1 p2 p3 p4  hv1 v149 hv149 v150 hv150 v151 hv151 v152 hv152 v208 hv208 v213 hv213 v219 hv219))
set_option maxRecDepth 65536 in
set_option maxHeartbeats 4000000 in
theorem comes_1 {Post : Tables → Env → Array Value → State → Outcome → State → Prop} (hpost : ∀ tb e args s v u, (limb_1_1.after args s (.returned v) u = true ∧ limb_1_2.after args s (.returned v) u = true ∧ True) → FrameEnd s (.returned v) u (Jvm.fieldLocs frame_1_writes args s ++ Jvm.arrayLocs frame_1_arrays args s ++ Jvm.staticLocs frame_1_statics s) 16 128 → Post tb e args s (.returned v) u) :
    ArmFor flags0 classFile x code maxLocals ret World_1 tables_1 room_1 Calls_1 rest_1 Pre_1 Post := by
  intro l hfl _ _ p e ha hc hk s m args below hf hA hF happ hP
  obtain ⟨hcalls, hrest, hpre⟩ := hP
  obtain ⟨-, -, -, hnamed, -, -, -, hat⟩ := (Spec.applies_iff hf).mp happ
  obtain ⟨hg, hn⟩ := and_e (Cond.before_iff.mp (show (Jvm.Cond.and given_1 narrow_1).before args s = true from hpre))
  obtain ⟨hcount, hg0⟩ := and_e hg
  obtain ⟨ha0, hg1⟩ := and_e hg0
  obtain ⟨ha1, hg2⟩ := and_e hg1
  obtain ⟨ha2, hg3⟩ := and_e hg2
  obtain ⟨ha3, hg4⟩ := and_e hg3
  have ha4 := hg4
  obtain ⟨w0, w1, w2, w3, w4, rfl⟩ : ∃ w0 w1 w2 w3 w4 : Value, args = #[w0, w1, w2, w3, w4] := by
    have hs : args.size = 5 := by simpa [Cond.value, given_1] using hcount
    obtain ⟨L⟩ := args
    match L, hs with
    | [w0, w1, w2, w3, w4], _ => exact ⟨w0, w1, w2, w3, w4, rfl⟩
  have hw := fun d (hd : d ∈ tables_1) => atoms_spec (ws := Jvm.Cond.code x code maxLocals ret :: tables_1) hat d (List.mem_cons_of_mem _ hd)
  obtain ⟨i0, ei0⟩ := isL_v ha0
  obtain rfl : w0 = (.long i0) := Option.some.inj ei0
  obtain ⟨i1, ei1⟩ := is_v ha1
  obtain rfl : w1 = (.int i1) := Option.some.inj ei1
  obtain ⟨i2, ei2⟩ := isL_v ha2
  obtain rfl : w2 = (.long i2) := Option.some.inj ei2
  obtain ⟨i3, ei3⟩ := is_v ha3
  obtain rfl : w3 = (.int i3) := Option.some.inj ei3
  obtain ⟨i4, ei4⟩ := is_v ha4
  obtain rfl : w4 = (.int i4) := Option.some.inj ei4
  obtain ⟨n, o, h1, h2, h3, _, L, rfl, ⟨N, rfl⟩, hq⟩ := rm0 l s _ hw i0 i1 i2 i3 i4 s.heap s.heap.size (Nat.le_refl _)  p e ha hc hk s m _ below hf ((Spec.applies_iff_loose hf).mp happ).1 ⟨rfl, State.Warmed39.refl s, rfl⟩ trivial
  refine ⟨n, _, h1, h2, h3, hpost _ _ _ _ _ _ ⟨Cond.after_iff.mpr rfl, Cond.after_iff.mpr (eq_i res_at (Term.int_eval (1)) rfl), trivial⟩ ⟨hq.1, hq.2.1, (hq.2.2.sift fun y hy => Or.inr (N y hy)).mono (by decide) (by decide)⟩⟩
theorem main_1_1 : Claimed_1_1 := comes_1 fun _ _ _ _ _ _ h hF => ⟨h.1, hF⟩
theorem main_1_2 : Claimed_1_2 := comes_1 fun _ _ _ _ _ _ h hF => ⟨h.2.1, hF⟩
end Jvm.Pilot.@@N@@
namespace Jvm.Pilot.@@N@@
open Jvm Jvm.ClassFile Sem Op Lib Jvm.Free Jvm.Stand Jvm.Pilot.@@N@@.Jvm.D
/-! MADE BY PROGRAM (witnessworld.py) out of the Statement's table words and the real class files: 10 classes; the members and pool entries that the words name. The judged class is class 1, her method 1. -/
namespace start1
open Jvm.ClassFile
def u (s : String) : CpInfo := .utf8 (stringToUtf16 s)
/-- a pool by its gaps: so many unusable entries, then the entry; so many at the end -/
def gap : Nat → List CpInfo → List CpInfo
  | 0, r => r
  | n + 1, r => .unusable :: gap n r
def poolList (es : List (Nat × CpInfo)) (last : Nat) : List CpInfo := es.foldr (fun e r => gap e.1 (e.2 :: r)) (gap last [])
def pool (es : List (Nat × CpInfo)) (last : Nat) : Array CpInfo := ⟨poolList es last⟩
def fileOf (pool : Array CpInfo) (this : Nat) (attrs : Array Attribute := #[]) (ms : Array MethodInfo := #[]) (fl : Nat := 33) (sup : Nat := 0) (ifs : Array Nat := #[]) (fds : Array FieldInfo := #[]) : ClassFile where
  minorVersion := 0
  majorVersion := 65
  constantPool := pool
  accessFlags := fl
  thisClass := this
  superClass := sup
  interfaces := ifs
  fields := fds
  methods := ms
  attributes := attrs
def plain (name : String) (sup : Option ClassId) : Class where
  name := name
  kind := .ordinary
  loader := none
  accessFlags := 33
  super := sup
  interfaces := #[]
  cf := none
  fields := #[]
  methods := #[]
  instanceTypes := #[]
  staticTypes := #[]
  resolved := #[]
  callSites := []
  init := .initialized
  statics := none
  mirror := none

def pool0 : Array CpInfo := pool [(5, u "<init>"), (0, u "()V"), (1, .class_ 10), (1, u "java/lang/Object")] 113

def k0m0 : Method := { name := "<init>", desc := "()V", sig := { parameters := [], returnType := none }, accessFlags := 1, code := none }
/-- java/lang/Object -/
def k0 : Class := { plain "java/lang/Object" none with
  accessFlags := 33
  interfaces := #[]
  cf := some (fileOf pool0 8 #[] #[{ accessFlags := 1, nameIndex := 5, descriptorIndex := 6, attributes := #[] }] 33 0 #[] #[])
  fields := #[]
  methods := #[k0m0]
  instanceTypes := #[]
  staticTypes := #[]
  resolved := Array.replicate 124 none
  statics := none }

def pool1 : Array CpInfo := pool [(2, .class_ 4), (1, u "java/lang/Object"), (0, u "<init>"), (0, u "()V"), (0, .methodref 8 9), (0, .class_ 10), (0, .nameAndType 11 12), (0, u "com/example/interlace/interlace/Clocks"), (0, u "join"), (0, u "([I[I)V"), (0, .methodref 14 15), (0, .class_ 16), (0, .nameAndType 17 18), (0, u "com/example/interlace/interlace/ClocksJoinPinLaw"), (0, u "larger"), (0, u "(II)I"), (2, u "law"), (0, u "(JIJII)Z")] 5

def k1m0 : Method := { name := "<init>", desc := "()V", sig := { parameters := [], returnType := none }, accessFlags := 1, code := none }
def k1c1 : Code := { maxStack := 3, maxLocals := 15, code := code, exceptionTable := #[], attributes := #[] }
def k1m1 : Method := { name := "law", desc := "(JIJII)Z", sig := { parameters := [.long, .int, .long, .int, .int], returnType := some .boolean }, accessFlags := 9, code := some k1c1 }
def k1c2 : Code := { maxStack := 2, maxLocals := 2, code := method_3_code, exceptionTable := #[], attributes := #[] }
def k1m2 : Method := { name := "larger", desc := "(II)I", sig := { parameters := [.int, .int], returnType := some .int }, accessFlags := 10, code := some k1c2 }
/-- com/example/interlace/interlace/ClocksJoinPinLaw -/
def k1 : Class := { plain "com/example/interlace/interlace/ClocksJoinPinLaw" (some 0) with
  accessFlags := 49
  interfaces := #[]
  cf := some (fileOf pool1 14 #[] #[{ accessFlags := 1, nameIndex := 5, descriptorIndex := 6, attributes := #[] }, { accessFlags := 9, nameIndex := 21, descriptorIndex := 22, attributes := #[] }, { accessFlags := 10, nameIndex := 17, descriptorIndex := 18, attributes := #[] }] 49 2 #[] #[])
  fields := #[]
  methods := #[k1m0, k1m1, k1m2]
  instanceTypes := #[]
  staticTypes := #[]
  resolved := Array.replicate 28 none
  statics := none }

def pool2 : Array CpInfo := pool [(2, .class_ 4), (1, u "java/lang/Object"), (6, .class_ 13), (1, u "com/example/interlace/interlace/Clocks"), (0, u "targets"), (0, u "Ljava/util/Map;"), (5, u "links"), (0, u "Ljava/util/List;"), (2, u "candidates"), (2, u "touched"), (2, u "threads"), (0, u "I"), (0, .class_ 34), (0, u "com/example/interlace/interlace/Clocks$Stamp"), (2, u "last"), (0, u "[Lcom/example/interlace/interlace/Clocks$Stamp;"), (8, u "previous"), (0, u "Lcom/example/interlace/interlace/Clocks$Stamp;"), (29, .class_ 79), (0, u "com/example/interlace/interlace/Clocks$Key"), (16, .class_ 97), (0, u "com/example/interlace/interlace/Clocks$Target"), (16, .class_ 115), (0, u "com/example/interlace/interlace/Clocks$Link"), (5, u "join"), (0, u "([I[I)V"), (5, u "placed"), (14, .methodref 144 145), (0, .class_ 146), (0, .nameAndType 147 148), (0, u "java/lang/Math"), (0, u "max"), (0, u "(II)I"), (0, .class_ 150), (0, u "com/example/interlace/interlace/Clocks$MonitorState"), (1, .class_ 153), (0, u "com/example/interlace/interlace/Clocks$FieldState")] 46

def k2c0 : Code := { maxStack := 5, maxLocals := 3, code := prog_10_method_6_code, exceptionTable := #[], attributes := #[] }
def k2m0 : Method := { name := "join", desc := "([I[I)V", sig := { parameters := [(.array .int), (.array .int)], returnType := none }, accessFlags := 8, code := some k2c0 }
/-- com/example/interlace/interlace/Clocks -/
def k2 : Class := { plain "com/example/interlace/interlace/Clocks" (some 0) with
  accessFlags := 48
  interfaces := #[]
  cf := some (fileOf pool2 11 #[.nestMembers #[149, 152, 96, 78, 114, 33]] #[{ accessFlags := 8, nameIndex := 121, descriptorIndex := 122, attributes := #[] }] 48 2 #[] #[{ accessFlags := 18, nameIndex := 31, descriptorIndex := 32, attributes := #[] }, { accessFlags := 18, nameIndex := 37, descriptorIndex := 38, attributes := #[] }, { accessFlags := 18, nameIndex := 14, descriptorIndex := 15, attributes := #[] }, { accessFlags := 18, nameIndex := 21, descriptorIndex := 22, attributes := #[] }, { accessFlags := 18, nameIndex := 25, descriptorIndex := 22, attributes := #[] }, { accessFlags := 18, nameIndex := 28, descriptorIndex := 22, attributes := #[] }, { accessFlags := 2, nameIndex := 47, descriptorIndex := 48, attributes := #[] }, { accessFlags := 2, nameIndex := 128, descriptorIndex := 32, attributes := #[] }])
  fields := #[{ name := "threads", type := .int, accessFlags := 18, slot := 0, constantValue := 0 }, { name := "last", type := (.array (.object "com/example/interlace/interlace/Clocks$Stamp")), accessFlags := 18, slot := 1, constantValue := 0 }, { name := "targets", type := (.object "java/util/Map"), accessFlags := 18, slot := 2, constantValue := 0 }, { name := "links", type := (.object "java/util/List"), accessFlags := 18, slot := 3, constantValue := 0 }, { name := "candidates", type := (.object "java/util/List"), accessFlags := 18, slot := 4, constantValue := 0 }, { name := "touched", type := (.object "java/util/List"), accessFlags := 18, slot := 5, constantValue := 0 }, { name := "previous", type := (.object "com/example/interlace/interlace/Clocks$Stamp"), accessFlags := 2, slot := 6, constantValue := 0 }, { name := "placed", type := .int, accessFlags := 2, slot := 7, constantValue := 0 }]
  methods := #[k2m0]
  instanceTypes := #[.int, (.array (.object "com/example/interlace/interlace/Clocks$Stamp")), (.object "java/util/Map"), (.object "java/util/List"), (.object "java/util/List"), (.object "java/util/List"), (.object "com/example/interlace/interlace/Clocks$Stamp"), .int]
  staticTypes := #[]
  resolved := Array.replicate 200 none
  statics := none }

def pool3 : Array CpInfo := pool [(1, .class_ 2), (0, u "java/lang/Math"), (1, .class_ 6), (1, u "java/lang/Object"), (0, u "<init>"), (0, u "()V"), (89, .class_ 100), (1, u "java/lang/Math$RandomNumberGeneratorHolder"), (71, u "negativeZeroFloatBits"), (0, u "J"), (2, u "negativeZeroDoubleBits"), (21, u "max"), (46, u "$assertionsDisabled"), (0, u "Z"), (88, u "(II)I"), (2, u "twoToTheDoubleScaleDown"), (0, u "D"), (4, u "twoToTheDoubleScaleUp"), (9, u "E"), (3, u "PI"), (2, u "TAU"), (2, u "DEGREES_TO_RADIANS"), (0, u "RADIANS_TO_DEGREES")] 94

def k3m0 : Method := { name := "<init>", desc := "()V", sig := { parameters := [], returnType := none }, accessFlags := 2, code := none }
def k3c1 : Code := { maxStack := 2, maxLocals := 2, code := jdk_29_method_65_code, exceptionTable := #[], attributes := #[] }
def k3m1 : Method := { name := "max", desc := "(II)I", sig := { parameters := [.int, .int], returnType := some .int }, accessFlags := 9, code := some k3c1 }
/-- java/lang/Math -/
def k3 : Class := { plain "java/lang/Math" (some 0) with
  accessFlags := 49
  interfaces := #[]
  cf := some (fileOf pool3 1 #[.nestMembers #[98]] #[{ accessFlags := 2, nameIndex := 7, descriptorIndex := 8, attributes := #[] }, { accessFlags := 9, nameIndex := 198, descriptorIndex := 335, attributes := #[] }] 49 4 #[] #[{ accessFlags := 25, nameIndex := 354, descriptorIndex := 339, attributes := #[] }, { accessFlags := 25, nameIndex := 358, descriptorIndex := 339, attributes := #[] }, { accessFlags := 25, nameIndex := 361, descriptorIndex := 339, attributes := #[] }, { accessFlags := 26, nameIndex := 364, descriptorIndex := 339, attributes := #[] }, { accessFlags := 26, nameIndex := 365, descriptorIndex := 339, attributes := #[] }, { accessFlags := 26, nameIndex := 172, descriptorIndex := 173, attributes := #[] }, { accessFlags := 26, nameIndex := 176, descriptorIndex := 173, attributes := #[] }, { accessFlags := 8, nameIndex := 344, descriptorIndex := 339, attributes := #[] }, { accessFlags := 8, nameIndex := 338, descriptorIndex := 339, attributes := #[] }, { accessFlags := 4120, nameIndex := 245, descriptorIndex := 246, attributes := #[] }])
  fields := #[{ name := "E", type := .double, accessFlags := 25, slot := 0, constantValue := 0 }, { name := "PI", type := .double, accessFlags := 25, slot := 1, constantValue := 0 }, { name := "TAU", type := .double, accessFlags := 25, slot := 2, constantValue := 0 }, { name := "DEGREES_TO_RADIANS", type := .double, accessFlags := 26, slot := 3, constantValue := 0 }, { name := "RADIANS_TO_DEGREES", type := .double, accessFlags := 26, slot := 4, constantValue := 0 }, { name := "negativeZeroFloatBits", type := .long, accessFlags := 26, slot := 5, constantValue := 0 }, { name := "negativeZeroDoubleBits", type := .long, accessFlags := 26, slot := 6, constantValue := 0 }, { name := "twoToTheDoubleScaleUp", type := .double, accessFlags := 8, slot := 7, constantValue := 0 }, { name := "twoToTheDoubleScaleDown", type := .double, accessFlags := 8, slot := 8, constantValue := 0 }, { name := "$assertionsDisabled", type := .boolean, accessFlags := 4120, slot := 9, constantValue := 0 }]
  methods := #[k3m0, k3m1]
  instanceTypes := #[]
  staticTypes := #[.double, .double, .double, .double, .double, .long, .long, .double, .double, .boolean]
  resolved := Array.replicate 460 none
  statics := none }

def pool4 : Array CpInfo := pool [(1, u "java/lang/Cloneable"), (0, .class_ 1), (0, u "java/lang/Object"), (0, .class_ 3)] 3

/-- java/lang/Cloneable -/
def k4 : Class := { plain "java/lang/Cloneable" (some 0) with
  accessFlags := 1537
  interfaces := #[]
  cf := some (fileOf pool4 2 #[] #[] 1537 4 #[] #[])
  fields := #[]
  methods := #[]
  instanceTypes := #[]
  staticTypes := #[]
  resolved := Array.replicate 8 none
  statics := none }

def pool5 : Array CpInfo := pool [(1, u "java/io/Serializable"), (0, .class_ 1), (0, u "java/lang/Object"), (0, .class_ 3)] 3

/-- java/io/Serializable -/
def k5 : Class := { plain "java/io/Serializable" (some 0) with
  accessFlags := 1537
  interfaces := #[]
  cf := some (fileOf pool5 2 #[] #[] 1537 4 #[] #[])
  fields := #[]
  methods := #[]
  instanceTypes := #[]
  staticTypes := #[]
  resolved := Array.replicate 8 none
  statics := none }

/-- the primitive byte -/
def k6 : Class := { plain "byte" none with kind := .primitive 'B', accessFlags := 0x411 }
/-- [B -/
def k7 : Class := { plain "[B" (some 0) with kind := .array 6 .byte, interfaces := #[4, 5], accessFlags := 1041 }

/-- the primitive int -/
def k8 : Class := { plain "int" none with kind := .primitive 'I', accessFlags := 0x411 }
/-- [I -/
def k9 : Class := { plain "[I" (some 0) with kind := .array 8 .int, interfaces := #[4, 5], accessFlags := 1041 }

def heap : Heap := #[]
def classes : Array Class := #[k0, k1, k2, k3, k4, k5, k6, k7, k8, k9]
def interned : List (Array UInt16 × Addr) := []
def slotsUsed : Nat := 0
def theMethod : MethodId := ⟨1, 1⟩
def args0 : Array Value := #[.long 1, .int 2, .long 3, .int 4, .int 5]
def aboutOver (below : List Frame) : State where
  vm := { classes := classes, interned := interned.toArray }
  heap := heap
  slotsUsed := slotsUsed
  threads := #[{ frames := .invoking theMethod args0 :: below }]
def below0 : List Frame := [.native { method := ⟨0, 0⟩, args := #[] }]
def about1 : State := aboutOver below0
def p0 : Program := .bare "" "" ""
def e0 : Env := launch0.env 0 0 0
theorem w_frames : about1.frames = Frame.invoking theMethod args0 :: below0 := rfl
set_option maxRecDepth 65536 in
theorem w_args : argsFit about1.vm theMethod args0 = true := by decide +kernel
set_option maxRecDepth 65536 in
theorem w_heap : heapFits about1 = true := by decide +kernel
set_option maxRecDepth 65536 in
theorem w_runnable : about1.curStatus? = some .runnable := by decide +kernel
set_option maxRecDepth 65536 in
theorem w_alone : about1.alone = true := by decide +kernel
set_option maxRecDepth 65536 in
theorem w_named : about1.methodNamed? x = some theMethod := by decide +kernel
set_option maxRecDepth 65536 in
theorem w_hears : about1.hears theMethod below0 = true := by decide +kernel
set_option maxRecDepth 65536 in
theorem w_ripe : about1.ripe theMethod args0 below0 = true := by decide +kernel
theorem w_running : about1.status = .running := rfl
set_option maxRecDepth 65536 in
theorem w_room : about1.hasRoom e0.platform room_1 = true :=
  launch0.hasRoom_least _ room_1 (by decide +kernel) (by decide +kernel) (by decide +kernel) (by decide +kernel) (by decide +kernel) (by decide +kernel)
theorem allAtoms_all (ts : List Jvm.Cond) (a : Array Jvm.Value) (st : Jvm.State) : (allAtoms ts).before a st = ts.all (fun c => c.before a st) := by
  induction ts with
  | nil => rfl
  | cons c t ih =>
    show (Jvm.Cond.and c (allAtoms t)).before a st = _
    rw [Jvm.Cond.before_and, ih, List.all_cons]
def words1 : List Jvm.Cond := Jvm.Cond.code x code maxLocals ret :: tables_1
/-- a 'code' word, met by the world's own term for the bytes: nothing is compared byte by byte -/
theorem code_word {y : MethodName} {bytes : ByteArray} {mx : Nat} {rt : Option FieldType} {a : Array Value} {s : State} {m : MethodId} {meth : Method} {c : Code} (h1 : s.methodNamed? y = some m) (h2 : s.vm.method? m = some meth) (h3 : meth.code = some c) (h4 : c.code = bytes)
    (h5 : (c.maxLocals == mx && c.exceptionTable.isEmpty && decide (c.maxStack ≤ mostOperands) && decide (meth.sig.returnType = rt) && !meth.locks && decide (parseMethodDescriptor y.desc = some meth.sig)) = true) : (Jvm.Cond.code y bytes mx rt).before a s = true := by
  simp only [Bool.and_eq_true, beq_iff_eq, Bool.not_eq_true', decide_eq_true_eq] at h5
  obtain ⟨⟨⟨⟨⟨g1, g2⟩, g3⟩, g4⟩, g5⟩, g6⟩ := h5
  simp [Cond.before, Cond.holds, Cond.value, h1, h2, h3, h4, g1, g2, g3, g4, g5, g6]
def isCode : Jvm.Cond → Bool
  | .code _ _ _ _ => true
  | _ => false
theorem all_split {L : List Jvm.Cond} {P : Jvm.Cond → Bool} (h1 : L.all (fun c => isCode c || P c) = true) (h2 : ∀ c ∈ L.filter isCode, P c = true) : L.all P = true := by
  refine List.all_eq_true.mpr fun c hc => ?_
  have h := List.all_eq_true.mp h1 c hc
  rcases Bool.eq_false_or_eq_true (isCode c) with hi | hi
  · exact h2 c (List.mem_filter.mpr ⟨hc, hi⟩)
  · simpa [hi] using h
set_option maxRecDepth 65536 in
theorem w_c0 : (Jvm.Cond.code x code maxLocals ret).before args0 about1 = true := code_word (m := ⟨1, 1⟩) (meth := k1m1) (c := k1c1) (by decide +kernel) rfl rfl rfl (by decide +kernel)
set_option maxRecDepth 65536 in
theorem w_c1 : (Jvm.Cond.code ({ cls := "com/example/interlace/interlace/Clocks", name := "join", desc := "([I[I)V" } : Jvm.MethodName) prog_10_method_6_code (3 : Nat) (Option.none : Option Jvm.ClassFile.FieldType)).before args0 about1 = true := code_word (m := ⟨2, 0⟩) (meth := k2m0) (c := k2c0) (by decide +kernel) rfl rfl rfl (by decide +kernel)
set_option maxRecDepth 65536 in
theorem w_c2 : (Jvm.Cond.code ({ cls := "java/lang/Math", name := "max", desc := "(II)I" } : Jvm.MethodName) jdk_29_method_65_code (2 : Nat) (Option.some Jvm.ClassFile.FieldType.int)).before args0 about1 = true := code_word (m := ⟨3, 1⟩) (meth := k3m1) (c := k3c1) (by decide +kernel) rfl rfl rfl (by decide +kernel)
set_option maxRecDepth 65536 in
theorem w_c3 : (Jvm.Cond.code ({ cls := "com/example/interlace/interlace/ClocksJoinPinLaw", name := "larger", desc := "(II)I" } : Jvm.MethodName) method_3_code (2 : Nat) (Option.some Jvm.ClassFile.FieldType.int)).before args0 about1 = true := code_word (m := ⟨1, 2⟩) (meth := k1m2) (c := k1c2) (by decide +kernel) rfl rfl rfl (by decide +kernel)
def codes1 : List Jvm.Cond := [Jvm.Cond.code x code maxLocals ret, Jvm.Cond.code ({ cls := "com/example/interlace/interlace/Clocks", name := "join", desc := "([I[I)V" } : Jvm.MethodName) prog_10_method_6_code (3 : Nat) (Option.none : Option Jvm.ClassFile.FieldType), Jvm.Cond.code ({ cls := "java/lang/Math", name := "max", desc := "(II)I" } : Jvm.MethodName) jdk_29_method_65_code (2 : Nat) (Option.some Jvm.ClassFile.FieldType.int), Jvm.Cond.code ({ cls := "com/example/interlace/interlace/ClocksJoinPinLaw", name := "larger", desc := "(II)I" } : Jvm.MethodName) method_3_code (2 : Nat) (Option.some Jvm.ClassFile.FieldType.int)]
set_option maxRecDepth 65536 in
theorem codes_eq : words1.filter isCode = codes1 := rfl
theorem w_codes : ∀ c ∈ words1.filter isCode, c.before args0 about1 = true := by
  rw [codes_eq]
  intro c hc
  simp only [codes1, List.mem_cons, List.not_mem_nil, or_false] at hc
  rcases hc with rfl | rfl | rfl | rfl
  · exact w_c0
  · exact w_c1
  · exact w_c2
  · exact w_c3
set_option maxRecDepth 65536 in
theorem w_t1 : words1.all (fun c => isCode c || c.before args0 about1) = true := by decide +kernel
theorem w_tables : (allAtoms (Jvm.Cond.code x code maxLocals ret :: tables_1)).before args0 about1 = true := by
  rw [allAtoms_all]
  show words1.all (fun c => c.before args0 about1) = true
  refine all_split ?_ w_codes
  rw [w_t1]
set_option maxRecDepth 65536 in
theorem w_case : (Jvm.Cond.and given_1 narrow_1).before args0 about1 = true := by decide +kernel
theorem w_applies : (headSpec (Jvm.Cond.code x code maxLocals ret :: tables_1) room_1).applies x e0.platform about1 = true :=
  (Spec.applies_iff w_frames).mpr ⟨w_running, w_runnable, w_alone, w_named, w_hears, w_ripe, w_room, w_tables⟩
theorem atStart : AtStart classFile x code maxLocals ret World_1 tables_1 room_1 Calls_1 rest_1 Pre_1 launch0 p0 e0 about1 theMethod args0 below0 :=
  ⟨lists_1, trivial, launch0.admits_env _ _ _, launch0.least_env, fairChoices_fair.cas, fairChoices_fair.clock, w_frames, w_args, w_heap, w_applies, trivial, trivial, w_case⟩
end start1
theorem witness_1 : WitnessClaimed_1 := ⟨start1.p0, start1.e0, start1.about1, start1.theMethod, start1.args0, start1.below0, start1.atStart⟩
end Jvm.Pilot.@@N@@
