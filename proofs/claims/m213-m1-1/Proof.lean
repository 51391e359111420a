import JvmDerived
import JvmDerived.Pilot.@@N@@Statement
import JvmDerived.Pilot.@@N@@Code
set_option linter.unusedVariables false
set_option linter.unusedSimpArgs false
namespace Jvm.RoadKit
open Sem ClassFile Op Lib Jvm.Stand Jvm.Free Jvm.LawKit
section New
variable {p : Program} {l : Launch} {e : Env} {R : Room} {s : State} {m : MethodId} {args : Array Value} {below : List Frame} {meth : Method} {c : Code} {T : State} {locs : List Loc} {cells slots : Nat}
theorem retI (X : Stand p l e R s m args below meth c T locs cells slots) (hx : p.tables.exec = Jvm.exec) {pc : Nat} {Ls : Array Slot} {z : Int32} {rest : List Value} (hret : meth.sig.returnType = some .int) (hd : decode c.code pc = .ok (.ireturn, 1)) {fs : List Frame}
    (hl : ∀ (f : JFrame) (acts : List Action), f.method = m → f.locked = none → f.entered = [] → (doReturn e (T.setTop f) acts (some (.int z))).1 = T.setFrames fs) : Steps p.tables e below (T.setTop (mkF m pc Ls (.int z :: rest))) (T.setFrames fs) := by
  have hm' : T.vm.method? m = some meth := X.method'
  have hn : narrow .int (.int z) = .int z := rfl
  show Steps p.tables e below (T.setTop { method := m, pc := pc, locals := Ls, stack := _ :: rest, locked := none }) _
  jvm_step X.here [X.here.top, hx, hd, hm', hret, hn]
  first | (intro acts; rw [hl _ acts rfl rfl rfl]) | rw [hl _ _ rfl rfl rfl]
  exact Steps.refl _
end New
end Jvm.RoadKit
namespace Jvm.Pilot.@@N@@
open Jvm Jvm.ClassFile Sem Op Lib Jvm.Free Jvm.Stand Jvm.LawKit Jvm.RoadKit Bundle Jvm.Pilot.@@N@@.Jvm.D
/-- the fixed things of one body's walk -/
abbrev Wk : Type := Program × Launch × Env × Room × State × MethodId × Array Value × List Frame × Method × Code
abbrev Wk.p (W : Wk) : Program := W.1
abbrev Wk.l (W : Wk) : Launch := W.2.1
abbrev Wk.e (W : Wk) : Env := W.2.2.1
abbrev Wk.R (W : Wk) : Room := W.2.2.2.1
abbrev Wk.s (W : Wk) : State := W.2.2.2.2.1
abbrev Wk.m (W : Wk) : MethodId := W.2.2.2.2.2.1
abbrev Wk.args (W : Wk) : Array Value := W.2.2.2.2.2.2.1
abbrev Wk.below (W : Wk) : List Frame := W.2.2.2.2.2.2.2.1
abbrev Wk.meth (W : Wk) : Method := W.2.2.2.2.2.2.2.2.1
abbrev Wk.c (W : Wk) : Code := W.2.2.2.2.2.2.2.2.2
abbrev St (W : Wk) (T : State) (L : List Loc) (k n : Nat) : Prop := Stand W.p W.l W.e W.R W.s W.m W.args W.below W.meth W.c T L k n
abbrev Sp (W : Wk) (a b : State) : Prop := Steps W.p.tables W.e W.below a b
/-- what holds throughout the walk -/
def Cx (Z : State) (W : Wk) (rm : Room) (own nm : String) (bytes : ByteArray) (maxL : Nat) (ret : Option FieldType) : Prop :=
  W.p.tables.exec = Jvm.exec ∧ W.c.code = bytes ∧ W.c.maxLocals = maxL ∧ W.s.vm.findClass own = some W.m.cls ∧ W.meth.name = nm ∧ W.meth.sig.returnType = ret ∧ Z.Warmed39 W.s.vm ∧ W.meth.locks = false ∧ W.R = rm
section Cxs
variable {Z : State} {W : Wk} {rm : Room} {own nm : String} {bytes : ByteArray} {maxL : Nat} {ret : Option FieldType}
theorem Cx.x (C : Cx Z W rm own nm bytes maxL ret) : W.p.tables.exec = Jvm.exec := C.1
theorem Cx.b (C : Cx Z W rm own nm bytes maxL ret) : W.c.code = bytes := C.2.1
theorem Cx.ml (C : Cx Z W rm own nm bytes maxL ret) : W.c.maxLocals = maxL := C.2.2.1
theorem Cx.ow (C : Cx Z W rm own nm bytes maxL ret) : W.s.vm.findClass own = some W.m.cls := C.2.2.2.1
theorem Cx.na (C : Cx Z W rm own nm bytes maxL ret) : W.meth.name = nm := C.2.2.2.2.1
theorem Cx.re (C : Cx Z W rm own nm bytes maxL ret) : W.meth.sig.returnType = ret := C.2.2.2.2.2.1
theorem Cx.z (C : Cx Z W rm own nm bytes maxL ret) : Z.Warmed39 W.s.vm := C.2.2.2.2.2.2.1
theorem Cx.lk (C : Cx Z W rm own nm bytes maxL ret) : W.meth.locks = false := C.2.2.2.2.2.2.2.1
theorem Cx.ro (C : Cx Z W rm own nm bytes maxL ret) : W.R = rm := C.2.2.2.2.2.2.2.2
end Cxs
/-- the run comes to the invocation's end, with what Q says -/
def Ends (W : Wk) (n0 : Nat) (Q : Option Value → Heap → Prop) (U : State) : Prop :=
  ∃ s₂ o, Sp W U s₂ ∧ s₂.status = .running ∧ Ended s₂ W.below o ∧ ∃ v L, o = .returned v ∧ (Fr n0 L ∧ Q v s₂.heap) ∧ FrameEnd W.s o s₂ L W.R.cells W.R.slots
/-- from pc, with these locals and this stack, over the heap h, at most k cells of n slots made so far -/
def Go (W : Wk) (n0 : Nat) (Q : Option Value → Heap → Prop) (h : Heap) (k n pc : Nat) (ls : Array Slot) (st : List Value) : Prop :=
  ∀ T L k' n', St W T L k' n' → k' ≤ k → n' ≤ n → Fr n0 L → T.heap = h → Ends W n0 Q (T.setTop (mkF W.m pc ls st))
/-- a body's contract: on these arguments, over the heap h, it ends and Q holds of what it returns and of the heap that it leaves -/
def Met1 (l : Launch) (Z : State) (y : MethodName) (bytes : ByteArray) (maxL : Nat) (ret : Option FieldType) (ws : List Jvm.Cond) (rm : Room) (as : Array Value) (h : Heap) (n0 : Nat) (Q : Option Value → Heap → Prop) : Prop :=
  MetFree l y (head1 (Jvm.Cond.code y bytes maxL ret :: ws) rm) (fun a U => a = as ∧ Z.Warmed39 U.vm ∧ U.heap = h) (fun _ _ _ _ _ => True) (fun _ U o U' => ∃ v L, o = .returned v ∧ (Fr n0 L ∧ Q v U'.heap) ∧ FrameEnd U o U' L rm.cells rm.slots)
theorem met_of_go {l : Launch} {Z : State} {y : MethodName} {bytes : ByteArray} {maxL : Nat} {ret : Option FieldType} {ws : List Jvm.Cond} {rm : Room} {as : Array Value} {h : Heap} {n0 : Nat} {Q : Option Value → Heap → Prop} {ls : Array Slot}
    (hpl : plainFor y = true) (hef : ∀ m, entryFrame m as maxL = mkF m 0 ls [])
    (go : ∀ W : Wk, W.l = l → Cx Z W rm y.cls y.name bytes maxL ret → Go W n0 Q h 0 0 0 ls []) : Met1 l Z y bytes maxL ret ws rm as h n0 Q := by
  refine MetFree.of_bodySF hpl hisR ?_
  intro p e s m args below meth c s₁ Bd hml0 hP hK
  obtain ⟨rfl, hZ, hh⟩ := hP
  have X0 : Stand p l e rm s m args below meth c s₁ [] 0 0 := Stand.of_body Bd
  have e0 : s₁.heap = h := by rw [← hh, Bd.state]; rfl
  obtain ⟨s₂, o, h1, h2, h3, h4⟩ := go (p, l, e, rm, s, m, args, below, meth, c) rfl ⟨Bd.exec, Bd.bytes, hml0, findClass_of_methodNamed Bd.named, (name_of_methodNamed Bd.named Bd.method).1, Bd.returns, hZ, Bd.notSynchronized, rfl⟩ s₁ [] 0 0 X0 (Nat.le_refl _) (Nat.le_refl _) (Fr.nil n0) e0
  exact ⟨s₂, o, castTop (hef m) h1, h2, h3, h4⟩
section Gos
variable {Z : State} {W : Wk} {rm : Room} {own nm : String} {bytes : ByteArray} {maxL : Nat} {ret : Option FieldType} {n0 : Nat} {Q : Option Value → Heap → Prop} {h : Heap} {k n pc q : Nat} {ls : Array Slot} {st : List Value} {a0 : Array Value}
theorem Go.mono {k' n' : Nat} (hk : k ≤ k') (hn : n ≤ n') (g : Go W n0 Q h k' n' pc ls st) : Go W n0 Q h k n pc ls st :=
  fun T L a b X h1 h2 => g T L a b X (Nat.le_trans h1 hk) (Nat.le_trans h2 hn)
theorem Go.stepX {ls' : Array Slot} {st' : List Value} (f : ∀ T L a b tg, St W T L a b → T.heap = h → Sp W (T.setTop (mkF W.m q ls' st')) tg → Sp W (T.setTop (mkF W.m pc ls st)) tg) (hr : Go W n0 Q h k n q ls' st') : Go W n0 Q h k n pc ls st := by
  intro T L a b X hk hn N eT
  obtain ⟨s₂, o, hs, r⟩ := hr T L a b X hk hn N eT
  exact ⟨s₂, o, f T L a b _ X eT hs, r⟩
theorem Go.stepT {ls' : Array Slot} {st' : List Value} (f : ∀ T L a b, St W T L a b → T.heap = h → ∃ T', St W T' L a b ∧ T'.heap = h ∧ ∀ tg, Sp W (T'.setTop (mkF W.m q ls' st')) tg → Sp W (T.setTop (mkF W.m pc ls st)) tg) (hr : Go W n0 Q h k n q ls' st') : Go W n0 Q h k n pc ls st := by
  intro T L a b X hk hn N eT
  obtain ⟨T', X', e', sp⟩ := f T L a b X eT
  obtain ⟨s₂, o, hs, r⟩ := hr T' L a b X' hk hn N e'
  exact ⟨s₂, o, sp _ hs, r⟩

theorem Go.iload (C : Cx Z W rm own nm bytes maxL ret) {j : Nat} {v : Int32} (hd : decode bytes pc = .ok (.iload j, 2)) (hq : pc + 2 = q) (hl : ls[j]? = some (.val (.int v)))
    (hr : Go W n0 Q h k n q ls (.int v :: st)) : Go W n0 Q h k n pc ls st := by
  subst hq
  exact Go.stepX (fun T L a b tg X eT kk => XS.iload X.here C.x rfl (hb C.b hd) hl kk) hr
theorem Go.iloadN (C : Cx Z W rm own nm bytes maxL ret) {j : Fin 4} {v : Int32} (hd : decode bytes pc = .ok (.iload_n j, 1)) (hq : pc + 1 = q) (hl : ls[j.val]? = some (.val (.int v)))
    (hr : Go W n0 Q h k n q ls (.int v :: st)) : Go W n0 Q h k n pc ls st := by
  subst hq
  exact Go.stepX (fun T L a b tg X eT kk => XS.iloadN X.here C.x rfl (hb C.b hd) hl kk) hr
theorem Go.lload (C : Cx Z W rm own nm bytes maxL ret) {j : Nat} {v : Int64} (hd : decode bytes pc = .ok (.lload j, 2)) (hq : pc + 2 = q) (hl : ls[j]? = some (.val (.long v)))
    (hr : Go W n0 Q h k n q ls (.long v :: st)) : Go W n0 Q h k n pc ls st := by
  subst hq
  exact Go.stepX (fun T L a b tg X eT kk => XS.lload X.here C.x rfl (hb C.b hd) hl kk) hr
theorem Go.lloadN (C : Cx Z W rm own nm bytes maxL ret) {j : Fin 4} {v : Int64} (hd : decode bytes pc = .ok (.lload_n j, 1)) (hq : pc + 1 = q) (hl : ls[j.val]? = some (.val (.long v)))
    (hr : Go W n0 Q h k n q ls (.long v :: st)) : Go W n0 Q h k n pc ls st := by
  subst hq
  exact Go.stepX (fun T L a b tg X eT kk => XS.lloadN X.here C.x rfl (hb C.b hd) hl kk) hr
theorem Go.aload (C : Cx Z W rm own nm bytes maxL ret) {j : Nat} {v : Value} (hd : decode bytes pc = .ok (.aload j, 2)) (hq : pc + 2 = q) (hl : ls[j]? = some (.val v)) (hv : v.isRef = true)
    (hr : Go W n0 Q h k n q ls (v :: st)) : Go W n0 Q h k n pc ls st := by
  subst hq
  exact Go.stepX (fun T L a b tg X eT kk => XS.aload X.here C.x rfl (hb C.b hd) hl hv kk) hr
theorem Go.aloadN (C : Cx Z W rm own nm bytes maxL ret) {j : Fin 4} {v : Value} (hd : decode bytes pc = .ok (.aload_n j, 1)) (hq : pc + 1 = q) (hl : ls[j.val]? = some (.val v)) (hv : v.isRef = true)
    (hr : Go W n0 Q h k n q ls (v :: st)) : Go W n0 Q h k n pc ls st := by
  subst hq
  exact Go.stepX (fun T L a b tg X eT kk => XS.aloadN X.here C.x rfl (hb C.b hd) hl hv kk) hr
theorem Go.istore (C : Cx Z W rm own nm bytes maxL ret) {j : Nat} {x : Int32} (hd : decode bytes pc = .ok (.istore j, 2)) (hq : pc + 2 = q) (l' : Int32 → Array Slot) (hl : ∀ v, storeLocals ls j (.int v) = some (l' v))
    (hr : ∀ v, v = x → Go W n0 Q h k n q (l' v) st) : Go W n0 Q h k n pc ls (.int x :: st) := by
  subst hq
  exact Go.stepX (fun T L a b tg X eT kk => XS.istore X.here C.x rfl (hb C.b hd) rfl (hl x) kk) (hr x rfl)
theorem Go.istoreN (C : Cx Z W rm own nm bytes maxL ret) {j : Fin 4} {x : Int32} (hd : decode bytes pc = .ok (.istore_n j, 1)) (hq : pc + 1 = q) (l' : Int32 → Array Slot) (hl : ∀ v, storeLocals ls j.val (.int v) = some (l' v))
    (hr : ∀ v, v = x → Go W n0 Q h k n q (l' v) st) : Go W n0 Q h k n pc ls (.int x :: st) := by
  subst hq
  exact Go.stepX (fun T L a b tg X eT kk => XS.istoreN X.here C.x rfl (hb C.b hd) rfl (hl x) kk) (hr x rfl)
theorem Go.lstore (C : Cx Z W rm own nm bytes maxL ret) {j : Nat} {x : Int64} (hd : decode bytes pc = .ok (.lstore j, 2)) (hq : pc + 2 = q) (l' : Int64 → Array Slot) (hl : ∀ v, storeLocals ls j (.long v) = some (l' v))
    (hr : ∀ v, v = x → Go W n0 Q h k n q (l' v) st) : Go W n0 Q h k n pc ls (.long x :: st) := by
  subst hq
  exact Go.stepX (fun T L a b tg X eT kk => XS.lstore X.here C.x rfl (hb C.b hd) rfl (hl x) kk) (hr x rfl)
theorem Go.lstoreN (C : Cx Z W rm own nm bytes maxL ret) {j : Fin 4} {x : Int64} (hd : decode bytes pc = .ok (.lstore_n j, 1)) (hq : pc + 1 = q) (l' : Int64 → Array Slot) (hl : ∀ v, storeLocals ls j.val (.long v) = some (l' v))
    (hr : ∀ v, v = x → Go W n0 Q h k n q (l' v) st) : Go W n0 Q h k n pc ls (.long x :: st) := by
  subst hq
  exact Go.stepX (fun T L a b tg X eT kk => XS.lstoreN X.here C.x rfl (hb C.b hd) rfl (hl x) kk) (hr x rfl)
theorem Go.astore (C : Cx Z W rm own nm bytes maxL ret) {j : Nat} {x : Value} (hd : decode bytes pc = .ok (.astore j, 2)) (hq : pc + 2 = q) {l' : Array Slot} (hv : x.isRef = true) (hl : storeLocals ls j x = some l')
    (hr : Go W n0 Q h k n q l' st) : Go W n0 Q h k n pc ls (x :: st) := by
  subst hq
  exact Go.stepX (fun T L a b tg X eT kk => XS.astore X.here C.x rfl (hb C.b hd) rfl hv hl kk) hr
theorem Go.astoreN (C : Cx Z W rm own nm bytes maxL ret) {j : Fin 4} {x : Value} (hd : decode bytes pc = .ok (.astore_n j, 1)) (hq : pc + 1 = q) {l' : Array Slot} (hv : x.isRef = true) (hl : storeLocals ls j.val x = some l')
    (hr : Go W n0 Q h k n q l' st) : Go W n0 Q h k n pc ls (x :: st) := by
  subst hq
  exact Go.stepX (fun T L a b tg X eT kk => XS.astoreN X.here C.x rfl (hb C.b hd) rfl hv hl kk) hr
theorem Go.istoreR (C : Cx Z W rm own nm bytes maxL ret) {j : Nat} {x : Int32} (hd : decode bytes pc = .ok (.istore j, 2)) (hq : pc + 2 = q) {l' : Array Slot} (hl : storeLocals ls j (.int x) = some l')
    (hr : Go W n0 Q h k n q l' st) : Go W n0 Q h k n pc ls (.int x :: st) := by
  subst hq
  exact Go.stepX (fun T L a b tg X eT kk => XS.istore X.here C.x rfl (hb C.b hd) rfl hl kk) hr
theorem Go.istoreNR (C : Cx Z W rm own nm bytes maxL ret) {j : Fin 4} {x : Int32} (hd : decode bytes pc = .ok (.istore_n j, 1)) (hq : pc + 1 = q) {l' : Array Slot} (hl : storeLocals ls j.val (.int x) = some l')
    (hr : Go W n0 Q h k n q l' st) : Go W n0 Q h k n pc ls (.int x :: st) := by
  subst hq
  exact Go.stepX (fun T L a b tg X eT kk => XS.istoreN X.here C.x rfl (hb C.b hd) rfl hl kk) hr
theorem Go.lstoreR (C : Cx Z W rm own nm bytes maxL ret) {j : Nat} {x : Int64} (hd : decode bytes pc = .ok (.lstore j, 2)) (hq : pc + 2 = q) {l' : Array Slot} (hl : storeLocals ls j (.long x) = some l')
    (hr : Go W n0 Q h k n q l' st) : Go W n0 Q h k n pc ls (.long x :: st) := by
  subst hq
  exact Go.stepX (fun T L a b tg X eT kk => XS.lstore X.here C.x rfl (hb C.b hd) rfl hl kk) hr
theorem Go.lstoreNR (C : Cx Z W rm own nm bytes maxL ret) {j : Fin 4} {x : Int64} (hd : decode bytes pc = .ok (.lstore_n j, 1)) (hq : pc + 1 = q) {l' : Array Slot} (hl : storeLocals ls j.val (.long x) = some l')
    (hr : Go W n0 Q h k n q l' st) : Go W n0 Q h k n pc ls (.long x :: st) := by
  subst hq
  exact Go.stepX (fun T L a b tg X eT kk => XS.lstoreN X.here C.x rfl (hb C.b hd) rfl hl kk) hr
theorem Go.iincR (C : Cx Z W rm own nm bytes maxL ret) {j : Nat} {cst : Int} {x : Int32} (hd : decode bytes pc = .ok (.iinc j cst, 3)) (hq : pc + 3 = q) (hl0 : ls[j]? = some (.val (.int x))) {l' : Array Slot} (hl : storeLocals ls j (.int (x + Int32.ofInt cst)) = some l')
    (hr : Go W n0 Q h k n q l' st) : Go W n0 Q h k n pc ls st := by
  subst hq
  exact Go.stepX (fun T L a b tg X eT kk => XS.iinc X.here C.x rfl (hb C.b hd) hl0 hl kk) hr
theorem Go.iinc (C : Cx Z W rm own nm bytes maxL ret) {j : Nat} {cst : Int} {x y : Int32} (hd : decode bytes pc = .ok (.iinc j cst, 3)) (hq : pc + 3 = q) (hl0 : ls[j]? = some (.val (.int x))) (hy : Int32.ofInt cst = y) (l' : Int32 → Array Slot) (hl : ∀ v, storeLocals ls j (.int v) = some (l' v))
    (hr : ∀ v, v = x + y → Go W n0 Q h k n q (l' v) st) : Go W n0 Q h k n pc ls st := by
  subst hq hy
  exact Go.stepX (fun T L a b tg X eT kk => XS.iinc X.here C.x rfl (hb C.b hd) hl0 (hl _) kk) (hr _ rfl)
theorem Go.iconst (C : Cx Z W rm own nm bytes maxL ret) {i : Int} (v : Int32) (hd : decode bytes pc = .ok (.iconst i, 1)) (hq : pc + 1 = q) (hv : Int32.ofInt i = v)
    (hr : Go W n0 Q h k n q ls (.int v :: st)) : Go W n0 Q h k n pc ls st := by
  subst hq hv
  exact Go.stepX (fun T L a b tg X eT kk => XS.iconst X.here C.x rfl (hb C.b hd) kk) hr
theorem Go.bipush (C : Cx Z W rm own nm bytes maxL ret) {i : Int} (v : Int32) (hd : decode bytes pc = .ok (.bipush i, 2)) (hq : pc + 2 = q) (hv : (Int8.ofInt i).toInt32 = v)
    (hr : Go W n0 Q h k n q ls (.int v :: st)) : Go W n0 Q h k n pc ls st := by
  subst hq hv
  exact Go.stepX (fun T L a b tg X eT kk => XS.bipush X.here C.x rfl (hb C.b hd) kk) hr
theorem Go.sipush (C : Cx Z W rm own nm bytes maxL ret) {i : Int} (v : Int32) (hd : decode bytes pc = .ok (.sipush i, 3)) (hq : pc + 3 = q) (hv : (Int16.ofInt i).toInt32 = v)
    (hr : Go W n0 Q h k n q ls (.int v :: st)) : Go W n0 Q h k n pc ls st := by
  subst hq hv
  exact Go.stepX (fun T L a b tg X eT kk => XS.sipush X.here C.x rfl (hb C.b hd) kk) hr
theorem Go.lconst (C : Cx Z W rm own nm bytes maxL ret) {i : Fin 2} (v : Int64) (hd : decode bytes pc = .ok (.lconst i, 1)) (hq : pc + 1 = q) (hv : Int64.ofNat i = v)
    (hr : Go W n0 Q h k n q ls (.long v :: st)) : Go W n0 Q h k n pc ls st := by
  subst hq hv
  exact Go.stepX (fun T L a b tg X eT kk => XS.lconst X.here C.x rfl (hb C.b hd) kk) hr
theorem Go.aconstNull (C : Cx Z W rm own nm bytes maxL ret)  (hd : decode bytes pc = .ok (.aconst_null, 1)) (hq : pc + 1 = q)
    (hr : Go W n0 Q h k n q ls (.null :: st)) : Go W n0 Q h k n pc ls st := by
  subst hq
  exact Go.stepX (fun T L a b tg X eT kk => XS.aconstNull X.here C.x rfl (hb C.b hd) kk) hr
theorem Go.ldcI (C : Cx Z W rm own nm bytes maxL ret) {index : Nat} {v : Int32} (w : (Jvm.Cond.constant own index v).before a0 Z = true) (hd : decode bytes pc = .ok (.ldc index, 2)) (hq : pc + 2 = q)
    (hr : Go W n0 Q h k n q ls (.int v :: st)) : Go W n0 Q h k n pc ls st := by
  subst hq
  exact Go.stepX (fun T L a b tg X eT kk => X.ldcInt C.x C.ow (mvT C.z w) (g := mkF W.m pc ls st) rfl (hb C.b hd) _ kk) hr
theorem Go.ldcwI (C : Cx Z W rm own nm bytes maxL ret) {index : Nat} {v : Int32} (w : (Jvm.Cond.constant own index v).before a0 Z = true) (hd : decode bytes pc = .ok (.ldc_w index, 3)) (hq : pc + 3 = q)
    (hr : Go W n0 Q h k n q ls (.int v :: st)) : Go W n0 Q h k n pc ls st := by
  subst hq
  exact Go.stepX (fun T L a b tg X eT kk => X.ldcwInt C.x C.ow (mvT C.z w) (g := mkF W.m pc ls st) rfl (hb C.b hd) _ kk) hr
theorem Go.ldc2J (C : Cx Z W rm own nm bytes maxL ret) {index : Nat} {v : Int64} (w : (Jvm.Cond.constantLong own index v).before a0 Z = true) (hd : decode bytes pc = .ok (.ldc2_w index, 3)) (hq : pc + 3 = q)
    (hr : Go W n0 Q h k n q ls (.long v :: st)) : Go W n0 Q h k n pc ls st := by
  subst hq
  exact Go.stepX (fun T L a b tg X eT kk => X.ldc2Long C.x C.ow (mvT C.z w) (g := mkF W.m pc ls st) rfl (hb C.b hd) _ kk) hr
theorem Go.iadd (C : Cx Z W rm own nm bytes maxL ret) {x y : Int32} (hd : decode bytes pc = .ok (.iadd, 1)) (hq : pc + 1 = q)
    (hr : Go W n0 Q h k n q ls (.int (x + y) :: st)) : Go W n0 Q h k n pc ls (.int y :: .int x :: st) := by
  subst hq
  exact Go.stepX (fun T L a b tg X eT kk => XS.iadd X.here C.x rfl (hb C.b hd) rfl kk) hr
theorem Go.ladd (C : Cx Z W rm own nm bytes maxL ret) {x y : Int64} (hd : decode bytes pc = .ok (.ladd, 1)) (hq : pc + 1 = q)
    (hr : Go W n0 Q h k n q ls (.long (x + y) :: st)) : Go W n0 Q h k n pc ls (.long y :: .long x :: st) := by
  subst hq
  exact Go.stepX (fun T L a b tg X eT kk => XS.ladd X.here C.x rfl (hb C.b hd) rfl kk) hr
theorem Go.isub (C : Cx Z W rm own nm bytes maxL ret) {x y : Int32} (hd : decode bytes pc = .ok (.isub, 1)) (hq : pc + 1 = q)
    (hr : Go W n0 Q h k n q ls (.int (x - y) :: st)) : Go W n0 Q h k n pc ls (.int y :: .int x :: st) := by
  subst hq
  exact Go.stepX (fun T L a b tg X eT kk => XS.isub X.here C.x rfl (hb C.b hd) rfl kk) hr
theorem Go.lsub (C : Cx Z W rm own nm bytes maxL ret) {x y : Int64} (hd : decode bytes pc = .ok (.lsub, 1)) (hq : pc + 1 = q)
    (hr : Go W n0 Q h k n q ls (.long (x - y) :: st)) : Go W n0 Q h k n pc ls (.long y :: .long x :: st) := by
  subst hq
  exact Go.stepX (fun T L a b tg X eT kk => XS.lsub X.here C.x rfl (hb C.b hd) rfl kk) hr
theorem Go.imul (C : Cx Z W rm own nm bytes maxL ret) {x y : Int32} (hd : decode bytes pc = .ok (.imul, 1)) (hq : pc + 1 = q)
    (hr : Go W n0 Q h k n q ls (.int (x * y) :: st)) : Go W n0 Q h k n pc ls (.int y :: .int x :: st) := by
  subst hq
  exact Go.stepX (fun T L a b tg X eT kk => XS.imul X.here C.x rfl (hb C.b hd) rfl kk) hr
theorem Go.lmul (C : Cx Z W rm own nm bytes maxL ret) {x y : Int64} (hd : decode bytes pc = .ok (.lmul, 1)) (hq : pc + 1 = q)
    (hr : Go W n0 Q h k n q ls (.long (x * y) :: st)) : Go W n0 Q h k n pc ls (.long y :: .long x :: st) := by
  subst hq
  exact Go.stepX (fun T L a b tg X eT kk => XS.lmul X.here C.x rfl (hb C.b hd) rfl kk) hr
theorem Go.iand (C : Cx Z W rm own nm bytes maxL ret) {x y : Int32} (hd : decode bytes pc = .ok (.iand, 1)) (hq : pc + 1 = q)
    (hr : Go W n0 Q h k n q ls (.int (x &&& y) :: st)) : Go W n0 Q h k n pc ls (.int y :: .int x :: st) := by
  subst hq
  exact Go.stepX (fun T L a b tg X eT kk => XS.iand X.here C.x rfl (hb C.b hd) rfl kk) hr
theorem Go.land (C : Cx Z W rm own nm bytes maxL ret) {x y : Int64} (hd : decode bytes pc = .ok (.land, 1)) (hq : pc + 1 = q)
    (hr : Go W n0 Q h k n q ls (.long (x &&& y) :: st)) : Go W n0 Q h k n pc ls (.long y :: .long x :: st) := by
  subst hq
  exact Go.stepX (fun T L a b tg X eT kk => XS.land X.here C.x rfl (hb C.b hd) rfl kk) hr
theorem Go.ior (C : Cx Z W rm own nm bytes maxL ret) {x y : Int32} (hd : decode bytes pc = .ok (.ior, 1)) (hq : pc + 1 = q)
    (hr : Go W n0 Q h k n q ls (.int (x ||| y) :: st)) : Go W n0 Q h k n pc ls (.int y :: .int x :: st) := by
  subst hq
  exact Go.stepX (fun T L a b tg X eT kk => XS.ior X.here C.x rfl (hb C.b hd) rfl kk) hr
theorem Go.lor (C : Cx Z W rm own nm bytes maxL ret) {x y : Int64} (hd : decode bytes pc = .ok (.lor, 1)) (hq : pc + 1 = q)
    (hr : Go W n0 Q h k n q ls (.long (x ||| y) :: st)) : Go W n0 Q h k n pc ls (.long y :: .long x :: st) := by
  subst hq
  exact Go.stepX (fun T L a b tg X eT kk => XS.lor X.here C.x rfl (hb C.b hd) rfl kk) hr
theorem Go.ixor (C : Cx Z W rm own nm bytes maxL ret) {x y : Int32} (hd : decode bytes pc = .ok (.ixor, 1)) (hq : pc + 1 = q)
    (hr : Go W n0 Q h k n q ls (.int (x ^^^ y) :: st)) : Go W n0 Q h k n pc ls (.int y :: .int x :: st) := by
  subst hq
  exact Go.stepX (fun T L a b tg X eT kk => XS.ixor X.here C.x rfl (hb C.b hd) rfl kk) hr
theorem Go.lxor (C : Cx Z W rm own nm bytes maxL ret) {x y : Int64} (hd : decode bytes pc = .ok (.lxor, 1)) (hq : pc + 1 = q)
    (hr : Go W n0 Q h k n q ls (.long (x ^^^ y) :: st)) : Go W n0 Q h k n pc ls (.long y :: .long x :: st) := by
  subst hq
  exact Go.stepX (fun T L a b tg X eT kk => XS.lxor X.here C.x rfl (hb C.b hd) rfl kk) hr
theorem Go.irem (C : Cx Z W rm own nm bytes maxL ret) {x y : Int32} (hd : decode bytes pc = .ok (.irem, 1)) (hq : pc + 1 = q) (hy : y ≠ 0)
    (hr : Go W n0 Q h k n q ls (.int (x % y) :: st)) : Go W n0 Q h k n pc ls (.int y :: .int x :: st) := by
  subst hq
  exact Go.stepX (fun T L a b tg X eT kk => iremM X C.x rfl (hb C.b hd) rfl hy kk) hr
theorem Go.idiv (C : Cx Z W rm own nm bytes maxL ret) {x y : Int32} (hd : decode bytes pc = .ok (.idiv, 1)) (hq : pc + 1 = q) (hy : y ≠ 0)
    (hr : Go W n0 Q h k n q ls (.int (x / y) :: st)) : Go W n0 Q h k n pc ls (.int y :: .int x :: st) := by
  subst hq
  exact Go.stepX (fun T L a b tg X eT kk => XS.idiv X.here C.x rfl (hb C.b hd) rfl hy kk) hr
theorem Go.lrem (C : Cx Z W rm own nm bytes maxL ret) {x y : Int64} (hd : decode bytes pc = .ok (.lrem, 1)) (hq : pc + 1 = q) (hy : y ≠ 0)
    (hr : Go W n0 Q h k n q ls (.long (x - (x / y) * y) :: st)) : Go W n0 Q h k n pc ls (.long y :: .long x :: st) := by
  subst hq
  exact Go.stepX (fun T L a b tg X eT kk => XS.lrem X.here C.x rfl (hb C.b hd) rfl hy kk) hr
theorem Go.ldiv (C : Cx Z W rm own nm bytes maxL ret) {x y : Int64} (hd : decode bytes pc = .ok (.ldiv, 1)) (hq : pc + 1 = q) (hy : y ≠ 0)
    (hr : Go W n0 Q h k n q ls (.long (x / y) :: st)) : Go W n0 Q h k n pc ls (.long y :: .long x :: st) := by
  subst hq
  exact Go.stepX (fun T L a b tg X eT kk => XS.ldiv X.here C.x rfl (hb C.b hd) rfl hy kk) hr
theorem Go.ineg (C : Cx Z W rm own nm bytes maxL ret) {x : Int32} (hd : decode bytes pc = .ok (.ineg, 1)) (hq : pc + 1 = q)
    (hr : Go W n0 Q h k n q ls (.int (-x) :: st)) : Go W n0 Q h k n pc ls (.int x :: st) := by
  subst hq
  exact Go.stepX (fun T L a b tg X eT kk => XS.ineg X.here C.x rfl (hb C.b hd) rfl kk) hr
theorem Go.lneg (C : Cx Z W rm own nm bytes maxL ret) {x : Int64} (hd : decode bytes pc = .ok (.lneg, 1)) (hq : pc + 1 = q)
    (hr : Go W n0 Q h k n q ls (.long (-x) :: st)) : Go W n0 Q h k n pc ls (.long x :: st) := by
  subst hq
  exact Go.stepX (fun T L a b tg X eT kk => XS.lneg X.here C.x rfl (hb C.b hd) rfl kk) hr
theorem Go.i2l (C : Cx Z W rm own nm bytes maxL ret) {x : Int32} (hd : decode bytes pc = .ok (.i2l, 1)) (hq : pc + 1 = q)
    (hr : Go W n0 Q h k n q ls (.long x.toInt64 :: st)) : Go W n0 Q h k n pc ls (.int x :: st) := by
  subst hq
  exact Go.stepX (fun T L a b tg X eT kk => XS.i2l X.here C.x rfl (hb C.b hd) rfl kk) hr
theorem Go.l2i (C : Cx Z W rm own nm bytes maxL ret) {x : Int64} (hd : decode bytes pc = .ok (.l2i, 1)) (hq : pc + 1 = q)
    (hr : Go W n0 Q h k n q ls (.int x.toInt32 :: st)) : Go W n0 Q h k n pc ls (.long x :: st) := by
  subst hq
  exact Go.stepX (fun T L a b tg X eT kk => XS.l2i X.here C.x rfl (hb C.b hd) rfl kk) hr
theorem Go.i2b (C : Cx Z W rm own nm bytes maxL ret) {x : Int32} (hd : decode bytes pc = .ok (.i2b, 1)) (hq : pc + 1 = q)
    (hr : Go W n0 Q h k n q ls (.int x.toInt8.toInt32 :: st)) : Go W n0 Q h k n pc ls (.int x :: st) := by
  subst hq
  exact Go.stepX (fun T L a b tg X eT kk => XS.i2b X.here C.x rfl (hb C.b hd) rfl kk) hr
theorem Go.i2s (C : Cx Z W rm own nm bytes maxL ret) {x : Int32} (hd : decode bytes pc = .ok (.i2s, 1)) (hq : pc + 1 = q)
    (hr : Go W n0 Q h k n q ls (.int x.toInt16.toInt32 :: st)) : Go W n0 Q h k n pc ls (.int x :: st) := by
  subst hq
  exact Go.stepX (fun T L a b tg X eT kk => XS.i2s X.here C.x rfl (hb C.b hd) rfl kk) hr
theorem Go.i2c (C : Cx Z W rm own nm bytes maxL ret) {x : Int32} (hd : decode bytes pc = .ok (.i2c, 1)) (hq : pc + 1 = q)
    (hr : Go W n0 Q h k n q ls (.int x.toUInt32.toUInt16.toUInt32.toInt32 :: st)) : Go W n0 Q h k n pc ls (.int x :: st) := by
  subst hq
  exact Go.stepX (fun T L a b tg X eT kk => XS.i2c X.here C.x rfl (hb C.b hd) rfl kk) hr
theorem Go.ishl (C : Cx Z W rm own nm bytes maxL ret) {x : Int32} {y : Int32} (hd : decode bytes pc = .ok (.ishl, 1)) (hq : pc + 1 = q)
    (hr : Go W n0 Q h k n q ls (.int (x <<< (y &&& 31)) :: st)) : Go W n0 Q h k n pc ls (.int y :: .int x :: st) := by
  subst hq
  exact Go.stepX (fun T L a b tg X eT kk => XS.ishl X.here C.x rfl (hb C.b hd) rfl kk) hr
theorem Go.ishr (C : Cx Z W rm own nm bytes maxL ret) {x : Int32} {y : Int32} (hd : decode bytes pc = .ok (.ishr, 1)) (hq : pc + 1 = q)
    (hr : Go W n0 Q h k n q ls (.int (x >>> (y &&& 31)) :: st)) : Go W n0 Q h k n pc ls (.int y :: .int x :: st) := by
  subst hq
  exact Go.stepX (fun T L a b tg X eT kk => XS.ishr X.here C.x rfl (hb C.b hd) rfl kk) hr
theorem Go.iushr (C : Cx Z W rm own nm bytes maxL ret) {x : Int32} {y : Int32} (hd : decode bytes pc = .ok (.iushr, 1)) (hq : pc + 1 = q)
    (hr : Go W n0 Q h k n q ls (.int ((x.toUInt32 >>> (y &&& 31).toUInt32).toInt32) :: st)) : Go W n0 Q h k n pc ls (.int y :: .int x :: st) := by
  subst hq
  exact Go.stepX (fun T L a b tg X eT kk => XS.iushr X.here C.x rfl (hb C.b hd) rfl kk) hr
theorem Go.lshl (C : Cx Z W rm own nm bytes maxL ret) {x : Int64} {y : Int32} (hd : decode bytes pc = .ok (.lshl, 1)) (hq : pc + 1 = q)
    (hr : Go W n0 Q h k n q ls (.long (x <<< (y &&& 0x3f).toInt64) :: st)) : Go W n0 Q h k n pc ls (.int y :: .long x :: st) := by
  subst hq
  exact Go.stepX (fun T L a b tg X eT kk => XS.lshl X.here C.x rfl (hb C.b hd) rfl kk) hr
theorem Go.lshr (C : Cx Z W rm own nm bytes maxL ret) {x : Int64} {y : Int32} (hd : decode bytes pc = .ok (.lshr, 1)) (hq : pc + 1 = q)
    (hr : Go W n0 Q h k n q ls (.long (x >>> (y &&& 0x3f).toInt64) :: st)) : Go W n0 Q h k n pc ls (.int y :: .long x :: st) := by
  subst hq
  exact Go.stepX (fun T L a b tg X eT kk => XS.lshr X.here C.x rfl (hb C.b hd) rfl kk) hr
theorem Go.lushr (C : Cx Z W rm own nm bytes maxL ret) {x : Int64} {y : Int32} (hd : decode bytes pc = .ok (.lushr, 1)) (hq : pc + 1 = q)
    (hr : Go W n0 Q h k n q ls (.long ((x.toUInt64 >>> (y &&& 0x3f).toInt64.toUInt64).toInt64) :: st)) : Go W n0 Q h k n pc ls (.int y :: .long x :: st) := by
  subst hq
  exact Go.stepX (fun T L a b tg X eT kk => XS.lushr X.here C.x rfl (hb C.b hd) rfl kk) hr
theorem Go.i2d (C : Cx Z W rm own nm bytes maxL ret) {x : Int32} (hd : decode bytes pc = .ok (.i2d, 1)) (hq : pc + 1 = q)
    (hr : Go W n0 Q h k n q ls (.double (FP.l2d x.toInt64) :: st)) : Go W n0 Q h k n pc ls (.int x :: st) := by
  subst hq
  exact Go.stepX (fun T L a b tg X eT kk => XS.i2dS X.here C.x rfl (hb C.b hd) rfl (Jvm.RoadKit.i2d_w x) kk) hr
theorem Go.dcmp (C : Cx Z W rm own nm bytes maxL ret) {o : CmpOp} {x y : Int64} (hd : decode bytes pc = .ok (.dcmp o, 1)) (hq : pc + 1 = q) (hx : B53 x) (hy : B53 y)
    (hr : Go W n0 Q h k n q ls (.int (lcmpW x y) :: st)) : Go W n0 Q h k n pc ls (.double (FP.l2d y) :: .double (FP.l2d x) :: st) := by
  subst hq
  exact Go.stepX (fun T L a b tg X eT kk => XS.dcmpS X.here C.x rfl (hb C.b hd) rfl (dcmpV_w hx hy o) kk) hr
theorem Go.lcmp (C : Cx Z W rm own nm bytes maxL ret) {x y : Int64} (hd : decode bytes pc = .ok (.lcmp, 1)) (hq : pc + 1 = q)
    (hr : Go W n0 Q h k n q ls (.int (lcmpW x y) :: st)) : Go W n0 Q h k n pc ls (.long y :: .long x :: st) := by
  subst hq
  exact Go.stepX (fun T L a b tg X eT kk => XS.lcmp X.here C.x rfl (hb C.b hd) rfl kk) hr
theorem Go.pop (C : Cx Z W rm own nm bytes maxL ret) {x : Value} (hd : decode bytes pc = .ok (.pop, 1)) (hq : pc + 1 = q) (hc : x.category = 1)
    (hr : Go W n0 Q h k n q ls st) : Go W n0 Q h k n pc ls (x :: st) := by
  subst hq
  exact Go.stepX (fun T L a b tg X eT kk => XS.pop X.here C.x rfl (hb C.b hd) rfl hc kk) hr
theorem Go.dup (C : Cx Z W rm own nm bytes maxL ret) {x : Value} (hd : decode bytes pc = .ok (.dup, 1)) (hq : pc + 1 = q) (hc : x.category = 1)
    (hr : Go W n0 Q h k n q ls (x :: x :: st)) : Go W n0 Q h k n pc ls (x :: st) := by
  subst hq
  exact Go.stepX (fun T L a b tg X eT kk => XS.dup X.here C.x rfl (hb C.b hd) rfl hc kk) hr
theorem Go.dup2 (C : Cx Z W rm own nm bytes maxL ret) {x y : Value} (hd : decode bytes pc = .ok (.dup2, 1)) (hq : pc + 1 = q) (hc : x.category = 1) (hc' : y.category = 1)
    (hr : Go W n0 Q h k n q ls (x :: y :: x :: y :: st)) : Go W n0 Q h k n pc ls (x :: y :: st) := by
  subst hq
  exact Go.stepX (fun T L a b tg X eT kk => XT.dup2 X.here C.x rfl (hb C.b hd) rfl hc hc' kk) hr
theorem Go.goto (C : Cx Z W rm own nm bytes maxL ret) {o : Int} (hd : decode bytes pc = .ok (.goto o, 3)) (ho : 0 ≤ (pc : Int) + o) (hp : ((pc : Int) + o).toNat = q)
    (hr : Go W n0 Q h k n q ls st) : Go W n0 Q h k n pc ls st :=
  Go.stepX (fun T L a b tg X eT kk => XS.goto X.here C.x rfl (pc0 := pc) rfl (hb C.b hd) ho hp kk) hr
theorem Go.icmp (C : Cx Z W rm own nm bytes maxL ret) {cd : ClassFile.Cond} {o : Int} {x y : Int32} {qt : Nat} {P : Prop} [Decidable P] (hd : decode bytes pc = .ok (.if_icmp cd o, 3)) (hP : if_icmp.holds cd x y = decide P) (ho : 0 ≤ (pc : Int) + o) (hp : ((pc : Int) + o).toNat = qt) (hq : pc + 3 = q)
    (ht : P → Go W n0 Q h k n qt ls st) (hf : ¬ P → Go W n0 Q h k n q ls st) : Go W n0 Q h k n pc ls (.int y :: .int x :: st) := by
  subst hq
  by_cases p : P
  · exact Go.stepX (fun T L a b tg X eT kk => XS.icmpYes X.here C.x rfl (pc0 := pc) rfl (hb C.b hd) rfl (hP.trans (decide_eq_true p)) ho hp kk) (ht p)
  · exact Go.stepX (fun T L a b tg X eT kk => XS.icmpNo X.here C.x rfl (hb C.b hd) rfl (hP.trans (decide_eq_false p)) kk) (hf p)
theorem Go.if0 (C : Cx Z W rm own nm bytes maxL ret) {cd : ClassFile.Cond} {o : Int} {x : Int32} {qt : Nat} {P : Prop} [Decidable P] (hd : decode bytes pc = .ok (.ifCond cd o, 3)) (hP : ifCond.holds cd x = decide P) (ho : 0 ≤ (pc : Int) + o) (hp : ((pc : Int) + o).toNat = qt) (hq : pc + 3 = q)
    (ht : P → Go W n0 Q h k n qt ls st) (hf : ¬ P → Go W n0 Q h k n q ls st) : Go W n0 Q h k n pc ls (.int x :: st) := by
  subst hq
  by_cases p : P
  · exact Go.stepX (fun T L a b tg X eT kk => XS.ifYes X.here C.x rfl (pc0 := pc) rfl (hb C.b hd) rfl (hP.trans (decide_eq_true p)) ho hp kk) (ht p)
  · exact Go.stepX (fun T L a b tg X eT kk => XS.ifNo X.here C.x rfl (hb C.b hd) rfl (hP.trans (decide_eq_false p)) kk) (hf p)
theorem Go.ifnullY (C : Cx Z W rm own nm bytes maxL ret) {o : Int} (hd : decode bytes pc = .ok (.ifnull o, 3)) (ho : 0 ≤ (pc : Int) + o) (hp : ((pc : Int) + o).toNat = q)
    (hr : Go W n0 Q h k n q ls st) : Go W n0 Q h k n pc ls (.null :: st) :=
  Go.stepX (fun T L a b tg X eT kk => XS.ifnullYes X.here C.x rfl (pc0 := pc) rfl (hb C.b hd) rfl ho hp kk) hr
theorem Go.ifnullN (C : Cx Z W rm own nm bytes maxL ret) {o : Int} {a : Addr} (hd : decode bytes pc = .ok (.ifnull o, 3)) (hq : pc + 3 = q)
    (hr : Go W n0 Q h k n q ls st) : Go W n0 Q h k n pc ls (.ref a :: st) := by
  subst hq
  exact Go.stepX (fun T L a b tg X eT kk => XS.ifnullNo X.here C.x rfl (hb C.b hd) rfl kk) hr
theorem Go.ifnonnullY (C : Cx Z W rm own nm bytes maxL ret) {o : Int} {a : Addr} (hd : decode bytes pc = .ok (.ifnonnull o, 3)) (ho : 0 ≤ (pc : Int) + o) (hp : ((pc : Int) + o).toNat = q)
    (hr : Go W n0 Q h k n q ls st) : Go W n0 Q h k n pc ls (.ref a :: st) :=
  Go.stepX (fun T L a b tg X eT kk => XS.ifnonnullYes X.here C.x rfl (pc0 := pc) rfl (hb C.b hd) rfl ho hp kk) hr
theorem Go.ifnonnullN (C : Cx Z W rm own nm bytes maxL ret) {o : Int} (hd : decode bytes pc = .ok (.ifnonnull o, 3)) (hq : pc + 3 = q)
    (hr : Go W n0 Q h k n q ls st) : Go W n0 Q h k n pc ls (.null :: st) := by
  subst hq
  exact Go.stepX (fun T L a b tg X eT kk => XS.ifnonnullNo X.here C.x rfl (hb C.b hd) rfl kk) hr
theorem Go.acmp (C : Cx Z W rm own nm bytes maxL ret) {cd : ACond} {o : Int} {x y : Value} {same : Bool} (hd : decode bytes pc = .ok (.if_acmp cd o, 3)) (h1 : x.isRef = true) (h2 : y.isRef = true) (hs : decide (x = y) = same) (ho : 0 ≤ (pc : Int) + o) (hp : q = if acV cd same = true then ((pc : Int) + o).toNat else pc + 3)
    (hr : Go W n0 Q h k n q ls st) : Go W n0 Q h k n pc ls (y :: x :: st) :=
  Go.stepX (fun T L a b tg X eT kk => Jvm.RoadKit.acmp X C.x rfl h1 h2 (pc0 := pc) rfl (hb C.b hd) rfl hs ho hp kk) hr
theorem n_lt (x y : Int32) : if_icmp.holds .lt x y = decide (x < y) := rfl
theorem n_ge (x y : Int32) : if_icmp.holds .ge x y = decide (¬ x < y) := by simp [if_icmp.holds, Int32.not_lt]
theorem n_gt (x y : Int32) : if_icmp.holds .gt x y = decide (y < x) := rfl
theorem n_le (x y : Int32) : if_icmp.holds .le x y = decide (¬ y < x) := by simp [if_icmp.holds, Int32.not_lt]
theorem n_eq (x y : Int32) : if_icmp.holds .eq x y = decide (x = y) := by by_cases e : x = y <;> simp [if_icmp.holds, e]
theorem n_ne (x y : Int32) : if_icmp.holds .ne x y = decide (¬ x = y) := by by_cases e : x = y <;> simp [if_icmp.holds, e]
theorem z_lt (x : Int32) : ifCond.holds .lt x = decide (x < 0) := (if0 _ x).trans (n_lt x 0)
theorem z_ge (x : Int32) : ifCond.holds .ge x = decide (¬ x < 0) := (if0 _ x).trans (n_ge x 0)
theorem z_gt (x : Int32) : ifCond.holds .gt x = decide (0 < x) := (if0 _ x).trans (n_gt x 0)
theorem z_le (x : Int32) : ifCond.holds .le x = decide (¬ 0 < x) := (if0 _ x).trans (n_le x 0)
theorem z_eq (x : Int32) : ifCond.holds .eq x = decide (x = 0) := (if0 _ x).trans (n_eq x 0)
theorem z_ne (x : Int32) : ifCond.holds .ne x = decide (¬ x = 0) := (if0 _ x).trans (n_ne x 0)
theorem l_lt (x y : Int64) : ifCond.holds .lt (lcmpW x y) = decide (x < y) := by rw [z_lt]; exact decide_eq_decide.mpr (lw_lt x y)
theorem l_ge (x y : Int64) : ifCond.holds .ge (lcmpW x y) = decide (¬ x < y) := by rw [z_ge]; exact decide_eq_decide.mpr (not_congr (lw_lt x y))
theorem l_gt (x y : Int64) : ifCond.holds .gt (lcmpW x y) = decide (y < x) := by rw [z_gt]; exact decide_eq_decide.mpr (lw_gt x y)
theorem l_le (x y : Int64) : ifCond.holds .le (lcmpW x y) = decide (¬ y < x) := by rw [z_le]; exact decide_eq_decide.mpr (not_congr (lw_gt x y))
theorem l_eq (x y : Int64) : ifCond.holds .eq (lcmpW x y) = decide (x = y) := by rw [z_eq]; exact decide_eq_decide.mpr (lw_eq x y)
theorem l_ne (x y : Int64) : ifCond.holds .ne (lcmpW x y) = decide (¬ x = y) := by rw [z_ne]; exact decide_eq_decide.mpr (not_congr (lw_eq x y))
theorem nar_b (x : Int32) : nar .byte x.toInt8.toInt32 = x.toInt8.toInt32 := by
  show x.toInt8.toInt32.toInt8.toInt32 = _
  simp
/-- what the law's own walk leaves -/
def QL : Option Value → Heap → Prop := fun v _ => v = some (.int 1)
/-! the ends -/
theorem Go.out {v : Option Value} (f : ∀ T L a b fs, St W T L a b → (∀ (g : JFrame) (acts : List Action), g.method = W.m → g.locked = none → g.entered = [] → (doReturn W.e (T.setTop g) acts v).1 = T.setFrames fs) → Sp W (T.setTop (mkF W.m pc ls st)) (T.setFrames fs)) (hv : W.meth.sig.returnType = none → v = none) (hlk : W.meth.locks = false) (hk : k ≤ W.R.cells) (hn : n ≤ W.R.slots) (hQ : Q v h) : Go W n0 Q h k n pc ls st := by
  intro T L a b X ha hb N eT
  obtain ⟨fs, hr, hrun, hended, hW, hsame⟩ := X.leave (v := v) hv hlk
  refine ⟨_, _, f T L a b fs X hr, hrun, hended, v, L, rfl, ⟨N, ?_⟩, ⟨_, rfl⟩, hW, hsame.mono (Nat.le_trans ha hk) (Nat.le_trans hb hn)⟩
  have e1 : (T.setFrames fs).heap = T.heap := rfl
  rw [e1, eT]
  exact hQ
theorem Go.retI (C : Cx Z W rm own nm bytes maxL (some .int)) {x : Int32} (hd : decode bytes pc = .ok (.ireturn, 1)) (hk : k ≤ rm.cells) (hn : n ≤ rm.slots) (hQ : Q (some (.int x)) h) : Go W n0 Q h k n pc ls (.int x :: st) :=
  Go.out (v := some (.int x)) (fun T L a b fs X hr => Jvm.RoadKit.retI X C.x C.re (hb C.b hd) hr) (fun e => by rw [C.re] at e; cases e) C.lk (by rw [C.ro]; exact hk) (by rw [C.ro]; exact hn) hQ
theorem Go.retZ {t : FieldType} (ht : t = .boolean ∨ t = .byte ∨ t = .char ∨ t = .short) (C : Cx Z W rm own nm bytes maxL (some t)) {x : Int32} (hd : decode bytes pc = .ok (.ireturn, 1)) (hk : k ≤ rm.cells) (hn : n ≤ rm.slots) (hQ : Q (some (.int (nar t x))) h) : Go W n0 Q h k n pc ls (.int x :: st) :=
  Go.out (v := some (.int (nar t x))) (fun T L a b fs X hr => retN X C.x (t := t) C.re ht (hb C.b hd) hr) (fun e => by rw [C.re] at e; cases e) C.lk (by rw [C.ro]; exact hk) (by rw [C.ro]; exact hn) hQ
theorem Go.retV (C : Cx Z W rm own nm bytes maxL none) (hd : decode bytes pc = .ok (.return_, 1)) (hk : k ≤ rm.cells) (hn : n ≤ rm.slots) (hQ : Q none h) : Go W n0 Q h k n pc ls [] :=
  Go.out (v := none) (fun T L a b fs X hr => X.returnOut C.x C.re (hb C.b hd) hr) (fun _ => rfl) C.lk (by rw [C.ro]; exact hk) (by rw [C.ro]; exact hn) hQ
theorem Go.retJ (C : Cx Z W rm own nm bytes maxL (some .long)) {x : Int64} (hd : decode bytes pc = .ok (.lreturn, 1)) (hk : k ≤ rm.cells) (hn : n ≤ rm.slots) (hQ : Q (some (.long x)) h) : Go W n0 Q h k n pc ls [.long x] :=
  Go.out (v := some (.long x)) (fun T L a b fs X hr => Stand.lreturnOut X C.x C.re (hb C.b hd) hr) (fun e => by rw [C.re] at e; cases e) C.lk (by rw [C.ro]; exact hk) (by rw [C.ro]; exact hn) hQ
theorem Go.retR {t : FieldType} (C : Cx Z W rm own nm bytes maxL (some t)) {v : Value} (hd : decode bytes pc = .ok (.areturn, 1)) (ht : t.isReference = true) (hv : v.isRef = true) (hnw : narrow t v = v) (hk : k ≤ rm.cells) (hn : n ≤ rm.slots) (hQ : Q (some v) h) : Go W n0 Q h k n pc ls (v :: st) :=
  Go.out (v := some v) (fun T L a b fs X hr => retOut X C.x (t := t) (i := .areturn) C.re hnw (Or.inr (Or.inr (Or.inr (Or.inr ⟨rfl, ht, hv⟩)))) (hb C.b hd) hr) (fun e => by rw [C.re] at e; cases e) C.lk (by rw [C.ro]; exact hk) (by rw [C.ro]; exact hn) hQ
/-! the calls -/
theorem met_weak {l : Launch} {y : MethodName} {as : Array Value} {Q' : Option Value → Heap → Prop} (M : Met1 l Z y bytes maxL ret [] rm as h n0 Q) (hQ : ∀ v h', Q v h' → Q' v h') : Met1 l Z y bytes maxL ret [] rm as h n0 Q' := by
  intro p e ha hc hk s m args below hf happ hP hK
  obtain ⟨n, o, h1, h2, h3, v, L, h4, ⟨h5, h6⟩, h7⟩ := M p e ha hc hk s m args below hf happ hP hK
  exact ⟨n, o, h1, h2, h3, v, L, h4, ⟨h5, hQ _ _ h6⟩, h7⟩
theorem Go.callS (C : Cx Z W rm own nm bytes maxL ret) {index : Nat} {y : MethodName} {bytes' : ByteArray} {maxL' : Nat} {ret' : Option FieldType} {rm' : Room} {argsL : List Value} {Q' : Option Value → Heap → Prop} {ps : List FieldType} {rt : Option FieldType} {stk : List Value} {k' n' w : Nat}
    (wl : (Jvm.Cond.methodLink own index y).before a0 Z = true) (wst : (Jvm.Cond.static y).before a0 Z = true) (wi : (Jvm.Cond.initialized y.cls).before a0 Z = true) (wc : (Jvm.Cond.code y bytes' maxL' ret').before a0 Z = true)
    (M : Met1 W.l Z y bytes' maxL' ret' [] rm' argsL.toArray h n0 Q') (hd : decode bytes pc = .ok (.invokestatic index, 3)) (hpd : parseMethodDescriptor y.desc = some ⟨ps, rt⟩) (hq : pc + 3 = q) (hls : ls.size = maxL) (hstk : stk = argsL.reverse ++ st) (hlen : argsL.length = ps.length)
    (hw : (st.map fun v => v.category).sum = w) (hfr : rm'.frames + 1 ≤ rm.frames) (hlo : w + (maxL' + 11) + rm'.locals ≤ rm.locals) (hk : k + rm'.cells = k') (hn : n + rm'.slots = n') (hk' : k' ≤ rm.cells) (hn' : n' ≤ rm.slots)
    (hr : ∀ v h', Q' v h' → Go W n0 Q h' k' n' q ls (v.toList ++ st)) (hy : y.cls ≠ "java/lang/invoke/MethodHandle" ∧ y.cls ≠ "java/lang/invoke/VarHandle" := by decide) : Go W n0 Q h k n pc ls stk := by
  subst hstk hq hk hn hw
  intro T L a b X ha hb' N eT
  have e1 := C.ro
  obtain ⟨v, _, ⟨T2, L2, k2, n2⟩, -, X2, ⟨Lc, ⟨N2, hQ2⟩, l2, y2, z2⟩, sp⟩ := Jvm.LawKit.callS X C.x (y := y) C.ow (mvT C.z wl) (mvT C.z wst) (mvT C.z wi) (mvT C.z wc) hy
    (backOf (W := (st.map fun v => v.category).sum) (Q := fun v h L => Fr n0 L ∧ Q' v h) M C.z wc wi (by rw [e1]; exact hfr) (by rw [e1]; exact hlo)) (g := mkF W.m pc ls (argsL.reverse ++ st)) rfl (by rw [C.ml]; exact hls) (argsL := argsL) (rest := st) (lenOf hpd hlen) rfl (by show 2 * 0 + (st.map fun v => v.category).sum ≤ (st.map fun v => v.category).sum; omega) (hb C.b hd) (fun _ _ => ⟨rfl, eT, by rw [e1]; show a + _ ≤ _; omega, by rw [e1]; show b + _ ≤ _; omega⟩)
  dsimp only [Pt.U, Pt.locs, Pt.cells, Pt.slots] at X2 l2 y2 z2 sp hQ2
  subst l2 y2 z2
  obtain ⟨s₂, o, hs, r⟩ := hr v _ hQ2 T2 _ _ _ X2 (by omega) (by omega) (Fr.app N N2) rfl
  exact ⟨s₂, o, sp _ hs, r⟩
/-- what a callee that changes nothing leaves -/
def Ret (w : Value) (h : Heap) : Option Value → Heap → Prop := fun v h' => v = some w ∧ h' = h
theorem Go.pureS (C : Cx Z W rm own nm bytes maxL ret) {index : Nat} {y : MethodName} {bytes' : ByteArray} {maxL' : Nat} {ret' : Option FieldType} {fr lo : Nat} {argsL : List Value} {res : Value} {ps : List FieldType} {rt : Option FieldType} {stk : List Value} {w : Nat}
    (wl : (Jvm.Cond.methodLink own index y).before a0 Z = true) (wst : (Jvm.Cond.static y).before a0 Z = true) (wi : (Jvm.Cond.initialized y.cls).before a0 Z = true) (wc : (Jvm.Cond.code y bytes' maxL' ret').before a0 Z = true)
    (M : Met1 W.l Z y bytes' maxL' ret' [] ({ frames := fr, cells := 0, slots := 0, locals := lo } : Room) argsL.toArray h n0 (Ret res h)) (hd : decode bytes pc = .ok (.invokestatic index, 3)) (hpd : parseMethodDescriptor y.desc = some ⟨ps, rt⟩) (hq : pc + 3 = q) (hls : ls.size = maxL) (hstk : stk = argsL.reverse ++ st) (hlen : argsL.length = ps.length)
    (hw : (st.map fun v => v.category).sum = w) (hfr : fr + 1 ≤ rm.frames) (hlo : w + (maxL' + 11) + lo ≤ rm.locals) (hk' : k ≤ rm.cells) (hn' : n ≤ rm.slots)
    (hr : Go W n0 Q h k n q ls (res :: st)) (hy : y.cls ≠ "java/lang/invoke/MethodHandle" ∧ y.cls ≠ "java/lang/invoke/VarHandle" := by decide) : Go W n0 Q h k n pc ls stk :=
  Go.callS C wl wst wi wc M hd hpd hq hls hstk hlen hw hfr hlo rfl rfl hk' hn' (fun v h' q => by obtain ⟨rfl, rfl⟩ := q; exact hr) hy
theorem Go.callC (C : Cx Z W rm own nm bytes maxL ret) {index : Nat} {y : MethodName} {bytes' : ByteArray} {maxL' : Nat} {rm' : Room} {argsL : List Value} {Q' : Option Value → Heap → Prop} {ps : List FieldType} {rt : Option FieldType} {stk : List Value} {k' n' w : Nat} {a : Addr}
    (hy1 : y.name = "<init>") (wl : (Jvm.Cond.methodLink own index y).before a0 Z = true) (wst : (Jvm.Cond.instanceMethod y).before a0 Z = true) (wi : (Jvm.Cond.initialized y.cls).before a0 Z = true) (wc : (Jvm.Cond.code y bytes' maxL' none).before a0 Z = true)
    (M : Met1 W.l Z y bytes' maxL' none [] rm' (.ref a :: argsL).toArray h n0 Q') (hd : decode bytes pc = .ok (.invokespecial index, 3)) (hpd : parseMethodDescriptor y.desc = some ⟨ps, rt⟩) (hq : pc + 3 = q) (hls : ls.size = maxL) (hstk : stk = argsL.reverse ++ .ref a :: st) (hlen : argsL.length = ps.length)
    (hw : (st.map fun v => v.category).sum = w) (hfr : rm'.frames + 1 ≤ rm.frames) (hlo : w + (maxL' + 11) + rm'.locals ≤ rm.locals) (hk : k + rm'.cells = k') (hn : n + rm'.slots = n') (hk' : k' ≤ rm.cells) (hn' : n' ≤ rm.slots)
    (hr : ∀ v h', Q' v h' → Go W n0 Q h' k' n' q ls (v.toList ++ st)) (hy : y.cls ≠ "java/lang/invoke/MethodHandle" ∧ y.cls ≠ "java/lang/invoke/VarHandle" := by decide) : Go W n0 Q h k n pc ls stk := by
  subst hstk hq hk hn hw
  intro T L i j X ha hb' N eT
  have e1 := C.ro
  obtain ⟨v, _, ⟨T2, L2, k2, n2⟩, -, X2, ⟨Lc, ⟨N2, hQ2⟩, l2, y2, z2⟩, sp⟩ := X.specialBack C.x (y := y) hy1 C.ow (mvT C.z wl) (mvT C.z wst) (mvT C.z wc) hy
    (backOf (W := (st.map fun v => v.category).sum) (Q := fun v h L => Fr n0 L ∧ Q' v h) M C.z wc wi (by rw [e1]; exact hfr) (by rw [e1]; exact hlo)) (g := mkF W.m pc ls (argsL.reverse ++ .ref a :: st)) rfl (by rw [C.ml]; exact hls) (Steps.refl _) (a := a) (argsL := argsL) (rest := st) (lenOf hpd hlen) rfl (by show 2 * 0 + (st.map fun v => v.category).sum ≤ (st.map fun v => v.category).sum; omega) (hb C.b hd) (fun _ _ => ⟨rfl, eT, by rw [e1]; show i + _ ≤ _; omega, by rw [e1]; show j + _ ≤ _; omega⟩)
  dsimp only [Pt.U, Pt.locs, Pt.cells, Pt.slots] at X2 l2 y2 z2 sp hQ2
  subst l2 y2 z2
  obtain ⟨s₂, o, hs, r⟩ := hr v _ hQ2 T2 _ _ _ X2 (by omega) (by omega) (Fr.app N N2) rfl
  exact ⟨s₂, o, sp.trans hs, r⟩
theorem Go.callV (C : Cx Z W rm own nm bytes maxL ret) {index : Nat} {y z : MethodName} {K : String} {bytes' : ByteArray} {maxL' : Nat} {ret' : Option FieldType} {rm' : Room} {argsL : List Value} {Q' : Option Value → Heap → Prop} {ps : List FieldType} {rt : Option FieldType} {stk : List Value} {k' n' w : Nat} {a : Addr}
    (E : Exa Z h a K) (wl : (Jvm.Cond.methodLink own index y).before a0 Z = true) (wdc : (Jvm.Cond.declares y).before a0 Z = true) (hnf : NotFace W.s y) (wse : (Jvm.Cond.selects K y z).before a0 Z = true) (wst : (Jvm.Cond.instanceMethod z).before a0 Z = true) (wi : (Jvm.Cond.initialized z.cls).before a0 Z = true) (wc : (Jvm.Cond.code z bytes' maxL' ret').before a0 Z = true)
    (M : Met1 W.l Z z bytes' maxL' ret' [] rm' (.ref a :: argsL).toArray h n0 Q') (hd : decode bytes pc = .ok (.invokevirtual index, 3)) (hpd : parseMethodDescriptor y.desc = some ⟨ps, rt⟩) (hq : pc + 3 = q) (hls : ls.size = maxL) (hstk : stk = argsL.reverse ++ .ref a :: st) (hlen : argsL.length = ps.length)
    (hw : (st.map fun v => v.category).sum = w) (hfr : rm'.frames + 1 ≤ rm.frames) (hlo : w + (maxL' + 11) + rm'.locals ≤ rm.locals) (hk : k + rm'.cells = k') (hn : n + rm'.slots = n') (hk' : k' ≤ rm.cells) (hn' : n' ≤ rm.slots)
    (hr : ∀ v h', Q' v h' → Go W n0 Q h' k' n' q ls (v.toList ++ st)) (hy : y.cls ≠ "java/lang/invoke/MethodHandle" ∧ y.cls ≠ "java/lang/invoke/VarHandle" := by decide) : Go W n0 Q h k n pc ls stk := by
  subst hstk hq hk hn hw
  intro T L i j X ha hb' N eT
  have e1 := C.ro
  obtain ⟨cq, kq, qa, qb, qc⟩ := isOf (s := W.s) C.z eT E
  obtain ⟨v, _, ⟨T2, L2, k2, n2⟩, -, X2, ⟨Lc, ⟨N2, hQ2⟩, l2, y2, z2⟩, sp⟩ := X.virtualBack C.x (y := y) (z := z) C.ow (mvT C.z wl) (mvT C.z wdc) hnf (mvT C.z wse) (mvT C.z wst) hy
    (backOf (W := (st.map fun v => v.category).sum) (Q := fun v h L => Fr n0 L ∧ Q' v h) M C.z wc wi (by rw [e1]; exact hfr) (by rw [e1]; exact hlo)) qa qc (g := mkF W.m pc ls (argsL.reverse ++ .ref a :: st)) rfl (by rw [C.ml]; exact hls) (Steps.refl _) (argsL := argsL) (rest := st) (lenOf hpd hlen) rfl (by show 2 * 0 + (st.map fun v => v.category).sum ≤ (st.map fun v => v.category).sum; omega) (hb C.b hd) (fun _ _ => ⟨rfl, eT, by rw [e1]; show i + _ ≤ _; omega, by rw [e1]; show j + _ ≤ _; omega⟩)
  dsimp only [Pt.U, Pt.locs, Pt.cells, Pt.slots] at X2 l2 y2 z2 sp hQ2
  subst l2 y2 z2
  obtain ⟨s₂, o, hs, r⟩ := hr v _ hQ2 T2 _ _ _ X2 (by omega) (by omega) (Fr.app N N2) rfl
  exact ⟨s₂, o, sp.trans hs, r⟩
theorem Go.pureV (C : Cx Z W rm own nm bytes maxL ret) {index : Nat} {y : MethodName} {K : String} {bytes' : ByteArray} {maxL' : Nat} {ret' : Option FieldType} {fr lo : Nat} {argsL : List Value} {res : Value} {ps : List FieldType} {rt : Option FieldType} {stk : List Value} {w : Nat} {a : Addr}
    (E : Exa Z h a K) (wl : (Jvm.Cond.methodLink own index y).before a0 Z = true) (wdc : (Jvm.Cond.declares y).before a0 Z = true) (wse : (Jvm.Cond.selects K y y).before a0 Z = true) (wst : (Jvm.Cond.instanceMethod y).before a0 Z = true) (wi : (Jvm.Cond.initialized y.cls).before a0 Z = true) (wc : (Jvm.Cond.code y bytes' maxL' ret').before a0 Z = true)
    (M : Met1 W.l Z y bytes' maxL' ret' [] ({ frames := fr, cells := 0, slots := 0, locals := lo } : Room) (.ref a :: argsL).toArray h n0 (Ret res h)) (hd : decode bytes pc = .ok (.invokevirtual index, 3)) (hpd : parseMethodDescriptor y.desc = some ⟨ps, rt⟩) (hq : pc + 3 = q) (hls : ls.size = maxL) (hstk : stk = argsL.reverse ++ .ref a :: st) (hlen : argsL.length = ps.length)
    (hw : (st.map fun v => v.category).sum = w) (hfr : fr + 1 ≤ rm.frames) (hlo : w + (maxL' + 11) + lo ≤ rm.locals) (hk' : k ≤ rm.cells) (hn' : n ≤ rm.slots)
    (hr : Go W n0 Q h k n q ls (res :: st)) (hy : y.cls ≠ "java/lang/invoke/MethodHandle" ∧ y.cls ≠ "java/lang/invoke/VarHandle" := by decide) : Go W n0 Q h k n pc ls stk :=
  Go.callV C E wl wdc (notFace_of_selects (args := #[]) (mvT C.z wse)) wse wst wi wc M hd hpd hq hls hstk hlen hw hfr hlo rfl rfl hk' hn' (fun v h' q => by obtain ⟨rfl, rfl⟩ := q; exact hr) hy
/-- a private method, by invokevirtual; zz: any method of its class of which the sheet says what it selects (so the class is no interface) -/
theorem Go.callP (C : Cx Z W rm own nm bytes maxL ret) {index : Nat} {y zz : MethodName} {K KK : String} {bytes' : ByteArray} {maxL' : Nat} {ret' : Option FieldType} {rm' : Room} {argsL : List Value} {Q' : Option Value → Heap → Prop} {ps : List FieldType} {rt : Option FieldType} {stk : List Value} {k' n' w : Nat} {a : Addr}
    (E : Exa Z h a K) (wl : (Jvm.Cond.methodLink own index y).before a0 Z = true) (wse : (Jvm.Cond.selects KK zz zz).before a0 Z = true) (hzz : zz.cls = y.cls) (wpr : (Jvm.Cond.privateMethod y).before a0 Z = true) (wst : (Jvm.Cond.instanceMethod y).before a0 Z = true) (wi : (Jvm.Cond.initialized y.cls).before a0 Z = true) (wc : (Jvm.Cond.code y bytes' maxL' ret').before a0 Z = true)
    (M : Met1 W.l Z y bytes' maxL' ret' [] rm' (.ref a :: argsL).toArray h n0 Q') (hd : decode bytes pc = .ok (.invokevirtual index, 3)) (hpd : parseMethodDescriptor y.desc = some ⟨ps, rt⟩) (hq : pc + 3 = q) (hls : ls.size = maxL) (hstk : stk = argsL.reverse ++ .ref a :: st) (hlen : argsL.length = ps.length)
    (hw : (st.map fun v => v.category).sum = w) (hfr : rm'.frames + 1 ≤ rm.frames) (hlo : w + (maxL' + 11) + rm'.locals ≤ rm.locals) (hk : k + rm'.cells = k') (hn : n + rm'.slots = n') (hk' : k' ≤ rm.cells) (hn' : n' ≤ rm.slots)
    (hr : ∀ v h', Q' v h' → Go W n0 Q h' k' n' q ls (v.toList ++ st)) (hy : y.cls ≠ "java/lang/invoke/MethodHandle" ∧ y.cls ≠ "java/lang/invoke/VarHandle" := by decide) : Go W n0 Q h k n pc ls stk := by
  subst hstk hq hk hn hw
  intro T L i j X ha hb' N eT
  have e1 := C.ro
  obtain ⟨cell, hcell, hobj⟩ := E.cell
  rw [← eT] at hcell
  obtain ⟨mk, methM, hnamed, hmethM, hstM, habM⟩ := Cond.instanceMethod_spec (mvT (args := #[]) C.z wst)
  obtain ⟨methM', cM, hmethM', -, -, -, -, -, -, hsigM⟩ := Cond.code_spec hnamed (mvT (args := #[]) C.z wc)
  cases hmethM.symm.trans hmethM'
  obtain ⟨c2, r2, m2, -, -, q3, -, kP, hkP, hkPi⟩ := Cond.selects_spec (mvT (args := #[]) C.z wse)
  have ec : m2.cls = mk.cls := by
    have u1 := findClass_of_methodNamed q3
    have u2 := findClass_of_methodNamed hnamed
    rw [hzz] at u1
    exact Option.some.inj (u1.symm.trans u2)
  rw [ec] at hkP
  have hsel := selectMethod_private (p := W.e.platform) (c := cell.cls) hmethM (Cond.privateMethod_at (mvP C.z wpr (args := #[])) mk methM hnamed hmethM)
  obtain ⟨vm₁, X₁, hst⟩ := X.invokevirtual C.x C.ow (mvT C.z wl) hnamed hmethM hstM hkP hkPi hy (a := a) (cell := cell) hcell hobj hsel hmethM habM hkP hkPi (g := mkF W.m pc ls (argsL.reverse ++ .ref a :: st)) rfl (argsL := argsL) (rest := st) (lenOf hpd hlen _ hsigM) rfl (hb C.b hd)
  obtain ⟨v, ⟨T2, L2, k2, n2⟩, X2, ⟨Lc, ⟨N2, hQ2⟩, l2, y2, z2⟩, sp⟩ := backOf (len := 3) (W := (st.map fun v => v.category).sum) (Q := fun v h L => Fr n0 L ∧ Q' v h) M C.z wc wi (by rw [e1]; exact hfr) (by rw [e1]; exact hlo) W.m W.meth W.c ⟨T.setVm vm₁, L, i, j⟩ (mkF W.m pc ls st) (.invokevirtual index) mk (.ref a :: argsL).toArray X₁ rfl (by rw [C.ml]; exact hls) (hb C.b hd) (by show 2 * 0 + (st.map fun v => v.category).sum ≤ (st.map fun v => v.category).sum; omega) (X₁.named hnamed) ⟨rfl, eT, by rw [e1]; show i + _ ≤ _; omega, by rw [e1]; show j + _ ≤ _; omega⟩
  dsimp only [Pt.U, Pt.locs, Pt.cells, Pt.slots] at X2 l2 y2 z2 sp hQ2
  subst l2 y2 z2
  obtain ⟨s₂, o, hs, r⟩ := hr v _ hQ2 T2 _ _ _ X2 (by omega) (by omega) (Fr.app N N2) rfl
  exact ⟨s₂, o, (hst _ fun acts => by rw [doInvoke_state]; exact Steps.refl _).trans (sp.trans hs), r⟩
/-! the heap -/
theorem Go.initO (C : Cx Z W rm own nm bytes maxL ret) {index w : Nat} {a : Addr} (w1 : (Jvm.Cond.methodLink own index Lib.objectInit).before a0 Z = true) (w2 : (Jvm.Cond.instanceMethod Lib.objectInit).before a0 Z = true) (w3 : (Jvm.Cond.code Lib.objectInit ⟨#[0xb1]⟩ 1 none).before a0 Z = true)
    (hd : decode bytes pc = .ok (.invokespecial index, 3)) (hq : pc + 3 = q) (hls : ls.size = maxL) (hw : (st.map fun v => v.category).sum = w) (hfr : 1 ≤ rm.frames) (hlo : w + 12 ≤ rm.locals) (hr : Go W n0 Q h k n q ls st) : Go W n0 Q h k n pc ls (.ref a :: st) := by
  subst hq hw
  exact Go.stepT (fun T L i j X eT => Jvm.RoadKit.initO X C.x C.z C.ow w1 w2 w3 eT (g := mkF W.m pc ls (.ref a :: st)) rfl (by rw [C.ml]; exact hls) rfl (hb C.b hd) (by rw [C.ro]; exact hfr) (W := (st.map fun v => v.category).sum) (by show 2 * 0 + (st.map fun v => v.category).sum ≤ (st.map fun v => v.category).sum; omega) (by rw [C.ro]; exact hlo)) hr
theorem Go.getF (C : Cx Z W rm own nm bytes maxL ret) {R0 O f d host : String} {index : Nat} {a : Addr} {v : Value} (w : (Jvm.Cond.fieldLink own index R0 f d).before a0 Z = true ∨ (Jvm.Cond.fieldLinkNest own index R0 f d host).before a0 Z = true) (via : Via Z R0 O f d) (F : Fld Z h a O f d v)
    (hd : decode bytes pc = .ok (.getfield index, 3)) (hq : pc + 3 = q) (hr : Go W n0 Q h k n q ls (v :: st)) : Go W n0 Q h k n pc ls (.ref a :: st) := by
  subst hq
  exact Go.stepT (fun T L i j X eT => Jvm.RoadKit.getF X C.x C.z C.ow w via eT F (g := mkF W.m pc ls (.ref a :: st)) rfl rfl (hb C.b hd)) hr
theorem Go.getS (C : Cx Z W rm own nm bytes maxL ret) {R0 O f d : String} {index : Nat} {v : Value} (w : (Jvm.Cond.fieldLink own index R0 f d).before a0 Z = true) (via : Via Z R0 O f d) (F : Sta Z h O f d v)
    (hd : decode bytes pc = .ok (.getstatic index, 3)) (hq : pc + 3 = q) (hr : Go W n0 Q h k n q ls (v :: st)) : Go W n0 Q h k n pc ls st := by
  subst hq
  exact Go.stepT (fun T L i j X eT => Jvm.RoadKit.getS X C.x C.z (host := "") C.ow w via eT F (g := mkF W.m pc ls st) rfl (hb C.b hd)) hr
theorem Go.putF (C : Cx Z W rm own nm bytes maxL ret) {R0 O f d host K : String} {index kk : Nat} {ty : FieldType} {a : Addr} {v old : Value} (w : (Jvm.Cond.fieldLink own index R0 f d).before a0 Z = true ∨ (Jvm.Cond.fieldLinkNest own index R0 f d host).before a0 Z = true) (via : Via Z R0 O f d) (F : Fld Z h a O f d old) (E : Exa Z h a K)
    (Lw : (Jvm.Cond.lays K O f d).before a0 Z = true ∨ ((Jvm.Cond.laysFinal K O f d).before a0 Z = true ∧ own = O ∧ nm = "<init>")) (wi : (Jvm.Cond.instantiable K kk).before a0 Z = true) (hty : parseFieldDescriptor d = some ty) (hn : narrow ty v = v) (hf : fits ty v = true) (ha : n0 ≤ a)
    (hd : decode bytes pc = .ok (.putfield index, 3)) (hq : pc + 3 = q) (hr : ∀ h', Wr h h' a (Jvm.RoadKit.slotOf Z O f d) v → Go W n0 Q h' k n q ls st) : Go W n0 Q h k n pc ls (v :: .ref a :: st) := by
  subst hq
  intro T L i j X hk hn' N eT
  obtain ⟨T', h', X', e', W', sp⟩ := Jvm.RoadKit.putF X C.x C.z C.ow w via eT F E (Lw.imp id fun z => ⟨z.1, z.2.1, C.na.trans z.2.2⟩) wi hty hn hf (g := mkF W.m pc ls (v :: .ref a :: st)) rfl rfl (hb C.b hd)
  obtain ⟨s₂, o, hs, r⟩ := hr h' W' T' _ _ _ X' hk hn' (Fr.snoc X' N ha) e'
  exact ⟨s₂, o, sp _ hs, r⟩
theorem Go.newO (C : Cx Z W rm own nm bytes maxL ret) {K : String} {index sz k' n' : Nat} (w : (Jvm.Cond.classLink own index K).before a0 Z = true) (wi : (Jvm.Cond.instantiable K sz).before a0 Z = true) (wz : (Jvm.Cond.initialized K).before a0 Z = true)
    (hd : decode bytes pc = .ok (.new index, 3)) (hq : pc + 3 = q) (hk : k + 1 = k') (hn : n + sz = n') (hk' : k' ≤ rm.cells) (hn' : n' ≤ rm.slots)
    (hr : ∀ h' a, a = h.size → Ext h h' → Exa Z h' a K → (∀ {O f d : String} {ty : FieldType}, Laid Z a0 K O f d → parseFieldDescriptor d = some ty → Fld Z h' a O f d (defaultValue ty)) → Go W n0 Q h' k' n' q ls (.ref a :: st)) : Go W n0 Q h k n pc ls st := by
  subst hq hk hn
  intro T L i j X hk0 hn0 N eT
  have e1 := C.ro
  obtain ⟨T', h', X', e', E', A', D', -, sp⟩ := Jvm.RoadKit.newO X C.x C.z C.ow w wi wz eT (g := mkF W.m pc ls st) rfl (hb C.b hd) (by rw [e1]; omega) (by rw [e1]; omega)
  obtain ⟨s₂, o, hs, r⟩ := hr h' _ rfl E' A' D' T' _ _ _ X' (by omega) (by omega) N e'
  exact ⟨s₂, o, sp _ hs, r⟩
theorem Go.newP (C : Cx Z W rm own nm bytes maxL ret) {aty : ArrayType} {z : Int32} {cap k' n' : Nat} (w : (Jvm.Cond.arrayClass (newarray.typeOf aty)).before a0 Z = true) (hz : ¬ z < 0) (hcap : z.toNatClampNeg ≤ cap) (hbig : cap * 8 ≤ 536870912)
    (hd : decode bytes pc = .ok (.newarray aty, 2)) (hq : pc + 2 = q) (hk : k + 1 = k') (hn : n + cap = n') (hk' : k' ≤ rm.cells) (hn' : n' ≤ rm.slots)
    (hr : ∀ h' a cA, a = h.size → Ext h h' → Arv Z h' a cA (newarray.typeOf aty) z [] (defaultValue (newarray.typeOf aty)) → Go W n0 Q h' k' n' q ls (.ref a :: st)) : Go W n0 Q h k n pc ls (.int z :: st) := by
  subst hq hk hn
  intro T L i j X hk0 hn0 N eT
  have e1 := C.ro
  obtain ⟨T', h', cA, X', e', E', A', sp⟩ := Jvm.RoadKit.newP X C.x C.z w eT (g := mkF W.m pc ls (.int z :: st)) rfl (hb C.b hd) rfl hz hcap hbig (by rw [e1]; omega) (by rw [e1]; omega)
  obtain ⟨s₂, o, hs, r⟩ := hr h' _ cA rfl E' (Arv.new A' hz) T' _ _ _ X' (by omega) (by omega) N e'
  exact ⟨s₂, o, sp _ hs, r⟩

/-! arrays: the length n, the values f -/
def Av (Z : State) (h : Heap) (a : Addr) (ty : FieldType) (len : Nat) (f : Nat → Value) : Prop := ∃ c : Cell, Arr Z h a c ty ∧ c.slots.size = len ∧ len < 2 ^ 31 ∧ ∀ i, i < len → c.slots[i]? = some (f i)
def upd {α : Type} (f : Nat → α) (j : Nat) (v : α) : Nat → α := fun i => if i = j then v else f i
theorem upd_eq {α : Type} (f : Nat → α) (j : Nat) (v : α) : upd f j v j = v := if_pos rfl
theorem upd_ne {α : Type} (f : Nat → α) {j i : Nat} (v : α) (e : i ≠ j) : upd f j v i = f i := if_neg e
theorem Av.lt {a : Addr} {ty : FieldType} {len : Nat} {f : Nat → Value} (F : Av Z h a ty len f) : a < h.size := by obtain ⟨c, A, -⟩ := F; exact A.lt
theorem Av.ext {a : Addr} {ty : FieldType} {len : Nat} {f : Nat → Value} {h' : Heap} (F : Av Z h a ty len f) (E : Ext h h') : Av Z h' a ty len f := by obtain ⟨c, A, r⟩ := F; exact ⟨c, A.ext E, r⟩
theorem Av.other {a b : Addr} {ty : FieldType} {len sl : Nat} {v : Value} {f : Nat → Value} {h' : Heap} (F : Av Z h b ty len f) (W : Wr h h' a sl v) (e : b ≠ a) : Av Z h' b ty len f := by obtain ⟨c, A, r⟩ := F; exact ⟨c, A.other W e, r⟩
theorem Av.keep {a : Addr} {ty : FieldType} {len : Nat} {f : Nat → Value} {h' : Heap} {ws : List Addr} (F : Av Z h a ty len f) (K : Keep h h' ws) (e : a ∉ ws) : Av Z h' a ty len f := by obtain ⟨c, A, r⟩ := F; exact ⟨c, ⟨K.2.1 a c A.1 e, A.2⟩, r⟩
theorem Av.same {a : Addr} {ty : FieldType} {len j : Nat} {v : Value} {f : Nat → Value} {h' : Heap} (F : Av Z h a ty len f) (W : Wr h h' a j v) : Av Z h' a ty len (upd f j v) := by
  obtain ⟨c, A, r1, r2, r3⟩ := F
  refine ⟨c.setSlot j v, A.same W, by simp [Cell.setSlot, r1], r2, fun i hi => ?_⟩
  by_cases e : i = j
  · subst e
    rw [upd_eq]
    simp [Cell.setSlot, r1, hi]
  · rw [upd_ne _ _ e, ← r3 i hi]
    exact Array.getElem?_setIfInBounds_ne (Ne.symm e)
def iF (g : Nat → Int32) : Nat → Value := fun i => .int (g i)
def jF (g : Nat → Int64) : Nat → Value := fun i => .long (g i)
theorem upd_iF (g : Nat → Int32) (j : Nat) (x : Int32) : upd (iF g) j (.int x) = iF (upd g j x) := by funext i; by_cases e : i = j <;> simp [upd, iF, e]
theorem upd_jF (g : Nat → Int64) (j : Nat) (x : Int64) : upd (jF g) j (.long x) = jF (upd g j x) := by funext i; by_cases e : i = j <;> simp [upd, jF, e]
theorem Av.sameI {a : Addr} {ty : FieldType} {len j : Nat} {x : Int32} {g : Nat → Int32} {h' : Heap} (F : Av Z h a ty len (iF g)) (W : Wr h h' a j (.int x)) : Av Z h' a ty len (iF (upd g j x)) := upd_iF g j x ▸ F.same W
theorem Av.sameJ {a : Addr} {ty : FieldType} {len j : Nat} {x : Int64} {g : Nat → Int64} {h' : Heap} (F : Av Z h a ty len (jF g)) (W : Wr h h' a j (.long x)) : Av Z h' a ty len (jF (upd g j x)) := upd_jF g j x ▸ F.same W
def kF (g : Nat → Int64) : Nat → Value := fun i => .double (FP.l2d (g i))
theorem upd_kF (g : Nat → Int64) (j : Nat) (x : Int64) : upd (kF g) j (.double (FP.l2d x)) = kF (upd g j x) := by funext i; by_cases e : i = j <;> simp [upd, kF, e]
theorem Av.sameK {a : Addr} {ty : FieldType} {len j : Nat} {x : Int64} {g : Nat → Int64} {h' : Heap} (F : Av Z h a ty len (kF g)) (W : Wr h h' a j (.double (FP.l2d x))) : Av Z h' a ty len (kF (upd g j x)) := upd_kF g j x ▸ F.same W
theorem Av.of {a : Addr} {ty : FieldType} {z : Int32} {cA : ClassId} {d : Value} (F : Arv Z h a cA ty z [] d) : Av Z h a ty z.toNatClampNeg (fun _ => d) := by
  obtain ⟨c, A, -, r1, r2, r3, -⟩ := F
  refine ⟨c, A, r1, ?_, fun i hi => ?_⟩
  · have e1 := z.toInt_lt
    have e2 : z.toNatClampNeg = z.toInt.toNat := rfl
    omega
  · rw [r3 i (by omega)]
    simp
theorem Av.ofD {a : Addr} {z : Int32} {cA : ClassId} (F : Arv Z h a cA .double z [] (defaultValue .double)) : Av Z h a .double z.toNatClampNeg (kF (fun _ => 0)) := by
  have e : kF (fun _ => 0) = (fun _ => defaultValue .double) := by funext i; show Value.double (FP.l2d 0) = _; rw [Jvm.RoadKit.l2d_zero]; rfl
  rw [e]
  exact Av.of F
theorem Av.congr {a : Addr} {ty : FieldType} {len : Nat} {f f' : Nat → Value} (F : Av Z h a ty len f) (e : ∀ i, i < len → f i = f' i) : Av Z h a ty len f' := by obtain ⟨c, A, r1, r2, r3⟩ := F; exact ⟨c, A, r1, r2, fun i hi => e i hi ▸ r3 i hi⟩
theorem Go.newPE (C : Cx Z W rm own nm bytes maxL ret) {aty : ArrayType} {z : Int32} {cap k' n' : Nat} (w : (Jvm.Cond.arrayClass (newarray.typeOf aty)).before a0 Z = true) (hz : ¬ z < 0) (hcap : z.toNatClampNeg ≤ cap) (hbig : cap * 8 ≤ 536870912)
    (hd : decode bytes pc = .ok (.newarray aty, 2)) (hq : pc + 2 = q) (hk : k + 1 = k') (hn : n + cap = n') (hk' : k' ≤ rm.cells) (hn' : n' ≤ rm.slots) {ad : String} (had : "[" ++ (newarray.typeOf aty).toString = ad)
    (hr : ∀ h' a cA, a = h.size → Ext h h' → Arv Z h' a cA (newarray.typeOf aty) z [] (defaultValue (newarray.typeOf aty)) → Exa Z h' a ad → Go W n0 Q h' k' n' q ls (.ref a :: st)) : Go W n0 Q h k n pc ls (.int z :: st) := by
  subst hq hk hn
  intro T L i j X hk0 hn0 N eT
  have e1 := C.ro
  obtain ⟨T', h', cA, X', e', E', A', D', sp⟩ := Jvm.RoadKit.newPE X C.x C.z w eT (g := mkF W.m pc ls (.int z :: st)) rfl (hb C.b hd) rfl hz hcap hbig (by rw [e1]; omega) (by rw [e1]; omega) had
  obtain ⟨s₂, o, hs, r⟩ := hr h' _ cA rfl E' (Arv.new A' hz) D' T' _ _ _ X' (by omega) (by omega) N e'
  exact ⟨s₂, o, sp _ hs, r⟩
theorem Go.clone (C : Cx Z W rm own nm bytes maxL ret) {index cap k' n' wt len : Nat} {ad : String} {a : Addr} {ty : FieldType} {f : Nat → Value}
    (w1 : (Jvm.Cond.methodLink own index ⟨ad, "clone", "()Ljava/lang/Object;"⟩).before a0 Z = true) (w2 : (Jvm.Cond.sameMethod ad "java/lang/Object" "clone" "()Ljava/lang/Object;").before a0 Z = true) (w3 : (Jvm.Cond.native ⟨"java/lang/Object", "clone", "()Ljava/lang/Object;"⟩).before a0 Z = true)
    (w4 : (Jvm.Cond.instanceMethod ⟨"java/lang/Object", "clone", "()Ljava/lang/Object;"⟩).before a0 Z = true) (w5 : (Jvm.Cond.selects ad ⟨ad, "clone", "()Ljava/lang/Object;"⟩ ⟨"java/lang/Object", "clone", "()Ljava/lang/Object;"⟩).before a0 Z = true) (w6 : (Jvm.Cond.castable ad "java/lang/Cloneable").before a0 Z = true)
    (F : Av Z h a ty len f) (E : Exa Z h a ad) (hfit : ∀ i, i < len → fits ty (f i) = true) (hd : decode bytes pc = .ok (.invokevirtual index, 3)) (hq : pc + 3 = q) (hls : ls.size = maxL) (hw : (st.map fun v => v.category).sum = wt) (hfr : 1 ≤ rm.frames) (hlo : wt + 14 ≤ rm.locals) (hcap : len = cap) (hk : k + 1 = k') (hn : n + cap = n') (hk' : k' ≤ rm.cells) (hn' : n' ≤ rm.slots)
    (hr : ∀ h' b, b = h.size → Ext h h' → Av Z h' b ty len f → Exa Z h' b ad → Go W n0 Q h' k' n' q ls (.ref b :: st)) : Go W n0 Q h k n pc ls (.ref a :: st) := by
  subst hq hk hn hw
  obtain ⟨c, A, r1, r2, r3⟩ := F
  intro T L i j X hk0 hn0 N eT
  have e1 := C.ro
  have FC : FitC Z c := fitC_of A fun x hx v hv => by rw [r3 x (r1 ▸ hx)] at hv; cases hv; exact hfit x (r1 ▸ hx)
  obtain ⟨T', h', X', e', E', A', D', sp⟩ := cloneA X C.x C.z C.ow w1 w2 w3 w4 w5 w6 eT A E FC (g := mkF W.m pc ls (.ref a :: st)) rfl (by rw [C.ml]; exact hls) rfl (hb C.b hd) (by rw [e1]; exact hfr) (W := (st.map fun v => v.category).sum) (by show 2 * 0 + (st.map fun v => v.category).sum ≤ (st.map fun v => v.category).sum; omega) (by rw [e1]; exact hlo) (cap := cap) (by omega) (by rw [e1]; omega) (by rw [e1]; omega)
  obtain ⟨s₂, o, hs, r⟩ := hr h' _ rfl E' ⟨_, A', r1, r2, r3⟩ D' T' _ _ _ X' (by omega) (by omega) N e'
  exact ⟨s₂, o, sp _ hs, r⟩
theorem Go.cast (C : Cx Z W rm own nm bytes maxL ret) {index : Nat} {K : String} {a : Addr} (w : (Jvm.Cond.classLink own index K).before a0 Z = true) (F : Ins Z h a K true) (hd : decode bytes pc = .ok (.checkcast index, 3)) (hq : pc + 3 = q)
    (hr : Go W n0 Q h k n q ls (.ref a :: st)) : Go W n0 Q h k n pc ls (.ref a :: st) := by
  subst hq
  exact Go.stepT (fun T L i j X eT => Jvm.RoadKit.castY X C.x C.z C.ow w eT F (g := mkF W.m pc ls (.ref a :: st)) rfl rfl (hb C.b hd)) hr
theorem Go.alen (C : Cx Z W rm own nm bytes maxL ret) {a : Addr} {ty : FieldType} {len : Nat} {f : Nat → Value} (F : Av Z h a ty len f) (hd : decode bytes pc = .ok (.arraylength, 1)) (hq : pc + 1 = q)
    (hr : Go W n0 Q h k n q ls (.int len.toInt32 :: st)) : Go W n0 Q h k n pc ls (.ref a :: st) := by
  subst hq
  obtain ⟨c, A, r1, r2, r3⟩ := F
  subst r1
  exact Go.stepX (fun T L i j tg X eT kk => X.arraylength C.x (by rw [eT]; exact A.1) (State.isArrayOf_alike C.z.alike A.2.1) (g := mkF W.m pc ls (.ref a :: st)) rfl rfl (hb C.b hd) _ kk) hr
theorem Go.alenZ (C : Cx Z W rm own nm bytes maxL ret) {a : Addr} {ty : FieldType} {z : Int32} {f : Nat → Value} (F : Av Z h a ty z.toNatClampNeg f) (hz : ¬ z < 0) (hd : decode bytes pc = .ok (.arraylength, 1)) (hq : pc + 1 = q)
    (hr : Go W n0 Q h k n q ls (.int z :: st)) : Go W n0 Q h k n pc ls (.ref a :: st) :=
  Go.alen C F hd hq (by rw [(Jvm.RoadKit.back32 hz).1]; exact hr)

theorem Go.iaload (C : Cx Z W rm own nm bytes maxL ret) {a : Addr} {len : Nat} {f : Nat → Value} {j : Int32} {v : Value} (F : Av Z h a .int len f) (i : Nat) (hji : j.toNatClampNeg = i) (hj : ¬ j < 0) (hi : i < len) (hv : f i = v) (hd : decode bytes pc = .ok (.iaload, 1)) (hq : pc + 1 = q)
    (hr : Go W n0 Q h k n q ls (v :: st)) : Go W n0 Q h k n pc ls (.int j :: .ref a :: st) := by
  subst hq hji hv
  obtain ⟨c, A, r1, r2, r3⟩ := F
  exact Go.stepX (fun T L i' j' tg X eT kk => X.iaload C.x (j := j) (by rw [eT]; exact A.1) (State.isArrayOf_alike C.z.alike A.2.1) A.2.2 (fun z => z.elim hj (fun y => absurd (Nat.lt_of_lt_of_le hi (r1 ▸ y)) (Nat.lt_irrefl _))) (r3 _ hi) (g := mkF W.m pc ls (.int j :: .ref a :: st)) rfl rfl (hb C.b hd) _ kk) hr
theorem Go.laload (C : Cx Z W rm own nm bytes maxL ret) {a : Addr} {len : Nat} {f : Nat → Value} {j : Int32} {v : Value} (F : Av Z h a .long len f) (i : Nat) (hji : j.toNatClampNeg = i) (hj : ¬ j < 0) (hi : i < len) (hv : f i = v) (hd : decode bytes pc = .ok (.laload, 1)) (hq : pc + 1 = q)
    (hr : Go W n0 Q h k n q ls (v :: st)) : Go W n0 Q h k n pc ls (.int j :: .ref a :: st) := by
  subst hq hji hv
  obtain ⟨c, A, r1, r2, r3⟩ := F
  exact Go.stepX (fun T L i' j' tg X eT kk => X.laload C.x (j := j) (by rw [eT]; exact A.1) (State.isArrayOf_alike C.z.alike A.2.1) A.2.2 (fun z => z.elim hj (fun y => absurd (Nat.lt_of_lt_of_le hi (r1 ▸ y)) (Nat.lt_irrefl _))) (r3 _ hi) (g := mkF W.m pc ls (.int j :: .ref a :: st)) rfl rfl (hb C.b hd) _ kk) hr
theorem Go.caload (C : Cx Z W rm own nm bytes maxL ret) {a : Addr} {len : Nat} {f : Nat → Value} {j : Int32} {v : Value} (F : Av Z h a .char len f) (i : Nat) (hji : j.toNatClampNeg = i) (hj : ¬ j < 0) (hi : i < len) (hv : f i = v) (hd : decode bytes pc = .ok (.caload, 1)) (hq : pc + 1 = q)
    (hr : Go W n0 Q h k n q ls (v :: st)) : Go W n0 Q h k n pc ls (.int j :: .ref a :: st) := by
  subst hq hji hv
  obtain ⟨c, A, r1, r2, r3⟩ := F
  exact Go.stepX (fun T L i' j' tg X eT kk => X.caload C.x (j := j) (by rw [eT]; exact A.1) (State.isArrayOf_alike C.z.alike A.2.1) A.2.2 (fun z => z.elim hj (fun y => absurd (Nat.lt_of_lt_of_le hi (r1 ▸ y)) (Nat.lt_irrefl _))) (r3 _ hi) (g := mkF W.m pc ls (.int j :: .ref a :: st)) rfl rfl (hb C.b hd) _ kk) hr
theorem Go.baload (C : Cx Z W rm own nm bytes maxL ret) {a : Addr} {len : Nat} {f : Nat → Value} {j : Int32} {v : Value} (F : Av Z h a .byte len f) (i : Nat) (hji : j.toNatClampNeg = i) (hj : ¬ j < 0) (hi : i < len) (hv : f i = v) (hd : decode bytes pc = .ok (.baload, 1)) (hq : pc + 1 = q)
    (hr : Go W n0 Q h k n q ls (v :: st)) : Go W n0 Q h k n pc ls (.int j :: .ref a :: st) := by
  subst hq hji hv
  obtain ⟨c, A, r1, r2, r3⟩ := F
  exact Go.stepX (fun T L i' j' tg X eT kk => X.baloadBytes C.x (j := j) (by rw [eT]; exact A.1) (State.isArrayOf_alike C.z.alike A.2.1) A.2.2 (fun z => z.elim hj (fun y => absurd (Nat.lt_of_lt_of_le hi (r1 ▸ y)) (Nat.lt_irrefl _))) (r3 _ hi) (g := mkF W.m pc ls (.int j :: .ref a :: st)) rfl rfl (hb C.b hd) _ kk) hr
theorem Go.zaload (C : Cx Z W rm own nm bytes maxL ret) {a : Addr} {len : Nat} {f : Nat → Value} {j : Int32} {v : Value} (F : Av Z h a .boolean len f) (i : Nat) (hji : j.toNatClampNeg = i) (hj : ¬ j < 0) (hi : i < len) (hv : f i = v) (hd : decode bytes pc = .ok (.baload, 1)) (hq : pc + 1 = q)
    (hr : Go W n0 Q h k n q ls (v :: st)) : Go W n0 Q h k n pc ls (.int j :: .ref a :: st) := by
  subst hq hji hv
  obtain ⟨c, A, r1, r2, r3⟩ := F
  exact Go.stepX (fun T L i' j' tg X eT kk => X.baloadBooleans C.x (j := j) (by rw [eT]; exact A.1) (State.isArrayOf_alike C.z.alike A.2.1) A.2.2 (fun z => z.elim hj (fun y => absurd (Nat.lt_of_lt_of_le hi (r1 ▸ y)) (Nat.lt_irrefl _))) (r3 _ hi) (g := mkF W.m pc ls (.int j :: .ref a :: st)) rfl rfl (hb C.b hd) _ kk) hr
theorem Go.daload (C : Cx Z W rm own nm bytes maxL ret) {a : Addr} {len : Nat} {f : Nat → Value} {j : Int32} {v : Value} (F : Av Z h a .double len f) (i : Nat) (hji : j.toNatClampNeg = i) (hj : ¬ j < 0) (hi : i < len) (hv : f i = v) (hd : decode bytes pc = .ok (.daload, 1)) (hq : pc + 1 = q)
    (hr : Go W n0 Q h k n q ls (v :: st)) : Go W n0 Q h k n pc ls (.int j :: .ref a :: st) := by
  subst hq hji hv
  obtain ⟨c, A, r1, r2, r3⟩ := F
  exact Go.stepX (fun T L i' j' tg X eT kk => X.daload C.x (j := j) (by rw [eT]; exact A.1) (State.isArrayOf_alike C.z.alike A.2.1) A.2.2 (fun z => z.elim hj (fun y => absurd (Nat.lt_of_lt_of_le hi (r1 ▸ y)) (Nat.lt_irrefl _))) (r3 _ hi) (g := mkF W.m pc ls (.int j :: .ref a :: st)) rfl rfl (hb C.b hd) _ kk) hr
theorem Go.dastore (C : Cx Z W rm own nm bytes maxL ret) {a : Addr} {len : Nat} {f : Nat → Value} {j : Int32} {x : UInt64} (F : Av Z h a .double len f) (i : Nat) (hji : j.toNatClampNeg = i) (hj : ¬ j < 0) (hi : i < len) (ha : n0 ≤ a) (hd : decode bytes pc = .ok (.dastore, 1)) (hq : pc + 1 = q)
    (hr : ∀ h', Wr h h' a i (.double x) → Go W n0 Q h' k n q ls st) : Go W n0 Q h k n pc ls (.double x :: .int j :: .ref a :: st) := by
  subst hq hji
  obtain ⟨c, A, r1, r2, r3⟩ := F
  intro T L i' j' X hk hn N eT
  obtain ⟨T', h', X', e', W', sp⟩ := Jvm.RoadKit.stD X C.x C.z eT A (j := j) (fun z => z.elim hj (fun y => absurd (Nat.lt_of_lt_of_le hi (r1 ▸ y)) (Nat.lt_irrefl _))) (g := mkF W.m pc ls (.double x :: .int j :: .ref a :: st)) rfl rfl (hb C.b hd)
  obtain ⟨s₂, o, hs, r⟩ := hr h' W' T' _ _ _ X' hk hn (Fr.snoc X' N ha) e'
  exact ⟨s₂, o, sp _ hs, r⟩
theorem Go.iastore (C : Cx Z W rm own nm bytes maxL ret) {a : Addr} {len : Nat} {f : Nat → Value} {j : Int32} {x : Int32} (F : Av Z h a .int len f) (i : Nat) (hji : j.toNatClampNeg = i) (hj : ¬ j < 0) (hi : i < len) (ha : n0 ≤ a) (hd : decode bytes pc = .ok (.iastore, 1)) (hq : pc + 1 = q)
    (hr : ∀ h', Wr h h' a i (.int x) → Go W n0 Q h' k n q ls st) : Go W n0 Q h k n pc ls (.int x :: .int j :: .ref a :: st) := by
  subst hq hji
  obtain ⟨c, A, r1, r2, r3⟩ := F
  intro T L i' j' X hk hn N eT
  obtain ⟨T', h', X', e', W', sp⟩ := Jvm.RoadKit.stI X C.x C.z eT A (j := j) (fun z => z.elim hj (fun y => absurd (Nat.lt_of_lt_of_le hi (r1 ▸ y)) (Nat.lt_irrefl _))) (g := mkF W.m pc ls (.int x :: .int j :: .ref a :: st)) rfl rfl (hb C.b hd)
  obtain ⟨s₂, o, hs, r⟩ := hr h' W' T' _ _ _ X' hk hn (Fr.snoc X' N ha) e'
  exact ⟨s₂, o, sp _ hs, r⟩
theorem Go.lastore (C : Cx Z W rm own nm bytes maxL ret) {a : Addr} {len : Nat} {f : Nat → Value} {j : Int32} {x : Int64} (F : Av Z h a .long len f) (i : Nat) (hji : j.toNatClampNeg = i) (hj : ¬ j < 0) (hi : i < len) (ha : n0 ≤ a) (hd : decode bytes pc = .ok (.lastore, 1)) (hq : pc + 1 = q)
    (hr : ∀ h', Wr h h' a i (.long x) → Go W n0 Q h' k n q ls st) : Go W n0 Q h k n pc ls (.long x :: .int j :: .ref a :: st) := by
  subst hq hji
  obtain ⟨c, A, r1, r2, r3⟩ := F
  intro T L i' j' X hk hn N eT
  obtain ⟨T', h', X', e', W', sp⟩ := Jvm.RoadKit.stJ X C.x C.z eT A (j := j) (fun z => z.elim hj (fun y => absurd (Nat.lt_of_lt_of_le hi (r1 ▸ y)) (Nat.lt_irrefl _))) (g := mkF W.m pc ls (.long x :: .int j :: .ref a :: st)) rfl rfl (hb C.b hd)
  obtain ⟨s₂, o, hs, r⟩ := hr h' W' T' _ _ _ X' hk hn (Fr.snoc X' N ha) e'
  exact ⟨s₂, o, sp _ hs, r⟩
theorem Go.castore (C : Cx Z W rm own nm bytes maxL ret) {a : Addr} {len : Nat} {f : Nat → Value} {j : Int32} {x : Int32} (F : Av Z h a .char len f) (i : Nat) (hji : j.toNatClampNeg = i) (hj : ¬ j < 0) (hi : i < len) (ha : n0 ≤ a) (hd : decode bytes pc = .ok (.castore, 1)) (hq : pc + 1 = q)
    (hr : ∀ h', Wr h h' a i (.int (nar .char x)) → Go W n0 Q h' k n q ls st) : Go W n0 Q h k n pc ls (.int x :: .int j :: .ref a :: st) := by
  subst hq hji
  obtain ⟨c, A, r1, r2, r3⟩ := F
  intro T L i' j' X hk hn N eT
  obtain ⟨T', h', X', e', W', sp⟩ := Jvm.RoadKit.stC X C.x C.z eT A (j := j) (fun z => z.elim hj (fun y => absurd (Nat.lt_of_lt_of_le hi (r1 ▸ y)) (Nat.lt_irrefl _))) (g := mkF W.m pc ls (.int x :: .int j :: .ref a :: st)) rfl rfl (hb C.b hd)
  obtain ⟨s₂, o, hs, r⟩ := hr h' W' T' _ _ _ X' hk hn (Fr.snoc X' N ha) e'
  exact ⟨s₂, o, sp _ hs, r⟩
theorem Go.bastore (C : Cx Z W rm own nm bytes maxL ret) {a : Addr} {len : Nat} {f : Nat → Value} {j : Int32} {x : Int32} (F : Av Z h a .byte len f) (i : Nat) (hji : j.toNatClampNeg = i) (hj : ¬ j < 0) (hi : i < len) (ha : n0 ≤ a) (hd : decode bytes pc = .ok (.bastore, 1)) (hq : pc + 1 = q)
    (hr : ∀ h', Wr h h' a i (.int (nar .byte x)) → Go W n0 Q h' k n q ls st) : Go W n0 Q h k n pc ls (.int x :: .int j :: .ref a :: st) := by
  subst hq hji
  obtain ⟨c, A, r1, r2, r3⟩ := F
  intro T L i' j' X hk hn N eT
  obtain ⟨T', h', X', e', W', sp⟩ := Jvm.RoadKit.stB X C.x C.z eT A (j := j) (fun z => z.elim hj (fun y => absurd (Nat.lt_of_lt_of_le hi (r1 ▸ y)) (Nat.lt_irrefl _))) (g := mkF W.m pc ls (.int x :: .int j :: .ref a :: st)) rfl rfl (hb C.b hd)
  obtain ⟨s₂, o, hs, r⟩ := hr h' W' T' _ _ _ X' hk hn (Fr.snoc X' N ha) e'
  exact ⟨s₂, o, sp _ hs, r⟩
theorem Go.zastore (C : Cx Z W rm own nm bytes maxL ret) {a : Addr} {len : Nat} {f : Nat → Value} {j : Int32} {x : Int32} (F : Av Z h a .boolean len f) (i : Nat) (hji : j.toNatClampNeg = i) (hj : ¬ j < 0) (hi : i < len) (ha : n0 ≤ a) (hd : decode bytes pc = .ok (.bastore, 1)) (hq : pc + 1 = q)
    (hr : ∀ h', Wr h h' a i (.int (nar .boolean x)) → Go W n0 Q h' k n q ls st) : Go W n0 Q h k n pc ls (.int x :: .int j :: .ref a :: st) := by
  subst hq hji
  obtain ⟨c, A, r1, r2, r3⟩ := F
  intro T L i' j' X hk hn N eT
  obtain ⟨T', h', X', e', W', sp⟩ := Jvm.RoadKit.stZ X C.x C.z eT A (j := j) (fun z => z.elim hj (fun y => absurd (Nat.lt_of_lt_of_le hi (r1 ▸ y)) (Nat.lt_irrefl _))) (g := mkF W.m pc ls (.int x :: .int j :: .ref a :: st)) rfl rfl (hb C.b hd)
  obtain ⟨s₂, o, hs, r⟩ := hr h' W' T' _ _ _ X' hk hn (Fr.snoc X' N ha) e'
  exact ⟨s₂, o, sp _ hs, r⟩
end Gos

theorem d1_0 : decode jdk_29_method_69_code 0 = .ok (.iload_n 0, 1) := by decide +kernel
theorem d1_1 : decode jdk_29_method_69_code 1 = .ok (.iload_n 1, 1) := by decide +kernel
theorem d1_2 : decode jdk_29_method_69_code 2 = .ok (.if_icmp .gt 7, 3) := by decide +kernel
theorem d1_9 : decode jdk_29_method_69_code 9 = .ok (.iload_n 1, 1) := by decide +kernel
theorem d1_10 : decode jdk_29_method_69_code 10 = .ok (.ireturn, 1) := by decide +kernel
theorem d1_5 : decode jdk_29_method_69_code 5 = .ok (.iload_n 0, 1) := by decide +kernel
theorem d1_6 : decode jdk_29_method_69_code 6 = .ok (.goto 4, 3) := by decide +kernel
theorem ef_1 (m : MethodId) (p0 : Int32) (p1 : Int32) : entryFrame m #[(.int p0), (.int p1)] 2 = mkF m 0 #[.val (.int p0), .val (.int p1)] [] := by first | (simp [entryFrame, mkF, argsToLocals, Value.category]; done) | rfl
theorem d2_0 : decode jdk_29_method_65_code 0 = .ok (.iload_n 0, 1) := by decide +kernel
theorem d2_1 : decode jdk_29_method_65_code 1 = .ok (.iload_n 1, 1) := by decide +kernel
theorem d2_2 : decode jdk_29_method_65_code 2 = .ok (.if_icmp .lt 7, 3) := by decide +kernel
theorem d2_9 : decode jdk_29_method_65_code 9 = .ok (.iload_n 1, 1) := by decide +kernel
theorem d2_10 : decode jdk_29_method_65_code 10 = .ok (.ireturn, 1) := by decide +kernel
theorem d2_5 : decode jdk_29_method_65_code 5 = .ok (.iload_n 0, 1) := by decide +kernel
theorem d2_6 : decode jdk_29_method_65_code 6 = .ok (.goto 4, 3) := by decide +kernel
theorem ef_2 (m : MethodId) (p0 : Int32) (p1 : Int32) : entryFrame m #[(.int p0), (.int p1)] 2 = mkF m 0 #[.val (.int p0), .val (.int p1)] [] := by first | (simp [entryFrame, mkF, argsToLocals, Value.category]; done) | rfl
theorem d4_0 : decode method_4_code 0 = .ok (.iload_n 1, 1) := by decide +kernel
theorem d4_1 : decode method_4_code 1 = .ok (.ifCond .ne 7, 3) := by decide +kernel
theorem d4_4 : decode method_4_code 4 = .ok (.iconst 0, 1) := by decide +kernel
theorem d4_5 : decode method_4_code 5 = .ok (.newarray .int, 2) := by decide +kernel
theorem d4_7 : decode method_4_code 7 = .ok (.areturn, 1) := by decide +kernel
theorem ef_4_l1_0Int32 (m : MethodId) (x : Addr) : entryFrame m #[(.ref x), (.int (0 : Int32))] 2 = mkF m 0 #[.val (.ref x), .val (.int (0 : Int32))] [] := by first | (simp [entryFrame, mkF, argsToLocals, Value.category]; done) | rfl
theorem pn_com_example_tolerant_query_tolerantquery_IntSetsContainsAllPinLaw : plainName "com/example/tolerant_query/tolerantquery/IntSetsContainsAllPinLaw" = true := by first | (simp [plainName, overriddenIn]; done) | decide +kernel
theorem d4_8 : decode method_4_code 8 = .ok (.iload_n 1, 1) := by decide +kernel
theorem d4_9 : decode method_4_code 9 = .ok (.iconst 1, 1) := by decide +kernel
theorem d4_10 : decode method_4_code 10 = .ok (.if_icmp .ne 13, 3) := by decide +kernel
theorem d4_13 : decode method_4_code 13 = .ok (.iconst 1, 1) := by decide +kernel
theorem d4_14 : decode method_4_code 14 = .ok (.newarray .int, 2) := by decide +kernel
theorem d4_16 : decode method_4_code 16 = .ok (.dup, 1) := by decide +kernel
theorem d4_17 : decode method_4_code 17 = .ok (.iconst 0, 1) := by decide +kernel
theorem d4_18 : decode method_4_code 18 = .ok (.aload_n 0, 1) := by decide +kernel
theorem d4_19 : decode method_4_code 19 = .ok (.iconst 0, 1) := by decide +kernel
theorem d4_20 : decode method_4_code 20 = .ok (.iaload, 1) := by decide +kernel
theorem d4_21 : decode method_4_code 21 = .ok (.iastore, 1) := by decide +kernel
theorem d4_22 : decode method_4_code 22 = .ok (.areturn, 1) := by decide +kernel
theorem ef_4_l1_1Int32 (m : MethodId) (x : Addr) : entryFrame m #[(.ref x), (.int (1 : Int32))] 2 = mkF m 0 #[.val (.ref x), .val (.int (1 : Int32))] [] := by first | (simp [entryFrame, mkF, argsToLocals, Value.category]; done) | rfl
theorem d4_23 : decode method_4_code 23 = .ok (.iload_n 1, 1) := by decide +kernel
theorem d4_24 : decode method_4_code 24 = .ok (.iconst 2, 1) := by decide +kernel
theorem d4_25 : decode method_4_code 25 = .ok (.if_icmp .ne 19, 3) := by decide +kernel
theorem d4_28 : decode method_4_code 28 = .ok (.iconst 2, 1) := by decide +kernel
theorem d4_29 : decode method_4_code 29 = .ok (.newarray .int, 2) := by decide +kernel
theorem d4_31 : decode method_4_code 31 = .ok (.dup, 1) := by decide +kernel
theorem d4_32 : decode method_4_code 32 = .ok (.iconst 0, 1) := by decide +kernel
theorem d4_33 : decode method_4_code 33 = .ok (.aload_n 0, 1) := by decide +kernel
theorem d4_34 : decode method_4_code 34 = .ok (.iconst 0, 1) := by decide +kernel
theorem d4_35 : decode method_4_code 35 = .ok (.iaload, 1) := by decide +kernel
theorem d4_36 : decode method_4_code 36 = .ok (.iastore, 1) := by decide +kernel
theorem d4_37 : decode method_4_code 37 = .ok (.dup, 1) := by decide +kernel
theorem d4_38 : decode method_4_code 38 = .ok (.iconst 1, 1) := by decide +kernel
theorem d4_39 : decode method_4_code 39 = .ok (.aload_n 0, 1) := by decide +kernel
theorem d4_40 : decode method_4_code 40 = .ok (.iconst 1, 1) := by decide +kernel
theorem d4_41 : decode method_4_code 41 = .ok (.iaload, 1) := by decide +kernel
theorem d4_42 : decode method_4_code 42 = .ok (.iastore, 1) := by decide +kernel
theorem d4_43 : decode method_4_code 43 = .ok (.areturn, 1) := by decide +kernel
theorem ef_4_l1_2Int32 (m : MethodId) (x : Addr) : entryFrame m #[(.ref x), (.int (2 : Int32))] 2 = mkF m 0 #[.val (.ref x), .val (.int (2 : Int32))] [] := by first | (simp [entryFrame, mkF, argsToLocals, Value.category]; done) | rfl
theorem d4_44 : decode method_4_code 44 = .ok (.iload_n 1, 1) := by decide +kernel
theorem d4_45 : decode method_4_code 45 = .ok (.iconst 3, 1) := by decide +kernel
theorem d4_46 : decode method_4_code 46 = .ok (.if_icmp .ne 25, 3) := by decide +kernel
theorem d4_49 : decode method_4_code 49 = .ok (.iconst 3, 1) := by decide +kernel
theorem d4_50 : decode method_4_code 50 = .ok (.newarray .int, 2) := by decide +kernel
theorem d4_52 : decode method_4_code 52 = .ok (.dup, 1) := by decide +kernel
theorem d4_53 : decode method_4_code 53 = .ok (.iconst 0, 1) := by decide +kernel
theorem d4_54 : decode method_4_code 54 = .ok (.aload_n 0, 1) := by decide +kernel
theorem d4_55 : decode method_4_code 55 = .ok (.iconst 0, 1) := by decide +kernel
theorem d4_56 : decode method_4_code 56 = .ok (.iaload, 1) := by decide +kernel
theorem d4_57 : decode method_4_code 57 = .ok (.iastore, 1) := by decide +kernel
theorem d4_58 : decode method_4_code 58 = .ok (.dup, 1) := by decide +kernel
theorem d4_59 : decode method_4_code 59 = .ok (.iconst 1, 1) := by decide +kernel
theorem d4_60 : decode method_4_code 60 = .ok (.aload_n 0, 1) := by decide +kernel
theorem d4_61 : decode method_4_code 61 = .ok (.iconst 1, 1) := by decide +kernel
theorem d4_62 : decode method_4_code 62 = .ok (.iaload, 1) := by decide +kernel
theorem d4_63 : decode method_4_code 63 = .ok (.iastore, 1) := by decide +kernel
theorem d4_64 : decode method_4_code 64 = .ok (.dup, 1) := by decide +kernel
theorem d4_65 : decode method_4_code 65 = .ok (.iconst 2, 1) := by decide +kernel
theorem d4_66 : decode method_4_code 66 = .ok (.aload_n 0, 1) := by decide +kernel
theorem d4_67 : decode method_4_code 67 = .ok (.iconst 2, 1) := by decide +kernel
theorem d4_68 : decode method_4_code 68 = .ok (.iaload, 1) := by decide +kernel
theorem d4_69 : decode method_4_code 69 = .ok (.iastore, 1) := by decide +kernel
theorem d4_70 : decode method_4_code 70 = .ok (.areturn, 1) := by decide +kernel
theorem ef_4_l1_3Int32 (m : MethodId) (x : Addr) : entryFrame m #[(.ref x), (.int (3 : Int32))] 2 = mkF m 0 #[.val (.ref x), .val (.int (3 : Int32))] [] := by first | (simp [entryFrame, mkF, argsToLocals, Value.category]; done) | rfl
theorem d4_71 : decode method_4_code 71 = .ok (.iload_n 1, 1) := by decide +kernel
theorem d4_72 : decode method_4_code 72 = .ok (.iconst 4, 1) := by decide +kernel
theorem d4_73 : decode method_4_code 73 = .ok (.if_icmp .ne 31, 3) := by decide +kernel
theorem d4_76 : decode method_4_code 76 = .ok (.iconst 4, 1) := by decide +kernel
theorem d4_77 : decode method_4_code 77 = .ok (.newarray .int, 2) := by decide +kernel
theorem d4_79 : decode method_4_code 79 = .ok (.dup, 1) := by decide +kernel
theorem d4_80 : decode method_4_code 80 = .ok (.iconst 0, 1) := by decide +kernel
theorem d4_81 : decode method_4_code 81 = .ok (.aload_n 0, 1) := by decide +kernel
theorem d4_82 : decode method_4_code 82 = .ok (.iconst 0, 1) := by decide +kernel
theorem d4_83 : decode method_4_code 83 = .ok (.iaload, 1) := by decide +kernel
theorem d4_84 : decode method_4_code 84 = .ok (.iastore, 1) := by decide +kernel
theorem d4_85 : decode method_4_code 85 = .ok (.dup, 1) := by decide +kernel
theorem d4_86 : decode method_4_code 86 = .ok (.iconst 1, 1) := by decide +kernel
theorem d4_87 : decode method_4_code 87 = .ok (.aload_n 0, 1) := by decide +kernel
theorem d4_88 : decode method_4_code 88 = .ok (.iconst 1, 1) := by decide +kernel
theorem d4_89 : decode method_4_code 89 = .ok (.iaload, 1) := by decide +kernel
theorem d4_90 : decode method_4_code 90 = .ok (.iastore, 1) := by decide +kernel
theorem d4_91 : decode method_4_code 91 = .ok (.dup, 1) := by decide +kernel
theorem d4_92 : decode method_4_code 92 = .ok (.iconst 2, 1) := by decide +kernel
theorem d4_93 : decode method_4_code 93 = .ok (.aload_n 0, 1) := by decide +kernel
theorem d4_94 : decode method_4_code 94 = .ok (.iconst 2, 1) := by decide +kernel
theorem d4_95 : decode method_4_code 95 = .ok (.iaload, 1) := by decide +kernel
theorem d4_96 : decode method_4_code 96 = .ok (.iastore, 1) := by decide +kernel
theorem d4_97 : decode method_4_code 97 = .ok (.dup, 1) := by decide +kernel
theorem d4_98 : decode method_4_code 98 = .ok (.iconst 3, 1) := by decide +kernel
theorem d4_99 : decode method_4_code 99 = .ok (.aload_n 0, 1) := by decide +kernel
theorem d4_100 : decode method_4_code 100 = .ok (.iconst 3, 1) := by decide +kernel
theorem d4_101 : decode method_4_code 101 = .ok (.iaload, 1) := by decide +kernel
theorem d4_102 : decode method_4_code 102 = .ok (.iastore, 1) := by decide +kernel
theorem d4_103 : decode method_4_code 103 = .ok (.areturn, 1) := by decide +kernel
theorem ef_4_l1_4Int32 (m : MethodId) (x : Addr) : entryFrame m #[(.ref x), (.int (4 : Int32))] 2 = mkF m 0 #[.val (.ref x), .val (.int (4 : Int32))] [] := by first | (simp [entryFrame, mkF, argsToLocals, Value.category]; done) | rfl
theorem d4_104 : decode method_4_code 104 = .ok (.iconst 5, 1) := by decide +kernel
theorem d4_105 : decode method_4_code 105 = .ok (.newarray .int, 2) := by decide +kernel
theorem d4_107 : decode method_4_code 107 = .ok (.dup, 1) := by decide +kernel
theorem d4_108 : decode method_4_code 108 = .ok (.iconst 0, 1) := by decide +kernel
theorem d4_109 : decode method_4_code 109 = .ok (.aload_n 0, 1) := by decide +kernel
theorem d4_110 : decode method_4_code 110 = .ok (.iconst 0, 1) := by decide +kernel
theorem d4_111 : decode method_4_code 111 = .ok (.iaload, 1) := by decide +kernel
theorem d4_112 : decode method_4_code 112 = .ok (.iastore, 1) := by decide +kernel
theorem d4_113 : decode method_4_code 113 = .ok (.dup, 1) := by decide +kernel
theorem d4_114 : decode method_4_code 114 = .ok (.iconst 1, 1) := by decide +kernel
theorem d4_115 : decode method_4_code 115 = .ok (.aload_n 0, 1) := by decide +kernel
theorem d4_116 : decode method_4_code 116 = .ok (.iconst 1, 1) := by decide +kernel
theorem d4_117 : decode method_4_code 117 = .ok (.iaload, 1) := by decide +kernel
theorem d4_118 : decode method_4_code 118 = .ok (.iastore, 1) := by decide +kernel
theorem d4_119 : decode method_4_code 119 = .ok (.dup, 1) := by decide +kernel
theorem d4_120 : decode method_4_code 120 = .ok (.iconst 2, 1) := by decide +kernel
theorem d4_121 : decode method_4_code 121 = .ok (.aload_n 0, 1) := by decide +kernel
theorem d4_122 : decode method_4_code 122 = .ok (.iconst 2, 1) := by decide +kernel
theorem d4_123 : decode method_4_code 123 = .ok (.iaload, 1) := by decide +kernel
theorem d4_124 : decode method_4_code 124 = .ok (.iastore, 1) := by decide +kernel
theorem d4_125 : decode method_4_code 125 = .ok (.dup, 1) := by decide +kernel
theorem d4_126 : decode method_4_code 126 = .ok (.iconst 3, 1) := by decide +kernel
theorem d4_127 : decode method_4_code 127 = .ok (.aload_n 0, 1) := by decide +kernel
theorem d4_128 : decode method_4_code 128 = .ok (.iconst 3, 1) := by decide +kernel
theorem d4_129 : decode method_4_code 129 = .ok (.iaload, 1) := by decide +kernel
theorem d4_130 : decode method_4_code 130 = .ok (.iastore, 1) := by decide +kernel
theorem d4_131 : decode method_4_code 131 = .ok (.dup, 1) := by decide +kernel
theorem d4_132 : decode method_4_code 132 = .ok (.iconst 4, 1) := by decide +kernel
theorem d4_133 : decode method_4_code 133 = .ok (.aload_n 0, 1) := by decide +kernel
theorem d4_134 : decode method_4_code 134 = .ok (.iconst 4, 1) := by decide +kernel
theorem d4_135 : decode method_4_code 135 = .ok (.iaload, 1) := by decide +kernel
theorem d4_136 : decode method_4_code 136 = .ok (.iastore, 1) := by decide +kernel
theorem d4_137 : decode method_4_code 137 = .ok (.areturn, 1) := by decide +kernel
theorem ef_4_l1_5Int32 (m : MethodId) (x : Addr) : entryFrame m #[(.ref x), (.int (5 : Int32))] 2 = mkF m 0 #[.val (.ref x), .val (.int (5 : Int32))] [] := by first | (simp [entryFrame, mkF, argsToLocals, Value.category]; done) | rfl
theorem d3_0 : decode method_3_code 0 = .ok (.iconst 5, 1) := by decide +kernel
theorem d3_1 : decode method_3_code 1 = .ok (.newarray .int, 2) := by decide +kernel
theorem d3_3 : decode method_3_code 3 = .ok (.astore_n 2, 1) := by decide +kernel
theorem d3_4 : decode method_3_code 4 = .ok (.iconst 0, 1) := by decide +kernel
theorem d3_5 : decode method_3_code 5 = .ok (.istore_n 3, 1) := by decide +kernel
theorem d3_6 : decode method_3_code 6 = .ok (.iload_n 0, 1) := by decide +kernel
theorem d3_7 : decode method_3_code 7 = .ok (.iconst 1, 1) := by decide +kernel
theorem d3_8 : decode method_3_code 8 = .ok (.iand, 1) := by decide +kernel
theorem d3_9 : decode method_3_code 9 = .ok (.ifCond .eq 11, 3) := by decide +kernel
theorem d3_20 : decode method_3_code 20 = .ok (.iload_n 0, 1) := by decide +kernel
theorem d3_21 : decode method_3_code 21 = .ok (.iconst 2, 1) := by decide +kernel
theorem d3_22 : decode method_3_code 22 = .ok (.iand, 1) := by decide +kernel
theorem d3_23 : decode method_3_code 23 = .ok (.ifCond .eq 12, 3) := by decide +kernel
theorem d3_35 : decode method_3_code 35 = .ok (.iload_n 0, 1) := by decide +kernel
theorem d3_36 : decode method_3_code 36 = .ok (.iconst 4, 1) := by decide +kernel
theorem d3_37 : decode method_3_code 37 = .ok (.iand, 1) := by decide +kernel
theorem d3_38 : decode method_3_code 38 = .ok (.ifCond .eq 10, 3) := by decide +kernel
theorem d3_48 : decode method_3_code 48 = .ok (.iload_n 0, 1) := by decide +kernel
theorem d3_49 : decode method_3_code 49 = .ok (.bipush 8, 2) := by decide +kernel
theorem d3_51 : decode method_3_code 51 = .ok (.iand, 1) := by decide +kernel
theorem d3_52 : decode method_3_code 52 = .ok (.ifCond .eq 12, 3) := by decide +kernel
theorem d3_64 : decode method_3_code 64 = .ok (.iload_n 0, 1) := by decide +kernel
theorem d3_65 : decode method_3_code 65 = .ok (.bipush 16, 2) := by decide +kernel
theorem d3_67 : decode method_3_code 67 = .ok (.iand, 1) := by decide +kernel
theorem d3_68 : decode method_3_code 68 = .ok (.ifCond .eq 11, 3) := by decide +kernel
theorem d3_79 : decode method_3_code 79 = .ok (.aload_n 2, 1) := by decide +kernel
theorem d3_80 : decode method_3_code 80 = .ok (.iload_n 3, 1) := by decide +kernel
theorem d3_81 : decode method_3_code 81 = .ok (.invokestatic 34, 3) := by decide +kernel
theorem pd__40_91II_41_91I : parseMethodDescriptor "([II)[I" = some ⟨[(.array .int), .int], some (.array .int)⟩ := by decide +kernel
theorem d3_84 : decode method_3_code 84 = .ok (.areturn, 1) := by decide +kernel
theorem d3_71 : decode method_3_code 71 = .ok (.aload_n 2, 1) := by decide +kernel
theorem d3_72 : decode method_3_code 72 = .ok (.iload_n 3, 1) := by decide +kernel
theorem d3_73 : decode method_3_code 73 = .ok (.ldc 33, 2) := by decide +kernel
theorem d3_75 : decode method_3_code 75 = .ok (.iastore, 1) := by decide +kernel
theorem d3_76 : decode method_3_code 76 = .ok (.iinc 3 1, 3) := by decide +kernel
theorem d3_55 : decode method_3_code 55 = .ok (.aload_n 2, 1) := by decide +kernel
theorem d3_56 : decode method_3_code 56 = .ok (.iload_n 3, 1) := by decide +kernel
theorem d3_57 : decode method_3_code 57 = .ok (.iload_n 1, 1) := by decide +kernel
theorem d3_58 : decode method_3_code 58 = .ok (.iconst 1, 1) := by decide +kernel
theorem d3_59 : decode method_3_code 59 = .ok (.iadd, 1) := by decide +kernel
theorem d3_60 : decode method_3_code 60 = .ok (.iastore, 1) := by decide +kernel
theorem d3_61 : decode method_3_code 61 = .ok (.iinc 3 1, 3) := by decide +kernel
theorem d3_41 : decode method_3_code 41 = .ok (.aload_n 2, 1) := by decide +kernel
theorem d3_42 : decode method_3_code 42 = .ok (.iload_n 3, 1) := by decide +kernel
theorem d3_43 : decode method_3_code 43 = .ok (.iload_n 1, 1) := by decide +kernel
theorem d3_44 : decode method_3_code 44 = .ok (.iastore, 1) := by decide +kernel
theorem d3_45 : decode method_3_code 45 = .ok (.iinc 3 1, 3) := by decide +kernel
theorem d3_26 : decode method_3_code 26 = .ok (.aload_n 2, 1) := by decide +kernel
theorem d3_27 : decode method_3_code 27 = .ok (.iload_n 3, 1) := by decide +kernel
theorem d3_28 : decode method_3_code 28 = .ok (.iload_n 1, 1) := by decide +kernel
theorem d3_29 : decode method_3_code 29 = .ok (.iconst 1, 1) := by decide +kernel
theorem d3_30 : decode method_3_code 30 = .ok (.isub, 1) := by decide +kernel
theorem d3_31 : decode method_3_code 31 = .ok (.iastore, 1) := by decide +kernel
theorem d3_32 : decode method_3_code 32 = .ok (.iinc 3 1, 3) := by decide +kernel
theorem d3_12 : decode method_3_code 12 = .ok (.aload_n 2, 1) := by decide +kernel
theorem d3_13 : decode method_3_code 13 = .ok (.iload_n 3, 1) := by decide +kernel
theorem d3_14 : decode method_3_code 14 = .ok (.ldc 32, 2) := by decide +kernel
theorem d3_16 : decode method_3_code 16 = .ok (.iastore, 1) := by decide +kernel
theorem d3_17 : decode method_3_code 17 = .ok (.iinc 3 1, 3) := by decide +kernel
theorem ef_3 (m : MethodId) (b : Int32) (md : Int32) : entryFrame m #[(.int b), (.int md)] 4 = mkF m 0 #[.val (.int b), .val (.int md), .unset, .unset] [] := by first | (simp [entryFrame, mkF, argsToLocals, Value.category]; done) | rfl
theorem d5_31 : decode prog_11_method_2_code 31 = .ok (.iload_n 2, 1) := by decide +kernel
theorem d5_32 : decode prog_11_method_2_code 32 = .ok (.aload_n 0, 1) := by decide +kernel
theorem d5_33 : decode prog_11_method_2_code 33 = .ok (.arraylength, 1) := by decide +kernel
theorem d5_34 : decode prog_11_method_2_code 34 = .ok (.if_icmp .ge 17, 3) := by decide +kernel
theorem d5_37 : decode prog_11_method_2_code 37 = .ok (.aload_n 0, 1) := by decide +kernel
theorem d5_38 : decode prog_11_method_2_code 38 = .ok (.iload_n 2, 1) := by decide +kernel
theorem d5_39 : decode prog_11_method_2_code 39 = .ok (.iaload, 1) := by decide +kernel
theorem d5_40 : decode prog_11_method_2_code 40 = .ok (.iload 6, 2) := by decide +kernel
theorem d5_42 : decode prog_11_method_2_code 42 = .ok (.if_icmp .ge 9, 3) := by decide +kernel
theorem d5_45 : decode prog_11_method_2_code 45 = .ok (.iinc 2 1, 3) := by decide +kernel
theorem d5_48 : decode prog_11_method_2_code 48 = .ok (.goto (-17), 3) := by decide +kernel
theorem d5_18 : decode prog_11_method_2_code 18 = .ok (.iload 5, 2) := by decide +kernel
theorem d5_20 : decode prog_11_method_2_code 20 = .ok (.iload 4, 2) := by decide +kernel
theorem d5_22 : decode prog_11_method_2_code 22 = .ok (.if_icmp .ge 51, 3) := by decide +kernel
theorem d5_73 : decode prog_11_method_2_code 73 = .ok (.iconst 1, 1) := by decide +kernel
theorem d5_74 : decode prog_11_method_2_code 74 = .ok (.ireturn, 1) := by decide +kernel
theorem d5_25 : decode prog_11_method_2_code 25 = .ok (.aload_n 3, 1) := by decide +kernel
theorem d5_26 : decode prog_11_method_2_code 26 = .ok (.iload 5, 2) := by decide +kernel
theorem d5_28 : decode prog_11_method_2_code 28 = .ok (.iaload, 1) := by decide +kernel
theorem d5_29 : decode prog_11_method_2_code 29 = .ok (.istore 6, 2) := by decide +kernel
theorem d5_51 : decode prog_11_method_2_code 51 = .ok (.iload_n 2, 1) := by decide +kernel
theorem d5_52 : decode prog_11_method_2_code 52 = .ok (.aload_n 0, 1) := by decide +kernel
theorem d5_53 : decode prog_11_method_2_code 53 = .ok (.arraylength, 1) := by decide +kernel
theorem d5_54 : decode prog_11_method_2_code 54 = .ok (.if_icmp .eq 11, 3) := by decide +kernel
theorem d5_65 : decode prog_11_method_2_code 65 = .ok (.iconst 0, 1) := by decide +kernel
theorem d5_66 : decode prog_11_method_2_code 66 = .ok (.ireturn, 1) := by decide +kernel
theorem d5_57 : decode prog_11_method_2_code 57 = .ok (.aload_n 0, 1) := by decide +kernel
theorem d5_58 : decode prog_11_method_2_code 58 = .ok (.iload_n 2, 1) := by decide +kernel
theorem d5_59 : decode prog_11_method_2_code 59 = .ok (.iaload, 1) := by decide +kernel
theorem d5_60 : decode prog_11_method_2_code 60 = .ok (.iload 6, 2) := by decide +kernel
theorem d5_62 : decode prog_11_method_2_code 62 = .ok (.if_icmp .eq 5, 3) := by decide +kernel
theorem d5_67 : decode prog_11_method_2_code 67 = .ok (.iinc 5 1, 3) := by decide +kernel
theorem d5_70 : decode prog_11_method_2_code 70 = .ok (.goto (-52), 3) := by decide +kernel
theorem d5_0 : decode prog_11_method_2_code 0 = .ok (.aload_n 1, 1) := by decide +kernel
theorem d5_1 : decode prog_11_method_2_code 1 = .ok (.aload_n 0, 1) := by decide +kernel
theorem d5_2 : decode prog_11_method_2_code 2 = .ok (.if_acmp .ne 5, 3) := by decide +kernel
theorem d5_7 : decode prog_11_method_2_code 7 = .ok (.iconst 0, 1) := by decide +kernel
theorem d5_8 : decode prog_11_method_2_code 8 = .ok (.istore_n 2, 1) := by decide +kernel
theorem d5_9 : decode prog_11_method_2_code 9 = .ok (.aload_n 1, 1) := by decide +kernel
theorem d5_10 : decode prog_11_method_2_code 10 = .ok (.astore_n 3, 1) := by decide +kernel
theorem d5_11 : decode prog_11_method_2_code 11 = .ok (.aload_n 3, 1) := by decide +kernel
theorem d5_12 : decode prog_11_method_2_code 12 = .ok (.arraylength, 1) := by decide +kernel
theorem d5_13 : decode prog_11_method_2_code 13 = .ok (.istore 4, 2) := by decide +kernel
theorem d5_15 : decode prog_11_method_2_code 15 = .ok (.iconst 0, 1) := by decide +kernel
theorem d5_16 : decode prog_11_method_2_code 16 = .ok (.istore 5, 2) := by decide +kernel
theorem ef_5 (m : MethodId) (x : Addr) (y : Addr) : entryFrame m #[(.ref x), (.ref y)] 7 = mkF m 0 #[.val (.ref x), .val (.ref y), .unset, .unset, .unset, .unset, .unset] [] := by first | (simp [entryFrame, mkF, argsToLocals, Value.category]; done) | rfl
theorem pn_com_example_tolerant_query_tolerantquery_IntSets : plainName "com/example/tolerant_query/tolerantquery/IntSets" = true := by first | (simp [plainName, overriddenIn]; done) | decide +kernel
theorem d5_5 : decode prog_11_method_2_code 5 = .ok (.iconst 1, 1) := by decide +kernel
theorem d5_6 : decode prog_11_method_2_code 6 = .ok (.ireturn, 1) := by decide +kernel
theorem ef_0 (m : MethodId) (p0 : Int32) (p1 : Int32) (p2 : Int32) : entryFrame m #[(.int p0), (.int p1), (.int p2)] maxLocals = mkF m 0 #[.val (.int p0), .val (.int p1), .val (.int p2), .unset, .unset, .unset, .unset, .unset, .unset, .unset, .unset] [] := by first | (simp [entryFrame, mkF, argsToLocals, Value.category, maxLocals]; done) | rfl
theorem pd__40II_41I : parseMethodDescriptor "(II)I" = some ⟨[.int, .int], some .int⟩ := by decide +kernel
theorem pd__40II_41_91I : parseMethodDescriptor "(II)[I" = some ⟨[.int, .int], some (.array .int)⟩ := by decide +kernel
theorem pd__40_91I_91I_41Z : parseMethodDescriptor "([I[I)Z" = some ⟨[(.array .int), (.array .int)], some .boolean⟩ := by decide +kernel
def f_min (p0 : Int32) (p1 : Int32) : Int32 := (if p1 < p0 then p1 else p0)
set_option maxRecDepth 65536 in
theorem c_f_min (l : Launch) (Z : State) (a0 : Array Value) (hw : ∀ d ∈ tables_1, d.before a0 Z = true) (p0 : Int32) (p1 : Int32) (h0 : Heap) (n0 : Nat) : Met1 l Z (⟨"java/lang/Math", "min", "(II)I"⟩ : MethodName) jdk_29_method_69_code 2 (some .int) [] ({ frames := 0, cells := 0, slots := 0, locals := 0 } : Room) #[(.int p0), (.int p1)] h0 n0 (Ret (.int (f_min p0 p1)) h0) := by
  refine met_of_go (Jvm.Free.JP.mathPlain rfl (by decide +kernel)) (fun m => ef_1 m p0 p1) ?_
  intro W hl C
  subst hl
  refine Go.iloadN C d1_0 (q := 1) rfl rfl ?_
  refine Go.iloadN C d1_1 (q := 2) rfl rfl ?_
  refine Go.icmp C d1_2 (n_gt _ _) (qt := 9) (q := 5) (by decide) (by decide) rfl (fun b1 => ?_) (fun b1 => ?_)
  ·
    refine Go.iloadN C d1_9 (q := 10) rfl rfl ?_
    refine Go.retI C d1_10 (by decide) (by decide) ⟨?_, rfl⟩
    refine congrArg (fun z => some (Value.int z)) ?_
    show p1 = f_min p0 p1
    unfold f_min
    rw [if_pos b1]
  ·
    refine Go.iloadN C d1_5 (q := 6) rfl rfl ?_
    refine Go.goto C d1_6 (q := 10) (by decide) (by decide) ?_
    refine Go.retI C d1_10 (by decide) (by decide) ⟨?_, rfl⟩
    refine congrArg (fun z => some (Value.int z)) ?_
    show p0 = f_min p0 p1
    unfold f_min
    rw [if_neg b1]
def f_max (p0 : Int32) (p1 : Int32) : Int32 := (if p0 < p1 then p1 else p0)
set_option maxRecDepth 65536 in
theorem c_f_max (l : Launch) (Z : State) (a0 : Array Value) (hw : ∀ d ∈ tables_1, d.before a0 Z = true) (p0 : Int32) (p1 : Int32) (h0 : Heap) (n0 : Nat) : Met1 l Z (⟨"java/lang/Math", "max", "(II)I"⟩ : MethodName) jdk_29_method_65_code 2 (some .int) [] ({ frames := 0, cells := 0, slots := 0, locals := 0 } : Room) #[(.int p0), (.int p1)] h0 n0 (Ret (.int (f_max p0 p1)) h0) := by
  refine met_of_go (Jvm.Free.JP.mathPlain rfl (by decide +kernel)) (fun m => ef_2 m p0 p1) ?_
  intro W hl C
  subst hl
  refine Go.iloadN C d2_0 (q := 1) rfl rfl ?_
  refine Go.iloadN C d2_1 (q := 2) rfl rfl ?_
  refine Go.icmp C d2_2 (n_lt _ _) (qt := 9) (q := 5) (by decide) (by decide) rfl (fun b1 => ?_) (fun b1 => ?_)
  ·
    refine Go.iloadN C d2_9 (q := 10) rfl rfl ?_
    refine Go.retI C d2_10 (by decide) (by decide) ⟨?_, rfl⟩
    refine congrArg (fun z => some (Value.int z)) ?_
    show p1 = f_max p0 p1
    unfold f_max
    rw [if_pos b1]
  ·
    refine Go.iloadN C d2_5 (q := 6) rfl rfl ?_
    refine Go.goto C d2_6 (q := 10) (by decide) (by decide) ?_
    refine Go.retI C d2_10 (by decide) (by decide) ⟨?_, rfl⟩
    refine congrArg (fun z => some (Value.int z)) ?_
    show p0 = f_max p0 p1
    unfold f_max
    rw [if_neg b1]
def own_sel (b m : Int32) : List Int32 := (if (b &&& (1 : Int32)) = 0 then [] else [(-2147483648 : Int32)]) ++ ((if (b &&& (2 : Int32)) = 0 then [] else [m - 1]) ++ ((if (b &&& (4 : Int32)) = 0 then [] else [m]) ++ ((if (b &&& (8 : Int32)) = 0 then [] else [m + 1]) ++ (if (b &&& (16 : Int32)) = 0 then [] else [(2147483647 : Int32)]))))
def own_at (l : List Int32) : Nat → Int32 := fun i => l.getD i 0
set_option maxRecDepth 65536 in
theorem c_ex0 (l : Launch) (Z : State) (a0 : Array Value) (hw : ∀ d ∈ tables_1, d.before a0 Z = true) (x : Addr) (h0 : Heap) (n0 : Nat) (g : Nat → Int32) (Z0 : n0 ≤ h0.size) (A0 : Av Z h0 x .int 5 (iF g)) : Met1 l Z (⟨"com/example/tolerant_query/tolerantquery/IntSetsContainsAllPinLaw", "exact", "([II)[I"⟩ : MethodName) method_4_code 2 (some (.array .int)) [] ({ frames := 0, cells := 1, slots := 0, locals := 0 } : Room) #[(.ref x), (.int (0 : Int32))] h0 n0 (fun v h => ∃ b : Addr, v = some (.ref b) ∧ Keep h0 h [] ∧ n0 ≤ b ∧ h0.size ≤ b ∧ Av Z h b .int 0 (iF (own_at []))) := by
  refine met_of_go (plainFor_of_name pn_com_example_tolerant_query_tolerantquery_IntSetsContainsAllPinLaw) (fun m => ef_4_l1_0Int32 m x) ?_
  intro W hl C
  subst hl
  refine Go.iloadN C d4_0 (q := 1) rfl rfl ?_
  refine Go.if0 C d4_1 (z_ne _) (qt := 8) (q := 4) (by decide) (by decide) rfl (fun b1 => absurd b1 (by decide)) (fun _ => ?_)
  refine Go.iconst C (0 : Int32) d4_4 (q := 5) rfl rfl ?_
  refine Go.newPE C (hw _ (List.mem_of_getElem? (i := 13) rfl)) (by decide) (cap := 0) (by decide) (by decide) d4_5 (q := 7) rfl (k' := 1) rfl (n' := 0) rfl (by decide) (by decide) (ad := "[I") (by decide) ?_
  intro h2 a3 cA4 g5 E6 Fn7 E9
  have g10 : n0 ≤ a3 := g5 ▸ Z0
  have y11 : h0.size ≤ a3 := g5 ▸ (Nat.le_refl h0.size)
  have ne12 : x ≠ a3 := Nat.ne_of_lt (g5 ▸ A0.lt)
  have F8 : Av Z h2 a3 .int 0 (iF (fun _ => (0 : Int32))) := Av.of Fn7
  refine Go.retR C d4_7 rfl rfl rfl (by decide) (by decide) ⟨a3, rfl, ((Keep.refl h0 []).ext E6), g10, y11, ?_⟩
  exact Av.congr F8 (fun i hi => absurd hi (Nat.not_lt_zero i))
set_option maxRecDepth 65536 in
theorem c_ex1 (l : Launch) (Z : State) (a0 : Array Value) (hw : ∀ d ∈ tables_1, d.before a0 Z = true) (x : Addr) (h0 : Heap) (n0 : Nat) (g : Nat → Int32) (Z0 : n0 ≤ h0.size) (A0 : Av Z h0 x .int 5 (iF g)) : Met1 l Z (⟨"com/example/tolerant_query/tolerantquery/IntSetsContainsAllPinLaw", "exact", "([II)[I"⟩ : MethodName) method_4_code 2 (some (.array .int)) [] ({ frames := 0, cells := 1, slots := 1, locals := 0 } : Room) #[(.ref x), (.int (1 : Int32))] h0 n0 (fun v h => ∃ b : Addr, v = some (.ref b) ∧ Keep h0 h [] ∧ n0 ≤ b ∧ h0.size ≤ b ∧ Av Z h b .int 1 (iF (own_at [g 0]))) := by
  refine met_of_go (plainFor_of_name pn_com_example_tolerant_query_tolerantquery_IntSetsContainsAllPinLaw) (fun m => ef_4_l1_1Int32 m x) ?_
  intro W hl C
  subst hl
  refine Go.iloadN C d4_0 (q := 1) rfl rfl ?_
  refine Go.if0 C d4_1 (z_ne _) (qt := 8) (q := 4) (by decide) (by decide) rfl (fun _ => ?_) (fun b1 => absurd b1 (by decide))
  refine Go.iloadN C d4_8 (q := 9) rfl rfl ?_
  refine Go.iconst C (1 : Int32) d4_9 (q := 10) rfl rfl ?_
  refine Go.icmp C d4_10 (n_ne _ _) (qt := 23) (q := 13) (by decide) (by decide) rfl (fun b2 => absurd b2 (by decide)) (fun _ => ?_)
  refine Go.iconst C (1 : Int32) d4_13 (q := 14) rfl rfl ?_
  refine Go.newPE C (hw _ (List.mem_of_getElem? (i := 13) rfl)) (by decide) (cap := 1) (by decide) (by decide) d4_14 (q := 16) rfl (k' := 1) rfl (n' := 1) rfl (by decide) (by decide) (ad := "[I") (by decide) ?_
  intro h3 a4 cA5 g6 E7 Fn8 E10
  have g11 : n0 ≤ a4 := g6 ▸ Z0
  have y12 : h0.size ≤ a4 := g6 ▸ (Nat.le_refl h0.size)
  have ne13 : x ≠ a4 := Nat.ne_of_lt (g6 ▸ A0.lt)
  have F9 : Av Z h3 a4 .int 1 (iF (fun _ => (0 : Int32))) := Av.of Fn8
  refine Go.dup C d4_16 (q := 17) rfl rfl ?_
  refine Go.iconst C (0 : Int32) d4_17 (q := 18) rfl rfl ?_
  refine Go.aloadN C d4_18 (q := 19) rfl rfl rfl ?_
  refine Go.iconst C (0 : Int32) d4_19 (q := 20) rfl rfl ?_
  have F14 := (A0.ext E7)
  refine Go.iaload C F14 0 (v := (.int (g 0))) (by decide) (by decide) (by decide) rfl d4_20 (q := 21) rfl ?_
  refine Go.iastore C F9 0 (by decide) (by decide) (by decide) g11 d4_21 (q := 22) rfl ?_
  intro h15 W16
  have F17 := F9.sameI W16
  refine Go.retR C d4_22 rfl rfl rfl (by decide) (by decide) ⟨a4, rfl, (((Keep.refl h0 []).ext E7).wr W16 (Or.inr y12)), g11, y12, ?_⟩
  exact Av.congr F17 (fun i hi => by
      have h : i = 0 := by omega
      rcases h with rfl <;> rfl)
set_option maxRecDepth 65536 in
theorem c_ex2 (l : Launch) (Z : State) (a0 : Array Value) (hw : ∀ d ∈ tables_1, d.before a0 Z = true) (x : Addr) (h0 : Heap) (n0 : Nat) (g : Nat → Int32) (Z0 : n0 ≤ h0.size) (A0 : Av Z h0 x .int 5 (iF g)) : Met1 l Z (⟨"com/example/tolerant_query/tolerantquery/IntSetsContainsAllPinLaw", "exact", "([II)[I"⟩ : MethodName) method_4_code 2 (some (.array .int)) [] ({ frames := 0, cells := 1, slots := 2, locals := 0 } : Room) #[(.ref x), (.int (2 : Int32))] h0 n0 (fun v h => ∃ b : Addr, v = some (.ref b) ∧ Keep h0 h [] ∧ n0 ≤ b ∧ h0.size ≤ b ∧ Av Z h b .int 2 (iF (own_at [g 0, g 1]))) := by
  refine met_of_go (plainFor_of_name pn_com_example_tolerant_query_tolerantquery_IntSetsContainsAllPinLaw) (fun m => ef_4_l1_2Int32 m x) ?_
  intro W hl C
  subst hl
  refine Go.iloadN C d4_0 (q := 1) rfl rfl ?_
  refine Go.if0 C d4_1 (z_ne _) (qt := 8) (q := 4) (by decide) (by decide) rfl (fun _ => ?_) (fun b1 => absurd b1 (by decide))
  refine Go.iloadN C d4_8 (q := 9) rfl rfl ?_
  refine Go.iconst C (1 : Int32) d4_9 (q := 10) rfl rfl ?_
  refine Go.icmp C d4_10 (n_ne _ _) (qt := 23) (q := 13) (by decide) (by decide) rfl (fun _ => ?_) (fun b2 => absurd b2 (by decide))
  refine Go.iloadN C d4_23 (q := 24) rfl rfl ?_
  refine Go.iconst C (2 : Int32) d4_24 (q := 25) rfl rfl ?_
  refine Go.icmp C d4_25 (n_ne _ _) (qt := 44) (q := 28) (by decide) (by decide) rfl (fun b3 => absurd b3 (by decide)) (fun _ => ?_)
  refine Go.iconst C (2 : Int32) d4_28 (q := 29) rfl rfl ?_
  refine Go.newPE C (hw _ (List.mem_of_getElem? (i := 13) rfl)) (by decide) (cap := 2) (by decide) (by decide) d4_29 (q := 31) rfl (k' := 1) rfl (n' := 2) rfl (by decide) (by decide) (ad := "[I") (by decide) ?_
  intro h4 a5 cA6 g7 E8 Fn9 E11
  have g12 : n0 ≤ a5 := g7 ▸ Z0
  have y13 : h0.size ≤ a5 := g7 ▸ (Nat.le_refl h0.size)
  have ne14 : x ≠ a5 := Nat.ne_of_lt (g7 ▸ A0.lt)
  have F10 : Av Z h4 a5 .int 2 (iF (fun _ => (0 : Int32))) := Av.of Fn9
  refine Go.dup C d4_31 (q := 32) rfl rfl ?_
  refine Go.iconst C (0 : Int32) d4_32 (q := 33) rfl rfl ?_
  refine Go.aloadN C d4_33 (q := 34) rfl rfl rfl ?_
  refine Go.iconst C (0 : Int32) d4_34 (q := 35) rfl rfl ?_
  have F15 := (A0.ext E8)
  refine Go.iaload C F15 0 (v := (.int (g 0))) (by decide) (by decide) (by decide) rfl d4_35 (q := 36) rfl ?_
  refine Go.iastore C F10 0 (by decide) (by decide) (by decide) g12 d4_36 (q := 37) rfl ?_
  intro h16 W17
  have F18 := F10.sameI W17
  refine Go.dup C d4_37 (q := 38) rfl rfl ?_
  refine Go.iconst C (1 : Int32) d4_38 (q := 39) rfl rfl ?_
  refine Go.aloadN C d4_39 (q := 40) rfl rfl rfl ?_
  refine Go.iconst C (1 : Int32) d4_40 (q := 41) rfl rfl ?_
  have F19 := (F15.other W17 ne14)
  refine Go.iaload C F19 1 (v := (.int (g 1))) (by decide) (by decide) (by decide) rfl d4_41 (q := 42) rfl ?_
  refine Go.iastore C F18 1 (by decide) (by decide) (by decide) g12 d4_42 (q := 43) rfl ?_
  intro h20 W21
  have F22 := F18.sameI W21
  refine Go.retR C d4_43 rfl rfl rfl (by decide) (by decide) ⟨a5, rfl, ((((Keep.refl h0 []).ext E8).wr W17 (Or.inr y13)).wr W21 (Or.inr y13)), g12, y13, ?_⟩
  exact Av.congr F22 (fun i hi => by
      have h : i = 0 ∨ i = 1 := by omega
      rcases h with rfl | rfl <;> rfl)
set_option maxRecDepth 65536 in
theorem c_ex3 (l : Launch) (Z : State) (a0 : Array Value) (hw : ∀ d ∈ tables_1, d.before a0 Z = true) (x : Addr) (h0 : Heap) (n0 : Nat) (g : Nat → Int32) (Z0 : n0 ≤ h0.size) (A0 : Av Z h0 x .int 5 (iF g)) : Met1 l Z (⟨"com/example/tolerant_query/tolerantquery/IntSetsContainsAllPinLaw", "exact", "([II)[I"⟩ : MethodName) method_4_code 2 (some (.array .int)) [] ({ frames := 0, cells := 1, slots := 3, locals := 0 } : Room) #[(.ref x), (.int (3 : Int32))] h0 n0 (fun v h => ∃ b : Addr, v = some (.ref b) ∧ Keep h0 h [] ∧ n0 ≤ b ∧ h0.size ≤ b ∧ Av Z h b .int 3 (iF (own_at [g 0, g 1, g 2]))) := by
  refine met_of_go (plainFor_of_name pn_com_example_tolerant_query_tolerantquery_IntSetsContainsAllPinLaw) (fun m => ef_4_l1_3Int32 m x) ?_
  intro W hl C
  subst hl
  refine Go.iloadN C d4_0 (q := 1) rfl rfl ?_
  refine Go.if0 C d4_1 (z_ne _) (qt := 8) (q := 4) (by decide) (by decide) rfl (fun _ => ?_) (fun b1 => absurd b1 (by decide))
  refine Go.iloadN C d4_8 (q := 9) rfl rfl ?_
  refine Go.iconst C (1 : Int32) d4_9 (q := 10) rfl rfl ?_
  refine Go.icmp C d4_10 (n_ne _ _) (qt := 23) (q := 13) (by decide) (by decide) rfl (fun _ => ?_) (fun b2 => absurd b2 (by decide))
  refine Go.iloadN C d4_23 (q := 24) rfl rfl ?_
  refine Go.iconst C (2 : Int32) d4_24 (q := 25) rfl rfl ?_
  refine Go.icmp C d4_25 (n_ne _ _) (qt := 44) (q := 28) (by decide) (by decide) rfl (fun _ => ?_) (fun b3 => absurd b3 (by decide))
  refine Go.iloadN C d4_44 (q := 45) rfl rfl ?_
  refine Go.iconst C (3 : Int32) d4_45 (q := 46) rfl rfl ?_
  refine Go.icmp C d4_46 (n_ne _ _) (qt := 71) (q := 49) (by decide) (by decide) rfl (fun b4 => absurd b4 (by decide)) (fun _ => ?_)
  refine Go.iconst C (3 : Int32) d4_49 (q := 50) rfl rfl ?_
  refine Go.newPE C (hw _ (List.mem_of_getElem? (i := 13) rfl)) (by decide) (cap := 3) (by decide) (by decide) d4_50 (q := 52) rfl (k' := 1) rfl (n' := 3) rfl (by decide) (by decide) (ad := "[I") (by decide) ?_
  intro h5 a6 cA7 g8 E9 Fn10 E12
  have g13 : n0 ≤ a6 := g8 ▸ Z0
  have y14 : h0.size ≤ a6 := g8 ▸ (Nat.le_refl h0.size)
  have ne15 : x ≠ a6 := Nat.ne_of_lt (g8 ▸ A0.lt)
  have F11 : Av Z h5 a6 .int 3 (iF (fun _ => (0 : Int32))) := Av.of Fn10
  refine Go.dup C d4_52 (q := 53) rfl rfl ?_
  refine Go.iconst C (0 : Int32) d4_53 (q := 54) rfl rfl ?_
  refine Go.aloadN C d4_54 (q := 55) rfl rfl rfl ?_
  refine Go.iconst C (0 : Int32) d4_55 (q := 56) rfl rfl ?_
  have F16 := (A0.ext E9)
  refine Go.iaload C F16 0 (v := (.int (g 0))) (by decide) (by decide) (by decide) rfl d4_56 (q := 57) rfl ?_
  refine Go.iastore C F11 0 (by decide) (by decide) (by decide) g13 d4_57 (q := 58) rfl ?_
  intro h17 W18
  have F19 := F11.sameI W18
  refine Go.dup C d4_58 (q := 59) rfl rfl ?_
  refine Go.iconst C (1 : Int32) d4_59 (q := 60) rfl rfl ?_
  refine Go.aloadN C d4_60 (q := 61) rfl rfl rfl ?_
  refine Go.iconst C (1 : Int32) d4_61 (q := 62) rfl rfl ?_
  have F20 := (F16.other W18 ne15)
  refine Go.iaload C F20 1 (v := (.int (g 1))) (by decide) (by decide) (by decide) rfl d4_62 (q := 63) rfl ?_
  refine Go.iastore C F19 1 (by decide) (by decide) (by decide) g13 d4_63 (q := 64) rfl ?_
  intro h21 W22
  have F23 := F19.sameI W22
  refine Go.dup C d4_64 (q := 65) rfl rfl ?_
  refine Go.iconst C (2 : Int32) d4_65 (q := 66) rfl rfl ?_
  refine Go.aloadN C d4_66 (q := 67) rfl rfl rfl ?_
  refine Go.iconst C (2 : Int32) d4_67 (q := 68) rfl rfl ?_
  have F24 := (F20.other W22 ne15)
  refine Go.iaload C F24 2 (v := (.int (g 2))) (by decide) (by decide) (by decide) rfl d4_68 (q := 69) rfl ?_
  refine Go.iastore C F23 2 (by decide) (by decide) (by decide) g13 d4_69 (q := 70) rfl ?_
  intro h25 W26
  have F27 := F23.sameI W26
  refine Go.retR C d4_70 rfl rfl rfl (by decide) (by decide) ⟨a6, rfl, (((((Keep.refl h0 []).ext E9).wr W18 (Or.inr y14)).wr W22 (Or.inr y14)).wr W26 (Or.inr y14)), g13, y14, ?_⟩
  exact Av.congr F27 (fun i hi => by
      have h : i = 0 ∨ i = 1 ∨ i = 2 := by omega
      rcases h with rfl | rfl | rfl <;> rfl)
set_option maxRecDepth 65536 in
theorem c_ex4 (l : Launch) (Z : State) (a0 : Array Value) (hw : ∀ d ∈ tables_1, d.before a0 Z = true) (x : Addr) (h0 : Heap) (n0 : Nat) (g : Nat → Int32) (Z0 : n0 ≤ h0.size) (A0 : Av Z h0 x .int 5 (iF g)) : Met1 l Z (⟨"com/example/tolerant_query/tolerantquery/IntSetsContainsAllPinLaw", "exact", "([II)[I"⟩ : MethodName) method_4_code 2 (some (.array .int)) [] ({ frames := 0, cells := 1, slots := 4, locals := 0 } : Room) #[(.ref x), (.int (4 : Int32))] h0 n0 (fun v h => ∃ b : Addr, v = some (.ref b) ∧ Keep h0 h [] ∧ n0 ≤ b ∧ h0.size ≤ b ∧ Av Z h b .int 4 (iF (own_at [g 0, g 1, g 2, g 3]))) := by
  refine met_of_go (plainFor_of_name pn_com_example_tolerant_query_tolerantquery_IntSetsContainsAllPinLaw) (fun m => ef_4_l1_4Int32 m x) ?_
  intro W hl C
  subst hl
  refine Go.iloadN C d4_0 (q := 1) rfl rfl ?_
  refine Go.if0 C d4_1 (z_ne _) (qt := 8) (q := 4) (by decide) (by decide) rfl (fun _ => ?_) (fun b1 => absurd b1 (by decide))
  refine Go.iloadN C d4_8 (q := 9) rfl rfl ?_
  refine Go.iconst C (1 : Int32) d4_9 (q := 10) rfl rfl ?_
  refine Go.icmp C d4_10 (n_ne _ _) (qt := 23) (q := 13) (by decide) (by decide) rfl (fun _ => ?_) (fun b2 => absurd b2 (by decide))
  refine Go.iloadN C d4_23 (q := 24) rfl rfl ?_
  refine Go.iconst C (2 : Int32) d4_24 (q := 25) rfl rfl ?_
  refine Go.icmp C d4_25 (n_ne _ _) (qt := 44) (q := 28) (by decide) (by decide) rfl (fun _ => ?_) (fun b3 => absurd b3 (by decide))
  refine Go.iloadN C d4_44 (q := 45) rfl rfl ?_
  refine Go.iconst C (3 : Int32) d4_45 (q := 46) rfl rfl ?_
  refine Go.icmp C d4_46 (n_ne _ _) (qt := 71) (q := 49) (by decide) (by decide) rfl (fun _ => ?_) (fun b4 => absurd b4 (by decide))
  refine Go.iloadN C d4_71 (q := 72) rfl rfl ?_
  refine Go.iconst C (4 : Int32) d4_72 (q := 73) rfl rfl ?_
  refine Go.icmp C d4_73 (n_ne _ _) (qt := 104) (q := 76) (by decide) (by decide) rfl (fun b5 => absurd b5 (by decide)) (fun _ => ?_)
  refine Go.iconst C (4 : Int32) d4_76 (q := 77) rfl rfl ?_
  refine Go.newPE C (hw _ (List.mem_of_getElem? (i := 13) rfl)) (by decide) (cap := 4) (by decide) (by decide) d4_77 (q := 79) rfl (k' := 1) rfl (n' := 4) rfl (by decide) (by decide) (ad := "[I") (by decide) ?_
  intro h6 a7 cA8 g9 E10 Fn11 E13
  have g14 : n0 ≤ a7 := g9 ▸ Z0
  have y15 : h0.size ≤ a7 := g9 ▸ (Nat.le_refl h0.size)
  have ne16 : x ≠ a7 := Nat.ne_of_lt (g9 ▸ A0.lt)
  have F12 : Av Z h6 a7 .int 4 (iF (fun _ => (0 : Int32))) := Av.of Fn11
  refine Go.dup C d4_79 (q := 80) rfl rfl ?_
  refine Go.iconst C (0 : Int32) d4_80 (q := 81) rfl rfl ?_
  refine Go.aloadN C d4_81 (q := 82) rfl rfl rfl ?_
  refine Go.iconst C (0 : Int32) d4_82 (q := 83) rfl rfl ?_
  have F17 := (A0.ext E10)
  refine Go.iaload C F17 0 (v := (.int (g 0))) (by decide) (by decide) (by decide) rfl d4_83 (q := 84) rfl ?_
  refine Go.iastore C F12 0 (by decide) (by decide) (by decide) g14 d4_84 (q := 85) rfl ?_
  intro h18 W19
  have F20 := F12.sameI W19
  refine Go.dup C d4_85 (q := 86) rfl rfl ?_
  refine Go.iconst C (1 : Int32) d4_86 (q := 87) rfl rfl ?_
  refine Go.aloadN C d4_87 (q := 88) rfl rfl rfl ?_
  refine Go.iconst C (1 : Int32) d4_88 (q := 89) rfl rfl ?_
  have F21 := (F17.other W19 ne16)
  refine Go.iaload C F21 1 (v := (.int (g 1))) (by decide) (by decide) (by decide) rfl d4_89 (q := 90) rfl ?_
  refine Go.iastore C F20 1 (by decide) (by decide) (by decide) g14 d4_90 (q := 91) rfl ?_
  intro h22 W23
  have F24 := F20.sameI W23
  refine Go.dup C d4_91 (q := 92) rfl rfl ?_
  refine Go.iconst C (2 : Int32) d4_92 (q := 93) rfl rfl ?_
  refine Go.aloadN C d4_93 (q := 94) rfl rfl rfl ?_
  refine Go.iconst C (2 : Int32) d4_94 (q := 95) rfl rfl ?_
  have F25 := (F21.other W23 ne16)
  refine Go.iaload C F25 2 (v := (.int (g 2))) (by decide) (by decide) (by decide) rfl d4_95 (q := 96) rfl ?_
  refine Go.iastore C F24 2 (by decide) (by decide) (by decide) g14 d4_96 (q := 97) rfl ?_
  intro h26 W27
  have F28 := F24.sameI W27
  refine Go.dup C d4_97 (q := 98) rfl rfl ?_
  refine Go.iconst C (3 : Int32) d4_98 (q := 99) rfl rfl ?_
  refine Go.aloadN C d4_99 (q := 100) rfl rfl rfl ?_
  refine Go.iconst C (3 : Int32) d4_100 (q := 101) rfl rfl ?_
  have F29 := (F25.other W27 ne16)
  refine Go.iaload C F29 3 (v := (.int (g 3))) (by decide) (by decide) (by decide) rfl d4_101 (q := 102) rfl ?_
  refine Go.iastore C F28 3 (by decide) (by decide) (by decide) g14 d4_102 (q := 103) rfl ?_
  intro h30 W31
  have F32 := F28.sameI W31
  refine Go.retR C d4_103 rfl rfl rfl (by decide) (by decide) ⟨a7, rfl, ((((((Keep.refl h0 []).ext E10).wr W19 (Or.inr y15)).wr W23 (Or.inr y15)).wr W27 (Or.inr y15)).wr W31 (Or.inr y15)), g14, y15, ?_⟩
  exact Av.congr F32 (fun i hi => by
      have h : i = 0 ∨ i = 1 ∨ i = 2 ∨ i = 3 := by omega
      rcases h with rfl | rfl | rfl | rfl <;> rfl)
set_option maxRecDepth 65536 in
theorem c_ex5 (l : Launch) (Z : State) (a0 : Array Value) (hw : ∀ d ∈ tables_1, d.before a0 Z = true) (x : Addr) (h0 : Heap) (n0 : Nat) (g : Nat → Int32) (Z0 : n0 ≤ h0.size) (A0 : Av Z h0 x .int 5 (iF g)) : Met1 l Z (⟨"com/example/tolerant_query/tolerantquery/IntSetsContainsAllPinLaw", "exact", "([II)[I"⟩ : MethodName) method_4_code 2 (some (.array .int)) [] ({ frames := 0, cells := 1, slots := 5, locals := 0 } : Room) #[(.ref x), (.int (5 : Int32))] h0 n0 (fun v h => ∃ b : Addr, v = some (.ref b) ∧ Keep h0 h [] ∧ n0 ≤ b ∧ h0.size ≤ b ∧ Av Z h b .int 5 (iF (own_at [g 0, g 1, g 2, g 3, g 4]))) := by
  refine met_of_go (plainFor_of_name pn_com_example_tolerant_query_tolerantquery_IntSetsContainsAllPinLaw) (fun m => ef_4_l1_5Int32 m x) ?_
  intro W hl C
  subst hl
  refine Go.iloadN C d4_0 (q := 1) rfl rfl ?_
  refine Go.if0 C d4_1 (z_ne _) (qt := 8) (q := 4) (by decide) (by decide) rfl (fun _ => ?_) (fun b1 => absurd b1 (by decide))
  refine Go.iloadN C d4_8 (q := 9) rfl rfl ?_
  refine Go.iconst C (1 : Int32) d4_9 (q := 10) rfl rfl ?_
  refine Go.icmp C d4_10 (n_ne _ _) (qt := 23) (q := 13) (by decide) (by decide) rfl (fun _ => ?_) (fun b2 => absurd b2 (by decide))
  refine Go.iloadN C d4_23 (q := 24) rfl rfl ?_
  refine Go.iconst C (2 : Int32) d4_24 (q := 25) rfl rfl ?_
  refine Go.icmp C d4_25 (n_ne _ _) (qt := 44) (q := 28) (by decide) (by decide) rfl (fun _ => ?_) (fun b3 => absurd b3 (by decide))
  refine Go.iloadN C d4_44 (q := 45) rfl rfl ?_
  refine Go.iconst C (3 : Int32) d4_45 (q := 46) rfl rfl ?_
  refine Go.icmp C d4_46 (n_ne _ _) (qt := 71) (q := 49) (by decide) (by decide) rfl (fun _ => ?_) (fun b4 => absurd b4 (by decide))
  refine Go.iloadN C d4_71 (q := 72) rfl rfl ?_
  refine Go.iconst C (4 : Int32) d4_72 (q := 73) rfl rfl ?_
  refine Go.icmp C d4_73 (n_ne _ _) (qt := 104) (q := 76) (by decide) (by decide) rfl (fun _ => ?_) (fun b5 => absurd b5 (by decide))
  refine Go.iconst C (5 : Int32) d4_104 (q := 105) rfl rfl ?_
  refine Go.newPE C (hw _ (List.mem_of_getElem? (i := 13) rfl)) (by decide) (cap := 5) (by decide) (by decide) d4_105 (q := 107) rfl (k' := 1) rfl (n' := 5) rfl (by decide) (by decide) (ad := "[I") (by decide) ?_
  intro h6 a7 cA8 g9 E10 Fn11 E13
  have g14 : n0 ≤ a7 := g9 ▸ Z0
  have y15 : h0.size ≤ a7 := g9 ▸ (Nat.le_refl h0.size)
  have ne16 : x ≠ a7 := Nat.ne_of_lt (g9 ▸ A0.lt)
  have F12 : Av Z h6 a7 .int 5 (iF (fun _ => (0 : Int32))) := Av.of Fn11
  refine Go.dup C d4_107 (q := 108) rfl rfl ?_
  refine Go.iconst C (0 : Int32) d4_108 (q := 109) rfl rfl ?_
  refine Go.aloadN C d4_109 (q := 110) rfl rfl rfl ?_
  refine Go.iconst C (0 : Int32) d4_110 (q := 111) rfl rfl ?_
  have F17 := (A0.ext E10)
  refine Go.iaload C F17 0 (v := (.int (g 0))) (by decide) (by decide) (by decide) rfl d4_111 (q := 112) rfl ?_
  refine Go.iastore C F12 0 (by decide) (by decide) (by decide) g14 d4_112 (q := 113) rfl ?_
  intro h18 W19
  have F20 := F12.sameI W19
  refine Go.dup C d4_113 (q := 114) rfl rfl ?_
  refine Go.iconst C (1 : Int32) d4_114 (q := 115) rfl rfl ?_
  refine Go.aloadN C d4_115 (q := 116) rfl rfl rfl ?_
  refine Go.iconst C (1 : Int32) d4_116 (q := 117) rfl rfl ?_
  have F21 := (F17.other W19 ne16)
  refine Go.iaload C F21 1 (v := (.int (g 1))) (by decide) (by decide) (by decide) rfl d4_117 (q := 118) rfl ?_
  refine Go.iastore C F20 1 (by decide) (by decide) (by decide) g14 d4_118 (q := 119) rfl ?_
  intro h22 W23
  have F24 := F20.sameI W23
  refine Go.dup C d4_119 (q := 120) rfl rfl ?_
  refine Go.iconst C (2 : Int32) d4_120 (q := 121) rfl rfl ?_
  refine Go.aloadN C d4_121 (q := 122) rfl rfl rfl ?_
  refine Go.iconst C (2 : Int32) d4_122 (q := 123) rfl rfl ?_
  have F25 := (F21.other W23 ne16)
  refine Go.iaload C F25 2 (v := (.int (g 2))) (by decide) (by decide) (by decide) rfl d4_123 (q := 124) rfl ?_
  refine Go.iastore C F24 2 (by decide) (by decide) (by decide) g14 d4_124 (q := 125) rfl ?_
  intro h26 W27
  have F28 := F24.sameI W27
  refine Go.dup C d4_125 (q := 126) rfl rfl ?_
  refine Go.iconst C (3 : Int32) d4_126 (q := 127) rfl rfl ?_
  refine Go.aloadN C d4_127 (q := 128) rfl rfl rfl ?_
  refine Go.iconst C (3 : Int32) d4_128 (q := 129) rfl rfl ?_
  have F29 := (F25.other W27 ne16)
  refine Go.iaload C F29 3 (v := (.int (g 3))) (by decide) (by decide) (by decide) rfl d4_129 (q := 130) rfl ?_
  refine Go.iastore C F28 3 (by decide) (by decide) (by decide) g14 d4_130 (q := 131) rfl ?_
  intro h30 W31
  have F32 := F28.sameI W31
  refine Go.dup C d4_131 (q := 132) rfl rfl ?_
  refine Go.iconst C (4 : Int32) d4_132 (q := 133) rfl rfl ?_
  refine Go.aloadN C d4_133 (q := 134) rfl rfl rfl ?_
  refine Go.iconst C (4 : Int32) d4_134 (q := 135) rfl rfl ?_
  have F33 := (F29.other W31 ne16)
  refine Go.iaload C F33 4 (v := (.int (g 4))) (by decide) (by decide) (by decide) rfl d4_135 (q := 136) rfl ?_
  refine Go.iastore C F32 4 (by decide) (by decide) (by decide) g14 d4_136 (q := 137) rfl ?_
  intro h34 W35
  have F36 := F32.sameI W35
  refine Go.retR C d4_137 rfl rfl rfl (by decide) (by decide) ⟨a7, rfl, (((((((Keep.refl h0 []).ext E10).wr W19 (Or.inr y15)).wr W23 (Or.inr y15)).wr W27 (Or.inr y15)).wr W31 (Or.inr y15)).wr W35 (Or.inr y15)), g14, y15, ?_⟩
  exact Av.congr F36 (fun i hi => by
      have h : i = 0 ∨ i = 1 ∨ i = 2 ∨ i = 3 ∨ i = 4 := by omega
      rcases h with rfl | rfl | rfl | rfl | rfl <;> rfl)
set_option maxRecDepth 65536 in
set_option maxHeartbeats 4000000 in
theorem c_build (l : Launch) (Z : State) (a0 : Array Value) (hw : ∀ d ∈ tables_1, d.before a0 Z = true) (b : Int32) (md : Int32) (h0 : Heap) (n0 : Nat)  (Z0 : n0 ≤ h0.size)  : Met1 l Z (⟨"com/example/tolerant_query/tolerantquery/IntSetsContainsAllPinLaw", "build", "(II)[I"⟩ : MethodName) method_3_code 4 (some (.array .int)) [] ({ frames := 1, cells := 2, slots := 10, locals := 13 } : Room) #[(.int b), (.int md)] h0 n0 (fun v h => ∃ a : Addr, v = some (.ref a) ∧ Keep h0 h [] ∧ n0 ≤ a ∧ h0.size ≤ a ∧ Av Z h a .int (own_sel b md).length (iF (own_at (own_sel b md)))) := by
  refine met_of_go (plainFor_of_name pn_com_example_tolerant_query_tolerantquery_IntSetsContainsAllPinLaw) (fun m => ef_3 m b md) ?_
  intro W hl C
  subst hl
  refine Go.iconst C (5 : Int32) d3_0 (q := 1) rfl rfl ?_
  refine Go.newPE C (hw _ (List.mem_of_getElem? (i := 13) rfl)) (by decide) (cap := 5) (by decide) (by decide) d3_1 (q := 3) rfl (k' := 1) rfl (n' := 5) rfl (by decide) (by decide) (ad := "[I") (by decide) ?_
  intro h1 a2 cA3 g4 E5 Fn6 E8
  have g9 : n0 ≤ a2 := g4 ▸ Z0
  have y10 : h0.size ≤ a2 := g4 ▸ (Nat.le_refl h0.size)
  have F7 : Av Z h1 a2 .int 5 (iF (fun _ => (0 : Int32))) := Av.of Fn6
  refine Go.astoreN C d3_3 (q := 4) rfl (l' := #[.val (.int b), .val (.int md), .val (.ref a2), .unset]) rfl rfl ?_
  refine Go.iconst C (0 : Int32) d3_4 (q := 5) rfl rfl ?_
  refine Go.istoreNR C d3_5 (q := 6) rfl (l' := #[.val (.int b), .val (.int md), .val (.ref a2), .val (.int (0 : Int32))]) rfl ?_
  refine Go.iloadN C d3_6 (q := 7) rfl rfl ?_
  refine Go.iconst C (1 : Int32) d3_7 (q := 8) rfl rfl ?_
  refine Go.iand C d3_8 (q := 9) rfl ?_
  refine Go.if0 C d3_9 (z_eq _) (qt := 20) (q := 12) (by decide) (by decide) rfl (fun b11 => ?_) (fun b11 => ?_)
  ·
    refine Go.iloadN C d3_20 (q := 21) rfl rfl ?_
    refine Go.iconst C (2 : Int32) d3_21 (q := 22) rfl rfl ?_
    refine Go.iand C d3_22 (q := 23) rfl ?_
    refine Go.if0 C d3_23 (z_eq _) (qt := 35) (q := 26) (by decide) (by decide) rfl (fun b12 => ?_) (fun b12 => ?_)
    ·
      refine Go.iloadN C d3_35 (q := 36) rfl rfl ?_
      refine Go.iconst C (4 : Int32) d3_36 (q := 37) rfl rfl ?_
      refine Go.iand C d3_37 (q := 38) rfl ?_
      refine Go.if0 C d3_38 (z_eq _) (qt := 48) (q := 41) (by decide) (by decide) rfl (fun b13 => ?_) (fun b13 => ?_)
      ·
        refine Go.iloadN C d3_48 (q := 49) rfl rfl ?_
        refine Go.bipush C (8 : Int32) d3_49 (q := 51) rfl rfl ?_
        refine Go.iand C d3_51 (q := 52) rfl ?_
        refine Go.if0 C d3_52 (z_eq _) (qt := 64) (q := 55) (by decide) (by decide) rfl (fun b14 => ?_) (fun b14 => ?_)
        ·
          refine Go.iloadN C d3_64 (q := 65) rfl rfl ?_
          refine Go.bipush C (16 : Int32) d3_65 (q := 67) rfl rfl ?_
          refine Go.iand C d3_67 (q := 68) rfl ?_
          refine Go.if0 C d3_68 (z_eq _) (qt := 79) (q := 71) (by decide) (by decide) rfl (fun b15 => ?_) (fun b15 => ?_)
          ·
            refine Go.aloadN C d3_79 (q := 80) rfl rfl rfl ?_
            refine Go.iloadN C d3_80 (q := 81) rfl rfl ?_
            have F16 := (Nat.le_trans Z0 E5.1)
            refine Go.callS C (hw _ (List.mem_of_getElem? (i := 14) rfl)) (hw _ (List.mem_of_getElem? (i := 15) rfl)) (hw _ (List.mem_of_getElem? (i := 11) rfl)) (hw _ (List.mem_of_getElem? (i := 16) rfl)) (c_ex0 W.l Z a0 hw a2 h1 n0 (fun _ => (0 : Int32)) F16 F7) d3_81 pd__40_91II_41_91I (q := 84) rfl rfl (argsL := [(.ref a2), (.int (0 : Int32))]) (st := []) rfl rfl (w := 0) rfl (by decide) (by decide) (k' := 2) rfl (n' := 5) rfl (by decide) (by decide) ?_
            intro v h17 q
            obtain ⟨a18, rfl, K19, g20, y21, F22⟩ := q
            have F23 := (Nat.le_trans (Nat.le_refl h0.size) E5.1)
            have y_a18 : h0.size ≤ a18 := Nat.le_trans F23 y21
            have ne24 : a2 ≠ a18 := Nat.ne_of_lt (Nat.lt_of_lt_of_le F7.lt y21)
            show Go W n0 (fun v h => ∃ a : Addr, v = some (.ref a) ∧ Keep h0 h [] ∧ n0 ≤ a ∧ h0.size ≤ a ∧ Av Z h a .int (own_sel b md).length (iF (own_at (own_sel b md)))) h17 2 5 84 #[.val (.int b), .val (.int md), .val (.ref a2), .val (.int (0 : Int32))] [(.ref a18)]
            have hsel : own_sel b md = [] := by unfold own_sel; rw [if_pos b11, if_pos b12, if_pos b13, if_pos b14, if_pos b15]; rfl
            refine Go.retR C d3_84 rfl rfl rfl (by decide) (by decide) ⟨a18, rfl, (((Keep.refl h0 []).ext E5).trans K19 all0), g20, y_a18, ?_⟩
            rw [hsel]
            exact F22
          ·
            refine Go.aloadN C d3_71 (q := 72) rfl rfl rfl ?_
            refine Go.iloadN C d3_72 (q := 73) rfl rfl ?_
            refine Go.ldcI C (hw _ (List.mem_of_getElem? (i := 22) rfl)) d3_73 (q := 75) rfl ?_
            refine Go.iastore C F7 0 (by decide) (by decide) (by decide) g9 d3_75 (q := 76) rfl ?_
            intro h25 W26
            have F27 := F7.sameI W26
            refine Go.iincR C d3_76 (q := 79) rfl rfl (l' := #[.val (.int b), .val (.int md), .val (.ref a2), .val (.int (1 : Int32))]) rfl ?_
            refine Go.aloadN C d3_79 (q := 80) rfl rfl rfl ?_
            refine Go.iloadN C d3_80 (q := 81) rfl rfl ?_
            have F28 := (Nat.le_trans (Nat.le_trans Z0 E5.1) (Nat.le_of_eq W26.size.symm))
            refine Go.callS C (hw _ (List.mem_of_getElem? (i := 14) rfl)) (hw _ (List.mem_of_getElem? (i := 15) rfl)) (hw _ (List.mem_of_getElem? (i := 11) rfl)) (hw _ (List.mem_of_getElem? (i := 16) rfl)) (c_ex1 W.l Z a0 hw a2 h25 n0 (upd (fun _ => (0 : Int32)) 0 (2147483647 : Int32)) F28 F27) d3_81 pd__40_91II_41_91I (q := 84) rfl rfl (argsL := [(.ref a2), (.int (1 : Int32))]) (st := []) rfl rfl (w := 0) rfl (by decide) (by decide) (k' := 2) rfl (n' := 6) rfl (by decide) (by decide) ?_
            intro v h29 q
            obtain ⟨a30, rfl, K31, g32, y33, F34⟩ := q
            have F35 := (Nat.le_trans (Nat.le_trans (Nat.le_refl h0.size) E5.1) (Nat.le_of_eq W26.size.symm))
            have y_a30 : h0.size ≤ a30 := Nat.le_trans F35 y33
            have ne36 : a2 ≠ a30 := Nat.ne_of_lt (Nat.lt_of_lt_of_le F27.lt y33)
            show Go W n0 (fun v h => ∃ a : Addr, v = some (.ref a) ∧ Keep h0 h [] ∧ n0 ≤ a ∧ h0.size ≤ a ∧ Av Z h a .int (own_sel b md).length (iF (own_at (own_sel b md)))) h29 2 6 84 #[.val (.int b), .val (.int md), .val (.ref a2), .val (.int (1 : Int32))] [(.ref a30)]
            have hsel : own_sel b md = [(2147483647 : Int32)] := by unfold own_sel; rw [if_pos b11, if_pos b12, if_pos b13, if_pos b14, if_neg b15]; rfl
            refine Go.retR C d3_84 rfl rfl rfl (by decide) (by decide) ⟨a30, rfl, ((((Keep.refl h0 []).ext E5).wr W26 (Or.inr y10)).trans K31 all0), g32, y_a30, ?_⟩
            rw [hsel]
            exact F34
        ·
          refine Go.aloadN C d3_55 (q := 56) rfl rfl rfl ?_
          refine Go.iloadN C d3_56 (q := 57) rfl rfl ?_
          refine Go.iloadN C d3_57 (q := 58) rfl rfl ?_
          refine Go.iconst C (1 : Int32) d3_58 (q := 59) rfl rfl ?_
          refine Go.iadd C d3_59 (q := 60) rfl ?_
          refine Go.iastore C F7 0 (by decide) (by decide) (by decide) g9 d3_60 (q := 61) rfl ?_
          intro h37 W38
          have F39 := F7.sameI W38
          refine Go.iincR C d3_61 (q := 64) rfl rfl (l' := #[.val (.int b), .val (.int md), .val (.ref a2), .val (.int (1 : Int32))]) rfl ?_
          refine Go.iloadN C d3_64 (q := 65) rfl rfl ?_
          refine Go.bipush C (16 : Int32) d3_65 (q := 67) rfl rfl ?_
          refine Go.iand C d3_67 (q := 68) rfl ?_
          refine Go.if0 C d3_68 (z_eq _) (qt := 79) (q := 71) (by decide) (by decide) rfl (fun b40 => ?_) (fun b40 => ?_)
          ·
            refine Go.aloadN C d3_79 (q := 80) rfl rfl rfl ?_
            refine Go.iloadN C d3_80 (q := 81) rfl rfl ?_
            have F41 := (Nat.le_trans (Nat.le_trans Z0 E5.1) (Nat.le_of_eq W38.size.symm))
            refine Go.callS C (hw _ (List.mem_of_getElem? (i := 14) rfl)) (hw _ (List.mem_of_getElem? (i := 15) rfl)) (hw _ (List.mem_of_getElem? (i := 11) rfl)) (hw _ (List.mem_of_getElem? (i := 16) rfl)) (c_ex1 W.l Z a0 hw a2 h37 n0 (upd (fun _ => (0 : Int32)) 0 (md + (1 : Int32))) F41 F39) d3_81 pd__40_91II_41_91I (q := 84) rfl rfl (argsL := [(.ref a2), (.int (1 : Int32))]) (st := []) rfl rfl (w := 0) rfl (by decide) (by decide) (k' := 2) rfl (n' := 6) rfl (by decide) (by decide) ?_
            intro v h42 q
            obtain ⟨a43, rfl, K44, g45, y46, F47⟩ := q
            have F48 := (Nat.le_trans (Nat.le_trans (Nat.le_refl h0.size) E5.1) (Nat.le_of_eq W38.size.symm))
            have y_a43 : h0.size ≤ a43 := Nat.le_trans F48 y46
            have ne49 : a2 ≠ a43 := Nat.ne_of_lt (Nat.lt_of_lt_of_le F39.lt y46)
            show Go W n0 (fun v h => ∃ a : Addr, v = some (.ref a) ∧ Keep h0 h [] ∧ n0 ≤ a ∧ h0.size ≤ a ∧ Av Z h a .int (own_sel b md).length (iF (own_at (own_sel b md)))) h42 2 6 84 #[.val (.int b), .val (.int md), .val (.ref a2), .val (.int (1 : Int32))] [(.ref a43)]
            have hsel : own_sel b md = [(md + (1 : Int32))] := by unfold own_sel; rw [if_pos b11, if_pos b12, if_pos b13, if_neg b14, if_pos b40]; rfl
            refine Go.retR C d3_84 rfl rfl rfl (by decide) (by decide) ⟨a43, rfl, ((((Keep.refl h0 []).ext E5).wr W38 (Or.inr y10)).trans K44 all0), g45, y_a43, ?_⟩
            rw [hsel]
            exact F47
          ·
            refine Go.aloadN C d3_71 (q := 72) rfl rfl rfl ?_
            refine Go.iloadN C d3_72 (q := 73) rfl rfl ?_
            refine Go.ldcI C (hw _ (List.mem_of_getElem? (i := 22) rfl)) d3_73 (q := 75) rfl ?_
            refine Go.iastore C F39 1 (by decide) (by decide) (by decide) g9 d3_75 (q := 76) rfl ?_
            intro h50 W51
            have F52 := F39.sameI W51
            refine Go.iincR C d3_76 (q := 79) rfl rfl (l' := #[.val (.int b), .val (.int md), .val (.ref a2), .val (.int (2 : Int32))]) rfl ?_
            refine Go.aloadN C d3_79 (q := 80) rfl rfl rfl ?_
            refine Go.iloadN C d3_80 (q := 81) rfl rfl ?_
            have F53 := (Nat.le_trans (Nat.le_trans (Nat.le_trans Z0 E5.1) (Nat.le_of_eq W38.size.symm)) (Nat.le_of_eq W51.size.symm))
            refine Go.callS C (hw _ (List.mem_of_getElem? (i := 14) rfl)) (hw _ (List.mem_of_getElem? (i := 15) rfl)) (hw _ (List.mem_of_getElem? (i := 11) rfl)) (hw _ (List.mem_of_getElem? (i := 16) rfl)) (c_ex2 W.l Z a0 hw a2 h50 n0 (upd (upd (fun _ => (0 : Int32)) 0 (md + (1 : Int32))) 1 (2147483647 : Int32)) F53 F52) d3_81 pd__40_91II_41_91I (q := 84) rfl rfl (argsL := [(.ref a2), (.int (2 : Int32))]) (st := []) rfl rfl (w := 0) rfl (by decide) (by decide) (k' := 2) rfl (n' := 7) rfl (by decide) (by decide) ?_
            intro v h54 q
            obtain ⟨a55, rfl, K56, g57, y58, F59⟩ := q
            have F60 := (Nat.le_trans (Nat.le_trans (Nat.le_trans (Nat.le_refl h0.size) E5.1) (Nat.le_of_eq W38.size.symm)) (Nat.le_of_eq W51.size.symm))
            have y_a55 : h0.size ≤ a55 := Nat.le_trans F60 y58
            have ne61 : a2 ≠ a55 := Nat.ne_of_lt (Nat.lt_of_lt_of_le F52.lt y58)
            show Go W n0 (fun v h => ∃ a : Addr, v = some (.ref a) ∧ Keep h0 h [] ∧ n0 ≤ a ∧ h0.size ≤ a ∧ Av Z h a .int (own_sel b md).length (iF (own_at (own_sel b md)))) h54 2 7 84 #[.val (.int b), .val (.int md), .val (.ref a2), .val (.int (2 : Int32))] [(.ref a55)]
            have hsel : own_sel b md = [(md + (1 : Int32)), (2147483647 : Int32)] := by unfold own_sel; rw [if_pos b11, if_pos b12, if_pos b13, if_neg b14, if_neg b40]; rfl
            refine Go.retR C d3_84 rfl rfl rfl (by decide) (by decide) ⟨a55, rfl, (((((Keep.refl h0 []).ext E5).wr W38 (Or.inr y10)).wr W51 (Or.inr y10)).trans K56 all0), g57, y_a55, ?_⟩
            rw [hsel]
            exact F59
      ·
        refine Go.aloadN C d3_41 (q := 42) rfl rfl rfl ?_
        refine Go.iloadN C d3_42 (q := 43) rfl rfl ?_
        refine Go.iloadN C d3_43 (q := 44) rfl rfl ?_
        refine Go.iastore C F7 0 (by decide) (by decide) (by decide) g9 d3_44 (q := 45) rfl ?_
        intro h62 W63
        have F64 := F7.sameI W63
        refine Go.iincR C d3_45 (q := 48) rfl rfl (l' := #[.val (.int b), .val (.int md), .val (.ref a2), .val (.int (1 : Int32))]) rfl ?_
        refine Go.iloadN C d3_48 (q := 49) rfl rfl ?_
        refine Go.bipush C (8 : Int32) d3_49 (q := 51) rfl rfl ?_
        refine Go.iand C d3_51 (q := 52) rfl ?_
        refine Go.if0 C d3_52 (z_eq _) (qt := 64) (q := 55) (by decide) (by decide) rfl (fun b65 => ?_) (fun b65 => ?_)
        ·
          refine Go.iloadN C d3_64 (q := 65) rfl rfl ?_
          refine Go.bipush C (16 : Int32) d3_65 (q := 67) rfl rfl ?_
          refine Go.iand C d3_67 (q := 68) rfl ?_
          refine Go.if0 C d3_68 (z_eq _) (qt := 79) (q := 71) (by decide) (by decide) rfl (fun b66 => ?_) (fun b66 => ?_)
          ·
            refine Go.aloadN C d3_79 (q := 80) rfl rfl rfl ?_
            refine Go.iloadN C d3_80 (q := 81) rfl rfl ?_
            have F67 := (Nat.le_trans (Nat.le_trans Z0 E5.1) (Nat.le_of_eq W63.size.symm))
            refine Go.callS C (hw _ (List.mem_of_getElem? (i := 14) rfl)) (hw _ (List.mem_of_getElem? (i := 15) rfl)) (hw _ (List.mem_of_getElem? (i := 11) rfl)) (hw _ (List.mem_of_getElem? (i := 16) rfl)) (c_ex1 W.l Z a0 hw a2 h62 n0 (upd (fun _ => (0 : Int32)) 0 md) F67 F64) d3_81 pd__40_91II_41_91I (q := 84) rfl rfl (argsL := [(.ref a2), (.int (1 : Int32))]) (st := []) rfl rfl (w := 0) rfl (by decide) (by decide) (k' := 2) rfl (n' := 6) rfl (by decide) (by decide) ?_
            intro v h68 q
            obtain ⟨a69, rfl, K70, g71, y72, F73⟩ := q
            have F74 := (Nat.le_trans (Nat.le_trans (Nat.le_refl h0.size) E5.1) (Nat.le_of_eq W63.size.symm))
            have y_a69 : h0.size ≤ a69 := Nat.le_trans F74 y72
            have ne75 : a2 ≠ a69 := Nat.ne_of_lt (Nat.lt_of_lt_of_le F64.lt y72)
            show Go W n0 (fun v h => ∃ a : Addr, v = some (.ref a) ∧ Keep h0 h [] ∧ n0 ≤ a ∧ h0.size ≤ a ∧ Av Z h a .int (own_sel b md).length (iF (own_at (own_sel b md)))) h68 2 6 84 #[.val (.int b), .val (.int md), .val (.ref a2), .val (.int (1 : Int32))] [(.ref a69)]
            have hsel : own_sel b md = [md] := by unfold own_sel; rw [if_pos b11, if_pos b12, if_neg b13, if_pos b65, if_pos b66]; rfl
            refine Go.retR C d3_84 rfl rfl rfl (by decide) (by decide) ⟨a69, rfl, ((((Keep.refl h0 []).ext E5).wr W63 (Or.inr y10)).trans K70 all0), g71, y_a69, ?_⟩
            rw [hsel]
            exact F73
          ·
            refine Go.aloadN C d3_71 (q := 72) rfl rfl rfl ?_
            refine Go.iloadN C d3_72 (q := 73) rfl rfl ?_
            refine Go.ldcI C (hw _ (List.mem_of_getElem? (i := 22) rfl)) d3_73 (q := 75) rfl ?_
            refine Go.iastore C F64 1 (by decide) (by decide) (by decide) g9 d3_75 (q := 76) rfl ?_
            intro h76 W77
            have F78 := F64.sameI W77
            refine Go.iincR C d3_76 (q := 79) rfl rfl (l' := #[.val (.int b), .val (.int md), .val (.ref a2), .val (.int (2 : Int32))]) rfl ?_
            refine Go.aloadN C d3_79 (q := 80) rfl rfl rfl ?_
            refine Go.iloadN C d3_80 (q := 81) rfl rfl ?_
            have F79 := (Nat.le_trans (Nat.le_trans (Nat.le_trans Z0 E5.1) (Nat.le_of_eq W63.size.symm)) (Nat.le_of_eq W77.size.symm))
            refine Go.callS C (hw _ (List.mem_of_getElem? (i := 14) rfl)) (hw _ (List.mem_of_getElem? (i := 15) rfl)) (hw _ (List.mem_of_getElem? (i := 11) rfl)) (hw _ (List.mem_of_getElem? (i := 16) rfl)) (c_ex2 W.l Z a0 hw a2 h76 n0 (upd (upd (fun _ => (0 : Int32)) 0 md) 1 (2147483647 : Int32)) F79 F78) d3_81 pd__40_91II_41_91I (q := 84) rfl rfl (argsL := [(.ref a2), (.int (2 : Int32))]) (st := []) rfl rfl (w := 0) rfl (by decide) (by decide) (k' := 2) rfl (n' := 7) rfl (by decide) (by decide) ?_
            intro v h80 q
            obtain ⟨a81, rfl, K82, g83, y84, F85⟩ := q
            have F86 := (Nat.le_trans (Nat.le_trans (Nat.le_trans (Nat.le_refl h0.size) E5.1) (Nat.le_of_eq W63.size.symm)) (Nat.le_of_eq W77.size.symm))
            have y_a81 : h0.size ≤ a81 := Nat.le_trans F86 y84
            have ne87 : a2 ≠ a81 := Nat.ne_of_lt (Nat.lt_of_lt_of_le F78.lt y84)
            show Go W n0 (fun v h => ∃ a : Addr, v = some (.ref a) ∧ Keep h0 h [] ∧ n0 ≤ a ∧ h0.size ≤ a ∧ Av Z h a .int (own_sel b md).length (iF (own_at (own_sel b md)))) h80 2 7 84 #[.val (.int b), .val (.int md), .val (.ref a2), .val (.int (2 : Int32))] [(.ref a81)]
            have hsel : own_sel b md = [md, (2147483647 : Int32)] := by unfold own_sel; rw [if_pos b11, if_pos b12, if_neg b13, if_pos b65, if_neg b66]; rfl
            refine Go.retR C d3_84 rfl rfl rfl (by decide) (by decide) ⟨a81, rfl, (((((Keep.refl h0 []).ext E5).wr W63 (Or.inr y10)).wr W77 (Or.inr y10)).trans K82 all0), g83, y_a81, ?_⟩
            rw [hsel]
            exact F85
        ·
          refine Go.aloadN C d3_55 (q := 56) rfl rfl rfl ?_
          refine Go.iloadN C d3_56 (q := 57) rfl rfl ?_
          refine Go.iloadN C d3_57 (q := 58) rfl rfl ?_
          refine Go.iconst C (1 : Int32) d3_58 (q := 59) rfl rfl ?_
          refine Go.iadd C d3_59 (q := 60) rfl ?_
          refine Go.iastore C F64 1 (by decide) (by decide) (by decide) g9 d3_60 (q := 61) rfl ?_
          intro h88 W89
          have F90 := F64.sameI W89
          refine Go.iincR C d3_61 (q := 64) rfl rfl (l' := #[.val (.int b), .val (.int md), .val (.ref a2), .val (.int (2 : Int32))]) rfl ?_
          refine Go.iloadN C d3_64 (q := 65) rfl rfl ?_
          refine Go.bipush C (16 : Int32) d3_65 (q := 67) rfl rfl ?_
          refine Go.iand C d3_67 (q := 68) rfl ?_
          refine Go.if0 C d3_68 (z_eq _) (qt := 79) (q := 71) (by decide) (by decide) rfl (fun b91 => ?_) (fun b91 => ?_)
          ·
            refine Go.aloadN C d3_79 (q := 80) rfl rfl rfl ?_
            refine Go.iloadN C d3_80 (q := 81) rfl rfl ?_
            have F92 := (Nat.le_trans (Nat.le_trans (Nat.le_trans Z0 E5.1) (Nat.le_of_eq W63.size.symm)) (Nat.le_of_eq W89.size.symm))
            refine Go.callS C (hw _ (List.mem_of_getElem? (i := 14) rfl)) (hw _ (List.mem_of_getElem? (i := 15) rfl)) (hw _ (List.mem_of_getElem? (i := 11) rfl)) (hw _ (List.mem_of_getElem? (i := 16) rfl)) (c_ex2 W.l Z a0 hw a2 h88 n0 (upd (upd (fun _ => (0 : Int32)) 0 md) 1 (md + (1 : Int32))) F92 F90) d3_81 pd__40_91II_41_91I (q := 84) rfl rfl (argsL := [(.ref a2), (.int (2 : Int32))]) (st := []) rfl rfl (w := 0) rfl (by decide) (by decide) (k' := 2) rfl (n' := 7) rfl (by decide) (by decide) ?_
            intro v h93 q
            obtain ⟨a94, rfl, K95, g96, y97, F98⟩ := q
            have F99 := (Nat.le_trans (Nat.le_trans (Nat.le_trans (Nat.le_refl h0.size) E5.1) (Nat.le_of_eq W63.size.symm)) (Nat.le_of_eq W89.size.symm))
            have y_a94 : h0.size ≤ a94 := Nat.le_trans F99 y97
            have ne100 : a2 ≠ a94 := Nat.ne_of_lt (Nat.lt_of_lt_of_le F90.lt y97)
            show Go W n0 (fun v h => ∃ a : Addr, v = some (.ref a) ∧ Keep h0 h [] ∧ n0 ≤ a ∧ h0.size ≤ a ∧ Av Z h a .int (own_sel b md).length (iF (own_at (own_sel b md)))) h93 2 7 84 #[.val (.int b), .val (.int md), .val (.ref a2), .val (.int (2 : Int32))] [(.ref a94)]
            have hsel : own_sel b md = [md, (md + (1 : Int32))] := by unfold own_sel; rw [if_pos b11, if_pos b12, if_neg b13, if_neg b65, if_pos b91]; rfl
            refine Go.retR C d3_84 rfl rfl rfl (by decide) (by decide) ⟨a94, rfl, (((((Keep.refl h0 []).ext E5).wr W63 (Or.inr y10)).wr W89 (Or.inr y10)).trans K95 all0), g96, y_a94, ?_⟩
            rw [hsel]
            exact F98
          ·
            refine Go.aloadN C d3_71 (q := 72) rfl rfl rfl ?_
            refine Go.iloadN C d3_72 (q := 73) rfl rfl ?_
            refine Go.ldcI C (hw _ (List.mem_of_getElem? (i := 22) rfl)) d3_73 (q := 75) rfl ?_
            refine Go.iastore C F90 2 (by decide) (by decide) (by decide) g9 d3_75 (q := 76) rfl ?_
            intro h101 W102
            have F103 := F90.sameI W102
            refine Go.iincR C d3_76 (q := 79) rfl rfl (l' := #[.val (.int b), .val (.int md), .val (.ref a2), .val (.int (3 : Int32))]) rfl ?_
            refine Go.aloadN C d3_79 (q := 80) rfl rfl rfl ?_
            refine Go.iloadN C d3_80 (q := 81) rfl rfl ?_
            have F104 := (Nat.le_trans (Nat.le_trans (Nat.le_trans (Nat.le_trans Z0 E5.1) (Nat.le_of_eq W63.size.symm)) (Nat.le_of_eq W89.size.symm)) (Nat.le_of_eq W102.size.symm))
            refine Go.callS C (hw _ (List.mem_of_getElem? (i := 14) rfl)) (hw _ (List.mem_of_getElem? (i := 15) rfl)) (hw _ (List.mem_of_getElem? (i := 11) rfl)) (hw _ (List.mem_of_getElem? (i := 16) rfl)) (c_ex3 W.l Z a0 hw a2 h101 n0 (upd (upd (upd (fun _ => (0 : Int32)) 0 md) 1 (md + (1 : Int32))) 2 (2147483647 : Int32)) F104 F103) d3_81 pd__40_91II_41_91I (q := 84) rfl rfl (argsL := [(.ref a2), (.int (3 : Int32))]) (st := []) rfl rfl (w := 0) rfl (by decide) (by decide) (k' := 2) rfl (n' := 8) rfl (by decide) (by decide) ?_
            intro v h105 q
            obtain ⟨a106, rfl, K107, g108, y109, F110⟩ := q
            have F111 := (Nat.le_trans (Nat.le_trans (Nat.le_trans (Nat.le_trans (Nat.le_refl h0.size) E5.1) (Nat.le_of_eq W63.size.symm)) (Nat.le_of_eq W89.size.symm)) (Nat.le_of_eq W102.size.symm))
            have y_a106 : h0.size ≤ a106 := Nat.le_trans F111 y109
            have ne112 : a2 ≠ a106 := Nat.ne_of_lt (Nat.lt_of_lt_of_le F103.lt y109)
            show Go W n0 (fun v h => ∃ a : Addr, v = some (.ref a) ∧ Keep h0 h [] ∧ n0 ≤ a ∧ h0.size ≤ a ∧ Av Z h a .int (own_sel b md).length (iF (own_at (own_sel b md)))) h105 2 8 84 #[.val (.int b), .val (.int md), .val (.ref a2), .val (.int (3 : Int32))] [(.ref a106)]
            have hsel : own_sel b md = [md, (md + (1 : Int32)), (2147483647 : Int32)] := by unfold own_sel; rw [if_pos b11, if_pos b12, if_neg b13, if_neg b65, if_neg b91]; rfl
            refine Go.retR C d3_84 rfl rfl rfl (by decide) (by decide) ⟨a106, rfl, ((((((Keep.refl h0 []).ext E5).wr W63 (Or.inr y10)).wr W89 (Or.inr y10)).wr W102 (Or.inr y10)).trans K107 all0), g108, y_a106, ?_⟩
            rw [hsel]
            exact F110
    ·
      refine Go.aloadN C d3_26 (q := 27) rfl rfl rfl ?_
      refine Go.iloadN C d3_27 (q := 28) rfl rfl ?_
      refine Go.iloadN C d3_28 (q := 29) rfl rfl ?_
      refine Go.iconst C (1 : Int32) d3_29 (q := 30) rfl rfl ?_
      refine Go.isub C d3_30 (q := 31) rfl ?_
      refine Go.iastore C F7 0 (by decide) (by decide) (by decide) g9 d3_31 (q := 32) rfl ?_
      intro h113 W114
      have F115 := F7.sameI W114
      refine Go.iincR C d3_32 (q := 35) rfl rfl (l' := #[.val (.int b), .val (.int md), .val (.ref a2), .val (.int (1 : Int32))]) rfl ?_
      refine Go.iloadN C d3_35 (q := 36) rfl rfl ?_
      refine Go.iconst C (4 : Int32) d3_36 (q := 37) rfl rfl ?_
      refine Go.iand C d3_37 (q := 38) rfl ?_
      refine Go.if0 C d3_38 (z_eq _) (qt := 48) (q := 41) (by decide) (by decide) rfl (fun b116 => ?_) (fun b116 => ?_)
      ·
        refine Go.iloadN C d3_48 (q := 49) rfl rfl ?_
        refine Go.bipush C (8 : Int32) d3_49 (q := 51) rfl rfl ?_
        refine Go.iand C d3_51 (q := 52) rfl ?_
        refine Go.if0 C d3_52 (z_eq _) (qt := 64) (q := 55) (by decide) (by decide) rfl (fun b117 => ?_) (fun b117 => ?_)
        ·
          refine Go.iloadN C d3_64 (q := 65) rfl rfl ?_
          refine Go.bipush C (16 : Int32) d3_65 (q := 67) rfl rfl ?_
          refine Go.iand C d3_67 (q := 68) rfl ?_
          refine Go.if0 C d3_68 (z_eq _) (qt := 79) (q := 71) (by decide) (by decide) rfl (fun b118 => ?_) (fun b118 => ?_)
          ·
            refine Go.aloadN C d3_79 (q := 80) rfl rfl rfl ?_
            refine Go.iloadN C d3_80 (q := 81) rfl rfl ?_
            have F119 := (Nat.le_trans (Nat.le_trans Z0 E5.1) (Nat.le_of_eq W114.size.symm))
            refine Go.callS C (hw _ (List.mem_of_getElem? (i := 14) rfl)) (hw _ (List.mem_of_getElem? (i := 15) rfl)) (hw _ (List.mem_of_getElem? (i := 11) rfl)) (hw _ (List.mem_of_getElem? (i := 16) rfl)) (c_ex1 W.l Z a0 hw a2 h113 n0 (upd (fun _ => (0 : Int32)) 0 (md - (1 : Int32))) F119 F115) d3_81 pd__40_91II_41_91I (q := 84) rfl rfl (argsL := [(.ref a2), (.int (1 : Int32))]) (st := []) rfl rfl (w := 0) rfl (by decide) (by decide) (k' := 2) rfl (n' := 6) rfl (by decide) (by decide) ?_
            intro v h120 q
            obtain ⟨a121, rfl, K122, g123, y124, F125⟩ := q
            have F126 := (Nat.le_trans (Nat.le_trans (Nat.le_refl h0.size) E5.1) (Nat.le_of_eq W114.size.symm))
            have y_a121 : h0.size ≤ a121 := Nat.le_trans F126 y124
            have ne127 : a2 ≠ a121 := Nat.ne_of_lt (Nat.lt_of_lt_of_le F115.lt y124)
            show Go W n0 (fun v h => ∃ a : Addr, v = some (.ref a) ∧ Keep h0 h [] ∧ n0 ≤ a ∧ h0.size ≤ a ∧ Av Z h a .int (own_sel b md).length (iF (own_at (own_sel b md)))) h120 2 6 84 #[.val (.int b), .val (.int md), .val (.ref a2), .val (.int (1 : Int32))] [(.ref a121)]
            have hsel : own_sel b md = [(md - (1 : Int32))] := by unfold own_sel; rw [if_pos b11, if_neg b12, if_pos b116, if_pos b117, if_pos b118]; rfl
            refine Go.retR C d3_84 rfl rfl rfl (by decide) (by decide) ⟨a121, rfl, ((((Keep.refl h0 []).ext E5).wr W114 (Or.inr y10)).trans K122 all0), g123, y_a121, ?_⟩
            rw [hsel]
            exact F125
          ·
            refine Go.aloadN C d3_71 (q := 72) rfl rfl rfl ?_
            refine Go.iloadN C d3_72 (q := 73) rfl rfl ?_
            refine Go.ldcI C (hw _ (List.mem_of_getElem? (i := 22) rfl)) d3_73 (q := 75) rfl ?_
            refine Go.iastore C F115 1 (by decide) (by decide) (by decide) g9 d3_75 (q := 76) rfl ?_
            intro h128 W129
            have F130 := F115.sameI W129
            refine Go.iincR C d3_76 (q := 79) rfl rfl (l' := #[.val (.int b), .val (.int md), .val (.ref a2), .val (.int (2 : Int32))]) rfl ?_
            refine Go.aloadN C d3_79 (q := 80) rfl rfl rfl ?_
            refine Go.iloadN C d3_80 (q := 81) rfl rfl ?_
            have F131 := (Nat.le_trans (Nat.le_trans (Nat.le_trans Z0 E5.1) (Nat.le_of_eq W114.size.symm)) (Nat.le_of_eq W129.size.symm))
            refine Go.callS C (hw _ (List.mem_of_getElem? (i := 14) rfl)) (hw _ (List.mem_of_getElem? (i := 15) rfl)) (hw _ (List.mem_of_getElem? (i := 11) rfl)) (hw _ (List.mem_of_getElem? (i := 16) rfl)) (c_ex2 W.l Z a0 hw a2 h128 n0 (upd (upd (fun _ => (0 : Int32)) 0 (md - (1 : Int32))) 1 (2147483647 : Int32)) F131 F130) d3_81 pd__40_91II_41_91I (q := 84) rfl rfl (argsL := [(.ref a2), (.int (2 : Int32))]) (st := []) rfl rfl (w := 0) rfl (by decide) (by decide) (k' := 2) rfl (n' := 7) rfl (by decide) (by decide) ?_
            intro v h132 q
            obtain ⟨a133, rfl, K134, g135, y136, F137⟩ := q
            have F138 := (Nat.le_trans (Nat.le_trans (Nat.le_trans (Nat.le_refl h0.size) E5.1) (Nat.le_of_eq W114.size.symm)) (Nat.le_of_eq W129.size.symm))
            have y_a133 : h0.size ≤ a133 := Nat.le_trans F138 y136
            have ne139 : a2 ≠ a133 := Nat.ne_of_lt (Nat.lt_of_lt_of_le F130.lt y136)
            show Go W n0 (fun v h => ∃ a : Addr, v = some (.ref a) ∧ Keep h0 h [] ∧ n0 ≤ a ∧ h0.size ≤ a ∧ Av Z h a .int (own_sel b md).length (iF (own_at (own_sel b md)))) h132 2 7 84 #[.val (.int b), .val (.int md), .val (.ref a2), .val (.int (2 : Int32))] [(.ref a133)]
            have hsel : own_sel b md = [(md - (1 : Int32)), (2147483647 : Int32)] := by unfold own_sel; rw [if_pos b11, if_neg b12, if_pos b116, if_pos b117, if_neg b118]; rfl
            refine Go.retR C d3_84 rfl rfl rfl (by decide) (by decide) ⟨a133, rfl, (((((Keep.refl h0 []).ext E5).wr W114 (Or.inr y10)).wr W129 (Or.inr y10)).trans K134 all0), g135, y_a133, ?_⟩
            rw [hsel]
            exact F137
        ·
          refine Go.aloadN C d3_55 (q := 56) rfl rfl rfl ?_
          refine Go.iloadN C d3_56 (q := 57) rfl rfl ?_
          refine Go.iloadN C d3_57 (q := 58) rfl rfl ?_
          refine Go.iconst C (1 : Int32) d3_58 (q := 59) rfl rfl ?_
          refine Go.iadd C d3_59 (q := 60) rfl ?_
          refine Go.iastore C F115 1 (by decide) (by decide) (by decide) g9 d3_60 (q := 61) rfl ?_
          intro h140 W141
          have F142 := F115.sameI W141
          refine Go.iincR C d3_61 (q := 64) rfl rfl (l' := #[.val (.int b), .val (.int md), .val (.ref a2), .val (.int (2 : Int32))]) rfl ?_
          refine Go.iloadN C d3_64 (q := 65) rfl rfl ?_
          refine Go.bipush C (16 : Int32) d3_65 (q := 67) rfl rfl ?_
          refine Go.iand C d3_67 (q := 68) rfl ?_
          refine Go.if0 C d3_68 (z_eq _) (qt := 79) (q := 71) (by decide) (by decide) rfl (fun b143 => ?_) (fun b143 => ?_)
          ·
            refine Go.aloadN C d3_79 (q := 80) rfl rfl rfl ?_
            refine Go.iloadN C d3_80 (q := 81) rfl rfl ?_
            have F144 := (Nat.le_trans (Nat.le_trans (Nat.le_trans Z0 E5.1) (Nat.le_of_eq W114.size.symm)) (Nat.le_of_eq W141.size.symm))
            refine Go.callS C (hw _ (List.mem_of_getElem? (i := 14) rfl)) (hw _ (List.mem_of_getElem? (i := 15) rfl)) (hw _ (List.mem_of_getElem? (i := 11) rfl)) (hw _ (List.mem_of_getElem? (i := 16) rfl)) (c_ex2 W.l Z a0 hw a2 h140 n0 (upd (upd (fun _ => (0 : Int32)) 0 (md - (1 : Int32))) 1 (md + (1 : Int32))) F144 F142) d3_81 pd__40_91II_41_91I (q := 84) rfl rfl (argsL := [(.ref a2), (.int (2 : Int32))]) (st := []) rfl rfl (w := 0) rfl (by decide) (by decide) (k' := 2) rfl (n' := 7) rfl (by decide) (by decide) ?_
            intro v h145 q
            obtain ⟨a146, rfl, K147, g148, y149, F150⟩ := q
            have F151 := (Nat.le_trans (Nat.le_trans (Nat.le_trans (Nat.le_refl h0.size) E5.1) (Nat.le_of_eq W114.size.symm)) (Nat.le_of_eq W141.size.symm))
            have y_a146 : h0.size ≤ a146 := Nat.le_trans F151 y149
            have ne152 : a2 ≠ a146 := Nat.ne_of_lt (Nat.lt_of_lt_of_le F142.lt y149)
            show Go W n0 (fun v h => ∃ a : Addr, v = some (.ref a) ∧ Keep h0 h [] ∧ n0 ≤ a ∧ h0.size ≤ a ∧ Av Z h a .int (own_sel b md).length (iF (own_at (own_sel b md)))) h145 2 7 84 #[.val (.int b), .val (.int md), .val (.ref a2), .val (.int (2 : Int32))] [(.ref a146)]
            have hsel : own_sel b md = [(md - (1 : Int32)), (md + (1 : Int32))] := by unfold own_sel; rw [if_pos b11, if_neg b12, if_pos b116, if_neg b117, if_pos b143]; rfl
            refine Go.retR C d3_84 rfl rfl rfl (by decide) (by decide) ⟨a146, rfl, (((((Keep.refl h0 []).ext E5).wr W114 (Or.inr y10)).wr W141 (Or.inr y10)).trans K147 all0), g148, y_a146, ?_⟩
            rw [hsel]
            exact F150
          ·
            refine Go.aloadN C d3_71 (q := 72) rfl rfl rfl ?_
            refine Go.iloadN C d3_72 (q := 73) rfl rfl ?_
            refine Go.ldcI C (hw _ (List.mem_of_getElem? (i := 22) rfl)) d3_73 (q := 75) rfl ?_
            refine Go.iastore C F142 2 (by decide) (by decide) (by decide) g9 d3_75 (q := 76) rfl ?_
            intro h153 W154
            have F155 := F142.sameI W154
            refine Go.iincR C d3_76 (q := 79) rfl rfl (l' := #[.val (.int b), .val (.int md), .val (.ref a2), .val (.int (3 : Int32))]) rfl ?_
            refine Go.aloadN C d3_79 (q := 80) rfl rfl rfl ?_
            refine Go.iloadN C d3_80 (q := 81) rfl rfl ?_
            have F156 := (Nat.le_trans (Nat.le_trans (Nat.le_trans (Nat.le_trans Z0 E5.1) (Nat.le_of_eq W114.size.symm)) (Nat.le_of_eq W141.size.symm)) (Nat.le_of_eq W154.size.symm))
            refine Go.callS C (hw _ (List.mem_of_getElem? (i := 14) rfl)) (hw _ (List.mem_of_getElem? (i := 15) rfl)) (hw _ (List.mem_of_getElem? (i := 11) rfl)) (hw _ (List.mem_of_getElem? (i := 16) rfl)) (c_ex3 W.l Z a0 hw a2 h153 n0 (upd (upd (upd (fun _ => (0 : Int32)) 0 (md - (1 : Int32))) 1 (md + (1 : Int32))) 2 (2147483647 : Int32)) F156 F155) d3_81 pd__40_91II_41_91I (q := 84) rfl rfl (argsL := [(.ref a2), (.int (3 : Int32))]) (st := []) rfl rfl (w := 0) rfl (by decide) (by decide) (k' := 2) rfl (n' := 8) rfl (by decide) (by decide) ?_
            intro v h157 q
            obtain ⟨a158, rfl, K159, g160, y161, F162⟩ := q
            have F163 := (Nat.le_trans (Nat.le_trans (Nat.le_trans (Nat.le_trans (Nat.le_refl h0.size) E5.1) (Nat.le_of_eq W114.size.symm)) (Nat.le_of_eq W141.size.symm)) (Nat.le_of_eq W154.size.symm))
            have y_a158 : h0.size ≤ a158 := Nat.le_trans F163 y161
            have ne164 : a2 ≠ a158 := Nat.ne_of_lt (Nat.lt_of_lt_of_le F155.lt y161)
            show Go W n0 (fun v h => ∃ a : Addr, v = some (.ref a) ∧ Keep h0 h [] ∧ n0 ≤ a ∧ h0.size ≤ a ∧ Av Z h a .int (own_sel b md).length (iF (own_at (own_sel b md)))) h157 2 8 84 #[.val (.int b), .val (.int md), .val (.ref a2), .val (.int (3 : Int32))] [(.ref a158)]
            have hsel : own_sel b md = [(md - (1 : Int32)), (md + (1 : Int32)), (2147483647 : Int32)] := by unfold own_sel; rw [if_pos b11, if_neg b12, if_pos b116, if_neg b117, if_neg b143]; rfl
            refine Go.retR C d3_84 rfl rfl rfl (by decide) (by decide) ⟨a158, rfl, ((((((Keep.refl h0 []).ext E5).wr W114 (Or.inr y10)).wr W141 (Or.inr y10)).wr W154 (Or.inr y10)).trans K159 all0), g160, y_a158, ?_⟩
            rw [hsel]
            exact F162
      ·
        refine Go.aloadN C d3_41 (q := 42) rfl rfl rfl ?_
        refine Go.iloadN C d3_42 (q := 43) rfl rfl ?_
        refine Go.iloadN C d3_43 (q := 44) rfl rfl ?_
        refine Go.iastore C F115 1 (by decide) (by decide) (by decide) g9 d3_44 (q := 45) rfl ?_
        intro h165 W166
        have F167 := F115.sameI W166
        refine Go.iincR C d3_45 (q := 48) rfl rfl (l' := #[.val (.int b), .val (.int md), .val (.ref a2), .val (.int (2 : Int32))]) rfl ?_
        refine Go.iloadN C d3_48 (q := 49) rfl rfl ?_
        refine Go.bipush C (8 : Int32) d3_49 (q := 51) rfl rfl ?_
        refine Go.iand C d3_51 (q := 52) rfl ?_
        refine Go.if0 C d3_52 (z_eq _) (qt := 64) (q := 55) (by decide) (by decide) rfl (fun b168 => ?_) (fun b168 => ?_)
        ·
          refine Go.iloadN C d3_64 (q := 65) rfl rfl ?_
          refine Go.bipush C (16 : Int32) d3_65 (q := 67) rfl rfl ?_
          refine Go.iand C d3_67 (q := 68) rfl ?_
          refine Go.if0 C d3_68 (z_eq _) (qt := 79) (q := 71) (by decide) (by decide) rfl (fun b169 => ?_) (fun b169 => ?_)
          ·
            refine Go.aloadN C d3_79 (q := 80) rfl rfl rfl ?_
            refine Go.iloadN C d3_80 (q := 81) rfl rfl ?_
            have F170 := (Nat.le_trans (Nat.le_trans (Nat.le_trans Z0 E5.1) (Nat.le_of_eq W114.size.symm)) (Nat.le_of_eq W166.size.symm))
            refine Go.callS C (hw _ (List.mem_of_getElem? (i := 14) rfl)) (hw _ (List.mem_of_getElem? (i := 15) rfl)) (hw _ (List.mem_of_getElem? (i := 11) rfl)) (hw _ (List.mem_of_getElem? (i := 16) rfl)) (c_ex2 W.l Z a0 hw a2 h165 n0 (upd (upd (fun _ => (0 : Int32)) 0 (md - (1 : Int32))) 1 md) F170 F167) d3_81 pd__40_91II_41_91I (q := 84) rfl rfl (argsL := [(.ref a2), (.int (2 : Int32))]) (st := []) rfl rfl (w := 0) rfl (by decide) (by decide) (k' := 2) rfl (n' := 7) rfl (by decide) (by decide) ?_
            intro v h171 q
            obtain ⟨a172, rfl, K173, g174, y175, F176⟩ := q
            have F177 := (Nat.le_trans (Nat.le_trans (Nat.le_trans (Nat.le_refl h0.size) E5.1) (Nat.le_of_eq W114.size.symm)) (Nat.le_of_eq W166.size.symm))
            have y_a172 : h0.size ≤ a172 := Nat.le_trans F177 y175
            have ne178 : a2 ≠ a172 := Nat.ne_of_lt (Nat.lt_of_lt_of_le F167.lt y175)
            show Go W n0 (fun v h => ∃ a : Addr, v = some (.ref a) ∧ Keep h0 h [] ∧ n0 ≤ a ∧ h0.size ≤ a ∧ Av Z h a .int (own_sel b md).length (iF (own_at (own_sel b md)))) h171 2 7 84 #[.val (.int b), .val (.int md), .val (.ref a2), .val (.int (2 : Int32))] [(.ref a172)]
            have hsel : own_sel b md = [(md - (1 : Int32)), md] := by unfold own_sel; rw [if_pos b11, if_neg b12, if_neg b116, if_pos b168, if_pos b169]; rfl
            refine Go.retR C d3_84 rfl rfl rfl (by decide) (by decide) ⟨a172, rfl, (((((Keep.refl h0 []).ext E5).wr W114 (Or.inr y10)).wr W166 (Or.inr y10)).trans K173 all0), g174, y_a172, ?_⟩
            rw [hsel]
            exact F176
          ·
            refine Go.aloadN C d3_71 (q := 72) rfl rfl rfl ?_
            refine Go.iloadN C d3_72 (q := 73) rfl rfl ?_
            refine Go.ldcI C (hw _ (List.mem_of_getElem? (i := 22) rfl)) d3_73 (q := 75) rfl ?_
            refine Go.iastore C F167 2 (by decide) (by decide) (by decide) g9 d3_75 (q := 76) rfl ?_
            intro h179 W180
            have F181 := F167.sameI W180
            refine Go.iincR C d3_76 (q := 79) rfl rfl (l' := #[.val (.int b), .val (.int md), .val (.ref a2), .val (.int (3 : Int32))]) rfl ?_
            refine Go.aloadN C d3_79 (q := 80) rfl rfl rfl ?_
            refine Go.iloadN C d3_80 (q := 81) rfl rfl ?_
            have F182 := (Nat.le_trans (Nat.le_trans (Nat.le_trans (Nat.le_trans Z0 E5.1) (Nat.le_of_eq W114.size.symm)) (Nat.le_of_eq W166.size.symm)) (Nat.le_of_eq W180.size.symm))
            refine Go.callS C (hw _ (List.mem_of_getElem? (i := 14) rfl)) (hw _ (List.mem_of_getElem? (i := 15) rfl)) (hw _ (List.mem_of_getElem? (i := 11) rfl)) (hw _ (List.mem_of_getElem? (i := 16) rfl)) (c_ex3 W.l Z a0 hw a2 h179 n0 (upd (upd (upd (fun _ => (0 : Int32)) 0 (md - (1 : Int32))) 1 md) 2 (2147483647 : Int32)) F182 F181) d3_81 pd__40_91II_41_91I (q := 84) rfl rfl (argsL := [(.ref a2), (.int (3 : Int32))]) (st := []) rfl rfl (w := 0) rfl (by decide) (by decide) (k' := 2) rfl (n' := 8) rfl (by decide) (by decide) ?_
            intro v h183 q
            obtain ⟨a184, rfl, K185, g186, y187, F188⟩ := q
            have F189 := (Nat.le_trans (Nat.le_trans (Nat.le_trans (Nat.le_trans (Nat.le_refl h0.size) E5.1) (Nat.le_of_eq W114.size.symm)) (Nat.le_of_eq W166.size.symm)) (Nat.le_of_eq W180.size.symm))
            have y_a184 : h0.size ≤ a184 := Nat.le_trans F189 y187
            have ne190 : a2 ≠ a184 := Nat.ne_of_lt (Nat.lt_of_lt_of_le F181.lt y187)
            show Go W n0 (fun v h => ∃ a : Addr, v = some (.ref a) ∧ Keep h0 h [] ∧ n0 ≤ a ∧ h0.size ≤ a ∧ Av Z h a .int (own_sel b md).length (iF (own_at (own_sel b md)))) h183 2 8 84 #[.val (.int b), .val (.int md), .val (.ref a2), .val (.int (3 : Int32))] [(.ref a184)]
            have hsel : own_sel b md = [(md - (1 : Int32)), md, (2147483647 : Int32)] := by unfold own_sel; rw [if_pos b11, if_neg b12, if_neg b116, if_pos b168, if_neg b169]; rfl
            refine Go.retR C d3_84 rfl rfl rfl (by decide) (by decide) ⟨a184, rfl, ((((((Keep.refl h0 []).ext E5).wr W114 (Or.inr y10)).wr W166 (Or.inr y10)).wr W180 (Or.inr y10)).trans K185 all0), g186, y_a184, ?_⟩
            rw [hsel]
            exact F188
        ·
          refine Go.aloadN C d3_55 (q := 56) rfl rfl rfl ?_
          refine Go.iloadN C d3_56 (q := 57) rfl rfl ?_
          refine Go.iloadN C d3_57 (q := 58) rfl rfl ?_
          refine Go.iconst C (1 : Int32) d3_58 (q := 59) rfl rfl ?_
          refine Go.iadd C d3_59 (q := 60) rfl ?_
          refine Go.iastore C F167 2 (by decide) (by decide) (by decide) g9 d3_60 (q := 61) rfl ?_
          intro h191 W192
          have F193 := F167.sameI W192
          refine Go.iincR C d3_61 (q := 64) rfl rfl (l' := #[.val (.int b), .val (.int md), .val (.ref a2), .val (.int (3 : Int32))]) rfl ?_
          refine Go.iloadN C d3_64 (q := 65) rfl rfl ?_
          refine Go.bipush C (16 : Int32) d3_65 (q := 67) rfl rfl ?_
          refine Go.iand C d3_67 (q := 68) rfl ?_
          refine Go.if0 C d3_68 (z_eq _) (qt := 79) (q := 71) (by decide) (by decide) rfl (fun b194 => ?_) (fun b194 => ?_)
          ·
            refine Go.aloadN C d3_79 (q := 80) rfl rfl rfl ?_
            refine Go.iloadN C d3_80 (q := 81) rfl rfl ?_
            have F195 := (Nat.le_trans (Nat.le_trans (Nat.le_trans (Nat.le_trans Z0 E5.1) (Nat.le_of_eq W114.size.symm)) (Nat.le_of_eq W166.size.symm)) (Nat.le_of_eq W192.size.symm))
            refine Go.callS C (hw _ (List.mem_of_getElem? (i := 14) rfl)) (hw _ (List.mem_of_getElem? (i := 15) rfl)) (hw _ (List.mem_of_getElem? (i := 11) rfl)) (hw _ (List.mem_of_getElem? (i := 16) rfl)) (c_ex3 W.l Z a0 hw a2 h191 n0 (upd (upd (upd (fun _ => (0 : Int32)) 0 (md - (1 : Int32))) 1 md) 2 (md + (1 : Int32))) F195 F193) d3_81 pd__40_91II_41_91I (q := 84) rfl rfl (argsL := [(.ref a2), (.int (3 : Int32))]) (st := []) rfl rfl (w := 0) rfl (by decide) (by decide) (k' := 2) rfl (n' := 8) rfl (by decide) (by decide) ?_
            intro v h196 q
            obtain ⟨a197, rfl, K198, g199, y200, F201⟩ := q
            have F202 := (Nat.le_trans (Nat.le_trans (Nat.le_trans (Nat.le_trans (Nat.le_refl h0.size) E5.1) (Nat.le_of_eq W114.size.symm)) (Nat.le_of_eq W166.size.symm)) (Nat.le_of_eq W192.size.symm))
            have y_a197 : h0.size ≤ a197 := Nat.le_trans F202 y200
            have ne203 : a2 ≠ a197 := Nat.ne_of_lt (Nat.lt_of_lt_of_le F193.lt y200)
            show Go W n0 (fun v h => ∃ a : Addr, v = some (.ref a) ∧ Keep h0 h [] ∧ n0 ≤ a ∧ h0.size ≤ a ∧ Av Z h a .int (own_sel b md).length (iF (own_at (own_sel b md)))) h196 2 8 84 #[.val (.int b), .val (.int md), .val (.ref a2), .val (.int (3 : Int32))] [(.ref a197)]
            have hsel : own_sel b md = [(md - (1 : Int32)), md, (md + (1 : Int32))] := by unfold own_sel; rw [if_pos b11, if_neg b12, if_neg b116, if_neg b168, if_pos b194]; rfl
            refine Go.retR C d3_84 rfl rfl rfl (by decide) (by decide) ⟨a197, rfl, ((((((Keep.refl h0 []).ext E5).wr W114 (Or.inr y10)).wr W166 (Or.inr y10)).wr W192 (Or.inr y10)).trans K198 all0), g199, y_a197, ?_⟩
            rw [hsel]
            exact F201
          ·
            refine Go.aloadN C d3_71 (q := 72) rfl rfl rfl ?_
            refine Go.iloadN C d3_72 (q := 73) rfl rfl ?_
            refine Go.ldcI C (hw _ (List.mem_of_getElem? (i := 22) rfl)) d3_73 (q := 75) rfl ?_
            refine Go.iastore C F193 3 (by decide) (by decide) (by decide) g9 d3_75 (q := 76) rfl ?_
            intro h204 W205
            have F206 := F193.sameI W205
            refine Go.iincR C d3_76 (q := 79) rfl rfl (l' := #[.val (.int b), .val (.int md), .val (.ref a2), .val (.int (4 : Int32))]) rfl ?_
            refine Go.aloadN C d3_79 (q := 80) rfl rfl rfl ?_
            refine Go.iloadN C d3_80 (q := 81) rfl rfl ?_
            have F207 := (Nat.le_trans (Nat.le_trans (Nat.le_trans (Nat.le_trans (Nat.le_trans Z0 E5.1) (Nat.le_of_eq W114.size.symm)) (Nat.le_of_eq W166.size.symm)) (Nat.le_of_eq W192.size.symm)) (Nat.le_of_eq W205.size.symm))
            refine Go.callS C (hw _ (List.mem_of_getElem? (i := 14) rfl)) (hw _ (List.mem_of_getElem? (i := 15) rfl)) (hw _ (List.mem_of_getElem? (i := 11) rfl)) (hw _ (List.mem_of_getElem? (i := 16) rfl)) (c_ex4 W.l Z a0 hw a2 h204 n0 (upd (upd (upd (upd (fun _ => (0 : Int32)) 0 (md - (1 : Int32))) 1 md) 2 (md + (1 : Int32))) 3 (2147483647 : Int32)) F207 F206) d3_81 pd__40_91II_41_91I (q := 84) rfl rfl (argsL := [(.ref a2), (.int (4 : Int32))]) (st := []) rfl rfl (w := 0) rfl (by decide) (by decide) (k' := 2) rfl (n' := 9) rfl (by decide) (by decide) ?_
            intro v h208 q
            obtain ⟨a209, rfl, K210, g211, y212, F213⟩ := q
            have F214 := (Nat.le_trans (Nat.le_trans (Nat.le_trans (Nat.le_trans (Nat.le_trans (Nat.le_refl h0.size) E5.1) (Nat.le_of_eq W114.size.symm)) (Nat.le_of_eq W166.size.symm)) (Nat.le_of_eq W192.size.symm)) (Nat.le_of_eq W205.size.symm))
            have y_a209 : h0.size ≤ a209 := Nat.le_trans F214 y212
            have ne215 : a2 ≠ a209 := Nat.ne_of_lt (Nat.lt_of_lt_of_le F206.lt y212)
            show Go W n0 (fun v h => ∃ a : Addr, v = some (.ref a) ∧ Keep h0 h [] ∧ n0 ≤ a ∧ h0.size ≤ a ∧ Av Z h a .int (own_sel b md).length (iF (own_at (own_sel b md)))) h208 2 9 84 #[.val (.int b), .val (.int md), .val (.ref a2), .val (.int (4 : Int32))] [(.ref a209)]
            have hsel : own_sel b md = [(md - (1 : Int32)), md, (md + (1 : Int32)), (2147483647 : Int32)] := by unfold own_sel; rw [if_pos b11, if_neg b12, if_neg b116, if_neg b168, if_neg b194]; rfl
            refine Go.retR C d3_84 rfl rfl rfl (by decide) (by decide) ⟨a209, rfl, (((((((Keep.refl h0 []).ext E5).wr W114 (Or.inr y10)).wr W166 (Or.inr y10)).wr W192 (Or.inr y10)).wr W205 (Or.inr y10)).trans K210 all0), g211, y_a209, ?_⟩
            rw [hsel]
            exact F213
  ·
    refine Go.aloadN C d3_12 (q := 13) rfl rfl rfl ?_
    refine Go.iloadN C d3_13 (q := 14) rfl rfl ?_
    refine Go.ldcI C (hw _ (List.mem_of_getElem? (i := 17) rfl)) d3_14 (q := 16) rfl ?_
    refine Go.iastore C F7 0 (by decide) (by decide) (by decide) g9 d3_16 (q := 17) rfl ?_
    intro h216 W217
    have F218 := F7.sameI W217
    refine Go.iincR C d3_17 (q := 20) rfl rfl (l' := #[.val (.int b), .val (.int md), .val (.ref a2), .val (.int (1 : Int32))]) rfl ?_
    refine Go.iloadN C d3_20 (q := 21) rfl rfl ?_
    refine Go.iconst C (2 : Int32) d3_21 (q := 22) rfl rfl ?_
    refine Go.iand C d3_22 (q := 23) rfl ?_
    refine Go.if0 C d3_23 (z_eq _) (qt := 35) (q := 26) (by decide) (by decide) rfl (fun b219 => ?_) (fun b219 => ?_)
    ·
      refine Go.iloadN C d3_35 (q := 36) rfl rfl ?_
      refine Go.iconst C (4 : Int32) d3_36 (q := 37) rfl rfl ?_
      refine Go.iand C d3_37 (q := 38) rfl ?_
      refine Go.if0 C d3_38 (z_eq _) (qt := 48) (q := 41) (by decide) (by decide) rfl (fun b220 => ?_) (fun b220 => ?_)
      ·
        refine Go.iloadN C d3_48 (q := 49) rfl rfl ?_
        refine Go.bipush C (8 : Int32) d3_49 (q := 51) rfl rfl ?_
        refine Go.iand C d3_51 (q := 52) rfl ?_
        refine Go.if0 C d3_52 (z_eq _) (qt := 64) (q := 55) (by decide) (by decide) rfl (fun b221 => ?_) (fun b221 => ?_)
        ·
          refine Go.iloadN C d3_64 (q := 65) rfl rfl ?_
          refine Go.bipush C (16 : Int32) d3_65 (q := 67) rfl rfl ?_
          refine Go.iand C d3_67 (q := 68) rfl ?_
          refine Go.if0 C d3_68 (z_eq _) (qt := 79) (q := 71) (by decide) (by decide) rfl (fun b222 => ?_) (fun b222 => ?_)
          ·
            refine Go.aloadN C d3_79 (q := 80) rfl rfl rfl ?_
            refine Go.iloadN C d3_80 (q := 81) rfl rfl ?_
            have F223 := (Nat.le_trans (Nat.le_trans Z0 E5.1) (Nat.le_of_eq W217.size.symm))
            refine Go.callS C (hw _ (List.mem_of_getElem? (i := 14) rfl)) (hw _ (List.mem_of_getElem? (i := 15) rfl)) (hw _ (List.mem_of_getElem? (i := 11) rfl)) (hw _ (List.mem_of_getElem? (i := 16) rfl)) (c_ex1 W.l Z a0 hw a2 h216 n0 (upd (fun _ => (0 : Int32)) 0 (-2147483648 : Int32)) F223 F218) d3_81 pd__40_91II_41_91I (q := 84) rfl rfl (argsL := [(.ref a2), (.int (1 : Int32))]) (st := []) rfl rfl (w := 0) rfl (by decide) (by decide) (k' := 2) rfl (n' := 6) rfl (by decide) (by decide) ?_
            intro v h224 q
            obtain ⟨a225, rfl, K226, g227, y228, F229⟩ := q
            have F230 := (Nat.le_trans (Nat.le_trans (Nat.le_refl h0.size) E5.1) (Nat.le_of_eq W217.size.symm))
            have y_a225 : h0.size ≤ a225 := Nat.le_trans F230 y228
            have ne231 : a2 ≠ a225 := Nat.ne_of_lt (Nat.lt_of_lt_of_le F218.lt y228)
            show Go W n0 (fun v h => ∃ a : Addr, v = some (.ref a) ∧ Keep h0 h [] ∧ n0 ≤ a ∧ h0.size ≤ a ∧ Av Z h a .int (own_sel b md).length (iF (own_at (own_sel b md)))) h224 2 6 84 #[.val (.int b), .val (.int md), .val (.ref a2), .val (.int (1 : Int32))] [(.ref a225)]
            have hsel : own_sel b md = [(-2147483648 : Int32)] := by unfold own_sel; rw [if_neg b11, if_pos b219, if_pos b220, if_pos b221, if_pos b222]; rfl
            refine Go.retR C d3_84 rfl rfl rfl (by decide) (by decide) ⟨a225, rfl, ((((Keep.refl h0 []).ext E5).wr W217 (Or.inr y10)).trans K226 all0), g227, y_a225, ?_⟩
            rw [hsel]
            exact F229
          ·
            refine Go.aloadN C d3_71 (q := 72) rfl rfl rfl ?_
            refine Go.iloadN C d3_72 (q := 73) rfl rfl ?_
            refine Go.ldcI C (hw _ (List.mem_of_getElem? (i := 22) rfl)) d3_73 (q := 75) rfl ?_
            refine Go.iastore C F218 1 (by decide) (by decide) (by decide) g9 d3_75 (q := 76) rfl ?_
            intro h232 W233
            have F234 := F218.sameI W233
            refine Go.iincR C d3_76 (q := 79) rfl rfl (l' := #[.val (.int b), .val (.int md), .val (.ref a2), .val (.int (2 : Int32))]) rfl ?_
            refine Go.aloadN C d3_79 (q := 80) rfl rfl rfl ?_
            refine Go.iloadN C d3_80 (q := 81) rfl rfl ?_
            have F235 := (Nat.le_trans (Nat.le_trans (Nat.le_trans Z0 E5.1) (Nat.le_of_eq W217.size.symm)) (Nat.le_of_eq W233.size.symm))
            refine Go.callS C (hw _ (List.mem_of_getElem? (i := 14) rfl)) (hw _ (List.mem_of_getElem? (i := 15) rfl)) (hw _ (List.mem_of_getElem? (i := 11) rfl)) (hw _ (List.mem_of_getElem? (i := 16) rfl)) (c_ex2 W.l Z a0 hw a2 h232 n0 (upd (upd (fun _ => (0 : Int32)) 0 (-2147483648 : Int32)) 1 (2147483647 : Int32)) F235 F234) d3_81 pd__40_91II_41_91I (q := 84) rfl rfl (argsL := [(.ref a2), (.int (2 : Int32))]) (st := []) rfl rfl (w := 0) rfl (by decide) (by decide) (k' := 2) rfl (n' := 7) rfl (by decide) (by decide) ?_
            intro v h236 q
            obtain ⟨a237, rfl, K238, g239, y240, F241⟩ := q
            have F242 := (Nat.le_trans (Nat.le_trans (Nat.le_trans (Nat.le_refl h0.size) E5.1) (Nat.le_of_eq W217.size.symm)) (Nat.le_of_eq W233.size.symm))
            have y_a237 : h0.size ≤ a237 := Nat.le_trans F242 y240
            have ne243 : a2 ≠ a237 := Nat.ne_of_lt (Nat.lt_of_lt_of_le F234.lt y240)
            show Go W n0 (fun v h => ∃ a : Addr, v = some (.ref a) ∧ Keep h0 h [] ∧ n0 ≤ a ∧ h0.size ≤ a ∧ Av Z h a .int (own_sel b md).length (iF (own_at (own_sel b md)))) h236 2 7 84 #[.val (.int b), .val (.int md), .val (.ref a2), .val (.int (2 : Int32))] [(.ref a237)]
            have hsel : own_sel b md = [(-2147483648 : Int32), (2147483647 : Int32)] := by unfold own_sel; rw [if_neg b11, if_pos b219, if_pos b220, if_pos b221, if_neg b222]; rfl
            refine Go.retR C d3_84 rfl rfl rfl (by decide) (by decide) ⟨a237, rfl, (((((Keep.refl h0 []).ext E5).wr W217 (Or.inr y10)).wr W233 (Or.inr y10)).trans K238 all0), g239, y_a237, ?_⟩
            rw [hsel]
            exact F241
        ·
          refine Go.aloadN C d3_55 (q := 56) rfl rfl rfl ?_
          refine Go.iloadN C d3_56 (q := 57) rfl rfl ?_
          refine Go.iloadN C d3_57 (q := 58) rfl rfl ?_
          refine Go.iconst C (1 : Int32) d3_58 (q := 59) rfl rfl ?_
          refine Go.iadd C d3_59 (q := 60) rfl ?_
          refine Go.iastore C F218 1 (by decide) (by decide) (by decide) g9 d3_60 (q := 61) rfl ?_
          intro h244 W245
          have F246 := F218.sameI W245
          refine Go.iincR C d3_61 (q := 64) rfl rfl (l' := #[.val (.int b), .val (.int md), .val (.ref a2), .val (.int (2 : Int32))]) rfl ?_
          refine Go.iloadN C d3_64 (q := 65) rfl rfl ?_
          refine Go.bipush C (16 : Int32) d3_65 (q := 67) rfl rfl ?_
          refine Go.iand C d3_67 (q := 68) rfl ?_
          refine Go.if0 C d3_68 (z_eq _) (qt := 79) (q := 71) (by decide) (by decide) rfl (fun b247 => ?_) (fun b247 => ?_)
          ·
            refine Go.aloadN C d3_79 (q := 80) rfl rfl rfl ?_
            refine Go.iloadN C d3_80 (q := 81) rfl rfl ?_
            have F248 := (Nat.le_trans (Nat.le_trans (Nat.le_trans Z0 E5.1) (Nat.le_of_eq W217.size.symm)) (Nat.le_of_eq W245.size.symm))
            refine Go.callS C (hw _ (List.mem_of_getElem? (i := 14) rfl)) (hw _ (List.mem_of_getElem? (i := 15) rfl)) (hw _ (List.mem_of_getElem? (i := 11) rfl)) (hw _ (List.mem_of_getElem? (i := 16) rfl)) (c_ex2 W.l Z a0 hw a2 h244 n0 (upd (upd (fun _ => (0 : Int32)) 0 (-2147483648 : Int32)) 1 (md + (1 : Int32))) F248 F246) d3_81 pd__40_91II_41_91I (q := 84) rfl rfl (argsL := [(.ref a2), (.int (2 : Int32))]) (st := []) rfl rfl (w := 0) rfl (by decide) (by decide) (k' := 2) rfl (n' := 7) rfl (by decide) (by decide) ?_
            intro v h249 q
            obtain ⟨a250, rfl, K251, g252, y253, F254⟩ := q
            have F255 := (Nat.le_trans (Nat.le_trans (Nat.le_trans (Nat.le_refl h0.size) E5.1) (Nat.le_of_eq W217.size.symm)) (Nat.le_of_eq W245.size.symm))
            have y_a250 : h0.size ≤ a250 := Nat.le_trans F255 y253
            have ne256 : a2 ≠ a250 := Nat.ne_of_lt (Nat.lt_of_lt_of_le F246.lt y253)
            show Go W n0 (fun v h => ∃ a : Addr, v = some (.ref a) ∧ Keep h0 h [] ∧ n0 ≤ a ∧ h0.size ≤ a ∧ Av Z h a .int (own_sel b md).length (iF (own_at (own_sel b md)))) h249 2 7 84 #[.val (.int b), .val (.int md), .val (.ref a2), .val (.int (2 : Int32))] [(.ref a250)]
            have hsel : own_sel b md = [(-2147483648 : Int32), (md + (1 : Int32))] := by unfold own_sel; rw [if_neg b11, if_pos b219, if_pos b220, if_neg b221, if_pos b247]; rfl
            refine Go.retR C d3_84 rfl rfl rfl (by decide) (by decide) ⟨a250, rfl, (((((Keep.refl h0 []).ext E5).wr W217 (Or.inr y10)).wr W245 (Or.inr y10)).trans K251 all0), g252, y_a250, ?_⟩
            rw [hsel]
            exact F254
          ·
            refine Go.aloadN C d3_71 (q := 72) rfl rfl rfl ?_
            refine Go.iloadN C d3_72 (q := 73) rfl rfl ?_
            refine Go.ldcI C (hw _ (List.mem_of_getElem? (i := 22) rfl)) d3_73 (q := 75) rfl ?_
            refine Go.iastore C F246 2 (by decide) (by decide) (by decide) g9 d3_75 (q := 76) rfl ?_
            intro h257 W258
            have F259 := F246.sameI W258
            refine Go.iincR C d3_76 (q := 79) rfl rfl (l' := #[.val (.int b), .val (.int md), .val (.ref a2), .val (.int (3 : Int32))]) rfl ?_
            refine Go.aloadN C d3_79 (q := 80) rfl rfl rfl ?_
            refine Go.iloadN C d3_80 (q := 81) rfl rfl ?_
            have F260 := (Nat.le_trans (Nat.le_trans (Nat.le_trans (Nat.le_trans Z0 E5.1) (Nat.le_of_eq W217.size.symm)) (Nat.le_of_eq W245.size.symm)) (Nat.le_of_eq W258.size.symm))
            refine Go.callS C (hw _ (List.mem_of_getElem? (i := 14) rfl)) (hw _ (List.mem_of_getElem? (i := 15) rfl)) (hw _ (List.mem_of_getElem? (i := 11) rfl)) (hw _ (List.mem_of_getElem? (i := 16) rfl)) (c_ex3 W.l Z a0 hw a2 h257 n0 (upd (upd (upd (fun _ => (0 : Int32)) 0 (-2147483648 : Int32)) 1 (md + (1 : Int32))) 2 (2147483647 : Int32)) F260 F259) d3_81 pd__40_91II_41_91I (q := 84) rfl rfl (argsL := [(.ref a2), (.int (3 : Int32))]) (st := []) rfl rfl (w := 0) rfl (by decide) (by decide) (k' := 2) rfl (n' := 8) rfl (by decide) (by decide) ?_
            intro v h261 q
            obtain ⟨a262, rfl, K263, g264, y265, F266⟩ := q
            have F267 := (Nat.le_trans (Nat.le_trans (Nat.le_trans (Nat.le_trans (Nat.le_refl h0.size) E5.1) (Nat.le_of_eq W217.size.symm)) (Nat.le_of_eq W245.size.symm)) (Nat.le_of_eq W258.size.symm))
            have y_a262 : h0.size ≤ a262 := Nat.le_trans F267 y265
            have ne268 : a2 ≠ a262 := Nat.ne_of_lt (Nat.lt_of_lt_of_le F259.lt y265)
            show Go W n0 (fun v h => ∃ a : Addr, v = some (.ref a) ∧ Keep h0 h [] ∧ n0 ≤ a ∧ h0.size ≤ a ∧ Av Z h a .int (own_sel b md).length (iF (own_at (own_sel b md)))) h261 2 8 84 #[.val (.int b), .val (.int md), .val (.ref a2), .val (.int (3 : Int32))] [(.ref a262)]
            have hsel : own_sel b md = [(-2147483648 : Int32), (md + (1 : Int32)), (2147483647 : Int32)] := by unfold own_sel; rw [if_neg b11, if_pos b219, if_pos b220, if_neg b221, if_neg b247]; rfl
            refine Go.retR C d3_84 rfl rfl rfl (by decide) (by decide) ⟨a262, rfl, ((((((Keep.refl h0 []).ext E5).wr W217 (Or.inr y10)).wr W245 (Or.inr y10)).wr W258 (Or.inr y10)).trans K263 all0), g264, y_a262, ?_⟩
            rw [hsel]
            exact F266
      ·
        refine Go.aloadN C d3_41 (q := 42) rfl rfl rfl ?_
        refine Go.iloadN C d3_42 (q := 43) rfl rfl ?_
        refine Go.iloadN C d3_43 (q := 44) rfl rfl ?_
        refine Go.iastore C F218 1 (by decide) (by decide) (by decide) g9 d3_44 (q := 45) rfl ?_
        intro h269 W270
        have F271 := F218.sameI W270
        refine Go.iincR C d3_45 (q := 48) rfl rfl (l' := #[.val (.int b), .val (.int md), .val (.ref a2), .val (.int (2 : Int32))]) rfl ?_
        refine Go.iloadN C d3_48 (q := 49) rfl rfl ?_
        refine Go.bipush C (8 : Int32) d3_49 (q := 51) rfl rfl ?_
        refine Go.iand C d3_51 (q := 52) rfl ?_
        refine Go.if0 C d3_52 (z_eq _) (qt := 64) (q := 55) (by decide) (by decide) rfl (fun b272 => ?_) (fun b272 => ?_)
        ·
          refine Go.iloadN C d3_64 (q := 65) rfl rfl ?_
          refine Go.bipush C (16 : Int32) d3_65 (q := 67) rfl rfl ?_
          refine Go.iand C d3_67 (q := 68) rfl ?_
          refine Go.if0 C d3_68 (z_eq _) (qt := 79) (q := 71) (by decide) (by decide) rfl (fun b273 => ?_) (fun b273 => ?_)
          ·
            refine Go.aloadN C d3_79 (q := 80) rfl rfl rfl ?_
            refine Go.iloadN C d3_80 (q := 81) rfl rfl ?_
            have F274 := (Nat.le_trans (Nat.le_trans (Nat.le_trans Z0 E5.1) (Nat.le_of_eq W217.size.symm)) (Nat.le_of_eq W270.size.symm))
            refine Go.callS C (hw _ (List.mem_of_getElem? (i := 14) rfl)) (hw _ (List.mem_of_getElem? (i := 15) rfl)) (hw _ (List.mem_of_getElem? (i := 11) rfl)) (hw _ (List.mem_of_getElem? (i := 16) rfl)) (c_ex2 W.l Z a0 hw a2 h269 n0 (upd (upd (fun _ => (0 : Int32)) 0 (-2147483648 : Int32)) 1 md) F274 F271) d3_81 pd__40_91II_41_91I (q := 84) rfl rfl (argsL := [(.ref a2), (.int (2 : Int32))]) (st := []) rfl rfl (w := 0) rfl (by decide) (by decide) (k' := 2) rfl (n' := 7) rfl (by decide) (by decide) ?_
            intro v h275 q
            obtain ⟨a276, rfl, K277, g278, y279, F280⟩ := q
            have F281 := (Nat.le_trans (Nat.le_trans (Nat.le_trans (Nat.le_refl h0.size) E5.1) (Nat.le_of_eq W217.size.symm)) (Nat.le_of_eq W270.size.symm))
            have y_a276 : h0.size ≤ a276 := Nat.le_trans F281 y279
            have ne282 : a2 ≠ a276 := Nat.ne_of_lt (Nat.lt_of_lt_of_le F271.lt y279)
            show Go W n0 (fun v h => ∃ a : Addr, v = some (.ref a) ∧ Keep h0 h [] ∧ n0 ≤ a ∧ h0.size ≤ a ∧ Av Z h a .int (own_sel b md).length (iF (own_at (own_sel b md)))) h275 2 7 84 #[.val (.int b), .val (.int md), .val (.ref a2), .val (.int (2 : Int32))] [(.ref a276)]
            have hsel : own_sel b md = [(-2147483648 : Int32), md] := by unfold own_sel; rw [if_neg b11, if_pos b219, if_neg b220, if_pos b272, if_pos b273]; rfl
            refine Go.retR C d3_84 rfl rfl rfl (by decide) (by decide) ⟨a276, rfl, (((((Keep.refl h0 []).ext E5).wr W217 (Or.inr y10)).wr W270 (Or.inr y10)).trans K277 all0), g278, y_a276, ?_⟩
            rw [hsel]
            exact F280
          ·
            refine Go.aloadN C d3_71 (q := 72) rfl rfl rfl ?_
            refine Go.iloadN C d3_72 (q := 73) rfl rfl ?_
            refine Go.ldcI C (hw _ (List.mem_of_getElem? (i := 22) rfl)) d3_73 (q := 75) rfl ?_
            refine Go.iastore C F271 2 (by decide) (by decide) (by decide) g9 d3_75 (q := 76) rfl ?_
            intro h283 W284
            have F285 := F271.sameI W284
            refine Go.iincR C d3_76 (q := 79) rfl rfl (l' := #[.val (.int b), .val (.int md), .val (.ref a2), .val (.int (3 : Int32))]) rfl ?_
            refine Go.aloadN C d3_79 (q := 80) rfl rfl rfl ?_
            refine Go.iloadN C d3_80 (q := 81) rfl rfl ?_
            have F286 := (Nat.le_trans (Nat.le_trans (Nat.le_trans (Nat.le_trans Z0 E5.1) (Nat.le_of_eq W217.size.symm)) (Nat.le_of_eq W270.size.symm)) (Nat.le_of_eq W284.size.symm))
            refine Go.callS C (hw _ (List.mem_of_getElem? (i := 14) rfl)) (hw _ (List.mem_of_getElem? (i := 15) rfl)) (hw _ (List.mem_of_getElem? (i := 11) rfl)) (hw _ (List.mem_of_getElem? (i := 16) rfl)) (c_ex3 W.l Z a0 hw a2 h283 n0 (upd (upd (upd (fun _ => (0 : Int32)) 0 (-2147483648 : Int32)) 1 md) 2 (2147483647 : Int32)) F286 F285) d3_81 pd__40_91II_41_91I (q := 84) rfl rfl (argsL := [(.ref a2), (.int (3 : Int32))]) (st := []) rfl rfl (w := 0) rfl (by decide) (by decide) (k' := 2) rfl (n' := 8) rfl (by decide) (by decide) ?_
            intro v h287 q
            obtain ⟨a288, rfl, K289, g290, y291, F292⟩ := q
            have F293 := (Nat.le_trans (Nat.le_trans (Nat.le_trans (Nat.le_trans (Nat.le_refl h0.size) E5.1) (Nat.le_of_eq W217.size.symm)) (Nat.le_of_eq W270.size.symm)) (Nat.le_of_eq W284.size.symm))
            have y_a288 : h0.size ≤ a288 := Nat.le_trans F293 y291
            have ne294 : a2 ≠ a288 := Nat.ne_of_lt (Nat.lt_of_lt_of_le F285.lt y291)
            show Go W n0 (fun v h => ∃ a : Addr, v = some (.ref a) ∧ Keep h0 h [] ∧ n0 ≤ a ∧ h0.size ≤ a ∧ Av Z h a .int (own_sel b md).length (iF (own_at (own_sel b md)))) h287 2 8 84 #[.val (.int b), .val (.int md), .val (.ref a2), .val (.int (3 : Int32))] [(.ref a288)]
            have hsel : own_sel b md = [(-2147483648 : Int32), md, (2147483647 : Int32)] := by unfold own_sel; rw [if_neg b11, if_pos b219, if_neg b220, if_pos b272, if_neg b273]; rfl
            refine Go.retR C d3_84 rfl rfl rfl (by decide) (by decide) ⟨a288, rfl, ((((((Keep.refl h0 []).ext E5).wr W217 (Or.inr y10)).wr W270 (Or.inr y10)).wr W284 (Or.inr y10)).trans K289 all0), g290, y_a288, ?_⟩
            rw [hsel]
            exact F292
        ·
          refine Go.aloadN C d3_55 (q := 56) rfl rfl rfl ?_
          refine Go.iloadN C d3_56 (q := 57) rfl rfl ?_
          refine Go.iloadN C d3_57 (q := 58) rfl rfl ?_
          refine Go.iconst C (1 : Int32) d3_58 (q := 59) rfl rfl ?_
          refine Go.iadd C d3_59 (q := 60) rfl ?_
          refine Go.iastore C F271 2 (by decide) (by decide) (by decide) g9 d3_60 (q := 61) rfl ?_
          intro h295 W296
          have F297 := F271.sameI W296
          refine Go.iincR C d3_61 (q := 64) rfl rfl (l' := #[.val (.int b), .val (.int md), .val (.ref a2), .val (.int (3 : Int32))]) rfl ?_
          refine Go.iloadN C d3_64 (q := 65) rfl rfl ?_
          refine Go.bipush C (16 : Int32) d3_65 (q := 67) rfl rfl ?_
          refine Go.iand C d3_67 (q := 68) rfl ?_
          refine Go.if0 C d3_68 (z_eq _) (qt := 79) (q := 71) (by decide) (by decide) rfl (fun b298 => ?_) (fun b298 => ?_)
          ·
            refine Go.aloadN C d3_79 (q := 80) rfl rfl rfl ?_
            refine Go.iloadN C d3_80 (q := 81) rfl rfl ?_
            have F299 := (Nat.le_trans (Nat.le_trans (Nat.le_trans (Nat.le_trans Z0 E5.1) (Nat.le_of_eq W217.size.symm)) (Nat.le_of_eq W270.size.symm)) (Nat.le_of_eq W296.size.symm))
            refine Go.callS C (hw _ (List.mem_of_getElem? (i := 14) rfl)) (hw _ (List.mem_of_getElem? (i := 15) rfl)) (hw _ (List.mem_of_getElem? (i := 11) rfl)) (hw _ (List.mem_of_getElem? (i := 16) rfl)) (c_ex3 W.l Z a0 hw a2 h295 n0 (upd (upd (upd (fun _ => (0 : Int32)) 0 (-2147483648 : Int32)) 1 md) 2 (md + (1 : Int32))) F299 F297) d3_81 pd__40_91II_41_91I (q := 84) rfl rfl (argsL := [(.ref a2), (.int (3 : Int32))]) (st := []) rfl rfl (w := 0) rfl (by decide) (by decide) (k' := 2) rfl (n' := 8) rfl (by decide) (by decide) ?_
            intro v h300 q
            obtain ⟨a301, rfl, K302, g303, y304, F305⟩ := q
            have F306 := (Nat.le_trans (Nat.le_trans (Nat.le_trans (Nat.le_trans (Nat.le_refl h0.size) E5.1) (Nat.le_of_eq W217.size.symm)) (Nat.le_of_eq W270.size.symm)) (Nat.le_of_eq W296.size.symm))
            have y_a301 : h0.size ≤ a301 := Nat.le_trans F306 y304
            have ne307 : a2 ≠ a301 := Nat.ne_of_lt (Nat.lt_of_lt_of_le F297.lt y304)
            show Go W n0 (fun v h => ∃ a : Addr, v = some (.ref a) ∧ Keep h0 h [] ∧ n0 ≤ a ∧ h0.size ≤ a ∧ Av Z h a .int (own_sel b md).length (iF (own_at (own_sel b md)))) h300 2 8 84 #[.val (.int b), .val (.int md), .val (.ref a2), .val (.int (3 : Int32))] [(.ref a301)]
            have hsel : own_sel b md = [(-2147483648 : Int32), md, (md + (1 : Int32))] := by unfold own_sel; rw [if_neg b11, if_pos b219, if_neg b220, if_neg b272, if_pos b298]; rfl
            refine Go.retR C d3_84 rfl rfl rfl (by decide) (by decide) ⟨a301, rfl, ((((((Keep.refl h0 []).ext E5).wr W217 (Or.inr y10)).wr W270 (Or.inr y10)).wr W296 (Or.inr y10)).trans K302 all0), g303, y_a301, ?_⟩
            rw [hsel]
            exact F305
          ·
            refine Go.aloadN C d3_71 (q := 72) rfl rfl rfl ?_
            refine Go.iloadN C d3_72 (q := 73) rfl rfl ?_
            refine Go.ldcI C (hw _ (List.mem_of_getElem? (i := 22) rfl)) d3_73 (q := 75) rfl ?_
            refine Go.iastore C F297 3 (by decide) (by decide) (by decide) g9 d3_75 (q := 76) rfl ?_
            intro h308 W309
            have F310 := F297.sameI W309
            refine Go.iincR C d3_76 (q := 79) rfl rfl (l' := #[.val (.int b), .val (.int md), .val (.ref a2), .val (.int (4 : Int32))]) rfl ?_
            refine Go.aloadN C d3_79 (q := 80) rfl rfl rfl ?_
            refine Go.iloadN C d3_80 (q := 81) rfl rfl ?_
            have F311 := (Nat.le_trans (Nat.le_trans (Nat.le_trans (Nat.le_trans (Nat.le_trans Z0 E5.1) (Nat.le_of_eq W217.size.symm)) (Nat.le_of_eq W270.size.symm)) (Nat.le_of_eq W296.size.symm)) (Nat.le_of_eq W309.size.symm))
            refine Go.callS C (hw _ (List.mem_of_getElem? (i := 14) rfl)) (hw _ (List.mem_of_getElem? (i := 15) rfl)) (hw _ (List.mem_of_getElem? (i := 11) rfl)) (hw _ (List.mem_of_getElem? (i := 16) rfl)) (c_ex4 W.l Z a0 hw a2 h308 n0 (upd (upd (upd (upd (fun _ => (0 : Int32)) 0 (-2147483648 : Int32)) 1 md) 2 (md + (1 : Int32))) 3 (2147483647 : Int32)) F311 F310) d3_81 pd__40_91II_41_91I (q := 84) rfl rfl (argsL := [(.ref a2), (.int (4 : Int32))]) (st := []) rfl rfl (w := 0) rfl (by decide) (by decide) (k' := 2) rfl (n' := 9) rfl (by decide) (by decide) ?_
            intro v h312 q
            obtain ⟨a313, rfl, K314, g315, y316, F317⟩ := q
            have F318 := (Nat.le_trans (Nat.le_trans (Nat.le_trans (Nat.le_trans (Nat.le_trans (Nat.le_refl h0.size) E5.1) (Nat.le_of_eq W217.size.symm)) (Nat.le_of_eq W270.size.symm)) (Nat.le_of_eq W296.size.symm)) (Nat.le_of_eq W309.size.symm))
            have y_a313 : h0.size ≤ a313 := Nat.le_trans F318 y316
            have ne319 : a2 ≠ a313 := Nat.ne_of_lt (Nat.lt_of_lt_of_le F310.lt y316)
            show Go W n0 (fun v h => ∃ a : Addr, v = some (.ref a) ∧ Keep h0 h [] ∧ n0 ≤ a ∧ h0.size ≤ a ∧ Av Z h a .int (own_sel b md).length (iF (own_at (own_sel b md)))) h312 2 9 84 #[.val (.int b), .val (.int md), .val (.ref a2), .val (.int (4 : Int32))] [(.ref a313)]
            have hsel : own_sel b md = [(-2147483648 : Int32), md, (md + (1 : Int32)), (2147483647 : Int32)] := by unfold own_sel; rw [if_neg b11, if_pos b219, if_neg b220, if_neg b272, if_neg b298]; rfl
            refine Go.retR C d3_84 rfl rfl rfl (by decide) (by decide) ⟨a313, rfl, (((((((Keep.refl h0 []).ext E5).wr W217 (Or.inr y10)).wr W270 (Or.inr y10)).wr W296 (Or.inr y10)).wr W309 (Or.inr y10)).trans K314 all0), g315, y_a313, ?_⟩
            rw [hsel]
            exact F317
    ·
      refine Go.aloadN C d3_26 (q := 27) rfl rfl rfl ?_
      refine Go.iloadN C d3_27 (q := 28) rfl rfl ?_
      refine Go.iloadN C d3_28 (q := 29) rfl rfl ?_
      refine Go.iconst C (1 : Int32) d3_29 (q := 30) rfl rfl ?_
      refine Go.isub C d3_30 (q := 31) rfl ?_
      refine Go.iastore C F218 1 (by decide) (by decide) (by decide) g9 d3_31 (q := 32) rfl ?_
      intro h320 W321
      have F322 := F218.sameI W321
      refine Go.iincR C d3_32 (q := 35) rfl rfl (l' := #[.val (.int b), .val (.int md), .val (.ref a2), .val (.int (2 : Int32))]) rfl ?_
      refine Go.iloadN C d3_35 (q := 36) rfl rfl ?_
      refine Go.iconst C (4 : Int32) d3_36 (q := 37) rfl rfl ?_
      refine Go.iand C d3_37 (q := 38) rfl ?_
      refine Go.if0 C d3_38 (z_eq _) (qt := 48) (q := 41) (by decide) (by decide) rfl (fun b323 => ?_) (fun b323 => ?_)
      ·
        refine Go.iloadN C d3_48 (q := 49) rfl rfl ?_
        refine Go.bipush C (8 : Int32) d3_49 (q := 51) rfl rfl ?_
        refine Go.iand C d3_51 (q := 52) rfl ?_
        refine Go.if0 C d3_52 (z_eq _) (qt := 64) (q := 55) (by decide) (by decide) rfl (fun b324 => ?_) (fun b324 => ?_)
        ·
          refine Go.iloadN C d3_64 (q := 65) rfl rfl ?_
          refine Go.bipush C (16 : Int32) d3_65 (q := 67) rfl rfl ?_
          refine Go.iand C d3_67 (q := 68) rfl ?_
          refine Go.if0 C d3_68 (z_eq _) (qt := 79) (q := 71) (by decide) (by decide) rfl (fun b325 => ?_) (fun b325 => ?_)
          ·
            refine Go.aloadN C d3_79 (q := 80) rfl rfl rfl ?_
            refine Go.iloadN C d3_80 (q := 81) rfl rfl ?_
            have F326 := (Nat.le_trans (Nat.le_trans (Nat.le_trans Z0 E5.1) (Nat.le_of_eq W217.size.symm)) (Nat.le_of_eq W321.size.symm))
            refine Go.callS C (hw _ (List.mem_of_getElem? (i := 14) rfl)) (hw _ (List.mem_of_getElem? (i := 15) rfl)) (hw _ (List.mem_of_getElem? (i := 11) rfl)) (hw _ (List.mem_of_getElem? (i := 16) rfl)) (c_ex2 W.l Z a0 hw a2 h320 n0 (upd (upd (fun _ => (0 : Int32)) 0 (-2147483648 : Int32)) 1 (md - (1 : Int32))) F326 F322) d3_81 pd__40_91II_41_91I (q := 84) rfl rfl (argsL := [(.ref a2), (.int (2 : Int32))]) (st := []) rfl rfl (w := 0) rfl (by decide) (by decide) (k' := 2) rfl (n' := 7) rfl (by decide) (by decide) ?_
            intro v h327 q
            obtain ⟨a328, rfl, K329, g330, y331, F332⟩ := q
            have F333 := (Nat.le_trans (Nat.le_trans (Nat.le_trans (Nat.le_refl h0.size) E5.1) (Nat.le_of_eq W217.size.symm)) (Nat.le_of_eq W321.size.symm))
            have y_a328 : h0.size ≤ a328 := Nat.le_trans F333 y331
            have ne334 : a2 ≠ a328 := Nat.ne_of_lt (Nat.lt_of_lt_of_le F322.lt y331)
            show Go W n0 (fun v h => ∃ a : Addr, v = some (.ref a) ∧ Keep h0 h [] ∧ n0 ≤ a ∧ h0.size ≤ a ∧ Av Z h a .int (own_sel b md).length (iF (own_at (own_sel b md)))) h327 2 7 84 #[.val (.int b), .val (.int md), .val (.ref a2), .val (.int (2 : Int32))] [(.ref a328)]
            have hsel : own_sel b md = [(-2147483648 : Int32), (md - (1 : Int32))] := by unfold own_sel; rw [if_neg b11, if_neg b219, if_pos b323, if_pos b324, if_pos b325]; rfl
            refine Go.retR C d3_84 rfl rfl rfl (by decide) (by decide) ⟨a328, rfl, (((((Keep.refl h0 []).ext E5).wr W217 (Or.inr y10)).wr W321 (Or.inr y10)).trans K329 all0), g330, y_a328, ?_⟩
            rw [hsel]
            exact F332
          ·
            refine Go.aloadN C d3_71 (q := 72) rfl rfl rfl ?_
            refine Go.iloadN C d3_72 (q := 73) rfl rfl ?_
            refine Go.ldcI C (hw _ (List.mem_of_getElem? (i := 22) rfl)) d3_73 (q := 75) rfl ?_
            refine Go.iastore C F322 2 (by decide) (by decide) (by decide) g9 d3_75 (q := 76) rfl ?_
            intro h335 W336
            have F337 := F322.sameI W336
            refine Go.iincR C d3_76 (q := 79) rfl rfl (l' := #[.val (.int b), .val (.int md), .val (.ref a2), .val (.int (3 : Int32))]) rfl ?_
            refine Go.aloadN C d3_79 (q := 80) rfl rfl rfl ?_
            refine Go.iloadN C d3_80 (q := 81) rfl rfl ?_
            have F338 := (Nat.le_trans (Nat.le_trans (Nat.le_trans (Nat.le_trans Z0 E5.1) (Nat.le_of_eq W217.size.symm)) (Nat.le_of_eq W321.size.symm)) (Nat.le_of_eq W336.size.symm))
            refine Go.callS C (hw _ (List.mem_of_getElem? (i := 14) rfl)) (hw _ (List.mem_of_getElem? (i := 15) rfl)) (hw _ (List.mem_of_getElem? (i := 11) rfl)) (hw _ (List.mem_of_getElem? (i := 16) rfl)) (c_ex3 W.l Z a0 hw a2 h335 n0 (upd (upd (upd (fun _ => (0 : Int32)) 0 (-2147483648 : Int32)) 1 (md - (1 : Int32))) 2 (2147483647 : Int32)) F338 F337) d3_81 pd__40_91II_41_91I (q := 84) rfl rfl (argsL := [(.ref a2), (.int (3 : Int32))]) (st := []) rfl rfl (w := 0) rfl (by decide) (by decide) (k' := 2) rfl (n' := 8) rfl (by decide) (by decide) ?_
            intro v h339 q
            obtain ⟨a340, rfl, K341, g342, y343, F344⟩ := q
            have F345 := (Nat.le_trans (Nat.le_trans (Nat.le_trans (Nat.le_trans (Nat.le_refl h0.size) E5.1) (Nat.le_of_eq W217.size.symm)) (Nat.le_of_eq W321.size.symm)) (Nat.le_of_eq W336.size.symm))
            have y_a340 : h0.size ≤ a340 := Nat.le_trans F345 y343
            have ne346 : a2 ≠ a340 := Nat.ne_of_lt (Nat.lt_of_lt_of_le F337.lt y343)
            show Go W n0 (fun v h => ∃ a : Addr, v = some (.ref a) ∧ Keep h0 h [] ∧ n0 ≤ a ∧ h0.size ≤ a ∧ Av Z h a .int (own_sel b md).length (iF (own_at (own_sel b md)))) h339 2 8 84 #[.val (.int b), .val (.int md), .val (.ref a2), .val (.int (3 : Int32))] [(.ref a340)]
            have hsel : own_sel b md = [(-2147483648 : Int32), (md - (1 : Int32)), (2147483647 : Int32)] := by unfold own_sel; rw [if_neg b11, if_neg b219, if_pos b323, if_pos b324, if_neg b325]; rfl
            refine Go.retR C d3_84 rfl rfl rfl (by decide) (by decide) ⟨a340, rfl, ((((((Keep.refl h0 []).ext E5).wr W217 (Or.inr y10)).wr W321 (Or.inr y10)).wr W336 (Or.inr y10)).trans K341 all0), g342, y_a340, ?_⟩
            rw [hsel]
            exact F344
        ·
          refine Go.aloadN C d3_55 (q := 56) rfl rfl rfl ?_
          refine Go.iloadN C d3_56 (q := 57) rfl rfl ?_
          refine Go.iloadN C d3_57 (q := 58) rfl rfl ?_
          refine Go.iconst C (1 : Int32) d3_58 (q := 59) rfl rfl ?_
          refine Go.iadd C d3_59 (q := 60) rfl ?_
          refine Go.iastore C F322 2 (by decide) (by decide) (by decide) g9 d3_60 (q := 61) rfl ?_
          intro h347 W348
          have F349 := F322.sameI W348
          refine Go.iincR C d3_61 (q := 64) rfl rfl (l' := #[.val (.int b), .val (.int md), .val (.ref a2), .val (.int (3 : Int32))]) rfl ?_
          refine Go.iloadN C d3_64 (q := 65) rfl rfl ?_
          refine Go.bipush C (16 : Int32) d3_65 (q := 67) rfl rfl ?_
          refine Go.iand C d3_67 (q := 68) rfl ?_
          refine Go.if0 C d3_68 (z_eq _) (qt := 79) (q := 71) (by decide) (by decide) rfl (fun b350 => ?_) (fun b350 => ?_)
          ·
            refine Go.aloadN C d3_79 (q := 80) rfl rfl rfl ?_
            refine Go.iloadN C d3_80 (q := 81) rfl rfl ?_
            have F351 := (Nat.le_trans (Nat.le_trans (Nat.le_trans (Nat.le_trans Z0 E5.1) (Nat.le_of_eq W217.size.symm)) (Nat.le_of_eq W321.size.symm)) (Nat.le_of_eq W348.size.symm))
            refine Go.callS C (hw _ (List.mem_of_getElem? (i := 14) rfl)) (hw _ (List.mem_of_getElem? (i := 15) rfl)) (hw _ (List.mem_of_getElem? (i := 11) rfl)) (hw _ (List.mem_of_getElem? (i := 16) rfl)) (c_ex3 W.l Z a0 hw a2 h347 n0 (upd (upd (upd (fun _ => (0 : Int32)) 0 (-2147483648 : Int32)) 1 (md - (1 : Int32))) 2 (md + (1 : Int32))) F351 F349) d3_81 pd__40_91II_41_91I (q := 84) rfl rfl (argsL := [(.ref a2), (.int (3 : Int32))]) (st := []) rfl rfl (w := 0) rfl (by decide) (by decide) (k' := 2) rfl (n' := 8) rfl (by decide) (by decide) ?_
            intro v h352 q
            obtain ⟨a353, rfl, K354, g355, y356, F357⟩ := q
            have F358 := (Nat.le_trans (Nat.le_trans (Nat.le_trans (Nat.le_trans (Nat.le_refl h0.size) E5.1) (Nat.le_of_eq W217.size.symm)) (Nat.le_of_eq W321.size.symm)) (Nat.le_of_eq W348.size.symm))
            have y_a353 : h0.size ≤ a353 := Nat.le_trans F358 y356
            have ne359 : a2 ≠ a353 := Nat.ne_of_lt (Nat.lt_of_lt_of_le F349.lt y356)
            show Go W n0 (fun v h => ∃ a : Addr, v = some (.ref a) ∧ Keep h0 h [] ∧ n0 ≤ a ∧ h0.size ≤ a ∧ Av Z h a .int (own_sel b md).length (iF (own_at (own_sel b md)))) h352 2 8 84 #[.val (.int b), .val (.int md), .val (.ref a2), .val (.int (3 : Int32))] [(.ref a353)]
            have hsel : own_sel b md = [(-2147483648 : Int32), (md - (1 : Int32)), (md + (1 : Int32))] := by unfold own_sel; rw [if_neg b11, if_neg b219, if_pos b323, if_neg b324, if_pos b350]; rfl
            refine Go.retR C d3_84 rfl rfl rfl (by decide) (by decide) ⟨a353, rfl, ((((((Keep.refl h0 []).ext E5).wr W217 (Or.inr y10)).wr W321 (Or.inr y10)).wr W348 (Or.inr y10)).trans K354 all0), g355, y_a353, ?_⟩
            rw [hsel]
            exact F357
          ·
            refine Go.aloadN C d3_71 (q := 72) rfl rfl rfl ?_
            refine Go.iloadN C d3_72 (q := 73) rfl rfl ?_
            refine Go.ldcI C (hw _ (List.mem_of_getElem? (i := 22) rfl)) d3_73 (q := 75) rfl ?_
            refine Go.iastore C F349 3 (by decide) (by decide) (by decide) g9 d3_75 (q := 76) rfl ?_
            intro h360 W361
            have F362 := F349.sameI W361
            refine Go.iincR C d3_76 (q := 79) rfl rfl (l' := #[.val (.int b), .val (.int md), .val (.ref a2), .val (.int (4 : Int32))]) rfl ?_
            refine Go.aloadN C d3_79 (q := 80) rfl rfl rfl ?_
            refine Go.iloadN C d3_80 (q := 81) rfl rfl ?_
            have F363 := (Nat.le_trans (Nat.le_trans (Nat.le_trans (Nat.le_trans (Nat.le_trans Z0 E5.1) (Nat.le_of_eq W217.size.symm)) (Nat.le_of_eq W321.size.symm)) (Nat.le_of_eq W348.size.symm)) (Nat.le_of_eq W361.size.symm))
            refine Go.callS C (hw _ (List.mem_of_getElem? (i := 14) rfl)) (hw _ (List.mem_of_getElem? (i := 15) rfl)) (hw _ (List.mem_of_getElem? (i := 11) rfl)) (hw _ (List.mem_of_getElem? (i := 16) rfl)) (c_ex4 W.l Z a0 hw a2 h360 n0 (upd (upd (upd (upd (fun _ => (0 : Int32)) 0 (-2147483648 : Int32)) 1 (md - (1 : Int32))) 2 (md + (1 : Int32))) 3 (2147483647 : Int32)) F363 F362) d3_81 pd__40_91II_41_91I (q := 84) rfl rfl (argsL := [(.ref a2), (.int (4 : Int32))]) (st := []) rfl rfl (w := 0) rfl (by decide) (by decide) (k' := 2) rfl (n' := 9) rfl (by decide) (by decide) ?_
            intro v h364 q
            obtain ⟨a365, rfl, K366, g367, y368, F369⟩ := q
            have F370 := (Nat.le_trans (Nat.le_trans (Nat.le_trans (Nat.le_trans (Nat.le_trans (Nat.le_refl h0.size) E5.1) (Nat.le_of_eq W217.size.symm)) (Nat.le_of_eq W321.size.symm)) (Nat.le_of_eq W348.size.symm)) (Nat.le_of_eq W361.size.symm))
            have y_a365 : h0.size ≤ a365 := Nat.le_trans F370 y368
            have ne371 : a2 ≠ a365 := Nat.ne_of_lt (Nat.lt_of_lt_of_le F362.lt y368)
            show Go W n0 (fun v h => ∃ a : Addr, v = some (.ref a) ∧ Keep h0 h [] ∧ n0 ≤ a ∧ h0.size ≤ a ∧ Av Z h a .int (own_sel b md).length (iF (own_at (own_sel b md)))) h364 2 9 84 #[.val (.int b), .val (.int md), .val (.ref a2), .val (.int (4 : Int32))] [(.ref a365)]
            have hsel : own_sel b md = [(-2147483648 : Int32), (md - (1 : Int32)), (md + (1 : Int32)), (2147483647 : Int32)] := by unfold own_sel; rw [if_neg b11, if_neg b219, if_pos b323, if_neg b324, if_neg b350]; rfl
            refine Go.retR C d3_84 rfl rfl rfl (by decide) (by decide) ⟨a365, rfl, (((((((Keep.refl h0 []).ext E5).wr W217 (Or.inr y10)).wr W321 (Or.inr y10)).wr W348 (Or.inr y10)).wr W361 (Or.inr y10)).trans K366 all0), g367, y_a365, ?_⟩
            rw [hsel]
            exact F369
      ·
        refine Go.aloadN C d3_41 (q := 42) rfl rfl rfl ?_
        refine Go.iloadN C d3_42 (q := 43) rfl rfl ?_
        refine Go.iloadN C d3_43 (q := 44) rfl rfl ?_
        refine Go.iastore C F322 2 (by decide) (by decide) (by decide) g9 d3_44 (q := 45) rfl ?_
        intro h372 W373
        have F374 := F322.sameI W373
        refine Go.iincR C d3_45 (q := 48) rfl rfl (l' := #[.val (.int b), .val (.int md), .val (.ref a2), .val (.int (3 : Int32))]) rfl ?_
        refine Go.iloadN C d3_48 (q := 49) rfl rfl ?_
        refine Go.bipush C (8 : Int32) d3_49 (q := 51) rfl rfl ?_
        refine Go.iand C d3_51 (q := 52) rfl ?_
        refine Go.if0 C d3_52 (z_eq _) (qt := 64) (q := 55) (by decide) (by decide) rfl (fun b375 => ?_) (fun b375 => ?_)
        ·
          refine Go.iloadN C d3_64 (q := 65) rfl rfl ?_
          refine Go.bipush C (16 : Int32) d3_65 (q := 67) rfl rfl ?_
          refine Go.iand C d3_67 (q := 68) rfl ?_
          refine Go.if0 C d3_68 (z_eq _) (qt := 79) (q := 71) (by decide) (by decide) rfl (fun b376 => ?_) (fun b376 => ?_)
          ·
            refine Go.aloadN C d3_79 (q := 80) rfl rfl rfl ?_
            refine Go.iloadN C d3_80 (q := 81) rfl rfl ?_
            have F377 := (Nat.le_trans (Nat.le_trans (Nat.le_trans (Nat.le_trans Z0 E5.1) (Nat.le_of_eq W217.size.symm)) (Nat.le_of_eq W321.size.symm)) (Nat.le_of_eq W373.size.symm))
            refine Go.callS C (hw _ (List.mem_of_getElem? (i := 14) rfl)) (hw _ (List.mem_of_getElem? (i := 15) rfl)) (hw _ (List.mem_of_getElem? (i := 11) rfl)) (hw _ (List.mem_of_getElem? (i := 16) rfl)) (c_ex3 W.l Z a0 hw a2 h372 n0 (upd (upd (upd (fun _ => (0 : Int32)) 0 (-2147483648 : Int32)) 1 (md - (1 : Int32))) 2 md) F377 F374) d3_81 pd__40_91II_41_91I (q := 84) rfl rfl (argsL := [(.ref a2), (.int (3 : Int32))]) (st := []) rfl rfl (w := 0) rfl (by decide) (by decide) (k' := 2) rfl (n' := 8) rfl (by decide) (by decide) ?_
            intro v h378 q
            obtain ⟨a379, rfl, K380, g381, y382, F383⟩ := q
            have F384 := (Nat.le_trans (Nat.le_trans (Nat.le_trans (Nat.le_trans (Nat.le_refl h0.size) E5.1) (Nat.le_of_eq W217.size.symm)) (Nat.le_of_eq W321.size.symm)) (Nat.le_of_eq W373.size.symm))
            have y_a379 : h0.size ≤ a379 := Nat.le_trans F384 y382
            have ne385 : a2 ≠ a379 := Nat.ne_of_lt (Nat.lt_of_lt_of_le F374.lt y382)
            show Go W n0 (fun v h => ∃ a : Addr, v = some (.ref a) ∧ Keep h0 h [] ∧ n0 ≤ a ∧ h0.size ≤ a ∧ Av Z h a .int (own_sel b md).length (iF (own_at (own_sel b md)))) h378 2 8 84 #[.val (.int b), .val (.int md), .val (.ref a2), .val (.int (3 : Int32))] [(.ref a379)]
            have hsel : own_sel b md = [(-2147483648 : Int32), (md - (1 : Int32)), md] := by unfold own_sel; rw [if_neg b11, if_neg b219, if_neg b323, if_pos b375, if_pos b376]; rfl
            refine Go.retR C d3_84 rfl rfl rfl (by decide) (by decide) ⟨a379, rfl, ((((((Keep.refl h0 []).ext E5).wr W217 (Or.inr y10)).wr W321 (Or.inr y10)).wr W373 (Or.inr y10)).trans K380 all0), g381, y_a379, ?_⟩
            rw [hsel]
            exact F383
          ·
            refine Go.aloadN C d3_71 (q := 72) rfl rfl rfl ?_
            refine Go.iloadN C d3_72 (q := 73) rfl rfl ?_
            refine Go.ldcI C (hw _ (List.mem_of_getElem? (i := 22) rfl)) d3_73 (q := 75) rfl ?_
            refine Go.iastore C F374 3 (by decide) (by decide) (by decide) g9 d3_75 (q := 76) rfl ?_
            intro h386 W387
            have F388 := F374.sameI W387
            refine Go.iincR C d3_76 (q := 79) rfl rfl (l' := #[.val (.int b), .val (.int md), .val (.ref a2), .val (.int (4 : Int32))]) rfl ?_
            refine Go.aloadN C d3_79 (q := 80) rfl rfl rfl ?_
            refine Go.iloadN C d3_80 (q := 81) rfl rfl ?_
            have F389 := (Nat.le_trans (Nat.le_trans (Nat.le_trans (Nat.le_trans (Nat.le_trans Z0 E5.1) (Nat.le_of_eq W217.size.symm)) (Nat.le_of_eq W321.size.symm)) (Nat.le_of_eq W373.size.symm)) (Nat.le_of_eq W387.size.symm))
            refine Go.callS C (hw _ (List.mem_of_getElem? (i := 14) rfl)) (hw _ (List.mem_of_getElem? (i := 15) rfl)) (hw _ (List.mem_of_getElem? (i := 11) rfl)) (hw _ (List.mem_of_getElem? (i := 16) rfl)) (c_ex4 W.l Z a0 hw a2 h386 n0 (upd (upd (upd (upd (fun _ => (0 : Int32)) 0 (-2147483648 : Int32)) 1 (md - (1 : Int32))) 2 md) 3 (2147483647 : Int32)) F389 F388) d3_81 pd__40_91II_41_91I (q := 84) rfl rfl (argsL := [(.ref a2), (.int (4 : Int32))]) (st := []) rfl rfl (w := 0) rfl (by decide) (by decide) (k' := 2) rfl (n' := 9) rfl (by decide) (by decide) ?_
            intro v h390 q
            obtain ⟨a391, rfl, K392, g393, y394, F395⟩ := q
            have F396 := (Nat.le_trans (Nat.le_trans (Nat.le_trans (Nat.le_trans (Nat.le_trans (Nat.le_refl h0.size) E5.1) (Nat.le_of_eq W217.size.symm)) (Nat.le_of_eq W321.size.symm)) (Nat.le_of_eq W373.size.symm)) (Nat.le_of_eq W387.size.symm))
            have y_a391 : h0.size ≤ a391 := Nat.le_trans F396 y394
            have ne397 : a2 ≠ a391 := Nat.ne_of_lt (Nat.lt_of_lt_of_le F388.lt y394)
            show Go W n0 (fun v h => ∃ a : Addr, v = some (.ref a) ∧ Keep h0 h [] ∧ n0 ≤ a ∧ h0.size ≤ a ∧ Av Z h a .int (own_sel b md).length (iF (own_at (own_sel b md)))) h390 2 9 84 #[.val (.int b), .val (.int md), .val (.ref a2), .val (.int (4 : Int32))] [(.ref a391)]
            have hsel : own_sel b md = [(-2147483648 : Int32), (md - (1 : Int32)), md, (2147483647 : Int32)] := by unfold own_sel; rw [if_neg b11, if_neg b219, if_neg b323, if_pos b375, if_neg b376]; rfl
            refine Go.retR C d3_84 rfl rfl rfl (by decide) (by decide) ⟨a391, rfl, (((((((Keep.refl h0 []).ext E5).wr W217 (Or.inr y10)).wr W321 (Or.inr y10)).wr W373 (Or.inr y10)).wr W387 (Or.inr y10)).trans K392 all0), g393, y_a391, ?_⟩
            rw [hsel]
            exact F395
        ·
          refine Go.aloadN C d3_55 (q := 56) rfl rfl rfl ?_
          refine Go.iloadN C d3_56 (q := 57) rfl rfl ?_
          refine Go.iloadN C d3_57 (q := 58) rfl rfl ?_
          refine Go.iconst C (1 : Int32) d3_58 (q := 59) rfl rfl ?_
          refine Go.iadd C d3_59 (q := 60) rfl ?_
          refine Go.iastore C F374 3 (by decide) (by decide) (by decide) g9 d3_60 (q := 61) rfl ?_
          intro h398 W399
          have F400 := F374.sameI W399
          refine Go.iincR C d3_61 (q := 64) rfl rfl (l' := #[.val (.int b), .val (.int md), .val (.ref a2), .val (.int (4 : Int32))]) rfl ?_
          refine Go.iloadN C d3_64 (q := 65) rfl rfl ?_
          refine Go.bipush C (16 : Int32) d3_65 (q := 67) rfl rfl ?_
          refine Go.iand C d3_67 (q := 68) rfl ?_
          refine Go.if0 C d3_68 (z_eq _) (qt := 79) (q := 71) (by decide) (by decide) rfl (fun b401 => ?_) (fun b401 => ?_)
          ·
            refine Go.aloadN C d3_79 (q := 80) rfl rfl rfl ?_
            refine Go.iloadN C d3_80 (q := 81) rfl rfl ?_
            have F402 := (Nat.le_trans (Nat.le_trans (Nat.le_trans (Nat.le_trans (Nat.le_trans Z0 E5.1) (Nat.le_of_eq W217.size.symm)) (Nat.le_of_eq W321.size.symm)) (Nat.le_of_eq W373.size.symm)) (Nat.le_of_eq W399.size.symm))
            refine Go.callS C (hw _ (List.mem_of_getElem? (i := 14) rfl)) (hw _ (List.mem_of_getElem? (i := 15) rfl)) (hw _ (List.mem_of_getElem? (i := 11) rfl)) (hw _ (List.mem_of_getElem? (i := 16) rfl)) (c_ex4 W.l Z a0 hw a2 h398 n0 (upd (upd (upd (upd (fun _ => (0 : Int32)) 0 (-2147483648 : Int32)) 1 (md - (1 : Int32))) 2 md) 3 (md + (1 : Int32))) F402 F400) d3_81 pd__40_91II_41_91I (q := 84) rfl rfl (argsL := [(.ref a2), (.int (4 : Int32))]) (st := []) rfl rfl (w := 0) rfl (by decide) (by decide) (k' := 2) rfl (n' := 9) rfl (by decide) (by decide) ?_
            intro v h403 q
            obtain ⟨a404, rfl, K405, g406, y407, F408⟩ := q
            have F409 := (Nat.le_trans (Nat.le_trans (Nat.le_trans (Nat.le_trans (Nat.le_trans (Nat.le_refl h0.size) E5.1) (Nat.le_of_eq W217.size.symm)) (Nat.le_of_eq W321.size.symm)) (Nat.le_of_eq W373.size.symm)) (Nat.le_of_eq W399.size.symm))
            have y_a404 : h0.size ≤ a404 := Nat.le_trans F409 y407
            have ne410 : a2 ≠ a404 := Nat.ne_of_lt (Nat.lt_of_lt_of_le F400.lt y407)
            show Go W n0 (fun v h => ∃ a : Addr, v = some (.ref a) ∧ Keep h0 h [] ∧ n0 ≤ a ∧ h0.size ≤ a ∧ Av Z h a .int (own_sel b md).length (iF (own_at (own_sel b md)))) h403 2 9 84 #[.val (.int b), .val (.int md), .val (.ref a2), .val (.int (4 : Int32))] [(.ref a404)]
            have hsel : own_sel b md = [(-2147483648 : Int32), (md - (1 : Int32)), md, (md + (1 : Int32))] := by unfold own_sel; rw [if_neg b11, if_neg b219, if_neg b323, if_neg b375, if_pos b401]; rfl
            refine Go.retR C d3_84 rfl rfl rfl (by decide) (by decide) ⟨a404, rfl, (((((((Keep.refl h0 []).ext E5).wr W217 (Or.inr y10)).wr W321 (Or.inr y10)).wr W373 (Or.inr y10)).wr W399 (Or.inr y10)).trans K405 all0), g406, y_a404, ?_⟩
            rw [hsel]
            exact F408
          ·
            refine Go.aloadN C d3_71 (q := 72) rfl rfl rfl ?_
            refine Go.iloadN C d3_72 (q := 73) rfl rfl ?_
            refine Go.ldcI C (hw _ (List.mem_of_getElem? (i := 22) rfl)) d3_73 (q := 75) rfl ?_
            refine Go.iastore C F400 4 (by decide) (by decide) (by decide) g9 d3_75 (q := 76) rfl ?_
            intro h411 W412
            have F413 := F400.sameI W412
            refine Go.iincR C d3_76 (q := 79) rfl rfl (l' := #[.val (.int b), .val (.int md), .val (.ref a2), .val (.int (5 : Int32))]) rfl ?_
            refine Go.aloadN C d3_79 (q := 80) rfl rfl rfl ?_
            refine Go.iloadN C d3_80 (q := 81) rfl rfl ?_
            have F414 := (Nat.le_trans (Nat.le_trans (Nat.le_trans (Nat.le_trans (Nat.le_trans (Nat.le_trans Z0 E5.1) (Nat.le_of_eq W217.size.symm)) (Nat.le_of_eq W321.size.symm)) (Nat.le_of_eq W373.size.symm)) (Nat.le_of_eq W399.size.symm)) (Nat.le_of_eq W412.size.symm))
            refine Go.callS C (hw _ (List.mem_of_getElem? (i := 14) rfl)) (hw _ (List.mem_of_getElem? (i := 15) rfl)) (hw _ (List.mem_of_getElem? (i := 11) rfl)) (hw _ (List.mem_of_getElem? (i := 16) rfl)) (c_ex5 W.l Z a0 hw a2 h411 n0 (upd (upd (upd (upd (upd (fun _ => (0 : Int32)) 0 (-2147483648 : Int32)) 1 (md - (1 : Int32))) 2 md) 3 (md + (1 : Int32))) 4 (2147483647 : Int32)) F414 F413) d3_81 pd__40_91II_41_91I (q := 84) rfl rfl (argsL := [(.ref a2), (.int (5 : Int32))]) (st := []) rfl rfl (w := 0) rfl (by decide) (by decide) (k' := 2) rfl (n' := 10) rfl (by decide) (by decide) ?_
            intro v h415 q
            obtain ⟨a416, rfl, K417, g418, y419, F420⟩ := q
            have F421 := (Nat.le_trans (Nat.le_trans (Nat.le_trans (Nat.le_trans (Nat.le_trans (Nat.le_trans (Nat.le_refl h0.size) E5.1) (Nat.le_of_eq W217.size.symm)) (Nat.le_of_eq W321.size.symm)) (Nat.le_of_eq W373.size.symm)) (Nat.le_of_eq W399.size.symm)) (Nat.le_of_eq W412.size.symm))
            have y_a416 : h0.size ≤ a416 := Nat.le_trans F421 y419
            have ne422 : a2 ≠ a416 := Nat.ne_of_lt (Nat.lt_of_lt_of_le F413.lt y419)
            show Go W n0 (fun v h => ∃ a : Addr, v = some (.ref a) ∧ Keep h0 h [] ∧ n0 ≤ a ∧ h0.size ≤ a ∧ Av Z h a .int (own_sel b md).length (iF (own_at (own_sel b md)))) h415 2 10 84 #[.val (.int b), .val (.int md), .val (.ref a2), .val (.int (5 : Int32))] [(.ref a416)]
            have hsel : own_sel b md = [(-2147483648 : Int32), (md - (1 : Int32)), md, (md + (1 : Int32)), (2147483647 : Int32)] := by unfold own_sel; rw [if_neg b11, if_neg b219, if_neg b323, if_neg b375, if_neg b401]; rfl
            refine Go.retR C d3_84 rfl rfl rfl (by decide) (by decide) ⟨a416, rfl, ((((((((Keep.refl h0 []).ext E5).wr W217 (Or.inr y10)).wr W321 (Or.inr y10)).wr W373 (Or.inr y10)).wr W399 (Or.inr y10)).wr W412 (Or.inr y10)).trans K417 all0), g418, y_a416, ?_⟩
            rw [hsel]
            exact F420
def own_adv : List Int32 → Int32 → List Int32
  | [], _ => []
  | a :: r, v => if a < v then own_adv r v else a :: r
def own_ca : List Int32 → List Int32 → Bool
  | _, [] => true
  | A, v :: r => match own_adv A v with
    | [] => false
    | a :: s => if a = v then own_ca (a :: s) r else false
theorem own_ca1 (A r : List Int32) (v a : Int32) (s : List Int32) (h : own_adv A v = a :: s) : own_ca A (v :: r) = if a = v then own_ca (a :: s) r else false := by rw [own_ca, h]
theorem own_ca0 (A r : List Int32) (v : Int32) (h : own_adv A v = []) : own_ca A (v :: r) = false := by rw [own_ca, h]
theorem own_dropc (A : List Int32) (i : Nat) (h : i < A.length) : A.drop i = own_at A i :: A.drop (i + 1) := by
  rw [List.drop_eq_getElem_cons h]
  congr 1
  unfold own_at
  rw [List.getD_eq_getElem?_getD, List.getElem?_eq_getElem h]
  rfl
theorem own_olt (i n : Nat) (hi : i < 1000) (hn : n < 1000) : (Int32.ofNat i < Int32.ofNat n) ↔ i < n := by
  rw [Int32.lt_iff_toInt_lt, Int32.toInt_ofNat_small (by omega), Int32.toInt_ofNat_small (by omega)]
  omega
theorem own_oeq (i n : Nat) (hi : i < 1000) (hn : n < 1000) : (Int32.ofNat i = Int32.ofNat n) ↔ i = n := by
  refine ⟨fun q => ?_, fun q => by rw [q]⟩
  have := congrArg Int32.toInt q
  rw [Int32.toInt_ofNat_small (by omega), Int32.toInt_ofNat_small (by omega)] at this
  omega
theorem own_onn (i : Nat) (hi : i < 1000) : (Int32.ofNat i).toNatClampNeg = i ∧ ¬ Int32.ofNat i < 0 := by
  have e := @Int32.toInt_ofNat_small i (by omega)
  refine ⟨?_, fun q => ?_⟩
  · show (Int32.ofNat i).toInt.toNat = i
    rw [e]; omega
  · rw [Int32.lt_iff_toInt_lt, e] at q
    have e0 : (0 : Int32).toInt = 0 := rfl
    omega
theorem own_osu (i : Nat) (h : i < 1000) : Int32.ofNat i + (1 : Int32) = Int32.ofNat (i + 1) := by
  apply Int32.toInt_inj.mp
  have c := c_iadd (Int32.ofNat i) 1
  have r := rng32 (Int32.ofNat i + 1)
  rw [Int32.toInt_ofNat_small (by omega)] at c ⊢
  have e1 : (1 : Int32).toInt = 1 := rfl
  omega
theorem own_st6 (x y : Addr) (i n k v : Int32) (s6 : Slot) (h : One s6) : storeLocals #[.val (.ref x), .val (.ref y), .val (.int i), .val (.ref y), .val (.int n), .val (.int k), s6] 6 (.int v) = some #[.val (.ref x), .val (.ref y), .val (.int i), .val (.ref y), .val (.int n), .val (.int k), .val (.int v)] := by
  rcases h with rfl | ⟨w, rfl, hw⟩
  · rfl
  · cases w <;> first | rfl | (simp [Value.category] at hw)
set_option maxRecDepth 65536 in
theorem lp_in (Z : State) (a0 : Array Value) (hw : ∀ d ∈ tables_1, d.before a0 Z = true) (W : Wk) (rm : Room) (C : Cx Z W rm "com/example/tolerant_query/tolerantquery/IntSets" "containsAll" prog_11_method_2_code 7 (some .boolean)) (h0 : Heap) (n0 k n : Nat) (Q : Option Value → Heap → Prop) (hk : k ≤ rm.cells) (hn : n ≤ rm.slots) (x y : Addr) (A B : List Int32) (hA : A.length < 900) (hB : B.length < 900) (Ax : Av Z h0 x .int A.length (iF (own_at A))) (Ay : Av Z h0 y .int B.length (iF (own_at B))) (kv v : Int32) : ∀ (r i : Nat), i + r = A.length → (∀ i', i' ≤ A.length → A.drop i' = own_adv (A.drop i) v → Go W n0 Q h0 k n 51 #[.val (.ref x), .val (.ref y), .val (.int (Int32.ofNat i')), .val (.ref y), .val (.int (Int32.ofNat B.length)), .val (.int kv), .val (.int v)] []) → Go W n0 Q h0 k n 31 #[.val (.ref x), .val (.ref y), .val (.int (Int32.ofNat i)), .val (.ref y), .val (.int (Int32.ofNat B.length)), .val (.int kv), .val (.int v)] [] := by
  intro r
  induction r with
  | zero =>
    intro i hir hr
    have hlt : ¬ Int32.ofNat i < Int32.ofNat A.length := fun q => by have := (own_olt i A.length (by omega) (by omega)).mp q; omega
    refine Go.iloadN C d5_31 (q := 32) rfl rfl ?_
    refine Go.aloadN C d5_32 (q := 33) rfl rfl rfl ?_
    refine Go.alen C Ax d5_33 (q := 34) rfl ?_
    refine Go.icmp C d5_34 (n_ge _ _) (qt := 51) (q := 37) (by decide) (by decide) rfl (fun _ => ?_) (fun b1 => absurd hlt b1)
    exact hr i (by omega) (by rw [show i = A.length by omega, List.drop_length]; rfl)
  | succ r ih =>
    intro i hir hr
    have hlt : Int32.ofNat i < Int32.ofNat A.length := (own_olt i A.length (by omega) (by omega)).mpr (by omega)
    refine Go.iloadN C d5_31 (q := 32) rfl rfl ?_
    refine Go.aloadN C d5_32 (q := 33) rfl rfl rfl ?_
    refine Go.alen C Ax d5_33 (q := 34) rfl ?_
    refine Go.icmp C d5_34 (n_ge _ _) (qt := 51) (q := 37) (by decide) (by decide) rfl (fun b1 => absurd hlt b1) (fun _ => ?_)
    refine Go.aloadN C d5_37 (q := 38) rfl rfl rfl ?_
    refine Go.iloadN C d5_38 (q := 39) rfl rfl ?_
    refine Go.iaload C Ax i (v := (.int (own_at A i))) (own_onn i (by omega)).1 (own_onn i (by omega)).2 (by omega) rfl d5_39 (q := 40) rfl ?_
    refine Go.iload C d5_40 (q := 42) rfl rfl ?_
    refine Go.icmp C d5_42 (n_ge _ _) (qt := 51) (q := 45) (by decide) (by decide) rfl (fun b2 => ?_) (fun b2 => ?_)
    ·
      exact hr i (by omega) (by rw [own_dropc A i (by omega)]; exact (if_neg b2).symm)
    ·
      have b2 := Classical.not_not.mp b2
      refine Go.iinc C d5_45 (q := 48) rfl rfl (y := (1 : Int32)) rfl (fun z => #[.val (.ref x), .val (.ref y), .val (.int z), .val (.ref y), .val (.int (Int32.ofNat B.length)), .val (.int kv), .val (.int v)]) (fun _ => rfl) ?_
      intro v3 hv3
      refine Go.goto C d5_48 (q := 31) (by decide) (by decide) ?_
      have e5 : v3 = Int32.ofNat (i + 1) := hv3.trans (own_osu i (by omega))
      rw [e5]
      exact ih (i + 1) (by omega) (fun i' hi' e' => hr i' hi' (by rw [own_dropc A i (by omega)]; exact e'.trans (if_pos b2).symm))
set_option maxRecDepth 65536 in
theorem lp_out (Z : State) (a0 : Array Value) (hw : ∀ d ∈ tables_1, d.before a0 Z = true) (W : Wk) (rm : Room) (C : Cx Z W rm "com/example/tolerant_query/tolerantquery/IntSets" "containsAll" prog_11_method_2_code 7 (some .boolean)) (h0 : Heap) (n0 k n : Nat) (Q : Option Value → Heap → Prop) (hk : k ≤ rm.cells) (hn : n ≤ rm.slots) (x y : Addr) (A B : List Int32) (hA : A.length < 900) (hB : B.length < 900) (Ax : Av Z h0 x .int A.length (iF (own_at A))) (Ay : Av Z h0 y .int B.length (iF (own_at B))) : ∀ (r kk i : Nat) (s6 : Slot), kk + r = B.length → i ≤ A.length → One s6 → Q (some (.int (if own_ca (A.drop i) (B.drop kk) then 1 else 0))) h0 → Go W n0 Q h0 k n 18 #[.val (.ref x), .val (.ref y), .val (.int (Int32.ofNat i)), .val (.ref y), .val (.int (Int32.ofNat B.length)), .val (.int (Int32.ofNat kk)), s6] [] := by
  intro r
  induction r with
  | zero =>
    intro kk i s6 hir hi hs6 hQ
    have hlt : ¬ Int32.ofNat kk < Int32.ofNat B.length := fun q => by have := (own_olt kk B.length (by omega) (by omega)).mp q; omega
    refine Go.iload C d5_18 (q := 20) rfl rfl ?_
    refine Go.iload C d5_20 (q := 22) rfl rfl ?_
    refine Go.icmp C d5_22 (n_ge _ _) (qt := 73) (q := 25) (by decide) (by decide) rfl (fun _ => ?_) (fun b1 => absurd hlt b1)
    refine Go.iconst C (1 : Int32) d5_73 (q := 74) rfl rfl ?_
    exact Go.retZ (t := .boolean) (by simp) C d5_74 hk hn (by rw [show kk = B.length by omega, List.drop_length, own_ca] at hQ; exact hQ)
  | succ r ih =>
    intro kk i s6 hir hi hs6 hQ
    have hlt : Int32.ofNat kk < Int32.ofNat B.length := (own_olt kk B.length (by omega) (by omega)).mpr (by omega)
    refine Go.iload C d5_18 (q := 20) rfl rfl ?_
    refine Go.iload C d5_20 (q := 22) rfl rfl ?_
    refine Go.icmp C d5_22 (n_ge _ _) (qt := 73) (q := 25) (by decide) (by decide) rfl (fun b1 => absurd hlt b1) (fun _ => ?_)
    refine Go.aloadN C d5_25 (q := 26) rfl rfl rfl ?_
    refine Go.iload C d5_26 (q := 28) rfl rfl ?_
    refine Go.iaload C Ay kk (v := (.int (own_at B kk))) (own_onn kk (by omega)).1 (own_onn kk (by omega)).2 (by omega) rfl d5_28 (q := 29) rfl ?_
    refine Go.istore C d5_29 (q := 31) rfl (fun z => #[.val (.ref x), .val (.ref y), .val (.int (Int32.ofNat i)), .val (.ref y), .val (.int (Int32.ofNat B.length)), .val (.int (Int32.ofNat kk)), .val (.int z)]) (fun z => own_st6 x y _ _ _ z s6 hs6) ?_
    intro v2 hv2
    refine lp_in Z a0 hw W rm C h0 n0 k n Q hk hn x y A B hA hB Ax Ay (Int32.ofNat kk) v2 (A.length - i) i (by omega) (fun i' hi' e' => ?_)
    rw [own_dropc B kk (by omega), ← hv2] at hQ
    refine Go.iloadN C d5_51 (q := 52) rfl rfl ?_
    refine Go.aloadN C d5_52 (q := 53) rfl rfl rfl ?_
    refine Go.alen C Ax d5_53 (q := 54) rfl ?_
    refine Go.icmp C d5_54 (n_eq _ _) (qt := 65) (q := 57) (by decide) (by decide) rfl (fun b3 => ?_) (fun b3 => ?_)
    ·
      refine Go.iconst C (0 : Int32) d5_65 (q := 66) rfl rfl ?_
      exact Go.retZ (t := .boolean) (by simp) C d5_66 hk hn (by rw [own_ca0 _ _ _ (e'.symm.trans (by rw [show i' = A.length from (own_oeq i' A.length (by omega) (by omega)).mp b3, List.drop_length]))] at hQ; exact hQ)
    ·
      have hl : i' < A.length := Nat.lt_of_le_of_ne hi' (fun q => b3 ((own_oeq i' A.length (by omega) (by omega)).mpr q))
      refine Go.aloadN C d5_57 (q := 58) rfl rfl rfl ?_
      refine Go.iloadN C d5_58 (q := 59) rfl rfl ?_
      refine Go.iaload C Ax i' (v := (.int (own_at A i'))) (own_onn i' (by omega)).1 (own_onn i' (by omega)).2 hl rfl d5_59 (q := 60) rfl ?_
      refine Go.iload C d5_60 (q := 62) rfl rfl ?_
      refine Go.icmp C d5_62 (n_eq _ _) (qt := 67) (q := 65) (by decide) (by decide) rfl (fun b4 => ?_) (fun b4 => ?_)
      ·
        refine Go.iinc C d5_67 (q := 70) rfl rfl (y := (1 : Int32)) rfl (fun z => #[.val (.ref x), .val (.ref y), .val (.int (Int32.ofNat i')), .val (.ref y), .val (.int (Int32.ofNat B.length)), .val (.int z), .val (.int v2)]) (fun _ => rfl) ?_
        intro v5 hv5
        refine Go.goto C d5_70 (q := 18) (by decide) (by decide) ?_
        have e5 : v5 = Int32.ofNat (kk + 1) := hv5.trans (own_osu kk (by omega))
        rw [e5]
        refine ih (kk + 1) i' _ (by omega) (by omega) (One.val rfl) ?_
        rw [own_ca1 _ _ _ _ _ (e'.symm.trans (own_dropc A i' hl)), if_pos b4, ← own_dropc A i' hl] at hQ
        exact hQ
      ·
        refine Go.iconst C (0 : Int32) d5_65 (q := 66) rfl rfl ?_
        exact Go.retZ (t := .boolean) (by simp) C d5_66 hk hn (by rw [own_ca1 _ _ _ _ _ (e'.symm.trans (own_dropc A i' hl)), if_neg b4] at hQ; exact hQ)
set_option maxRecDepth 65536 in
theorem c_ca (l : Launch) (Z : State) (a0 : Array Value) (hw : ∀ d ∈ tables_1, d.before a0 Z = true) (x : Addr) (y : Addr) (h0 : Heap) (n0 : Nat) (A B : List Int32) (Z0 : n0 ≤ h0.size) (hA : A.length < 900) (hB : B.length < 900) (Ax : Av Z h0 x .int A.length (iF (own_at A))) (Ay : Av Z h0 y .int B.length (iF (own_at B))) (ne0 : x ≠ y) : Met1 l Z (⟨"com/example/tolerant_query/tolerantquery/IntSets", "containsAll", "([I[I)Z"⟩ : MethodName) prog_11_method_2_code 7 (some .boolean) [] ({ frames := 0, cells := 0, slots := 0, locals := 0 } : Room) #[(.ref x), (.ref y)] h0 n0 (Ret (.int (if own_ca A B then 1 else 0)) h0) := by
  refine met_of_go (plainFor_of_name pn_com_example_tolerant_query_tolerantquery_IntSets) (fun m => ef_5 m x y) ?_
  intro W hl C
  subst hl
  refine Go.aloadN C d5_0 (q := 1) rfl rfl rfl ?_
  refine Go.aloadN C d5_1 (q := 2) rfl rfl rfl ?_
  refine Go.acmp C d5_2 (x := (.ref y)) (y := (.ref x)) rfl rfl (decide_eq_false (fun e => (Ne.symm ne0) (Value.ref.inj e))) (by decide) (q := 7) rfl ?_
  refine Go.iconst C (0 : Int32) d5_7 (q := 8) rfl rfl ?_
  refine Go.istoreNR C d5_8 (q := 9) rfl (l' := #[.val (.ref x), .val (.ref y), .val (.int (0 : Int32)), .unset, .unset, .unset, .unset]) rfl ?_
  refine Go.aloadN C d5_9 (q := 10) rfl rfl rfl ?_
  refine Go.astoreN C d5_10 (q := 11) rfl (l' := #[.val (.ref x), .val (.ref y), .val (.int (0 : Int32)), .val (.ref y), .unset, .unset, .unset]) rfl rfl ?_
  refine Go.aloadN C d5_11 (q := 12) rfl rfl rfl ?_
  refine Go.alen C Ay d5_12 (q := 13) rfl ?_
  refine Go.istoreR C d5_13 (q := 15) rfl (l' := #[.val (.ref x), .val (.ref y), .val (.int (0 : Int32)), .val (.ref y), .val (.int (Int32.ofNat B.length)), .unset, .unset]) rfl ?_
  refine Go.iconst C (0 : Int32) d5_15 (q := 16) rfl rfl ?_
  refine Go.istoreR C d5_16 (q := 18) rfl (l' := #[.val (.ref x), .val (.ref y), .val (.int (0 : Int32)), .val (.ref y), .val (.int (Int32.ofNat B.length)), .val (.int (0 : Int32)), .unset]) rfl ?_
  exact lp_out Z a0 hw W _ C h0 n0 _ _ _ (by decide) (by decide) x y A B hA hB Ax Ay B.length 0 0 .unset (by omega) (Nat.zero_le _) One.u ⟨rfl, rfl⟩
theorem ef_s (m : MethodId) (x : Addr) : entryFrame m #[(.ref x), (.ref x)] 7 = mkF m 0 #[.val (.ref x), .val (.ref x), .unset, .unset, .unset, .unset, .unset] [] := by first | (simp [entryFrame, mkF, argsToLocals, Value.category]; done) | rfl
theorem c_same (l : Launch) (Z : State) (a0 : Array Value) (hw : ∀ d ∈ tables_1, d.before a0 Z = true) (x : Addr) (h0 : Heap) (n0 : Nat) : Met1 l Z (⟨"com/example/tolerant_query/tolerantquery/IntSets", "containsAll", "([I[I)Z"⟩ : MethodName) prog_11_method_2_code 7 (some .boolean) [] ({ frames := 0, cells := 0, slots := 0, locals := 0 } : Room) #[(.ref x), (.ref x)] h0 n0 (Ret (.int 1) h0) := by
  refine met_of_go (plainFor_of_name pn_com_example_tolerant_query_tolerantquery_IntSets) (fun m => ef_s m x) ?_
  intro W hl C
  subst hl
  refine Go.aloadN C d5_0 (q := 1) rfl rfl rfl ?_
  refine Go.aloadN C d5_1 (q := 2) rfl rfl rfl ?_
  refine Go.acmp C d5_2 (x := (.ref x)) (y := (.ref x)) rfl rfl (decide_eq_true rfl) (by decide) (q := 5) rfl ?_
  refine Go.iconst C (1 : Int32) d5_5 (q := 6) rfl rfl ?_
  exact Go.retZ (t := .boolean) (by simp) C d5_6 (by decide) (by decide) ⟨rfl, rfl⟩
theorem own_len (b m : Int32) : (own_sel b m).length < 900 := by
  unfold own_sel
  simp only [List.length_append]
  have k : ∀ (P : Prop) [Decidable P] (x : Int32), (if P then ([] : List Int32) else [x]).length ≤ 1 := fun P _ x => by split <;> simp
  have k1 := k ((b &&& (1 : Int32)) = 0) (-2147483648 : Int32)
  have k2 := k ((b &&& (2 : Int32)) = 0) (m - 1)
  have k3 := k ((b &&& (4 : Int32)) = 0) m
  have k4 := k ((b &&& (8 : Int32)) = 0) (m + 1)
  have k5 := k ((b &&& (16 : Int32)) = 0) (2147483647 : Int32)
  omega
def own_rk (s : Nat) : List Nat := (if s % 2 = 0 then [] else [0]) ++ ((if s / 2 % 2 = 0 then [] else [1]) ++ ((if s / 4 % 2 = 0 then [] else [2]) ++ ((if s / 8 % 2 = 0 then [] else [3]) ++ (if s / 16 % 2 = 0 then [] else [4]))))
def own_c (m : Int32) : Nat → Int32 := fun k => [(-2147483648 : Int32), m - 1, m, m + 1, (2147483647 : Int32)].getD k 0
theorem own_bit : ∀ s : Fin 32, (((Int32.ofNat s.val &&& (1 : Int32)) = 0) ↔ s.val % 2 = 0) ∧ (((Int32.ofNat s.val &&& (2 : Int32)) = 0) ↔ s.val / 2 % 2 = 0) ∧ (((Int32.ofNat s.val &&& (4 : Int32)) = 0) ↔ s.val / 4 % 2 = 0) ∧ (((Int32.ofNat s.val &&& (8 : Int32)) = 0) ↔ s.val / 8 % 2 = 0) ∧ (((Int32.ofNat s.val &&& (16 : Int32)) = 0) ↔ s.val / 16 % 2 = 0) := by decide +kernel
theorem own_selm (m : Int32) (s : Fin 32) : own_sel (Int32.ofNat s.val) m = (own_rk s.val).map (own_c m) := by
  obtain ⟨h1, h2, h3, h4, h5⟩ := own_bit s
  have k : ∀ (P Q : Prop) [Decidable P] [Decidable Q] (x : Int32) (y : Nat) (e : P ↔ Q) (hx : own_c m y = x), (if P then ([] : List Int32) else [x]) = (if Q then ([] : List Nat) else [y]).map (own_c m) := fun P Q _ _ x y e hx => by
    by_cases q : Q
    · rw [if_pos q, if_pos (e.mpr q)]; rfl
    · rw [if_neg q, if_neg (fun z => q (e.mp z)), ← hx]; rfl
  unfold own_sel own_rk
  rw [List.map_append, List.map_append, List.map_append, List.map_append, k _ _ (-2147483648 : Int32) 0 h1 rfl, k _ _ (m - 1) 1 h2 rfl, k _ _ m 2 h3 rfl, k _ _ (m + 1) 3 h4 rfl, k _ _ (2147483647 : Int32) 4 h5 rfl]
def own_advN : List Nat → Nat → List Nat
  | [], _ => []
  | a :: r, v => if a < v then own_advN r v else a :: r
def own_caN : List Nat → List Nat → Bool
  | _, [] => true
  | A, v :: r => match own_advN A v with
    | [] => false
    | a :: s => if a = v then own_caN (a :: s) r else false
theorem own_advm (c : Nat → Int32) (hl : ∀ i j, i < 5 → j < 5 → (c i < c j ↔ i < j)) (v : Nat) (hv : v < 5) : ∀ R : List Nat, (∀ a ∈ R, a < 5) → own_adv (R.map c) (c v) = (own_advN R v).map c ∧ ∀ a ∈ own_advN R v, a < 5
  | [], _ => ⟨rfl, fun a h => nomatch h⟩
  | a :: r, h => by
    have ha := h a (List.mem_cons_self ..)
    have ih := own_advm c hl v hv r (fun b hb => h b (List.mem_cons_of_mem _ hb))
    show (if c a < c v then own_adv (r.map c) (c v) else c a :: r.map c) = (if a < v then own_advN r v else a :: r).map c ∧ ∀ b ∈ (if a < v then own_advN r v else a :: r), b < 5
    by_cases q : a < v
    · rw [if_pos q, if_pos ((hl a v ha hv).mpr q)]; exact ih
    · rw [if_neg q, if_neg (fun z => q ((hl a v ha hv).mp z))]; exact ⟨rfl, h⟩
theorem own_cam (c : Nat → Int32) (hl : ∀ i j, i < 5 → j < 5 → (c i < c j ↔ i < j)) (he : ∀ i j, i < 5 → j < 5 → (c i = c j ↔ i = j)) : ∀ (T R : List Nat), (∀ a ∈ R, a < 5) → (∀ a ∈ T, a < 5) → own_ca (R.map c) (T.map c) = own_caN R T
  | [], R, _, _ => by rw [List.map_nil, own_ca, own_caN]
  | v :: r, R, hR, hT => by
    have hv := hT v (List.mem_cons_self ..)
    obtain ⟨e1, e2⟩ := own_advm c hl v hv R hR
    rw [List.map_cons, own_ca, own_caN, e1]
    cases h : own_advN R v with
    | nil => rfl
    | cons a s =>
      rw [h] at e2
      have ha := e2 a (List.mem_cons_self ..)
      show (if c a = c v then own_ca ((a :: s).map c) (r.map c) else false) = (if a = v then own_caN (a :: s) r else false)
      by_cases q : a = v
      · rw [if_pos q, if_pos ((he a v ha hv).mpr q)]
        exact own_cam c hl he r (a :: s) e2 (fun b hb => hT b (List.mem_cons_of_mem _ hb))
      · rw [if_neg q, if_neg (fun z => q ((he a v ha hv).mp z))]
theorem own_fin : ∀ s u : Fin 32, own_caN (own_rk s.val) (own_rk u.val) = decide ((Int32.ofNat u.val &&& (Int32.ofNat s.val ^^^ (-1 : Int32))) = 0) := by decide +kernel
theorem own_rk5 : ∀ s : Fin 32, ∀ a ∈ own_rk s.val, a < 5 := by decide +kernel
theorem own_ct (m : Int32) (h : -2147483646 ≤ m.toInt ∧ m.toInt ≤ 2147483645) (i : Nat) (hi : i < 5) : (own_c m i).toInt = [-2147483648, m.toInt - 1, m.toInt, m.toInt + 1, 2147483647].getD i 0 := by
  have e1 : (1 : Int32).toInt = 1 := rfl
  have a := c_isub m 1
  have b := c_iadd m 1
  have r1 := rng32 (m - 1)
  have r2 := rng32 (m + 1)
  have q : i = 0 ∨ i = 1 ∨ i = 2 ∨ i = 3 ∨ i = 4 := by omega
  rcases q with rfl | rfl | rfl | rfl | rfl
  · rfl
  · show (m - 1).toInt = m.toInt - 1; omega
  · rfl
  · show (m + 1).toInt = m.toInt + 1; omega
  · rfl
theorem own_cl (m : Int32) (h : -2147483646 ≤ m.toInt ∧ m.toInt ≤ 2147483645) (i j : Nat) (hi : i < 5) (hj : j < 5) : (own_c m i < own_c m j ↔ i < j) ∧ (own_c m i = own_c m j ↔ i = j) := by
  rw [Int32.lt_iff_toInt_lt, ← Int32.toInt_inj, own_ct m h i hi, own_ct m h j hj]
  have q : i = 0 ∨ i = 1 ∨ i = 2 ∨ i = 3 ∨ i = 4 := by omega
  have q2 : j = 0 ∨ j = 1 ∨ j = 2 ∨ j = 3 ∨ j = 4 := by omega
  rcases q with rfl | rfl | rfl | rfl | rfl <;> rcases q2 with rfl | rfl | rfl | rfl | rfl <;> simp <;> omega
theorem own_m31 (p v : Int32) (h : v = (p &&& (31 : Int32))) : ∃ i : Fin 32, v = Int32.ofNat i.val := by
  have a := c_mask p 31 5 (by decide) (by decide)
  rw [← h] at a
  refine ⟨⟨v.toInt.toNat, by omega⟩, Int32.toInt_inj.mp ?_⟩
  rw [Int32.toInt_ofNat_small (by simp only []; omega)]
  simp only []
  omega
theorem own_mid (p : Int32) (v : Int32) (h : v = f_max (-2147483646 : Int32) (f_min (2147483645 : Int32) p)) : -2147483646 ≤ v.toInt ∧ v.toInt ≤ 2147483645 := by
  have e1 : (-2147483646 : Int32).toInt = -2147483646 := rfl
  have e2 : (2147483645 : Int32).toInt = 2147483645 := rfl
  rw [h]
  unfold f_max f_min
  repeat' split
  all_goals simp only [Int32.lt_iff_toInt_lt] at *
  all_goals omega
theorem own_law (p0 p1 p2 v1 v2 v3 : Int32) (h1 : v1 = (p0 &&& (31 : Int32))) (h2 : v2 = (p1 &&& (31 : Int32))) (h3 : v3 = f_max (-2147483646 : Int32) (f_min (2147483645 : Int32) p2)) : own_ca (own_sel v1 v3) (own_sel v2 v3) = decide ((v2 &&& (v1 ^^^ (-1 : Int32))) = 0) := by
  obtain ⟨s, e1⟩ := own_m31 p0 v1 h1
  obtain ⟨u, e2⟩ := own_m31 p1 v2 h2
  have hm := own_mid p2 v3 h3
  rw [e1, e2, own_selm, own_selm, own_cam (own_c v3) (fun i j hi hj => (own_cl v3 hm i j hi hj).1) (fun i j hi hj => (own_cl v3 hm i j hi hj).2) _ _ (own_rk5 s) (own_rk5 u), own_fin s u]
theorem fin0 (p0 : Int32) (p1 : Int32) (p2 : Int32) (v1 : Int32) (hv1 : v1 = (p0 &&& (31 : Int32))) (v2 : Int32) (hv2 : v2 = (p1 &&& (31 : Int32))) (v3 : Int32) (hv3 : v3 = (f_max (-2147483646 : Int32) (f_min (2147483645 : Int32) p2))) (v18 : Int32) (hv18 : v18 = (if (v2 &&& (v1 ^^^ (-1 : Int32))) = (0 : Int32) then (1 : Int32) else (0 : Int32))) (v23 : Int32) (hv23 : v23 = (if own_ca (own_sel v1 v3) (own_sel v2 v3) then (1 : Int32) else (0 : Int32))) (b25 : ¬ v23 = v18) : False := by
  apply b25; rw [hv23, own_law p0 p1 p2 v1 v2 v3 hv1 hv2 hv3, hv18]; by_cases q : (v2 &&& (v1 ^^^ (-1 : Int32))) = 0 <;> simp [q]
set_option maxRecDepth 65536 in
set_option maxHeartbeats 4000000 in
theorem rm0 (l : Launch) (Z : State) (a0 : Array Value) (hw : ∀ d ∈ tables_1, d.before a0 Z = true) (p0 : Int32) (p1 : Int32) (p2 : Int32) (h0 : Heap) (n0 : Nat) (Z0 : n0 ≤ h0.size) : Met1 l Z x code maxLocals ret tables_1 room_1 #[(.int p0), (.int p1), (.int p2)] h0 n0 QL := by
  refine met_of_go (plainFor_of_name pn_com_example_tolerant_query_tolerantquery_IntSetsContainsAllPinLaw) (fun m => ef_0 m p0 p1 p2) ?_
  intro W hl C
  subst hl
  refine Go.iloadN C at_0 (q := 1) rfl rfl ?_
  refine Go.bipush C (31 : Int32) at_1 (q := 3) rfl rfl ?_
  refine Go.iand C at_3 (q := 4) rfl ?_
  refine Go.istoreN C at_4 (q := 5) rfl (fun z => #[.val (.int p0), .val (.int p1), .val (.int p2), .val (.int z), .unset, .unset, .unset, .unset, .unset, .unset, .unset]) (fun _ => rfl) ?_
  intro v1 hv1
  refine Go.iloadN C at_5 (q := 6) rfl rfl ?_
  refine Go.bipush C (31 : Int32) at_6 (q := 8) rfl rfl ?_
  refine Go.iand C at_8 (q := 9) rfl ?_
  refine Go.istore C at_9 (q := 11) rfl (fun z => #[.val (.int p0), .val (.int p1), .val (.int p2), .val (.int v1), .val (.int z), .unset, .unset, .unset, .unset, .unset, .unset]) (fun _ => rfl) ?_
  intro v2 hv2
  refine Go.ldcI C (hw _ (List.mem_of_getElem? (i := 0) rfl)) at_11 (q := 13) rfl ?_
  refine Go.ldcI C (hw _ (List.mem_of_getElem? (i := 1) rfl)) at_13 (q := 15) rfl ?_
  refine Go.iloadN C at_15 (q := 16) rfl rfl ?_
  refine Go.pureS C (hw _ (List.mem_of_getElem? (i := 2) rfl)) (hw _ (List.mem_of_getElem? (i := 3) rfl)) (hw _ (List.mem_of_getElem? (i := 4) rfl)) (hw _ (List.mem_of_getElem? (i := 5) rfl)) (c_f_min W.l Z a0 hw (2147483645 : Int32) p2 h0 n0) at_16 pd__40II_41I (q := 19) rfl rfl (argsL := [(.int (2147483645 : Int32)), (.int p2)]) (st := [(.int (-2147483646 : Int32))]) rfl rfl (w := 1) rfl (by decide) (by decide) (by decide) (by decide) ?_
  refine Go.pureS C (hw _ (List.mem_of_getElem? (i := 6) rfl)) (hw _ (List.mem_of_getElem? (i := 7) rfl)) (hw _ (List.mem_of_getElem? (i := 4) rfl)) (hw _ (List.mem_of_getElem? (i := 8) rfl)) (c_f_max W.l Z a0 hw (-2147483646 : Int32) (f_min (2147483645 : Int32) p2) h0 n0) at_19 pd__40II_41I (q := 22) rfl rfl (argsL := [(.int (-2147483646 : Int32)), (.int (f_min (2147483645 : Int32) p2))]) (st := []) rfl rfl (w := 0) rfl (by decide) (by decide) (by decide) (by decide) ?_
  refine Go.istore C at_22 (q := 24) rfl (fun z => #[.val (.int p0), .val (.int p1), .val (.int p2), .val (.int v1), .val (.int v2), .val (.int z), .unset, .unset, .unset, .unset, .unset]) (fun _ => rfl) ?_
  intro v3 hv3
  refine Go.iloadN C at_24 (q := 25) rfl rfl ?_
  refine Go.iload C at_25 (q := 27) rfl rfl ?_
  refine Go.callS C (hw _ (List.mem_of_getElem? (i := 9) rfl)) (hw _ (List.mem_of_getElem? (i := 10) rfl)) (hw _ (List.mem_of_getElem? (i := 11) rfl)) (hw _ (List.mem_of_getElem? (i := 12) rfl)) (c_build W.l Z a0 hw v1 v3 h0 n0 Z0) at_27 pd__40II_41_91I (q := 30) rfl rfl (argsL := [(.int v1), (.int v3)]) (st := []) rfl rfl (w := 0) rfl (by decide) (by decide) (k' := 2) rfl (n' := 10) rfl (by decide) (by decide) ?_
  intro v h4 q
  obtain ⟨a5, rfl, K6, g7, y8, F9⟩ := q
  show Go W n0 QL h4 2 10 30 #[.val (.int p0), .val (.int p1), .val (.int p2), .val (.int v1), .val (.int v2), .val (.int v3), .unset, .unset, .unset, .unset, .unset] [(.ref a5)]
  refine Go.astore C at_30 (q := 32) rfl (l' := #[.val (.int p0), .val (.int p1), .val (.int p2), .val (.int v1), .val (.int v2), .val (.int v3), .val (.ref a5), .unset, .unset, .unset, .unset]) rfl rfl ?_
  refine Go.iload C at_32 (q := 34) rfl rfl ?_
  refine Go.iload C at_34 (q := 36) rfl rfl ?_
  have F10 := (Nat.le_trans Z0 K6.1)
  refine Go.callS C (hw _ (List.mem_of_getElem? (i := 9) rfl)) (hw _ (List.mem_of_getElem? (i := 10) rfl)) (hw _ (List.mem_of_getElem? (i := 11) rfl)) (hw _ (List.mem_of_getElem? (i := 12) rfl)) (c_build W.l Z a0 hw v2 v3 h4 n0 F10) at_36 pd__40II_41_91I (q := 39) rfl rfl (argsL := [(.int v2), (.int v3)]) (st := []) rfl rfl (w := 0) rfl (by decide) (by decide) (k' := 4) rfl (n' := 20) rfl (by decide) (by decide) ?_
  intro v h11 q
  obtain ⟨a12, rfl, K13, g14, y15, F16⟩ := q
  have ne17 : a5 ≠ a12 := Nat.ne_of_lt (Nat.lt_of_lt_of_le F9.lt y15)
  show Go W n0 QL h11 4 20 39 #[.val (.int p0), .val (.int p1), .val (.int p2), .val (.int v1), .val (.int v2), .val (.int v3), .val (.ref a5), .unset, .unset, .unset, .unset] [(.ref a12)]
  refine Go.astore C at_39 (q := 41) rfl (l' := #[.val (.int p0), .val (.int p1), .val (.int p2), .val (.int v1), .val (.int v2), .val (.int v3), .val (.ref a5), .val (.ref a12), .unset, .unset, .unset]) rfl rfl ?_
  refine Go.iload C at_41 (q := 43) rfl rfl ?_
  refine Go.iloadN C at_43 (q := 44) rfl rfl ?_
  refine Go.iconst C (-1 : Int32) at_44 (q := 45) rfl rfl ?_
  refine Go.ixor C at_45 (q := 46) rfl ?_
  refine Go.iand C at_46 (q := 47) rfl ?_
  suffices J19 : ∀ v18 : Int32, v18 = (if (v2 &&& (v1 ^^^ (-1 : Int32))) = (0 : Int32) then (1 : Int32) else (0 : Int32)) → Go W n0 QL h11 4 20 55 #[.val (.int p0), .val (.int p1), .val (.int p2), .val (.int v1), .val (.int v2), .val (.int v3), .val (.ref a5), .val (.ref a12), .unset, .unset, .unset] [(.int v18)] by
    refine Go.if0 C at_47 (z_ne _) (qt := 54) (q := 50) (by decide) (by decide) rfl (fun b20 => ?_) (fun b20 => ?_)
    ·
      refine Go.iconst C (0 : Int32) at_54 (q := 55) rfl rfl ?_
      exact J19 _ (by rw [if_neg b20])
    ·
      have b20 := Classical.not_not.mp b20
      refine Go.iconst C (1 : Int32) at_50 (q := 51) rfl rfl ?_
      refine Go.goto C at_51 (q := 55) (by decide) (by decide) ?_
      exact J19 _ (by rw [if_pos b20])
  intro v18 hv18
  refine Go.istoreR C at_55 (q := 57) rfl (l' := #[.val (.int p0), .val (.int p1), .val (.int p2), .val (.int v1), .val (.int v2), .val (.int v3), .val (.ref a5), .val (.ref a12), .val (.int v18), .unset, .unset]) rfl ?_
  refine Go.aload C at_57 (q := 59) rfl rfl rfl ?_
  refine Go.aload C at_59 (q := 61) rfl rfl rfl ?_
  refine Go.pureS C (hw _ (List.mem_of_getElem? (i := 18) rfl)) (hw _ (List.mem_of_getElem? (i := 19) rfl)) (hw _ (List.mem_of_getElem? (i := 20) rfl)) (hw _ (List.mem_of_getElem? (i := 21) rfl)) (c_same W.l Z a0 hw a5 h11 n0) at_61 pd__40_91I_91I_41Z (q := 64) rfl rfl (argsL := [(.ref a5), (.ref a5)]) (st := []) rfl rfl (w := 0) rfl (by decide) (by decide) (by decide) (by decide) ?_
  refine Go.istoreR C at_64 (q := 66) rfl (l' := #[.val (.int p0), .val (.int p1), .val (.int p2), .val (.int v1), .val (.int v2), .val (.int v3), .val (.ref a5), .val (.ref a12), .val (.int v18), .val (.int (1 : Int32)), .unset]) rfl ?_
  refine Go.aload C at_66 (q := 68) rfl rfl rfl ?_
  refine Go.aload C at_68 (q := 70) rfl rfl rfl ?_
  have F21 := (Nat.le_trans F10 K13.1)
  have F22 := (F9.keep K13 nin0)
  refine Go.pureS C (hw _ (List.mem_of_getElem? (i := 18) rfl)) (hw _ (List.mem_of_getElem? (i := 19) rfl)) (hw _ (List.mem_of_getElem? (i := 20) rfl)) (hw _ (List.mem_of_getElem? (i := 21) rfl)) (c_ca W.l Z a0 hw a5 a12 h11 n0 (own_sel v1 v3) (own_sel v2 v3) F21 (own_len _ _) (own_len _ _) F22 F16 ne17) at_70 pd__40_91I_91I_41Z (q := 73) rfl rfl (argsL := [(.ref a5), (.ref a12)]) (st := []) rfl rfl (w := 0) rfl (by decide) (by decide) (by decide) (by decide) ?_
  refine Go.istore C at_73 (q := 75) rfl (fun z => #[.val (.int p0), .val (.int p1), .val (.int p2), .val (.int v1), .val (.int v2), .val (.int v3), .val (.ref a5), .val (.ref a12), .val (.int v18), .val (.int (1 : Int32)), .val (.int z)]) (fun _ => rfl) ?_
  intro v23 hv23
  refine Go.iload C at_75 (q := 77) rfl rfl ?_
  refine Go.if0 C at_77 (z_eq _) (qt := 91) (q := 80) (by decide) (by decide) rfl (fun b24 => absurd b24 (by decide)) (fun _ => ?_)
  refine Go.iload C at_80 (q := 82) rfl rfl ?_
  refine Go.iload C at_82 (q := 84) rfl rfl ?_
  refine Go.icmp C at_84 (n_ne _ _) (qt := 91) (q := 87) (by decide) (by decide) rfl (fun b25 => ?_) (fun b25 => ?_)
  ·
    refine Go.iconst C (0 : Int32) at_91 (q := 92) rfl rfl ?_
    exact (fin0 p0 p1 p2 v1 hv1 v2 hv2 v3 hv3 v18 hv18 v23 hv23  b25).elim
  ·
    have b25 := Classical.not_not.mp b25
    refine Go.iconst C (1 : Int32) at_87 (q := 88) rfl rfl ?_
    refine Go.goto C at_88 (q := 92) (by decide) (by decide) ?_
    exact Go.retZ (t := .boolean) (by simp) C at_92 (by decide) (by decide) (show some (Value.int _) = some (.int 1) from rfl)
set_option maxRecDepth 65536 in
set_option maxHeartbeats 4000000 in
theorem comes_1 {Post : Tables → Env → Array Value → State → Outcome → State → Prop} (hpost : ∀ tb e args s v u, (limb_1_1.after args s (.returned v) u = true ∧ limb_1_2.after args s (.returned v) u = true ∧ True) → FrameEnd s (.returned v) u (Jvm.fieldLocs frame_1_writes args s ++ Jvm.arrayLocs frame_1_arrays args s ++ Jvm.staticLocs frame_1_statics s) 16 128 → Post tb e args s (.returned v) u) :
    ArmFor flags0 classFile x code maxLocals ret World_1 tables_1 room_1 Calls_1 rest_1 Pre_1 Post := by
  intro l hfl _ _ p e ha hc hk s m args below hf hA hF happ hP
  obtain ⟨hcalls, hrest, hpre⟩ := hP
  obtain ⟨-, -, -, hnamed, -, -, -, hat⟩ := (Spec.applies_iff hf).mp happ
  obtain ⟨hg, hn⟩ := and_e (Cond.before_iff.mp (show (Jvm.Cond.and given_1 narrow_1).before args s = true from hpre))
  obtain ⟨hcount, hg0⟩ := and_e hg
  obtain ⟨ha0, hg1⟩ := and_e hg0
  obtain ⟨ha1, hg2⟩ := and_e hg1
  have ha2 := hg2
  obtain ⟨w0, w1, w2, rfl⟩ : ∃ w0 w1 w2 : Value, args = #[w0, w1, w2] := by
    have hs : args.size = 3 := by simpa [Cond.value, given_1] using hcount
    obtain ⟨L⟩ := args
    match L, hs with
    | [w0, w1, w2], _ => exact ⟨w0, w1, w2, rfl⟩
  have hw := fun d (hd : d ∈ tables_1) => atoms_spec (ws := Jvm.Cond.code x code maxLocals ret :: tables_1) hat d (List.mem_cons_of_mem _ hd)
  obtain ⟨i0, ei0⟩ := is_v ha0
  obtain rfl : w0 = (.int i0) := Option.some.inj ei0
  obtain ⟨i1, ei1⟩ := is_v ha1
  obtain rfl : w1 = (.int i1) := Option.some.inj ei1
  obtain ⟨i2, ei2⟩ := is_v ha2
  obtain rfl : w2 = (.int i2) := Option.some.inj ei2
  obtain ⟨n, o, h1, h2, h3, _, L, rfl, ⟨N, rfl⟩, hq⟩ := rm0 l s _ hw i0 i1 i2 s.heap s.heap.size (Nat.le_refl _)  p e ha hc hk s m _ below hf ((Spec.applies_iff_loose hf).mp happ).1 ⟨rfl, State.Warmed39.refl s, rfl⟩ trivial
  refine ⟨n, _, h1, h2, h3, hpost _ _ _ _ _ _ ⟨Cond.after_iff.mpr rfl, Cond.after_iff.mpr (eq_i res_at (Term.int_eval (1)) rfl), trivial⟩ ⟨hq.1, hq.2.1, (hq.2.2.sift fun y hy => Or.inr (N y hy)).mono (by decide) (by decide)⟩⟩
theorem main_1_1 : Claimed_1_1 := comes_1 fun _ _ _ _ _ _ h hF => ⟨h.1, hF⟩
theorem main_1_2 : Claimed_1_2 := comes_1 fun _ _ _ _ _ _ h hF => ⟨h.2.1, hF⟩
end Jvm.Pilot.@@N@@
namespace Jvm.Pilot.@@N@@
open Jvm Jvm.ClassFile Sem Op Lib Jvm.Free Jvm.Stand Jvm.Pilot.@@N@@.Jvm.D
/-! MADE BY PROGRAM (witnessworld.py) out of the Statement's table words and the real class files: 10 classes; the members and pool entries that the words name. The judged class is class 1, her method 1. -/
namespace start1
open Jvm.ClassFile
def u (s : String) : CpInfo := .utf8 (stringToUtf16 s)
/-- a pool by its gaps: so many unusable entries, then the entry; so many at the end -/
def gap : Nat → List CpInfo → List CpInfo
  | 0, r => r
  | n + 1, r => .unusable :: gap n r
def poolList (es : List (Nat × CpInfo)) (last : Nat) : List CpInfo := es.foldr (fun e r => gap e.1 (e.2 :: r)) (gap last [])
def pool (es : List (Nat × CpInfo)) (last : Nat) : Array CpInfo := ⟨poolList es last⟩
def fileOf (pool : Array CpInfo) (this : Nat) (attrs : Array Attribute := #[]) (ms : Array MethodInfo := #[]) (fl : Nat := 33) (sup : Nat := 0) (ifs : Array Nat := #[]) (fds : Array FieldInfo := #[]) : ClassFile where
  minorVersion := 0
  majorVersion := 65
  constantPool := pool
  accessFlags := fl
  thisClass := this
  superClass := sup
  interfaces := ifs
  fields := fds
  methods := ms
  attributes := attrs
def plain (name : String) (sup : Option ClassId) : Class where
  name := name
  kind := .ordinary
  loader := none
  accessFlags := 33
  super := sup
  interfaces := #[]
  cf := none
  fields := #[]
  methods := #[]
  instanceTypes := #[]
  staticTypes := #[]
  resolved := #[]
  callSites := []
  init := .initialized
  statics := none
  mirror := none

def pool0 : Array CpInfo := pool [(5, u "<init>"), (0, u "()V"), (1, .class_ 10), (1, u "java/lang/Object")] 113

def k0m0 : Method := { name := "<init>", desc := "()V", sig := { parameters := [], returnType := none }, accessFlags := 1, code := none }
/-- java/lang/Object -/
def k0 : Class := { plain "java/lang/Object" none with
  accessFlags := 33
  interfaces := #[]
  cf := some (fileOf pool0 8 #[] #[{ accessFlags := 1, nameIndex := 5, descriptorIndex := 6, attributes := #[] }] 33 0 #[] #[])
  fields := #[]
  methods := #[k0m0]
  instanceTypes := #[]
  staticTypes := #[]
  resolved := Array.replicate 124 none
  statics := none }

def pool1 : Array CpInfo := pool [(2, .class_ 4), (1, u "java/lang/Object"), (0, u "<init>"), (0, u "()V"), (2, .integer 2147483650), (0, .integer 2147483645), (0, .methodref 12 13), (0, .class_ 14), (0, .nameAndType 15 16), (0, u "java/lang/Math"), (0, u "min"), (0, u "(II)I"), (0, .methodref 12 18), (0, .nameAndType 19 16), (0, u "max"), (0, .methodref 21 22), (0, .class_ 23), (0, .nameAndType 24 25), (0, u "com/example/tolerant_query/tolerantquery/IntSetsContainsAllPinLaw"), (0, u "build"), (0, u "(II)[I"), (0, .methodref 27 28), (0, .class_ 29), (0, .nameAndType 30 31), (0, u "com/example/tolerant_query/tolerantquery/IntSets"), (0, u "containsAll"), (0, u "([I[I)Z"), (0, .integer 2147483648), (0, .integer 2147483647), (0, .methodref 21 35), (0, .nameAndType 36 37), (0, u "exact"), (0, u "([II)[I"), (2, u "law"), (0, u "(III)Z")] 5

def k1m0 : Method := { name := "<init>", desc := "()V", sig := { parameters := [], returnType := none }, accessFlags := 1, code := none }
def k1c1 : Code := { maxStack := 3, maxLocals := 11, code := code, exceptionTable := #[], attributes := #[] }
def k1m1 : Method := { name := "law", desc := "(III)Z", sig := { parameters := [.int, .int, .int], returnType := some .boolean }, accessFlags := 9, code := some k1c1 }
def k1c2 : Code := { maxStack := 4, maxLocals := 4, code := method_3_code, exceptionTable := #[], attributes := #[] }
def k1m2 : Method := { name := "build", desc := "(II)[I", sig := { parameters := [.int, .int], returnType := some (.array .int) }, accessFlags := 10, code := some k1c2 }
def k1c3 : Code := { maxStack := 5, maxLocals := 2, code := method_4_code, exceptionTable := #[], attributes := #[] }
def k1m3 : Method := { name := "exact", desc := "([II)[I", sig := { parameters := [(.array .int), .int], returnType := some (.array .int) }, accessFlags := 10, code := some k1c3 }
/-- com/example/tolerant_query/tolerantquery/IntSetsContainsAllPinLaw -/
def k1 : Class := { plain "com/example/tolerant_query/tolerantquery/IntSetsContainsAllPinLaw" (some 0) with
  accessFlags := 49
  interfaces := #[]
  cf := some (fileOf pool1 21 #[] #[{ accessFlags := 1, nameIndex := 5, descriptorIndex := 6, attributes := #[] }, { accessFlags := 9, nameIndex := 40, descriptorIndex := 41, attributes := #[] }, { accessFlags := 10, nameIndex := 24, descriptorIndex := 25, attributes := #[] }, { accessFlags := 10, nameIndex := 36, descriptorIndex := 37, attributes := #[] }] 49 2 #[] #[])
  fields := #[]
  methods := #[k1m0, k1m1, k1m2, k1m3]
  instanceTypes := #[]
  staticTypes := #[]
  resolved := Array.replicate 47 none
  statics := none }

def pool2 : Array CpInfo := pool [(1, .class_ 2), (0, u "java/lang/Math"), (1, .class_ 6), (1, u "java/lang/Object"), (0, u "<init>"), (0, u "()V"), (89, .class_ 100), (1, u "java/lang/Math$RandomNumberGeneratorHolder"), (71, u "negativeZeroFloatBits"), (0, u "J"), (2, u "negativeZeroDoubleBits"), (21, u "max"), (2, u "min"), (43, u "$assertionsDisabled"), (0, u "Z"), (88, u "(II)I"), (2, u "twoToTheDoubleScaleDown"), (0, u "D"), (4, u "twoToTheDoubleScaleUp"), (9, u "E"), (3, u "PI"), (2, u "TAU"), (2, u "DEGREES_TO_RADIANS"), (0, u "RADIANS_TO_DEGREES")] 94

def k2m0 : Method := { name := "<init>", desc := "()V", sig := { parameters := [], returnType := none }, accessFlags := 2, code := none }
def k2c1 : Code := { maxStack := 2, maxLocals := 2, code := jdk_29_method_65_code, exceptionTable := #[], attributes := #[] }
def k2m1 : Method := { name := "max", desc := "(II)I", sig := { parameters := [.int, .int], returnType := some .int }, accessFlags := 9, code := some k2c1 }
def k2c2 : Code := { maxStack := 2, maxLocals := 2, code := jdk_29_method_69_code, exceptionTable := #[], attributes := #[] }
def k2m2 : Method := { name := "min", desc := "(II)I", sig := { parameters := [.int, .int], returnType := some .int }, accessFlags := 9, code := some k2c2 }
/-- java/lang/Math -/
def k2 : Class := { plain "java/lang/Math" (some 0) with
  accessFlags := 49
  interfaces := #[]
  cf := some (fileOf pool2 1 #[.nestMembers #[98]] #[{ accessFlags := 2, nameIndex := 7, descriptorIndex := 8, attributes := #[] }, { accessFlags := 9, nameIndex := 198, descriptorIndex := 335, attributes := #[] }, { accessFlags := 9, nameIndex := 201, descriptorIndex := 335, attributes := #[] }] 49 4 #[] #[{ accessFlags := 25, nameIndex := 354, descriptorIndex := 339, attributes := #[] }, { accessFlags := 25, nameIndex := 358, descriptorIndex := 339, attributes := #[] }, { accessFlags := 25, nameIndex := 361, descriptorIndex := 339, attributes := #[] }, { accessFlags := 26, nameIndex := 364, descriptorIndex := 339, attributes := #[] }, { accessFlags := 26, nameIndex := 365, descriptorIndex := 339, attributes := #[] }, { accessFlags := 26, nameIndex := 172, descriptorIndex := 173, attributes := #[] }, { accessFlags := 26, nameIndex := 176, descriptorIndex := 173, attributes := #[] }, { accessFlags := 8, nameIndex := 344, descriptorIndex := 339, attributes := #[] }, { accessFlags := 8, nameIndex := 338, descriptorIndex := 339, attributes := #[] }, { accessFlags := 4120, nameIndex := 245, descriptorIndex := 246, attributes := #[] }])
  fields := #[{ name := "E", type := .double, accessFlags := 25, slot := 0, constantValue := 0 }, { name := "PI", type := .double, accessFlags := 25, slot := 1, constantValue := 0 }, { name := "TAU", type := .double, accessFlags := 25, slot := 2, constantValue := 0 }, { name := "DEGREES_TO_RADIANS", type := .double, accessFlags := 26, slot := 3, constantValue := 0 }, { name := "RADIANS_TO_DEGREES", type := .double, accessFlags := 26, slot := 4, constantValue := 0 }, { name := "negativeZeroFloatBits", type := .long, accessFlags := 26, slot := 5, constantValue := 0 }, { name := "negativeZeroDoubleBits", type := .long, accessFlags := 26, slot := 6, constantValue := 0 }, { name := "twoToTheDoubleScaleUp", type := .double, accessFlags := 8, slot := 7, constantValue := 0 }, { name := "twoToTheDoubleScaleDown", type := .double, accessFlags := 8, slot := 8, constantValue := 0 }, { name := "$assertionsDisabled", type := .boolean, accessFlags := 4120, slot := 9, constantValue := 0 }]
  methods := #[k2m0, k2m1, k2m2]
  instanceTypes := #[]
  staticTypes := #[.double, .double, .double, .double, .double, .long, .long, .double, .double, .boolean]
  resolved := Array.replicate 460 none
  statics := none }

def pool3 : Array CpInfo := pool [(2, .class_ 4), (1, u "java/lang/Object"), (0, u "<init>"), (0, u "()V"), (35, .class_ 44), (1, u "com/example/tolerant_query/tolerantquery/IntSets"), (9, u "SMALLEST_FIRST"), (0, u "Ljava/util/Comparator;"), (58, u "([I[I)Z"), (9, u "containsAll")] 81

def k3m0 : Method := { name := "<init>", desc := "()V", sig := { parameters := [], returnType := none }, accessFlags := 2, code := none }
def k3c1 : Code := { maxStack := 2, maxLocals := 7, code := prog_11_method_2_code, exceptionTable := #[], attributes := #[] }
def k3m1 : Method := { name := "containsAll", desc := "([I[I)Z", sig := { parameters := [(.array .int), (.array .int)], returnType := some .boolean }, accessFlags := 8, code := some k3c1 }
/-- com/example/tolerant_query/tolerantquery/IntSets -/
def k3 : Class := { plain "com/example/tolerant_query/tolerantquery/IntSets" (some 0) with
  accessFlags := 48
  interfaces := #[]
  cf := some (fileOf pool3 42 #[] #[{ accessFlags := 2, nameIndex := 5, descriptorIndex := 6, attributes := #[] }, { accessFlags := 8, nameIndex := 124, descriptorIndex := 114, attributes := #[] }] 48 2 #[] #[{ accessFlags := 26, nameIndex := 54, descriptorIndex := 55, attributes := #[] }])
  fields := #[{ name := "SMALLEST_FIRST", type := (.object "java/util/Comparator"), accessFlags := 26, slot := 0, constantValue := 0 }]
  methods := #[k3m0, k3m1]
  instanceTypes := #[]
  staticTypes := #[(.object "java/util/Comparator")]
  resolved := Array.replicate 206 none
  statics := none }

def pool4 : Array CpInfo := pool [(1, u "java/lang/Cloneable"), (0, .class_ 1), (0, u "java/lang/Object"), (0, .class_ 3)] 3

/-- java/lang/Cloneable -/
def k4 : Class := { plain "java/lang/Cloneable" (some 0) with
  accessFlags := 1537
  interfaces := #[]
  cf := some (fileOf pool4 2 #[] #[] 1537 4 #[] #[])
  fields := #[]
  methods := #[]
  instanceTypes := #[]
  staticTypes := #[]
  resolved := Array.replicate 8 none
  statics := none }

def pool5 : Array CpInfo := pool [(1, u "java/io/Serializable"), (0, .class_ 1), (0, u "java/lang/Object"), (0, .class_ 3)] 3

/-- java/io/Serializable -/
def k5 : Class := { plain "java/io/Serializable" (some 0) with
  accessFlags := 1537
  interfaces := #[]
  cf := some (fileOf pool5 2 #[] #[] 1537 4 #[] #[])
  fields := #[]
  methods := #[]
  instanceTypes := #[]
  staticTypes := #[]
  resolved := Array.replicate 8 none
  statics := none }

/-- the primitive byte -/
def k6 : Class := { plain "byte" none with kind := .primitive 'B', accessFlags := 0x411 }
/-- [B -/
def k7 : Class := { plain "[B" (some 0) with kind := .array 6 .byte, interfaces := #[4, 5], accessFlags := 1041 }

/-- the primitive int -/
def k8 : Class := { plain "int" none with kind := .primitive 'I', accessFlags := 0x411 }
/-- [I -/
def k9 : Class := { plain "[I" (some 0) with kind := .array 8 .int, interfaces := #[4, 5], accessFlags := 1041 }

def heap : Heap := #[]
def classes : Array Class := #[k0, k1, k2, k3, k4, k5, k6, k7, k8, k9]
def interned : List (Array UInt16 × Addr) := []
def slotsUsed : Nat := 0
def theMethod : MethodId := ⟨1, 1⟩
def args0 : Array Value := #[.int 1, .int 2, .int 3]
def aboutOver (below : List Frame) : State where
  vm := { classes := classes, interned := interned.toArray }
  heap := heap
  slotsUsed := slotsUsed
  threads := #[{ frames := .invoking theMethod args0 :: below }]
def below0 : List Frame := [.native { method := ⟨0, 0⟩, args := #[] }]
def about1 : State := aboutOver below0
def p0 : Program := .bare "" "" ""
def e0 : Env := launch0.env 0 0 0
theorem w_frames : about1.frames = Frame.invoking theMethod args0 :: below0 := rfl
set_option maxRecDepth 65536 in
theorem w_args : argsFit about1.vm theMethod args0 = true := by decide +kernel
set_option maxRecDepth 65536 in
theorem w_heap : heapFits about1 = true := by decide +kernel
set_option maxRecDepth 65536 in
theorem w_runnable : about1.curStatus? = some .runnable := by decide +kernel
set_option maxRecDepth 65536 in
theorem w_alone : about1.alone = true := by decide +kernel
set_option maxRecDepth 65536 in
theorem w_named : about1.methodNamed? x = some theMethod := by decide +kernel
set_option maxRecDepth 65536 in
theorem w_hears : about1.hears theMethod below0 = true := by decide +kernel
set_option maxRecDepth 65536 in
theorem w_ripe : about1.ripe theMethod args0 below0 = true := by decide +kernel
theorem w_running : about1.status = .running := rfl
set_option maxRecDepth 65536 in
theorem w_room : about1.hasRoom e0.platform room_1 = true :=
  launch0.hasRoom_least _ room_1 (by decide +kernel) (by decide +kernel) (by decide +kernel) (by decide +kernel) (by decide +kernel) (by decide +kernel)
theorem allAtoms_all (ts : List Jvm.Cond) (a : Array Jvm.Value) (st : Jvm.State) : (allAtoms ts).before a st = ts.all (fun c => c.before a st) := by
  induction ts with
  | nil => rfl
  | cons c t ih =>
    show (Jvm.Cond.and c (allAtoms t)).before a st = _
    rw [Jvm.Cond.before_and, ih, List.all_cons]
def words1 : List Jvm.Cond := Jvm.Cond.code x code maxLocals ret :: tables_1
/-- a 'code' word, met by the world's own term for the bytes: nothing is compared byte by byte -/
theorem code_word {y : MethodName} {bytes : ByteArray} {mx : Nat} {rt : Option FieldType} {a : Array Value} {s : State} {m : MethodId} {meth : Method} {c : Code} (h1 : s.methodNamed? y = some m) (h2 : s.vm.method? m = some meth) (h3 : meth.code = some c) (h4 : c.code = bytes)
    (h5 : (c.maxLocals == mx && c.exceptionTable.isEmpty && decide (c.maxStack ≤ mostOperands) && decide (meth.sig.returnType = rt) && !meth.locks && decide (parseMethodDescriptor y.desc = some meth.sig)) = true) : (Jvm.Cond.code y bytes mx rt).before a s = true := by
  simp only [Bool.and_eq_true, beq_iff_eq, Bool.not_eq_true', decide_eq_true_eq] at h5
  obtain ⟨⟨⟨⟨⟨g1, g2⟩, g3⟩, g4⟩, g5⟩, g6⟩ := h5
  simp [Cond.before, Cond.holds, Cond.value, h1, h2, h3, h4, g1, g2, g3, g4, g5, g6]
def isCode : Jvm.Cond → Bool
  | .code _ _ _ _ => true
  | _ => false
theorem all_split {L : List Jvm.Cond} {P : Jvm.Cond → Bool} (h1 : L.all (fun c => isCode c || P c) = true) (h2 : ∀ c ∈ L.filter isCode, P c = true) : L.all P = true := by
  refine List.all_eq_true.mpr fun c hc => ?_
  have h := List.all_eq_true.mp h1 c hc
  rcases Bool.eq_false_or_eq_true (isCode c) with hi | hi
  · exact h2 c (List.mem_filter.mpr ⟨hc, hi⟩)
  · simpa [hi] using h
set_option maxRecDepth 65536 in
theorem w_c0 : (Jvm.Cond.code x code maxLocals ret).before args0 about1 = true := code_word (m := ⟨1, 1⟩) (meth := k1m1) (c := k1c1) (by decide +kernel) rfl rfl rfl (by decide +kernel)
set_option maxRecDepth 65536 in
theorem w_c1 : (Jvm.Cond.code ({ cls := "java/lang/Math", name := "min", desc := "(II)I" } : Jvm.MethodName) jdk_29_method_69_code (2 : Nat) (Option.some Jvm.ClassFile.FieldType.int)).before args0 about1 = true := code_word (m := ⟨2, 2⟩) (meth := k2m2) (c := k2c2) (by decide +kernel) rfl rfl rfl (by decide +kernel)
set_option maxRecDepth 65536 in
theorem w_c2 : (Jvm.Cond.code ({ cls := "java/lang/Math", name := "max", desc := "(II)I" } : Jvm.MethodName) jdk_29_method_65_code (2 : Nat) (Option.some Jvm.ClassFile.FieldType.int)).before args0 about1 = true := code_word (m := ⟨2, 1⟩) (meth := k2m1) (c := k2c1) (by decide +kernel) rfl rfl rfl (by decide +kernel)
set_option maxRecDepth 65536 in
theorem w_c3 : (Jvm.Cond.code ({ cls := "com/example/tolerant_query/tolerantquery/IntSetsContainsAllPinLaw", name := "build", desc := "(II)[I" } : Jvm.MethodName) method_3_code (4 : Nat) (Option.some (Jvm.ClassFile.FieldType.array Jvm.ClassFile.FieldType.int))).before args0 about1 = true := code_word (m := ⟨1, 2⟩) (meth := k1m2) (c := k1c2) (by decide +kernel) rfl rfl rfl (by decide +kernel)
set_option maxRecDepth 65536 in
theorem w_c4 : (Jvm.Cond.code ({ cls := "com/example/tolerant_query/tolerantquery/IntSetsContainsAllPinLaw", name := "exact", desc := "([II)[I" } : Jvm.MethodName) method_4_code (2 : Nat) (Option.some (Jvm.ClassFile.FieldType.array Jvm.ClassFile.FieldType.int))).before args0 about1 = true := code_word (m := ⟨1, 3⟩) (meth := k1m3) (c := k1c3) (by decide +kernel) rfl rfl rfl (by decide +kernel)
set_option maxRecDepth 65536 in
theorem w_c5 : (Jvm.Cond.code ({ cls := "com/example/tolerant_query/tolerantquery/IntSets", name := "containsAll", desc := "([I[I)Z" } : Jvm.MethodName) prog_11_method_2_code (7 : Nat) (Option.some Jvm.ClassFile.FieldType.boolean)).before args0 about1 = true := code_word (m := ⟨3, 1⟩) (meth := k3m1) (c := k3c1) (by decide +kernel) rfl rfl rfl (by decide +kernel)
def codes1 : List Jvm.Cond := [Jvm.Cond.code x code maxLocals ret, Jvm.Cond.code ({ cls := "java/lang/Math", name := "min", desc := "(II)I" } : Jvm.MethodName) jdk_29_method_69_code (2 : Nat) (Option.some Jvm.ClassFile.FieldType.int), Jvm.Cond.code ({ cls := "java/lang/Math", name := "max", desc := "(II)I" } : Jvm.MethodName) jdk_29_method_65_code (2 : Nat) (Option.some Jvm.ClassFile.FieldType.int), Jvm.Cond.code ({ cls := "com/example/tolerant_query/tolerantquery/IntSetsContainsAllPinLaw", name := "build", desc := "(II)[I" } : Jvm.MethodName) method_3_code (4 : Nat) (Option.some (Jvm.ClassFile.FieldType.array Jvm.ClassFile.FieldType.int)), Jvm.Cond.code ({ cls := "com/example/tolerant_query/tolerantquery/IntSetsContainsAllPinLaw", name := "exact", desc := "([II)[I" } : Jvm.MethodName) method_4_code (2 : Nat) (Option.some (Jvm.ClassFile.FieldType.array Jvm.ClassFile.FieldType.int)), Jvm.Cond.code ({ cls := "com/example/tolerant_query/tolerantquery/IntSets", name := "containsAll", desc := "([I[I)Z" } : Jvm.MethodName) prog_11_method_2_code (7 : Nat) (Option.some Jvm.ClassFile.FieldType.boolean)]
set_option maxRecDepth 65536 in
theorem codes_eq : words1.filter isCode = codes1 := rfl
theorem w_codes : ∀ c ∈ words1.filter isCode, c.before args0 about1 = true := by
  rw [codes_eq]
  intro c hc
  simp only [codes1, List.mem_cons, List.not_mem_nil, or_false] at hc
  rcases hc with rfl | rfl | rfl | rfl | rfl | rfl
  · exact w_c0
  · exact w_c1
  · exact w_c2
  · exact w_c3
  · exact w_c4
  · exact w_c5
set_option maxRecDepth 65536 in
theorem w_t1 : words1.all (fun c => isCode c || c.before args0 about1) = true := by decide +kernel
theorem w_tables : (allAtoms (Jvm.Cond.code x code maxLocals ret :: tables_1)).before args0 about1 = true := by
  rw [allAtoms_all]
  show words1.all (fun c => c.before args0 about1) = true
  refine all_split ?_ w_codes
  rw [w_t1]
set_option maxRecDepth 65536 in
theorem w_case : (Jvm.Cond.and given_1 narrow_1).before args0 about1 = true := by decide +kernel
theorem w_applies : (headSpec (Jvm.Cond.code x code maxLocals ret :: tables_1) room_1).applies x e0.platform about1 = true :=
  (Spec.applies_iff w_frames).mpr ⟨w_running, w_runnable, w_alone, w_named, w_hears, w_ripe, w_room, w_tables⟩
theorem atStart : AtStart classFile x code maxLocals ret World_1 tables_1 room_1 Calls_1 rest_1 Pre_1 launch0 p0 e0 about1 theMethod args0 below0 :=
  ⟨lists_1, trivial, launch0.admits_env _ _ _, launch0.least_env, fairChoices_fair.cas, fairChoices_fair.clock, w_frames, w_args, w_heap, w_applies, trivial, trivial, w_case⟩
end start1
theorem witness_1 : WitnessClaimed_1 := ⟨start1.p0, start1.e0, start1.about1, start1.theMethod, start1.args0, start1.below0, start1.atStart⟩
end Jvm.Pilot.@@N@@
