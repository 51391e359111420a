import JvmDerived
import JvmDerived.Pilot.@@N@@Statement
import JvmDerived.Pilot.@@N@@Code
set_option linter.unusedVariables false
set_option linter.unusedSimpArgs false
namespace Jvm.RoadKit
open Sem ClassFile Op Lib Jvm.Stand Jvm.Free Jvm.LawKit
section New
variable {p : Program} {l : Launch} {e : Env} {R : Room} {s : State} {m : MethodId} {args : Array Value} {below : List Frame} {meth : Method} {c : Code} {T : State} {locs : List Loc} {cells slots : Nat}
theorem retI (X : Stand p l e R s m args below meth c T locs cells slots) (hx : p.tables.exec = Jvm.exec) {pc : Nat} {Ls : Array Slot} {z : Int32} {rest : List Value} (hret : meth.sig.returnType = some .int) (hd : decode c.code pc = .ok (.ireturn, 1)) {fs : List Frame}
    (hl : ∀ (f : JFrame) (acts : List Action), f.method = m → f.locked = none → f.entered = [] → (doReturn e (T.setTop f) acts (some (.int z))).1 = T.setFrames fs) : Steps p.tables e below (T.setTop (mkF m pc Ls (.int z :: rest))) (T.setFrames fs) := by
  have hm' : T.vm.method? m = some meth := X.method'
  have hn : narrow .int (.int z) = .int z := rfl
  show Steps p.tables e below (T.setTop { method := m, pc := pc, locals := Ls, stack := _ :: rest, locked := none }) _
  jvm_step X.here [X.here.top, hx, hd, hm', hret, hn]
  first | (intro acts; rw [hl _ acts rfl rfl rfl]) | rw [hl _ _ rfl rfl rfl]
  exact Steps.refl _
end New
end Jvm.RoadKit
namespace Jvm.Pilot.@@N@@
open Jvm Jvm.ClassFile Sem Op Lib Jvm.Free Jvm.Stand Jvm.LawKit Jvm.RoadKit Bundle Jvm.Pilot.@@N@@.Jvm.D
/-- the fixed things of one body's walk -/
abbrev Wk : Type := Program × Launch × Env × Room × State × MethodId × Array Value × List Frame × Method × Code
abbrev Wk.p (W : Wk) : Program := W.1
abbrev Wk.l (W : Wk) : Launch := W.2.1
abbrev Wk.e (W : Wk) : Env := W.2.2.1
abbrev Wk.R (W : Wk) : Room := W.2.2.2.1
abbrev Wk.s (W : Wk) : State := W.2.2.2.2.1
abbrev Wk.m (W : Wk) : MethodId := W.2.2.2.2.2.1
abbrev Wk.args (W : Wk) : Array Value := W.2.2.2.2.2.2.1
abbrev Wk.below (W : Wk) : List Frame := W.2.2.2.2.2.2.2.1
abbrev Wk.meth (W : Wk) : Method := W.2.2.2.2.2.2.2.2.1
abbrev Wk.c (W : Wk) : Code := W.2.2.2.2.2.2.2.2.2
abbrev St (W : Wk) (T : State) (L : List Loc) (k n : Nat) : Prop := Stand W.p W.l W.e W.R W.s W.m W.args W.below W.meth W.c T L k n
abbrev Sp (W : Wk) (a b : State) : Prop := Steps W.p.tables W.e W.below a b
/-- what holds throughout the walk -/
def Cx (Z : State) (W : Wk) (rm : Room) (own nm : String) (bytes : ByteArray) (maxL : Nat) (ret : Option FieldType) : Prop :=
  W.p.tables.exec = Jvm.exec ∧ W.c.code = bytes ∧ W.c.maxLocals = maxL ∧ W.s.vm.findClass own = some W.m.cls ∧ W.meth.name = nm ∧ W.meth.sig.returnType = ret ∧ Z.Warmed39 W.s.vm ∧ W.meth.locks = false ∧ W.R = rm
section Cxs
variable {Z : State} {W : Wk} {rm : Room} {own nm : String} {bytes : ByteArray} {maxL : Nat} {ret : Option FieldType}
theorem Cx.x (C : Cx Z W rm own nm bytes maxL ret) : W.p.tables.exec = Jvm.exec := C.1
theorem Cx.b (C : Cx Z W rm own nm bytes maxL ret) : W.c.code = bytes := C.2.1
theorem Cx.ml (C : Cx Z W rm own nm bytes maxL ret) : W.c.maxLocals = maxL := C.2.2.1
theorem Cx.ow (C : Cx Z W rm own nm bytes maxL ret) : W.s.vm.findClass own = some W.m.cls := C.2.2.2.1
theorem Cx.na (C : Cx Z W rm own nm bytes maxL ret) : W.meth.name = nm := C.2.2.2.2.1
theorem Cx.re (C : Cx Z W rm own nm bytes maxL ret) : W.meth.sig.returnType = ret := C.2.2.2.2.2.1
theorem Cx.z (C : Cx Z W rm own nm bytes maxL ret) : Z.Warmed39 W.s.vm := C.2.2.2.2.2.2.1
theorem Cx.lk (C : Cx Z W rm own nm bytes maxL ret) : W.meth.locks = false := C.2.2.2.2.2.2.2.1
theorem Cx.ro (C : Cx Z W rm own nm bytes maxL ret) : W.R = rm := C.2.2.2.2.2.2.2.2
end Cxs
/-- the run comes to the invocation's end, with what Q says -/
def Ends (W : Wk) (n0 : Nat) (Q : Option Value → Heap → Prop) (U : State) : Prop :=
  ∃ s₂ o, Sp W U s₂ ∧ s₂.status = .running ∧ Ended s₂ W.below o ∧ ∃ v L, o = .returned v ∧ (Fr n0 L ∧ Q v s₂.heap) ∧ FrameEnd W.s o s₂ L W.R.cells W.R.slots
/-- from pc, with these locals and this stack, over the heap h, at most k cells of n slots made so far -/
def Go (W : Wk) (n0 : Nat) (Q : Option Value → Heap → Prop) (h : Heap) (k n pc : Nat) (ls : Array Slot) (st : List Value) : Prop :=
  ∀ T L k' n', St W T L k' n' → k' ≤ k → n' ≤ n → Fr n0 L → T.heap = h → Ends W n0 Q (T.setTop (mkF W.m pc ls st))
/-- a body's contract: on these arguments, over the heap h, it ends and Q holds of what it returns and of the heap that it leaves -/
def Met1 (l : Launch) (Z : State) (y : MethodName) (bytes : ByteArray) (maxL : Nat) (ret : Option FieldType) (ws : List Jvm.Cond) (rm : Room) (as : Array Value) (h : Heap) (n0 : Nat) (Q : Option Value → Heap → Prop) : Prop :=
  MetFree l y (head1 (Jvm.Cond.code y bytes maxL ret :: ws) rm) (fun a U => a = as ∧ Z.Warmed39 U.vm ∧ U.heap = h) (fun _ _ _ _ _ => True) (fun _ U o U' => ∃ v L, o = .returned v ∧ (Fr n0 L ∧ Q v U'.heap) ∧ FrameEnd U o U' L rm.cells rm.slots)
theorem met_of_go {l : Launch} {Z : State} {y : MethodName} {bytes : ByteArray} {maxL : Nat} {ret : Option FieldType} {ws : List Jvm.Cond} {rm : Room} {as : Array Value} {h : Heap} {n0 : Nat} {Q : Option Value → Heap → Prop} {ls : Array Slot}
    (hpl : plainFor y = true) (hef : ∀ m, entryFrame m as maxL = mkF m 0 ls [])
    (go : ∀ W : Wk, W.l = l → Cx Z W rm y.cls y.name bytes maxL ret → Go W n0 Q h 0 0 0 ls []) : Met1 l Z y bytes maxL ret ws rm as h n0 Q := by
  refine MetFree.of_bodySF hpl hisR ?_
  intro p e s m args below meth c s₁ Bd hml0 hP hK
  obtain ⟨rfl, hZ, hh⟩ := hP
  have X0 : Stand p l e rm s m args below meth c s₁ [] 0 0 := Stand.of_body Bd
  have e0 : s₁.heap = h := by rw [← hh, Bd.state]; rfl
  obtain ⟨s₂, o, h1, h2, h3, h4⟩ := go (p, l, e, rm, s, m, args, below, meth, c) rfl ⟨Bd.exec, Bd.bytes, hml0, findClass_of_methodNamed Bd.named, (name_of_methodNamed Bd.named Bd.method).1, Bd.returns, hZ, Bd.notSynchronized, rfl⟩ s₁ [] 0 0 X0 (Nat.le_refl _) (Nat.le_refl _) (Fr.nil n0) e0
  exact ⟨s₂, o, castTop (hef m) h1, h2, h3, h4⟩
section Gos
variable {Z : State} {W : Wk} {rm : Room} {own nm : String} {bytes : ByteArray} {maxL : Nat} {ret : Option FieldType} {n0 : Nat} {Q : Option Value → Heap → Prop} {h : Heap} {k n pc q : Nat} {ls : Array Slot} {st : List Value} {a0 : Array Value}
theorem Go.mono {k' n' : Nat} (hk : k ≤ k') (hn : n ≤ n') (g : Go W n0 Q h k' n' pc ls st) : Go W n0 Q h k n pc ls st :=
  fun T L a b X h1 h2 => g T L a b X (Nat.le_trans h1 hk) (Nat.le_trans h2 hn)
theorem Go.stepX {ls' : Array Slot} {st' : List Value} (f : ∀ T L a b tg, St W T L a b → T.heap = h → Sp W (T.setTop (mkF W.m q ls' st')) tg → Sp W (T.setTop (mkF W.m pc ls st)) tg) (hr : Go W n0 Q h k n q ls' st') : Go W n0 Q h k n pc ls st := by
  intro T L a b X hk hn N eT
  obtain ⟨s₂, o, hs, r⟩ := hr T L a b X hk hn N eT
  exact ⟨s₂, o, f T L a b _ X eT hs, r⟩
theorem Go.stepT {ls' : Array Slot} {st' : List Value} (f : ∀ T L a b, St W T L a b → T.heap = h → ∃ T', St W T' L a b ∧ T'.heap = h ∧ ∀ tg, Sp W (T'.setTop (mkF W.m q ls' st')) tg → Sp W (T.setTop (mkF W.m pc ls st)) tg) (hr : Go W n0 Q h k n q ls' st') : Go W n0 Q h k n pc ls st := by
  intro T L a b X hk hn N eT
  obtain ⟨T', X', e', sp⟩ := f T L a b X eT
  obtain ⟨s₂, o, hs, r⟩ := hr T' L a b X' hk hn N e'
  exact ⟨s₂, o, sp _ hs, r⟩

theorem Go.iload (C : Cx Z W rm own nm bytes maxL ret) {j : Nat} {v : Int32} (hd : decode bytes pc = .ok (.iload j, 2)) (hq : pc + 2 = q) (hl : ls[j]? = some (.val (.int v)))
    (hr : Go W n0 Q h k n q ls (.int v :: st)) : Go W n0 Q h k n pc ls st := by
  subst hq
  exact Go.stepX (fun T L a b tg X eT kk => XS.iload X.here C.x rfl (hb C.b hd) hl kk) hr
theorem Go.iloadN (C : Cx Z W rm own nm bytes maxL ret) {j : Fin 4} {v : Int32} (hd : decode bytes pc = .ok (.iload_n j, 1)) (hq : pc + 1 = q) (hl : ls[j.val]? = some (.val (.int v)))
    (hr : Go W n0 Q h k n q ls (.int v :: st)) : Go W n0 Q h k n pc ls st := by
  subst hq
  exact Go.stepX (fun T L a b tg X eT kk => XS.iloadN X.here C.x rfl (hb C.b hd) hl kk) hr
theorem Go.lload (C : Cx Z W rm own nm bytes maxL ret) {j : Nat} {v : Int64} (hd : decode bytes pc = .ok (.lload j, 2)) (hq : pc + 2 = q) (hl : ls[j]? = some (.val (.long v)))
    (hr : Go W n0 Q h k n q ls (.long v :: st)) : Go W n0 Q h k n pc ls st := by
  subst hq
  exact Go.stepX (fun T L a b tg X eT kk => XS.lload X.here C.x rfl (hb C.b hd) hl kk) hr
theorem Go.lloadN (C : Cx Z W rm own nm bytes maxL ret) {j : Fin 4} {v : Int64} (hd : decode bytes pc = .ok (.lload_n j, 1)) (hq : pc + 1 = q) (hl : ls[j.val]? = some (.val (.long v)))
    (hr : Go W n0 Q h k n q ls (.long v :: st)) : Go W n0 Q h k n pc ls st := by
  subst hq
  exact Go.stepX (fun T L a b tg X eT kk => XS.lloadN X.here C.x rfl (hb C.b hd) hl kk) hr
theorem Go.aload (C : Cx Z W rm own nm bytes maxL ret) {j : Nat} {v : Value} (hd : decode bytes pc = .ok (.aload j, 2)) (hq : pc + 2 = q) (hl : ls[j]? = some (.val v)) (hv : v.isRef = true)
    (hr : Go W n0 Q h k n q ls (v :: st)) : Go W n0 Q h k n pc ls st := by
  subst hq
  exact Go.stepX (fun T L a b tg X eT kk => XS.aload X.here C.x rfl (hb C.b hd) hl hv kk) hr
theorem Go.aloadN (C : Cx Z W rm own nm bytes maxL ret) {j : Fin 4} {v : Value} (hd : decode bytes pc = .ok (.aload_n j, 1)) (hq : pc + 1 = q) (hl : ls[j.val]? = some (.val v)) (hv : v.isRef = true)
    (hr : Go W n0 Q h k n q ls (v :: st)) : Go W n0 Q h k n pc ls st := by
  subst hq
  exact Go.stepX (fun T L a b tg X eT kk => XS.aloadN X.here C.x rfl (hb C.b hd) hl hv kk) hr
theorem Go.istore (C : Cx Z W rm own nm bytes maxL ret) {j : Nat} {x : Int32} (hd : decode bytes pc = .ok (.istore j, 2)) (hq : pc + 2 = q) (l' : Int32 → Array Slot) (hl : ∀ v, storeLocals ls j (.int v) = some (l' v))
    (hr : ∀ v, v = x → Go W n0 Q h k n q (l' v) st) : Go W n0 Q h k n pc ls (.int x :: st) := by
  subst hq
  exact Go.stepX (fun T L a b tg X eT kk => XS.istore X.here C.x rfl (hb C.b hd) rfl (hl x) kk) (hr x rfl)
theorem Go.istoreN (C : Cx Z W rm own nm bytes maxL ret) {j : Fin 4} {x : Int32} (hd : decode bytes pc = .ok (.istore_n j, 1)) (hq : pc + 1 = q) (l' : Int32 → Array Slot) (hl : ∀ v, storeLocals ls j.val (.int v) = some (l' v))
    (hr : ∀ v, v = x → Go W n0 Q h k n q (l' v) st) : Go W n0 Q h k n pc ls (.int x :: st) := by
  subst hq
  exact Go.stepX (fun T L a b tg X eT kk => XS.istoreN X.here C.x rfl (hb C.b hd) rfl (hl x) kk) (hr x rfl)
theorem Go.lstore (C : Cx Z W rm own nm bytes maxL ret) {j : Nat} {x : Int64} (hd : decode bytes pc = .ok (.lstore j, 2)) (hq : pc + 2 = q) (l' : Int64 → Array Slot) (hl : ∀ v, storeLocals ls j (.long v) = some (l' v))
    (hr : ∀ v, v = x → Go W n0 Q h k n q (l' v) st) : Go W n0 Q h k n pc ls (.long x :: st) := by
  subst hq
  exact Go.stepX (fun T L a b tg X eT kk => XS.lstore X.here C.x rfl (hb C.b hd) rfl (hl x) kk) (hr x rfl)
theorem Go.lstoreN (C : Cx Z W rm own nm bytes maxL ret) {j : Fin 4} {x : Int64} (hd : decode bytes pc = .ok (.lstore_n j, 1)) (hq : pc + 1 = q) (l' : Int64 → Array Slot) (hl : ∀ v, storeLocals ls j.val (.long v) = some (l' v))
    (hr : ∀ v, v = x → Go W n0 Q h k n q (l' v) st) : Go W n0 Q h k n pc ls (.long x :: st) := by
  subst hq
  exact Go.stepX (fun T L a b tg X eT kk => XS.lstoreN X.here C.x rfl (hb C.b hd) rfl (hl x) kk) (hr x rfl)
theorem Go.astore (C : Cx Z W rm own nm bytes maxL ret) {j : Nat} {x : Value} (hd : decode bytes pc = .ok (.astore j, 2)) (hq : pc + 2 = q) {l' : Array Slot} (hv : x.isRef = true) (hl : storeLocals ls j x = some l')
    (hr : Go W n0 Q h k n q l' st) : Go W n0 Q h k n pc ls (x :: st) := by
  subst hq
  exact Go.stepX (fun T L a b tg X eT kk => XS.astore X.here C.x rfl (hb C.b hd) rfl hv hl kk) hr
theorem Go.astoreN (C : Cx Z W rm own nm bytes maxL ret) {j : Fin 4} {x : Value} (hd : decode bytes pc = .ok (.astore_n j, 1)) (hq : pc + 1 = q) {l' : Array Slot} (hv : x.isRef = true) (hl : storeLocals ls j.val x = some l')
    (hr : Go W n0 Q h k n q l' st) : Go W n0 Q h k n pc ls (x :: st) := by
  subst hq
  exact Go.stepX (fun T L a b tg X eT kk => XS.astoreN X.here C.x rfl (hb C.b hd) rfl hv hl kk) hr
theorem Go.istoreR (C : Cx Z W rm own nm bytes maxL ret) {j : Nat} {x : Int32} (hd : decode bytes pc = .ok (.istore j, 2)) (hq : pc + 2 = q) {l' : Array Slot} (hl : storeLocals ls j (.int x) = some l')
    (hr : Go W n0 Q h k n q l' st) : Go W n0 Q h k n pc ls (.int x :: st) := by
  subst hq
  exact Go.stepX (fun T L a b tg X eT kk => XS.istore X.here C.x rfl (hb C.b hd) rfl hl kk) hr
theorem Go.istoreNR (C : Cx Z W rm own nm bytes maxL ret) {j : Fin 4} {x : Int32} (hd : decode bytes pc = .ok (.istore_n j, 1)) (hq : pc + 1 = q) {l' : Array Slot} (hl : storeLocals ls j.val (.int x) = some l')
    (hr : Go W n0 Q h k n q l' st) : Go W n0 Q h k n pc ls (.int x :: st) := by
  subst hq
  exact Go.stepX (fun T L a b tg X eT kk => XS.istoreN X.here C.x rfl (hb C.b hd) rfl hl kk) hr
theorem Go.lstoreR (C : Cx Z W rm own nm bytes maxL ret) {j : Nat} {x : Int64} (hd : decode bytes pc = .ok (.lstore j, 2)) (hq : pc + 2 = q) {l' : Array Slot} (hl : storeLocals ls j (.long x) = some l')
    (hr : Go W n0 Q h k n q l' st) : Go W n0 Q h k n pc ls (.long x :: st) := by
  subst hq
  exact Go.stepX (fun T L a b tg X eT kk => XS.lstore X.here C.x rfl (hb C.b hd) rfl hl kk) hr
theorem Go.lstoreNR (C : Cx Z W rm own nm bytes maxL ret) {j : Fin 4} {x : Int64} (hd : decode bytes pc = .ok (.lstore_n j, 1)) (hq : pc + 1 = q) {l' : Array Slot} (hl : storeLocals ls j.val (.long x) = some l')
    (hr : Go W n0 Q h k n q l' st) : Go W n0 Q h k n pc ls (.long x :: st) := by
  subst hq
  exact Go.stepX (fun T L a b tg X eT kk => XS.lstoreN X.here C.x rfl (hb C.b hd) rfl hl kk) hr
theorem Go.iincR (C : Cx Z W rm own nm bytes maxL ret) {j : Nat} {cst : Int} {x : Int32} (hd : decode bytes pc = .ok (.iinc j cst, 3)) (hq : pc + 3 = q) (hl0 : ls[j]? = some (.val (.int x))) {l' : Array Slot} (hl : storeLocals ls j (.int (x + Int32.ofInt cst)) = some l')
    (hr : Go W n0 Q h k n q l' st) : Go W n0 Q h k n pc ls st := by
  subst hq
  exact Go.stepX (fun T L a b tg X eT kk => XS.iinc X.here C.x rfl (hb C.b hd) hl0 hl kk) hr
theorem Go.iinc (C : Cx Z W rm own nm bytes maxL ret) {j : Nat} {cst : Int} {x y : Int32} (hd : decode bytes pc = .ok (.iinc j cst, 3)) (hq : pc + 3 = q) (hl0 : ls[j]? = some (.val (.int x))) (hy : Int32.ofInt cst = y) (l' : Int32 → Array Slot) (hl : ∀ v, storeLocals ls j (.int v) = some (l' v))
    (hr : ∀ v, v = x + y → Go W n0 Q h k n q (l' v) st) : Go W n0 Q h k n pc ls st := by
  subst hq hy
  exact Go.stepX (fun T L a b tg X eT kk => XS.iinc X.here C.x rfl (hb C.b hd) hl0 (hl _) kk) (hr _ rfl)
theorem Go.iconst (C : Cx Z W rm own nm bytes maxL ret) {i : Int} (v : Int32) (hd : decode bytes pc = .ok (.iconst i, 1)) (hq : pc + 1 = q) (hv : Int32.ofInt i = v)
    (hr : Go W n0 Q h k n q ls (.int v :: st)) : Go W n0 Q h k n pc ls st := by
  subst hq hv
  exact Go.stepX (fun T L a b tg X eT kk => XS.iconst X.here C.x rfl (hb C.b hd) kk) hr
theorem Go.bipush (C : Cx Z W rm own nm bytes maxL ret) {i : Int} (v : Int32) (hd : decode bytes pc = .ok (.bipush i, 2)) (hq : pc + 2 = q) (hv : (Int8.ofInt i).toInt32 = v)
    (hr : Go W n0 Q h k n q ls (.int v :: st)) : Go W n0 Q h k n pc ls st := by
  subst hq hv
  exact Go.stepX (fun T L a b tg X eT kk => XS.bipush X.here C.x rfl (hb C.b hd) kk) hr
theorem Go.sipush (C : Cx Z W rm own nm bytes maxL ret) {i : Int} (v : Int32) (hd : decode bytes pc = .ok (.sipush i, 3)) (hq : pc + 3 = q) (hv : (Int16.ofInt i).toInt32 = v)
    (hr : Go W n0 Q h k n q ls (.int v :: st)) : Go W n0 Q h k n pc ls st := by
  subst hq hv
  exact Go.stepX (fun T L a b tg X eT kk => XS.sipush X.here C.x rfl (hb C.b hd) kk) hr
theorem Go.lconst (C : Cx Z W rm own nm bytes maxL ret) {i : Fin 2} (v : Int64) (hd : decode bytes pc = .ok (.lconst i, 1)) (hq : pc + 1 = q) (hv : Int64.ofNat i = v)
    (hr : Go W n0 Q h k n q ls (.long v :: st)) : Go W n0 Q h k n pc ls st := by
  subst hq hv
  exact Go.stepX (fun T L a b tg X eT kk => XS.lconst X.here C.x rfl (hb C.b hd) kk) hr
theorem Go.aconstNull (C : Cx Z W rm own nm bytes maxL ret)  (hd : decode bytes pc = .ok (.aconst_null, 1)) (hq : pc + 1 = q)
    (hr : Go W n0 Q h k n q ls (.null :: st)) : Go W n0 Q h k n pc ls st := by
  subst hq
  exact Go.stepX (fun T L a b tg X eT kk => XS.aconstNull X.here C.x rfl (hb C.b hd) kk) hr
theorem Go.ldcI (C : Cx Z W rm own nm bytes maxL ret) {index : Nat} {v : Int32} (w : (Jvm.Cond.constant own index v).before a0 Z = true) (hd : decode bytes pc = .ok (.ldc index, 2)) (hq : pc + 2 = q)
    (hr : Go W n0 Q h k n q ls (.int v :: st)) : Go W n0 Q h k n pc ls st := by
  subst hq
  exact Go.stepX (fun T L a b tg X eT kk => X.ldcInt C.x C.ow (mvT C.z w) (g := mkF W.m pc ls st) rfl (hb C.b hd) _ kk) hr
theorem Go.ldcwI (C : Cx Z W rm own nm bytes maxL ret) {index : Nat} {v : Int32} (w : (Jvm.Cond.constant own index v).before a0 Z = true) (hd : decode bytes pc = .ok (.ldc_w index, 3)) (hq : pc + 3 = q)
    (hr : Go W n0 Q h k n q ls (.int v :: st)) : Go W n0 Q h k n pc ls st := by
  subst hq
  exact Go.stepX (fun T L a b tg X eT kk => X.ldcwInt C.x C.ow (mvT C.z w) (g := mkF W.m pc ls st) rfl (hb C.b hd) _ kk) hr
theorem Go.ldc2J (C : Cx Z W rm own nm bytes maxL ret) {index : Nat} {v : Int64} (w : (Jvm.Cond.constantLong own index v).before a0 Z = true) (hd : decode bytes pc = .ok (.ldc2_w index, 3)) (hq : pc + 3 = q)
    (hr : Go W n0 Q h k n q ls (.long v :: st)) : Go W n0 Q h k n pc ls st := by
  subst hq
  exact Go.stepX (fun T L a b tg X eT kk => X.ldc2Long C.x C.ow (mvT C.z w) (g := mkF W.m pc ls st) rfl (hb C.b hd) _ kk) hr
theorem Go.iadd (C : Cx Z W rm own nm bytes maxL ret) {x y : Int32} (hd : decode bytes pc = .ok (.iadd, 1)) (hq : pc + 1 = q)
    (hr : Go W n0 Q h k n q ls (.int (x + y) :: st)) : Go W n0 Q h k n pc ls (.int y :: .int x :: st) := by
  subst hq
  exact Go.stepX (fun T L a b tg X eT kk => XS.iadd X.here C.x rfl (hb C.b hd) rfl kk) hr
theorem Go.ladd (C : Cx Z W rm own nm bytes maxL ret) {x y : Int64} (hd : decode bytes pc = .ok (.ladd, 1)) (hq : pc + 1 = q)
    (hr : Go W n0 Q h k n q ls (.long (x + y) :: st)) : Go W n0 Q h k n pc ls (.long y :: .long x :: st) := by
  subst hq
  exact Go.stepX (fun T L a b tg X eT kk => XS.ladd X.here C.x rfl (hb C.b hd) rfl kk) hr
theorem Go.isub (C : Cx Z W rm own nm bytes maxL ret) {x y : Int32} (hd : decode bytes pc = .ok (.isub, 1)) (hq : pc + 1 = q)
    (hr : Go W n0 Q h k n q ls (.int (x - y) :: st)) : Go W n0 Q h k n pc ls (.int y :: .int x :: st) := by
  subst hq
  exact Go.stepX (fun T L a b tg X eT kk => XS.isub X.here C.x rfl (hb C.b hd) rfl kk) hr
theorem Go.lsub (C : Cx Z W rm own nm bytes maxL ret) {x y : Int64} (hd : decode bytes pc = .ok (.lsub, 1)) (hq : pc + 1 = q)
    (hr : Go W n0 Q h k n q ls (.long (x - y) :: st)) : Go W n0 Q h k n pc ls (.long y :: .long x :: st) := by
  subst hq
  exact Go.stepX (fun T L a b tg X eT kk => XS.lsub X.here C.x rfl (hb C.b hd) rfl kk) hr
theorem Go.imul (C : Cx Z W rm own nm bytes maxL ret) {x y : Int32} (hd : decode bytes pc = .ok (.imul, 1)) (hq : pc + 1 = q)
    (hr : Go W n0 Q h k n q ls (.int (x * y) :: st)) : Go W n0 Q h k n pc ls (.int y :: .int x :: st) := by
  subst hq
  exact Go.stepX (fun T L a b tg X eT kk => XS.imul X.here C.x rfl (hb C.b hd) rfl kk) hr
theorem Go.lmul (C : Cx Z W rm own nm bytes maxL ret) {x y : Int64} (hd : decode bytes pc = .ok (.lmul, 1)) (hq : pc + 1 = q)
    (hr : Go W n0 Q h k n q ls (.long (x * y) :: st)) : Go W n0 Q h k n pc ls (.long y :: .long x :: st) := by
  subst hq
  exact Go.stepX (fun T L a b tg X eT kk => XS.lmul X.here C.x rfl (hb C.b hd) rfl kk) hr
theorem Go.iand (C : Cx Z W rm own nm bytes maxL ret) {x y : Int32} (hd : decode bytes pc = .ok (.iand, 1)) (hq : pc + 1 = q)
    (hr : Go W n0 Q h k n q ls (.int (x &&& y) :: st)) : Go W n0 Q h k n pc ls (.int y :: .int x :: st) := by
  subst hq
  exact Go.stepX (fun T L a b tg X eT kk => XS.iand X.here C.x rfl (hb C.b hd) rfl kk) hr
theorem Go.land (C : Cx Z W rm own nm bytes maxL ret) {x y : Int64} (hd : decode bytes pc = .ok (.land, 1)) (hq : pc + 1 = q)
    (hr : Go W n0 Q h k n q ls (.long (x &&& y) :: st)) : Go W n0 Q h k n pc ls (.long y :: .long x :: st) := by
  subst hq
  exact Go.stepX (fun T L a b tg X eT kk => XS.land X.here C.x rfl (hb C.b hd) rfl kk) hr
theorem Go.ior (C : Cx Z W rm own nm bytes maxL ret) {x y : Int32} (hd : decode bytes pc = .ok (.ior, 1)) (hq : pc + 1 = q)
    (hr : Go W n0 Q h k n q ls (.int (x ||| y) :: st)) : Go W n0 Q h k n pc ls (.int y :: .int x :: st) := by
  subst hq
  exact Go.stepX (fun T L a b tg X eT kk => XS.ior X.here C.x rfl (hb C.b hd) rfl kk) hr
theorem Go.lor (C : Cx Z W rm own nm bytes maxL ret) {x y : Int64} (hd : decode bytes pc = .ok (.lor, 1)) (hq : pc + 1 = q)
    (hr : Go W n0 Q h k n q ls (.long (x ||| y) :: st)) : Go W n0 Q h k n pc ls (.long y :: .long x :: st) := by
  subst hq
  exact Go.stepX (fun T L a b tg X eT kk => XS.lor X.here C.x rfl (hb C.b hd) rfl kk) hr
theorem Go.ixor (C : Cx Z W rm own nm bytes maxL ret) {x y : Int32} (hd : decode bytes pc = .ok (.ixor, 1)) (hq : pc + 1 = q)
    (hr : Go W n0 Q h k n q ls (.int (x ^^^ y) :: st)) : Go W n0 Q h k n pc ls (.int y :: .int x :: st) := by
  subst hq
  exact Go.stepX (fun T L a b tg X eT kk => XS.ixor X.here C.x rfl (hb C.b hd) rfl kk) hr
theorem Go.lxor (C : Cx Z W rm own nm bytes maxL ret) {x y : Int64} (hd : decode bytes pc = .ok (.lxor, 1)) (hq : pc + 1 = q)
    (hr : Go W n0 Q h k n q ls (.long (x ^^^ y) :: st)) : Go W n0 Q h k n pc ls (.long y :: .long x :: st) := by
  subst hq
  exact Go.stepX (fun T L a b tg X eT kk => XS.lxor X.here C.x rfl (hb C.b hd) rfl kk) hr
theorem Go.irem (C : Cx Z W rm own nm bytes maxL ret) {x y : Int32} (hd : decode bytes pc = .ok (.irem, 1)) (hq : pc + 1 = q) (hy : y ≠ 0)
    (hr : Go W n0 Q h k n q ls (.int (x % y) :: st)) : Go W n0 Q h k n pc ls (.int y :: .int x :: st) := by
  subst hq
  exact Go.stepX (fun T L a b tg X eT kk => iremM X C.x rfl (hb C.b hd) rfl hy kk) hr
theorem Go.idiv (C : Cx Z W rm own nm bytes maxL ret) {x y : Int32} (hd : decode bytes pc = .ok (.idiv, 1)) (hq : pc + 1 = q) (hy : y ≠ 0)
    (hr : Go W n0 Q h k n q ls (.int (x / y) :: st)) : Go W n0 Q h k n pc ls (.int y :: .int x :: st) := by
  subst hq
  exact Go.stepX (fun T L a b tg X eT kk => XS.idiv X.here C.x rfl (hb C.b hd) rfl hy kk) hr
theorem Go.lrem (C : Cx Z W rm own nm bytes maxL ret) {x y : Int64} (hd : decode bytes pc = .ok (.lrem, 1)) (hq : pc + 1 = q) (hy : y ≠ 0)
    (hr : Go W n0 Q h k n q ls (.long (x - (x / y) * y) :: st)) : Go W n0 Q h k n pc ls (.long y :: .long x :: st) := by
  subst hq
  exact Go.stepX (fun T L a b tg X eT kk => XS.lrem X.here C.x rfl (hb C.b hd) rfl hy kk) hr
theorem Go.ldiv (C : Cx Z W rm own nm bytes maxL ret) {x y : Int64} (hd : decode bytes pc = .ok (.ldiv, 1)) (hq : pc + 1 = q) (hy : y ≠ 0)
    (hr : Go W n0 Q h k n q ls (.long (x / y) :: st)) : Go W n0 Q h k n pc ls (.long y :: .long x :: st) := by
  subst hq
  exact Go.stepX (fun T L a b tg X eT kk => XS.ldiv X.here C.x rfl (hb C.b hd) rfl hy kk) hr
theorem Go.ineg (C : Cx Z W rm own nm bytes maxL ret) {x : Int32} (hd : decode bytes pc = .ok (.ineg, 1)) (hq : pc + 1 = q)
    (hr : Go W n0 Q h k n q ls (.int (-x) :: st)) : Go W n0 Q h k n pc ls (.int x :: st) := by
  subst hq
  exact Go.stepX (fun T L a b tg X eT kk => XS.ineg X.here C.x rfl (hb C.b hd) rfl kk) hr
theorem Go.lneg (C : Cx Z W rm own nm bytes maxL ret) {x : Int64} (hd : decode bytes pc = .ok (.lneg, 1)) (hq : pc + 1 = q)
    (hr : Go W n0 Q h k n q ls (.long (-x) :: st)) : Go W n0 Q h k n pc ls (.long x :: st) := by
  subst hq
  exact Go.stepX (fun T L a b tg X eT kk => XS.lneg X.here C.x rfl (hb C.b hd) rfl kk) hr
theorem Go.i2l (C : Cx Z W rm own nm bytes maxL ret) {x : Int32} (hd : decode bytes pc = .ok (.i2l, 1)) (hq : pc + 1 = q)
    (hr : Go W n0 Q h k n q ls (.long x.toInt64 :: st)) : Go W n0 Q h k n pc ls (.int x :: st) := by
  subst hq
  exact Go.stepX (fun T L a b tg X eT kk => XS.i2l X.here C.x rfl (hb C.b hd) rfl kk) hr
theorem Go.l2i (C : Cx Z W rm own nm bytes maxL ret) {x : Int64} (hd : decode bytes pc = .ok (.l2i, 1)) (hq : pc + 1 = q)
    (hr : Go W n0 Q h k n q ls (.int x.toInt32 :: st)) : Go W n0 Q h k n pc ls (.long x :: st) := by
  subst hq
  exact Go.stepX (fun T L a b tg X eT kk => XS.l2i X.here C.x rfl (hb C.b hd) rfl kk) hr
theorem Go.i2b (C : Cx Z W rm own nm bytes maxL ret) {x : Int32} (hd : decode bytes pc = .ok (.i2b, 1)) (hq : pc + 1 = q)
    (hr : Go W n0 Q h k n q ls (.int x.toInt8.toInt32 :: st)) : Go W n0 Q h k n pc ls (.int x :: st) := by
  subst hq
  exact Go.stepX (fun T L a b tg X eT kk => XS.i2b X.here C.x rfl (hb C.b hd) rfl kk) hr
theorem Go.i2s (C : Cx Z W rm own nm bytes maxL ret) {x : Int32} (hd : decode bytes pc = .ok (.i2s, 1)) (hq : pc + 1 = q)
    (hr : Go W n0 Q h k n q ls (.int x.toInt16.toInt32 :: st)) : Go W n0 Q h k n pc ls (.int x :: st) := by
  subst hq
  exact Go.stepX (fun T L a b tg X eT kk => XS.i2s X.here C.x rfl (hb C.b hd) rfl kk) hr
theorem Go.i2c (C : Cx Z W rm own nm bytes maxL ret) {x : Int32} (hd : decode bytes pc = .ok (.i2c, 1)) (hq : pc + 1 = q)
    (hr : Go W n0 Q h k n q ls (.int x.toUInt32.toUInt16.toUInt32.toInt32 :: st)) : Go W n0 Q h k n pc ls (.int x :: st) := by
  subst hq
  exact Go.stepX (fun T L a b tg X eT kk => XS.i2c X.here C.x rfl (hb C.b hd) rfl kk) hr
theorem Go.ishl (C : Cx Z W rm own nm bytes maxL ret) {x : Int32} {y : Int32} (hd : decode bytes pc = .ok (.ishl, 1)) (hq : pc + 1 = q)
    (hr : Go W n0 Q h k n q ls (.int (x <<< (y &&& 31)) :: st)) : Go W n0 Q h k n pc ls (.int y :: .int x :: st) := by
  subst hq
  exact Go.stepX (fun T L a b tg X eT kk => XS.ishl X.here C.x rfl (hb C.b hd) rfl kk) hr
theorem Go.ishr (C : Cx Z W rm own nm bytes maxL ret) {x : Int32} {y : Int32} (hd : decode bytes pc = .ok (.ishr, 1)) (hq : pc + 1 = q)
    (hr : Go W n0 Q h k n q ls (.int (x >>> (y &&& 31)) :: st)) : Go W n0 Q h k n pc ls (.int y :: .int x :: st) := by
  subst hq
  exact Go.stepX (fun T L a b tg X eT kk => XS.ishr X.here C.x rfl (hb C.b hd) rfl kk) hr
theorem Go.iushr (C : Cx Z W rm own nm bytes maxL ret) {x : Int32} {y : Int32} (hd : decode bytes pc = .ok (.iushr, 1)) (hq : pc + 1 = q)
    (hr : Go W n0 Q h k n q ls (.int ((x.toUInt32 >>> (y &&& 31).toUInt32).toInt32) :: st)) : Go W n0 Q h k n pc ls (.int y :: .int x :: st) := by
  subst hq
  exact Go.stepX (fun T L a b tg X eT kk => XS.iushr X.here C.x rfl (hb C.b hd) rfl kk) hr
theorem Go.lshl (C : Cx Z W rm own nm bytes maxL ret) {x : Int64} {y : Int32} (hd : decode bytes pc = .ok (.lshl, 1)) (hq : pc + 1 = q)
    (hr : Go W n0 Q h k n q ls (.long (x <<< (y &&& 0x3f).toInt64) :: st)) : Go W n0 Q h k n pc ls (.int y :: .long x :: st) := by
  subst hq
  exact Go.stepX (fun T L a b tg X eT kk => XS.lshl X.here C.x rfl (hb C.b hd) rfl kk) hr
theorem Go.lshr (C : Cx Z W rm own nm bytes maxL ret) {x : Int64} {y : Int32} (hd : decode bytes pc = .ok (.lshr, 1)) (hq : pc + 1 = q)
    (hr : Go W n0 Q h k n q ls (.long (x >>> (y &&& 0x3f).toInt64) :: st)) : Go W n0 Q h k n pc ls (.int y :: .long x :: st) := by
  subst hq
  exact Go.stepX (fun T L a b tg X eT kk => XS.lshr X.here C.x rfl (hb C.b hd) rfl kk) hr
theorem Go.lushr (C : Cx Z W rm own nm bytes maxL ret) {x : Int64} {y : Int32} (hd : decode bytes pc = .ok (.lushr, 1)) (hq : pc + 1 = q)
    (hr : Go W n0 Q h k n q ls (.long ((x.toUInt64 >>> (y &&& 0x3f).toInt64.toUInt64).toInt64) :: st)) : Go W n0 Q h k n pc ls (.int y :: .long x :: st) := by
  subst hq
  exact Go.stepX (fun T L a b tg X eT kk => XS.lushr X.here C.x rfl (hb C.b hd) rfl kk) hr
theorem Go.i2d (C : Cx Z W rm own nm bytes maxL ret) {x : Int32} (hd : decode bytes pc = .ok (.i2d, 1)) (hq : pc + 1 = q)
    (hr : Go W n0 Q h k n q ls (.double (FP.l2d x.toInt64) :: st)) : Go W n0 Q h k n pc ls (.int x :: st) := by
  subst hq
  exact Go.stepX (fun T L a b tg X eT kk => XS.i2dS X.here C.x rfl (hb C.b hd) rfl (Jvm.RoadKit.i2d_w x) kk) hr
theorem Go.dcmp (C : Cx Z W rm own nm bytes maxL ret) {o : CmpOp} {x y : Int64} (hd : decode bytes pc = .ok (.dcmp o, 1)) (hq : pc + 1 = q) (hx : B53 x) (hy : B53 y)
    (hr : Go W n0 Q h k n q ls (.int (lcmpW x y) :: st)) : Go W n0 Q h k n pc ls (.double (FP.l2d y) :: .double (FP.l2d x) :: st) := by
  subst hq
  exact Go.stepX (fun T L a b tg X eT kk => XS.dcmpS X.here C.x rfl (hb C.b hd) rfl (dcmpV_w hx hy o) kk) hr
theorem Go.lcmp (C : Cx Z W rm own nm bytes maxL ret) {x y : Int64} (hd : decode bytes pc = .ok (.lcmp, 1)) (hq : pc + 1 = q)
    (hr : Go W n0 Q h k n q ls (.int (lcmpW x y) :: st)) : Go W n0 Q h k n pc ls (.long y :: .long x :: st) := by
  subst hq
  exact Go.stepX (fun T L a b tg X eT kk => XS.lcmp X.here C.x rfl (hb C.b hd) rfl kk) hr
theorem Go.pop (C : Cx Z W rm own nm bytes maxL ret) {x : Value} (hd : decode bytes pc = .ok (.pop, 1)) (hq : pc + 1 = q) (hc : x.category = 1)
    (hr : Go W n0 Q h k n q ls st) : Go W n0 Q h k n pc ls (x :: st) := by
  subst hq
  exact Go.stepX (fun T L a b tg X eT kk => XS.pop X.here C.x rfl (hb C.b hd) rfl hc kk) hr
theorem Go.dup (C : Cx Z W rm own nm bytes maxL ret) {x : Value} (hd : decode bytes pc = .ok (.dup, 1)) (hq : pc + 1 = q) (hc : x.category = 1)
    (hr : Go W n0 Q h k n q ls (x :: x :: st)) : Go W n0 Q h k n pc ls (x :: st) := by
  subst hq
  exact Go.stepX (fun T L a b tg X eT kk => XS.dup X.here C.x rfl (hb C.b hd) rfl hc kk) hr
theorem Go.dup2 (C : Cx Z W rm own nm bytes maxL ret) {x y : Value} (hd : decode bytes pc = .ok (.dup2, 1)) (hq : pc + 1 = q) (hc : x.category = 1) (hc' : y.category = 1)
    (hr : Go W n0 Q h k n q ls (x :: y :: x :: y :: st)) : Go W n0 Q h k n pc ls (x :: y :: st) := by
  subst hq
  exact Go.stepX (fun T L a b tg X eT kk => XT.dup2 X.here C.x rfl (hb C.b hd) rfl hc hc' kk) hr
theorem Go.goto (C : Cx Z W rm own nm bytes maxL ret) {o : Int} (hd : decode bytes pc = .ok (.goto o, 3)) (ho : 0 ≤ (pc : Int) + o) (hp : ((pc : Int) + o).toNat = q)
    (hr : Go W n0 Q h k n q ls st) : Go W n0 Q h k n pc ls st :=
  Go.stepX (fun T L a b tg X eT kk => XS.goto X.here C.x rfl (pc0 := pc) rfl (hb C.b hd) ho hp kk) hr
theorem Go.icmp (C : Cx Z W rm own nm bytes maxL ret) {cd : ClassFile.Cond} {o : Int} {x y : Int32} {qt : Nat} {P : Prop} [Decidable P] (hd : decode bytes pc = .ok (.if_icmp cd o, 3)) (hP : if_icmp.holds cd x y = decide P) (ho : 0 ≤ (pc : Int) + o) (hp : ((pc : Int) + o).toNat = qt) (hq : pc + 3 = q)
    (ht : P → Go W n0 Q h k n qt ls st) (hf : ¬ P → Go W n0 Q h k n q ls st) : Go W n0 Q h k n pc ls (.int y :: .int x :: st) := by
  subst hq
  by_cases p : P
  · exact Go.stepX (fun T L a b tg X eT kk => XS.icmpYes X.here C.x rfl (pc0 := pc) rfl (hb C.b hd) rfl (hP.trans (decide_eq_true p)) ho hp kk) (ht p)
  · exact Go.stepX (fun T L a b tg X eT kk => XS.icmpNo X.here C.x rfl (hb C.b hd) rfl (hP.trans (decide_eq_false p)) kk) (hf p)
theorem Go.if0 (C : Cx Z W rm own nm bytes maxL ret) {cd : ClassFile.Cond} {o : Int} {x : Int32} {qt : Nat} {P : Prop} [Decidable P] (hd : decode bytes pc = .ok (.ifCond cd o, 3)) (hP : ifCond.holds cd x = decide P) (ho : 0 ≤ (pc : Int) + o) (hp : ((pc : Int) + o).toNat = qt) (hq : pc + 3 = q)
    (ht : P → Go W n0 Q h k n qt ls st) (hf : ¬ P → Go W n0 Q h k n q ls st) : Go W n0 Q h k n pc ls (.int x :: st) := by
  subst hq
  by_cases p : P
  · exact Go.stepX (fun T L a b tg X eT kk => XS.ifYes X.here C.x rfl (pc0 := pc) rfl (hb C.b hd) rfl (hP.trans (decide_eq_true p)) ho hp kk) (ht p)
  · exact Go.stepX (fun T L a b tg X eT kk => XS.ifNo X.here C.x rfl (hb C.b hd) rfl (hP.trans (decide_eq_false p)) kk) (hf p)
theorem Go.ifnullY (C : Cx Z W rm own nm bytes maxL ret) {o : Int} (hd : decode bytes pc = .ok (.ifnull o, 3)) (ho : 0 ≤ (pc : Int) + o) (hp : ((pc : Int) + o).toNat = q)
    (hr : Go W n0 Q h k n q ls st) : Go W n0 Q h k n pc ls (.null :: st) :=
  Go.stepX (fun T L a b tg X eT kk => XS.ifnullYes X.here C.x rfl (pc0 := pc) rfl (hb C.b hd) rfl ho hp kk) hr
theorem Go.ifnullN (C : Cx Z W rm own nm bytes maxL ret) {o : Int} {a : Addr} (hd : decode bytes pc = .ok (.ifnull o, 3)) (hq : pc + 3 = q)
    (hr : Go W n0 Q h k n q ls st) : Go W n0 Q h k n pc ls (.ref a :: st) := by
  subst hq
  exact Go.stepX (fun T L a b tg X eT kk => XS.ifnullNo X.here C.x rfl (hb C.b hd) rfl kk) hr
theorem Go.ifnonnullY (C : Cx Z W rm own nm bytes maxL ret) {o : Int} {a : Addr} (hd : decode bytes pc = .ok (.ifnonnull o, 3)) (ho : 0 ≤ (pc : Int) + o) (hp : ((pc : Int) + o).toNat = q)
    (hr : Go W n0 Q h k n q ls st) : Go W n0 Q h k n pc ls (.ref a :: st) :=
  Go.stepX (fun T L a b tg X eT kk => XS.ifnonnullYes X.here C.x rfl (pc0 := pc) rfl (hb C.b hd) rfl ho hp kk) hr
theorem Go.ifnonnullN (C : Cx Z W rm own nm bytes maxL ret) {o : Int} (hd : decode bytes pc = .ok (.ifnonnull o, 3)) (hq : pc + 3 = q)
    (hr : Go W n0 Q h k n q ls st) : Go W n0 Q h k n pc ls (.null :: st) := by
  subst hq
  exact Go.stepX (fun T L a b tg X eT kk => XS.ifnonnullNo X.here C.x rfl (hb C.b hd) rfl kk) hr
theorem Go.acmp (C : Cx Z W rm own nm bytes maxL ret) {cd : ACond} {o : Int} {x y : Value} {same : Bool} (hd : decode bytes pc = .ok (.if_acmp cd o, 3)) (h1 : x.isRef = true) (h2 : y.isRef = true) (hs : decide (x = y) = same) (ho : 0 ≤ (pc : Int) + o) (hp : q = if acV cd same = true then ((pc : Int) + o).toNat else pc + 3)
    (hr : Go W n0 Q h k n q ls st) : Go W n0 Q h k n pc ls (y :: x :: st) :=
  Go.stepX (fun T L a b tg X eT kk => Jvm.RoadKit.acmp X C.x rfl h1 h2 (pc0 := pc) rfl (hb C.b hd) rfl hs ho hp kk) hr
theorem n_lt (x y : Int32) : if_icmp.holds .lt x y = decide (x < y) := rfl
theorem n_ge (x y : Int32) : if_icmp.holds .ge x y = decide (¬ x < y) := by simp [if_icmp.holds, Int32.not_lt]
theorem n_gt (x y : Int32) : if_icmp.holds .gt x y = decide (y < x) := rfl
theorem n_le (x y : Int32) : if_icmp.holds .le x y = decide (¬ y < x) := by simp [if_icmp.holds, Int32.not_lt]
theorem n_eq (x y : Int32) : if_icmp.holds .eq x y = decide (x = y) := by by_cases e : x = y <;> simp [if_icmp.holds, e]
theorem n_ne (x y : Int32) : if_icmp.holds .ne x y = decide (¬ x = y) := by by_cases e : x = y <;> simp [if_icmp.holds, e]
theorem z_lt (x : Int32) : ifCond.holds .lt x = decide (x < 0) := (if0 _ x).trans (n_lt x 0)
theorem z_ge (x : Int32) : ifCond.holds .ge x = decide (¬ x < 0) := (if0 _ x).trans (n_ge x 0)
theorem z_gt (x : Int32) : ifCond.holds .gt x = decide (0 < x) := (if0 _ x).trans (n_gt x 0)
theorem z_le (x : Int32) : ifCond.holds .le x = decide (¬ 0 < x) := (if0 _ x).trans (n_le x 0)
theorem z_eq (x : Int32) : ifCond.holds .eq x = decide (x = 0) := (if0 _ x).trans (n_eq x 0)
theorem z_ne (x : Int32) : ifCond.holds .ne x = decide (¬ x = 0) := (if0 _ x).trans (n_ne x 0)
theorem l_lt (x y : Int64) : ifCond.holds .lt (lcmpW x y) = decide (x < y) := by rw [z_lt]; exact decide_eq_decide.mpr (lw_lt x y)
theorem l_ge (x y : Int64) : ifCond.holds .ge (lcmpW x y) = decide (¬ x < y) := by rw [z_ge]; exact decide_eq_decide.mpr (not_congr (lw_lt x y))
theorem l_gt (x y : Int64) : ifCond.holds .gt (lcmpW x y) = decide (y < x) := by rw [z_gt]; exact decide_eq_decide.mpr (lw_gt x y)
theorem l_le (x y : Int64) : ifCond.holds .le (lcmpW x y) = decide (¬ y < x) := by rw [z_le]; exact decide_eq_decide.mpr (not_congr (lw_gt x y))
theorem l_eq (x y : Int64) : ifCond.holds .eq (lcmpW x y) = decide (x = y) := by rw [z_eq]; exact decide_eq_decide.mpr (lw_eq x y)
theorem l_ne (x y : Int64) : ifCond.holds .ne (lcmpW x y) = decide (¬ x = y) := by rw [z_ne]; exact decide_eq_decide.mpr (not_congr (lw_eq x y))
theorem nar_b (x : Int32) : nar .byte x.toInt8.toInt32 = x.toInt8.toInt32 := by
  show x.toInt8.toInt32.toInt8.toInt32 = _
  simp
/-- what the law's own walk leaves -/
def QL : Option Value → Heap → Prop := fun v _ => v = some (.int 1)
/-! the ends -/
theorem Go.out {v : Option Value} (f : ∀ T L a b fs, St W T L a b → (∀ (g : JFrame) (acts : List Action), g.method = W.m → g.locked = none → g.entered = [] → (doReturn W.e (T.setTop g) acts v).1 = T.setFrames fs) → Sp W (T.setTop (mkF W.m pc ls st)) (T.setFrames fs)) (hv : W.meth.sig.returnType = none → v = none) (hlk : W.meth.locks = false) (hk : k ≤ W.R.cells) (hn : n ≤ W.R.slots) (hQ : Q v h) : Go W n0 Q h k n pc ls st := by
  intro T L a b X ha hb N eT
  obtain ⟨fs, hr, hrun, hended, hW, hsame⟩ := X.leave (v := v) hv hlk
  refine ⟨_, _, f T L a b fs X hr, hrun, hended, v, L, rfl, ⟨N, ?_⟩, ⟨_, rfl⟩, hW, hsame.mono (Nat.le_trans ha hk) (Nat.le_trans hb hn)⟩
  have e1 : (T.setFrames fs).heap = T.heap := rfl
  rw [e1, eT]
  exact hQ
theorem Go.retI (C : Cx Z W rm own nm bytes maxL (some .int)) {x : Int32} (hd : decode bytes pc = .ok (.ireturn, 1)) (hk : k ≤ rm.cells) (hn : n ≤ rm.slots) (hQ : Q (some (.int x)) h) : Go W n0 Q h k n pc ls (.int x :: st) :=
  Go.out (v := some (.int x)) (fun T L a b fs X hr => Jvm.RoadKit.retI X C.x C.re (hb C.b hd) hr) (fun e => by rw [C.re] at e; cases e) C.lk (by rw [C.ro]; exact hk) (by rw [C.ro]; exact hn) hQ
theorem Go.retZ {t : FieldType} (ht : t = .boolean ∨ t = .byte ∨ t = .char ∨ t = .short) (C : Cx Z W rm own nm bytes maxL (some t)) {x : Int32} (hd : decode bytes pc = .ok (.ireturn, 1)) (hk : k ≤ rm.cells) (hn : n ≤ rm.slots) (hQ : Q (some (.int (nar t x))) h) : Go W n0 Q h k n pc ls (.int x :: st) :=
  Go.out (v := some (.int (nar t x))) (fun T L a b fs X hr => retN X C.x (t := t) C.re ht (hb C.b hd) hr) (fun e => by rw [C.re] at e; cases e) C.lk (by rw [C.ro]; exact hk) (by rw [C.ro]; exact hn) hQ
theorem Go.retV (C : Cx Z W rm own nm bytes maxL none) (hd : decode bytes pc = .ok (.return_, 1)) (hk : k ≤ rm.cells) (hn : n ≤ rm.slots) (hQ : Q none h) : Go W n0 Q h k n pc ls [] :=
  Go.out (v := none) (fun T L a b fs X hr => X.returnOut C.x C.re (hb C.b hd) hr) (fun _ => rfl) C.lk (by rw [C.ro]; exact hk) (by rw [C.ro]; exact hn) hQ
theorem Go.retJ (C : Cx Z W rm own nm bytes maxL (some .long)) {x : Int64} (hd : decode bytes pc = .ok (.lreturn, 1)) (hk : k ≤ rm.cells) (hn : n ≤ rm.slots) (hQ : Q (some (.long x)) h) : Go W n0 Q h k n pc ls [.long x] :=
  Go.out (v := some (.long x)) (fun T L a b fs X hr => Stand.lreturnOut X C.x C.re (hb C.b hd) hr) (fun e => by rw [C.re] at e; cases e) C.lk (by rw [C.ro]; exact hk) (by rw [C.ro]; exact hn) hQ
theorem Go.retR {t : FieldType} (C : Cx Z W rm own nm bytes maxL (some t)) {v : Value} (hd : decode bytes pc = .ok (.areturn, 1)) (ht : t.isReference = true) (hv : v.isRef = true) (hnw : narrow t v = v) (hk : k ≤ rm.cells) (hn : n ≤ rm.slots) (hQ : Q (some v) h) : Go W n0 Q h k n pc ls (v :: st) :=
  Go.out (v := some v) (fun T L a b fs X hr => retOut X C.x (t := t) (i := .areturn) C.re hnw (Or.inr (Or.inr (Or.inr (Or.inr ⟨rfl, ht, hv⟩)))) (hb C.b hd) hr) (fun e => by rw [C.re] at e; cases e) C.lk (by rw [C.ro]; exact hk) (by rw [C.ro]; exact hn) hQ
/-! the calls -/
theorem met_weak {l : Launch} {y : MethodName} {as : Array Value} {Q' : Option Value → Heap → Prop} (M : Met1 l Z y bytes maxL ret [] rm as h n0 Q) (hQ : ∀ v h', Q v h' → Q' v h') : Met1 l Z y bytes maxL ret [] rm as h n0 Q' := by
  intro p e ha hc hk s m args below hf happ hP hK
  obtain ⟨n, o, h1, h2, h3, v, L, h4, ⟨h5, h6⟩, h7⟩ := M p e ha hc hk s m args below hf happ hP hK
  exact ⟨n, o, h1, h2, h3, v, L, h4, ⟨h5, hQ _ _ h6⟩, h7⟩
theorem Go.callS (C : Cx Z W rm own nm bytes maxL ret) {index : Nat} {y : MethodName} {bytes' : ByteArray} {maxL' : Nat} {ret' : Option FieldType} {rm' : Room} {argsL : List Value} {Q' : Option Value → Heap → Prop} {ps : List FieldType} {rt : Option FieldType} {stk : List Value} {k' n' w : Nat}
    (wl : (Jvm.Cond.methodLink own index y).before a0 Z = true) (wst : (Jvm.Cond.static y).before a0 Z = true) (wi : (Jvm.Cond.initialized y.cls).before a0 Z = true) (wc : (Jvm.Cond.code y bytes' maxL' ret').before a0 Z = true)
    (M : Met1 W.l Z y bytes' maxL' ret' [] rm' argsL.toArray h n0 Q') (hd : decode bytes pc = .ok (.invokestatic index, 3)) (hpd : parseMethodDescriptor y.desc = some ⟨ps, rt⟩) (hq : pc + 3 = q) (hls : ls.size = maxL) (hstk : stk = argsL.reverse ++ st) (hlen : argsL.length = ps.length)
    (hw : (st.map fun v => v.category).sum = w) (hfr : rm'.frames + 1 ≤ rm.frames) (hlo : w + (maxL' + 11) + rm'.locals ≤ rm.locals) (hk : k + rm'.cells = k') (hn : n + rm'.slots = n') (hk' : k' ≤ rm.cells) (hn' : n' ≤ rm.slots)
    (hr : ∀ v h', Q' v h' → Go W n0 Q h' k' n' q ls (v.toList ++ st)) (hy : y.cls ≠ "java/lang/invoke/MethodHandle" ∧ y.cls ≠ "java/lang/invoke/VarHandle" := by decide) : Go W n0 Q h k n pc ls stk := by
  subst hstk hq hk hn hw
  intro T L a b X ha hb' N eT
  have e1 := C.ro
  obtain ⟨v, _, ⟨T2, L2, k2, n2⟩, -, X2, ⟨Lc, ⟨N2, hQ2⟩, l2, y2, z2⟩, sp⟩ := Jvm.LawKit.callS X C.x (y := y) C.ow (mvT C.z wl) (mvT C.z wst) (mvT C.z wi) (mvT C.z wc) hy
    (backOf (W := (st.map fun v => v.category).sum) (Q := fun v h L => Fr n0 L ∧ Q' v h) M C.z wc wi (by rw [e1]; exact hfr) (by rw [e1]; exact hlo)) (g := mkF W.m pc ls (argsL.reverse ++ st)) rfl (by rw [C.ml]; exact hls) (argsL := argsL) (rest := st) (lenOf hpd hlen) rfl (by show 2 * 0 + (st.map fun v => v.category).sum ≤ (st.map fun v => v.category).sum; omega) (hb C.b hd) (fun _ _ => ⟨rfl, eT, by rw [e1]; show a + _ ≤ _; omega, by rw [e1]; show b + _ ≤ _; omega⟩)
  dsimp only [Pt.U, Pt.locs, Pt.cells, Pt.slots] at X2 l2 y2 z2 sp hQ2
  subst l2 y2 z2
  obtain ⟨s₂, o, hs, r⟩ := hr v _ hQ2 T2 _ _ _ X2 (by omega) (by omega) (Fr.app N N2) rfl
  exact ⟨s₂, o, sp _ hs, r⟩
/-- what a callee that changes nothing leaves -/
def Ret (w : Value) (h : Heap) : Option Value → Heap → Prop := fun v h' => v = some w ∧ h' = h
theorem Go.pureS (C : Cx Z W rm own nm bytes maxL ret) {index : Nat} {y : MethodName} {bytes' : ByteArray} {maxL' : Nat} {ret' : Option FieldType} {fr lo : Nat} {argsL : List Value} {res : Value} {ps : List FieldType} {rt : Option FieldType} {stk : List Value} {w : Nat}
    (wl : (Jvm.Cond.methodLink own index y).before a0 Z = true) (wst : (Jvm.Cond.static y).before a0 Z = true) (wi : (Jvm.Cond.initialized y.cls).before a0 Z = true) (wc : (Jvm.Cond.code y bytes' maxL' ret').before a0 Z = true)
    (M : Met1 W.l Z y bytes' maxL' ret' [] ({ frames := fr, cells := 0, slots := 0, locals := lo } : Room) argsL.toArray h n0 (Ret res h)) (hd : decode bytes pc = .ok (.invokestatic index, 3)) (hpd : parseMethodDescriptor y.desc = some ⟨ps, rt⟩) (hq : pc + 3 = q) (hls : ls.size = maxL) (hstk : stk = argsL.reverse ++ st) (hlen : argsL.length = ps.length)
    (hw : (st.map fun v => v.category).sum = w) (hfr : fr + 1 ≤ rm.frames) (hlo : w + (maxL' + 11) + lo ≤ rm.locals) (hk' : k ≤ rm.cells) (hn' : n ≤ rm.slots)
    (hr : Go W n0 Q h k n q ls (res :: st)) (hy : y.cls ≠ "java/lang/invoke/MethodHandle" ∧ y.cls ≠ "java/lang/invoke/VarHandle" := by decide) : Go W n0 Q h k n pc ls stk :=
  Go.callS C wl wst wi wc M hd hpd hq hls hstk hlen hw hfr hlo rfl rfl hk' hn' (fun v h' q => by obtain ⟨rfl, rfl⟩ := q; exact hr) hy
theorem Go.callC (C : Cx Z W rm own nm bytes maxL ret) {index : Nat} {y : MethodName} {bytes' : ByteArray} {maxL' : Nat} {rm' : Room} {argsL : List Value} {Q' : Option Value → Heap → Prop} {ps : List FieldType} {rt : Option FieldType} {stk : List Value} {k' n' w : Nat} {a : Addr}
    (hy1 : y.name = "<init>") (wl : (Jvm.Cond.methodLink own index y).before a0 Z = true) (wst : (Jvm.Cond.instanceMethod y).before a0 Z = true) (wi : (Jvm.Cond.initialized y.cls).before a0 Z = true) (wc : (Jvm.Cond.code y bytes' maxL' none).before a0 Z = true)
    (M : Met1 W.l Z y bytes' maxL' none [] rm' (.ref a :: argsL).toArray h n0 Q') (hd : decode bytes pc = .ok (.invokespecial index, 3)) (hpd : parseMethodDescriptor y.desc = some ⟨ps, rt⟩) (hq : pc + 3 = q) (hls : ls.size = maxL) (hstk : stk = argsL.reverse ++ .ref a :: st) (hlen : argsL.length = ps.length)
    (hw : (st.map fun v => v.category).sum = w) (hfr : rm'.frames + 1 ≤ rm.frames) (hlo : w + (maxL' + 11) + rm'.locals ≤ rm.locals) (hk : k + rm'.cells = k') (hn : n + rm'.slots = n') (hk' : k' ≤ rm.cells) (hn' : n' ≤ rm.slots)
    (hr : ∀ v h', Q' v h' → Go W n0 Q h' k' n' q ls (v.toList ++ st)) (hy : y.cls ≠ "java/lang/invoke/MethodHandle" ∧ y.cls ≠ "java/lang/invoke/VarHandle" := by decide) : Go W n0 Q h k n pc ls stk := by
  subst hstk hq hk hn hw
  intro T L i j X ha hb' N eT
  have e1 := C.ro
  obtain ⟨v, _, ⟨T2, L2, k2, n2⟩, -, X2, ⟨Lc, ⟨N2, hQ2⟩, l2, y2, z2⟩, sp⟩ := X.specialBack C.x (y := y) hy1 C.ow (mvT C.z wl) (mvT C.z wst) (mvT C.z wc) hy
    (backOf (W := (st.map fun v => v.category).sum) (Q := fun v h L => Fr n0 L ∧ Q' v h) M C.z wc wi (by rw [e1]; exact hfr) (by rw [e1]; exact hlo)) (g := mkF W.m pc ls (argsL.reverse ++ .ref a :: st)) rfl (by rw [C.ml]; exact hls) (Steps.refl _) (a := a) (argsL := argsL) (rest := st) (lenOf hpd hlen) rfl (by show 2 * 0 + (st.map fun v => v.category).sum ≤ (st.map fun v => v.category).sum; omega) (hb C.b hd) (fun _ _ => ⟨rfl, eT, by rw [e1]; show i + _ ≤ _; omega, by rw [e1]; show j + _ ≤ _; omega⟩)
  dsimp only [Pt.U, Pt.locs, Pt.cells, Pt.slots] at X2 l2 y2 z2 sp hQ2
  subst l2 y2 z2
  obtain ⟨s₂, o, hs, r⟩ := hr v _ hQ2 T2 _ _ _ X2 (by omega) (by omega) (Fr.app N N2) rfl
  exact ⟨s₂, o, sp.trans hs, r⟩
theorem Go.callV (C : Cx Z W rm own nm bytes maxL ret) {index : Nat} {y z : MethodName} {K : String} {bytes' : ByteArray} {maxL' : Nat} {ret' : Option FieldType} {rm' : Room} {argsL : List Value} {Q' : Option Value → Heap → Prop} {ps : List FieldType} {rt : Option FieldType} {stk : List Value} {k' n' w : Nat} {a : Addr}
    (E : Exa Z h a K) (wl : (Jvm.Cond.methodLink own index y).before a0 Z = true) (wdc : (Jvm.Cond.declares y).before a0 Z = true) (hnf : NotFace W.s y) (wse : (Jvm.Cond.selects K y z).before a0 Z = true) (wst : (Jvm.Cond.instanceMethod z).before a0 Z = true) (wi : (Jvm.Cond.initialized z.cls).before a0 Z = true) (wc : (Jvm.Cond.code z bytes' maxL' ret').before a0 Z = true)
    (M : Met1 W.l Z z bytes' maxL' ret' [] rm' (.ref a :: argsL).toArray h n0 Q') (hd : decode bytes pc = .ok (.invokevirtual index, 3)) (hpd : parseMethodDescriptor y.desc = some ⟨ps, rt⟩) (hq : pc + 3 = q) (hls : ls.size = maxL) (hstk : stk = argsL.reverse ++ .ref a :: st) (hlen : argsL.length = ps.length)
    (hw : (st.map fun v => v.category).sum = w) (hfr : rm'.frames + 1 ≤ rm.frames) (hlo : w + (maxL' + 11) + rm'.locals ≤ rm.locals) (hk : k + rm'.cells = k') (hn : n + rm'.slots = n') (hk' : k' ≤ rm.cells) (hn' : n' ≤ rm.slots)
    (hr : ∀ v h', Q' v h' → Go W n0 Q h' k' n' q ls (v.toList ++ st)) (hy : y.cls ≠ "java/lang/invoke/MethodHandle" ∧ y.cls ≠ "java/lang/invoke/VarHandle" := by decide) : Go W n0 Q h k n pc ls stk := by
  subst hstk hq hk hn hw
  intro T L i j X ha hb' N eT
  have e1 := C.ro
  obtain ⟨cq, kq, qa, qb, qc⟩ := isOf (s := W.s) C.z eT E
  obtain ⟨v, _, ⟨T2, L2, k2, n2⟩, -, X2, ⟨Lc, ⟨N2, hQ2⟩, l2, y2, z2⟩, sp⟩ := X.virtualBack C.x (y := y) (z := z) C.ow (mvT C.z wl) (mvT C.z wdc) hnf (mvT C.z wse) (mvT C.z wst) hy
    (backOf (W := (st.map fun v => v.category).sum) (Q := fun v h L => Fr n0 L ∧ Q' v h) M C.z wc wi (by rw [e1]; exact hfr) (by rw [e1]; exact hlo)) qa qc (g := mkF W.m pc ls (argsL.reverse ++ .ref a :: st)) rfl (by rw [C.ml]; exact hls) (Steps.refl _) (argsL := argsL) (rest := st) (lenOf hpd hlen) rfl (by show 2 * 0 + (st.map fun v => v.category).sum ≤ (st.map fun v => v.category).sum; omega) (hb C.b hd) (fun _ _ => ⟨rfl, eT, by rw [e1]; show i + _ ≤ _; omega, by rw [e1]; show j + _ ≤ _; omega⟩)
  dsimp only [Pt.U, Pt.locs, Pt.cells, Pt.slots] at X2 l2 y2 z2 sp hQ2
  subst l2 y2 z2
  obtain ⟨s₂, o, hs, r⟩ := hr v _ hQ2 T2 _ _ _ X2 (by omega) (by omega) (Fr.app N N2) rfl
  exact ⟨s₂, o, sp.trans hs, r⟩
theorem Go.pureV (C : Cx Z W rm own nm bytes maxL ret) {index : Nat} {y : MethodName} {K : String} {bytes' : ByteArray} {maxL' : Nat} {ret' : Option FieldType} {fr lo : Nat} {argsL : List Value} {res : Value} {ps : List FieldType} {rt : Option FieldType} {stk : List Value} {w : Nat} {a : Addr}
    (E : Exa Z h a K) (wl : (Jvm.Cond.methodLink own index y).before a0 Z = true) (wdc : (Jvm.Cond.declares y).before a0 Z = true) (wse : (Jvm.Cond.selects K y y).before a0 Z = true) (wst : (Jvm.Cond.instanceMethod y).before a0 Z = true) (wi : (Jvm.Cond.initialized y.cls).before a0 Z = true) (wc : (Jvm.Cond.code y bytes' maxL' ret').before a0 Z = true)
    (M : Met1 W.l Z y bytes' maxL' ret' [] ({ frames := fr, cells := 0, slots := 0, locals := lo } : Room) (.ref a :: argsL).toArray h n0 (Ret res h)) (hd : decode bytes pc = .ok (.invokevirtual index, 3)) (hpd : parseMethodDescriptor y.desc = some ⟨ps, rt⟩) (hq : pc + 3 = q) (hls : ls.size = maxL) (hstk : stk = argsL.reverse ++ .ref a :: st) (hlen : argsL.length = ps.length)
    (hw : (st.map fun v => v.category).sum = w) (hfr : fr + 1 ≤ rm.frames) (hlo : w + (maxL' + 11) + lo ≤ rm.locals) (hk' : k ≤ rm.cells) (hn' : n ≤ rm.slots)
    (hr : Go W n0 Q h k n q ls (res :: st)) (hy : y.cls ≠ "java/lang/invoke/MethodHandle" ∧ y.cls ≠ "java/lang/invoke/VarHandle" := by decide) : Go W n0 Q h k n pc ls stk :=
  Go.callV C E wl wdc (notFace_of_selects (args := #[]) (mvT C.z wse)) wse wst wi wc M hd hpd hq hls hstk hlen hw hfr hlo rfl rfl hk' hn' (fun v h' q => by obtain ⟨rfl, rfl⟩ := q; exact hr) hy
/-- a private method, by invokevirtual; zz: any method of its class of which the sheet says what it selects (so the class is no interface) -/
theorem Go.callP (C : Cx Z W rm own nm bytes maxL ret) {index : Nat} {y zz : MethodName} {K KK : String} {bytes' : ByteArray} {maxL' : Nat} {ret' : Option FieldType} {rm' : Room} {argsL : List Value} {Q' : Option Value → Heap → Prop} {ps : List FieldType} {rt : Option FieldType} {stk : List Value} {k' n' w : Nat} {a : Addr}
    (E : Exa Z h a K) (wl : (Jvm.Cond.methodLink own index y).before a0 Z = true) (wse : (Jvm.Cond.selects KK zz zz).before a0 Z = true) (hzz : zz.cls = y.cls) (wpr : (Jvm.Cond.privateMethod y).before a0 Z = true) (wst : (Jvm.Cond.instanceMethod y).before a0 Z = true) (wi : (Jvm.Cond.initialized y.cls).before a0 Z = true) (wc : (Jvm.Cond.code y bytes' maxL' ret').before a0 Z = true)
    (M : Met1 W.l Z y bytes' maxL' ret' [] rm' (.ref a :: argsL).toArray h n0 Q') (hd : decode bytes pc = .ok (.invokevirtual index, 3)) (hpd : parseMethodDescriptor y.desc = some ⟨ps, rt⟩) (hq : pc + 3 = q) (hls : ls.size = maxL) (hstk : stk = argsL.reverse ++ .ref a :: st) (hlen : argsL.length = ps.length)
    (hw : (st.map fun v => v.category).sum = w) (hfr : rm'.frames + 1 ≤ rm.frames) (hlo : w + (maxL' + 11) + rm'.locals ≤ rm.locals) (hk : k + rm'.cells = k') (hn : n + rm'.slots = n') (hk' : k' ≤ rm.cells) (hn' : n' ≤ rm.slots)
    (hr : ∀ v h', Q' v h' → Go W n0 Q h' k' n' q ls (v.toList ++ st)) (hy : y.cls ≠ "java/lang/invoke/MethodHandle" ∧ y.cls ≠ "java/lang/invoke/VarHandle" := by decide) : Go W n0 Q h k n pc ls stk := by
  subst hstk hq hk hn hw
  intro T L i j X ha hb' N eT
  have e1 := C.ro
  obtain ⟨cell, hcell, hobj⟩ := E.cell
  rw [← eT] at hcell
  obtain ⟨mk, methM, hnamed, hmethM, hstM, habM⟩ := Cond.instanceMethod_spec (mvT (args := #[]) C.z wst)
  obtain ⟨methM', cM, hmethM', -, -, -, -, -, -, hsigM⟩ := Cond.code_spec hnamed (mvT (args := #[]) C.z wc)
  cases hmethM.symm.trans hmethM'
  obtain ⟨c2, r2, m2, -, -, q3, -, kP, hkP, hkPi⟩ := Cond.selects_spec (mvT (args := #[]) C.z wse)
  have ec : m2.cls = mk.cls := by
    have u1 := findClass_of_methodNamed q3
    have u2 := findClass_of_methodNamed hnamed
    rw [hzz] at u1
    exact Option.some.inj (u1.symm.trans u2)
  rw [ec] at hkP
  have hsel := selectMethod_private (p := W.e.platform) (c := cell.cls) hmethM (Cond.privateMethod_at (mvP C.z wpr (args := #[])) mk methM hnamed hmethM)
  obtain ⟨vm₁, X₁, hst⟩ := X.invokevirtual C.x C.ow (mvT C.z wl) hnamed hmethM hstM hkP hkPi hy (a := a) (cell := cell) hcell hobj hsel hmethM habM hkP hkPi (g := mkF W.m pc ls (argsL.reverse ++ .ref a :: st)) rfl (argsL := argsL) (rest := st) (lenOf hpd hlen _ hsigM) rfl (hb C.b hd)
  obtain ⟨v, ⟨T2, L2, k2, n2⟩, X2, ⟨Lc, ⟨N2, hQ2⟩, l2, y2, z2⟩, sp⟩ := backOf (len := 3) (W := (st.map fun v => v.category).sum) (Q := fun v h L => Fr n0 L ∧ Q' v h) M C.z wc wi (by rw [e1]; exact hfr) (by rw [e1]; exact hlo) W.m W.meth W.c ⟨T.setVm vm₁, L, i, j⟩ (mkF W.m pc ls st) (.invokevirtual index) mk (.ref a :: argsL).toArray X₁ rfl (by rw [C.ml]; exact hls) (hb C.b hd) (by show 2 * 0 + (st.map fun v => v.category).sum ≤ (st.map fun v => v.category).sum; omega) (X₁.named hnamed) ⟨rfl, eT, by rw [e1]; show i + _ ≤ _; omega, by rw [e1]; show j + _ ≤ _; omega⟩
  dsimp only [Pt.U, Pt.locs, Pt.cells, Pt.slots] at X2 l2 y2 z2 sp hQ2
  subst l2 y2 z2
  obtain ⟨s₂, o, hs, r⟩ := hr v _ hQ2 T2 _ _ _ X2 (by omega) (by omega) (Fr.app N N2) rfl
  exact ⟨s₂, o, (hst _ fun acts => by rw [doInvoke_state]; exact Steps.refl _).trans (sp.trans hs), r⟩
/-! the heap -/
theorem Go.initO (C : Cx Z W rm own nm bytes maxL ret) {index w : Nat} {a : Addr} (w1 : (Jvm.Cond.methodLink own index Lib.objectInit).before a0 Z = true) (w2 : (Jvm.Cond.instanceMethod Lib.objectInit).before a0 Z = true) (w3 : (Jvm.Cond.code Lib.objectInit ⟨#[0xb1]⟩ 1 none).before a0 Z = true)
    (hd : decode bytes pc = .ok (.invokespecial index, 3)) (hq : pc + 3 = q) (hls : ls.size = maxL) (hw : (st.map fun v => v.category).sum = w) (hfr : 1 ≤ rm.frames) (hlo : w + 12 ≤ rm.locals) (hr : Go W n0 Q h k n q ls st) : Go W n0 Q h k n pc ls (.ref a :: st) := by
  subst hq hw
  exact Go.stepT (fun T L i j X eT => Jvm.RoadKit.initO X C.x C.z C.ow w1 w2 w3 eT (g := mkF W.m pc ls (.ref a :: st)) rfl (by rw [C.ml]; exact hls) rfl (hb C.b hd) (by rw [C.ro]; exact hfr) (W := (st.map fun v => v.category).sum) (by show 2 * 0 + (st.map fun v => v.category).sum ≤ (st.map fun v => v.category).sum; omega) (by rw [C.ro]; exact hlo)) hr
theorem Go.getF (C : Cx Z W rm own nm bytes maxL ret) {R0 O f d host : String} {index : Nat} {a : Addr} {v : Value} (w : (Jvm.Cond.fieldLink own index R0 f d).before a0 Z = true ∨ (Jvm.Cond.fieldLinkNest own index R0 f d host).before a0 Z = true) (via : Via Z R0 O f d) (F : Fld Z h a O f d v)
    (hd : decode bytes pc = .ok (.getfield index, 3)) (hq : pc + 3 = q) (hr : Go W n0 Q h k n q ls (v :: st)) : Go W n0 Q h k n pc ls (.ref a :: st) := by
  subst hq
  exact Go.stepT (fun T L i j X eT => Jvm.RoadKit.getF X C.x C.z C.ow w via eT F (g := mkF W.m pc ls (.ref a :: st)) rfl rfl (hb C.b hd)) hr
theorem Go.getS (C : Cx Z W rm own nm bytes maxL ret) {R0 O f d : String} {index : Nat} {v : Value} (w : (Jvm.Cond.fieldLink own index R0 f d).before a0 Z = true) (via : Via Z R0 O f d) (F : Sta Z h O f d v)
    (hd : decode bytes pc = .ok (.getstatic index, 3)) (hq : pc + 3 = q) (hr : Go W n0 Q h k n q ls (v :: st)) : Go W n0 Q h k n pc ls st := by
  subst hq
  exact Go.stepT (fun T L i j X eT => Jvm.RoadKit.getS X C.x C.z (host := "") C.ow w via eT F (g := mkF W.m pc ls st) rfl (hb C.b hd)) hr
theorem Go.putF (C : Cx Z W rm own nm bytes maxL ret) {R0 O f d host K : String} {index kk : Nat} {ty : FieldType} {a : Addr} {v old : Value} (w : (Jvm.Cond.fieldLink own index R0 f d).before a0 Z = true ∨ (Jvm.Cond.fieldLinkNest own index R0 f d host).before a0 Z = true) (via : Via Z R0 O f d) (F : Fld Z h a O f d old) (E : Exa Z h a K)
    (Lw : (Jvm.Cond.lays K O f d).before a0 Z = true ∨ ((Jvm.Cond.laysFinal K O f d).before a0 Z = true ∧ own = O ∧ nm = "<init>")) (wi : (Jvm.Cond.instantiable K kk).before a0 Z = true) (hty : parseFieldDescriptor d = some ty) (hn : narrow ty v = v) (hf : fits ty v = true) (ha : n0 ≤ a)
    (hd : decode bytes pc = .ok (.putfield index, 3)) (hq : pc + 3 = q) (hr : ∀ h', Wr h h' a (Jvm.RoadKit.slotOf Z O f d) v → Go W n0 Q h' k n q ls st) : Go W n0 Q h k n pc ls (v :: .ref a :: st) := by
  subst hq
  intro T L i j X hk hn' N eT
  obtain ⟨T', h', X', e', W', sp⟩ := Jvm.RoadKit.putF X C.x C.z C.ow w via eT F E (Lw.imp id fun z => ⟨z.1, z.2.1, C.na.trans z.2.2⟩) wi hty hn hf (g := mkF W.m pc ls (v :: .ref a :: st)) rfl rfl (hb C.b hd)
  obtain ⟨s₂, o, hs, r⟩ := hr h' W' T' _ _ _ X' hk hn' (Fr.snoc X' N ha) e'
  exact ⟨s₂, o, sp _ hs, r⟩
theorem Go.newO (C : Cx Z W rm own nm bytes maxL ret) {K : String} {index sz k' n' : Nat} (w : (Jvm.Cond.classLink own index K).before a0 Z = true) (wi : (Jvm.Cond.instantiable K sz).before a0 Z = true) (wz : (Jvm.Cond.initialized K).before a0 Z = true)
    (hd : decode bytes pc = .ok (.new index, 3)) (hq : pc + 3 = q) (hk : k + 1 = k') (hn : n + sz = n') (hk' : k' ≤ rm.cells) (hn' : n' ≤ rm.slots)
    (hr : ∀ h' a, a = h.size → Ext h h' → Exa Z h' a K → (∀ {O f d : String} {ty : FieldType}, Laid Z a0 K O f d → parseFieldDescriptor d = some ty → Fld Z h' a O f d (defaultValue ty)) → Go W n0 Q h' k' n' q ls (.ref a :: st)) : Go W n0 Q h k n pc ls st := by
  subst hq hk hn
  intro T L i j X hk0 hn0 N eT
  have e1 := C.ro
  obtain ⟨T', h', X', e', E', A', D', -, sp⟩ := Jvm.RoadKit.newO X C.x C.z C.ow w wi wz eT (g := mkF W.m pc ls st) rfl (hb C.b hd) (by rw [e1]; omega) (by rw [e1]; omega)
  obtain ⟨s₂, o, hs, r⟩ := hr h' _ rfl E' A' D' T' _ _ _ X' (by omega) (by omega) N e'
  exact ⟨s₂, o, sp _ hs, r⟩
theorem Go.newP (C : Cx Z W rm own nm bytes maxL ret) {aty : ArrayType} {z : Int32} {cap k' n' : Nat} (w : (Jvm.Cond.arrayClass (newarray.typeOf aty)).before a0 Z = true) (hz : ¬ z < 0) (hcap : z.toNatClampNeg ≤ cap) (hbig : cap * 8 ≤ 536870912)
    (hd : decode bytes pc = .ok (.newarray aty, 2)) (hq : pc + 2 = q) (hk : k + 1 = k') (hn : n + cap = n') (hk' : k' ≤ rm.cells) (hn' : n' ≤ rm.slots)
    (hr : ∀ h' a cA, a = h.size → Ext h h' → Arv Z h' a cA (newarray.typeOf aty) z [] (defaultValue (newarray.typeOf aty)) → Go W n0 Q h' k' n' q ls (.ref a :: st)) : Go W n0 Q h k n pc ls (.int z :: st) := by
  subst hq hk hn
  intro T L i j X hk0 hn0 N eT
  have e1 := C.ro
  obtain ⟨T', h', cA, X', e', E', A', sp⟩ := Jvm.RoadKit.newP X C.x C.z w eT (g := mkF W.m pc ls (.int z :: st)) rfl (hb C.b hd) rfl hz hcap hbig (by rw [e1]; omega) (by rw [e1]; omega)
  obtain ⟨s₂, o, hs, r⟩ := hr h' _ cA rfl E' (Arv.new A' hz) T' _ _ _ X' (by omega) (by omega) N e'
  exact ⟨s₂, o, sp _ hs, r⟩

/-! arrays: the length n, the values f -/
def Av (Z : State) (h : Heap) (a : Addr) (ty : FieldType) (len : Nat) (f : Nat → Value) : Prop := ∃ c : Cell, Arr Z h a c ty ∧ c.slots.size = len ∧ len < 2 ^ 31 ∧ ∀ i, i < len → c.slots[i]? = some (f i)
def upd {α : Type} (f : Nat → α) (j : Nat) (v : α) : Nat → α := fun i => if i = j then v else f i
theorem upd_eq {α : Type} (f : Nat → α) (j : Nat) (v : α) : upd f j v j = v := if_pos rfl
theorem upd_ne {α : Type} (f : Nat → α) {j i : Nat} (v : α) (e : i ≠ j) : upd f j v i = f i := if_neg e
theorem Av.lt {a : Addr} {ty : FieldType} {len : Nat} {f : Nat → Value} (F : Av Z h a ty len f) : a < h.size := by obtain ⟨c, A, -⟩ := F; exact A.lt
theorem Av.ext {a : Addr} {ty : FieldType} {len : Nat} {f : Nat → Value} {h' : Heap} (F : Av Z h a ty len f) (E : Ext h h') : Av Z h' a ty len f := by obtain ⟨c, A, r⟩ := F; exact ⟨c, A.ext E, r⟩
theorem Av.other {a b : Addr} {ty : FieldType} {len sl : Nat} {v : Value} {f : Nat → Value} {h' : Heap} (F : Av Z h b ty len f) (W : Wr h h' a sl v) (e : b ≠ a) : Av Z h' b ty len f := by obtain ⟨c, A, r⟩ := F; exact ⟨c, A.other W e, r⟩
theorem Av.keep {a : Addr} {ty : FieldType} {len : Nat} {f : Nat → Value} {h' : Heap} {ws : List Addr} (F : Av Z h a ty len f) (K : Keep h h' ws) (e : a ∉ ws) : Av Z h' a ty len f := by obtain ⟨c, A, r⟩ := F; exact ⟨c, ⟨K.2.1 a c A.1 e, A.2⟩, r⟩
theorem Av.same {a : Addr} {ty : FieldType} {len j : Nat} {v : Value} {f : Nat → Value} {h' : Heap} (F : Av Z h a ty len f) (W : Wr h h' a j v) : Av Z h' a ty len (upd f j v) := by
  obtain ⟨c, A, r1, r2, r3⟩ := F
  refine ⟨c.setSlot j v, A.same W, by simp [Cell.setSlot, r1], r2, fun i hi => ?_⟩
  by_cases e : i = j
  · subst e
    rw [upd_eq]
    simp [Cell.setSlot, r1, hi]
  · rw [upd_ne _ _ e, ← r3 i hi]
    exact Array.getElem?_setIfInBounds_ne (Ne.symm e)
def iF (g : Nat → Int32) : Nat → Value := fun i => .int (g i)
def jF (g : Nat → Int64) : Nat → Value := fun i => .long (g i)
theorem upd_iF (g : Nat → Int32) (j : Nat) (x : Int32) : upd (iF g) j (.int x) = iF (upd g j x) := by funext i; by_cases e : i = j <;> simp [upd, iF, e]
theorem upd_jF (g : Nat → Int64) (j : Nat) (x : Int64) : upd (jF g) j (.long x) = jF (upd g j x) := by funext i; by_cases e : i = j <;> simp [upd, jF, e]
theorem Av.sameI {a : Addr} {ty : FieldType} {len j : Nat} {x : Int32} {g : Nat → Int32} {h' : Heap} (F : Av Z h a ty len (iF g)) (W : Wr h h' a j (.int x)) : Av Z h' a ty len (iF (upd g j x)) := upd_iF g j x ▸ F.same W
theorem Av.sameJ {a : Addr} {ty : FieldType} {len j : Nat} {x : Int64} {g : Nat → Int64} {h' : Heap} (F : Av Z h a ty len (jF g)) (W : Wr h h' a j (.long x)) : Av Z h' a ty len (jF (upd g j x)) := upd_jF g j x ▸ F.same W
def kF (g : Nat → Int64) : Nat → Value := fun i => .double (FP.l2d (g i))
theorem upd_kF (g : Nat → Int64) (j : Nat) (x : Int64) : upd (kF g) j (.double (FP.l2d x)) = kF (upd g j x) := by funext i; by_cases e : i = j <;> simp [upd, kF, e]
theorem Av.sameK {a : Addr} {ty : FieldType} {len j : Nat} {x : Int64} {g : Nat → Int64} {h' : Heap} (F : Av Z h a ty len (kF g)) (W : Wr h h' a j (.double (FP.l2d x))) : Av Z h' a ty len (kF (upd g j x)) := upd_kF g j x ▸ F.same W
theorem Av.of {a : Addr} {ty : FieldType} {z : Int32} {cA : ClassId} {d : Value} (F : Arv Z h a cA ty z [] d) : Av Z h a ty z.toNatClampNeg (fun _ => d) := by
  obtain ⟨c, A, -, r1, r2, r3, -⟩ := F
  refine ⟨c, A, r1, ?_, fun i hi => ?_⟩
  · have e1 := z.toInt_lt
    have e2 : z.toNatClampNeg = z.toInt.toNat := rfl
    omega
  · rw [r3 i (by omega)]
    simp
theorem Av.ofD {a : Addr} {z : Int32} {cA : ClassId} (F : Arv Z h a cA .double z [] (defaultValue .double)) : Av Z h a .double z.toNatClampNeg (kF (fun _ => 0)) := by
  have e : kF (fun _ => 0) = (fun _ => defaultValue .double) := by funext i; show Value.double (FP.l2d 0) = _; rw [Jvm.RoadKit.l2d_zero]; rfl
  rw [e]
  exact Av.of F
theorem Av.congr {a : Addr} {ty : FieldType} {len : Nat} {f f' : Nat → Value} (F : Av Z h a ty len f) (e : ∀ i, i < len → f i = f' i) : Av Z h a ty len f' := by obtain ⟨c, A, r1, r2, r3⟩ := F; exact ⟨c, A, r1, r2, fun i hi => e i hi ▸ r3 i hi⟩
theorem Go.newPE (C : Cx Z W rm own nm bytes maxL ret) {aty : ArrayType} {z : Int32} {cap k' n' : Nat} (w : (Jvm.Cond.arrayClass (newarray.typeOf aty)).before a0 Z = true) (hz : ¬ z < 0) (hcap : z.toNatClampNeg ≤ cap) (hbig : cap * 8 ≤ 536870912)
    (hd : decode bytes pc = .ok (.newarray aty, 2)) (hq : pc + 2 = q) (hk : k + 1 = k') (hn : n + cap = n') (hk' : k' ≤ rm.cells) (hn' : n' ≤ rm.slots) {ad : String} (had : "[" ++ (newarray.typeOf aty).toString = ad)
    (hr : ∀ h' a cA, a = h.size → Ext h h' → Arv Z h' a cA (newarray.typeOf aty) z [] (defaultValue (newarray.typeOf aty)) → Exa Z h' a ad → Go W n0 Q h' k' n' q ls (.ref a :: st)) : Go W n0 Q h k n pc ls (.int z :: st) := by
  subst hq hk hn
  intro T L i j X hk0 hn0 N eT
  have e1 := C.ro
  obtain ⟨T', h', cA, X', e', E', A', D', sp⟩ := Jvm.RoadKit.newPE X C.x C.z w eT (g := mkF W.m pc ls (.int z :: st)) rfl (hb C.b hd) rfl hz hcap hbig (by rw [e1]; omega) (by rw [e1]; omega) had
  obtain ⟨s₂, o, hs, r⟩ := hr h' _ cA rfl E' (Arv.new A' hz) D' T' _ _ _ X' (by omega) (by omega) N e'
  exact ⟨s₂, o, sp _ hs, r⟩
theorem Go.clone (C : Cx Z W rm own nm bytes maxL ret) {index cap k' n' wt len : Nat} {ad : String} {a : Addr} {ty : FieldType} {f : Nat → Value}
    (w1 : (Jvm.Cond.methodLink own index ⟨ad, "clone", "()Ljava/lang/Object;"⟩).before a0 Z = true) (w2 : (Jvm.Cond.sameMethod ad "java/lang/Object" "clone" "()Ljava/lang/Object;").before a0 Z = true) (w3 : (Jvm.Cond.native ⟨"java/lang/Object", "clone", "()Ljava/lang/Object;"⟩).before a0 Z = true)
    (w4 : (Jvm.Cond.instanceMethod ⟨"java/lang/Object", "clone", "()Ljava/lang/Object;"⟩).before a0 Z = true) (w5 : (Jvm.Cond.selects ad ⟨ad, "clone", "()Ljava/lang/Object;"⟩ ⟨"java/lang/Object", "clone", "()Ljava/lang/Object;"⟩).before a0 Z = true) (w6 : (Jvm.Cond.castable ad "java/lang/Cloneable").before a0 Z = true)
    (F : Av Z h a ty len f) (E : Exa Z h a ad) (hfit : ∀ i, i < len → fits ty (f i) = true) (hd : decode bytes pc = .ok (.invokevirtual index, 3)) (hq : pc + 3 = q) (hls : ls.size = maxL) (hw : (st.map fun v => v.category).sum = wt) (hfr : 1 ≤ rm.frames) (hlo : wt + 14 ≤ rm.locals) (hcap : len = cap) (hk : k + 1 = k') (hn : n + cap = n') (hk' : k' ≤ rm.cells) (hn' : n' ≤ rm.slots)
    (hr : ∀ h' b, b = h.size → Ext h h' → Av Z h' b ty len f → Exa Z h' b ad → Go W n0 Q h' k' n' q ls (.ref b :: st)) : Go W n0 Q h k n pc ls (.ref a :: st) := by
  subst hq hk hn hw
  obtain ⟨c, A, r1, r2, r3⟩ := F
  intro T L i j X hk0 hn0 N eT
  have e1 := C.ro
  have FC : FitC Z c := fitC_of A fun x hx v hv => by rw [r3 x (r1 ▸ hx)] at hv; cases hv; exact hfit x (r1 ▸ hx)
  obtain ⟨T', h', X', e', E', A', D', sp⟩ := cloneA X C.x C.z C.ow w1 w2 w3 w4 w5 w6 eT A E FC (g := mkF W.m pc ls (.ref a :: st)) rfl (by rw [C.ml]; exact hls) rfl (hb C.b hd) (by rw [e1]; exact hfr) (W := (st.map fun v => v.category).sum) (by show 2 * 0 + (st.map fun v => v.category).sum ≤ (st.map fun v => v.category).sum; omega) (by rw [e1]; exact hlo) (cap := cap) (by omega) (by rw [e1]; omega) (by rw [e1]; omega)
  obtain ⟨s₂, o, hs, r⟩ := hr h' _ rfl E' ⟨_, A', r1, r2, r3⟩ D' T' _ _ _ X' (by omega) (by omega) N e'
  exact ⟨s₂, o, sp _ hs, r⟩
theorem Go.cast (C : Cx Z W rm own nm bytes maxL ret) {index : Nat} {K : String} {a : Addr} (w : (Jvm.Cond.classLink own index K).before a0 Z = true) (F : Ins Z h a K true) (hd : decode bytes pc = .ok (.checkcast index, 3)) (hq : pc + 3 = q)
    (hr : Go W n0 Q h k n q ls (.ref a :: st)) : Go W n0 Q h k n pc ls (.ref a :: st) := by
  subst hq
  exact Go.stepT (fun T L i j X eT => Jvm.RoadKit.castY X C.x C.z C.ow w eT F (g := mkF W.m pc ls (.ref a :: st)) rfl rfl (hb C.b hd)) hr
theorem Go.alen (C : Cx Z W rm own nm bytes maxL ret) {a : Addr} {ty : FieldType} {len : Nat} {f : Nat → Value} (F : Av Z h a ty len f) (hd : decode bytes pc = .ok (.arraylength, 1)) (hq : pc + 1 = q)
    (hr : Go W n0 Q h k n q ls (.int len.toInt32 :: st)) : Go W n0 Q h k n pc ls (.ref a :: st) := by
  subst hq
  obtain ⟨c, A, r1, r2, r3⟩ := F
  subst r1
  exact Go.stepX (fun T L i j tg X eT kk => X.arraylength C.x (by rw [eT]; exact A.1) (State.isArrayOf_alike C.z.alike A.2.1) (g := mkF W.m pc ls (.ref a :: st)) rfl rfl (hb C.b hd) _ kk) hr
theorem Go.alenZ (C : Cx Z W rm own nm bytes maxL ret) {a : Addr} {ty : FieldType} {z : Int32} {f : Nat → Value} (F : Av Z h a ty z.toNatClampNeg f) (hz : ¬ z < 0) (hd : decode bytes pc = .ok (.arraylength, 1)) (hq : pc + 1 = q)
    (hr : Go W n0 Q h k n q ls (.int z :: st)) : Go W n0 Q h k n pc ls (.ref a :: st) :=
  Go.alen C F hd hq (by rw [(Jvm.RoadKit.back32 hz).1]; exact hr)

theorem Go.iaload (C : Cx Z W rm own nm bytes maxL ret) {a : Addr} {len : Nat} {f : Nat → Value} {j : Int32} {v : Value} (F : Av Z h a .int len f) (i : Nat) (hji : j.toNatClampNeg = i) (hj : ¬ j < 0) (hi : i < len) (hv : f i = v) (hd : decode bytes pc = .ok (.iaload, 1)) (hq : pc + 1 = q)
    (hr : Go W n0 Q h k n q ls (v :: st)) : Go W n0 Q h k n pc ls (.int j :: .ref a :: st) := by
  subst hq hji hv
  obtain ⟨c, A, r1, r2, r3⟩ := F
  exact Go.stepX (fun T L i' j' tg X eT kk => X.iaload C.x (j := j) (by rw [eT]; exact A.1) (State.isArrayOf_alike C.z.alike A.2.1) A.2.2 (fun z => z.elim hj (fun y => absurd (Nat.lt_of_lt_of_le hi (r1 ▸ y)) (Nat.lt_irrefl _))) (r3 _ hi) (g := mkF W.m pc ls (.int j :: .ref a :: st)) rfl rfl (hb C.b hd) _ kk) hr
theorem Go.laload (C : Cx Z W rm own nm bytes maxL ret) {a : Addr} {len : Nat} {f : Nat → Value} {j : Int32} {v : Value} (F : Av Z h a .long len f) (i : Nat) (hji : j.toNatClampNeg = i) (hj : ¬ j < 0) (hi : i < len) (hv : f i = v) (hd : decode bytes pc = .ok (.laload, 1)) (hq : pc + 1 = q)
    (hr : Go W n0 Q h k n q ls (v :: st)) : Go W n0 Q h k n pc ls (.int j :: .ref a :: st) := by
  subst hq hji hv
  obtain ⟨c, A, r1, r2, r3⟩ := F
  exact Go.stepX (fun T L i' j' tg X eT kk => X.laload C.x (j := j) (by rw [eT]; exact A.1) (State.isArrayOf_alike C.z.alike A.2.1) A.2.2 (fun z => z.elim hj (fun y => absurd (Nat.lt_of_lt_of_le hi (r1 ▸ y)) (Nat.lt_irrefl _))) (r3 _ hi) (g := mkF W.m pc ls (.int j :: .ref a :: st)) rfl rfl (hb C.b hd) _ kk) hr
theorem Go.caload (C : Cx Z W rm own nm bytes maxL ret) {a : Addr} {len : Nat} {f : Nat → Value} {j : Int32} {v : Value} (F : Av Z h a .char len f) (i : Nat) (hji : j.toNatClampNeg = i) (hj : ¬ j < 0) (hi : i < len) (hv : f i = v) (hd : decode bytes pc = .ok (.caload, 1)) (hq : pc + 1 = q)
    (hr : Go W n0 Q h k n q ls (v :: st)) : Go W n0 Q h k n pc ls (.int j :: .ref a :: st) := by
  subst hq hji hv
  obtain ⟨c, A, r1, r2, r3⟩ := F
  exact Go.stepX (fun T L i' j' tg X eT kk => X.caload C.x (j := j) (by rw [eT]; exact A.1) (State.isArrayOf_alike C.z.alike A.2.1) A.2.2 (fun z => z.elim hj (fun y => absurd (Nat.lt_of_lt_of_le hi (r1 ▸ y)) (Nat.lt_irrefl _))) (r3 _ hi) (g := mkF W.m pc ls (.int j :: .ref a :: st)) rfl rfl (hb C.b hd) _ kk) hr
theorem Go.baload (C : Cx Z W rm own nm bytes maxL ret) {a : Addr} {len : Nat} {f : Nat → Value} {j : Int32} {v : Value} (F : Av Z h a .byte len f) (i : Nat) (hji : j.toNatClampNeg = i) (hj : ¬ j < 0) (hi : i < len) (hv : f i = v) (hd : decode bytes pc = .ok (.baload, 1)) (hq : pc + 1 = q)
    (hr : Go W n0 Q h k n q ls (v :: st)) : Go W n0 Q h k n pc ls (.int j :: .ref a :: st) := by
  subst hq hji hv
  obtain ⟨c, A, r1, r2, r3⟩ := F
  exact Go.stepX (fun T L i' j' tg X eT kk => X.baloadBytes C.x (j := j) (by rw [eT]; exact A.1) (State.isArrayOf_alike C.z.alike A.2.1) A.2.2 (fun z => z.elim hj (fun y => absurd (Nat.lt_of_lt_of_le hi (r1 ▸ y)) (Nat.lt_irrefl _))) (r3 _ hi) (g := mkF W.m pc ls (.int j :: .ref a :: st)) rfl rfl (hb C.b hd) _ kk) hr
theorem Go.zaload (C : Cx Z W rm own nm bytes maxL ret) {a : Addr} {len : Nat} {f : Nat → Value} {j : Int32} {v : Value} (F : Av Z h a .boolean len f) (i : Nat) (hji : j.toNatClampNeg = i) (hj : ¬ j < 0) (hi : i < len) (hv : f i = v) (hd : decode bytes pc = .ok (.baload, 1)) (hq : pc + 1 = q)
    (hr : Go W n0 Q h k n q ls (v :: st)) : Go W n0 Q h k n pc ls (.int j :: .ref a :: st) := by
  subst hq hji hv
  obtain ⟨c, A, r1, r2, r3⟩ := F
  exact Go.stepX (fun T L i' j' tg X eT kk => X.baloadBooleans C.x (j := j) (by rw [eT]; exact A.1) (State.isArrayOf_alike C.z.alike A.2.1) A.2.2 (fun z => z.elim hj (fun y => absurd (Nat.lt_of_lt_of_le hi (r1 ▸ y)) (Nat.lt_irrefl _))) (r3 _ hi) (g := mkF W.m pc ls (.int j :: .ref a :: st)) rfl rfl (hb C.b hd) _ kk) hr
theorem Go.daload (C : Cx Z W rm own nm bytes maxL ret) {a : Addr} {len : Nat} {f : Nat → Value} {j : Int32} {v : Value} (F : Av Z h a .double len f) (i : Nat) (hji : j.toNatClampNeg = i) (hj : ¬ j < 0) (hi : i < len) (hv : f i = v) (hd : decode bytes pc = .ok (.daload, 1)) (hq : pc + 1 = q)
    (hr : Go W n0 Q h k n q ls (v :: st)) : Go W n0 Q h k n pc ls (.int j :: .ref a :: st) := by
  subst hq hji hv
  obtain ⟨c, A, r1, r2, r3⟩ := F
  exact Go.stepX (fun T L i' j' tg X eT kk => X.daload C.x (j := j) (by rw [eT]; exact A.1) (State.isArrayOf_alike C.z.alike A.2.1) A.2.2 (fun z => z.elim hj (fun y => absurd (Nat.lt_of_lt_of_le hi (r1 ▸ y)) (Nat.lt_irrefl _))) (r3 _ hi) (g := mkF W.m pc ls (.int j :: .ref a :: st)) rfl rfl (hb C.b hd) _ kk) hr
theorem Go.dastore (C : Cx Z W rm own nm bytes maxL ret) {a : Addr} {len : Nat} {f : Nat → Value} {j : Int32} {x : UInt64} (F : Av Z h a .double len f) (i : Nat) (hji : j.toNatClampNeg = i) (hj : ¬ j < 0) (hi : i < len) (ha : n0 ≤ a) (hd : decode bytes pc = .ok (.dastore, 1)) (hq : pc + 1 = q)
    (hr : ∀ h', Wr h h' a i (.double x) → Go W n0 Q h' k n q ls st) : Go W n0 Q h k n pc ls (.double x :: .int j :: .ref a :: st) := by
  subst hq hji
  obtain ⟨c, A, r1, r2, r3⟩ := F
  intro T L i' j' X hk hn N eT
  obtain ⟨T', h', X', e', W', sp⟩ := Jvm.RoadKit.stD X C.x C.z eT A (j := j) (fun z => z.elim hj (fun y => absurd (Nat.lt_of_lt_of_le hi (r1 ▸ y)) (Nat.lt_irrefl _))) (g := mkF W.m pc ls (.double x :: .int j :: .ref a :: st)) rfl rfl (hb C.b hd)
  obtain ⟨s₂, o, hs, r⟩ := hr h' W' T' _ _ _ X' hk hn (Fr.snoc X' N ha) e'
  exact ⟨s₂, o, sp _ hs, r⟩
theorem Go.iastore (C : Cx Z W rm own nm bytes maxL ret) {a : Addr} {len : Nat} {f : Nat → Value} {j : Int32} {x : Int32} (F : Av Z h a .int len f) (i : Nat) (hji : j.toNatClampNeg = i) (hj : ¬ j < 0) (hi : i < len) (ha : n0 ≤ a) (hd : decode bytes pc = .ok (.iastore, 1)) (hq : pc + 1 = q)
    (hr : ∀ h', Wr h h' a i (.int x) → Go W n0 Q h' k n q ls st) : Go W n0 Q h k n pc ls (.int x :: .int j :: .ref a :: st) := by
  subst hq hji
  obtain ⟨c, A, r1, r2, r3⟩ := F
  intro T L i' j' X hk hn N eT
  obtain ⟨T', h', X', e', W', sp⟩ := Jvm.RoadKit.stI X C.x C.z eT A (j := j) (fun z => z.elim hj (fun y => absurd (Nat.lt_of_lt_of_le hi (r1 ▸ y)) (Nat.lt_irrefl _))) (g := mkF W.m pc ls (.int x :: .int j :: .ref a :: st)) rfl rfl (hb C.b hd)
  obtain ⟨s₂, o, hs, r⟩ := hr h' W' T' _ _ _ X' hk hn (Fr.snoc X' N ha) e'
  exact ⟨s₂, o, sp _ hs, r⟩
theorem Go.lastore (C : Cx Z W rm own nm bytes maxL ret) {a : Addr} {len : Nat} {f : Nat → Value} {j : Int32} {x : Int64} (F : Av Z h a .long len f) (i : Nat) (hji : j.toNatClampNeg = i) (hj : ¬ j < 0) (hi : i < len) (ha : n0 ≤ a) (hd : decode bytes pc = .ok (.lastore, 1)) (hq : pc + 1 = q)
    (hr : ∀ h', Wr h h' a i (.long x) → Go W n0 Q h' k n q ls st) : Go W n0 Q h k n pc ls (.long x :: .int j :: .ref a :: st) := by
  subst hq hji
  obtain ⟨c, A, r1, r2, r3⟩ := F
  intro T L i' j' X hk hn N eT
  obtain ⟨T', h', X', e', W', sp⟩ := Jvm.RoadKit.stJ X C.x C.z eT A (j := j) (fun z => z.elim hj (fun y => absurd (Nat.lt_of_lt_of_le hi (r1 ▸ y)) (Nat.lt_irrefl _))) (g := mkF W.m pc ls (.long x :: .int j :: .ref a :: st)) rfl rfl (hb C.b hd)
  obtain ⟨s₂, o, hs, r⟩ := hr h' W' T' _ _ _ X' hk hn (Fr.snoc X' N ha) e'
  exact ⟨s₂, o, sp _ hs, r⟩
theorem Go.castore (C : Cx Z W rm own nm bytes maxL ret) {a : Addr} {len : Nat} {f : Nat → Value} {j : Int32} {x : Int32} (F : Av Z h a .char len f) (i : Nat) (hji : j.toNatClampNeg = i) (hj : ¬ j < 0) (hi : i < len) (ha : n0 ≤ a) (hd : decode bytes pc = .ok (.castore, 1)) (hq : pc + 1 = q)
    (hr : ∀ h', Wr h h' a i (.int (nar .char x)) → Go W n0 Q h' k n q ls st) : Go W n0 Q h k n pc ls (.int x :: .int j :: .ref a :: st) := by
  subst hq hji
  obtain ⟨c, A, r1, r2, r3⟩ := F
  intro T L i' j' X hk hn N eT
  obtain ⟨T', h', X', e', W', sp⟩ := Jvm.RoadKit.stC X C.x C.z eT A (j := j) (fun z => z.elim hj (fun y => absurd (Nat.lt_of_lt_of_le hi (r1 ▸ y)) (Nat.lt_irrefl _))) (g := mkF W.m pc ls (.int x :: .int j :: .ref a :: st)) rfl rfl (hb C.b hd)
  obtain ⟨s₂, o, hs, r⟩ := hr h' W' T' _ _ _ X' hk hn (Fr.snoc X' N ha) e'
  exact ⟨s₂, o, sp _ hs, r⟩
theorem Go.bastore (C : Cx Z W rm own nm bytes maxL ret) {a : Addr} {len : Nat} {f : Nat → Value} {j : Int32} {x : Int32} (F : Av Z h a .byte len f) (i : Nat) (hji : j.toNatClampNeg = i) (hj : ¬ j < 0) (hi : i < len) (ha : n0 ≤ a) (hd : decode bytes pc = .ok (.bastore, 1)) (hq : pc + 1 = q)
    (hr : ∀ h', Wr h h' a i (.int (nar .byte x)) → Go W n0 Q h' k n q ls st) : Go W n0 Q h k n pc ls (.int x :: .int j :: .ref a :: st) := by
  subst hq hji
  obtain ⟨c, A, r1, r2, r3⟩ := F
  intro T L i' j' X hk hn N eT
  obtain ⟨T', h', X', e', W', sp⟩ := Jvm.RoadKit.stB X C.x C.z eT A (j := j) (fun z => z.elim hj (fun y => absurd (Nat.lt_of_lt_of_le hi (r1 ▸ y)) (Nat.lt_irrefl _))) (g := mkF W.m pc ls (.int x :: .int j :: .ref a :: st)) rfl rfl (hb C.b hd)
  obtain ⟨s₂, o, hs, r⟩ := hr h' W' T' _ _ _ X' hk hn (Fr.snoc X' N ha) e'
  exact ⟨s₂, o, sp _ hs, r⟩
theorem Go.zastore (C : Cx Z W rm own nm bytes maxL ret) {a : Addr} {len : Nat} {f : Nat → Value} {j : Int32} {x : Int32} (F : Av Z h a .boolean len f) (i : Nat) (hji : j.toNatClampNeg = i) (hj : ¬ j < 0) (hi : i < len) (ha : n0 ≤ a) (hd : decode bytes pc = .ok (.bastore, 1)) (hq : pc + 1 = q)
    (hr : ∀ h', Wr h h' a i (.int (nar .boolean x)) → Go W n0 Q h' k n q ls st) : Go W n0 Q h k n pc ls (.int x :: .int j :: .ref a :: st) := by
  subst hq hji
  obtain ⟨c, A, r1, r2, r3⟩ := F
  intro T L i' j' X hk hn N eT
  obtain ⟨T', h', X', e', W', sp⟩ := Jvm.RoadKit.stZ X C.x C.z eT A (j := j) (fun z => z.elim hj (fun y => absurd (Nat.lt_of_lt_of_le hi (r1 ▸ y)) (Nat.lt_irrefl _))) (g := mkF W.m pc ls (.int x :: .int j :: .ref a :: st)) rfl rfl (hb C.b hd)
  obtain ⟨s₂, o, hs, r⟩ := hr h' W' T' _ _ _ X' hk hn (Fr.snoc X' N ha) e'
  exact ⟨s₂, o, sp _ hs, r⟩
end Gos

theorem d4_2 : decode prog_20_method_3_code 2 = .ok (.aload_n 0, 1) := by decide +kernel
theorem d4_3 : decode prog_20_method_3_code 3 = .ok (.getfield 7, 3) := by decide +kernel
theorem d4_6 : decode prog_20_method_3_code 6 = .ok (.iload_n 2, 1) := by decide +kernel
theorem d4_7 : decode prog_20_method_3_code 7 = .ok (.iaload, 1) := by decide +kernel
theorem d4_8 : decode prog_20_method_3_code 8 = .ok (.iload_n 2, 1) := by decide +kernel
theorem d4_9 : decode prog_20_method_3_code 9 = .ok (.if_icmp .eq 13, 3) := by decide +kernel
theorem d4_12 : decode prog_20_method_3_code 12 = .ok (.aload_n 0, 1) := by decide +kernel
theorem d4_13 : decode prog_20_method_3_code 13 = .ok (.getfield 7, 3) := by decide +kernel
theorem d4_16 : decode prog_20_method_3_code 16 = .ok (.iload_n 2, 1) := by decide +kernel
theorem d4_17 : decode prog_20_method_3_code 17 = .ok (.iaload, 1) := by decide +kernel
theorem d4_18 : decode prog_20_method_3_code 18 = .ok (.istore_n 2, 1) := by decide +kernel
theorem d4_19 : decode prog_20_method_3_code 19 = .ok (.goto (-17), 3) := by decide +kernel
theorem d4_24 : decode prog_20_method_3_code 24 = .ok (.aload_n 0, 1) := by decide +kernel
theorem d4_25 : decode prog_20_method_3_code 25 = .ok (.getfield 7, 3) := by decide +kernel
theorem d4_28 : decode prog_20_method_3_code 28 = .ok (.iload_n 3, 1) := by decide +kernel
theorem d4_29 : decode prog_20_method_3_code 29 = .ok (.iaload, 1) := by decide +kernel
theorem d4_30 : decode prog_20_method_3_code 30 = .ok (.iload_n 2, 1) := by decide +kernel
theorem d4_31 : decode prog_20_method_3_code 31 = .ok (.if_icmp .eq 24, 3) := by decide +kernel
theorem d4_55 : decode prog_20_method_3_code 55 = .ok (.iload_n 2, 1) := by decide +kernel
theorem d4_56 : decode prog_20_method_3_code 56 = .ok (.ireturn, 1) := by decide +kernel
theorem d4_34 : decode prog_20_method_3_code 34 = .ok (.aload_n 0, 1) := by decide +kernel
theorem d4_35 : decode prog_20_method_3_code 35 = .ok (.getfield 7, 3) := by decide +kernel
theorem d4_38 : decode prog_20_method_3_code 38 = .ok (.iload_n 3, 1) := by decide +kernel
theorem d4_39 : decode prog_20_method_3_code 39 = .ok (.iaload, 1) := by decide +kernel
theorem d4_40 : decode prog_20_method_3_code 40 = .ok (.istore 4, 2) := by decide +kernel
theorem d4_42 : decode prog_20_method_3_code 42 = .ok (.aload_n 0, 1) := by decide +kernel
theorem d4_43 : decode prog_20_method_3_code 43 = .ok (.getfield 7, 3) := by decide +kernel
theorem d4_46 : decode prog_20_method_3_code 46 = .ok (.iload_n 3, 1) := by decide +kernel
theorem d4_47 : decode prog_20_method_3_code 47 = .ok (.iload_n 2, 1) := by decide +kernel
theorem d4_48 : decode prog_20_method_3_code 48 = .ok (.iastore, 1) := by decide +kernel
theorem d4_49 : decode prog_20_method_3_code 49 = .ok (.iload 4, 2) := by decide +kernel
theorem d4_51 : decode prog_20_method_3_code 51 = .ok (.istore_n 3, 1) := by decide +kernel
theorem d4_52 : decode prog_20_method_3_code 52 = .ok (.goto (-28), 3) := by decide +kernel
theorem d4_0 : decode prog_20_method_3_code 0 = .ok (.iload_n 1, 1) := by decide +kernel
theorem d4_1 : decode prog_20_method_3_code 1 = .ok (.istore_n 2, 1) := by decide +kernel
theorem d4_22 : decode prog_20_method_3_code 22 = .ok (.iload_n 1, 1) := by decide +kernel
theorem d4_23 : decode prog_20_method_3_code 23 = .ok (.istore_n 3, 1) := by decide +kernel
theorem ef_4 (m : MethodId) (a : Addr) (x : Int32) : entryFrame m #[(.ref a), (.int x)] 5 = mkF m 0 #[.val (.ref a), .val (.int x), .unset, .unset, .unset] [] := by first | (simp [entryFrame, mkF, argsToLocals, Value.category]; done) | rfl
theorem pn_com_example_tolerant_query_tolerantquery_UnionFind : plainName "com/example/tolerant_query/tolerantquery/UnionFind" = true := by first | (simp [plainName, overriddenIn]; done) | decide +kernel
theorem d3_0 : decode prog_20_method_2_code 0 = .ok (.aload_n 0, 1) := by decide +kernel
theorem d3_1 : decode prog_20_method_2_code 1 = .ok (.getfield 7, 3) := by decide +kernel
theorem d3_4 : decode prog_20_method_2_code 4 = .ok (.aload_n 0, 1) := by decide +kernel
theorem d3_5 : decode prog_20_method_2_code 5 = .ok (.iload_n 1, 1) := by decide +kernel
theorem d3_6 : decode prog_20_method_2_code 6 = .ok (.invokevirtual 13, 3) := by decide +kernel
theorem pd__40I_41I : parseMethodDescriptor "(I)I" = some ⟨[.int], some .int⟩ := by decide +kernel
theorem d3_9 : decode prog_20_method_2_code 9 = .ok (.aload_n 0, 1) := by decide +kernel
theorem d3_10 : decode prog_20_method_2_code 10 = .ok (.iload_n 2, 1) := by decide +kernel
theorem d3_11 : decode prog_20_method_2_code 11 = .ok (.invokevirtual 13, 3) := by decide +kernel
theorem d3_14 : decode prog_20_method_2_code 14 = .ok (.iastore, 1) := by decide +kernel
theorem d3_15 : decode prog_20_method_2_code 15 = .ok (.return_, 1) := by decide +kernel
theorem ef_3 (m : MethodId) (a : Addr) (x : Int32) (y : Int32) : entryFrame m #[(.ref a), (.int x), (.int y)] 3 = mkF m 0 #[.val (.ref a), .val (.int x), .val (.int y)] [] := by first | (simp [entryFrame, mkF, argsToLocals, Value.category]; done) | rfl
theorem d5_0 : decode method_2_code 0 = .ok (.aload_n 0, 1) := by decide +kernel
theorem d5_1 : decode method_2_code 1 = .ok (.iload_n 1, 1) := by decide +kernel
theorem d5_2 : decode method_2_code 2 = .ok (.iaload, 1) := by decide +kernel
theorem d5_3 : decode method_2_code 3 = .ok (.istore_n 3, 1) := by decide +kernel
theorem d5_4 : decode method_2_code 4 = .ok (.aload_n 0, 1) := by decide +kernel
theorem d5_5 : decode method_2_code 5 = .ok (.iload_n 2, 1) := by decide +kernel
theorem d5_6 : decode method_2_code 6 = .ok (.iaload, 1) := by decide +kernel
theorem d5_7 : decode method_2_code 7 = .ok (.istore 4, 2) := by decide +kernel
theorem d5_9 : decode method_2_code 9 = .ok (.aload_n 0, 1) := by decide +kernel
theorem d5_10 : decode method_2_code 10 = .ok (.iconst 0, 1) := by decide +kernel
theorem d5_11 : decode method_2_code 11 = .ok (.iaload, 1) := by decide +kernel
theorem d5_12 : decode method_2_code 12 = .ok (.iload_n 3, 1) := by decide +kernel
theorem d5_13 : decode method_2_code 13 = .ok (.if_icmp .ne 8, 3) := by decide +kernel
theorem d5_21 : decode method_2_code 21 = .ok (.aload_n 0, 1) := by decide +kernel
theorem d5_22 : decode method_2_code 22 = .ok (.iconst 1, 1) := by decide +kernel
theorem d5_23 : decode method_2_code 23 = .ok (.iaload, 1) := by decide +kernel
theorem d5_24 : decode method_2_code 24 = .ok (.iload_n 3, 1) := by decide +kernel
theorem d5_25 : decode method_2_code 25 = .ok (.if_icmp .ne 8, 3) := by decide +kernel
theorem d5_33 : decode method_2_code 33 = .ok (.aload_n 0, 1) := by decide +kernel
theorem d5_34 : decode method_2_code 34 = .ok (.iconst 2, 1) := by decide +kernel
theorem d5_35 : decode method_2_code 35 = .ok (.iaload, 1) := by decide +kernel
theorem d5_36 : decode method_2_code 36 = .ok (.iload_n 3, 1) := by decide +kernel
theorem d5_37 : decode method_2_code 37 = .ok (.if_icmp .ne 8, 3) := by decide +kernel
theorem d5_45 : decode method_2_code 45 = .ok (.aload_n 0, 1) := by decide +kernel
theorem d5_46 : decode method_2_code 46 = .ok (.iconst 3, 1) := by decide +kernel
theorem d5_47 : decode method_2_code 47 = .ok (.iaload, 1) := by decide +kernel
theorem d5_48 : decode method_2_code 48 = .ok (.iload_n 3, 1) := by decide +kernel
theorem d5_49 : decode method_2_code 49 = .ok (.if_icmp .ne 8, 3) := by decide +kernel
theorem d5_57 : decode method_2_code 57 = .ok (.return_, 1) := by decide +kernel
theorem d5_52 : decode method_2_code 52 = .ok (.aload_n 0, 1) := by decide +kernel
theorem d5_53 : decode method_2_code 53 = .ok (.iconst 3, 1) := by decide +kernel
theorem d5_54 : decode method_2_code 54 = .ok (.iload 4, 2) := by decide +kernel
theorem d5_56 : decode method_2_code 56 = .ok (.iastore, 1) := by decide +kernel
theorem d5_40 : decode method_2_code 40 = .ok (.aload_n 0, 1) := by decide +kernel
theorem d5_41 : decode method_2_code 41 = .ok (.iconst 2, 1) := by decide +kernel
theorem d5_42 : decode method_2_code 42 = .ok (.iload 4, 2) := by decide +kernel
theorem d5_44 : decode method_2_code 44 = .ok (.iastore, 1) := by decide +kernel
theorem d5_28 : decode method_2_code 28 = .ok (.aload_n 0, 1) := by decide +kernel
theorem d5_29 : decode method_2_code 29 = .ok (.iconst 1, 1) := by decide +kernel
theorem d5_30 : decode method_2_code 30 = .ok (.iload 4, 2) := by decide +kernel
theorem d5_32 : decode method_2_code 32 = .ok (.iastore, 1) := by decide +kernel
theorem d5_16 : decode method_2_code 16 = .ok (.aload_n 0, 1) := by decide +kernel
theorem d5_17 : decode method_2_code 17 = .ok (.iconst 0, 1) := by decide +kernel
theorem d5_18 : decode method_2_code 18 = .ok (.iload 4, 2) := by decide +kernel
theorem d5_20 : decode method_2_code 20 = .ok (.iastore, 1) := by decide +kernel
theorem ef_5 (m : MethodId) (p : Addr) (x : Int32) (y : Int32) : entryFrame m #[(.ref p), (.int x), (.int y)] 5 = mkF m 0 #[.val (.ref p), .val (.int x), .val (.int y), .unset, .unset] [] := by first | (simp [entryFrame, mkF, argsToLocals, Value.category]; done) | rfl
theorem pn_com_example_tolerant_query_tolerantquery_UnionFindRootPinLaw : plainName "com/example/tolerant_query/tolerantquery/UnionFindRootPinLaw" = true := by first | (simp [plainName, overriddenIn]; done) | decide +kernel
theorem d1_0 : decode prog_20_method_1_code 0 = .ok (.aload_n 0, 1) := by decide +kernel
theorem d1_1 : decode prog_20_method_1_code 1 = .ok (.invokespecial 1, 3) := by decide +kernel
theorem d1_4 : decode prog_20_method_1_code 4 = .ok (.aload_n 0, 1) := by decide +kernel
theorem d1_5 : decode prog_20_method_1_code 5 = .ok (.iload_n 1, 1) := by decide +kernel
theorem d1_6 : decode prog_20_method_1_code 6 = .ok (.newarray .int, 2) := by decide +kernel
theorem d1_8 : decode prog_20_method_1_code 8 = .ok (.putfield 7, 3) := by decide +kernel
theorem d1_11 : decode prog_20_method_1_code 11 = .ok (.iconst 0, 1) := by decide +kernel
theorem d1_12 : decode prog_20_method_1_code 12 = .ok (.istore_n 2, 1) := by decide +kernel
theorem d1_13 : decode prog_20_method_1_code 13 = .ok (.iload_n 2, 1) := by decide +kernel
theorem d1_14 : decode prog_20_method_1_code 14 = .ok (.iload_n 1, 1) := by decide +kernel
theorem d1_15 : decode prog_20_method_1_code 15 = .ok (.if_icmp .ge 16, 3) := by decide +kernel
theorem d1_18 : decode prog_20_method_1_code 18 = .ok (.aload_n 0, 1) := by decide +kernel
theorem d1_19 : decode prog_20_method_1_code 19 = .ok (.getfield 7, 3) := by decide +kernel
theorem d1_22 : decode prog_20_method_1_code 22 = .ok (.iload_n 2, 1) := by decide +kernel
theorem d1_23 : decode prog_20_method_1_code 23 = .ok (.iload_n 2, 1) := by decide +kernel
theorem d1_24 : decode prog_20_method_1_code 24 = .ok (.iastore, 1) := by decide +kernel
theorem d1_25 : decode prog_20_method_1_code 25 = .ok (.iinc 2 1, 3) := by decide +kernel
theorem d1_28 : decode prog_20_method_1_code 28 = .ok (.goto (-15), 3) := by decide +kernel
theorem d1_31 : decode prog_20_method_1_code 31 = .ok (.return_, 1) := by decide +kernel
theorem ef_1_l1_4Int32 (m : MethodId) (a : Addr) : entryFrame m #[(.ref a), (.int (4 : Int32))] 3 = mkF m 0 #[.val (.ref a), .val (.int (4 : Int32)), .unset] [] := by first | (simp [entryFrame, mkF, argsToLocals, Value.category]; done) | rfl
theorem ef_0 (m : MethodId) (p0 : Int32) (p1 : Int32) : entryFrame m #[(.int p0), (.int p1)] maxLocals = mkF m 0 #[.val (.int p0), .val (.int p1), .unset, .unset, .unset, .unset, .unset, .unset, .unset, .unset, .unset, .unset, .unset, .unset, .unset, .unset] [] := by first | (simp [entryFrame, mkF, argsToLocals, Value.category, maxLocals]; done) | rfl
theorem pd__40I_41V : parseMethodDescriptor "(I)V" = some ⟨[.int], none⟩ := by decide +kernel
theorem pd__40II_41V : parseMethodDescriptor "(II)V" = some ⟨[.int, .int], none⟩ := by decide +kernel
theorem pd__40_91III_41V : parseMethodDescriptor "([III)V" = some ⟨[(.array .int), .int, .int], none⟩ := by decide +kernel
def own_dg (t i : Nat) : Nat := t / 4 ^ i % 4
def own_g (t : Nat) : Nat → Int32 := fun i => Int32.ofNat (own_dg t i)
def own_enc (a b c d : Nat) : Nat := a + 4 * b + 16 * c + 64 * d
def own_it : Nat → Nat → Nat → Nat
  | 0, _, y => y
  | d + 1, t, y => own_it d t (own_dg t y)
def own_rt (t y : Nat) : Nat := own_it 3 t y
def own_ok (t : Nat) : Bool := own_dg t (own_rt t 0) == own_rt t 0 && (own_dg t (own_rt t 1) == own_rt t 1 && (own_dg t (own_rt t 2) == own_rt t 2 && own_dg t (own_rt t 3) == own_rt t 3))
def own_set (t i x : Nat) : Nat := own_enc (if 0 = i then x else own_dg t 0) (if 1 = i then x else own_dg t 1) (if 2 = i then x else own_dg t 2) (if 3 = i then x else own_dg t 3)
def own_cmp : Nat → Nat → Nat → Nat → Nat
  | 0, t, _, _ => t
  | d + 1, t, y, r => if own_dg t y = r then t else own_cmp d (own_set t y r) (own_dg t y) r
def own_tm : Nat → Nat → Nat → Nat → Bool
  | 0, t, y, r => own_dg t y == r
  | d + 1, t, y, r => own_dg t y == r || own_tm d (own_set t y r) (own_dg t y) r
def own_cp (t y : Nat) : Nat := own_cmp 4 t y (own_rt t y)
def own_link (t a b : Nat) : Nat := own_set (own_cp (own_cp t a) b) (own_rt t a) (own_rt (own_cp t a) b)
def own_rc (t : Nat) : Nat := own_enc (own_rt t 0) (own_rt t 1) (own_rt t 2) (own_rt t 3)
def own_j (r a b i : Nat) : Nat := if own_g r i = own_g r a then own_dg r b else own_dg r i
def own_join (r a b : Nat) : Nat := own_enc (own_j r a b 0) (own_j r a b 1) (own_j r a b 2) (own_j r a b 3)
theorem own_dgl (t i : Nat) : own_dg t i < 4 := Nat.mod_lt _ (by decide)
theorem own_c4 (i : Nat) (h : i < 4) : i = 0 ∨ i = 1 ∨ i = 2 ∨ i = 3 := by omega
theorem own_de (a b c d : Nat) (ha : a < 4) (hb : b < 4) (hc : c < 4) (hd : d < 4) : own_dg (own_enc a b c d) 0 = a ∧ own_dg (own_enc a b c d) 1 = b ∧ own_dg (own_enc a b c d) 2 = c ∧ own_dg (own_enc a b c d) 3 = d := by
  unfold own_dg own_enc
  refine ⟨?_, ?_, ?_, ?_⟩
  · show (a + 4 * b + 16 * c + 64 * d) / 1 % 4 = a; omega
  · show (a + 4 * b + 16 * c + 64 * d) / 4 % 4 = b; omega
  · show (a + 4 * b + 16 * c + 64 * d) / 16 % 4 = c; omega
  · show (a + 4 * b + 16 * c + 64 * d) / 64 % 4 = d; omega
theorem own_il (t y : Nat) : ∀ d, y < 4 → own_it d t y < 4
  | 0, h => h
  | d + 1, h => own_il t (own_dg t y) d (own_dgl t y)
theorem own_rl (t y : Nat) (h : y < 4) : own_rt t y < 4 := own_il t y 3 h
theorem own_itf (t y : Nat) (h : own_dg t y = y) : ∀ d, own_it d t y = y
  | 0 => rfl
  | d + 1 => by
    show own_it d t (own_dg t y) = y
    rw [h]; exact own_itf t y h d
theorem own_oi (y : Nat) (h : y < 4) : (Int32.ofNat y).toNatClampNeg = y ∧ ¬ (Int32.ofNat y) < 0 := by
  have k : ∀ i : Fin 4, (Int32.ofNat i.val).toNatClampNeg = i.val ∧ ¬ (Int32.ofNat i.val) < 0 := by decide +kernel
  exact k ⟨y, h⟩
theorem own_oe (x y : Nat) (hx : x < 4) (hy : y < 4) (e : Int32.ofNat x = Int32.ofNat y) : x = y := by
  rw [← (own_oi x hx).1, ← (own_oi y hy).1, e]
theorem own_ite (P : Prop) [Decidable P] (x y : Nat) (hx : x < 4) (hy : y < 4) : (if P then x else y) < 4 := by split <;> assumption
theorem own_gs (t i x j : Nat) (hx : x < 4) (hj : j < 4) : upd (own_g t) i (Int32.ofNat x) j = own_g (own_set t i x) j := by
  obtain ⟨e0, e1, e2, e3⟩ := own_de _ _ _ _ (own_ite (0 = i) x (own_dg t 0) hx (own_dgl t 0)) (own_ite (1 = i) x (own_dg t 1) hx (own_dgl t 1)) (own_ite (2 = i) x (own_dg t 2) hx (own_dgl t 2)) (own_ite (3 = i) x (own_dg t 3) hx (own_dgl t 3))
  have k : own_dg (own_set t i x) j = if j = i then x else own_dg t j := by
    rcases own_c4 j hj with rfl | rfl | rfl | rfl
    · exact e0
    · exact e1
    · exact e2
    · exact e3
  show _ = Int32.ofNat (own_dg (own_set t i x) j)
  rw [k]
  by_cases q : j = i
  · rw [if_pos q, q, upd_eq]
  · rw [if_neg q, upd_ne _ _ q]; rfl
theorem own_jl (r a b i : Nat) : own_j r a b i < 4 := own_ite _ _ _ (own_dgl r b) (own_dgl r i)
theorem own_gj (r a b i : Nat) (hi : i < 4) : own_g (own_join r a b) i = if own_g r i = own_g r a then own_g r b else own_g r i := by
  obtain ⟨e0, e1, e2, e3⟩ := own_de _ _ _ _ (own_jl r a b 0) (own_jl r a b 1) (own_jl r a b 2) (own_jl r a b 3)
  have k : own_dg (own_join r a b) i = own_j r a b i := by
    rcases own_c4 i hi with rfl | rfl | rfl | rfl
    · exact e0
    · exact e1
    · exact e2
    · exact e3
  show Int32.ofNat (own_dg (own_join r a b) i) = _
  rw [k, own_j]
  by_cases q : own_g r i = own_g r a
  · rw [if_pos q, if_pos q]; rfl
  · rw [if_neg q, if_neg q]; rfl
theorem own_k1 : ∀ t : Fin 256, own_ok t.val = true → ∀ x : Fin 4, own_tm 4 t.val x.val (own_rt t.val x.val) = true ∧ own_dg t.val (own_rt t.val x.val) = own_rt t.val x.val ∧ own_cp t.val x.val < 256 ∧ own_ok (own_cp t.val x.val) = true ∧ own_rc (own_cp t.val x.val) = own_rc t.val := by decide +kernel
theorem own_k2 : ∀ t : Fin 256, own_ok t.val = true → ∀ a b : Fin 4, own_link t.val a.val b.val < 256 ∧ own_ok (own_link t.val a.val b.val) = true ∧ own_join (own_rc t.val) a.val b.val = own_rc (own_link t.val a.val b.val) := by decide +kernel
def own_V (t : Nat) : Prop := t < 256 ∧ own_ok t = true
theorem own_v1 {t x : Nat} (h : own_V t) (hx : x < 4) : own_tm 4 t x (own_rt t x) = true ∧ own_dg t (own_rt t x) = own_rt t x := ⟨(own_k1 ⟨t, h.1⟩ h.2 ⟨x, hx⟩).1, (own_k1 ⟨t, h.1⟩ h.2 ⟨x, hx⟩).2.1⟩
theorem own_v2 {t x : Nat} (h : own_V t) (hx : x < 4) : own_V (own_cp t x) ∧ own_rc (own_cp t x) = own_rc t := ⟨⟨(own_k1 ⟨t, h.1⟩ h.2 ⟨x, hx⟩).2.2.1, (own_k1 ⟨t, h.1⟩ h.2 ⟨x, hx⟩).2.2.2.1⟩, (own_k1 ⟨t, h.1⟩ h.2 ⟨x, hx⟩).2.2.2.2⟩
def own_I (t r : Nat) : Prop := own_V t ∧ r = own_rc t
theorem own_i1 {t r a b : Nat} (h : own_I t r) (ha : a < 4) (hb : b < 4) : own_I (own_link t a b) (own_join r a b) := by
  have k := own_k2 ⟨t, h.1.1⟩ h.1.2 ⟨a, ha⟩ ⟨b, hb⟩
  exact ⟨⟨k.1, k.2.1⟩, by rw [h.2]; exact k.2.2⟩
theorem own_i2 {t r x : Nat} (h : own_I t r) (hx : x < 4) : own_I (own_cp t x) r := ⟨(own_v2 h.1 hx).1, by rw [(own_v2 h.1 hx).2]; exact h.2⟩
theorem own_i3 {t r x : Nat} (h : own_I t r) (hx : x < 4) : Int32.ofNat (own_rt t x) = own_g r x := by
  obtain ⟨e0, e1, e2, e3⟩ := own_de _ _ _ _ (own_rl t 0 (by decide)) (own_rl t 1 (by decide)) (own_rl t 2 (by decide)) (own_rl t 3 (by decide))
  rw [h.2]
  rcases own_c4 x hx with rfl | rfl | rfl | rfl
  · exact congrArg Int32.ofNat e0.symm
  · exact congrArg Int32.ofNat e1.symm
  · exact congrArg Int32.ofNat e2.symm
  · exact congrArg Int32.ofNat e3.symm
theorem own_m3 (p v : Int32) (h : v = (p &&& (3 : Int32))) : ∃ i : Nat, i < 4 ∧ v = Int32.ofNat i := by
  have a := c_mask p 3 2 (by decide) (by decide)
  rw [← h] at a
  refine ⟨v.toInt.toNat, by omega, Int32.toInt_inj.mp ?_⟩
  rw [Int32.toInt_ofNat_small (by omega)]
  omega
theorem own_st4 (a : Addr) (x r y v : Int32) (s4 : Slot) (h : One s4) : storeLocals #[.val (.ref a), .val (.int x), .val (.int r), .val (.int y), s4] 4 (.int v) = some #[.val (.ref a), .val (.int x), .val (.int r), .val (.int y), .val (.int v)] := by
  rcases h with rfl | ⟨w, rfl, hw⟩
  · rfl
  · cases w <;> first | rfl | (simp [Value.category] at hw)
set_option maxRecDepth 65536 in
theorem lp_f (Z : State) (a0 : Array Value) (hw : ∀ d ∈ tables_1, d.before a0 Z = true) (W : Wk) (rm : Room) (C : Cx Z W rm "com/example/tolerant_query/tolerantquery/UnionFind" "root" prog_20_method_3_code 5 (some .int)) (h0 : Heap) (n0 k n : Nat) (Q : Option Value → Heap → Prop) (a p : Addr) (x : Int32) (nap : a ≠ p) (t : Nat) (F0 : Fld Z h0 a "com/example/tolerant_query/tolerantquery/UnionFind" "parent" "[I" (.ref p)) (A0 : Av Z h0 p .int 4 (iF (own_g t))) : ∀ (d y : Nat), y < 4 → own_dg t (own_it d t y) = own_it d t y → Go W n0 Q h0 k n 22 #[.val (.ref a), .val (.int x), .val (.int (Int32.ofNat (own_it d t y))), .unset, .unset] [] → Go W n0 Q h0 k n 2 #[.val (.ref a), .val (.int x), .val (.int (Int32.ofNat y)), .unset, .unset] [] := by
  intro d
  induction d with
  | zero =>
    intro y hy hf hG
    have e : own_g t y = Int32.ofNat y := congrArg Int32.ofNat hf
    refine Go.aloadN C d4_2 (q := 3) rfl rfl rfl ?_
    refine Go.getF C (host := "") (Or.inl (hw _ (List.mem_of_getElem? (i := 10) rfl))) Via.refl F0 d4_3 (q := 6) rfl ?_
    refine Go.iloadN C d4_6 (q := 7) rfl rfl ?_
    refine Go.iaload C A0 y (v := (.int (own_g t y))) (own_oi y hy).1 (own_oi y hy).2 hy rfl d4_7 (q := 8) rfl ?_
    refine Go.iloadN C d4_8 (q := 9) rfl rfl ?_
    refine Go.icmp C d4_9 (n_eq _ _) (qt := 22) (q := 12) (by decide) (by decide) rfl (fun _ => ?_) (fun b1 => absurd e b1)
    exact hG
  | succ d ih =>
    intro y hy hf hG
    by_cases e0 : own_dg t y = y
    · have e : own_g t y = Int32.ofNat y := congrArg Int32.ofNat e0
      rw [own_itf t y e0] at hG
      refine Go.aloadN C d4_2 (q := 3) rfl rfl rfl ?_
      refine Go.getF C (host := "") (Or.inl (hw _ (List.mem_of_getElem? (i := 10) rfl))) Via.refl F0 d4_3 (q := 6) rfl ?_
      refine Go.iloadN C d4_6 (q := 7) rfl rfl ?_
      refine Go.iaload C A0 y (v := (.int (own_g t y))) (own_oi y hy).1 (own_oi y hy).2 hy rfl d4_7 (q := 8) rfl ?_
      refine Go.iloadN C d4_8 (q := 9) rfl rfl ?_
      refine Go.icmp C d4_9 (n_eq _ _) (qt := 22) (q := 12) (by decide) (by decide) rfl (fun _ => ?_) (fun b1 => absurd e b1)
      exact hG
    · have e : ¬ own_g t y = Int32.ofNat y := fun z => e0 (own_oe _ _ (own_dgl t y) hy z)
      refine Go.aloadN C d4_2 (q := 3) rfl rfl rfl ?_
      refine Go.getF C (host := "") (Or.inl (hw _ (List.mem_of_getElem? (i := 10) rfl))) Via.refl F0 d4_3 (q := 6) rfl ?_
      refine Go.iloadN C d4_6 (q := 7) rfl rfl ?_
      refine Go.iaload C A0 y (v := (.int (own_g t y))) (own_oi y hy).1 (own_oi y hy).2 hy rfl d4_7 (q := 8) rfl ?_
      refine Go.iloadN C d4_8 (q := 9) rfl rfl ?_
      refine Go.icmp C d4_9 (n_eq _ _) (qt := 22) (q := 12) (by decide) (by decide) rfl (fun b1 => absurd b1 e) (fun _ => ?_)
      refine Go.aloadN C d4_12 (q := 13) rfl rfl rfl ?_
      refine Go.getF C (host := "") (Or.inl (hw _ (List.mem_of_getElem? (i := 10) rfl))) Via.refl F0 d4_13 (q := 16) rfl ?_
      refine Go.iloadN C d4_16 (q := 17) rfl rfl ?_
      refine Go.iaload C A0 y (v := (.int (own_g t y))) (own_oi y hy).1 (own_oi y hy).2 hy rfl d4_17 (q := 18) rfl ?_
      refine Go.istoreNR C d4_18 (q := 19) rfl (l' := #[.val (.ref a), .val (.int x), .val (.int (own_g t y)), .unset, .unset]) rfl ?_
      refine Go.goto C d4_19 (q := 2) (by decide) (by decide) ?_
      exact ih (own_dg t y) (own_dgl t y) hf hG
set_option maxRecDepth 65536 in
theorem lp_c (Z : State) (a0 : Array Value) (hw : ∀ d ∈ tables_1, d.before a0 Z = true) (W : Wk) (rm : Room) (C : Cx Z W rm "com/example/tolerant_query/tolerantquery/UnionFind" "root" prog_20_method_3_code 5 (some .int)) (h0 : Heap) (n0 k n : Nat) (Q : Option Value → Heap → Prop) (a p : Addr) (x : Int32) (nap : a ≠ p) (gp : n0 ≤ p) (r : Nat) (hr : r < 4) (hk : k ≤ rm.cells) (hn : n ≤ rm.slots) : ∀ (d t y : Nat) (h : Heap) (s4 : Slot), y < 4 → own_tm d t y r = true → One s4 → Keep h0 h [p] → Fld Z h a "com/example/tolerant_query/tolerantquery/UnionFind" "parent" "[I" (.ref p) → Av Z h p .int 4 (iF (own_g t)) → (∀ h', Keep h0 h' [p] → Av Z h' p .int 4 (iF (own_g (own_cmp d t y r))) → Q (some (.int (Int32.ofNat r))) h') → Go W n0 Q h k n 24 #[.val (.ref a), .val (.int x), .val (.int (Int32.ofNat r)), .val (.int (Int32.ofNat y)), s4] [] := by
  intro d
  induction d with
  | zero =>
    intro t y h s4 hy hT hs4 Kp F0 A0 hQ
    have e : own_g t y = Int32.ofNat r := congrArg Int32.ofNat (beq_iff_eq.mp hT)
    refine Go.aloadN C d4_24 (q := 25) rfl rfl rfl ?_
    refine Go.getF C (host := "") (Or.inl (hw _ (List.mem_of_getElem? (i := 10) rfl))) Via.refl F0 d4_25 (q := 28) rfl ?_
    refine Go.iloadN C d4_28 (q := 29) rfl rfl ?_
    refine Go.iaload C A0 y (v := (.int (own_g t y))) (own_oi y hy).1 (own_oi y hy).2 hy rfl d4_29 (q := 30) rfl ?_
    refine Go.iloadN C d4_30 (q := 31) rfl rfl ?_
    refine Go.icmp C d4_31 (n_eq _ _) (qt := 55) (q := 34) (by decide) (by decide) rfl (fun _ => ?_) (fun b1 => absurd e b1)
    refine Go.iloadN C d4_55 (q := 56) rfl rfl ?_
    exact Go.retI C d4_56 hk hn (hQ _ Kp A0)
  | succ d ih =>
    intro t y h s4 hy hT hs4 Kp F0 A0 hQ
    by_cases e0 : own_dg t y = r
    · have e : own_g t y = Int32.ofNat r := congrArg Int32.ofNat e0
      rw [own_cmp, if_pos e0] at hQ
      refine Go.aloadN C d4_24 (q := 25) rfl rfl rfl ?_
      refine Go.getF C (host := "") (Or.inl (hw _ (List.mem_of_getElem? (i := 10) rfl))) Via.refl F0 d4_25 (q := 28) rfl ?_
      refine Go.iloadN C d4_28 (q := 29) rfl rfl ?_
      refine Go.iaload C A0 y (v := (.int (own_g t y))) (own_oi y hy).1 (own_oi y hy).2 hy rfl d4_29 (q := 30) rfl ?_
      refine Go.iloadN C d4_30 (q := 31) rfl rfl ?_
      refine Go.icmp C d4_31 (n_eq _ _) (qt := 55) (q := 34) (by decide) (by decide) rfl (fun _ => ?_) (fun b1 => absurd e b1)
      refine Go.iloadN C d4_55 (q := 56) rfl rfl ?_
      exact Go.retI C d4_56 hk hn (hQ _ Kp A0)
    · have e : ¬ own_g t y = Int32.ofNat r := fun z => e0 (own_oe _ _ (own_dgl t y) hr z)
      refine Go.aloadN C d4_24 (q := 25) rfl rfl rfl ?_
      refine Go.getF C (host := "") (Or.inl (hw _ (List.mem_of_getElem? (i := 10) rfl))) Via.refl F0 d4_25 (q := 28) rfl ?_
      refine Go.iloadN C d4_28 (q := 29) rfl rfl ?_
      refine Go.iaload C A0 y (v := (.int (own_g t y))) (own_oi y hy).1 (own_oi y hy).2 hy rfl d4_29 (q := 30) rfl ?_
      refine Go.iloadN C d4_30 (q := 31) rfl rfl ?_
      refine Go.icmp C d4_31 (n_eq _ _) (qt := 55) (q := 34) (by decide) (by decide) rfl (fun b1 => absurd b1 e) (fun _ => ?_)
      refine Go.aloadN C d4_34 (q := 35) rfl rfl rfl ?_
      refine Go.getF C (host := "") (Or.inl (hw _ (List.mem_of_getElem? (i := 10) rfl))) Via.refl F0 d4_35 (q := 38) rfl ?_
      refine Go.iloadN C d4_38 (q := 39) rfl rfl ?_
      refine Go.iaload C A0 y (v := (.int (own_g t y))) (own_oi y hy).1 (own_oi y hy).2 hy rfl d4_39 (q := 40) rfl ?_
      refine Go.istoreR C d4_40 (q := 42) rfl (l' := #[.val (.ref a), .val (.int x), .val (.int (Int32.ofNat r)), .val (.int (Int32.ofNat y)), .val (.int (own_g t y))]) (own_st4 _ _ _ _ _ s4 hs4) ?_
      refine Go.aloadN C d4_42 (q := 43) rfl rfl rfl ?_
      refine Go.getF C (host := "") (Or.inl (hw _ (List.mem_of_getElem? (i := 10) rfl))) Via.refl F0 d4_43 (q := 46) rfl ?_
      refine Go.iloadN C d4_46 (q := 47) rfl rfl ?_
      refine Go.iloadN C d4_47 (q := 48) rfl rfl ?_
      refine Go.iastore C A0 y (own_oi y hy).1 (own_oi y hy).2 hy gp d4_48 (q := 49) rfl ?_
      intro h2 W3
      have F4 := A0.sameI W3
      refine Go.iload C d4_49 (q := 51) rfl rfl ?_
      refine Go.istoreNR C d4_51 (q := 52) rfl (l' := #[.val (.ref a), .val (.int x), .val (.int (Int32.ofNat r)), .val (.int (own_g t y)), .val (.int (own_g t y))]) rfl ?_
      refine Go.goto C d4_52 (q := 24) (by decide) (by decide) ?_
      have F5 := (F0.other W3 (Or.inl nap))
      exact ih (own_set t y r) (own_dg t y) h2 _ (own_dgl t y) (by rw [own_tm, show (own_dg t y == r) = false from beq_false_of_ne e0, Bool.false_or] at hT; exact hT) (One.val rfl) (Kp.wr W3 (Or.inl (List.mem_of_getElem? (i := 0) rfl))) F5 (F4.congr (fun i hi => congrArg Value.int (own_gs t y r i hr hi))) (by rw [own_cmp, if_neg e0] at hQ; exact hQ)
set_option maxRecDepth 65536 in
theorem c_root (l : Launch) (Z : State) (a0 : Array Value) (hw : ∀ d ∈ tables_1, d.before a0 Z = true) (a : Addr) (x : Int32) (h0 : Heap) (n0 : Nat) (p : Addr) (t xn : Nat) (Z0 : n0 ≤ h0.size) (nap : a ≠ p) (gp : n0 ≤ p) (hV : own_V t) (F0 : Fld Z h0 a "com/example/tolerant_query/tolerantquery/UnionFind" "parent" "[I" (.ref p)) (A0 : Av Z h0 p .int 4 (iF (own_g t))) (hn4 : xn < 4) (hx : x = Int32.ofNat xn) : Met1 l Z (⟨"com/example/tolerant_query/tolerantquery/UnionFind", "root", "(I)I"⟩ : MethodName) prog_20_method_3_code 5 (some .int) [] ({ frames := 0, cells := 0, slots := 0, locals := 0 } : Room) #[(.ref a), (.int x)] h0 n0 (fun v h => v = some (.int (Int32.ofNat (own_rt t xn))) ∧ Keep h0 h [p] ∧ Av Z h p .int 4 (iF (own_g (own_cp t xn)))) := by
  refine met_of_go (plainFor_of_name pn_com_example_tolerant_query_tolerantquery_UnionFind) (fun m => ef_4 m a x) ?_
  intro W hl C
  subst hl
  subst hx
  refine Go.iloadN C d4_0 (q := 1) rfl rfl ?_
  refine Go.istoreNR C d4_1 (q := 2) rfl (l' := #[.val (.ref a), .val (.int (Int32.ofNat xn)), .val (.int (Int32.ofNat xn)), .unset, .unset]) rfl ?_
  refine lp_f Z a0 hw W _ C h0 n0 _ _ _ a p _ nap t F0 A0 3 xn hn4 (own_v1 hV hn4).2 ?_
  show Go W n0 (fun v h => v = some (.int (Int32.ofNat (own_rt t xn))) ∧ Keep h0 h [p] ∧ Av Z h p .int 4 (iF (own_g (own_cp t xn)))) h0 0 0 22 #[.val (.ref a), .val (.int (Int32.ofNat xn)), .val (.int (Int32.ofNat (own_rt t xn))), .unset, .unset] []
  refine Go.iloadN C d4_22 (q := 23) rfl rfl ?_
  refine Go.istoreNR C d4_23 (q := 24) rfl (l' := #[.val (.ref a), .val (.int (Int32.ofNat xn)), .val (.int (Int32.ofNat (own_rt t xn))), .val (.int (Int32.ofNat xn)), .unset]) rfl ?_
  exact lp_c Z a0 hw W _ C h0 n0 _ _ _ a p _ nap gp _ (own_rl t xn hn4) (by decide) (by decide) 4 t xn h0 .unset hn4 (own_v1 hV hn4).1 One.u (Keep.refl h0 [p]) F0 A0 (fun h' K' A' => ⟨rfl, K', A'⟩)
set_option maxRecDepth 65536 in
theorem c_link (l : Launch) (Z : State) (a0 : Array Value) (hw : ∀ d ∈ tables_1, d.before a0 Z = true) (a : Addr) (x : Int32) (y : Int32) (h0 : Heap) (n0 : Nat) (p : Addr) (t an bn : Nat) (Z0 : n0 ≤ h0.size) (E0 : Exa Z h0 a "com/example/tolerant_query/tolerantquery/UnionFind") (nap : a ≠ p) (gp : n0 ≤ p) (hV : own_V t) (F0 : Fld Z h0 a "com/example/tolerant_query/tolerantquery/UnionFind" "parent" "[I" (.ref p)) (A0 : Av Z h0 p .int 4 (iF (own_g t))) (ha : an < 4) (hb : bn < 4) (hx : x = Int32.ofNat an) (hy : y = Int32.ofNat bn) : Met1 l Z (⟨"com/example/tolerant_query/tolerantquery/UnionFind", "link", "(II)V"⟩ : MethodName) prog_20_method_2_code 3 none [] ({ frames := 1, cells := 0, slots := 0, locals := 18 } : Room) #[(.ref a), (.int x), (.int y)] h0 n0 (fun v h => v = none ∧ Keep h0 h [p] ∧ Av Z h p .int 4 (iF (own_g (own_link t an bn)))) := by
  refine met_of_go (plainFor_of_name pn_com_example_tolerant_query_tolerantquery_UnionFind) (fun m => ef_3 m a x y) ?_
  intro W hl C
  subst hl
  subst hx hy
  refine Go.aloadN C d3_0 (q := 1) rfl rfl rfl ?_
  refine Go.getF C (host := "") (Or.inl (hw _ (List.mem_of_getElem? (i := 10) rfl))) Via.refl F0 d3_1 (q := 4) rfl ?_
  refine Go.aloadN C d3_4 (q := 5) rfl rfl rfl ?_
  refine Go.iloadN C d3_5 (q := 6) rfl rfl ?_
  refine Go.callV C E0 (hw _ (List.mem_of_getElem? (i := 17) rfl)) (hw _ (List.mem_of_getElem? (i := 18) rfl)) (notFace_of_selects (args := #[]) (mvT C.z (hw _ (List.mem_of_getElem? (i := 20) rfl)))) (hw _ (List.mem_of_getElem? (i := 20) rfl)) (hw _ (List.mem_of_getElem? (i := 19) rfl)) (hw _ (List.mem_of_getElem? (i := 2) rfl)) (hw _ (List.mem_of_getElem? (i := 21) rfl)) (c_root W.l Z a0 hw a (Int32.ofNat an) h0 n0 p t an Z0 nap gp hV F0 A0 ha rfl) d3_6 pd__40I_41I (q := 9) rfl rfl (argsL := [(.int (Int32.ofNat an))]) (st := [(.ref p)]) rfl rfl (w := 1) rfl (by decide) (by decide) (k' := 0) rfl (n' := 0) rfl (by decide) (by decide) ?_
  intro v h1 q
  obtain ⟨rfl, K2, F3⟩ := q
  show Go W n0 (fun v h => v = none ∧ Keep h0 h [p] ∧ Av Z h p .int 4 (iF (own_g (own_link t an bn)))) h1 0 0 9 #[.val (.ref a), .val (.int (Int32.ofNat an)), .val (.int (Int32.ofNat bn))] [(.int (Int32.ofNat (own_rt t an))), (.ref p)]
  refine Go.aloadN C d3_9 (q := 10) rfl rfl rfl ?_
  refine Go.iloadN C d3_10 (q := 11) rfl rfl ?_
  have F4 := (Nat.le_trans Z0 K2.1)
  have F5 := (F0.keep K2 (ninS nap nin0))
  have F6 := (E0.keep K2)
  refine Go.callV C F6 (hw _ (List.mem_of_getElem? (i := 17) rfl)) (hw _ (List.mem_of_getElem? (i := 18) rfl)) (notFace_of_selects (args := #[]) (mvT C.z (hw _ (List.mem_of_getElem? (i := 20) rfl)))) (hw _ (List.mem_of_getElem? (i := 20) rfl)) (hw _ (List.mem_of_getElem? (i := 19) rfl)) (hw _ (List.mem_of_getElem? (i := 2) rfl)) (hw _ (List.mem_of_getElem? (i := 21) rfl)) (c_root W.l Z a0 hw a (Int32.ofNat bn) h1 n0 p (own_cp t an) bn F4 nap gp (own_v2 hV ha).1 F5 F3 hb rfl) d3_11 pd__40I_41I (q := 14) rfl rfl (argsL := [(.int (Int32.ofNat bn))]) (st := [(.int (Int32.ofNat (own_rt t an))), (.ref p)]) rfl rfl (w := 2) rfl (by decide) (by decide) (k' := 0) rfl (n' := 0) rfl (by decide) (by decide) ?_
  intro v h7 q
  obtain ⟨rfl, K8, F9⟩ := q
  show Go W n0 (fun v h => v = none ∧ Keep h0 h [p] ∧ Av Z h p .int 4 (iF (own_g (own_link t an bn)))) h7 0 0 14 #[.val (.ref a), .val (.int (Int32.ofNat an)), .val (.int (Int32.ofNat bn))] [(.int (Int32.ofNat (own_rt (own_cp t an) bn))), (.int (Int32.ofNat (own_rt t an))), (.ref p)]
  refine Go.iastore C F9 (own_rt t an) (own_oi _ (own_rl t an ha)).1 (own_oi _ (own_rl t an ha)).2 (own_rl t an ha) gp d3_14 (q := 15) rfl ?_
  intro h10 W11
  have F12 := F9.sameI W11
  exact Go.retV C d3_15 (by decide) (by decide) ⟨rfl, ((((Keep.refl h0 [p]).trans K2 (allS (Or.inl (List.mem_of_getElem? (i := 0) rfl)) all0)).trans K8 (allS (Or.inl (List.mem_of_getElem? (i := 0) rfl)) all0)).wr W11 (Or.inl (List.mem_of_getElem? (i := 0) rfl))), F12.congr (fun i hi => congrArg Value.int (own_gs _ _ _ i (own_rl _ _ hb) hi))⟩
set_option maxRecDepth 65536 in
theorem c_join (l : Launch) (Z : State) (a0 : Array Value) (hw : ∀ d ∈ tables_1, d.before a0 Z = true) (p : Addr) (x : Int32) (y : Int32) (h0 : Heap) (n0 : Nat) (r an bn : Nat) (Z0 : n0 ≤ h0.size) (gp : n0 ≤ p) (A0 : Av Z h0 p .int 4 (iF (own_g r))) (ha : an < 4) (hb : bn < 4) (hx : x = Int32.ofNat an) (hy : y = Int32.ofNat bn) : Met1 l Z (⟨"com/example/tolerant_query/tolerantquery/UnionFindRootPinLaw", "join", "([III)V"⟩ : MethodName) method_2_code 5 none [] ({ frames := 0, cells := 0, slots := 0, locals := 0 } : Room) #[(.ref p), (.int x), (.int y)] h0 n0 (fun v h => v = none ∧ Keep h0 h [p] ∧ Av Z h p .int 4 (iF (own_g (own_join r an bn)))) := by
  refine met_of_go (plainFor_of_name pn_com_example_tolerant_query_tolerantquery_UnionFindRootPinLaw) (fun m => ef_5 m p x y) ?_
  intro W hl C
  subst hl
  subst hx hy
  refine Go.aloadN C d5_0 (q := 1) rfl rfl rfl ?_
  refine Go.iloadN C d5_1 (q := 2) rfl rfl ?_
  refine Go.iaload C A0 an (v := (.int (own_g r an))) (own_oi an ha).1 (own_oi an ha).2 ha rfl d5_2 (q := 3) rfl ?_
  refine Go.istoreNR C d5_3 (q := 4) rfl (l' := #[.val (.ref p), .val (.int (Int32.ofNat an)), .val (.int (Int32.ofNat bn)), .val (.int (own_g r an)), .unset]) rfl ?_
  refine Go.aloadN C d5_4 (q := 5) rfl rfl rfl ?_
  refine Go.iloadN C d5_5 (q := 6) rfl rfl ?_
  refine Go.iaload C A0 bn (v := (.int (own_g r bn))) (own_oi bn hb).1 (own_oi bn hb).2 hb rfl d5_6 (q := 7) rfl ?_
  refine Go.istoreR C d5_7 (q := 9) rfl (l' := #[.val (.ref p), .val (.int (Int32.ofNat an)), .val (.int (Int32.ofNat bn)), .val (.int (own_g r an)), .val (.int (own_g r bn))]) rfl ?_
  refine Go.aloadN C d5_9 (q := 10) rfl rfl rfl ?_
  refine Go.iconst C (0 : Int32) d5_10 (q := 11) rfl rfl ?_
  refine Go.iaload C A0 0 (v := (.int (own_g r 0))) (by decide) (by decide) (by decide) rfl d5_11 (q := 12) rfl ?_
  refine Go.iloadN C d5_12 (q := 13) rfl rfl ?_
  refine Go.icmp C d5_13 (n_ne _ _) (qt := 21) (q := 16) (by decide) (by decide) rfl (fun b1 => ?_) (fun b1 => ?_)
  ·
    refine Go.aloadN C d5_21 (q := 22) rfl rfl rfl ?_
    refine Go.iconst C (1 : Int32) d5_22 (q := 23) rfl rfl ?_
    refine Go.iaload C A0 1 (v := (.int (own_g r 1))) (by decide) (by decide) (by decide) rfl d5_23 (q := 24) rfl ?_
    refine Go.iloadN C d5_24 (q := 25) rfl rfl ?_
    refine Go.icmp C d5_25 (n_ne _ _) (qt := 33) (q := 28) (by decide) (by decide) rfl (fun b2 => ?_) (fun b2 => ?_)
    ·
      refine Go.aloadN C d5_33 (q := 34) rfl rfl rfl ?_
      refine Go.iconst C (2 : Int32) d5_34 (q := 35) rfl rfl ?_
      refine Go.iaload C A0 2 (v := (.int (own_g r 2))) (by decide) (by decide) (by decide) rfl d5_35 (q := 36) rfl ?_
      refine Go.iloadN C d5_36 (q := 37) rfl rfl ?_
      refine Go.icmp C d5_37 (n_ne _ _) (qt := 45) (q := 40) (by decide) (by decide) rfl (fun b3 => ?_) (fun b3 => ?_)
      ·
        refine Go.aloadN C d5_45 (q := 46) rfl rfl rfl ?_
        refine Go.iconst C (3 : Int32) d5_46 (q := 47) rfl rfl ?_
        refine Go.iaload C A0 3 (v := (.int (own_g r 3))) (by decide) (by decide) (by decide) rfl d5_47 (q := 48) rfl ?_
        refine Go.iloadN C d5_48 (q := 49) rfl rfl ?_
        refine Go.icmp C d5_49 (n_ne _ _) (qt := 57) (q := 52) (by decide) (by decide) rfl (fun b4 => ?_) (fun b4 => ?_)
        ·
          refine Go.retV C d5_57 (by decide) (by decide) ⟨rfl, (Keep.refl h0 [p]), A0.congr (fun i hi => congrArg Value.int ?_)⟩
          rw [own_gj r an bn i hi]
          rcases own_c4 i hi with rfl | rfl | rfl | rfl
          · rw [if_neg b1] <;> rfl
          · rw [if_neg b2] <;> rfl
          · rw [if_neg b3] <;> rfl
          · rw [if_neg b4] <;> rfl
        ·
          have b4 := Classical.not_not.mp b4
          refine Go.aloadN C d5_52 (q := 53) rfl rfl rfl ?_
          refine Go.iconst C (3 : Int32) d5_53 (q := 54) rfl rfl ?_
          refine Go.iload C d5_54 (q := 56) rfl rfl ?_
          refine Go.iastore C A0 3 (by decide) (by decide) (by decide) gp d5_56 (q := 57) rfl ?_
          intro h5 W6
          have F7 := A0.sameI W6
          refine Go.retV C d5_57 (by decide) (by decide) ⟨rfl, ((Keep.refl h0 [p]).wr W6 (Or.inl (List.mem_of_getElem? (i := 0) rfl))), F7.congr (fun i hi => congrArg Value.int ?_)⟩
          rw [own_gj r an bn i hi]
          rcases own_c4 i hi with rfl | rfl | rfl | rfl
          · rw [if_neg b1] <;> rfl
          · rw [if_neg b2] <;> rfl
          · rw [if_neg b3] <;> rfl
          · rw [if_pos b4] <;> rfl
      ·
        have b3 := Classical.not_not.mp b3
        refine Go.aloadN C d5_40 (q := 41) rfl rfl rfl ?_
        refine Go.iconst C (2 : Int32) d5_41 (q := 42) rfl rfl ?_
        refine Go.iload C d5_42 (q := 44) rfl rfl ?_
        refine Go.iastore C A0 2 (by decide) (by decide) (by decide) gp d5_44 (q := 45) rfl ?_
        intro h8 W9
        have F10 := A0.sameI W9
        refine Go.aloadN C d5_45 (q := 46) rfl rfl rfl ?_
        refine Go.iconst C (3 : Int32) d5_46 (q := 47) rfl rfl ?_
        refine Go.iaload C F10 3 (v := (.int (own_g r 3))) (by decide) (by decide) (by decide) rfl d5_47 (q := 48) rfl ?_
        refine Go.iloadN C d5_48 (q := 49) rfl rfl ?_
        refine Go.icmp C d5_49 (n_ne _ _) (qt := 57) (q := 52) (by decide) (by decide) rfl (fun b11 => ?_) (fun b11 => ?_)
        ·
          refine Go.retV C d5_57 (by decide) (by decide) ⟨rfl, ((Keep.refl h0 [p]).wr W9 (Or.inl (List.mem_of_getElem? (i := 0) rfl))), F10.congr (fun i hi => congrArg Value.int ?_)⟩
          rw [own_gj r an bn i hi]
          rcases own_c4 i hi with rfl | rfl | rfl | rfl
          · rw [if_neg b1] <;> rfl
          · rw [if_neg b2] <;> rfl
          · rw [if_pos b3] <;> rfl
          · rw [if_neg b11] <;> rfl
        ·
          have b11 := Classical.not_not.mp b11
          refine Go.aloadN C d5_52 (q := 53) rfl rfl rfl ?_
          refine Go.iconst C (3 : Int32) d5_53 (q := 54) rfl rfl ?_
          refine Go.iload C d5_54 (q := 56) rfl rfl ?_
          refine Go.iastore C F10 3 (by decide) (by decide) (by decide) gp d5_56 (q := 57) rfl ?_
          intro h12 W13
          have F14 := F10.sameI W13
          refine Go.retV C d5_57 (by decide) (by decide) ⟨rfl, (((Keep.refl h0 [p]).wr W9 (Or.inl (List.mem_of_getElem? (i := 0) rfl))).wr W13 (Or.inl (List.mem_of_getElem? (i := 0) rfl))), F14.congr (fun i hi => congrArg Value.int ?_)⟩
          rw [own_gj r an bn i hi]
          rcases own_c4 i hi with rfl | rfl | rfl | rfl
          · rw [if_neg b1] <;> rfl
          · rw [if_neg b2] <;> rfl
          · rw [if_pos b3] <;> rfl
          · rw [if_pos b11] <;> rfl
    ·
      have b2 := Classical.not_not.mp b2
      refine Go.aloadN C d5_28 (q := 29) rfl rfl rfl ?_
      refine Go.iconst C (1 : Int32) d5_29 (q := 30) rfl rfl ?_
      refine Go.iload C d5_30 (q := 32) rfl rfl ?_
      refine Go.iastore C A0 1 (by decide) (by decide) (by decide) gp d5_32 (q := 33) rfl ?_
      intro h15 W16
      have F17 := A0.sameI W16
      refine Go.aloadN C d5_33 (q := 34) rfl rfl rfl ?_
      refine Go.iconst C (2 : Int32) d5_34 (q := 35) rfl rfl ?_
      refine Go.iaload C F17 2 (v := (.int (own_g r 2))) (by decide) (by decide) (by decide) rfl d5_35 (q := 36) rfl ?_
      refine Go.iloadN C d5_36 (q := 37) rfl rfl ?_
      refine Go.icmp C d5_37 (n_ne _ _) (qt := 45) (q := 40) (by decide) (by decide) rfl (fun b18 => ?_) (fun b18 => ?_)
      ·
        refine Go.aloadN C d5_45 (q := 46) rfl rfl rfl ?_
        refine Go.iconst C (3 : Int32) d5_46 (q := 47) rfl rfl ?_
        refine Go.iaload C F17 3 (v := (.int (own_g r 3))) (by decide) (by decide) (by decide) rfl d5_47 (q := 48) rfl ?_
        refine Go.iloadN C d5_48 (q := 49) rfl rfl ?_
        refine Go.icmp C d5_49 (n_ne _ _) (qt := 57) (q := 52) (by decide) (by decide) rfl (fun b19 => ?_) (fun b19 => ?_)
        ·
          refine Go.retV C d5_57 (by decide) (by decide) ⟨rfl, ((Keep.refl h0 [p]).wr W16 (Or.inl (List.mem_of_getElem? (i := 0) rfl))), F17.congr (fun i hi => congrArg Value.int ?_)⟩
          rw [own_gj r an bn i hi]
          rcases own_c4 i hi with rfl | rfl | rfl | rfl
          · rw [if_neg b1] <;> rfl
          · rw [if_pos b2] <;> rfl
          · rw [if_neg b18] <;> rfl
          · rw [if_neg b19] <;> rfl
        ·
          have b19 := Classical.not_not.mp b19
          refine Go.aloadN C d5_52 (q := 53) rfl rfl rfl ?_
          refine Go.iconst C (3 : Int32) d5_53 (q := 54) rfl rfl ?_
          refine Go.iload C d5_54 (q := 56) rfl rfl ?_
          refine Go.iastore C F17 3 (by decide) (by decide) (by decide) gp d5_56 (q := 57) rfl ?_
          intro h20 W21
          have F22 := F17.sameI W21
          refine Go.retV C d5_57 (by decide) (by decide) ⟨rfl, (((Keep.refl h0 [p]).wr W16 (Or.inl (List.mem_of_getElem? (i := 0) rfl))).wr W21 (Or.inl (List.mem_of_getElem? (i := 0) rfl))), F22.congr (fun i hi => congrArg Value.int ?_)⟩
          rw [own_gj r an bn i hi]
          rcases own_c4 i hi with rfl | rfl | rfl | rfl
          · rw [if_neg b1] <;> rfl
          · rw [if_pos b2] <;> rfl
          · rw [if_neg b18] <;> rfl
          · rw [if_pos b19] <;> rfl
      ·
        have b18 := Classical.not_not.mp b18
        refine Go.aloadN C d5_40 (q := 41) rfl rfl rfl ?_
        refine Go.iconst C (2 : Int32) d5_41 (q := 42) rfl rfl ?_
        refine Go.iload C d5_42 (q := 44) rfl rfl ?_
        refine Go.iastore C F17 2 (by decide) (by decide) (by decide) gp d5_44 (q := 45) rfl ?_
        intro h23 W24
        have F25 := F17.sameI W24
        refine Go.aloadN C d5_45 (q := 46) rfl rfl rfl ?_
        refine Go.iconst C (3 : Int32) d5_46 (q := 47) rfl rfl ?_
        refine Go.iaload C F25 3 (v := (.int (own_g r 3))) (by decide) (by decide) (by decide) rfl d5_47 (q := 48) rfl ?_
        refine Go.iloadN C d5_48 (q := 49) rfl rfl ?_
        refine Go.icmp C d5_49 (n_ne _ _) (qt := 57) (q := 52) (by decide) (by decide) rfl (fun b26 => ?_) (fun b26 => ?_)
        ·
          refine Go.retV C d5_57 (by decide) (by decide) ⟨rfl, (((Keep.refl h0 [p]).wr W16 (Or.inl (List.mem_of_getElem? (i := 0) rfl))).wr W24 (Or.inl (List.mem_of_getElem? (i := 0) rfl))), F25.congr (fun i hi => congrArg Value.int ?_)⟩
          rw [own_gj r an bn i hi]
          rcases own_c4 i hi with rfl | rfl | rfl | rfl
          · rw [if_neg b1] <;> rfl
          · rw [if_pos b2] <;> rfl
          · rw [if_pos b18] <;> rfl
          · rw [if_neg b26] <;> rfl
        ·
          have b26 := Classical.not_not.mp b26
          refine Go.aloadN C d5_52 (q := 53) rfl rfl rfl ?_
          refine Go.iconst C (3 : Int32) d5_53 (q := 54) rfl rfl ?_
          refine Go.iload C d5_54 (q := 56) rfl rfl ?_
          refine Go.iastore C F25 3 (by decide) (by decide) (by decide) gp d5_56 (q := 57) rfl ?_
          intro h27 W28
          have F29 := F25.sameI W28
          refine Go.retV C d5_57 (by decide) (by decide) ⟨rfl, ((((Keep.refl h0 [p]).wr W16 (Or.inl (List.mem_of_getElem? (i := 0) rfl))).wr W24 (Or.inl (List.mem_of_getElem? (i := 0) rfl))).wr W28 (Or.inl (List.mem_of_getElem? (i := 0) rfl))), F29.congr (fun i hi => congrArg Value.int ?_)⟩
          rw [own_gj r an bn i hi]
          rcases own_c4 i hi with rfl | rfl | rfl | rfl
          · rw [if_neg b1] <;> rfl
          · rw [if_pos b2] <;> rfl
          · rw [if_pos b18] <;> rfl
          · rw [if_pos b26] <;> rfl
  ·
    have b1 := Classical.not_not.mp b1
    refine Go.aloadN C d5_16 (q := 17) rfl rfl rfl ?_
    refine Go.iconst C (0 : Int32) d5_17 (q := 18) rfl rfl ?_
    refine Go.iload C d5_18 (q := 20) rfl rfl ?_
    refine Go.iastore C A0 0 (by decide) (by decide) (by decide) gp d5_20 (q := 21) rfl ?_
    intro h30 W31
    have F32 := A0.sameI W31
    refine Go.aloadN C d5_21 (q := 22) rfl rfl rfl ?_
    refine Go.iconst C (1 : Int32) d5_22 (q := 23) rfl rfl ?_
    refine Go.iaload C F32 1 (v := (.int (own_g r 1))) (by decide) (by decide) (by decide) rfl d5_23 (q := 24) rfl ?_
    refine Go.iloadN C d5_24 (q := 25) rfl rfl ?_
    refine Go.icmp C d5_25 (n_ne _ _) (qt := 33) (q := 28) (by decide) (by decide) rfl (fun b33 => ?_) (fun b33 => ?_)
    ·
      refine Go.aloadN C d5_33 (q := 34) rfl rfl rfl ?_
      refine Go.iconst C (2 : Int32) d5_34 (q := 35) rfl rfl ?_
      refine Go.iaload C F32 2 (v := (.int (own_g r 2))) (by decide) (by decide) (by decide) rfl d5_35 (q := 36) rfl ?_
      refine Go.iloadN C d5_36 (q := 37) rfl rfl ?_
      refine Go.icmp C d5_37 (n_ne _ _) (qt := 45) (q := 40) (by decide) (by decide) rfl (fun b34 => ?_) (fun b34 => ?_)
      ·
        refine Go.aloadN C d5_45 (q := 46) rfl rfl rfl ?_
        refine Go.iconst C (3 : Int32) d5_46 (q := 47) rfl rfl ?_
        refine Go.iaload C F32 3 (v := (.int (own_g r 3))) (by decide) (by decide) (by decide) rfl d5_47 (q := 48) rfl ?_
        refine Go.iloadN C d5_48 (q := 49) rfl rfl ?_
        refine Go.icmp C d5_49 (n_ne _ _) (qt := 57) (q := 52) (by decide) (by decide) rfl (fun b35 => ?_) (fun b35 => ?_)
        ·
          refine Go.retV C d5_57 (by decide) (by decide) ⟨rfl, ((Keep.refl h0 [p]).wr W31 (Or.inl (List.mem_of_getElem? (i := 0) rfl))), F32.congr (fun i hi => congrArg Value.int ?_)⟩
          rw [own_gj r an bn i hi]
          rcases own_c4 i hi with rfl | rfl | rfl | rfl
          · rw [if_pos b1] <;> rfl
          · rw [if_neg b33] <;> rfl
          · rw [if_neg b34] <;> rfl
          · rw [if_neg b35] <;> rfl
        ·
          have b35 := Classical.not_not.mp b35
          refine Go.aloadN C d5_52 (q := 53) rfl rfl rfl ?_
          refine Go.iconst C (3 : Int32) d5_53 (q := 54) rfl rfl ?_
          refine Go.iload C d5_54 (q := 56) rfl rfl ?_
          refine Go.iastore C F32 3 (by decide) (by decide) (by decide) gp d5_56 (q := 57) rfl ?_
          intro h36 W37
          have F38 := F32.sameI W37
          refine Go.retV C d5_57 (by decide) (by decide) ⟨rfl, (((Keep.refl h0 [p]).wr W31 (Or.inl (List.mem_of_getElem? (i := 0) rfl))).wr W37 (Or.inl (List.mem_of_getElem? (i := 0) rfl))), F38.congr (fun i hi => congrArg Value.int ?_)⟩
          rw [own_gj r an bn i hi]
          rcases own_c4 i hi with rfl | rfl | rfl | rfl
          · rw [if_pos b1] <;> rfl
          · rw [if_neg b33] <;> rfl
          · rw [if_neg b34] <;> rfl
          · rw [if_pos b35] <;> rfl
      ·
        have b34 := Classical.not_not.mp b34
        refine Go.aloadN C d5_40 (q := 41) rfl rfl rfl ?_
        refine Go.iconst C (2 : Int32) d5_41 (q := 42) rfl rfl ?_
        refine Go.iload C d5_42 (q := 44) rfl rfl ?_
        refine Go.iastore C F32 2 (by decide) (by decide) (by decide) gp d5_44 (q := 45) rfl ?_
        intro h39 W40
        have F41 := F32.sameI W40
        refine Go.aloadN C d5_45 (q := 46) rfl rfl rfl ?_
        refine Go.iconst C (3 : Int32) d5_46 (q := 47) rfl rfl ?_
        refine Go.iaload C F41 3 (v := (.int (own_g r 3))) (by decide) (by decide) (by decide) rfl d5_47 (q := 48) rfl ?_
        refine Go.iloadN C d5_48 (q := 49) rfl rfl ?_
        refine Go.icmp C d5_49 (n_ne _ _) (qt := 57) (q := 52) (by decide) (by decide) rfl (fun b42 => ?_) (fun b42 => ?_)
        ·
          refine Go.retV C d5_57 (by decide) (by decide) ⟨rfl, (((Keep.refl h0 [p]).wr W31 (Or.inl (List.mem_of_getElem? (i := 0) rfl))).wr W40 (Or.inl (List.mem_of_getElem? (i := 0) rfl))), F41.congr (fun i hi => congrArg Value.int ?_)⟩
          rw [own_gj r an bn i hi]
          rcases own_c4 i hi with rfl | rfl | rfl | rfl
          · rw [if_pos b1] <;> rfl
          · rw [if_neg b33] <;> rfl
          · rw [if_pos b34] <;> rfl
          · rw [if_neg b42] <;> rfl
        ·
          have b42 := Classical.not_not.mp b42
          refine Go.aloadN C d5_52 (q := 53) rfl rfl rfl ?_
          refine Go.iconst C (3 : Int32) d5_53 (q := 54) rfl rfl ?_
          refine Go.iload C d5_54 (q := 56) rfl rfl ?_
          refine Go.iastore C F41 3 (by decide) (by decide) (by decide) gp d5_56 (q := 57) rfl ?_
          intro h43 W44
          have F45 := F41.sameI W44
          refine Go.retV C d5_57 (by decide) (by decide) ⟨rfl, ((((Keep.refl h0 [p]).wr W31 (Or.inl (List.mem_of_getElem? (i := 0) rfl))).wr W40 (Or.inl (List.mem_of_getElem? (i := 0) rfl))).wr W44 (Or.inl (List.mem_of_getElem? (i := 0) rfl))), F45.congr (fun i hi => congrArg Value.int ?_)⟩
          rw [own_gj r an bn i hi]
          rcases own_c4 i hi with rfl | rfl | rfl | rfl
          · rw [if_pos b1] <;> rfl
          · rw [if_neg b33] <;> rfl
          · rw [if_pos b34] <;> rfl
          · rw [if_pos b42] <;> rfl
    ·
      have b33 := Classical.not_not.mp b33
      refine Go.aloadN C d5_28 (q := 29) rfl rfl rfl ?_
      refine Go.iconst C (1 : Int32) d5_29 (q := 30) rfl rfl ?_
      refine Go.iload C d5_30 (q := 32) rfl rfl ?_
      refine Go.iastore C F32 1 (by decide) (by decide) (by decide) gp d5_32 (q := 33) rfl ?_
      intro h46 W47
      have F48 := F32.sameI W47
      refine Go.aloadN C d5_33 (q := 34) rfl rfl rfl ?_
      refine Go.iconst C (2 : Int32) d5_34 (q := 35) rfl rfl ?_
      refine Go.iaload C F48 2 (v := (.int (own_g r 2))) (by decide) (by decide) (by decide) rfl d5_35 (q := 36) rfl ?_
      refine Go.iloadN C d5_36 (q := 37) rfl rfl ?_
      refine Go.icmp C d5_37 (n_ne _ _) (qt := 45) (q := 40) (by decide) (by decide) rfl (fun b49 => ?_) (fun b49 => ?_)
      ·
        refine Go.aloadN C d5_45 (q := 46) rfl rfl rfl ?_
        refine Go.iconst C (3 : Int32) d5_46 (q := 47) rfl rfl ?_
        refine Go.iaload C F48 3 (v := (.int (own_g r 3))) (by decide) (by decide) (by decide) rfl d5_47 (q := 48) rfl ?_
        refine Go.iloadN C d5_48 (q := 49) rfl rfl ?_
        refine Go.icmp C d5_49 (n_ne _ _) (qt := 57) (q := 52) (by decide) (by decide) rfl (fun b50 => ?_) (fun b50 => ?_)
        ·
          refine Go.retV C d5_57 (by decide) (by decide) ⟨rfl, (((Keep.refl h0 [p]).wr W31 (Or.inl (List.mem_of_getElem? (i := 0) rfl))).wr W47 (Or.inl (List.mem_of_getElem? (i := 0) rfl))), F48.congr (fun i hi => congrArg Value.int ?_)⟩
          rw [own_gj r an bn i hi]
          rcases own_c4 i hi with rfl | rfl | rfl | rfl
          · rw [if_pos b1] <;> rfl
          · rw [if_pos b33] <;> rfl
          · rw [if_neg b49] <;> rfl
          · rw [if_neg b50] <;> rfl
        ·
          have b50 := Classical.not_not.mp b50
          refine Go.aloadN C d5_52 (q := 53) rfl rfl rfl ?_
          refine Go.iconst C (3 : Int32) d5_53 (q := 54) rfl rfl ?_
          refine Go.iload C d5_54 (q := 56) rfl rfl ?_
          refine Go.iastore C F48 3 (by decide) (by decide) (by decide) gp d5_56 (q := 57) rfl ?_
          intro h51 W52
          have F53 := F48.sameI W52
          refine Go.retV C d5_57 (by decide) (by decide) ⟨rfl, ((((Keep.refl h0 [p]).wr W31 (Or.inl (List.mem_of_getElem? (i := 0) rfl))).wr W47 (Or.inl (List.mem_of_getElem? (i := 0) rfl))).wr W52 (Or.inl (List.mem_of_getElem? (i := 0) rfl))), F53.congr (fun i hi => congrArg Value.int ?_)⟩
          rw [own_gj r an bn i hi]
          rcases own_c4 i hi with rfl | rfl | rfl | rfl
          · rw [if_pos b1] <;> rfl
          · rw [if_pos b33] <;> rfl
          · rw [if_neg b49] <;> rfl
          · rw [if_pos b50] <;> rfl
      ·
        have b49 := Classical.not_not.mp b49
        refine Go.aloadN C d5_40 (q := 41) rfl rfl rfl ?_
        refine Go.iconst C (2 : Int32) d5_41 (q := 42) rfl rfl ?_
        refine Go.iload C d5_42 (q := 44) rfl rfl ?_
        refine Go.iastore C F48 2 (by decide) (by decide) (by decide) gp d5_44 (q := 45) rfl ?_
        intro h54 W55
        have F56 := F48.sameI W55
        refine Go.aloadN C d5_45 (q := 46) rfl rfl rfl ?_
        refine Go.iconst C (3 : Int32) d5_46 (q := 47) rfl rfl ?_
        refine Go.iaload C F56 3 (v := (.int (own_g r 3))) (by decide) (by decide) (by decide) rfl d5_47 (q := 48) rfl ?_
        refine Go.iloadN C d5_48 (q := 49) rfl rfl ?_
        refine Go.icmp C d5_49 (n_ne _ _) (qt := 57) (q := 52) (by decide) (by decide) rfl (fun b57 => ?_) (fun b57 => ?_)
        ·
          refine Go.retV C d5_57 (by decide) (by decide) ⟨rfl, ((((Keep.refl h0 [p]).wr W31 (Or.inl (List.mem_of_getElem? (i := 0) rfl))).wr W47 (Or.inl (List.mem_of_getElem? (i := 0) rfl))).wr W55 (Or.inl (List.mem_of_getElem? (i := 0) rfl))), F56.congr (fun i hi => congrArg Value.int ?_)⟩
          rw [own_gj r an bn i hi]
          rcases own_c4 i hi with rfl | rfl | rfl | rfl
          · rw [if_pos b1] <;> rfl
          · rw [if_pos b33] <;> rfl
          · rw [if_pos b49] <;> rfl
          · rw [if_neg b57] <;> rfl
        ·
          have b57 := Classical.not_not.mp b57
          refine Go.aloadN C d5_52 (q := 53) rfl rfl rfl ?_
          refine Go.iconst C (3 : Int32) d5_53 (q := 54) rfl rfl ?_
          refine Go.iload C d5_54 (q := 56) rfl rfl ?_
          refine Go.iastore C F56 3 (by decide) (by decide) (by decide) gp d5_56 (q := 57) rfl ?_
          intro h58 W59
          have F60 := F56.sameI W59
          refine Go.retV C d5_57 (by decide) (by decide) ⟨rfl, (((((Keep.refl h0 [p]).wr W31 (Or.inl (List.mem_of_getElem? (i := 0) rfl))).wr W47 (Or.inl (List.mem_of_getElem? (i := 0) rfl))).wr W55 (Or.inl (List.mem_of_getElem? (i := 0) rfl))).wr W59 (Or.inl (List.mem_of_getElem? (i := 0) rfl))), F60.congr (fun i hi => congrArg Value.int ?_)⟩
          rw [own_gj r an bn i hi]
          rcases own_c4 i hi with rfl | rfl | rfl | rfl
          · rw [if_pos b1] <;> rfl
          · rw [if_pos b33] <;> rfl
          · rw [if_pos b49] <;> rfl
          · rw [if_pos b57] <;> rfl
set_option maxRecDepth 65536 in
theorem c_init (l : Launch) (Z : State) (a0 : Array Value) (hw : ∀ d ∈ tables_1, d.before a0 Z = true) (a : Addr) (h0 : Heap) (n0 : Nat) (u : Value) (Z0 : n0 ≤ h0.size) (E0 : Exa Z h0 a "com/example/tolerant_query/tolerantquery/UnionFind") (g0 : n0 ≤ a) (F0 : Fld Z h0 a "com/example/tolerant_query/tolerantquery/UnionFind" "parent" "[I" u) : Met1 l Z (⟨"com/example/tolerant_query/tolerantquery/UnionFind", "<init>", "(I)V"⟩ : MethodName) prog_20_method_1_code 3 none [] ({ frames := 1, cells := 1, slots := 4, locals := 12 } : Room) #[(.ref a), (.int (4 : Int32))] h0 n0 (fun v h => v = none ∧ Keep h0 h [a] ∧ ∃ p : Addr, n0 ≤ p ∧ h0.size ≤ p ∧ Fld Z h a "com/example/tolerant_query/tolerantquery/UnionFind" "parent" "[I" (.ref p) ∧ Av Z h p .int 4 (iF (own_g 228))) := by
  refine met_of_go (plainFor_of_name pn_com_example_tolerant_query_tolerantquery_UnionFind) (fun m => ef_1_l1_4Int32 m a) ?_
  intro W hl C
  subst hl
  refine Go.aloadN C d1_0 (q := 1) rfl rfl rfl ?_
  refine Go.initO C (hw _ (List.mem_of_getElem? (i := 6) rfl)) (hw _ (List.mem_of_getElem? (i := 7) rfl)) (hw _ (List.mem_of_getElem? (i := 8) rfl)) d1_1 (q := 4) rfl rfl (w := 0) rfl (by decide) (by decide) ?_
  refine Go.aloadN C d1_4 (q := 5) rfl rfl rfl ?_
  refine Go.iloadN C d1_5 (q := 6) rfl rfl ?_
  refine Go.newPE C (hw _ (List.mem_of_getElem? (i := 9) rfl)) (by decide) (cap := 4) (by decide) (by decide) d1_6 (q := 8) rfl (k' := 1) rfl (n' := 4) rfl (by decide) (by decide) (ad := "[I") (by decide) ?_
  intro h1 a2 cA3 g4 E5 Fn6 E8
  have g9 : n0 ≤ a2 := g4 ▸ Z0
  have y10 : h0.size ≤ a2 := g4 ▸ (Nat.le_refl h0.size)
  have ne11 : a ≠ a2 := Nat.ne_of_lt (g4 ▸ E0.lt)
  have F7 : Av Z h1 a2 .int 4 (iF (fun _ => (0 : Int32))) := Av.of Fn6
  have F12 := (F0.ext E5)
  have F13 := (E0.ext E5)
  refine Go.putF C (host := "") (Or.inl (hw _ (List.mem_of_getElem? (i := 10) rfl))) Via.refl F12 F13 (Or.inr ⟨(hw _ (List.mem_of_getElem? (i := 11) rfl)), rfl, rfl⟩) (hw _ (List.mem_of_getElem? (i := 1) rfl)) (ty := (.array .int)) (by decide) rfl rfl g0 d1_8 (q := 11) rfl ?_
  intro h14 W15
  have F16 := F12.same W15
  refine Go.iconst C (0 : Int32) d1_11 (q := 12) rfl rfl ?_
  refine Go.istoreNR C d1_12 (q := 13) rfl (l' := #[.val (.ref a), .val (.int (4 : Int32)), .val (.int (0 : Int32))]) rfl ?_
  refine Go.iloadN C d1_13 (q := 14) rfl rfl ?_
  refine Go.iloadN C d1_14 (q := 15) rfl rfl ?_
  refine Go.icmp C d1_15 (n_ge _ _) (qt := 31) (q := 18) (by decide) (by decide) rfl (fun b17 => absurd b17 (by decide)) (fun _ => ?_)
  refine Go.aloadN C d1_18 (q := 19) rfl rfl rfl ?_
  refine Go.getF C (host := "") (Or.inl (hw _ (List.mem_of_getElem? (i := 10) rfl))) Via.refl F16 d1_19 (q := 22) rfl ?_
  refine Go.iloadN C d1_22 (q := 23) rfl rfl ?_
  refine Go.iloadN C d1_23 (q := 24) rfl rfl ?_
  have F18 := (F7.other W15 (Ne.symm ne11))
  refine Go.iastore C F18 0 (by decide) (by decide) (by decide) g9 d1_24 (q := 25) rfl ?_
  intro h19 W20
  have F21 := F18.sameI W20
  refine Go.iincR C d1_25 (q := 28) rfl rfl (l' := #[.val (.ref a), .val (.int (4 : Int32)), .val (.int (1 : Int32))]) rfl ?_
  refine Go.goto C d1_28 (q := 13) (by decide) (by decide) ?_
  refine Go.iloadN C d1_13 (q := 14) rfl rfl ?_
  refine Go.iloadN C d1_14 (q := 15) rfl rfl ?_
  refine Go.icmp C d1_15 (n_ge _ _) (qt := 31) (q := 18) (by decide) (by decide) rfl (fun b22 => absurd b22 (by decide)) (fun _ => ?_)
  refine Go.aloadN C d1_18 (q := 19) rfl rfl rfl ?_
  have F23 := (F16.other W20 (Or.inl ne11))
  refine Go.getF C (host := "") (Or.inl (hw _ (List.mem_of_getElem? (i := 10) rfl))) Via.refl F23 d1_19 (q := 22) rfl ?_
  refine Go.iloadN C d1_22 (q := 23) rfl rfl ?_
  refine Go.iloadN C d1_23 (q := 24) rfl rfl ?_
  refine Go.iastore C F21 1 (by decide) (by decide) (by decide) g9 d1_24 (q := 25) rfl ?_
  intro h24 W25
  have F26 := F21.sameI W25
  refine Go.iincR C d1_25 (q := 28) rfl rfl (l' := #[.val (.ref a), .val (.int (4 : Int32)), .val (.int (2 : Int32))]) rfl ?_
  refine Go.goto C d1_28 (q := 13) (by decide) (by decide) ?_
  refine Go.iloadN C d1_13 (q := 14) rfl rfl ?_
  refine Go.iloadN C d1_14 (q := 15) rfl rfl ?_
  refine Go.icmp C d1_15 (n_ge _ _) (qt := 31) (q := 18) (by decide) (by decide) rfl (fun b27 => absurd b27 (by decide)) (fun _ => ?_)
  refine Go.aloadN C d1_18 (q := 19) rfl rfl rfl ?_
  have F28 := (F23.other W25 (Or.inl ne11))
  refine Go.getF C (host := "") (Or.inl (hw _ (List.mem_of_getElem? (i := 10) rfl))) Via.refl F28 d1_19 (q := 22) rfl ?_
  refine Go.iloadN C d1_22 (q := 23) rfl rfl ?_
  refine Go.iloadN C d1_23 (q := 24) rfl rfl ?_
  refine Go.iastore C F26 2 (by decide) (by decide) (by decide) g9 d1_24 (q := 25) rfl ?_
  intro h29 W30
  have F31 := F26.sameI W30
  refine Go.iincR C d1_25 (q := 28) rfl rfl (l' := #[.val (.ref a), .val (.int (4 : Int32)), .val (.int (3 : Int32))]) rfl ?_
  refine Go.goto C d1_28 (q := 13) (by decide) (by decide) ?_
  refine Go.iloadN C d1_13 (q := 14) rfl rfl ?_
  refine Go.iloadN C d1_14 (q := 15) rfl rfl ?_
  refine Go.icmp C d1_15 (n_ge _ _) (qt := 31) (q := 18) (by decide) (by decide) rfl (fun b32 => absurd b32 (by decide)) (fun _ => ?_)
  refine Go.aloadN C d1_18 (q := 19) rfl rfl rfl ?_
  have F33 := (F28.other W30 (Or.inl ne11))
  refine Go.getF C (host := "") (Or.inl (hw _ (List.mem_of_getElem? (i := 10) rfl))) Via.refl F33 d1_19 (q := 22) rfl ?_
  refine Go.iloadN C d1_22 (q := 23) rfl rfl ?_
  refine Go.iloadN C d1_23 (q := 24) rfl rfl ?_
  refine Go.iastore C F31 3 (by decide) (by decide) (by decide) g9 d1_24 (q := 25) rfl ?_
  intro h34 W35
  have F36 := F31.sameI W35
  refine Go.iincR C d1_25 (q := 28) rfl rfl (l' := #[.val (.ref a), .val (.int (4 : Int32)), .val (.int (4 : Int32))]) rfl ?_
  refine Go.goto C d1_28 (q := 13) (by decide) (by decide) ?_
  refine Go.iloadN C d1_13 (q := 14) rfl rfl ?_
  refine Go.iloadN C d1_14 (q := 15) rfl rfl ?_
  refine Go.icmp C d1_15 (n_ge _ _) (qt := 31) (q := 18) (by decide) (by decide) rfl (fun _ => ?_) (fun b37 => absurd b37 (by decide))
  have F38 := (F33.other W35 (Or.inl ne11))
  exact Go.retV C d1_31 (by decide) (by decide) ⟨rfl, (((((((Keep.refl h0 [a]).ext E5).wr W15 (Or.inl (List.mem_of_getElem? (i := 0) rfl))).wr W20 (Or.inr y10)).wr W25 (Or.inr y10)).wr W30 (Or.inr y10)).wr W35 (Or.inr y10)), a2, g9, y10, F38, F36.congr (fun i hi => congrArg Value.int (by rcases own_c4 i hi with rfl | rfl | rfl | rfl <;> decide +kernel))⟩
set_option maxRecDepth 65536 in
set_option maxHeartbeats 4000000 in
theorem rm0 (l : Launch) (Z : State) (a0 : Array Value) (hw : ∀ d ∈ tables_1, d.before a0 Z = true) (p0 : Int32) (p1 : Int32) (h0 : Heap) (n0 : Nat) (Z0 : n0 ≤ h0.size) : Met1 l Z x code maxLocals ret tables_1 room_1 #[(.int p0), (.int p1)] h0 n0 QL := by
  refine met_of_go (plainFor_of_name pn_com_example_tolerant_query_tolerantquery_UnionFindRootPinLaw) (fun m => ef_0 m p0 p1) ?_
  intro W hl C
  subst hl
  have I0 : own_I 228 228 := ⟨⟨by decide, by decide +kernel⟩, by decide +kernel⟩
  refine Go.newO C (hw _ (List.mem_of_getElem? (i := 0) rfl)) (hw _ (List.mem_of_getElem? (i := 1) rfl)) (hw _ (List.mem_of_getElem? (i := 2) rfl)) at_0 (q := 3) rfl (k' := 1) rfl (n' := 1) rfl (by decide) (by decide) ?_
  intro h1 a2 g3 E4 A5 D6
  have g7 : n0 ≤ a2 := g3 ▸ Z0
  have F8 : Fld Z h1 a2 "com/example/tolerant_query/tolerantquery/UnionFind" "parent" "[I" .null := D6 (Or.inr (hw _ (List.mem_of_getElem? (i := 11) rfl))) (ty := (.array .int)) (by decide)
  refine Go.dup C at_3 (q := 4) rfl rfl ?_
  refine Go.iconst C (4 : Int32) at_4 (q := 5) rfl rfl ?_
  have F9 := (Nat.le_trans Z0 E4.1)
  refine Go.callC C rfl (hw _ (List.mem_of_getElem? (i := 3) rfl)) (hw _ (List.mem_of_getElem? (i := 4) rfl)) (hw _ (List.mem_of_getElem? (i := 2) rfl)) (hw _ (List.mem_of_getElem? (i := 5) rfl)) (c_init W.l Z a0 hw a2 h1 n0 .null F9 A5 g7 F8) at_5 pd__40I_41V (q := 8) rfl rfl (argsL := [(.int (4 : Int32))]) (st := [(.ref a2)]) rfl rfl (w := 1) rfl (by decide) (by decide) (k' := 2) rfl (n' := 5) rfl (by decide) (by decide) ?_
  intro v h10 q
  obtain ⟨rfl, K12, a11, g13, y14, F15, F16⟩ := q
  have ne17 : a2 ≠ a11 := Nat.ne_of_lt (Nat.lt_of_lt_of_le A5.lt y14)
  show Go W n0 QL h10 2 5 8 #[.val (.int p0), .val (.int p1), .unset, .unset, .unset, .unset, .unset, .unset, .unset, .unset, .unset, .unset, .unset, .unset, .unset, .unset] [(.ref a2)]
  refine Go.astoreN C at_8 (q := 9) rfl (l' := #[.val (.int p0), .val (.int p1), .val (.ref a2), .unset, .unset, .unset, .unset, .unset, .unset, .unset, .unset, .unset, .unset, .unset, .unset, .unset]) rfl rfl ?_
  refine Go.iconst C (4 : Int32) at_9 (q := 10) rfl rfl ?_
  refine Go.newPE C (hw _ (List.mem_of_getElem? (i := 9) rfl)) (by decide) (cap := 4) (by decide) (by decide) at_10 (q := 12) rfl (k' := 3) rfl (n' := 9) rfl (by decide) (by decide) (ad := "[I") (by decide) ?_
  intro h18 a19 cA20 g21 E22 Fn23 E25
  have F26 := (Nat.le_trans F9 K12.1)
  have g27 : n0 ≤ a19 := g21 ▸ F26
  have F29 := (A5.keep K12)
  have ne28 : a2 ≠ a19 := Nat.ne_of_lt (g21 ▸ F29.lt)
  have ne30 : a11 ≠ a19 := Nat.ne_of_lt (g21 ▸ F16.lt)
  have F24 : Av Z h18 a19 .int 4 (iF (fun _ => (0 : Int32))) := Av.of Fn23
  refine Go.dup C at_12 (q := 13) rfl rfl ?_
  refine Go.iconst C (0 : Int32) at_13 (q := 14) rfl rfl ?_
  refine Go.iconst C (0 : Int32) at_14 (q := 15) rfl rfl ?_
  refine Go.iastore C F24 0 (by decide) (by decide) (by decide) g27 at_15 (q := 16) rfl ?_
  intro h31 W32
  have F33 := F24.sameI W32
  refine Go.dup C at_16 (q := 17) rfl rfl ?_
  refine Go.iconst C (1 : Int32) at_17 (q := 18) rfl rfl ?_
  refine Go.iconst C (1 : Int32) at_18 (q := 19) rfl rfl ?_
  refine Go.iastore C F33 1 (by decide) (by decide) (by decide) g27 at_19 (q := 20) rfl ?_
  intro h34 W35
  have F36 := F33.sameI W35
  refine Go.dup C at_20 (q := 21) rfl rfl ?_
  refine Go.iconst C (2 : Int32) at_21 (q := 22) rfl rfl ?_
  refine Go.iconst C (2 : Int32) at_22 (q := 23) rfl rfl ?_
  refine Go.iastore C F36 2 (by decide) (by decide) (by decide) g27 at_23 (q := 24) rfl ?_
  intro h37 W38
  have F39 := F36.sameI W38
  refine Go.dup C at_24 (q := 25) rfl rfl ?_
  refine Go.iconst C (3 : Int32) at_25 (q := 26) rfl rfl ?_
  refine Go.iconst C (3 : Int32) at_26 (q := 27) rfl rfl ?_
  refine Go.iastore C F39 3 (by decide) (by decide) (by decide) g27 at_27 (q := 28) rfl ?_
  intro h40 W41
  have F42 := F39.sameI W41
  refine Go.astoreN C at_28 (q := 29) rfl (l' := #[.val (.int p0), .val (.int p1), .val (.ref a2), .val (.ref a19), .unset, .unset, .unset, .unset, .unset, .unset, .unset, .unset, .unset, .unset, .unset, .unset]) rfl rfl ?_
  refine Go.iloadN C at_29 (q := 30) rfl rfl ?_
  refine Go.iconst C (3 : Int32) at_30 (q := 31) rfl rfl ?_
  refine Go.iand C at_31 (q := 32) rfl ?_
  refine Go.istore C at_32 (q := 34) rfl (fun z => #[.val (.int p0), .val (.int p1), .val (.ref a2), .val (.ref a19), .val (.int z), .unset, .unset, .unset, .unset, .unset, .unset, .unset, .unset, .unset, .unset, .unset]) (fun _ => rfl) ?_
  intro v43 hv43
  refine Go.iloadN C at_34 (q := 35) rfl rfl ?_
  refine Go.iconst C (2 : Int32) at_35 (q := 36) rfl rfl ?_
  refine Go.iushr C at_36 (q := 37) rfl ?_
  refine Go.iconst C (3 : Int32) at_37 (q := 38) rfl rfl ?_
  refine Go.iand C at_38 (q := 39) rfl ?_
  refine Go.istore C at_39 (q := 41) rfl (fun z => #[.val (.int p0), .val (.int p1), .val (.ref a2), .val (.ref a19), .val (.int v43), .val (.int z), .unset, .unset, .unset, .unset, .unset, .unset, .unset, .unset, .unset, .unset]) (fun _ => rfl) ?_
  intro v44 hv44
  refine Go.iloadN C at_41 (q := 42) rfl rfl ?_
  refine Go.iconst C (4 : Int32) at_42 (q := 43) rfl rfl ?_
  refine Go.iushr C at_43 (q := 44) rfl ?_
  refine Go.iconst C (3 : Int32) at_44 (q := 45) rfl rfl ?_
  refine Go.iand C at_45 (q := 46) rfl ?_
  refine Go.istore C at_46 (q := 48) rfl (fun z => #[.val (.int p0), .val (.int p1), .val (.ref a2), .val (.ref a19), .val (.int v43), .val (.int v44), .val (.int z), .unset, .unset, .unset, .unset, .unset, .unset, .unset, .unset, .unset]) (fun _ => rfl) ?_
  intro v45 hv45
  refine Go.iloadN C at_48 (q := 49) rfl rfl ?_
  refine Go.bipush C (6 : Int32) at_49 (q := 51) rfl rfl ?_
  refine Go.iushr C at_51 (q := 52) rfl ?_
  refine Go.iconst C (3 : Int32) at_52 (q := 53) rfl rfl ?_
  refine Go.iand C at_53 (q := 54) rfl ?_
  refine Go.istore C at_54 (q := 56) rfl (fun z => #[.val (.int p0), .val (.int p1), .val (.ref a2), .val (.ref a19), .val (.int v43), .val (.int v44), .val (.int v45), .val (.int z), .unset, .unset, .unset, .unset, .unset, .unset, .unset, .unset]) (fun _ => rfl) ?_
  intro v46 hv46
  refine Go.iloadN C at_56 (q := 57) rfl rfl ?_
  refine Go.bipush C (8 : Int32) at_57 (q := 59) rfl rfl ?_
  refine Go.iushr C at_59 (q := 60) rfl ?_
  refine Go.iconst C (3 : Int32) at_60 (q := 61) rfl rfl ?_
  refine Go.iand C at_61 (q := 62) rfl ?_
  refine Go.istore C at_62 (q := 64) rfl (fun z => #[.val (.int p0), .val (.int p1), .val (.ref a2), .val (.ref a19), .val (.int v43), .val (.int v44), .val (.int v45), .val (.int v46), .val (.int z), .unset, .unset, .unset, .unset, .unset, .unset, .unset]) (fun _ => rfl) ?_
  intro v47 hv47
  refine Go.iloadN C at_64 (q := 65) rfl rfl ?_
  refine Go.bipush C (10 : Int32) at_65 (q := 67) rfl rfl ?_
  refine Go.iushr C at_67 (q := 68) rfl ?_
  refine Go.iconst C (3 : Int32) at_68 (q := 69) rfl rfl ?_
  refine Go.iand C at_69 (q := 70) rfl ?_
  refine Go.istore C at_70 (q := 72) rfl (fun z => #[.val (.int p0), .val (.int p1), .val (.ref a2), .val (.ref a19), .val (.int v43), .val (.int v44), .val (.int v45), .val (.int v46), .val (.int v47), .val (.int z), .unset, .unset, .unset, .unset, .unset, .unset]) (fun _ => rfl) ?_
  intro v48 hv48
  have F49 : Av Z h40 a19 .int 4 (iF (own_g 228)) := F42.congr (fun i hi => congrArg Value.int (by rcases own_c4 i hi with rfl | rfl | rfl | rfl <;> decide +kernel))
  obtain ⟨i50, k51, e52⟩ := own_m3 _ v43 hv43
  obtain ⟨i53, k54, e55⟩ := own_m3 _ v44 hv44
  obtain ⟨i56, k57, e58⟩ := own_m3 _ v45 hv45
  obtain ⟨i59, k60, e61⟩ := own_m3 _ v46 hv46
  obtain ⟨i62, k63, e64⟩ := own_m3 _ v47 hv47
  obtain ⟨i65, k66, e67⟩ := own_m3 _ v48 hv48
  refine Go.aloadN C at_72 (q := 73) rfl rfl rfl ?_
  refine Go.iload C at_73 (q := 75) rfl rfl ?_
  refine Go.iload C at_75 (q := 77) rfl rfl ?_
  have F68 := (Nat.le_trans (Nat.le_trans (Nat.le_trans (Nat.le_trans (Nat.le_trans F26 E22.1) (Nat.le_of_eq W32.size.symm)) (Nat.le_of_eq W35.size.symm)) (Nat.le_of_eq W38.size.symm)) (Nat.le_of_eq W41.size.symm))
  have F69 := (((((F29.ext E22).wr W32).wr W35).wr W38).wr W41)
  have F70 := (((((F15.ext E22).other W32 (Or.inl ne28)).other W35 (Or.inl ne28)).other W38 (Or.inl ne28)).other W41 (Or.inl ne28))
  have F71 := (((((F16.ext E22).other W32 ne30).other W35 ne30).other W38 ne30).other W41 ne30)
  refine Go.callV C F69 (hw _ (List.mem_of_getElem? (i := 12) rfl)) (hw _ (List.mem_of_getElem? (i := 13) rfl)) (notFace_of_selects (args := #[]) (mvT C.z (hw _ (List.mem_of_getElem? (i := 15) rfl)))) (hw _ (List.mem_of_getElem? (i := 15) rfl)) (hw _ (List.mem_of_getElem? (i := 14) rfl)) (hw _ (List.mem_of_getElem? (i := 2) rfl)) (hw _ (List.mem_of_getElem? (i := 16) rfl)) (c_link W.l Z a0 hw a2 v43 v44 h40 n0 a11 228 i50 i53 F68 F69 ne17 g13 I0.1 F70 F71 k51 k54 e52 e55) at_77 pd__40II_41V (q := 80) rfl rfl (argsL := [(.int v43), (.int v44)]) (st := []) rfl rfl (w := 0) rfl (by decide) (by decide) (k' := 3) rfl (n' := 9) rfl (by decide) (by decide) ?_
  intro v h72 q
  obtain ⟨rfl, K73, F74⟩ := q
  show Go W n0 QL h72 3 9 80 #[.val (.int p0), .val (.int p1), .val (.ref a2), .val (.ref a19), .val (.int v43), .val (.int v44), .val (.int v45), .val (.int v46), .val (.int v47), .val (.int v48), .unset, .unset, .unset, .unset, .unset, .unset] []
  refine Go.aloadN C at_80 (q := 81) rfl rfl rfl ?_
  refine Go.iload C at_81 (q := 83) rfl rfl ?_
  refine Go.iload C at_83 (q := 85) rfl rfl ?_
  have F75 := (Nat.le_trans F68 K73.1)
  have F76 := (F49.keep K73 (ninS (Ne.symm ne30) nin0))
  refine Go.callS C (hw _ (List.mem_of_getElem? (i := 22) rfl)) (hw _ (List.mem_of_getElem? (i := 23) rfl)) (hw _ (List.mem_of_getElem? (i := 24) rfl)) (hw _ (List.mem_of_getElem? (i := 25) rfl)) (c_join W.l Z a0 hw a19 v43 v44 h72 n0 228 i50 i53 F75 g27 F76 k51 k54 e52 e55) at_85 pd__40_91III_41V (q := 88) rfl rfl (argsL := [(.ref a19), (.int v43), (.int v44)]) (st := []) rfl rfl (w := 0) rfl (by decide) (by decide) (k' := 3) rfl (n' := 9) rfl (by decide) (by decide) ?_
  intro v h77 q
  obtain ⟨rfl, K78, F79⟩ := q
  have I80 := own_i1 I0 k51 k54
  show Go W n0 QL h77 3 9 88 #[.val (.int p0), .val (.int p1), .val (.ref a2), .val (.ref a19), .val (.int v43), .val (.int v44), .val (.int v45), .val (.int v46), .val (.int v47), .val (.int v48), .unset, .unset, .unset, .unset, .unset, .unset] []
  refine Go.aloadN C at_88 (q := 89) rfl rfl rfl ?_
  refine Go.iload C at_89 (q := 91) rfl rfl ?_
  refine Go.iload C at_91 (q := 93) rfl rfl ?_
  have F81 := (Nat.le_trans F75 K78.1)
  have F82 := ((F69.keep K73).keep K78)
  have F83 := ((F70.keep K73 (ninS ne17 nin0)).keep K78 (ninS ne28 nin0))
  have F84 := (F74.keep K78 (ninS ne30 nin0))
  refine Go.callV C F82 (hw _ (List.mem_of_getElem? (i := 12) rfl)) (hw _ (List.mem_of_getElem? (i := 13) rfl)) (notFace_of_selects (args := #[]) (mvT C.z (hw _ (List.mem_of_getElem? (i := 15) rfl)))) (hw _ (List.mem_of_getElem? (i := 15) rfl)) (hw _ (List.mem_of_getElem? (i := 14) rfl)) (hw _ (List.mem_of_getElem? (i := 2) rfl)) (hw _ (List.mem_of_getElem? (i := 16) rfl)) (c_link W.l Z a0 hw a2 v45 v46 h77 n0 a11 (own_link 228 i50 i53) i56 i59 F81 F82 ne17 g13 I80.1 F83 F84 k57 k60 e58 e61) at_93 pd__40II_41V (q := 96) rfl rfl (argsL := [(.int v45), (.int v46)]) (st := []) rfl rfl (w := 0) rfl (by decide) (by decide) (k' := 3) rfl (n' := 9) rfl (by decide) (by decide) ?_
  intro v h85 q
  obtain ⟨rfl, K86, F87⟩ := q
  show Go W n0 QL h85 3 9 96 #[.val (.int p0), .val (.int p1), .val (.ref a2), .val (.ref a19), .val (.int v43), .val (.int v44), .val (.int v45), .val (.int v46), .val (.int v47), .val (.int v48), .unset, .unset, .unset, .unset, .unset, .unset] []
  refine Go.aloadN C at_96 (q := 97) rfl rfl rfl ?_
  refine Go.iload C at_97 (q := 99) rfl rfl ?_
  refine Go.iload C at_99 (q := 101) rfl rfl ?_
  have F88 := (Nat.le_trans F81 K86.1)
  have F89 := (F79.keep K86 (ninS (Ne.symm ne30) nin0))
  refine Go.callS C (hw _ (List.mem_of_getElem? (i := 22) rfl)) (hw _ (List.mem_of_getElem? (i := 23) rfl)) (hw _ (List.mem_of_getElem? (i := 24) rfl)) (hw _ (List.mem_of_getElem? (i := 25) rfl)) (c_join W.l Z a0 hw a19 v45 v46 h85 n0 (own_join 228 i50 i53) i56 i59 F88 g27 F89 k57 k60 e58 e61) at_101 pd__40_91III_41V (q := 104) rfl rfl (argsL := [(.ref a19), (.int v45), (.int v46)]) (st := []) rfl rfl (w := 0) rfl (by decide) (by decide) (k' := 3) rfl (n' := 9) rfl (by decide) (by decide) ?_
  intro v h90 q
  obtain ⟨rfl, K91, F92⟩ := q
  have I93 := own_i1 I80 k57 k60
  show Go W n0 QL h90 3 9 104 #[.val (.int p0), .val (.int p1), .val (.ref a2), .val (.ref a19), .val (.int v43), .val (.int v44), .val (.int v45), .val (.int v46), .val (.int v47), .val (.int v48), .unset, .unset, .unset, .unset, .unset, .unset] []
  refine Go.aloadN C at_104 (q := 105) rfl rfl rfl ?_
  refine Go.iload C at_105 (q := 107) rfl rfl ?_
  refine Go.iload C at_107 (q := 109) rfl rfl ?_
  have F94 := (Nat.le_trans F88 K91.1)
  have F95 := ((F82.keep K86).keep K91)
  have F96 := ((F83.keep K86 (ninS ne17 nin0)).keep K91 (ninS ne28 nin0))
  have F97 := (F87.keep K91 (ninS ne30 nin0))
  refine Go.callV C F95 (hw _ (List.mem_of_getElem? (i := 12) rfl)) (hw _ (List.mem_of_getElem? (i := 13) rfl)) (notFace_of_selects (args := #[]) (mvT C.z (hw _ (List.mem_of_getElem? (i := 15) rfl)))) (hw _ (List.mem_of_getElem? (i := 15) rfl)) (hw _ (List.mem_of_getElem? (i := 14) rfl)) (hw _ (List.mem_of_getElem? (i := 2) rfl)) (hw _ (List.mem_of_getElem? (i := 16) rfl)) (c_link W.l Z a0 hw a2 v47 v48 h90 n0 a11 (own_link (own_link 228 i50 i53) i56 i59) i62 i65 F94 F95 ne17 g13 I93.1 F96 F97 k63 k66 e64 e67) at_109 pd__40II_41V (q := 112) rfl rfl (argsL := [(.int v47), (.int v48)]) (st := []) rfl rfl (w := 0) rfl (by decide) (by decide) (k' := 3) rfl (n' := 9) rfl (by decide) (by decide) ?_
  intro v h98 q
  obtain ⟨rfl, K99, F100⟩ := q
  show Go W n0 QL h98 3 9 112 #[.val (.int p0), .val (.int p1), .val (.ref a2), .val (.ref a19), .val (.int v43), .val (.int v44), .val (.int v45), .val (.int v46), .val (.int v47), .val (.int v48), .unset, .unset, .unset, .unset, .unset, .unset] []
  refine Go.aloadN C at_112 (q := 113) rfl rfl rfl ?_
  refine Go.iload C at_113 (q := 115) rfl rfl ?_
  refine Go.iload C at_115 (q := 117) rfl rfl ?_
  have F101 := (Nat.le_trans F94 K99.1)
  have F102 := (F92.keep K99 (ninS (Ne.symm ne30) nin0))
  refine Go.callS C (hw _ (List.mem_of_getElem? (i := 22) rfl)) (hw _ (List.mem_of_getElem? (i := 23) rfl)) (hw _ (List.mem_of_getElem? (i := 24) rfl)) (hw _ (List.mem_of_getElem? (i := 25) rfl)) (c_join W.l Z a0 hw a19 v47 v48 h98 n0 (own_join (own_join 228 i50 i53) i56 i59) i62 i65 F101 g27 F102 k63 k66 e64 e67) at_117 pd__40_91III_41V (q := 120) rfl rfl (argsL := [(.ref a19), (.int v47), (.int v48)]) (st := []) rfl rfl (w := 0) rfl (by decide) (by decide) (k' := 3) rfl (n' := 9) rfl (by decide) (by decide) ?_
  intro v h103 q
  obtain ⟨rfl, K104, F105⟩ := q
  have I106 := own_i1 I93 k63 k66
  show Go W n0 QL h103 3 9 120 #[.val (.int p0), .val (.int p1), .val (.ref a2), .val (.ref a19), .val (.int v43), .val (.int v44), .val (.int v45), .val (.int v46), .val (.int v47), .val (.int v48), .unset, .unset, .unset, .unset, .unset, .unset] []
  refine Go.iloadN C at_120 (q := 121) rfl rfl ?_
  refine Go.iconst C (3 : Int32) at_121 (q := 122) rfl rfl ?_
  refine Go.iand C at_122 (q := 123) rfl ?_
  refine Go.istore C at_123 (q := 125) rfl (fun z => #[.val (.int p0), .val (.int p1), .val (.ref a2), .val (.ref a19), .val (.int v43), .val (.int v44), .val (.int v45), .val (.int v46), .val (.int v47), .val (.int v48), .val (.int z), .unset, .unset, .unset, .unset, .unset]) (fun _ => rfl) ?_
  intro v107 hv107
  refine Go.iloadN C at_125 (q := 126) rfl rfl ?_
  refine Go.iconst C (2 : Int32) at_126 (q := 127) rfl rfl ?_
  refine Go.iushr C at_127 (q := 128) rfl ?_
  refine Go.iconst C (3 : Int32) at_128 (q := 129) rfl rfl ?_
  refine Go.iand C at_129 (q := 130) rfl ?_
  refine Go.istore C at_130 (q := 132) rfl (fun z => #[.val (.int p0), .val (.int p1), .val (.ref a2), .val (.ref a19), .val (.int v43), .val (.int v44), .val (.int v45), .val (.int v46), .val (.int v47), .val (.int v48), .val (.int v107), .val (.int z), .unset, .unset, .unset, .unset]) (fun _ => rfl) ?_
  intro v108 hv108
  refine Go.iloadN C at_132 (q := 133) rfl rfl ?_
  refine Go.iconst C (4 : Int32) at_133 (q := 134) rfl rfl ?_
  refine Go.iushr C at_134 (q := 135) rfl ?_
  refine Go.iconst C (3 : Int32) at_135 (q := 136) rfl rfl ?_
  refine Go.iand C at_136 (q := 137) rfl ?_
  refine Go.istore C at_137 (q := 139) rfl (fun z => #[.val (.int p0), .val (.int p1), .val (.ref a2), .val (.ref a19), .val (.int v43), .val (.int v44), .val (.int v45), .val (.int v46), .val (.int v47), .val (.int v48), .val (.int v107), .val (.int v108), .val (.int z), .unset, .unset, .unset]) (fun _ => rfl) ?_
  intro v109 hv109
  refine Go.iloadN C at_139 (q := 140) rfl rfl ?_
  refine Go.bipush C (6 : Int32) at_140 (q := 142) rfl rfl ?_
  refine Go.iushr C at_142 (q := 143) rfl ?_
  refine Go.iconst C (3 : Int32) at_143 (q := 144) rfl rfl ?_
  refine Go.iand C at_144 (q := 145) rfl ?_
  refine Go.istore C at_145 (q := 147) rfl (fun z => #[.val (.int p0), .val (.int p1), .val (.ref a2), .val (.ref a19), .val (.int v43), .val (.int v44), .val (.int v45), .val (.int v46), .val (.int v47), .val (.int v48), .val (.int v107), .val (.int v108), .val (.int v109), .val (.int z), .unset, .unset]) (fun _ => rfl) ?_
  intro v110 hv110
  refine Go.iloadN C at_147 (q := 148) rfl rfl ?_
  refine Go.bipush C (8 : Int32) at_148 (q := 150) rfl rfl ?_
  refine Go.iushr C at_150 (q := 151) rfl ?_
  refine Go.iconst C (3 : Int32) at_151 (q := 152) rfl rfl ?_
  refine Go.iand C at_152 (q := 153) rfl ?_
  refine Go.istore C at_153 (q := 155) rfl (fun z => #[.val (.int p0), .val (.int p1), .val (.ref a2), .val (.ref a19), .val (.int v43), .val (.int v44), .val (.int v45), .val (.int v46), .val (.int v47), .val (.int v48), .val (.int v107), .val (.int v108), .val (.int v109), .val (.int v110), .val (.int z), .unset]) (fun _ => rfl) ?_
  intro v111 hv111
  obtain ⟨i112, k113, e114⟩ := own_m3 _ v107 hv107
  obtain ⟨i115, k116, e117⟩ := own_m3 _ v108 hv108
  obtain ⟨i118, k119, e120⟩ := own_m3 _ v109 hv109
  obtain ⟨i121, k122, e123⟩ := own_m3 _ v110 hv110
  obtain ⟨i124, k125, e126⟩ := own_m3 _ v111 hv111
  refine Go.aloadN C at_155 (q := 156) rfl rfl rfl ?_
  refine Go.iload C at_156 (q := 158) rfl rfl ?_
  have F127 := (Nat.le_trans F101 K104.1)
  have F128 := ((F96.keep K99 (ninS ne17 nin0)).keep K104 (ninS ne28 nin0))
  have F129 := (F100.keep K104 (ninS ne30 nin0))
  have F130 := ((F95.keep K99).keep K104)
  refine Go.callV C F130 (hw _ (List.mem_of_getElem? (i := 26) rfl)) (hw _ (List.mem_of_getElem? (i := 18) rfl)) (notFace_of_selects (args := #[]) (mvT C.z (hw _ (List.mem_of_getElem? (i := 20) rfl)))) (hw _ (List.mem_of_getElem? (i := 20) rfl)) (hw _ (List.mem_of_getElem? (i := 19) rfl)) (hw _ (List.mem_of_getElem? (i := 2) rfl)) (hw _ (List.mem_of_getElem? (i := 21) rfl)) (c_root W.l Z a0 hw a2 v107 h103 n0 a11 (own_link (own_link (own_link 228 i50 i53) i56 i59) i62 i65) i112 F127 ne17 g13 I106.1 F128 F129 k113 e114) at_158 pd__40I_41I (q := 161) rfl rfl (argsL := [(.int v107)]) (st := []) rfl rfl (w := 0) rfl (by decide) (by decide) (k' := 3) rfl (n' := 9) rfl (by decide) (by decide) ?_
  intro v h131 q
  obtain ⟨rfl, K132, F133⟩ := q
  have e134 := own_i3 I106 k113
  have I135 := own_i2 I106 k113
  show Go W n0 QL h131 3 9 161 #[.val (.int p0), .val (.int p1), .val (.ref a2), .val (.ref a19), .val (.int v43), .val (.int v44), .val (.int v45), .val (.int v46), .val (.int v47), .val (.int v48), .val (.int v107), .val (.int v108), .val (.int v109), .val (.int v110), .val (.int v111), .unset] [(.int (Int32.ofNat (own_rt (own_link (own_link (own_link 228 i50 i53) i56 i59) i62 i65) i112)))]
  refine Go.aloadN C at_161 (q := 162) rfl rfl rfl ?_
  refine Go.iload C at_162 (q := 164) rfl rfl ?_
  have F136 := (F105.keep K132 (ninS (Ne.symm ne30) nin0))
  refine Go.iaload C F136 i112 (v := (.int (own_g (own_join (own_join (own_join 228 i50 i53) i56 i59) i62 i65) i112))) (by rw [e114]; exact (own_oi _ k113).1) (by rw [e114]; exact (own_oi _ k113).2) k113 rfl at_164 (q := 165) rfl ?_
  refine Go.icmp C at_165 (n_ne _ _) (qt := 172) (q := 168) (by decide) (by decide) rfl (fun b137 => absurd e134 b137) (fun _ => ?_)
  refine Go.iconst C (1 : Int32) at_168 (q := 169) rfl rfl ?_
  refine Go.goto C at_169 (q := 173) (by decide) (by decide) ?_
  refine Go.istoreR C at_173 (q := 175) rfl (l' := #[.val (.int p0), .val (.int p1), .val (.ref a2), .val (.ref a19), .val (.int v43), .val (.int v44), .val (.int v45), .val (.int v46), .val (.int v47), .val (.int v48), .val (.int v107), .val (.int v108), .val (.int v109), .val (.int v110), .val (.int v111), .val (.int (1 : Int32))]) rfl ?_
  refine Go.iload C at_175 (q := 177) rfl rfl ?_
  refine Go.aloadN C at_177 (q := 178) rfl rfl rfl ?_
  refine Go.iload C at_178 (q := 180) rfl rfl ?_
  have F138 := (Nat.le_trans F127 K132.1)
  have F139 := (F128.keep K132 (ninS ne17 nin0))
  have F140 := (F130.keep K132)
  refine Go.callV C F140 (hw _ (List.mem_of_getElem? (i := 26) rfl)) (hw _ (List.mem_of_getElem? (i := 18) rfl)) (notFace_of_selects (args := #[]) (mvT C.z (hw _ (List.mem_of_getElem? (i := 20) rfl)))) (hw _ (List.mem_of_getElem? (i := 20) rfl)) (hw _ (List.mem_of_getElem? (i := 19) rfl)) (hw _ (List.mem_of_getElem? (i := 2) rfl)) (hw _ (List.mem_of_getElem? (i := 21) rfl)) (c_root W.l Z a0 hw a2 v108 h131 n0 a11 (own_cp (own_link (own_link (own_link 228 i50 i53) i56 i59) i62 i65) i112) i115 F138 ne17 g13 I135.1 F139 F133 k116 e117) at_180 pd__40I_41I (q := 183) rfl rfl (argsL := [(.int v108)]) (st := [(.int (1 : Int32))]) rfl rfl (w := 1) rfl (by decide) (by decide) (k' := 3) rfl (n' := 9) rfl (by decide) (by decide) ?_
  intro v h141 q
  obtain ⟨rfl, K142, F143⟩ := q
  have e144 := own_i3 I135 k116
  have I145 := own_i2 I135 k116
  show Go W n0 QL h141 3 9 183 #[.val (.int p0), .val (.int p1), .val (.ref a2), .val (.ref a19), .val (.int v43), .val (.int v44), .val (.int v45), .val (.int v46), .val (.int v47), .val (.int v48), .val (.int v107), .val (.int v108), .val (.int v109), .val (.int v110), .val (.int v111), .val (.int (1 : Int32))] [(.int (Int32.ofNat (own_rt (own_cp (own_link (own_link (own_link 228 i50 i53) i56 i59) i62 i65) i112) i115))), (.int (1 : Int32))]
  refine Go.aloadN C at_183 (q := 184) rfl rfl rfl ?_
  refine Go.iload C at_184 (q := 186) rfl rfl ?_
  have F146 := (F136.keep K142 (ninS (Ne.symm ne30) nin0))
  refine Go.iaload C F146 i115 (v := (.int (own_g (own_join (own_join (own_join 228 i50 i53) i56 i59) i62 i65) i115))) (by rw [e117]; exact (own_oi _ k116).1) (by rw [e117]; exact (own_oi _ k116).2) k116 rfl at_186 (q := 187) rfl ?_
  refine Go.icmp C at_187 (n_ne _ _) (qt := 194) (q := 190) (by decide) (by decide) rfl (fun b147 => absurd e144 b147) (fun _ => ?_)
  refine Go.iconst C (1 : Int32) at_190 (q := 191) rfl rfl ?_
  refine Go.goto C at_191 (q := 195) (by decide) (by decide) ?_
  refine Go.iand C at_195 (q := 196) rfl ?_
  refine Go.istoreR C at_196 (q := 198) rfl (l' := #[.val (.int p0), .val (.int p1), .val (.ref a2), .val (.ref a19), .val (.int v43), .val (.int v44), .val (.int v45), .val (.int v46), .val (.int v47), .val (.int v48), .val (.int v107), .val (.int v108), .val (.int v109), .val (.int v110), .val (.int v111), .val (.int (1 : Int32))]) rfl ?_
  refine Go.iload C at_198 (q := 200) rfl rfl ?_
  refine Go.aloadN C at_200 (q := 201) rfl rfl rfl ?_
  refine Go.iload C at_201 (q := 203) rfl rfl ?_
  have F148 := (Nat.le_trans F138 K142.1)
  have F149 := (F139.keep K142 (ninS ne17 nin0))
  have F150 := (F140.keep K142)
  refine Go.callV C F150 (hw _ (List.mem_of_getElem? (i := 26) rfl)) (hw _ (List.mem_of_getElem? (i := 18) rfl)) (notFace_of_selects (args := #[]) (mvT C.z (hw _ (List.mem_of_getElem? (i := 20) rfl)))) (hw _ (List.mem_of_getElem? (i := 20) rfl)) (hw _ (List.mem_of_getElem? (i := 19) rfl)) (hw _ (List.mem_of_getElem? (i := 2) rfl)) (hw _ (List.mem_of_getElem? (i := 21) rfl)) (c_root W.l Z a0 hw a2 v109 h141 n0 a11 (own_cp (own_cp (own_link (own_link (own_link 228 i50 i53) i56 i59) i62 i65) i112) i115) i118 F148 ne17 g13 I145.1 F149 F143 k119 e120) at_203 pd__40I_41I (q := 206) rfl rfl (argsL := [(.int v109)]) (st := [(.int (1 : Int32))]) rfl rfl (w := 1) rfl (by decide) (by decide) (k' := 3) rfl (n' := 9) rfl (by decide) (by decide) ?_
  intro v h151 q
  obtain ⟨rfl, K152, F153⟩ := q
  have e154 := own_i3 I145 k119
  have I155 := own_i2 I145 k119
  show Go W n0 QL h151 3 9 206 #[.val (.int p0), .val (.int p1), .val (.ref a2), .val (.ref a19), .val (.int v43), .val (.int v44), .val (.int v45), .val (.int v46), .val (.int v47), .val (.int v48), .val (.int v107), .val (.int v108), .val (.int v109), .val (.int v110), .val (.int v111), .val (.int (1 : Int32))] [(.int (Int32.ofNat (own_rt (own_cp (own_cp (own_link (own_link (own_link 228 i50 i53) i56 i59) i62 i65) i112) i115) i118))), (.int (1 : Int32))]
  refine Go.aloadN C at_206 (q := 207) rfl rfl rfl ?_
  refine Go.iload C at_207 (q := 209) rfl rfl ?_
  have F156 := (F146.keep K152 (ninS (Ne.symm ne30) nin0))
  refine Go.iaload C F156 i118 (v := (.int (own_g (own_join (own_join (own_join 228 i50 i53) i56 i59) i62 i65) i118))) (by rw [e120]; exact (own_oi _ k119).1) (by rw [e120]; exact (own_oi _ k119).2) k119 rfl at_209 (q := 210) rfl ?_
  refine Go.icmp C at_210 (n_ne _ _) (qt := 217) (q := 213) (by decide) (by decide) rfl (fun b157 => absurd e154 b157) (fun _ => ?_)
  refine Go.iconst C (1 : Int32) at_213 (q := 214) rfl rfl ?_
  refine Go.goto C at_214 (q := 218) (by decide) (by decide) ?_
  refine Go.iand C at_218 (q := 219) rfl ?_
  refine Go.istoreR C at_219 (q := 221) rfl (l' := #[.val (.int p0), .val (.int p1), .val (.ref a2), .val (.ref a19), .val (.int v43), .val (.int v44), .val (.int v45), .val (.int v46), .val (.int v47), .val (.int v48), .val (.int v107), .val (.int v108), .val (.int v109), .val (.int v110), .val (.int v111), .val (.int (1 : Int32))]) rfl ?_
  refine Go.iload C at_221 (q := 223) rfl rfl ?_
  refine Go.aloadN C at_223 (q := 224) rfl rfl rfl ?_
  refine Go.iload C at_224 (q := 226) rfl rfl ?_
  have F158 := (Nat.le_trans F148 K152.1)
  have F159 := (F149.keep K152 (ninS ne17 nin0))
  have F160 := (F150.keep K152)
  refine Go.callV C F160 (hw _ (List.mem_of_getElem? (i := 26) rfl)) (hw _ (List.mem_of_getElem? (i := 18) rfl)) (notFace_of_selects (args := #[]) (mvT C.z (hw _ (List.mem_of_getElem? (i := 20) rfl)))) (hw _ (List.mem_of_getElem? (i := 20) rfl)) (hw _ (List.mem_of_getElem? (i := 19) rfl)) (hw _ (List.mem_of_getElem? (i := 2) rfl)) (hw _ (List.mem_of_getElem? (i := 21) rfl)) (c_root W.l Z a0 hw a2 v110 h151 n0 a11 (own_cp (own_cp (own_cp (own_link (own_link (own_link 228 i50 i53) i56 i59) i62 i65) i112) i115) i118) i121 F158 ne17 g13 I155.1 F159 F153 k122 e123) at_226 pd__40I_41I (q := 229) rfl rfl (argsL := [(.int v110)]) (st := [(.int (1 : Int32))]) rfl rfl (w := 1) rfl (by decide) (by decide) (k' := 3) rfl (n' := 9) rfl (by decide) (by decide) ?_
  intro v h161 q
  obtain ⟨rfl, K162, F163⟩ := q
  have e164 := own_i3 I155 k122
  have I165 := own_i2 I155 k122
  show Go W n0 QL h161 3 9 229 #[.val (.int p0), .val (.int p1), .val (.ref a2), .val (.ref a19), .val (.int v43), .val (.int v44), .val (.int v45), .val (.int v46), .val (.int v47), .val (.int v48), .val (.int v107), .val (.int v108), .val (.int v109), .val (.int v110), .val (.int v111), .val (.int (1 : Int32))] [(.int (Int32.ofNat (own_rt (own_cp (own_cp (own_cp (own_link (own_link (own_link 228 i50 i53) i56 i59) i62 i65) i112) i115) i118) i121))), (.int (1 : Int32))]
  refine Go.aloadN C at_229 (q := 230) rfl rfl rfl ?_
  refine Go.iload C at_230 (q := 232) rfl rfl ?_
  have F166 := (F156.keep K162 (ninS (Ne.symm ne30) nin0))
  refine Go.iaload C F166 i121 (v := (.int (own_g (own_join (own_join (own_join 228 i50 i53) i56 i59) i62 i65) i121))) (by rw [e123]; exact (own_oi _ k122).1) (by rw [e123]; exact (own_oi _ k122).2) k122 rfl at_232 (q := 233) rfl ?_
  refine Go.icmp C at_233 (n_ne _ _) (qt := 240) (q := 236) (by decide) (by decide) rfl (fun b167 => absurd e164 b167) (fun _ => ?_)
  refine Go.iconst C (1 : Int32) at_236 (q := 237) rfl rfl ?_
  refine Go.goto C at_237 (q := 241) (by decide) (by decide) ?_
  refine Go.iand C at_241 (q := 242) rfl ?_
  refine Go.istoreR C at_242 (q := 244) rfl (l' := #[.val (.int p0), .val (.int p1), .val (.ref a2), .val (.ref a19), .val (.int v43), .val (.int v44), .val (.int v45), .val (.int v46), .val (.int v47), .val (.int v48), .val (.int v107), .val (.int v108), .val (.int v109), .val (.int v110), .val (.int v111), .val (.int (1 : Int32))]) rfl ?_
  refine Go.iload C at_244 (q := 246) rfl rfl ?_
  refine Go.aloadN C at_246 (q := 247) rfl rfl rfl ?_
  refine Go.iload C at_247 (q := 249) rfl rfl ?_
  have F168 := (Nat.le_trans F158 K162.1)
  have F169 := (F159.keep K162 (ninS ne17 nin0))
  have F170 := (F160.keep K162)
  refine Go.callV C F170 (hw _ (List.mem_of_getElem? (i := 26) rfl)) (hw _ (List.mem_of_getElem? (i := 18) rfl)) (notFace_of_selects (args := #[]) (mvT C.z (hw _ (List.mem_of_getElem? (i := 20) rfl)))) (hw _ (List.mem_of_getElem? (i := 20) rfl)) (hw _ (List.mem_of_getElem? (i := 19) rfl)) (hw _ (List.mem_of_getElem? (i := 2) rfl)) (hw _ (List.mem_of_getElem? (i := 21) rfl)) (c_root W.l Z a0 hw a2 v111 h161 n0 a11 (own_cp (own_cp (own_cp (own_cp (own_link (own_link (own_link 228 i50 i53) i56 i59) i62 i65) i112) i115) i118) i121) i124 F168 ne17 g13 I165.1 F169 F163 k125 e126) at_249 pd__40I_41I (q := 252) rfl rfl (argsL := [(.int v111)]) (st := [(.int (1 : Int32))]) rfl rfl (w := 1) rfl (by decide) (by decide) (k' := 3) rfl (n' := 9) rfl (by decide) (by decide) ?_
  intro v h171 q
  obtain ⟨rfl, K172, F173⟩ := q
  have e174 := own_i3 I165 k125
  have I175 := own_i2 I165 k125
  show Go W n0 QL h171 3 9 252 #[.val (.int p0), .val (.int p1), .val (.ref a2), .val (.ref a19), .val (.int v43), .val (.int v44), .val (.int v45), .val (.int v46), .val (.int v47), .val (.int v48), .val (.int v107), .val (.int v108), .val (.int v109), .val (.int v110), .val (.int v111), .val (.int (1 : Int32))] [(.int (Int32.ofNat (own_rt (own_cp (own_cp (own_cp (own_cp (own_link (own_link (own_link 228 i50 i53) i56 i59) i62 i65) i112) i115) i118) i121) i124))), (.int (1 : Int32))]
  refine Go.aloadN C at_252 (q := 253) rfl rfl rfl ?_
  refine Go.iload C at_253 (q := 255) rfl rfl ?_
  have F176 := (F166.keep K172 (ninS (Ne.symm ne30) nin0))
  refine Go.iaload C F176 i124 (v := (.int (own_g (own_join (own_join (own_join 228 i50 i53) i56 i59) i62 i65) i124))) (by rw [e126]; exact (own_oi _ k125).1) (by rw [e126]; exact (own_oi _ k125).2) k125 rfl at_255 (q := 256) rfl ?_
  refine Go.icmp C at_256 (n_ne _ _) (qt := 263) (q := 259) (by decide) (by decide) rfl (fun b177 => absurd e174 b177) (fun _ => ?_)
  refine Go.iconst C (1 : Int32) at_259 (q := 260) rfl rfl ?_
  refine Go.goto C at_260 (q := 264) (by decide) (by decide) ?_
  refine Go.iand C at_264 (q := 265) rfl ?_
  refine Go.istoreR C at_265 (q := 267) rfl (l' := #[.val (.int p0), .val (.int p1), .val (.ref a2), .val (.ref a19), .val (.int v43), .val (.int v44), .val (.int v45), .val (.int v46), .val (.int v47), .val (.int v48), .val (.int v107), .val (.int v108), .val (.int v109), .val (.int v110), .val (.int v111), .val (.int (1 : Int32))]) rfl ?_
  refine Go.iload C at_267 (q := 269) rfl rfl ?_
  exact Go.retZ (t := .boolean) (by simp) C at_269 (by decide) (by decide) (show some (Value.int _) = some (.int 1) from rfl)
set_option maxRecDepth 65536 in
set_option maxHeartbeats 4000000 in
theorem comes_1 {Post : Tables → Env → Array Value → State → Outcome → State → Prop} (hpost : ∀ tb e args s v u, (limb_1_1.after args s (.returned v) u = true ∧ limb_1_2.after args s (.returned v) u = true ∧ True) → FrameEnd s (.returned v) u (Jvm.fieldLocs frame_1_writes args s ++ Jvm.arrayLocs frame_1_arrays args s ++ Jvm.staticLocs frame_1_statics s) 16 128 → Post tb e args s (.returned v) u) :
    ArmFor flags0 classFile x code maxLocals ret World_1 tables_1 room_1 Calls_1 rest_1 Pre_1 Post := by
  intro l hfl _ _ p e ha hc hk s m args below hf hA hF happ hP
  obtain ⟨hcalls, hrest, hpre⟩ := hP
  obtain ⟨-, -, -, hnamed, -, -, -, hat⟩ := (Spec.applies_iff hf).mp happ
  obtain ⟨hg, hn⟩ := and_e (Cond.before_iff.mp (show (Jvm.Cond.and given_1 narrow_1).before args s = true from hpre))
  obtain ⟨hcount, hg0⟩ := and_e hg
  obtain ⟨ha0, hg1⟩ := and_e hg0
  have ha1 := hg1
  obtain ⟨w0, w1, rfl⟩ : ∃ w0 w1 : Value, args = #[w0, w1] := by
    have hs : args.size = 2 := by simpa [Cond.value, given_1] using hcount
    obtain ⟨L⟩ := args
    match L, hs with
    | [w0, w1], _ => exact ⟨w0, w1, rfl⟩
  have hw := fun d (hd : d ∈ tables_1) => atoms_spec (ws := Jvm.Cond.code x code maxLocals ret :: tables_1) hat d (List.mem_cons_of_mem _ hd)
  obtain ⟨i0, ei0⟩ := is_v ha0
  obtain rfl : w0 = (.int i0) := Option.some.inj ei0
  obtain ⟨i1, ei1⟩ := is_v ha1
  obtain rfl : w1 = (.int i1) := Option.some.inj ei1
  obtain ⟨n, o, h1, h2, h3, _, L, rfl, ⟨N, rfl⟩, hq⟩ := rm0 l s _ hw i0 i1 s.heap s.heap.size (Nat.le_refl _)  p e ha hc hk s m _ below hf ((Spec.applies_iff_loose hf).mp happ).1 ⟨rfl, State.Warmed39.refl s, rfl⟩ trivial
  refine ⟨n, _, h1, h2, h3, hpost _ _ _ _ _ _ ⟨Cond.after_iff.mpr rfl, Cond.after_iff.mpr (eq_i res_at (Term.int_eval (1)) rfl), trivial⟩ ⟨hq.1, hq.2.1, (hq.2.2.sift fun y hy => Or.inr (N y hy)).mono (by decide) (by decide)⟩⟩
theorem main_1_1 : Claimed_1_1 := comes_1 fun _ _ _ _ _ _ h hF => ⟨h.1, hF⟩
theorem main_1_2 : Claimed_1_2 := comes_1 fun _ _ _ _ _ _ h hF => ⟨h.2.1, hF⟩
end Jvm.Pilot.@@N@@
namespace Jvm.Pilot.@@N@@
open Jvm Jvm.ClassFile Sem Op Lib Jvm.Free Jvm.Stand Jvm.Pilot.@@N@@.Jvm.D
/-! MADE BY PROGRAM (witnessworld.py) out of the Statement's table words and the real class files: 9 classes; the members and pool entries that the words name. The judged class is class 1, her method 2. -/
namespace start1
open Jvm.ClassFile
def u (s : String) : CpInfo := .utf8 (stringToUtf16 s)
/-- a pool by its gaps: so many unusable entries, then the entry; so many at the end -/
def gap : Nat → List CpInfo → List CpInfo
  | 0, r => r
  | n + 1, r => .unusable :: gap n r
def poolList (es : List (Nat × CpInfo)) (last : Nat) : List CpInfo := es.foldr (fun e r => gap e.1 (e.2 :: r)) (gap last [])
def pool (es : List (Nat × CpInfo)) (last : Nat) : Array CpInfo := ⟨poolList es last⟩
def fileOf (pool : Array CpInfo) (this : Nat) (attrs : Array Attribute := #[]) (ms : Array MethodInfo := #[]) (fl : Nat := 33) (sup : Nat := 0) (ifs : Array Nat := #[]) (fds : Array FieldInfo := #[]) : ClassFile where
  minorVersion := 0
  majorVersion := 65
  constantPool := pool
  accessFlags := fl
  thisClass := this
  superClass := sup
  interfaces := ifs
  fields := fds
  methods := ms
  attributes := attrs
def plain (name : String) (sup : Option ClassId) : Class where
  name := name
  kind := .ordinary
  loader := none
  accessFlags := 33
  super := sup
  interfaces := #[]
  cf := none
  fields := #[]
  methods := #[]
  instanceTypes := #[]
  staticTypes := #[]
  resolved := #[]
  callSites := []
  init := .initialized
  statics := none
  mirror := none

def pool0 : Array CpInfo := pool [(5, u "<init>"), (0, u "()V"), (1, .class_ 10), (1, u "java/lang/Object")] 113

def k0c0 : Code := { maxStack := 0, maxLocals := 1, code := object_method_1_code, exceptionTable := #[], attributes := #[] }
def k0m0 : Method := { name := "<init>", desc := "()V", sig := { parameters := [], returnType := none }, accessFlags := 1, code := some k0c0 }
/-- java/lang/Object -/
def k0 : Class := { plain "java/lang/Object" none with
  accessFlags := 33
  interfaces := #[]
  cf := some (fileOf pool0 8 #[] #[{ accessFlags := 1, nameIndex := 5, descriptorIndex := 6, attributes := #[] }] 33 0 #[] #[])
  fields := #[]
  methods := #[k0m0]
  instanceTypes := #[]
  staticTypes := #[]
  resolved := Array.replicate 124 none
  statics := none }

def pool1 : Array CpInfo := pool [(2, .class_ 4), (1, u "java/lang/Object"), (0, u "<init>"), (0, u "()V"), (0, .class_ 8), (0, u "com/example/tolerant_query/tolerantquery/UnionFind"), (0, .methodref 7 10), (0, .nameAndType 5 11), (0, u "(I)V"), (0, .methodref 7 13), (0, .nameAndType 14 15), (0, u "link"), (0, u "(II)V"), (0, .methodref 17 18), (0, .class_ 19), (0, .nameAndType 20 21), (0, u "com/example/tolerant_query/tolerantquery/UnionFindRootPinLaw"), (0, u "join"), (0, u "([III)V"), (0, .methodref 7 23), (0, .nameAndType 24 25), (0, u "root"), (0, u "(I)I"), (3, u "law"), (0, u "(II)Z")] 4

def k1m0 : Method := { name := "<init>", desc := "()V", sig := { parameters := [], returnType := none }, accessFlags := 1, code := none }
def k1c1 : Code := { maxStack := 3, maxLocals := 5, code := method_2_code, exceptionTable := #[], attributes := #[] }
def k1m1 : Method := { name := "join", desc := "([III)V", sig := { parameters := [(.array .int), .int, .int], returnType := none }, accessFlags := 10, code := some k1c1 }
def k1c2 : Code := { maxStack := 4, maxLocals := 16, code := code, exceptionTable := #[], attributes := #[] }
def k1m2 : Method := { name := "law", desc := "(II)Z", sig := { parameters := [.int, .int], returnType := some .boolean }, accessFlags := 9, code := some k1c2 }
/-- com/example/tolerant_query/tolerantquery/UnionFindRootPinLaw -/
def k1 : Class := { plain "com/example/tolerant_query/tolerantquery/UnionFindRootPinLaw" (some 0) with
  accessFlags := 49
  interfaces := #[]
  cf := some (fileOf pool1 17 #[] #[{ accessFlags := 1, nameIndex := 5, descriptorIndex := 6, attributes := #[] }, { accessFlags := 10, nameIndex := 20, descriptorIndex := 21, attributes := #[] }, { accessFlags := 9, nameIndex := 29, descriptorIndex := 30, attributes := #[] }] 49 2 #[] #[])
  fields := #[]
  methods := #[k1m0, k1m1, k1m2]
  instanceTypes := #[]
  staticTypes := #[]
  resolved := Array.replicate 35 none
  statics := none }

def pool2 : Array CpInfo := pool [(1, .methodref 2 3), (0, .class_ 4), (0, .nameAndType 5 6), (0, u "java/lang/Object"), (0, u "<init>"), (0, u "()V"), (0, .fieldref 8 9), (0, .class_ 10), (0, .nameAndType 11 12), (0, u "com/example/tolerant_query/tolerantquery/UnionFind"), (0, u "parent"), (0, u "[I"), (0, .methodref 8 14), (0, .nameAndType 15 16), (0, u "root"), (0, u "(I)I"), (0, u "(I)V"), (3, u "link"), (0, u "(II)V")] 2

def k2c0 : Code := { maxStack := 3, maxLocals := 3, code := prog_20_method_1_code, exceptionTable := #[], attributes := #[] }
def k2m0 : Method := { name := "<init>", desc := "(I)V", sig := { parameters := [.int], returnType := none }, accessFlags := 0, code := some k2c0 }
def k2c1 : Code := { maxStack := 4, maxLocals := 3, code := prog_20_method_2_code, exceptionTable := #[], attributes := #[] }
def k2m1 : Method := { name := "link", desc := "(II)V", sig := { parameters := [.int, .int], returnType := none }, accessFlags := 0, code := some k2c1 }
def k2c2 : Code := { maxStack := 3, maxLocals := 5, code := prog_20_method_3_code, exceptionTable := #[], attributes := #[] }
def k2m2 : Method := { name := "root", desc := "(I)I", sig := { parameters := [.int], returnType := some .int }, accessFlags := 0, code := some k2c2 }
/-- com/example/tolerant_query/tolerantquery/UnionFind -/
def k2 : Class := { plain "com/example/tolerant_query/tolerantquery/UnionFind" (some 0) with
  accessFlags := 48
  interfaces := #[]
  cf := some (fileOf pool2 8 #[] #[{ accessFlags := 0, nameIndex := 5, descriptorIndex := 17, attributes := #[] }, { accessFlags := 0, nameIndex := 21, descriptorIndex := 22, attributes := #[] }, { accessFlags := 0, nameIndex := 15, descriptorIndex := 16, attributes := #[] }] 48 2 #[] #[{ accessFlags := 18, nameIndex := 11, descriptorIndex := 12, attributes := #[] }])
  fields := #[{ name := "parent", type := (.array .int), accessFlags := 18, slot := 0, constantValue := 0 }]
  methods := #[k2m0, k2m1, k2m2]
  instanceTypes := #[(.array .int)]
  staticTypes := #[]
  resolved := Array.replicate 25 none
  statics := none }

def pool3 : Array CpInfo := pool [(1, u "java/lang/Cloneable"), (0, .class_ 1), (0, u "java/lang/Object"), (0, .class_ 3)] 3

/-- java/lang/Cloneable -/
def k3 : Class := { plain "java/lang/Cloneable" (some 0) with
  accessFlags := 1537
  interfaces := #[]
  cf := some (fileOf pool3 2 #[] #[] 1537 4 #[] #[])
  fields := #[]
  methods := #[]
  instanceTypes := #[]
  staticTypes := #[]
  resolved := Array.replicate 8 none
  statics := none }

def pool4 : Array CpInfo := pool [(1, u "java/io/Serializable"), (0, .class_ 1), (0, u "java/lang/Object"), (0, .class_ 3)] 3

/-- java/io/Serializable -/
def k4 : Class := { plain "java/io/Serializable" (some 0) with
  accessFlags := 1537
  interfaces := #[]
  cf := some (fileOf pool4 2 #[] #[] 1537 4 #[] #[])
  fields := #[]
  methods := #[]
  instanceTypes := #[]
  staticTypes := #[]
  resolved := Array.replicate 8 none
  statics := none }

/-- the primitive byte -/
def k5 : Class := { plain "byte" none with kind := .primitive 'B', accessFlags := 0x411 }
/-- [B -/
def k6 : Class := { plain "[B" (some 0) with kind := .array 5 .byte, interfaces := #[3, 4], accessFlags := 1041 }

/-- the primitive int -/
def k7 : Class := { plain "int" none with kind := .primitive 'I', accessFlags := 0x411 }
/-- [I -/
def k8 : Class := { plain "[I" (some 0) with kind := .array 7 .int, interfaces := #[3, 4], accessFlags := 1041 }

def heap : Heap := #[]
def classes : Array Class := #[k0, k1, k2, k3, k4, k5, k6, k7, k8]
def interned : List (Array UInt16 × Addr) := []
def slotsUsed : Nat := 0
def theMethod : MethodId := ⟨1, 2⟩
def args0 : Array Value := #[.int 1, .int 2]
def aboutOver (below : List Frame) : State where
  vm := { classes := classes, interned := interned.toArray }
  heap := heap
  slotsUsed := slotsUsed
  threads := #[{ frames := .invoking theMethod args0 :: below }]
def below0 : List Frame := [.native { method := ⟨0, 0⟩, args := #[] }]
def about1 : State := aboutOver below0
def p0 : Program := .bare "" "" ""
def e0 : Env := launch0.env 0 0 0
theorem w_frames : about1.frames = Frame.invoking theMethod args0 :: below0 := rfl
set_option maxRecDepth 65536 in
theorem w_args : argsFit about1.vm theMethod args0 = true := by decide +kernel
set_option maxRecDepth 65536 in
theorem w_heap : heapFits about1 = true := by decide +kernel
set_option maxRecDepth 65536 in
theorem w_runnable : about1.curStatus? = some .runnable := by decide +kernel
set_option maxRecDepth 65536 in
theorem w_alone : about1.alone = true := by decide +kernel
set_option maxRecDepth 65536 in
theorem w_named : about1.methodNamed? x = some theMethod := by decide +kernel
set_option maxRecDepth 65536 in
theorem w_hears : about1.hears theMethod below0 = true := by decide +kernel
set_option maxRecDepth 65536 in
theorem w_ripe : about1.ripe theMethod args0 below0 = true := by decide +kernel
theorem w_running : about1.status = .running := rfl
set_option maxRecDepth 65536 in
theorem w_room : about1.hasRoom e0.platform room_1 = true :=
  launch0.hasRoom_least _ room_1 (by decide +kernel) (by decide +kernel) (by decide +kernel) (by decide +kernel) (by decide +kernel) (by decide +kernel)
theorem allAtoms_all (ts : List Jvm.Cond) (a : Array Jvm.Value) (st : Jvm.State) : (allAtoms ts).before a st = ts.all (fun c => c.before a st) := by
  induction ts with
  | nil => rfl
  | cons c t ih =>
    show (Jvm.Cond.and c (allAtoms t)).before a st = _
    rw [Jvm.Cond.before_and, ih, List.all_cons]
def words1 : List Jvm.Cond := Jvm.Cond.code x code maxLocals ret :: tables_1
/-- a 'code' word, met by the world's own term for the bytes: nothing is compared byte by byte -/
theorem code_word {y : MethodName} {bytes : ByteArray} {mx : Nat} {rt : Option FieldType} {a : Array Value} {s : State} {m : MethodId} {meth : Method} {c : Code} (h1 : s.methodNamed? y = some m) (h2 : s.vm.method? m = some meth) (h3 : meth.code = some c) (h4 : c.code = bytes)
    (h5 : (c.maxLocals == mx && c.exceptionTable.isEmpty && decide (c.maxStack ≤ mostOperands) && decide (meth.sig.returnType = rt) && !meth.locks && decide (parseMethodDescriptor y.desc = some meth.sig)) = true) : (Jvm.Cond.code y bytes mx rt).before a s = true := by
  simp only [Bool.and_eq_true, beq_iff_eq, Bool.not_eq_true', decide_eq_true_eq] at h5
  obtain ⟨⟨⟨⟨⟨g1, g2⟩, g3⟩, g4⟩, g5⟩, g6⟩ := h5
  simp [Cond.before, Cond.holds, Cond.value, h1, h2, h3, h4, g1, g2, g3, g4, g5, g6]
def isCode : Jvm.Cond → Bool
  | .code _ _ _ _ => true
  | _ => false
theorem all_split {L : List Jvm.Cond} {P : Jvm.Cond → Bool} (h1 : L.all (fun c => isCode c || P c) = true) (h2 : ∀ c ∈ L.filter isCode, P c = true) : L.all P = true := by
  refine List.all_eq_true.mpr fun c hc => ?_
  have h := List.all_eq_true.mp h1 c hc
  rcases Bool.eq_false_or_eq_true (isCode c) with hi | hi
  · exact h2 c (List.mem_filter.mpr ⟨hc, hi⟩)
  · simpa [hi] using h
set_option maxRecDepth 65536 in
theorem w_c0 : (Jvm.Cond.code x code maxLocals ret).before args0 about1 = true := code_word (m := ⟨1, 2⟩) (meth := k1m2) (c := k1c2) (by decide +kernel) rfl rfl rfl (by decide +kernel)
set_option maxRecDepth 65536 in
theorem w_c1 : (Jvm.Cond.code ({ cls := "com/example/tolerant_query/tolerantquery/UnionFind", name := "<init>", desc := "(I)V" } : Jvm.MethodName) prog_20_method_1_code (3 : Nat) (Option.none : Option Jvm.ClassFile.FieldType)).before args0 about1 = true := code_word (m := ⟨2, 0⟩) (meth := k2m0) (c := k2c0) (by decide +kernel) rfl rfl rfl (by decide +kernel)
set_option maxRecDepth 65536 in
theorem w_c2 : (Jvm.Cond.code ({ cls := "java/lang/Object", name := "<init>", desc := "()V" } : Jvm.MethodName) object_method_1_code (1 : Nat) (Option.none : Option Jvm.ClassFile.FieldType)).before args0 about1 = true := code_word (m := ⟨0, 0⟩) (meth := k0m0) (c := k0c0) (by decide +kernel) rfl rfl rfl (by decide +kernel)
set_option maxRecDepth 65536 in
theorem w_c3 : (Jvm.Cond.code ({ cls := "com/example/tolerant_query/tolerantquery/UnionFind", name := "link", desc := "(II)V" } : Jvm.MethodName) prog_20_method_2_code (3 : Nat) (Option.none : Option Jvm.ClassFile.FieldType)).before args0 about1 = true := code_word (m := ⟨2, 1⟩) (meth := k2m1) (c := k2c1) (by decide +kernel) rfl rfl rfl (by decide +kernel)
set_option maxRecDepth 65536 in
theorem w_c4 : (Jvm.Cond.code ({ cls := "com/example/tolerant_query/tolerantquery/UnionFind", name := "root", desc := "(I)I" } : Jvm.MethodName) prog_20_method_3_code (5 : Nat) (Option.some Jvm.ClassFile.FieldType.int)).before args0 about1 = true := code_word (m := ⟨2, 2⟩) (meth := k2m2) (c := k2c2) (by decide +kernel) rfl rfl rfl (by decide +kernel)
set_option maxRecDepth 65536 in
theorem w_c5 : (Jvm.Cond.code ({ cls := "com/example/tolerant_query/tolerantquery/UnionFindRootPinLaw", name := "join", desc := "([III)V" } : Jvm.MethodName) method_2_code (5 : Nat) (Option.none : Option Jvm.ClassFile.FieldType)).before args0 about1 = true := code_word (m := ⟨1, 1⟩) (meth := k1m1) (c := k1c1) (by decide +kernel) rfl rfl rfl (by decide +kernel)
def codes1 : List Jvm.Cond := [Jvm.Cond.code x code maxLocals ret, Jvm.Cond.code ({ cls := "com/example/tolerant_query/tolerantquery/UnionFind", name := "<init>", desc := "(I)V" } : Jvm.MethodName) prog_20_method_1_code (3 : Nat) (Option.none : Option Jvm.ClassFile.FieldType), Jvm.Cond.code ({ cls := "java/lang/Object", name := "<init>", desc := "()V" } : Jvm.MethodName) object_method_1_code (1 : Nat) (Option.none : Option Jvm.ClassFile.FieldType), Jvm.Cond.code ({ cls := "com/example/tolerant_query/tolerantquery/UnionFind", name := "link", desc := "(II)V" } : Jvm.MethodName) prog_20_method_2_code (3 : Nat) (Option.none : Option Jvm.ClassFile.FieldType), Jvm.Cond.code ({ cls := "com/example/tolerant_query/tolerantquery/UnionFind", name := "root", desc := "(I)I" } : Jvm.MethodName) prog_20_method_3_code (5 : Nat) (Option.some Jvm.ClassFile.FieldType.int), Jvm.Cond.code ({ cls := "com/example/tolerant_query/tolerantquery/UnionFindRootPinLaw", name := "join", desc := "([III)V" } : Jvm.MethodName) method_2_code (5 : Nat) (Option.none : Option Jvm.ClassFile.FieldType)]
set_option maxRecDepth 65536 in
theorem codes_eq : words1.filter isCode = codes1 := rfl
theorem w_codes : ∀ c ∈ words1.filter isCode, c.before args0 about1 = true := by
  rw [codes_eq]
  intro c hc
  simp only [codes1, List.mem_cons, List.not_mem_nil, or_false] at hc
  rcases hc with rfl | rfl | rfl | rfl | rfl | rfl
  · exact w_c0
  · exact w_c1
  · exact w_c2
  · exact w_c3
  · exact w_c4
  · exact w_c5
set_option maxRecDepth 65536 in
theorem w_t1 : (words1.take 24).all (fun c => isCode c || c.before args0 about1) = true := by decide +kernel
set_option maxRecDepth 65536 in
theorem w_t2 : (words1.drop 24).all (fun c => isCode c || c.before args0 about1) = true := by decide +kernel
theorem w_tables : (allAtoms (Jvm.Cond.code x code maxLocals ret :: tables_1)).before args0 about1 = true := by
  rw [allAtoms_all]
  show words1.all (fun c => c.before args0 about1) = true
  refine all_split ?_ w_codes
  rw [← List.take_append_drop 24 words1, List.all_append, w_t1, w_t2]
  rfl
set_option maxRecDepth 65536 in
theorem w_case : (Jvm.Cond.and given_1 narrow_1).before args0 about1 = true := by decide +kernel
theorem w_applies : (headSpec (Jvm.Cond.code x code maxLocals ret :: tables_1) room_1).applies x e0.platform about1 = true :=
  (Spec.applies_iff w_frames).mpr ⟨w_running, w_runnable, w_alone, w_named, w_hears, w_ripe, w_room, w_tables⟩
theorem atStart : AtStart classFile x code maxLocals ret World_1 tables_1 room_1 Calls_1 rest_1 Pre_1 launch0 p0 e0 about1 theMethod args0 below0 :=
  ⟨lists_1, trivial, launch0.admits_env _ _ _, launch0.least_env, fairChoices_fair.cas, fairChoices_fair.clock, w_frames, w_args, w_heap, w_applies, trivial, trivial, w_case⟩
end start1
theorem witness_1 : WitnessClaimed_1 := ⟨start1.p0, start1.e0, start1.about1, start1.theMethod, start1.args0, start1.below0, start1.atStart⟩
end Jvm.Pilot.@@N@@
