import JvmDerived
import JvmDerived.Pilot.@@N@@Statement
import JvmDerived.Pilot.@@N@@Code
set_option linter.unusedVariables false
set_option linter.unusedSimpArgs false
namespace Jvm.RoadKit
open Sem ClassFile Op Lib Jvm.Stand Jvm.Free Jvm.LawKit
section New
variable {p : Program} {l : Launch} {e : Env} {R : Room} {s : State} {m : MethodId} {args : Array Value} {below : List Frame} {meth : Method} {c : Code} {T : State} {locs : List Loc} {cells slots : Nat}
theorem retI (X : Stand p l e R s m args below meth c T locs cells slots) (hx : p.tables.exec = Jvm.exec) {pc : Nat} {Ls : Array Slot} {z : Int32} {rest : List Value} (hret : meth.sig.returnType = some .int) (hd : decode c.code pc = .ok (.ireturn, 1)) {fs : List Frame}
    (hl : ∀ (f : JFrame) (acts : List Action), f.method = m → f.locked = none → f.entered = [] → (doReturn e (T.setTop f) acts (some (.int z))).1 = T.setFrames fs) : Steps p.tables e below (T.setTop (mkF m pc Ls (.int z :: rest))) (T.setFrames fs) := by
  have hm' : T.vm.method? m = some meth := X.method'
  have hn : narrow .int (.int z) = .int z := rfl
  show Steps p.tables e below (T.setTop { method := m, pc := pc, locals := Ls, stack := _ :: rest, locked := none }) _
  jvm_step X.here [X.here.top, hx, hd, hm', hret, hn]
  first | (intro acts; rw [hl _ acts rfl rfl rfl]) | rw [hl _ _ rfl rfl rfl]
  exact Steps.refl _
end New
end Jvm.RoadKit
namespace Jvm.Pilot.@@N@@
open Jvm Jvm.ClassFile Sem Op Lib Jvm.Free Jvm.Stand Jvm.LawKit Jvm.RoadKit Bundle Jvm.Pilot.@@N@@.Jvm.D
/-- the fixed things of one body's walk -/
abbrev Wk : Type := Program × Launch × Env × Room × State × MethodId × Array Value × List Frame × Method × Code
abbrev Wk.p (W : Wk) : Program := W.1
abbrev Wk.l (W : Wk) : Launch := W.2.1
abbrev Wk.e (W : Wk) : Env := W.2.2.1
abbrev Wk.R (W : Wk) : Room := W.2.2.2.1
abbrev Wk.s (W : Wk) : State := W.2.2.2.2.1
abbrev Wk.m (W : Wk) : MethodId := W.2.2.2.2.2.1
abbrev Wk.args (W : Wk) : Array Value := W.2.2.2.2.2.2.1
abbrev Wk.below (W : Wk) : List Frame := W.2.2.2.2.2.2.2.1
abbrev Wk.meth (W : Wk) : Method := W.2.2.2.2.2.2.2.2.1
abbrev Wk.c (W : Wk) : Code := W.2.2.2.2.2.2.2.2.2
abbrev St (W : Wk) (T : State) (L : List Loc) (k n : Nat) : Prop := Stand W.p W.l W.e W.R W.s W.m W.args W.below W.meth W.c T L k n
abbrev Sp (W : Wk) (a b : State) : Prop := Steps W.p.tables W.e W.below a b
/-- what holds throughout the walk -/
def Cx (Z : State) (W : Wk) (rm : Room) (own nm : String) (bytes : ByteArray) (maxL : Nat) (ret : Option FieldType) : Prop :=
  W.p.tables.exec = Jvm.exec ∧ W.c.code = bytes ∧ W.c.maxLocals = maxL ∧ W.s.vm.findClass own = some W.m.cls ∧ W.meth.name = nm ∧ W.meth.sig.returnType = ret ∧ Z.Warmed39 W.s.vm ∧ W.meth.locks = false ∧ W.R = rm
section Cxs
variable {Z : State} {W : Wk} {rm : Room} {own nm : String} {bytes : ByteArray} {maxL : Nat} {ret : Option FieldType}
theorem Cx.x (C : Cx Z W rm own nm bytes maxL ret) : W.p.tables.exec = Jvm.exec := C.1
theorem Cx.b (C : Cx Z W rm own nm bytes maxL ret) : W.c.code = bytes := C.2.1
theorem Cx.ml (C : Cx Z W rm own nm bytes maxL ret) : W.c.maxLocals = maxL := C.2.2.1
theorem Cx.ow (C : Cx Z W rm own nm bytes maxL ret) : W.s.vm.findClass own = some W.m.cls := C.2.2.2.1
theorem Cx.na (C : Cx Z W rm own nm bytes maxL ret) : W.meth.name = nm := C.2.2.2.2.1
theorem Cx.re (C : Cx Z W rm own nm bytes maxL ret) : W.meth.sig.returnType = ret := C.2.2.2.2.2.1
theorem Cx.z (C : Cx Z W rm own nm bytes maxL ret) : Z.Warmed39 W.s.vm := C.2.2.2.2.2.2.1
theorem Cx.lk (C : Cx Z W rm own nm bytes maxL ret) : W.meth.locks = false := C.2.2.2.2.2.2.2.1
theorem Cx.ro (C : Cx Z W rm own nm bytes maxL ret) : W.R = rm := C.2.2.2.2.2.2.2.2
end Cxs
/-- the run comes to the invocation's end, with what Q says -/
def Ends (W : Wk) (n0 : Nat) (Q : Option Value → Heap → Prop) (U : State) : Prop :=
  ∃ s₂ o, Sp W U s₂ ∧ s₂.status = .running ∧ Ended s₂ W.below o ∧ ∃ v L, o = .returned v ∧ (Fr n0 L ∧ Q v s₂.heap) ∧ FrameEnd W.s o s₂ L W.R.cells W.R.slots
/-- from pc, with these locals and this stack, over the heap h, at most k cells of n slots made so far -/
def Go (W : Wk) (n0 : Nat) (Q : Option Value → Heap → Prop) (h : Heap) (k n pc : Nat) (ls : Array Slot) (st : List Value) : Prop :=
  ∀ T L k' n', St W T L k' n' → k' ≤ k → n' ≤ n → Fr n0 L → T.heap = h → Ends W n0 Q (T.setTop (mkF W.m pc ls st))
/-- a body's contract: on these arguments, over the heap h, it ends and Q holds of what it returns and of the heap that it leaves -/
def Met1 (l : Launch) (Z : State) (y : MethodName) (bytes : ByteArray) (maxL : Nat) (ret : Option FieldType) (ws : List Jvm.Cond) (rm : Room) (as : Array Value) (h : Heap) (n0 : Nat) (Q : Option Value → Heap → Prop) : Prop :=
  MetFree l y (head1 (Jvm.Cond.code y bytes maxL ret :: ws) rm) (fun a U => a = as ∧ Z.Warmed39 U.vm ∧ U.heap = h) (fun _ _ _ _ _ => True) (fun _ U o U' => ∃ v L, o = .returned v ∧ (Fr n0 L ∧ Q v U'.heap) ∧ FrameEnd U o U' L rm.cells rm.slots)
theorem met_of_go {l : Launch} {Z : State} {y : MethodName} {bytes : ByteArray} {maxL : Nat} {ret : Option FieldType} {ws : List Jvm.Cond} {rm : Room} {as : Array Value} {h : Heap} {n0 : Nat} {Q : Option Value → Heap → Prop} {ls : Array Slot}
    (hpl : plainFor y = true) (hef : ∀ m, entryFrame m as maxL = mkF m 0 ls [])
    (go : ∀ W : Wk, W.l = l → Cx Z W rm y.cls y.name bytes maxL ret → Go W n0 Q h 0 0 0 ls []) : Met1 l Z y bytes maxL ret ws rm as h n0 Q := by
  refine MetFree.of_bodySF hpl hisR ?_
  intro p e s m args below meth c s₁ Bd hml0 hP hK
  obtain ⟨rfl, hZ, hh⟩ := hP
  have X0 : Stand p l e rm s m args below meth c s₁ [] 0 0 := Stand.of_body Bd
  have e0 : s₁.heap = h := by rw [← hh, Bd.state]; rfl
  obtain ⟨s₂, o, h1, h2, h3, h4⟩ := go (p, l, e, rm, s, m, args, below, meth, c) rfl ⟨Bd.exec, Bd.bytes, hml0, findClass_of_methodNamed Bd.named, (name_of_methodNamed Bd.named Bd.method).1, Bd.returns, hZ, Bd.notSynchronized, rfl⟩ s₁ [] 0 0 X0 (Nat.le_refl _) (Nat.le_refl _) (Fr.nil n0) e0
  exact ⟨s₂, o, castTop (hef m) h1, h2, h3, h4⟩
section Gos
variable {Z : State} {W : Wk} {rm : Room} {own nm : String} {bytes : ByteArray} {maxL : Nat} {ret : Option FieldType} {n0 : Nat} {Q : Option Value → Heap → Prop} {h : Heap} {k n pc q : Nat} {ls : Array Slot} {st : List Value} {a0 : Array Value}
theorem Go.mono {k' n' : Nat} (hk : k ≤ k') (hn : n ≤ n') (g : Go W n0 Q h k' n' pc ls st) : Go W n0 Q h k n pc ls st :=
  fun T L a b X h1 h2 => g T L a b X (Nat.le_trans h1 hk) (Nat.le_trans h2 hn)
theorem Go.stepX {ls' : Array Slot} {st' : List Value} (f : ∀ T L a b tg, St W T L a b → T.heap = h → Sp W (T.setTop (mkF W.m q ls' st')) tg → Sp W (T.setTop (mkF W.m pc ls st)) tg) (hr : Go W n0 Q h k n q ls' st') : Go W n0 Q h k n pc ls st := by
  intro T L a b X hk hn N eT
  obtain ⟨s₂, o, hs, r⟩ := hr T L a b X hk hn N eT
  exact ⟨s₂, o, f T L a b _ X eT hs, r⟩
theorem Go.stepT {ls' : Array Slot} {st' : List Value} (f : ∀ T L a b, St W T L a b → T.heap = h → ∃ T', St W T' L a b ∧ T'.heap = h ∧ ∀ tg, Sp W (T'.setTop (mkF W.m q ls' st')) tg → Sp W (T.setTop (mkF W.m pc ls st)) tg) (hr : Go W n0 Q h k n q ls' st') : Go W n0 Q h k n pc ls st := by
  intro T L a b X hk hn N eT
  obtain ⟨T', X', e', sp⟩ := f T L a b X eT
  obtain ⟨s₂, o, hs, r⟩ := hr T' L a b X' hk hn N e'
  exact ⟨s₂, o, sp _ hs, r⟩

theorem Go.iload (C : Cx Z W rm own nm bytes maxL ret) {j : Nat} {v : Int32} (hd : decode bytes pc = .ok (.iload j, 2)) (hq : pc + 2 = q) (hl : ls[j]? = some (.val (.int v)))
    (hr : Go W n0 Q h k n q ls (.int v :: st)) : Go W n0 Q h k n pc ls st := by
  subst hq
  exact Go.stepX (fun T L a b tg X eT kk => XS.iload X.here C.x rfl (hb C.b hd) hl kk) hr
theorem Go.iloadN (C : Cx Z W rm own nm bytes maxL ret) {j : Fin 4} {v : Int32} (hd : decode bytes pc = .ok (.iload_n j, 1)) (hq : pc + 1 = q) (hl : ls[j.val]? = some (.val (.int v)))
    (hr : Go W n0 Q h k n q ls (.int v :: st)) : Go W n0 Q h k n pc ls st := by
  subst hq
  exact Go.stepX (fun T L a b tg X eT kk => XS.iloadN X.here C.x rfl (hb C.b hd) hl kk) hr
theorem Go.lload (C : Cx Z W rm own nm bytes maxL ret) {j : Nat} {v : Int64} (hd : decode bytes pc = .ok (.lload j, 2)) (hq : pc + 2 = q) (hl : ls[j]? = some (.val (.long v)))
    (hr : Go W n0 Q h k n q ls (.long v :: st)) : Go W n0 Q h k n pc ls st := by
  subst hq
  exact Go.stepX (fun T L a b tg X eT kk => XS.lload X.here C.x rfl (hb C.b hd) hl kk) hr
theorem Go.lloadN (C : Cx Z W rm own nm bytes maxL ret) {j : Fin 4} {v : Int64} (hd : decode bytes pc = .ok (.lload_n j, 1)) (hq : pc + 1 = q) (hl : ls[j.val]? = some (.val (.long v)))
    (hr : Go W n0 Q h k n q ls (.long v :: st)) : Go W n0 Q h k n pc ls st := by
  subst hq
  exact Go.stepX (fun T L a b tg X eT kk => XS.lloadN X.here C.x rfl (hb C.b hd) hl kk) hr
theorem Go.aload (C : Cx Z W rm own nm bytes maxL ret) {j : Nat} {v : Value} (hd : decode bytes pc = .ok (.aload j, 2)) (hq : pc + 2 = q) (hl : ls[j]? = some (.val v)) (hv : v.isRef = true)
    (hr : Go W n0 Q h k n q ls (v :: st)) : Go W n0 Q h k n pc ls st := by
  subst hq
  exact Go.stepX (fun T L a b tg X eT kk => XS.aload X.here C.x rfl (hb C.b hd) hl hv kk) hr
theorem Go.aloadN (C : Cx Z W rm own nm bytes maxL ret) {j : Fin 4} {v : Value} (hd : decode bytes pc = .ok (.aload_n j, 1)) (hq : pc + 1 = q) (hl : ls[j.val]? = some (.val v)) (hv : v.isRef = true)
    (hr : Go W n0 Q h k n q ls (v :: st)) : Go W n0 Q h k n pc ls st := by
  subst hq
  exact Go.stepX (fun T L a b tg X eT kk => XS.aloadN X.here C.x rfl (hb C.b hd) hl hv kk) hr
theorem Go.istore (C : Cx Z W rm own nm bytes maxL ret) {j : Nat} {x : Int32} (hd : decode bytes pc = .ok (.istore j, 2)) (hq : pc + 2 = q) (l' : Int32 → Array Slot) (hl : ∀ v, storeLocals ls j (.int v) = some (l' v))
    (hr : ∀ v, v = x → Go W n0 Q h k n q (l' v) st) : Go W n0 Q h k n pc ls (.int x :: st) := by
  subst hq
  exact Go.stepX (fun T L a b tg X eT kk => XS.istore X.here C.x rfl (hb C.b hd) rfl (hl x) kk) (hr x rfl)
theorem Go.istoreN (C : Cx Z W rm own nm bytes maxL ret) {j : Fin 4} {x : Int32} (hd : decode bytes pc = .ok (.istore_n j, 1)) (hq : pc + 1 = q) (l' : Int32 → Array Slot) (hl : ∀ v, storeLocals ls j.val (.int v) = some (l' v))
    (hr : ∀ v, v = x → Go W n0 Q h k n q (l' v) st) : Go W n0 Q h k n pc ls (.int x :: st) := by
  subst hq
  exact Go.stepX (fun T L a b tg X eT kk => XS.istoreN X.here C.x rfl (hb C.b hd) rfl (hl x) kk) (hr x rfl)
theorem Go.lstore (C : Cx Z W rm own nm bytes maxL ret) {j : Nat} {x : Int64} (hd : decode bytes pc = .ok (.lstore j, 2)) (hq : pc + 2 = q) (l' : Int64 → Array Slot) (hl : ∀ v, storeLocals ls j (.long v) = some (l' v))
    (hr : ∀ v, v = x → Go W n0 Q h k n q (l' v) st) : Go W n0 Q h k n pc ls (.long x :: st) := by
  subst hq
  exact Go.stepX (fun T L a b tg X eT kk => XS.lstore X.here C.x rfl (hb C.b hd) rfl (hl x) kk) (hr x rfl)
theorem Go.lstoreN (C : Cx Z W rm own nm bytes maxL ret) {j : Fin 4} {x : Int64} (hd : decode bytes pc = .ok (.lstore_n j, 1)) (hq : pc + 1 = q) (l' : Int64 → Array Slot) (hl : ∀ v, storeLocals ls j.val (.long v) = some (l' v))
    (hr : ∀ v, v = x → Go W n0 Q h k n q (l' v) st) : Go W n0 Q h k n pc ls (.long x :: st) := by
  subst hq
  exact Go.stepX (fun T L a b tg X eT kk => XS.lstoreN X.here C.x rfl (hb C.b hd) rfl (hl x) kk) (hr x rfl)
theorem Go.astore (C : Cx Z W rm own nm bytes maxL ret) {j : Nat} {x : Value} (hd : decode bytes pc = .ok (.astore j, 2)) (hq : pc + 2 = q) {l' : Array Slot} (hv : x.isRef = true) (hl : storeLocals ls j x = some l')
    (hr : Go W n0 Q h k n q l' st) : Go W n0 Q h k n pc ls (x :: st) := by
  subst hq
  exact Go.stepX (fun T L a b tg X eT kk => XS.astore X.here C.x rfl (hb C.b hd) rfl hv hl kk) hr
theorem Go.astoreN (C : Cx Z W rm own nm bytes maxL ret) {j : Fin 4} {x : Value} (hd : decode bytes pc = .ok (.astore_n j, 1)) (hq : pc + 1 = q) {l' : Array Slot} (hv : x.isRef = true) (hl : storeLocals ls j.val x = some l')
    (hr : Go W n0 Q h k n q l' st) : Go W n0 Q h k n pc ls (x :: st) := by
  subst hq
  exact Go.stepX (fun T L a b tg X eT kk => XS.astoreN X.here C.x rfl (hb C.b hd) rfl hv hl kk) hr
theorem Go.istoreR (C : Cx Z W rm own nm bytes maxL ret) {j : Nat} {x : Int32} (hd : decode bytes pc = .ok (.istore j, 2)) (hq : pc + 2 = q) {l' : Array Slot} (hl : storeLocals ls j (.int x) = some l')
    (hr : Go W n0 Q h k n q l' st) : Go W n0 Q h k n pc ls (.int x :: st) := by
  subst hq
  exact Go.stepX (fun T L a b tg X eT kk => XS.istore X.here C.x rfl (hb C.b hd) rfl hl kk) hr
theorem Go.istoreNR (C : Cx Z W rm own nm bytes maxL ret) {j : Fin 4} {x : Int32} (hd : decode bytes pc = .ok (.istore_n j, 1)) (hq : pc + 1 = q) {l' : Array Slot} (hl : storeLocals ls j.val (.int x) = some l')
    (hr : Go W n0 Q h k n q l' st) : Go W n0 Q h k n pc ls (.int x :: st) := by
  subst hq
  exact Go.stepX (fun T L a b tg X eT kk => XS.istoreN X.here C.x rfl (hb C.b hd) rfl hl kk) hr
theorem Go.lstoreR (C : Cx Z W rm own nm bytes maxL ret) {j : Nat} {x : Int64} (hd : decode bytes pc = .ok (.lstore j, 2)) (hq : pc + 2 = q) {l' : Array Slot} (hl : storeLocals ls j (.long x) = some l')
    (hr : Go W n0 Q h k n q l' st) : Go W n0 Q h k n pc ls (.long x :: st) := by
  subst hq
  exact Go.stepX (fun T L a b tg X eT kk => XS.lstore X.here C.x rfl (hb C.b hd) rfl hl kk) hr
theorem Go.lstoreNR (C : Cx Z W rm own nm bytes maxL ret) {j : Fin 4} {x : Int64} (hd : decode bytes pc = .ok (.lstore_n j, 1)) (hq : pc + 1 = q) {l' : Array Slot} (hl : storeLocals ls j.val (.long x) = some l')
    (hr : Go W n0 Q h k n q l' st) : Go W n0 Q h k n pc ls (.long x :: st) := by
  subst hq
  exact Go.stepX (fun T L a b tg X eT kk => XS.lstoreN X.here C.x rfl (hb C.b hd) rfl hl kk) hr
theorem Go.iincR (C : Cx Z W rm own nm bytes maxL ret) {j : Nat} {cst : Int} {x : Int32} (hd : decode bytes pc = .ok (.iinc j cst, 3)) (hq : pc + 3 = q) (hl0 : ls[j]? = some (.val (.int x))) {l' : Array Slot} (hl : storeLocals ls j (.int (x + Int32.ofInt cst)) = some l')
    (hr : Go W n0 Q h k n q l' st) : Go W n0 Q h k n pc ls st := by
  subst hq
  exact Go.stepX (fun T L a b tg X eT kk => XS.iinc X.here C.x rfl (hb C.b hd) hl0 hl kk) hr
theorem Go.iinc (C : Cx Z W rm own nm bytes maxL ret) {j : Nat} {cst : Int} {x y : Int32} (hd : decode bytes pc = .ok (.iinc j cst, 3)) (hq : pc + 3 = q) (hl0 : ls[j]? = some (.val (.int x))) (hy : Int32.ofInt cst = y) (l' : Int32 → Array Slot) (hl : ∀ v, storeLocals ls j (.int v) = some (l' v))
    (hr : ∀ v, v = x + y → Go W n0 Q h k n q (l' v) st) : Go W n0 Q h k n pc ls st := by
  subst hq hy
  exact Go.stepX (fun T L a b tg X eT kk => XS.iinc X.here C.x rfl (hb C.b hd) hl0 (hl _) kk) (hr _ rfl)
theorem Go.iconst (C : Cx Z W rm own nm bytes maxL ret) {i : Int} (v : Int32) (hd : decode bytes pc = .ok (.iconst i, 1)) (hq : pc + 1 = q) (hv : Int32.ofInt i = v)
    (hr : Go W n0 Q h k n q ls (.int v :: st)) : Go W n0 Q h k n pc ls st := by
  subst hq hv
  exact Go.stepX (fun T L a b tg X eT kk => XS.iconst X.here C.x rfl (hb C.b hd) kk) hr
theorem Go.bipush (C : Cx Z W rm own nm bytes maxL ret) {i : Int} (v : Int32) (hd : decode bytes pc = .ok (.bipush i, 2)) (hq : pc + 2 = q) (hv : (Int8.ofInt i).toInt32 = v)
    (hr : Go W n0 Q h k n q ls (.int v :: st)) : Go W n0 Q h k n pc ls st := by
  subst hq hv
  exact Go.stepX (fun T L a b tg X eT kk => XS.bipush X.here C.x rfl (hb C.b hd) kk) hr
theorem Go.sipush (C : Cx Z W rm own nm bytes maxL ret) {i : Int} (v : Int32) (hd : decode bytes pc = .ok (.sipush i, 3)) (hq : pc + 3 = q) (hv : (Int16.ofInt i).toInt32 = v)
    (hr : Go W n0 Q h k n q ls (.int v :: st)) : Go W n0 Q h k n pc ls st := by
  subst hq hv
  exact Go.stepX (fun T L a b tg X eT kk => XS.sipush X.here C.x rfl (hb C.b hd) kk) hr
theorem Go.lconst (C : Cx Z W rm own nm bytes maxL ret) {i : Fin 2} (v : Int64) (hd : decode bytes pc = .ok (.lconst i, 1)) (hq : pc + 1 = q) (hv : Int64.ofNat i = v)
    (hr : Go W n0 Q h k n q ls (.long v :: st)) : Go W n0 Q h k n pc ls st := by
  subst hq hv
  exact Go.stepX (fun T L a b tg X eT kk => XS.lconst X.here C.x rfl (hb C.b hd) kk) hr
theorem Go.aconstNull (C : Cx Z W rm own nm bytes maxL ret)  (hd : decode bytes pc = .ok (.aconst_null, 1)) (hq : pc + 1 = q)
    (hr : Go W n0 Q h k n q ls (.null :: st)) : Go W n0 Q h k n pc ls st := by
  subst hq
  exact Go.stepX (fun T L a b tg X eT kk => XS.aconstNull X.here C.x rfl (hb C.b hd) kk) hr
theorem Go.ldcI (C : Cx Z W rm own nm bytes maxL ret) {index : Nat} {v : Int32} (w : (Jvm.Cond.constant own index v).before a0 Z = true) (hd : decode bytes pc = .ok (.ldc index, 2)) (hq : pc + 2 = q)
    (hr : Go W n0 Q h k n q ls (.int v :: st)) : Go W n0 Q h k n pc ls st := by
  subst hq
  exact Go.stepX (fun T L a b tg X eT kk => X.ldcInt C.x C.ow (mvT C.z w) (g := mkF W.m pc ls st) rfl (hb C.b hd) _ kk) hr
theorem Go.ldcwI (C : Cx Z W rm own nm bytes maxL ret) {index : Nat} {v : Int32} (w : (Jvm.Cond.constant own index v).before a0 Z = true) (hd : decode bytes pc = .ok (.ldc_w index, 3)) (hq : pc + 3 = q)
    (hr : Go W n0 Q h k n q ls (.int v :: st)) : Go W n0 Q h k n pc ls st := by
  subst hq
  exact Go.stepX (fun T L a b tg X eT kk => X.ldcwInt C.x C.ow (mvT C.z w) (g := mkF W.m pc ls st) rfl (hb C.b hd) _ kk) hr
theorem Go.ldc2J (C : Cx Z W rm own nm bytes maxL ret) {index : Nat} {v : Int64} (w : (Jvm.Cond.constantLong own index v).before a0 Z = true) (hd : decode bytes pc = .ok (.ldc2_w index, 3)) (hq : pc + 3 = q)
    (hr : Go W n0 Q h k n q ls (.long v :: st)) : Go W n0 Q h k n pc ls st := by
  subst hq
  exact Go.stepX (fun T L a b tg X eT kk => X.ldc2Long C.x C.ow (mvT C.z w) (g := mkF W.m pc ls st) rfl (hb C.b hd) _ kk) hr
theorem Go.iadd (C : Cx Z W rm own nm bytes maxL ret) {x y : Int32} (hd : decode bytes pc = .ok (.iadd, 1)) (hq : pc + 1 = q)
    (hr : Go W n0 Q h k n q ls (.int (x + y) :: st)) : Go W n0 Q h k n pc ls (.int y :: .int x :: st) := by
  subst hq
  exact Go.stepX (fun T L a b tg X eT kk => XS.iadd X.here C.x rfl (hb C.b hd) rfl kk) hr
theorem Go.ladd (C : Cx Z W rm own nm bytes maxL ret) {x y : Int64} (hd : decode bytes pc = .ok (.ladd, 1)) (hq : pc + 1 = q)
    (hr : Go W n0 Q h k n q ls (.long (x + y) :: st)) : Go W n0 Q h k n pc ls (.long y :: .long x :: st) := by
  subst hq
  exact Go.stepX (fun T L a b tg X eT kk => XS.ladd X.here C.x rfl (hb C.b hd) rfl kk) hr
theorem Go.isub (C : Cx Z W rm own nm bytes maxL ret) {x y : Int32} (hd : decode bytes pc = .ok (.isub, 1)) (hq : pc + 1 = q)
    (hr : Go W n0 Q h k n q ls (.int (x - y) :: st)) : Go W n0 Q h k n pc ls (.int y :: .int x :: st) := by
  subst hq
  exact Go.stepX (fun T L a b tg X eT kk => XS.isub X.here C.x rfl (hb C.b hd) rfl kk) hr
theorem Go.lsub (C : Cx Z W rm own nm bytes maxL ret) {x y : Int64} (hd : decode bytes pc = .ok (.lsub, 1)) (hq : pc + 1 = q)
    (hr : Go W n0 Q h k n q ls (.long (x - y) :: st)) : Go W n0 Q h k n pc ls (.long y :: .long x :: st) := by
  subst hq
  exact Go.stepX (fun T L a b tg X eT kk => XS.lsub X.here C.x rfl (hb C.b hd) rfl kk) hr
theorem Go.imul (C : Cx Z W rm own nm bytes maxL ret) {x y : Int32} (hd : decode bytes pc = .ok (.imul, 1)) (hq : pc + 1 = q)
    (hr : Go W n0 Q h k n q ls (.int (x * y) :: st)) : Go W n0 Q h k n pc ls (.int y :: .int x :: st) := by
  subst hq
  exact Go.stepX (fun T L a b tg X eT kk => XS.imul X.here C.x rfl (hb C.b hd) rfl kk) hr
theorem Go.lmul (C : Cx Z W rm own nm bytes maxL ret) {x y : Int64} (hd : decode bytes pc = .ok (.lmul, 1)) (hq : pc + 1 = q)
    (hr : Go W n0 Q h k n q ls (.long (x * y) :: st)) : Go W n0 Q h k n pc ls (.long y :: .long x :: st) := by
  subst hq
  exact Go.stepX (fun T L a b tg X eT kk => XS.lmul X.here C.x rfl (hb C.b hd) rfl kk) hr
theorem Go.iand (C : Cx Z W rm own nm bytes maxL ret) {x y : Int32} (hd : decode bytes pc = .ok (.iand, 1)) (hq : pc + 1 = q)
    (hr : Go W n0 Q h k n q ls (.int (x &&& y) :: st)) : Go W n0 Q h k n pc ls (.int y :: .int x :: st) := by
  subst hq
  exact Go.stepX (fun T L a b tg X eT kk => XS.iand X.here C.x rfl (hb C.b hd) rfl kk) hr
theorem Go.land (C : Cx Z W rm own nm bytes maxL ret) {x y : Int64} (hd : decode bytes pc = .ok (.land, 1)) (hq : pc + 1 = q)
    (hr : Go W n0 Q h k n q ls (.long (x &&& y) :: st)) : Go W n0 Q h k n pc ls (.long y :: .long x :: st) := by
  subst hq
  exact Go.stepX (fun T L a b tg X eT kk => XS.land X.here C.x rfl (hb C.b hd) rfl kk) hr
theorem Go.ior (C : Cx Z W rm own nm bytes maxL ret) {x y : Int32} (hd : decode bytes pc = .ok (.ior, 1)) (hq : pc + 1 = q)
    (hr : Go W n0 Q h k n q ls (.int (x ||| y) :: st)) : Go W n0 Q h k n pc ls (.int y :: .int x :: st) := by
  subst hq
  exact Go.stepX (fun T L a b tg X eT kk => XS.ior X.here C.x rfl (hb C.b hd) rfl kk) hr
theorem Go.lor (C : Cx Z W rm own nm bytes maxL ret) {x y : Int64} (hd : decode bytes pc = .ok (.lor, 1)) (hq : pc + 1 = q)
    (hr : Go W n0 Q h k n q ls (.long (x ||| y) :: st)) : Go W n0 Q h k n pc ls (.long y :: .long x :: st) := by
  subst hq
  exact Go.stepX (fun T L a b tg X eT kk => XS.lor X.here C.x rfl (hb C.b hd) rfl kk) hr
theorem Go.ixor (C : Cx Z W rm own nm bytes maxL ret) {x y : Int32} (hd : decode bytes pc = .ok (.ixor, 1)) (hq : pc + 1 = q)
    (hr : Go W n0 Q h k n q ls (.int (x ^^^ y) :: st)) : Go W n0 Q h k n pc ls (.int y :: .int x :: st) := by
  subst hq
  exact Go.stepX (fun T L a b tg X eT kk => XS.ixor X.here C.x rfl (hb C.b hd) rfl kk) hr
theorem Go.lxor (C : Cx Z W rm own nm bytes maxL ret) {x y : Int64} (hd : decode bytes pc = .ok (.lxor, 1)) (hq : pc + 1 = q)
    (hr : Go W n0 Q h k n q ls (.long (x ^^^ y) :: st)) : Go W n0 Q h k n pc ls (.long y :: .long x :: st) := by
  subst hq
  exact Go.stepX (fun T L a b tg X eT kk => XS.lxor X.here C.x rfl (hb C.b hd) rfl kk) hr
theorem Go.irem (C : Cx Z W rm own nm bytes maxL ret) {x y : Int32} (hd : decode bytes pc = .ok (.irem, 1)) (hq : pc + 1 = q) (hy : y ≠ 0)
    (hr : Go W n0 Q h k n q ls (.int (x % y) :: st)) : Go W n0 Q h k n pc ls (.int y :: .int x :: st) := by
  subst hq
  exact Go.stepX (fun T L a b tg X eT kk => iremM X C.x rfl (hb C.b hd) rfl hy kk) hr
theorem Go.idiv (C : Cx Z W rm own nm bytes maxL ret) {x y : Int32} (hd : decode bytes pc = .ok (.idiv, 1)) (hq : pc + 1 = q) (hy : y ≠ 0)
    (hr : Go W n0 Q h k n q ls (.int (x / y) :: st)) : Go W n0 Q h k n pc ls (.int y :: .int x :: st) := by
  subst hq
  exact Go.stepX (fun T L a b tg X eT kk => XS.idiv X.here C.x rfl (hb C.b hd) rfl hy kk) hr
theorem Go.lrem (C : Cx Z W rm own nm bytes maxL ret) {x y : Int64} (hd : decode bytes pc = .ok (.lrem, 1)) (hq : pc + 1 = q) (hy : y ≠ 0)
    (hr : Go W n0 Q h k n q ls (.long (x - (x / y) * y) :: st)) : Go W n0 Q h k n pc ls (.long y :: .long x :: st) := by
  subst hq
  exact Go.stepX (fun T L a b tg X eT kk => XS.lrem X.here C.x rfl (hb C.b hd) rfl hy kk) hr
theorem Go.ldiv (C : Cx Z W rm own nm bytes maxL ret) {x y : Int64} (hd : decode bytes pc = .ok (.ldiv, 1)) (hq : pc + 1 = q) (hy : y ≠ 0)
    (hr : Go W n0 Q h k n q ls (.long (x / y) :: st)) : Go W n0 Q h k n pc ls (.long y :: .long x :: st) := by
  subst hq
  exact Go.stepX (fun T L a b tg X eT kk => XS.ldiv X.here C.x rfl (hb C.b hd) rfl hy kk) hr
theorem Go.ineg (C : Cx Z W rm own nm bytes maxL ret) {x : Int32} (hd : decode bytes pc = .ok (.ineg, 1)) (hq : pc + 1 = q)
    (hr : Go W n0 Q h k n q ls (.int (-x) :: st)) : Go W n0 Q h k n pc ls (.int x :: st) := by
  subst hq
  exact Go.stepX (fun T L a b tg X eT kk => XS.ineg X.here C.x rfl (hb C.b hd) rfl kk) hr
theorem Go.lneg (C : Cx Z W rm own nm bytes maxL ret) {x : Int64} (hd : decode bytes pc = .ok (.lneg, 1)) (hq : pc + 1 = q)
    (hr : Go W n0 Q h k n q ls (.long (-x) :: st)) : Go W n0 Q h k n pc ls (.long x :: st) := by
  subst hq
  exact Go.stepX (fun T L a b tg X eT kk => XS.lneg X.here C.x rfl (hb C.b hd) rfl kk) hr
theorem Go.i2l (C : Cx Z W rm own nm bytes maxL ret) {x : Int32} (hd : decode bytes pc = .ok (.i2l, 1)) (hq : pc + 1 = q)
    (hr : Go W n0 Q h k n q ls (.long x.toInt64 :: st)) : Go W n0 Q h k n pc ls (.int x :: st) := by
  subst hq
  exact Go.stepX (fun T L a b tg X eT kk => XS.i2l X.here C.x rfl (hb C.b hd) rfl kk) hr
theorem Go.l2i (C : Cx Z W rm own nm bytes maxL ret) {x : Int64} (hd : decode bytes pc = .ok (.l2i, 1)) (hq : pc + 1 = q)
    (hr : Go W n0 Q h k n q ls (.int x.toInt32 :: st)) : Go W n0 Q h k n pc ls (.long x :: st) := by
  subst hq
  exact Go.stepX (fun T L a b tg X eT kk => XS.l2i X.here C.x rfl (hb C.b hd) rfl kk) hr
theorem Go.i2b (C : Cx Z W rm own nm bytes maxL ret) {x : Int32} (hd : decode bytes pc = .ok (.i2b, 1)) (hq : pc + 1 = q)
    (hr : Go W n0 Q h k n q ls (.int x.toInt8.toInt32 :: st)) : Go W n0 Q h k n pc ls (.int x :: st) := by
  subst hq
  exact Go.stepX (fun T L a b tg X eT kk => XS.i2b X.here C.x rfl (hb C.b hd) rfl kk) hr
theorem Go.i2s (C : Cx Z W rm own nm bytes maxL ret) {x : Int32} (hd : decode bytes pc = .ok (.i2s, 1)) (hq : pc + 1 = q)
    (hr : Go W n0 Q h k n q ls (.int x.toInt16.toInt32 :: st)) : Go W n0 Q h k n pc ls (.int x :: st) := by
  subst hq
  exact Go.stepX (fun T L a b tg X eT kk => XS.i2s X.here C.x rfl (hb C.b hd) rfl kk) hr
theorem Go.i2c (C : Cx Z W rm own nm bytes maxL ret) {x : Int32} (hd : decode bytes pc = .ok (.i2c, 1)) (hq : pc + 1 = q)
    (hr : Go W n0 Q h k n q ls (.int x.toUInt32.toUInt16.toUInt32.toInt32 :: st)) : Go W n0 Q h k n pc ls (.int x :: st) := by
  subst hq
  exact Go.stepX (fun T L a b tg X eT kk => XS.i2c X.here C.x rfl (hb C.b hd) rfl kk) hr
theorem Go.ishl (C : Cx Z W rm own nm bytes maxL ret) {x : Int32} {y : Int32} (hd : decode bytes pc = .ok (.ishl, 1)) (hq : pc + 1 = q)
    (hr : Go W n0 Q h k n q ls (.int (x <<< (y &&& 31)) :: st)) : Go W n0 Q h k n pc ls (.int y :: .int x :: st) := by
  subst hq
  exact Go.stepX (fun T L a b tg X eT kk => XS.ishl X.here C.x rfl (hb C.b hd) rfl kk) hr
theorem Go.ishr (C : Cx Z W rm own nm bytes maxL ret) {x : Int32} {y : Int32} (hd : decode bytes pc = .ok (.ishr, 1)) (hq : pc + 1 = q)
    (hr : Go W n0 Q h k n q ls (.int (x >>> (y &&& 31)) :: st)) : Go W n0 Q h k n pc ls (.int y :: .int x :: st) := by
  subst hq
  exact Go.stepX (fun T L a b tg X eT kk => XS.ishr X.here C.x rfl (hb C.b hd) rfl kk) hr
theorem Go.iushr (C : Cx Z W rm own nm bytes maxL ret) {x : Int32} {y : Int32} (hd : decode bytes pc = .ok (.iushr, 1)) (hq : pc + 1 = q)
    (hr : Go W n0 Q h k n q ls (.int ((x.toUInt32 >>> (y &&& 31).toUInt32).toInt32) :: st)) : Go W n0 Q h k n pc ls (.int y :: .int x :: st) := by
  subst hq
  exact Go.stepX (fun T L a b tg X eT kk => XS.iushr X.here C.x rfl (hb C.b hd) rfl kk) hr
theorem Go.lshl (C : Cx Z W rm own nm bytes maxL ret) {x : Int64} {y : Int32} (hd : decode bytes pc = .ok (.lshl, 1)) (hq : pc + 1 = q)
    (hr : Go W n0 Q h k n q ls (.long (x <<< (y &&& 0x3f).toInt64) :: st)) : Go W n0 Q h k n pc ls (.int y :: .long x :: st) := by
  subst hq
  exact Go.stepX (fun T L a b tg X eT kk => XS.lshl X.here C.x rfl (hb C.b hd) rfl kk) hr
theorem Go.lshr (C : Cx Z W rm own nm bytes maxL ret) {x : Int64} {y : Int32} (hd : decode bytes pc = .ok (.lshr, 1)) (hq : pc + 1 = q)
    (hr : Go W n0 Q h k n q ls (.long (x >>> (y &&& 0x3f).toInt64) :: st)) : Go W n0 Q h k n pc ls (.int y :: .long x :: st) := by
  subst hq
  exact Go.stepX (fun T L a b tg X eT kk => XS.lshr X.here C.x rfl (hb C.b hd) rfl kk) hr
theorem Go.lushr (C : Cx Z W rm own nm bytes maxL ret) {x : Int64} {y : Int32} (hd : decode bytes pc = .ok (.lushr, 1)) (hq : pc + 1 = q)
    (hr : Go W n0 Q h k n q ls (.long ((x.toUInt64 >>> (y &&& 0x3f).toInt64.toUInt64).toInt64) :: st)) : Go W n0 Q h k n pc ls (.int y :: .long x :: st) := by
  subst hq
  exact Go.stepX (fun T L a b tg X eT kk => XS.lushr X.here C.x rfl (hb C.b hd) rfl kk) hr
theorem Go.i2d (C : Cx Z W rm own nm bytes maxL ret) {x : Int32} (hd : decode bytes pc = .ok (.i2d, 1)) (hq : pc + 1 = q)
    (hr : Go W n0 Q h k n q ls (.double (FP.l2d x.toInt64) :: st)) : Go W n0 Q h k n pc ls (.int x :: st) := by
  subst hq
  exact Go.stepX (fun T L a b tg X eT kk => XS.i2dS X.here C.x rfl (hb C.b hd) rfl (Jvm.RoadKit.i2d_w x) kk) hr
theorem Go.dcmp (C : Cx Z W rm own nm bytes maxL ret) {o : CmpOp} {x y : Int64} (hd : decode bytes pc = .ok (.dcmp o, 1)) (hq : pc + 1 = q) (hx : B53 x) (hy : B53 y)
    (hr : Go W n0 Q h k n q ls (.int (lcmpW x y) :: st)) : Go W n0 Q h k n pc ls (.double (FP.l2d y) :: .double (FP.l2d x) :: st) := by
  subst hq
  exact Go.stepX (fun T L a b tg X eT kk => XS.dcmpS X.here C.x rfl (hb C.b hd) rfl (dcmpV_w hx hy o) kk) hr
theorem Go.lcmp (C : Cx Z W rm own nm bytes maxL ret) {x y : Int64} (hd : decode bytes pc = .ok (.lcmp, 1)) (hq : pc + 1 = q)
    (hr : Go W n0 Q h k n q ls (.int (lcmpW x y) :: st)) : Go W n0 Q h k n pc ls (.long y :: .long x :: st) := by
  subst hq
  exact Go.stepX (fun T L a b tg X eT kk => XS.lcmp X.here C.x rfl (hb C.b hd) rfl kk) hr
theorem Go.pop (C : Cx Z W rm own nm bytes maxL ret) {x : Value} (hd : decode bytes pc = .ok (.pop, 1)) (hq : pc + 1 = q) (hc : x.category = 1)
    (hr : Go W n0 Q h k n q ls st) : Go W n0 Q h k n pc ls (x :: st) := by
  subst hq
  exact Go.stepX (fun T L a b tg X eT kk => XS.pop X.here C.x rfl (hb C.b hd) rfl hc kk) hr
theorem Go.dup (C : Cx Z W rm own nm bytes maxL ret) {x : Value} (hd : decode bytes pc = .ok (.dup, 1)) (hq : pc + 1 = q) (hc : x.category = 1)
    (hr : Go W n0 Q h k n q ls (x :: x :: st)) : Go W n0 Q h k n pc ls (x :: st) := by
  subst hq
  exact Go.stepX (fun T L a b tg X eT kk => XS.dup X.here C.x rfl (hb C.b hd) rfl hc kk) hr
theorem Go.dup2 (C : Cx Z W rm own nm bytes maxL ret) {x y : Value} (hd : decode bytes pc = .ok (.dup2, 1)) (hq : pc + 1 = q) (hc : x.category = 1) (hc' : y.category = 1)
    (hr : Go W n0 Q h k n q ls (x :: y :: x :: y :: st)) : Go W n0 Q h k n pc ls (x :: y :: st) := by
  subst hq
  exact Go.stepX (fun T L a b tg X eT kk => XT.dup2 X.here C.x rfl (hb C.b hd) rfl hc hc' kk) hr
theorem Go.goto (C : Cx Z W rm own nm bytes maxL ret) {o : Int} (hd : decode bytes pc = .ok (.goto o, 3)) (ho : 0 ≤ (pc : Int) + o) (hp : ((pc : Int) + o).toNat = q)
    (hr : Go W n0 Q h k n q ls st) : Go W n0 Q h k n pc ls st :=
  Go.stepX (fun T L a b tg X eT kk => XS.goto X.here C.x rfl (pc0 := pc) rfl (hb C.b hd) ho hp kk) hr
theorem Go.icmp (C : Cx Z W rm own nm bytes maxL ret) {cd : ClassFile.Cond} {o : Int} {x y : Int32} {qt : Nat} {P : Prop} [Decidable P] (hd : decode bytes pc = .ok (.if_icmp cd o, 3)) (hP : if_icmp.holds cd x y = decide P) (ho : 0 ≤ (pc : Int) + o) (hp : ((pc : Int) + o).toNat = qt) (hq : pc + 3 = q)
    (ht : P → Go W n0 Q h k n qt ls st) (hf : ¬ P → Go W n0 Q h k n q ls st) : Go W n0 Q h k n pc ls (.int y :: .int x :: st) := by
  subst hq
  by_cases p : P
  · exact Go.stepX (fun T L a b tg X eT kk => XS.icmpYes X.here C.x rfl (pc0 := pc) rfl (hb C.b hd) rfl (hP.trans (decide_eq_true p)) ho hp kk) (ht p)
  · exact Go.stepX (fun T L a b tg X eT kk => XS.icmpNo X.here C.x rfl (hb C.b hd) rfl (hP.trans (decide_eq_false p)) kk) (hf p)
theorem Go.if0 (C : Cx Z W rm own nm bytes maxL ret) {cd : ClassFile.Cond} {o : Int} {x : Int32} {qt : Nat} {P : Prop} [Decidable P] (hd : decode bytes pc = .ok (.ifCond cd o, 3)) (hP : ifCond.holds cd x = decide P) (ho : 0 ≤ (pc : Int) + o) (hp : ((pc : Int) + o).toNat = qt) (hq : pc + 3 = q)
    (ht : P → Go W n0 Q h k n qt ls st) (hf : ¬ P → Go W n0 Q h k n q ls st) : Go W n0 Q h k n pc ls (.int x :: st) := by
  subst hq
  by_cases p : P
  · exact Go.stepX (fun T L a b tg X eT kk => XS.ifYes X.here C.x rfl (pc0 := pc) rfl (hb C.b hd) rfl (hP.trans (decide_eq_true p)) ho hp kk) (ht p)
  · exact Go.stepX (fun T L a b tg X eT kk => XS.ifNo X.here C.x rfl (hb C.b hd) rfl (hP.trans (decide_eq_false p)) kk) (hf p)
theorem Go.ifnullY (C : Cx Z W rm own nm bytes maxL ret) {o : Int} (hd : decode bytes pc = .ok (.ifnull o, 3)) (ho : 0 ≤ (pc : Int) + o) (hp : ((pc : Int) + o).toNat = q)
    (hr : Go W n0 Q h k n q ls st) : Go W n0 Q h k n pc ls (.null :: st) :=
  Go.stepX (fun T L a b tg X eT kk => XS.ifnullYes X.here C.x rfl (pc0 := pc) rfl (hb C.b hd) rfl ho hp kk) hr
theorem Go.ifnullN (C : Cx Z W rm own nm bytes maxL ret) {o : Int} {a : Addr} (hd : decode bytes pc = .ok (.ifnull o, 3)) (hq : pc + 3 = q)
    (hr : Go W n0 Q h k n q ls st) : Go W n0 Q h k n pc ls (.ref a :: st) := by
  subst hq
  exact Go.stepX (fun T L a b tg X eT kk => XS.ifnullNo X.here C.x rfl (hb C.b hd) rfl kk) hr
theorem Go.ifnonnullY (C : Cx Z W rm own nm bytes maxL ret) {o : Int} {a : Addr} (hd : decode bytes pc = .ok (.ifnonnull o, 3)) (ho : 0 ≤ (pc : Int) + o) (hp : ((pc : Int) + o).toNat = q)
    (hr : Go W n0 Q h k n q ls st) : Go W n0 Q h k n pc ls (.ref a :: st) :=
  Go.stepX (fun T L a b tg X eT kk => XS.ifnonnullYes X.here C.x rfl (pc0 := pc) rfl (hb C.b hd) rfl ho hp kk) hr
theorem Go.ifnonnullN (C : Cx Z W rm own nm bytes maxL ret) {o : Int} (hd : decode bytes pc = .ok (.ifnonnull o, 3)) (hq : pc + 3 = q)
    (hr : Go W n0 Q h k n q ls st) : Go W n0 Q h k n pc ls (.null :: st) := by
  subst hq
  exact Go.stepX (fun T L a b tg X eT kk => XS.ifnonnullNo X.here C.x rfl (hb C.b hd) rfl kk) hr
theorem Go.acmp (C : Cx Z W rm own nm bytes maxL ret) {cd : ACond} {o : Int} {x y : Value} {same : Bool} (hd : decode bytes pc = .ok (.if_acmp cd o, 3)) (h1 : x.isRef = true) (h2 : y.isRef = true) (hs : decide (x = y) = same) (ho : 0 ≤ (pc : Int) + o) (hp : q = if acV cd same = true then ((pc : Int) + o).toNat else pc + 3)
    (hr : Go W n0 Q h k n q ls st) : Go W n0 Q h k n pc ls (y :: x :: st) :=
  Go.stepX (fun T L a b tg X eT kk => Jvm.RoadKit.acmp X C.x rfl h1 h2 (pc0 := pc) rfl (hb C.b hd) rfl hs ho hp kk) hr
theorem n_lt (x y : Int32) : if_icmp.holds .lt x y = decide (x < y) := rfl
theorem n_ge (x y : Int32) : if_icmp.holds .ge x y = decide (¬ x < y) := by simp [if_icmp.holds, Int32.not_lt]
theorem n_gt (x y : Int32) : if_icmp.holds .gt x y = decide (y < x) := rfl
theorem n_le (x y : Int32) : if_icmp.holds .le x y = decide (¬ y < x) := by simp [if_icmp.holds, Int32.not_lt]
theorem n_eq (x y : Int32) : if_icmp.holds .eq x y = decide (x = y) := by by_cases e : x = y <;> simp [if_icmp.holds, e]
theorem n_ne (x y : Int32) : if_icmp.holds .ne x y = decide (¬ x = y) := by by_cases e : x = y <;> simp [if_icmp.holds, e]
theorem z_lt (x : Int32) : ifCond.holds .lt x = decide (x < 0) := (if0 _ x).trans (n_lt x 0)
theorem z_ge (x : Int32) : ifCond.holds .ge x = decide (¬ x < 0) := (if0 _ x).trans (n_ge x 0)
theorem z_gt (x : Int32) : ifCond.holds .gt x = decide (0 < x) := (if0 _ x).trans (n_gt x 0)
theorem z_le (x : Int32) : ifCond.holds .le x = decide (¬ 0 < x) := (if0 _ x).trans (n_le x 0)
theorem z_eq (x : Int32) : ifCond.holds .eq x = decide (x = 0) := (if0 _ x).trans (n_eq x 0)
theorem z_ne (x : Int32) : ifCond.holds .ne x = decide (¬ x = 0) := (if0 _ x).trans (n_ne x 0)
theorem l_lt (x y : Int64) : ifCond.holds .lt (lcmpW x y) = decide (x < y) := by rw [z_lt]; exact decide_eq_decide.mpr (lw_lt x y)
theorem l_ge (x y : Int64) : ifCond.holds .ge (lcmpW x y) = decide (¬ x < y) := by rw [z_ge]; exact decide_eq_decide.mpr (not_congr (lw_lt x y))
theorem l_gt (x y : Int64) : ifCond.holds .gt (lcmpW x y) = decide (y < x) := by rw [z_gt]; exact decide_eq_decide.mpr (lw_gt x y)
theorem l_le (x y : Int64) : ifCond.holds .le (lcmpW x y) = decide (¬ y < x) := by rw [z_le]; exact decide_eq_decide.mpr (not_congr (lw_gt x y))
theorem l_eq (x y : Int64) : ifCond.holds .eq (lcmpW x y) = decide (x = y) := by rw [z_eq]; exact decide_eq_decide.mpr (lw_eq x y)
theorem l_ne (x y : Int64) : ifCond.holds .ne (lcmpW x y) = decide (¬ x = y) := by rw [z_ne]; exact decide_eq_decide.mpr (not_congr (lw_eq x y))
theorem nar_b (x : Int32) : nar .byte x.toInt8.toInt32 = x.toInt8.toInt32 := by
  show x.toInt8.toInt32.toInt8.toInt32 = _
  simp
/-- what the law's own walk leaves -/
def QL : Option Value → Heap → Prop := fun v _ => v = some (.int 1)
/-! the ends -/
theorem Go.out {v : Option Value} (f : ∀ T L a b fs, St W T L a b → (∀ (g : JFrame) (acts : List Action), g.method = W.m → g.locked = none → g.entered = [] → (doReturn W.e (T.setTop g) acts v).1 = T.setFrames fs) → Sp W (T.setTop (mkF W.m pc ls st)) (T.setFrames fs)) (hv : W.meth.sig.returnType = none → v = none) (hlk : W.meth.locks = false) (hk : k ≤ W.R.cells) (hn : n ≤ W.R.slots) (hQ : Q v h) : Go W n0 Q h k n pc ls st := by
  intro T L a b X ha hb N eT
  obtain ⟨fs, hr, hrun, hended, hW, hsame⟩ := X.leave (v := v) hv hlk
  refine ⟨_, _, f T L a b fs X hr, hrun, hended, v, L, rfl, ⟨N, ?_⟩, ⟨_, rfl⟩, hW, hsame.mono (Nat.le_trans ha hk) (Nat.le_trans hb hn)⟩
  have e1 : (T.setFrames fs).heap = T.heap := rfl
  rw [e1, eT]
  exact hQ
theorem Go.retI (C : Cx Z W rm own nm bytes maxL (some .int)) {x : Int32} (hd : decode bytes pc = .ok (.ireturn, 1)) (hk : k ≤ rm.cells) (hn : n ≤ rm.slots) (hQ : Q (some (.int x)) h) : Go W n0 Q h k n pc ls (.int x :: st) :=
  Go.out (v := some (.int x)) (fun T L a b fs X hr => Jvm.RoadKit.retI X C.x C.re (hb C.b hd) hr) (fun e => by rw [C.re] at e; cases e) C.lk (by rw [C.ro]; exact hk) (by rw [C.ro]; exact hn) hQ
theorem Go.retZ {t : FieldType} (ht : t = .boolean ∨ t = .byte ∨ t = .char ∨ t = .short) (C : Cx Z W rm own nm bytes maxL (some t)) {x : Int32} (hd : decode bytes pc = .ok (.ireturn, 1)) (hk : k ≤ rm.cells) (hn : n ≤ rm.slots) (hQ : Q (some (.int (nar t x))) h) : Go W n0 Q h k n pc ls (.int x :: st) :=
  Go.out (v := some (.int (nar t x))) (fun T L a b fs X hr => retN X C.x (t := t) C.re ht (hb C.b hd) hr) (fun e => by rw [C.re] at e; cases e) C.lk (by rw [C.ro]; exact hk) (by rw [C.ro]; exact hn) hQ
theorem Go.retV (C : Cx Z W rm own nm bytes maxL none) (hd : decode bytes pc = .ok (.return_, 1)) (hk : k ≤ rm.cells) (hn : n ≤ rm.slots) (hQ : Q none h) : Go W n0 Q h k n pc ls [] :=
  Go.out (v := none) (fun T L a b fs X hr => X.returnOut C.x C.re (hb C.b hd) hr) (fun _ => rfl) C.lk (by rw [C.ro]; exact hk) (by rw [C.ro]; exact hn) hQ
theorem Go.retJ (C : Cx Z W rm own nm bytes maxL (some .long)) {x : Int64} (hd : decode bytes pc = .ok (.lreturn, 1)) (hk : k ≤ rm.cells) (hn : n ≤ rm.slots) (hQ : Q (some (.long x)) h) : Go W n0 Q h k n pc ls [.long x] :=
  Go.out (v := some (.long x)) (fun T L a b fs X hr => Stand.lreturnOut X C.x C.re (hb C.b hd) hr) (fun e => by rw [C.re] at e; cases e) C.lk (by rw [C.ro]; exact hk) (by rw [C.ro]; exact hn) hQ
theorem Go.retR {t : FieldType} (C : Cx Z W rm own nm bytes maxL (some t)) {v : Value} (hd : decode bytes pc = .ok (.areturn, 1)) (ht : t.isReference = true) (hv : v.isRef = true) (hnw : narrow t v = v) (hk : k ≤ rm.cells) (hn : n ≤ rm.slots) (hQ : Q (some v) h) : Go W n0 Q h k n pc ls (v :: st) :=
  Go.out (v := some v) (fun T L a b fs X hr => retOut X C.x (t := t) (i := .areturn) C.re hnw (Or.inr (Or.inr (Or.inr (Or.inr ⟨rfl, ht, hv⟩)))) (hb C.b hd) hr) (fun e => by rw [C.re] at e; cases e) C.lk (by rw [C.ro]; exact hk) (by rw [C.ro]; exact hn) hQ
/-! the calls -/
theorem met_weak {l : Launch} {y : MethodName} {as : Array Value} {Q' : Option Value → Heap → Prop} (M : Met1 l Z y bytes maxL ret [] rm as h n0 Q) (hQ : ∀ v h', Q v h' → Q' v h') : Met1 l Z y bytes maxL ret [] rm as h n0 Q' := by
  intro p e ha hc hk s m args below hf happ hP hK
  obtain ⟨n, o, h1, h2, h3, v, L, h4, ⟨h5, h6⟩, h7⟩ := M p e ha hc hk s m args below hf happ hP hK
  exact ⟨n, o, h1, h2, h3, v, L, h4, ⟨h5, hQ _ _ h6⟩, h7⟩
theorem Go.callS (C : Cx Z W rm own nm bytes maxL ret) {index : Nat} {y : MethodName} {bytes' : ByteArray} {maxL' : Nat} {ret' : Option FieldType} {rm' : Room} {argsL : List Value} {Q' : Option Value → Heap → Prop} {ps : List FieldType} {rt : Option FieldType} {stk : List Value} {k' n' w : Nat}
    (wl : (Jvm.Cond.methodLink own index y).before a0 Z = true) (wst : (Jvm.Cond.static y).before a0 Z = true) (wi : (Jvm.Cond.initialized y.cls).before a0 Z = true) (wc : (Jvm.Cond.code y bytes' maxL' ret').before a0 Z = true)
    (M : Met1 W.l Z y bytes' maxL' ret' [] rm' argsL.toArray h n0 Q') (hd : decode bytes pc = .ok (.invokestatic index, 3)) (hpd : parseMethodDescriptor y.desc = some ⟨ps, rt⟩) (hq : pc + 3 = q) (hls : ls.size = maxL) (hstk : stk = argsL.reverse ++ st) (hlen : argsL.length = ps.length)
    (hw : (st.map fun v => v.category).sum = w) (hfr : rm'.frames + 1 ≤ rm.frames) (hlo : w + (maxL' + 11) + rm'.locals ≤ rm.locals) (hk : k + rm'.cells = k') (hn : n + rm'.slots = n') (hk' : k' ≤ rm.cells) (hn' : n' ≤ rm.slots)
    (hr : ∀ v h', Q' v h' → Go W n0 Q h' k' n' q ls (v.toList ++ st)) (hy : y.cls ≠ "java/lang/invoke/MethodHandle" ∧ y.cls ≠ "java/lang/invoke/VarHandle" := by decide) : Go W n0 Q h k n pc ls stk := by
  subst hstk hq hk hn hw
  intro T L a b X ha hb' N eT
  have e1 := C.ro
  obtain ⟨v, _, ⟨T2, L2, k2, n2⟩, -, X2, ⟨Lc, ⟨N2, hQ2⟩, l2, y2, z2⟩, sp⟩ := Jvm.LawKit.callS X C.x (y := y) C.ow (mvT C.z wl) (mvT C.z wst) (mvT C.z wi) (mvT C.z wc) hy
    (backOf (W := (st.map fun v => v.category).sum) (Q := fun v h L => Fr n0 L ∧ Q' v h) M C.z wc wi (by rw [e1]; exact hfr) (by rw [e1]; exact hlo)) (g := mkF W.m pc ls (argsL.reverse ++ st)) rfl (by rw [C.ml]; exact hls) (argsL := argsL) (rest := st) (lenOf hpd hlen) rfl (by show 2 * 0 + (st.map fun v => v.category).sum ≤ (st.map fun v => v.category).sum; omega) (hb C.b hd) (fun _ _ => ⟨rfl, eT, by rw [e1]; show a + _ ≤ _; omega, by rw [e1]; show b + _ ≤ _; omega⟩)
  dsimp only [Pt.U, Pt.locs, Pt.cells, Pt.slots] at X2 l2 y2 z2 sp hQ2
  subst l2 y2 z2
  obtain ⟨s₂, o, hs, r⟩ := hr v _ hQ2 T2 _ _ _ X2 (by omega) (by omega) (Fr.app N N2) rfl
  exact ⟨s₂, o, sp _ hs, r⟩
/-- what a callee that changes nothing leaves -/
def Ret (w : Value) (h : Heap) : Option Value → Heap → Prop := fun v h' => v = some w ∧ h' = h
theorem Go.pureS (C : Cx Z W rm own nm bytes maxL ret) {index : Nat} {y : MethodName} {bytes' : ByteArray} {maxL' : Nat} {ret' : Option FieldType} {fr lo : Nat} {argsL : List Value} {res : Value} {ps : List FieldType} {rt : Option FieldType} {stk : List Value} {w : Nat}
    (wl : (Jvm.Cond.methodLink own index y).before a0 Z = true) (wst : (Jvm.Cond.static y).before a0 Z = true) (wi : (Jvm.Cond.initialized y.cls).before a0 Z = true) (wc : (Jvm.Cond.code y bytes' maxL' ret').before a0 Z = true)
    (M : Met1 W.l Z y bytes' maxL' ret' [] ({ frames := fr, cells := 0, slots := 0, locals := lo } : Room) argsL.toArray h n0 (Ret res h)) (hd : decode bytes pc = .ok (.invokestatic index, 3)) (hpd : parseMethodDescriptor y.desc = some ⟨ps, rt⟩) (hq : pc + 3 = q) (hls : ls.size = maxL) (hstk : stk = argsL.reverse ++ st) (hlen : argsL.length = ps.length)
    (hw : (st.map fun v => v.category).sum = w) (hfr : fr + 1 ≤ rm.frames) (hlo : w + (maxL' + 11) + lo ≤ rm.locals) (hk' : k ≤ rm.cells) (hn' : n ≤ rm.slots)
    (hr : Go W n0 Q h k n q ls (res :: st)) (hy : y.cls ≠ "java/lang/invoke/MethodHandle" ∧ y.cls ≠ "java/lang/invoke/VarHandle" := by decide) : Go W n0 Q h k n pc ls stk :=
  Go.callS C wl wst wi wc M hd hpd hq hls hstk hlen hw hfr hlo rfl rfl hk' hn' (fun v h' q => by obtain ⟨rfl, rfl⟩ := q; exact hr) hy
theorem Go.callC (C : Cx Z W rm own nm bytes maxL ret) {index : Nat} {y : MethodName} {bytes' : ByteArray} {maxL' : Nat} {rm' : Room} {argsL : List Value} {Q' : Option Value → Heap → Prop} {ps : List FieldType} {rt : Option FieldType} {stk : List Value} {k' n' w : Nat} {a : Addr}
    (hy1 : y.name = "<init>") (wl : (Jvm.Cond.methodLink own index y).before a0 Z = true) (wst : (Jvm.Cond.instanceMethod y).before a0 Z = true) (wi : (Jvm.Cond.initialized y.cls).before a0 Z = true) (wc : (Jvm.Cond.code y bytes' maxL' none).before a0 Z = true)
    (M : Met1 W.l Z y bytes' maxL' none [] rm' (.ref a :: argsL).toArray h n0 Q') (hd : decode bytes pc = .ok (.invokespecial index, 3)) (hpd : parseMethodDescriptor y.desc = some ⟨ps, rt⟩) (hq : pc + 3 = q) (hls : ls.size = maxL) (hstk : stk = argsL.reverse ++ .ref a :: st) (hlen : argsL.length = ps.length)
    (hw : (st.map fun v => v.category).sum = w) (hfr : rm'.frames + 1 ≤ rm.frames) (hlo : w + (maxL' + 11) + rm'.locals ≤ rm.locals) (hk : k + rm'.cells = k') (hn : n + rm'.slots = n') (hk' : k' ≤ rm.cells) (hn' : n' ≤ rm.slots)
    (hr : ∀ v h', Q' v h' → Go W n0 Q h' k' n' q ls (v.toList ++ st)) (hy : y.cls ≠ "java/lang/invoke/MethodHandle" ∧ y.cls ≠ "java/lang/invoke/VarHandle" := by decide) : Go W n0 Q h k n pc ls stk := by
  subst hstk hq hk hn hw
  intro T L i j X ha hb' N eT
  have e1 := C.ro
  obtain ⟨v, _, ⟨T2, L2, k2, n2⟩, -, X2, ⟨Lc, ⟨N2, hQ2⟩, l2, y2, z2⟩, sp⟩ := X.specialBack C.x (y := y) hy1 C.ow (mvT C.z wl) (mvT C.z wst) (mvT C.z wc) hy
    (backOf (W := (st.map fun v => v.category).sum) (Q := fun v h L => Fr n0 L ∧ Q' v h) M C.z wc wi (by rw [e1]; exact hfr) (by rw [e1]; exact hlo)) (g := mkF W.m pc ls (argsL.reverse ++ .ref a :: st)) rfl (by rw [C.ml]; exact hls) (Steps.refl _) (a := a) (argsL := argsL) (rest := st) (lenOf hpd hlen) rfl (by show 2 * 0 + (st.map fun v => v.category).sum ≤ (st.map fun v => v.category).sum; omega) (hb C.b hd) (fun _ _ => ⟨rfl, eT, by rw [e1]; show i + _ ≤ _; omega, by rw [e1]; show j + _ ≤ _; omega⟩)
  dsimp only [Pt.U, Pt.locs, Pt.cells, Pt.slots] at X2 l2 y2 z2 sp hQ2
  subst l2 y2 z2
  obtain ⟨s₂, o, hs, r⟩ := hr v _ hQ2 T2 _ _ _ X2 (by omega) (by omega) (Fr.app N N2) rfl
  exact ⟨s₂, o, sp.trans hs, r⟩
theorem Go.callV (C : Cx Z W rm own nm bytes maxL ret) {index : Nat} {y z : MethodName} {K : String} {bytes' : ByteArray} {maxL' : Nat} {ret' : Option FieldType} {rm' : Room} {argsL : List Value} {Q' : Option Value → Heap → Prop} {ps : List FieldType} {rt : Option FieldType} {stk : List Value} {k' n' w : Nat} {a : Addr}
    (E : Exa Z h a K) (wl : (Jvm.Cond.methodLink own index y).before a0 Z = true) (wdc : (Jvm.Cond.declares y).before a0 Z = true) (hnf : NotFace W.s y) (wse : (Jvm.Cond.selects K y z).before a0 Z = true) (wst : (Jvm.Cond.instanceMethod z).before a0 Z = true) (wi : (Jvm.Cond.initialized z.cls).before a0 Z = true) (wc : (Jvm.Cond.code z bytes' maxL' ret').before a0 Z = true)
    (M : Met1 W.l Z z bytes' maxL' ret' [] rm' (.ref a :: argsL).toArray h n0 Q') (hd : decode bytes pc = .ok (.invokevirtual index, 3)) (hpd : parseMethodDescriptor y.desc = some ⟨ps, rt⟩) (hq : pc + 3 = q) (hls : ls.size = maxL) (hstk : stk = argsL.reverse ++ .ref a :: st) (hlen : argsL.length = ps.length)
    (hw : (st.map fun v => v.category).sum = w) (hfr : rm'.frames + 1 ≤ rm.frames) (hlo : w + (maxL' + 11) + rm'.locals ≤ rm.locals) (hk : k + rm'.cells = k') (hn : n + rm'.slots = n') (hk' : k' ≤ rm.cells) (hn' : n' ≤ rm.slots)
    (hr : ∀ v h', Q' v h' → Go W n0 Q h' k' n' q ls (v.toList ++ st)) (hy : y.cls ≠ "java/lang/invoke/MethodHandle" ∧ y.cls ≠ "java/lang/invoke/VarHandle" := by decide) : Go W n0 Q h k n pc ls stk := by
  subst hstk hq hk hn hw
  intro T L i j X ha hb' N eT
  have e1 := C.ro
  obtain ⟨cq, kq, qa, qb, qc⟩ := isOf (s := W.s) C.z eT E
  obtain ⟨v, _, ⟨T2, L2, k2, n2⟩, -, X2, ⟨Lc, ⟨N2, hQ2⟩, l2, y2, z2⟩, sp⟩ := X.virtualBack C.x (y := y) (z := z) C.ow (mvT C.z wl) (mvT C.z wdc) hnf (mvT C.z wse) (mvT C.z wst) hy
    (backOf (W := (st.map fun v => v.category).sum) (Q := fun v h L => Fr n0 L ∧ Q' v h) M C.z wc wi (by rw [e1]; exact hfr) (by rw [e1]; exact hlo)) qa qc (g := mkF W.m pc ls (argsL.reverse ++ .ref a :: st)) rfl (by rw [C.ml]; exact hls) (Steps.refl _) (argsL := argsL) (rest := st) (lenOf hpd hlen) rfl (by show 2 * 0 + (st.map fun v => v.category).sum ≤ (st.map fun v => v.category).sum; omega) (hb C.b hd) (fun _ _ => ⟨rfl, eT, by rw [e1]; show i + _ ≤ _; omega, by rw [e1]; show j + _ ≤ _; omega⟩)
  dsimp only [Pt.U, Pt.locs, Pt.cells, Pt.slots] at X2 l2 y2 z2 sp hQ2
  subst l2 y2 z2
  obtain ⟨s₂, o, hs, r⟩ := hr v _ hQ2 T2 _ _ _ X2 (by omega) (by omega) (Fr.app N N2) rfl
  exact ⟨s₂, o, sp.trans hs, r⟩
theorem Go.pureV (C : Cx Z W rm own nm bytes maxL ret) {index : Nat} {y : MethodName} {K : String} {bytes' : ByteArray} {maxL' : Nat} {ret' : Option FieldType} {fr lo : Nat} {argsL : List Value} {res : Value} {ps : List FieldType} {rt : Option FieldType} {stk : List Value} {w : Nat} {a : Addr}
    (E : Exa Z h a K) (wl : (Jvm.Cond.methodLink own index y).before a0 Z = true) (wdc : (Jvm.Cond.declares y).before a0 Z = true) (wse : (Jvm.Cond.selects K y y).before a0 Z = true) (wst : (Jvm.Cond.instanceMethod y).before a0 Z = true) (wi : (Jvm.Cond.initialized y.cls).before a0 Z = true) (wc : (Jvm.Cond.code y bytes' maxL' ret').before a0 Z = true)
    (M : Met1 W.l Z y bytes' maxL' ret' [] ({ frames := fr, cells := 0, slots := 0, locals := lo } : Room) (.ref a :: argsL).toArray h n0 (Ret res h)) (hd : decode bytes pc = .ok (.invokevirtual index, 3)) (hpd : parseMethodDescriptor y.desc = some ⟨ps, rt⟩) (hq : pc + 3 = q) (hls : ls.size = maxL) (hstk : stk = argsL.reverse ++ .ref a :: st) (hlen : argsL.length = ps.length)
    (hw : (st.map fun v => v.category).sum = w) (hfr : fr + 1 ≤ rm.frames) (hlo : w + (maxL' + 11) + lo ≤ rm.locals) (hk' : k ≤ rm.cells) (hn' : n ≤ rm.slots)
    (hr : Go W n0 Q h k n q ls (res :: st)) (hy : y.cls ≠ "java/lang/invoke/MethodHandle" ∧ y.cls ≠ "java/lang/invoke/VarHandle" := by decide) : Go W n0 Q h k n pc ls stk :=
  Go.callV C E wl wdc (notFace_of_selects (args := #[]) (mvT C.z wse)) wse wst wi wc M hd hpd hq hls hstk hlen hw hfr hlo rfl rfl hk' hn' (fun v h' q => by obtain ⟨rfl, rfl⟩ := q; exact hr) hy
/-- a private method, by invokevirtual; zz: any method of its class of which the sheet says what it selects (so the class is no interface) -/
theorem Go.callP (C : Cx Z W rm own nm bytes maxL ret) {index : Nat} {y zz : MethodName} {K KK : String} {bytes' : ByteArray} {maxL' : Nat} {ret' : Option FieldType} {rm' : Room} {argsL : List Value} {Q' : Option Value → Heap → Prop} {ps : List FieldType} {rt : Option FieldType} {stk : List Value} {k' n' w : Nat} {a : Addr}
    (E : Exa Z h a K) (wl : (Jvm.Cond.methodLink own index y).before a0 Z = true) (wse : (Jvm.Cond.selects KK zz zz).before a0 Z = true) (hzz : zz.cls = y.cls) (wpr : (Jvm.Cond.privateMethod y).before a0 Z = true) (wst : (Jvm.Cond.instanceMethod y).before a0 Z = true) (wi : (Jvm.Cond.initialized y.cls).before a0 Z = true) (wc : (Jvm.Cond.code y bytes' maxL' ret').before a0 Z = true)
    (M : Met1 W.l Z y bytes' maxL' ret' [] rm' (.ref a :: argsL).toArray h n0 Q') (hd : decode bytes pc = .ok (.invokevirtual index, 3)) (hpd : parseMethodDescriptor y.desc = some ⟨ps, rt⟩) (hq : pc + 3 = q) (hls : ls.size = maxL) (hstk : stk = argsL.reverse ++ .ref a :: st) (hlen : argsL.length = ps.length)
    (hw : (st.map fun v => v.category).sum = w) (hfr : rm'.frames + 1 ≤ rm.frames) (hlo : w + (maxL' + 11) + rm'.locals ≤ rm.locals) (hk : k + rm'.cells = k') (hn : n + rm'.slots = n') (hk' : k' ≤ rm.cells) (hn' : n' ≤ rm.slots)
    (hr : ∀ v h', Q' v h' → Go W n0 Q h' k' n' q ls (v.toList ++ st)) (hy : y.cls ≠ "java/lang/invoke/MethodHandle" ∧ y.cls ≠ "java/lang/invoke/VarHandle" := by decide) : Go W n0 Q h k n pc ls stk := by
  subst hstk hq hk hn hw
  intro T L i j X ha hb' N eT
  have e1 := C.ro
  obtain ⟨cell, hcell, hobj⟩ := E.cell
  rw [← eT] at hcell
  obtain ⟨mk, methM, hnamed, hmethM, hstM, habM⟩ := Cond.instanceMethod_spec (mvT (args := #[]) C.z wst)
  obtain ⟨methM', cM, hmethM', -, -, -, -, -, -, hsigM⟩ := Cond.code_spec hnamed (mvT (args := #[]) C.z wc)
  cases hmethM.symm.trans hmethM'
  obtain ⟨c2, r2, m2, -, -, q3, -, kP, hkP, hkPi⟩ := Cond.selects_spec (mvT (args := #[]) C.z wse)
  have ec : m2.cls = mk.cls := by
    have u1 := findClass_of_methodNamed q3
    have u2 := findClass_of_methodNamed hnamed
    rw [hzz] at u1
    exact Option.some.inj (u1.symm.trans u2)
  rw [ec] at hkP
  have hsel := selectMethod_private (p := W.e.platform) (c := cell.cls) hmethM (Cond.privateMethod_at (mvP C.z wpr (args := #[])) mk methM hnamed hmethM)
  obtain ⟨vm₁, X₁, hst⟩ := X.invokevirtual C.x C.ow (mvT C.z wl) hnamed hmethM hstM hkP hkPi hy (a := a) (cell := cell) hcell hobj hsel hmethM habM hkP hkPi (g := mkF W.m pc ls (argsL.reverse ++ .ref a :: st)) rfl (argsL := argsL) (rest := st) (lenOf hpd hlen _ hsigM) rfl (hb C.b hd)
  obtain ⟨v, ⟨T2, L2, k2, n2⟩, X2, ⟨Lc, ⟨N2, hQ2⟩, l2, y2, z2⟩, sp⟩ := backOf (len := 3) (W := (st.map fun v => v.category).sum) (Q := fun v h L => Fr n0 L ∧ Q' v h) M C.z wc wi (by rw [e1]; exact hfr) (by rw [e1]; exact hlo) W.m W.meth W.c ⟨T.setVm vm₁, L, i, j⟩ (mkF W.m pc ls st) (.invokevirtual index) mk (.ref a :: argsL).toArray X₁ rfl (by rw [C.ml]; exact hls) (hb C.b hd) (by show 2 * 0 + (st.map fun v => v.category).sum ≤ (st.map fun v => v.category).sum; omega) (X₁.named hnamed) ⟨rfl, eT, by rw [e1]; show i + _ ≤ _; omega, by rw [e1]; show j + _ ≤ _; omega⟩
  dsimp only [Pt.U, Pt.locs, Pt.cells, Pt.slots] at X2 l2 y2 z2 sp hQ2
  subst l2 y2 z2
  obtain ⟨s₂, o, hs, r⟩ := hr v _ hQ2 T2 _ _ _ X2 (by omega) (by omega) (Fr.app N N2) rfl
  exact ⟨s₂, o, (hst _ fun acts => by rw [doInvoke_state]; exact Steps.refl _).trans (sp.trans hs), r⟩
/-! the heap -/
theorem Go.initO (C : Cx Z W rm own nm bytes maxL ret) {index w : Nat} {a : Addr} (w1 : (Jvm.Cond.methodLink own index Lib.objectInit).before a0 Z = true) (w2 : (Jvm.Cond.instanceMethod Lib.objectInit).before a0 Z = true) (w3 : (Jvm.Cond.code Lib.objectInit ⟨#[0xb1]⟩ 1 none).before a0 Z = true)
    (hd : decode bytes pc = .ok (.invokespecial index, 3)) (hq : pc + 3 = q) (hls : ls.size = maxL) (hw : (st.map fun v => v.category).sum = w) (hfr : 1 ≤ rm.frames) (hlo : w + 12 ≤ rm.locals) (hr : Go W n0 Q h k n q ls st) : Go W n0 Q h k n pc ls (.ref a :: st) := by
  subst hq hw
  exact Go.stepT (fun T L i j X eT => Jvm.RoadKit.initO X C.x C.z C.ow w1 w2 w3 eT (g := mkF W.m pc ls (.ref a :: st)) rfl (by rw [C.ml]; exact hls) rfl (hb C.b hd) (by rw [C.ro]; exact hfr) (W := (st.map fun v => v.category).sum) (by show 2 * 0 + (st.map fun v => v.category).sum ≤ (st.map fun v => v.category).sum; omega) (by rw [C.ro]; exact hlo)) hr
theorem Go.getF (C : Cx Z W rm own nm bytes maxL ret) {R0 O f d host : String} {index : Nat} {a : Addr} {v : Value} (w : (Jvm.Cond.fieldLink own index R0 f d).before a0 Z = true ∨ (Jvm.Cond.fieldLinkNest own index R0 f d host).before a0 Z = true) (via : Via Z R0 O f d) (F : Fld Z h a O f d v)
    (hd : decode bytes pc = .ok (.getfield index, 3)) (hq : pc + 3 = q) (hr : Go W n0 Q h k n q ls (v :: st)) : Go W n0 Q h k n pc ls (.ref a :: st) := by
  subst hq
  exact Go.stepT (fun T L i j X eT => Jvm.RoadKit.getF X C.x C.z C.ow w via eT F (g := mkF W.m pc ls (.ref a :: st)) rfl rfl (hb C.b hd)) hr
theorem Go.getS (C : Cx Z W rm own nm bytes maxL ret) {R0 O f d : String} {index : Nat} {v : Value} (w : (Jvm.Cond.fieldLink own index R0 f d).before a0 Z = true) (via : Via Z R0 O f d) (F : Sta Z h O f d v)
    (hd : decode bytes pc = .ok (.getstatic index, 3)) (hq : pc + 3 = q) (hr : Go W n0 Q h k n q ls (v :: st)) : Go W n0 Q h k n pc ls st := by
  subst hq
  exact Go.stepT (fun T L i j X eT => Jvm.RoadKit.getS X C.x C.z (host := "") C.ow w via eT F (g := mkF W.m pc ls st) rfl (hb C.b hd)) hr
theorem Go.putF (C : Cx Z W rm own nm bytes maxL ret) {R0 O f d host K : String} {index kk : Nat} {ty : FieldType} {a : Addr} {v old : Value} (w : (Jvm.Cond.fieldLink own index R0 f d).before a0 Z = true ∨ (Jvm.Cond.fieldLinkNest own index R0 f d host).before a0 Z = true) (via : Via Z R0 O f d) (F : Fld Z h a O f d old) (E : Exa Z h a K)
    (Lw : (Jvm.Cond.lays K O f d).before a0 Z = true ∨ ((Jvm.Cond.laysFinal K O f d).before a0 Z = true ∧ own = O ∧ nm = "<init>")) (wi : (Jvm.Cond.instantiable K kk).before a0 Z = true) (hty : parseFieldDescriptor d = some ty) (hn : narrow ty v = v) (hf : fits ty v = true) (ha : n0 ≤ a)
    (hd : decode bytes pc = .ok (.putfield index, 3)) (hq : pc + 3 = q) (hr : ∀ h', Wr h h' a (Jvm.RoadKit.slotOf Z O f d) v → Go W n0 Q h' k n q ls st) : Go W n0 Q h k n pc ls (v :: .ref a :: st) := by
  subst hq
  intro T L i j X hk hn' N eT
  obtain ⟨T', h', X', e', W', sp⟩ := Jvm.RoadKit.putF X C.x C.z C.ow w via eT F E (Lw.imp id fun z => ⟨z.1, z.2.1, C.na.trans z.2.2⟩) wi hty hn hf (g := mkF W.m pc ls (v :: .ref a :: st)) rfl rfl (hb C.b hd)
  obtain ⟨s₂, o, hs, r⟩ := hr h' W' T' _ _ _ X' hk hn' (Fr.snoc X' N ha) e'
  exact ⟨s₂, o, sp _ hs, r⟩
theorem Go.newO (C : Cx Z W rm own nm bytes maxL ret) {K : String} {index sz k' n' : Nat} (w : (Jvm.Cond.classLink own index K).before a0 Z = true) (wi : (Jvm.Cond.instantiable K sz).before a0 Z = true) (wz : (Jvm.Cond.initialized K).before a0 Z = true)
    (hd : decode bytes pc = .ok (.new index, 3)) (hq : pc + 3 = q) (hk : k + 1 = k') (hn : n + sz = n') (hk' : k' ≤ rm.cells) (hn' : n' ≤ rm.slots)
    (hr : ∀ h' a, a = h.size → Ext h h' → Exa Z h' a K → (∀ {O f d : String} {ty : FieldType}, Laid Z a0 K O f d → parseFieldDescriptor d = some ty → Fld Z h' a O f d (defaultValue ty)) → Go W n0 Q h' k' n' q ls (.ref a :: st)) : Go W n0 Q h k n pc ls st := by
  subst hq hk hn
  intro T L i j X hk0 hn0 N eT
  have e1 := C.ro
  obtain ⟨T', h', X', e', E', A', D', -, sp⟩ := Jvm.RoadKit.newO X C.x C.z C.ow w wi wz eT (g := mkF W.m pc ls st) rfl (hb C.b hd) (by rw [e1]; omega) (by rw [e1]; omega)
  obtain ⟨s₂, o, hs, r⟩ := hr h' _ rfl E' A' D' T' _ _ _ X' (by omega) (by omega) N e'
  exact ⟨s₂, o, sp _ hs, r⟩
theorem Go.newP (C : Cx Z W rm own nm bytes maxL ret) {aty : ArrayType} {z : Int32} {cap k' n' : Nat} (w : (Jvm.Cond.arrayClass (newarray.typeOf aty)).before a0 Z = true) (hz : ¬ z < 0) (hcap : z.toNatClampNeg ≤ cap) (hbig : cap * 8 ≤ 536870912)
    (hd : decode bytes pc = .ok (.newarray aty, 2)) (hq : pc + 2 = q) (hk : k + 1 = k') (hn : n + cap = n') (hk' : k' ≤ rm.cells) (hn' : n' ≤ rm.slots)
    (hr : ∀ h' a cA, a = h.size → Ext h h' → Arv Z h' a cA (newarray.typeOf aty) z [] (defaultValue (newarray.typeOf aty)) → Go W n0 Q h' k' n' q ls (.ref a :: st)) : Go W n0 Q h k n pc ls (.int z :: st) := by
  subst hq hk hn
  intro T L i j X hk0 hn0 N eT
  have e1 := C.ro
  obtain ⟨T', h', cA, X', e', E', A', sp⟩ := Jvm.RoadKit.newP X C.x C.z w eT (g := mkF W.m pc ls (.int z :: st)) rfl (hb C.b hd) rfl hz hcap hbig (by rw [e1]; omega) (by rw [e1]; omega)
  obtain ⟨s₂, o, hs, r⟩ := hr h' _ cA rfl E' (Arv.new A' hz) T' _ _ _ X' (by omega) (by omega) N e'
  exact ⟨s₂, o, sp _ hs, r⟩

/-! arrays: the length n, the values f -/
def Av (Z : State) (h : Heap) (a : Addr) (ty : FieldType) (len : Nat) (f : Nat → Value) : Prop := ∃ c : Cell, Arr Z h a c ty ∧ c.slots.size = len ∧ len < 2 ^ 31 ∧ ∀ i, i < len → c.slots[i]? = some (f i)
def upd {α : Type} (f : Nat → α) (j : Nat) (v : α) : Nat → α := fun i => if i = j then v else f i
theorem upd_eq {α : Type} (f : Nat → α) (j : Nat) (v : α) : upd f j v j = v := if_pos rfl
theorem upd_ne {α : Type} (f : Nat → α) {j i : Nat} (v : α) (e : i ≠ j) : upd f j v i = f i := if_neg e
theorem Av.lt {a : Addr} {ty : FieldType} {len : Nat} {f : Nat → Value} (F : Av Z h a ty len f) : a < h.size := by obtain ⟨c, A, -⟩ := F; exact A.lt
theorem Av.ext {a : Addr} {ty : FieldType} {len : Nat} {f : Nat → Value} {h' : Heap} (F : Av Z h a ty len f) (E : Ext h h') : Av Z h' a ty len f := by obtain ⟨c, A, r⟩ := F; exact ⟨c, A.ext E, r⟩
theorem Av.other {a b : Addr} {ty : FieldType} {len sl : Nat} {v : Value} {f : Nat → Value} {h' : Heap} (F : Av Z h b ty len f) (W : Wr h h' a sl v) (e : b ≠ a) : Av Z h' b ty len f := by obtain ⟨c, A, r⟩ := F; exact ⟨c, A.other W e, r⟩
theorem Av.keep {a : Addr} {ty : FieldType} {len : Nat} {f : Nat → Value} {h' : Heap} {ws : List Addr} (F : Av Z h a ty len f) (K : Keep h h' ws) (e : a ∉ ws) : Av Z h' a ty len f := by obtain ⟨c, A, r⟩ := F; exact ⟨c, ⟨K.2.1 a c A.1 e, A.2⟩, r⟩
theorem Av.same {a : Addr} {ty : FieldType} {len j : Nat} {v : Value} {f : Nat → Value} {h' : Heap} (F : Av Z h a ty len f) (W : Wr h h' a j v) : Av Z h' a ty len (upd f j v) := by
  obtain ⟨c, A, r1, r2, r3⟩ := F
  refine ⟨c.setSlot j v, A.same W, by simp [Cell.setSlot, r1], r2, fun i hi => ?_⟩
  by_cases e : i = j
  · subst e
    rw [upd_eq]
    simp [Cell.setSlot, r1, hi]
  · rw [upd_ne _ _ e, ← r3 i hi]
    exact Array.getElem?_setIfInBounds_ne (Ne.symm e)
def iF (g : Nat → Int32) : Nat → Value := fun i => .int (g i)
def jF (g : Nat → Int64) : Nat → Value := fun i => .long (g i)
theorem upd_iF (g : Nat → Int32) (j : Nat) (x : Int32) : upd (iF g) j (.int x) = iF (upd g j x) := by funext i; by_cases e : i = j <;> simp [upd, iF, e]
theorem upd_jF (g : Nat → Int64) (j : Nat) (x : Int64) : upd (jF g) j (.long x) = jF (upd g j x) := by funext i; by_cases e : i = j <;> simp [upd, jF, e]
theorem Av.sameI {a : Addr} {ty : FieldType} {len j : Nat} {x : Int32} {g : Nat → Int32} {h' : Heap} (F : Av Z h a ty len (iF g)) (W : Wr h h' a j (.int x)) : Av Z h' a ty len (iF (upd g j x)) := upd_iF g j x ▸ F.same W
theorem Av.sameJ {a : Addr} {ty : FieldType} {len j : Nat} {x : Int64} {g : Nat → Int64} {h' : Heap} (F : Av Z h a ty len (jF g)) (W : Wr h h' a j (.long x)) : Av Z h' a ty len (jF (upd g j x)) := upd_jF g j x ▸ F.same W
def kF (g : Nat → Int64) : Nat → Value := fun i => .double (FP.l2d (g i))
theorem upd_kF (g : Nat → Int64) (j : Nat) (x : Int64) : upd (kF g) j (.double (FP.l2d x)) = kF (upd g j x) := by funext i; by_cases e : i = j <;> simp [upd, kF, e]
theorem Av.sameK {a : Addr} {ty : FieldType} {len j : Nat} {x : Int64} {g : Nat → Int64} {h' : Heap} (F : Av Z h a ty len (kF g)) (W : Wr h h' a j (.double (FP.l2d x))) : Av Z h' a ty len (kF (upd g j x)) := upd_kF g j x ▸ F.same W
theorem Av.of {a : Addr} {ty : FieldType} {z : Int32} {cA : ClassId} {d : Value} (F : Arv Z h a cA ty z [] d) : Av Z h a ty z.toNatClampNeg (fun _ => d) := by
  obtain ⟨c, A, -, r1, r2, r3, -⟩ := F
  refine ⟨c, A, r1, ?_, fun i hi => ?_⟩
  · have e1 := z.toInt_lt
    have e2 : z.toNatClampNeg = z.toInt.toNat := rfl
    omega
  · rw [r3 i (by omega)]
    simp
theorem Av.ofD {a : Addr} {z : Int32} {cA : ClassId} (F : Arv Z h a cA .double z [] (defaultValue .double)) : Av Z h a .double z.toNatClampNeg (kF (fun _ => 0)) := by
  have e : kF (fun _ => 0) = (fun _ => defaultValue .double) := by funext i; show Value.double (FP.l2d 0) = _; rw [Jvm.RoadKit.l2d_zero]; rfl
  rw [e]
  exact Av.of F
theorem Av.congr {a : Addr} {ty : FieldType} {len : Nat} {f f' : Nat → Value} (F : Av Z h a ty len f) (e : ∀ i, i < len → f i = f' i) : Av Z h a ty len f' := by obtain ⟨c, A, r1, r2, r3⟩ := F; exact ⟨c, A, r1, r2, fun i hi => e i hi ▸ r3 i hi⟩
theorem Go.newPE (C : Cx Z W rm own nm bytes maxL ret) {aty : ArrayType} {z : Int32} {cap k' n' : Nat} (w : (Jvm.Cond.arrayClass (newarray.typeOf aty)).before a0 Z = true) (hz : ¬ z < 0) (hcap : z.toNatClampNeg ≤ cap) (hbig : cap * 8 ≤ 536870912)
    (hd : decode bytes pc = .ok (.newarray aty, 2)) (hq : pc + 2 = q) (hk : k + 1 = k') (hn : n + cap = n') (hk' : k' ≤ rm.cells) (hn' : n' ≤ rm.slots) {ad : String} (had : "[" ++ (newarray.typeOf aty).toString = ad)
    (hr : ∀ h' a cA, a = h.size → Ext h h' → Arv Z h' a cA (newarray.typeOf aty) z [] (defaultValue (newarray.typeOf aty)) → Exa Z h' a ad → Go W n0 Q h' k' n' q ls (.ref a :: st)) : Go W n0 Q h k n pc ls (.int z :: st) := by
  subst hq hk hn
  intro T L i j X hk0 hn0 N eT
  have e1 := C.ro
  obtain ⟨T', h', cA, X', e', E', A', D', sp⟩ := Jvm.RoadKit.newPE X C.x C.z w eT (g := mkF W.m pc ls (.int z :: st)) rfl (hb C.b hd) rfl hz hcap hbig (by rw [e1]; omega) (by rw [e1]; omega) had
  obtain ⟨s₂, o, hs, r⟩ := hr h' _ cA rfl E' (Arv.new A' hz) D' T' _ _ _ X' (by omega) (by omega) N e'
  exact ⟨s₂, o, sp _ hs, r⟩
theorem Go.clone (C : Cx Z W rm own nm bytes maxL ret) {index cap k' n' wt len : Nat} {ad : String} {a : Addr} {ty : FieldType} {f : Nat → Value}
    (w1 : (Jvm.Cond.methodLink own index ⟨ad, "clone", "()Ljava/lang/Object;"⟩).before a0 Z = true) (w2 : (Jvm.Cond.sameMethod ad "java/lang/Object" "clone" "()Ljava/lang/Object;").before a0 Z = true) (w3 : (Jvm.Cond.native ⟨"java/lang/Object", "clone", "()Ljava/lang/Object;"⟩).before a0 Z = true)
    (w4 : (Jvm.Cond.instanceMethod ⟨"java/lang/Object", "clone", "()Ljava/lang/Object;"⟩).before a0 Z = true) (w5 : (Jvm.Cond.selects ad ⟨ad, "clone", "()Ljava/lang/Object;"⟩ ⟨"java/lang/Object", "clone", "()Ljava/lang/Object;"⟩).before a0 Z = true) (w6 : (Jvm.Cond.castable ad "java/lang/Cloneable").before a0 Z = true)
    (F : Av Z h a ty len f) (E : Exa Z h a ad) (hfit : ∀ i, i < len → fits ty (f i) = true) (hd : decode bytes pc = .ok (.invokevirtual index, 3)) (hq : pc + 3 = q) (hls : ls.size = maxL) (hw : (st.map fun v => v.category).sum = wt) (hfr : 1 ≤ rm.frames) (hlo : wt + 14 ≤ rm.locals) (hcap : len = cap) (hk : k + 1 = k') (hn : n + cap = n') (hk' : k' ≤ rm.cells) (hn' : n' ≤ rm.slots)
    (hr : ∀ h' b, b = h.size → Ext h h' → Av Z h' b ty len f → Exa Z h' b ad → Go W n0 Q h' k' n' q ls (.ref b :: st)) : Go W n0 Q h k n pc ls (.ref a :: st) := by
  subst hq hk hn hw
  obtain ⟨c, A, r1, r2, r3⟩ := F
  intro T L i j X hk0 hn0 N eT
  have e1 := C.ro
  have FC : FitC Z c := fitC_of A fun x hx v hv => by rw [r3 x (r1 ▸ hx)] at hv; cases hv; exact hfit x (r1 ▸ hx)
  obtain ⟨T', h', X', e', E', A', D', sp⟩ := cloneA X C.x C.z C.ow w1 w2 w3 w4 w5 w6 eT A E FC (g := mkF W.m pc ls (.ref a :: st)) rfl (by rw [C.ml]; exact hls) rfl (hb C.b hd) (by rw [e1]; exact hfr) (W := (st.map fun v => v.category).sum) (by show 2 * 0 + (st.map fun v => v.category).sum ≤ (st.map fun v => v.category).sum; omega) (by rw [e1]; exact hlo) (cap := cap) (by omega) (by rw [e1]; omega) (by rw [e1]; omega)
  obtain ⟨s₂, o, hs, r⟩ := hr h' _ rfl E' ⟨_, A', r1, r2, r3⟩ D' T' _ _ _ X' (by omega) (by omega) N e'
  exact ⟨s₂, o, sp _ hs, r⟩
theorem Go.cast (C : Cx Z W rm own nm bytes maxL ret) {index : Nat} {K : String} {a : Addr} (w : (Jvm.Cond.classLink own index K).before a0 Z = true) (F : Ins Z h a K true) (hd : decode bytes pc = .ok (.checkcast index, 3)) (hq : pc + 3 = q)
    (hr : Go W n0 Q h k n q ls (.ref a :: st)) : Go W n0 Q h k n pc ls (.ref a :: st) := by
  subst hq
  exact Go.stepT (fun T L i j X eT => Jvm.RoadKit.castY X C.x C.z C.ow w eT F (g := mkF W.m pc ls (.ref a :: st)) rfl rfl (hb C.b hd)) hr
theorem Go.alen (C : Cx Z W rm own nm bytes maxL ret) {a : Addr} {ty : FieldType} {len : Nat} {f : Nat → Value} (F : Av Z h a ty len f) (hd : decode bytes pc = .ok (.arraylength, 1)) (hq : pc + 1 = q)
    (hr : Go W n0 Q h k n q ls (.int len.toInt32 :: st)) : Go W n0 Q h k n pc ls (.ref a :: st) := by
  subst hq
  obtain ⟨c, A, r1, r2, r3⟩ := F
  subst r1
  exact Go.stepX (fun T L i j tg X eT kk => X.arraylength C.x (by rw [eT]; exact A.1) (State.isArrayOf_alike C.z.alike A.2.1) (g := mkF W.m pc ls (.ref a :: st)) rfl rfl (hb C.b hd) _ kk) hr
theorem Go.alenZ (C : Cx Z W rm own nm bytes maxL ret) {a : Addr} {ty : FieldType} {z : Int32} {f : Nat → Value} (F : Av Z h a ty z.toNatClampNeg f) (hz : ¬ z < 0) (hd : decode bytes pc = .ok (.arraylength, 1)) (hq : pc + 1 = q)
    (hr : Go W n0 Q h k n q ls (.int z :: st)) : Go W n0 Q h k n pc ls (.ref a :: st) :=
  Go.alen C F hd hq (by rw [(Jvm.RoadKit.back32 hz).1]; exact hr)

theorem Go.iaload (C : Cx Z W rm own nm bytes maxL ret) {a : Addr} {len : Nat} {f : Nat → Value} {j : Int32} {v : Value} (F : Av Z h a .int len f) (i : Nat) (hji : j.toNatClampNeg = i) (hj : ¬ j < 0) (hi : i < len) (hv : f i = v) (hd : decode bytes pc = .ok (.iaload, 1)) (hq : pc + 1 = q)
    (hr : Go W n0 Q h k n q ls (v :: st)) : Go W n0 Q h k n pc ls (.int j :: .ref a :: st) := by
  subst hq hji hv
  obtain ⟨c, A, r1, r2, r3⟩ := F
  exact Go.stepX (fun T L i' j' tg X eT kk => X.iaload C.x (j := j) (by rw [eT]; exact A.1) (State.isArrayOf_alike C.z.alike A.2.1) A.2.2 (fun z => z.elim hj (fun y => absurd (Nat.lt_of_lt_of_le hi (r1 ▸ y)) (Nat.lt_irrefl _))) (r3 _ hi) (g := mkF W.m pc ls (.int j :: .ref a :: st)) rfl rfl (hb C.b hd) _ kk) hr
theorem Go.laload (C : Cx Z W rm own nm bytes maxL ret) {a : Addr} {len : Nat} {f : Nat → Value} {j : Int32} {v : Value} (F : Av Z h a .long len f) (i : Nat) (hji : j.toNatClampNeg = i) (hj : ¬ j < 0) (hi : i < len) (hv : f i = v) (hd : decode bytes pc = .ok (.laload, 1)) (hq : pc + 1 = q)
    (hr : Go W n0 Q h k n q ls (v :: st)) : Go W n0 Q h k n pc ls (.int j :: .ref a :: st) := by
  subst hq hji hv
  obtain ⟨c, A, r1, r2, r3⟩ := F
  exact Go.stepX (fun T L i' j' tg X eT kk => X.laload C.x (j := j) (by rw [eT]; exact A.1) (State.isArrayOf_alike C.z.alike A.2.1) A.2.2 (fun z => z.elim hj (fun y => absurd (Nat.lt_of_lt_of_le hi (r1 ▸ y)) (Nat.lt_irrefl _))) (r3 _ hi) (g := mkF W.m pc ls (.int j :: .ref a :: st)) rfl rfl (hb C.b hd) _ kk) hr
theorem Go.caload (C : Cx Z W rm own nm bytes maxL ret) {a : Addr} {len : Nat} {f : Nat → Value} {j : Int32} {v : Value} (F : Av Z h a .char len f) (i : Nat) (hji : j.toNatClampNeg = i) (hj : ¬ j < 0) (hi : i < len) (hv : f i = v) (hd : decode bytes pc = .ok (.caload, 1)) (hq : pc + 1 = q)
    (hr : Go W n0 Q h k n q ls (v :: st)) : Go W n0 Q h k n pc ls (.int j :: .ref a :: st) := by
  subst hq hji hv
  obtain ⟨c, A, r1, r2, r3⟩ := F
  exact Go.stepX (fun T L i' j' tg X eT kk => X.caload C.x (j := j) (by rw [eT]; exact A.1) (State.isArrayOf_alike C.z.alike A.2.1) A.2.2 (fun z => z.elim hj (fun y => absurd (Nat.lt_of_lt_of_le hi (r1 ▸ y)) (Nat.lt_irrefl _))) (r3 _ hi) (g := mkF W.m pc ls (.int j :: .ref a :: st)) rfl rfl (hb C.b hd) _ kk) hr
theorem Go.baload (C : Cx Z W rm own nm bytes maxL ret) {a : Addr} {len : Nat} {f : Nat → Value} {j : Int32} {v : Value} (F : Av Z h a .byte len f) (i : Nat) (hji : j.toNatClampNeg = i) (hj : ¬ j < 0) (hi : i < len) (hv : f i = v) (hd : decode bytes pc = .ok (.baload, 1)) (hq : pc + 1 = q)
    (hr : Go W n0 Q h k n q ls (v :: st)) : Go W n0 Q h k n pc ls (.int j :: .ref a :: st) := by
  subst hq hji hv
  obtain ⟨c, A, r1, r2, r3⟩ := F
  exact Go.stepX (fun T L i' j' tg X eT kk => X.baloadBytes C.x (j := j) (by rw [eT]; exact A.1) (State.isArrayOf_alike C.z.alike A.2.1) A.2.2 (fun z => z.elim hj (fun y => absurd (Nat.lt_of_lt_of_le hi (r1 ▸ y)) (Nat.lt_irrefl _))) (r3 _ hi) (g := mkF W.m pc ls (.int j :: .ref a :: st)) rfl rfl (hb C.b hd) _ kk) hr
theorem Go.zaload (C : Cx Z W rm own nm bytes maxL ret) {a : Addr} {len : Nat} {f : Nat → Value} {j : Int32} {v : Value} (F : Av Z h a .boolean len f) (i : Nat) (hji : j.toNatClampNeg = i) (hj : ¬ j < 0) (hi : i < len) (hv : f i = v) (hd : decode bytes pc = .ok (.baload, 1)) (hq : pc + 1 = q)
    (hr : Go W n0 Q h k n q ls (v :: st)) : Go W n0 Q h k n pc ls (.int j :: .ref a :: st) := by
  subst hq hji hv
  obtain ⟨c, A, r1, r2, r3⟩ := F
  exact Go.stepX (fun T L i' j' tg X eT kk => X.baloadBooleans C.x (j := j) (by rw [eT]; exact A.1) (State.isArrayOf_alike C.z.alike A.2.1) A.2.2 (fun z => z.elim hj (fun y => absurd (Nat.lt_of_lt_of_le hi (r1 ▸ y)) (Nat.lt_irrefl _))) (r3 _ hi) (g := mkF W.m pc ls (.int j :: .ref a :: st)) rfl rfl (hb C.b hd) _ kk) hr
theorem Go.daload (C : Cx Z W rm own nm bytes maxL ret) {a : Addr} {len : Nat} {f : Nat → Value} {j : Int32} {v : Value} (F : Av Z h a .double len f) (i : Nat) (hji : j.toNatClampNeg = i) (hj : ¬ j < 0) (hi : i < len) (hv : f i = v) (hd : decode bytes pc = .ok (.daload, 1)) (hq : pc + 1 = q)
    (hr : Go W n0 Q h k n q ls (v :: st)) : Go W n0 Q h k n pc ls (.int j :: .ref a :: st) := by
  subst hq hji hv
  obtain ⟨c, A, r1, r2, r3⟩ := F
  exact Go.stepX (fun T L i' j' tg X eT kk => X.daload C.x (j := j) (by rw [eT]; exact A.1) (State.isArrayOf_alike C.z.alike A.2.1) A.2.2 (fun z => z.elim hj (fun y => absurd (Nat.lt_of_lt_of_le hi (r1 ▸ y)) (Nat.lt_irrefl _))) (r3 _ hi) (g := mkF W.m pc ls (.int j :: .ref a :: st)) rfl rfl (hb C.b hd) _ kk) hr
theorem Go.dastore (C : Cx Z W rm own nm bytes maxL ret) {a : Addr} {len : Nat} {f : Nat → Value} {j : Int32} {x : UInt64} (F : Av Z h a .double len f) (i : Nat) (hji : j.toNatClampNeg = i) (hj : ¬ j < 0) (hi : i < len) (ha : n0 ≤ a) (hd : decode bytes pc = .ok (.dastore, 1)) (hq : pc + 1 = q)
    (hr : ∀ h', Wr h h' a i (.double x) → Go W n0 Q h' k n q ls st) : Go W n0 Q h k n pc ls (.double x :: .int j :: .ref a :: st) := by
  subst hq hji
  obtain ⟨c, A, r1, r2, r3⟩ := F
  intro T L i' j' X hk hn N eT
  obtain ⟨T', h', X', e', W', sp⟩ := Jvm.RoadKit.stD X C.x C.z eT A (j := j) (fun z => z.elim hj (fun y => absurd (Nat.lt_of_lt_of_le hi (r1 ▸ y)) (Nat.lt_irrefl _))) (g := mkF W.m pc ls (.double x :: .int j :: .ref a :: st)) rfl rfl (hb C.b hd)
  obtain ⟨s₂, o, hs, r⟩ := hr h' W' T' _ _ _ X' hk hn (Fr.snoc X' N ha) e'
  exact ⟨s₂, o, sp _ hs, r⟩
theorem Go.iastore (C : Cx Z W rm own nm bytes maxL ret) {a : Addr} {len : Nat} {f : Nat → Value} {j : Int32} {x : Int32} (F : Av Z h a .int len f) (i : Nat) (hji : j.toNatClampNeg = i) (hj : ¬ j < 0) (hi : i < len) (ha : n0 ≤ a) (hd : decode bytes pc = .ok (.iastore, 1)) (hq : pc + 1 = q)
    (hr : ∀ h', Wr h h' a i (.int x) → Go W n0 Q h' k n q ls st) : Go W n0 Q h k n pc ls (.int x :: .int j :: .ref a :: st) := by
  subst hq hji
  obtain ⟨c, A, r1, r2, r3⟩ := F
  intro T L i' j' X hk hn N eT
  obtain ⟨T', h', X', e', W', sp⟩ := Jvm.RoadKit.stI X C.x C.z eT A (j := j) (fun z => z.elim hj (fun y => absurd (Nat.lt_of_lt_of_le hi (r1 ▸ y)) (Nat.lt_irrefl _))) (g := mkF W.m pc ls (.int x :: .int j :: .ref a :: st)) rfl rfl (hb C.b hd)
  obtain ⟨s₂, o, hs, r⟩ := hr h' W' T' _ _ _ X' hk hn (Fr.snoc X' N ha) e'
  exact ⟨s₂, o, sp _ hs, r⟩
theorem Go.lastore (C : Cx Z W rm own nm bytes maxL ret) {a : Addr} {len : Nat} {f : Nat → Value} {j : Int32} {x : Int64} (F : Av Z h a .long len f) (i : Nat) (hji : j.toNatClampNeg = i) (hj : ¬ j < 0) (hi : i < len) (ha : n0 ≤ a) (hd : decode bytes pc = .ok (.lastore, 1)) (hq : pc + 1 = q)
    (hr : ∀ h', Wr h h' a i (.long x) → Go W n0 Q h' k n q ls st) : Go W n0 Q h k n pc ls (.long x :: .int j :: .ref a :: st) := by
  subst hq hji
  obtain ⟨c, A, r1, r2, r3⟩ := F
  intro T L i' j' X hk hn N eT
  obtain ⟨T', h', X', e', W', sp⟩ := Jvm.RoadKit.stJ X C.x C.z eT A (j := j) (fun z => z.elim hj (fun y => absurd (Nat.lt_of_lt_of_le hi (r1 ▸ y)) (Nat.lt_irrefl _))) (g := mkF W.m pc ls (.long x :: .int j :: .ref a :: st)) rfl rfl (hb C.b hd)
  obtain ⟨s₂, o, hs, r⟩ := hr h' W' T' _ _ _ X' hk hn (Fr.snoc X' N ha) e'
  exact ⟨s₂, o, sp _ hs, r⟩
theorem Go.castore (C : Cx Z W rm own nm bytes maxL ret) {a : Addr} {len : Nat} {f : Nat → Value} {j : Int32} {x : Int32} (F : Av Z h a .char len f) (i : Nat) (hji : j.toNatClampNeg = i) (hj : ¬ j < 0) (hi : i < len) (ha : n0 ≤ a) (hd : decode bytes pc = .ok (.castore, 1)) (hq : pc + 1 = q)
    (hr : ∀ h', Wr h h' a i (.int (nar .char x)) → Go W n0 Q h' k n q ls st) : Go W n0 Q h k n pc ls (.int x :: .int j :: .ref a :: st) := by
  subst hq hji
  obtain ⟨c, A, r1, r2, r3⟩ := F
  intro T L i' j' X hk hn N eT
  obtain ⟨T', h', X', e', W', sp⟩ := Jvm.RoadKit.stC X C.x C.z eT A (j := j) (fun z => z.elim hj (fun y => absurd (Nat.lt_of_lt_of_le hi (r1 ▸ y)) (Nat.lt_irrefl _))) (g := mkF W.m pc ls (.int x :: .int j :: .ref a :: st)) rfl rfl (hb C.b hd)
  obtain ⟨s₂, o, hs, r⟩ := hr h' W' T' _ _ _ X' hk hn (Fr.snoc X' N ha) e'
  exact ⟨s₂, o, sp _ hs, r⟩
theorem Go.bastore (C : Cx Z W rm own nm bytes maxL ret) {a : Addr} {len : Nat} {f : Nat → Value} {j : Int32} {x : Int32} (F : Av Z h a .byte len f) (i : Nat) (hji : j.toNatClampNeg = i) (hj : ¬ j < 0) (hi : i < len) (ha : n0 ≤ a) (hd : decode bytes pc = .ok (.bastore, 1)) (hq : pc + 1 = q)
    (hr : ∀ h', Wr h h' a i (.int (nar .byte x)) → Go W n0 Q h' k n q ls st) : Go W n0 Q h k n pc ls (.int x :: .int j :: .ref a :: st) := by
  subst hq hji
  obtain ⟨c, A, r1, r2, r3⟩ := F
  intro T L i' j' X hk hn N eT
  obtain ⟨T', h', X', e', W', sp⟩ := Jvm.RoadKit.stB X C.x C.z eT A (j := j) (fun z => z.elim hj (fun y => absurd (Nat.lt_of_lt_of_le hi (r1 ▸ y)) (Nat.lt_irrefl _))) (g := mkF W.m pc ls (.int x :: .int j :: .ref a :: st)) rfl rfl (hb C.b hd)
  obtain ⟨s₂, o, hs, r⟩ := hr h' W' T' _ _ _ X' hk hn (Fr.snoc X' N ha) e'
  exact ⟨s₂, o, sp _ hs, r⟩
theorem Go.zastore (C : Cx Z W rm own nm bytes maxL ret) {a : Addr} {len : Nat} {f : Nat → Value} {j : Int32} {x : Int32} (F : Av Z h a .boolean len f) (i : Nat) (hji : j.toNatClampNeg = i) (hj : ¬ j < 0) (hi : i < len) (ha : n0 ≤ a) (hd : decode bytes pc = .ok (.bastore, 1)) (hq : pc + 1 = q)
    (hr : ∀ h', Wr h h' a i (.int (nar .boolean x)) → Go W n0 Q h' k n q ls st) : Go W n0 Q h k n pc ls (.int x :: .int j :: .ref a :: st) := by
  subst hq hji
  obtain ⟨c, A, r1, r2, r3⟩ := F
  intro T L i' j' X hk hn N eT
  obtain ⟨T', h', X', e', W', sp⟩ := Jvm.RoadKit.stZ X C.x C.z eT A (j := j) (fun z => z.elim hj (fun y => absurd (Nat.lt_of_lt_of_le hi (r1 ▸ y)) (Nat.lt_irrefl _))) (g := mkF W.m pc ls (.int x :: .int j :: .ref a :: st)) rfl rfl (hb C.b hd)
  obtain ⟨s₂, o, hs, r⟩ := hr h' W' T' _ _ _ X' hk hn (Fr.snoc X' N ha) e'
  exact ⟨s₂, o, sp _ hs, r⟩
end Gos

theorem d2_0 : decode method_3_code 0 = .ok (.iload_n 0, 1) := by decide +kernel
theorem d2_1 : decode method_3_code 1 = .ok (.ifCond .ne 5, 3) := by decide +kernel
theorem d2_4 : decode method_3_code 4 = .ok (.iconst 0, 1) := by decide +kernel
theorem d2_5 : decode method_3_code 5 = .ok (.ireturn, 1) := by decide +kernel
theorem d2_6 : decode method_3_code 6 = .ok (.iload_n 0, 1) := by decide +kernel
theorem d2_7 : decode method_3_code 7 = .ok (.iconst 5, 1) := by decide +kernel
theorem d2_8 : decode method_3_code 8 = .ok (.if_icmp .gt 5, 3) := by decide +kernel
theorem d2_13 : decode method_3_code 13 = .ok (.iload_n 0, 1) := by decide +kernel
theorem d2_14 : decode method_3_code 14 = .ok (.bipush 12, 2) := by decide +kernel
theorem d2_16 : decode method_3_code 16 = .ok (.if_icmp .gt 5, 3) := by decide +kernel
theorem d2_21 : decode method_3_code 21 = .ok (.iload_n 0, 1) := by decide +kernel
theorem d2_22 : decode method_3_code 22 = .ok (.bipush 14, 2) := by decide +kernel
theorem d2_24 : decode method_3_code 24 = .ok (.if_icmp .gt 5, 3) := by decide +kernel
theorem d2_29 : decode method_3_code 29 = .ok (.iload_n 0, 1) := by decide +kernel
theorem d2_30 : decode method_3_code 30 = .ok (.bipush 15, 2) := by decide +kernel
theorem d2_32 : decode method_3_code 32 = .ok (.if_icmp .ne 5, 3) := by decide +kernel
theorem d2_35 : decode method_3_code 35 = .ok (.iconst 4, 1) := by decide +kernel
theorem d2_36 : decode method_3_code 36 = .ok (.ireturn, 1) := by decide +kernel
theorem d2_37 : decode method_3_code 37 = .ok (.iload_n 0, 1) := by decide +kernel
theorem d2_38 : decode method_3_code 38 = .ok (.bipush 16, 2) := by decide +kernel
theorem d2_40 : decode method_3_code 40 = .ok (.if_icmp .ne 5, 3) := by decide +kernel
theorem d2_43 : decode method_3_code 43 = .ok (.iconst 5, 1) := by decide +kernel
theorem d2_44 : decode method_3_code 44 = .ok (.ireturn, 1) := by decide +kernel
theorem d2_45 : decode method_3_code 45 = .ok (.iload_n 0, 1) := by decide +kernel
theorem d2_46 : decode method_3_code 46 = .ok (.bipush 17, 2) := by decide +kernel
theorem d2_48 : decode method_3_code 48 = .ok (.if_icmp .ne 6, 3) := by decide +kernel
theorem d2_51 : decode method_3_code 51 = .ok (.bipush 6, 2) := by decide +kernel
theorem d2_53 : decode method_3_code 53 = .ok (.ireturn, 1) := by decide +kernel
theorem d2_54 : decode method_3_code 54 = .ok (.iload_n 0, 1) := by decide +kernel
theorem d2_55 : decode method_3_code 55 = .ok (.bipush 18, 2) := by decide +kernel
theorem d2_57 : decode method_3_code 57 = .ok (.if_icmp .ne 6, 3) := by decide +kernel
theorem d2_60 : decode method_3_code 60 = .ok (.bipush 7, 2) := by decide +kernel
theorem d2_62 : decode method_3_code 62 = .ok (.ireturn, 1) := by decide +kernel
theorem d2_63 : decode method_3_code 63 = .ok (.bipush 8, 2) := by decide +kernel
theorem d2_65 : decode method_3_code 65 = .ok (.ireturn, 1) := by decide +kernel
theorem d2_27 : decode method_3_code 27 = .ok (.iconst 3, 1) := by decide +kernel
theorem d2_28 : decode method_3_code 28 = .ok (.ireturn, 1) := by decide +kernel
theorem d2_19 : decode method_3_code 19 = .ok (.iconst 2, 1) := by decide +kernel
theorem d2_20 : decode method_3_code 20 = .ok (.ireturn, 1) := by decide +kernel
theorem d2_11 : decode method_3_code 11 = .ok (.iconst 1, 1) := by decide +kernel
theorem d2_12 : decode method_3_code 12 = .ok (.ireturn, 1) := by decide +kernel
theorem ef_2 (m : MethodId) (p0 : Int32) : entryFrame m #[(.int p0)] 1 = mkF m 0 #[.val (.int p0)] [] := by first | (simp [entryFrame, mkF, argsToLocals, Value.category]; done) | rfl
theorem pn_com_example_tolerant_query_tolerantquery_DatatypeWithinPinLaw : plainName "com/example/tolerant_query/tolerantquery/DatatypeWithinPinLaw" = true := by first | (simp [plainName, overriddenIn]; done) | decide +kernel
theorem d4_0 : decode method_4_code 0 = .ok (.iload_n 0, 1) := by decide +kernel
theorem d4_1 : decode method_4_code 1 = .ok (.ifCond .ne 5, 3) := by decide +kernel
theorem d4_4 : decode method_4_code 4 = .ok (.iconst 0, 1) := by decide +kernel
theorem d4_5 : decode method_4_code 5 = .ok (.ireturn, 1) := by decide +kernel
theorem d4_6 : decode method_4_code 6 = .ok (.iload_n 0, 1) := by decide +kernel
theorem d4_7 : decode method_4_code 7 = .ok (.iconst 5, 1) := by decide +kernel
theorem d4_8 : decode method_4_code 8 = .ok (.if_icmp .gt 5, 3) := by decide +kernel
theorem d4_13 : decode method_4_code 13 = .ok (.iload_n 0, 1) := by decide +kernel
theorem d4_14 : decode method_4_code 14 = .ok (.bipush 12, 2) := by decide +kernel
theorem d4_16 : decode method_4_code 16 = .ok (.if_icmp .gt 7, 3) := by decide +kernel
theorem d4_23 : decode method_4_code 23 = .ok (.iload_n 0, 1) := by decide +kernel
theorem d4_24 : decode method_4_code 24 = .ok (.bipush 14, 2) := by decide +kernel
theorem d4_26 : decode method_4_code 26 = .ok (.if_icmp .gt 8, 3) := by decide +kernel
theorem d4_34 : decode method_4_code 34 = .ok (.iconst 1, 1) := by decide +kernel
theorem d4_35 : decode method_4_code 35 = .ok (.ireturn, 1) := by decide +kernel
theorem d4_29 : decode method_4_code 29 = .ok (.iload_n 0, 1) := by decide +kernel
theorem d4_30 : decode method_4_code 30 = .ok (.bipush 12, 2) := by decide +kernel
theorem d4_32 : decode method_4_code 32 = .ok (.isub, 1) := by decide +kernel
theorem d4_33 : decode method_4_code 33 = .ok (.ireturn, 1) := by decide +kernel
theorem d4_19 : decode method_4_code 19 = .ok (.iload_n 0, 1) := by decide +kernel
theorem d4_20 : decode method_4_code 20 = .ok (.iconst 5, 1) := by decide +kernel
theorem d4_21 : decode method_4_code 21 = .ok (.isub, 1) := by decide +kernel
theorem d4_22 : decode method_4_code 22 = .ok (.ireturn, 1) := by decide +kernel
theorem d4_11 : decode method_4_code 11 = .ok (.iload_n 0, 1) := by decide +kernel
theorem d4_12 : decode method_4_code 12 = .ok (.ireturn, 1) := by decide +kernel
theorem ef_4 (m : MethodId) (p0 : Int32) : entryFrame m #[(.int p0)] 1 = mkF m 0 #[.val (.int p0)] [] := by first | (simp [entryFrame, mkF, argsToLocals, Value.category]; done) | rfl
theorem d1_0 : decode method_5_code 0 = .ok (.iload_n 0, 1) := by decide +kernel
theorem d1_1 : decode method_5_code 1 = .ok (.ifCond .ne 7, 3) := by decide +kernel
theorem d1_8 : decode method_5_code 8 = .ok (.iload_n 0, 1) := by decide +kernel
theorem d1_9 : decode method_5_code 9 = .ok (.iconst 1, 1) := by decide +kernel
theorem d1_10 : decode method_5_code 10 = .ok (.if_icmp .ne 7, 3) := by decide +kernel
theorem d1_17 : decode method_5_code 17 = .ok (.iload_n 0, 1) := by decide +kernel
theorem d1_18 : decode method_5_code 18 = .ok (.iconst 2, 1) := by decide +kernel
theorem d1_19 : decode method_5_code 19 = .ok (.if_icmp .ne 7, 3) := by decide +kernel
theorem d1_26 : decode method_5_code 26 = .ok (.iload_n 0, 1) := by decide +kernel
theorem d1_27 : decode method_5_code 27 = .ok (.iconst 3, 1) := by decide +kernel
theorem d1_28 : decode method_5_code 28 = .ok (.if_icmp .ne 7, 3) := by decide +kernel
theorem d1_35 : decode method_5_code 35 = .ok (.iload_n 0, 1) := by decide +kernel
theorem d1_36 : decode method_5_code 36 = .ok (.iconst 4, 1) := by decide +kernel
theorem d1_37 : decode method_5_code 37 = .ok (.if_icmp .ne 7, 3) := by decide +kernel
theorem d1_44 : decode method_5_code 44 = .ok (.iload_n 0, 1) := by decide +kernel
theorem d1_45 : decode method_5_code 45 = .ok (.iconst 5, 1) := by decide +kernel
theorem d1_46 : decode method_5_code 46 = .ok (.if_icmp .ne 7, 3) := by decide +kernel
theorem d1_53 : decode method_5_code 53 = .ok (.iload_n 0, 1) := by decide +kernel
theorem d1_54 : decode method_5_code 54 = .ok (.bipush 6, 2) := by decide +kernel
theorem d1_56 : decode method_5_code 56 = .ok (.if_icmp .ne 7, 3) := by decide +kernel
theorem d1_63 : decode method_5_code 63 = .ok (.iload_n 0, 1) := by decide +kernel
theorem d1_64 : decode method_5_code 64 = .ok (.bipush 7, 2) := by decide +kernel
theorem d1_66 : decode method_5_code 66 = .ok (.if_icmp .ne 7, 3) := by decide +kernel
theorem d1_73 : decode method_5_code 73 = .ok (.iload_n 0, 1) := by decide +kernel
theorem d1_74 : decode method_5_code 74 = .ok (.bipush 8, 2) := by decide +kernel
theorem d1_76 : decode method_5_code 76 = .ok (.if_icmp .ne 7, 3) := by decide +kernel
theorem d1_83 : decode method_5_code 83 = .ok (.iload_n 0, 1) := by decide +kernel
theorem d1_84 : decode method_5_code 84 = .ok (.bipush 9, 2) := by decide +kernel
theorem d1_86 : decode method_5_code 86 = .ok (.if_icmp .ne 7, 3) := by decide +kernel
theorem d1_93 : decode method_5_code 93 = .ok (.iload_n 0, 1) := by decide +kernel
theorem d1_94 : decode method_5_code 94 = .ok (.bipush 10, 2) := by decide +kernel
theorem d1_96 : decode method_5_code 96 = .ok (.if_icmp .ne 7, 3) := by decide +kernel
theorem d1_103 : decode method_5_code 103 = .ok (.iload_n 0, 1) := by decide +kernel
theorem d1_104 : decode method_5_code 104 = .ok (.bipush 11, 2) := by decide +kernel
theorem d1_106 : decode method_5_code 106 = .ok (.if_icmp .ne 7, 3) := by decide +kernel
theorem d1_113 : decode method_5_code 113 = .ok (.iload_n 0, 1) := by decide +kernel
theorem d1_114 : decode method_5_code 114 = .ok (.bipush 12, 2) := by decide +kernel
theorem d1_116 : decode method_5_code 116 = .ok (.if_icmp .ne 7, 3) := by decide +kernel
theorem d1_123 : decode method_5_code 123 = .ok (.iload_n 0, 1) := by decide +kernel
theorem d1_124 : decode method_5_code 124 = .ok (.bipush 13, 2) := by decide +kernel
theorem d1_126 : decode method_5_code 126 = .ok (.if_icmp .ne 7, 3) := by decide +kernel
theorem d1_133 : decode method_5_code 133 = .ok (.iload_n 0, 1) := by decide +kernel
theorem d1_134 : decode method_5_code 134 = .ok (.bipush 14, 2) := by decide +kernel
theorem d1_136 : decode method_5_code 136 = .ok (.if_icmp .ne 7, 3) := by decide +kernel
theorem d1_143 : decode method_5_code 143 = .ok (.iload_n 0, 1) := by decide +kernel
theorem d1_144 : decode method_5_code 144 = .ok (.bipush 15, 2) := by decide +kernel
theorem d1_146 : decode method_5_code 146 = .ok (.if_icmp .ne 7, 3) := by decide +kernel
theorem d1_153 : decode method_5_code 153 = .ok (.iload_n 0, 1) := by decide +kernel
theorem d1_154 : decode method_5_code 154 = .ok (.bipush 16, 2) := by decide +kernel
theorem d1_156 : decode method_5_code 156 = .ok (.if_icmp .ne 7, 3) := by decide +kernel
theorem d1_163 : decode method_5_code 163 = .ok (.iload_n 0, 1) := by decide +kernel
theorem d1_164 : decode method_5_code 164 = .ok (.bipush 17, 2) := by decide +kernel
theorem d1_166 : decode method_5_code 166 = .ok (.if_icmp .ne 7, 3) := by decide +kernel
theorem d1_173 : decode method_5_code 173 = .ok (.iload_n 0, 1) := by decide +kernel
theorem d1_174 : decode method_5_code 174 = .ok (.bipush 18, 2) := by decide +kernel
theorem d1_176 : decode method_5_code 176 = .ok (.if_icmp .ne 7, 3) := by decide +kernel
theorem d1_183 : decode method_5_code 183 = .ok (.getstatic 85, 3) := by decide +kernel
theorem d1_186 : decode method_5_code 186 = .ok (.areturn, 1) := by decide +kernel
theorem d1_179 : decode method_5_code 179 = .ok (.getstatic 82, 3) := by decide +kernel
theorem d1_182 : decode method_5_code 182 = .ok (.areturn, 1) := by decide +kernel
theorem d1_169 : decode method_5_code 169 = .ok (.getstatic 79, 3) := by decide +kernel
theorem d1_172 : decode method_5_code 172 = .ok (.areturn, 1) := by decide +kernel
theorem d1_159 : decode method_5_code 159 = .ok (.getstatic 76, 3) := by decide +kernel
theorem d1_162 : decode method_5_code 162 = .ok (.areturn, 1) := by decide +kernel
theorem d1_149 : decode method_5_code 149 = .ok (.getstatic 73, 3) := by decide +kernel
theorem d1_152 : decode method_5_code 152 = .ok (.areturn, 1) := by decide +kernel
theorem d1_139 : decode method_5_code 139 = .ok (.getstatic 70, 3) := by decide +kernel
theorem d1_142 : decode method_5_code 142 = .ok (.areturn, 1) := by decide +kernel
theorem d1_129 : decode method_5_code 129 = .ok (.getstatic 67, 3) := by decide +kernel
theorem d1_132 : decode method_5_code 132 = .ok (.areturn, 1) := by decide +kernel
theorem d1_119 : decode method_5_code 119 = .ok (.getstatic 64, 3) := by decide +kernel
theorem d1_122 : decode method_5_code 122 = .ok (.areturn, 1) := by decide +kernel
theorem d1_109 : decode method_5_code 109 = .ok (.getstatic 61, 3) := by decide +kernel
theorem d1_112 : decode method_5_code 112 = .ok (.areturn, 1) := by decide +kernel
theorem d1_99 : decode method_5_code 99 = .ok (.getstatic 58, 3) := by decide +kernel
theorem d1_102 : decode method_5_code 102 = .ok (.areturn, 1) := by decide +kernel
theorem d1_89 : decode method_5_code 89 = .ok (.getstatic 55, 3) := by decide +kernel
theorem d1_92 : decode method_5_code 92 = .ok (.areturn, 1) := by decide +kernel
theorem d1_79 : decode method_5_code 79 = .ok (.getstatic 52, 3) := by decide +kernel
theorem d1_82 : decode method_5_code 82 = .ok (.areturn, 1) := by decide +kernel
theorem d1_69 : decode method_5_code 69 = .ok (.getstatic 49, 3) := by decide +kernel
theorem d1_72 : decode method_5_code 72 = .ok (.areturn, 1) := by decide +kernel
theorem d1_59 : decode method_5_code 59 = .ok (.getstatic 46, 3) := by decide +kernel
theorem d1_62 : decode method_5_code 62 = .ok (.areturn, 1) := by decide +kernel
theorem d1_49 : decode method_5_code 49 = .ok (.getstatic 43, 3) := by decide +kernel
theorem d1_52 : decode method_5_code 52 = .ok (.areturn, 1) := by decide +kernel
theorem d1_40 : decode method_5_code 40 = .ok (.getstatic 40, 3) := by decide +kernel
theorem d1_43 : decode method_5_code 43 = .ok (.areturn, 1) := by decide +kernel
theorem d1_31 : decode method_5_code 31 = .ok (.getstatic 37, 3) := by decide +kernel
theorem d1_34 : decode method_5_code 34 = .ok (.areturn, 1) := by decide +kernel
theorem d1_22 : decode method_5_code 22 = .ok (.getstatic 34, 3) := by decide +kernel
theorem d1_25 : decode method_5_code 25 = .ok (.areturn, 1) := by decide +kernel
theorem d1_13 : decode method_5_code 13 = .ok (.getstatic 31, 3) := by decide +kernel
theorem d1_16 : decode method_5_code 16 = .ok (.areturn, 1) := by decide +kernel
theorem d1_4 : decode method_5_code 4 = .ok (.getstatic 27, 3) := by decide +kernel
theorem d1_7 : decode method_5_code 7 = .ok (.areturn, 1) := by decide +kernel
theorem ef_1 (m : MethodId) (i : Int32) : entryFrame m #[(.int i)] 1 = mkF m 0 #[.val (.int i)] [] := by first | (simp [entryFrame, mkF, argsToLocals, Value.category]; done) | rfl
theorem d3_4 : decode prog_1_method_8_code 4 = .ok (.aload_n 3, 1) := by decide +kernel
theorem d3_5 : decode prog_1_method_8_code 5 = .ok (.ifnull 26, 3) := by decide +kernel
theorem d3_8 : decode prog_1_method_8_code 8 = .ok (.iload_n 2, 1) := by decide +kernel
theorem d3_9 : decode prog_1_method_8_code 9 = .ok (.ifCond .ne 22, 3) := by decide +kernel
theorem d3_12 : decode prog_1_method_8_code 12 = .ok (.aload_n 3, 1) := by decide +kernel
theorem d3_13 : decode prog_1_method_8_code 13 = .ok (.aload_n 1, 1) := by decide +kernel
theorem d3_14 : decode prog_1_method_8_code 14 = .ok (.if_acmp .ne 7, 3) := by decide +kernel
theorem d3_17 : decode prog_1_method_8_code 17 = .ok (.iconst 1, 1) := by decide +kernel
theorem d3_18 : decode prog_1_method_8_code 18 = .ok (.goto 4, 3) := by decide +kernel
theorem d3_22 : decode prog_1_method_8_code 22 = .ok (.istore_n 2, 1) := by decide +kernel
theorem d3_23 : decode prog_1_method_8_code 23 = .ok (.aload_n 3, 1) := by decide +kernel
theorem d3_24 : decode prog_1_method_8_code 24 = .ok (.getfield 87, 3) := by decide +kernel
theorem d3_27 : decode prog_1_method_8_code 27 = .ok (.astore_n 3, 1) := by decide +kernel
theorem d3_28 : decode prog_1_method_8_code 28 = .ok (.goto (-24), 3) := by decide +kernel
theorem d3_31 : decode prog_1_method_8_code 31 = .ok (.iload_n 2, 1) := by decide +kernel
theorem d3_32 : decode prog_1_method_8_code 32 = .ok (.ireturn, 1) := by decide +kernel
theorem d3_21 : decode prog_1_method_8_code 21 = .ok (.iconst 0, 1) := by decide +kernel
theorem d3_0 : decode prog_1_method_8_code 0 = .ok (.iconst 0, 1) := by decide +kernel
theorem d3_1 : decode prog_1_method_8_code 1 = .ok (.istore_n 2, 1) := by decide +kernel
theorem d3_2 : decode prog_1_method_8_code 2 = .ok (.aload_n 0, 1) := by decide +kernel
theorem d3_3 : decode prog_1_method_8_code 3 = .ok (.astore_n 3, 1) := by decide +kernel
theorem pn_com_example_tolerant_query_tolerantquery_Datatype : plainName "com/example/tolerant_query/tolerantquery/Datatype" = true := by first | (simp [plainName, overriddenIn]; done) | decide +kernel
theorem ef_0 (m : MethodId) (p0 : Int32) (p1 : Int32) : entryFrame m #[(.int p0), (.int p1)] maxLocals = mkF m 0 #[.val (.int p0), .val (.int p1), .unset, .unset, .unset, .unset, .unset] [] := by first | (simp [entryFrame, mkF, argsToLocals, Value.category, maxLocals]; done) | rfl
theorem pd__40I_41Lcom_47example_47tolerant_query_47tolerantquery_47Datatype_59 : parseMethodDescriptor "(I)Lcom/example/tolerant_query/tolerantquery/Datatype;" = some ⟨[.int], some (.object "com/example/tolerant_query/tolerantquery/Datatype")⟩ := by decide +kernel
theorem pd__40I_41I : parseMethodDescriptor "(I)I" = some ⟨[.int], some .int⟩ := by decide +kernel
theorem pd__40Lcom_47example_47tolerant_query_47tolerantquery_47Datatype_59_41Z : parseMethodDescriptor "(Lcom/example/tolerant_query/tolerantquery/Datatype;)Z" = some ⟨[(.object "com/example/tolerant_query/tolerantquery/Datatype")], some .boolean⟩ := by decide +kernel
/-! statics and what the case says of them -/
theorem own_sta {s : State} {args : Array Value} {C n d K : String} (h : (Jvm.Cond.exactly (.static C n d) K).value args s none s [] = some true) (wi : (Jvm.Cond.initialized C).before args s = true) (wl : (Jvm.Cond.laysStatic C n d).before args s = true) : ∃ a, Sta s s.heap C n d (.ref a) ∧ Exa s s.heap a K ∧ (Term.static C n d).eval args s none [] s = some (.ref a) := by
  obtain ⟨a, ev⟩ := exa_v h
  exact ⟨a, Sta.start ev (Or.inr ⟨wi, wl⟩), Exa.start ev h, ev⟩
theorem own_fld {s : State} {args : Array Value} {t : Term} {a : Addr} {C f d : String} {v : Value} (ht : t.eval args s none [] s = some (.ref a)) (hv : (Term.field t C f d).eval args s none [] s = some v) : Fld s s.heap a C f d v := Fld.start ((fld_at ht).symm.trans hv)
theorem own_eqI {s : State} {args : Array Value} {t : Term} {k : Int32} (h : (Jvm.Cond.eq t (.int k)).value args s none s [] = some true) : t.eval args s none [] s = some (.int k) := by
  obtain ⟨x, y, h1, h2, hk, -⟩ := cmp_v (Or.inl h)
  have e2 : (Term.int k).eval args s none [] s = some (.int k) := Term.int_eval k
  rw [e2] at h2
  cases h2
  cases x <;> simp [Kin, Value.isRef] at hk
  rename_i i
  have h3 : (Jvm.Cond.eq t (.int k)).value args s none s [] = some (decide (i = k)) := by simp [Cond.value, h1, e2]
  rw [h3] at h
  rw [h1, of_decide_eq_true (Option.some.inj h)]
theorem own_eqR {s : State} {args : Array Value} {t u : Term} {b : Addr} (h : (Jvm.Cond.eq t u).value args s none s [] = some true) (hu : u.eval args s none [] s = some (.ref b)) : t.eval args s none [] s = some (.ref b) := by
  obtain ⟨x, y, h1, h2, hk, -⟩ := cmp_v (Or.inl h)
  rw [hu] at h2
  cases h2
  have hx : x.isRef = true := by cases x <;> simp [Kin, Value.isRef] at hk ⊢
  rw [eq_R h1 hu hx rfl] at h
  rw [h1, of_decide_eq_true (Option.some.inj h)]
theorem own_or {s : State} {args : Array Value} {idx : List Nat} {c d : Jvm.Cond} (h : (Jvm.Cond.or c d).value args s none s idx = some true) (hc : c.value args s none s idx = some false) : d.value args s none s idx = some true := by
  have e : (Jvm.Cond.or c d).value args s none s idx = (match c.value args s none s idx with | some false => d.value args s none s idx | x => x) := rfl
  rw [e, hc] at h
  exact h
theorem own_len {s : State} {args : Array Value} {t : Term} {a : Addr} {cell : Cell} {k : Int32} (ht : t.eval args s none [] s = some (.ref a)) (hc : s.arrayAt? a = some cell) (h : (Term.length t).eval args s none [] s = some (.int k)) : cell.slots.size < 2 ^ 31 ∧ cell.slots.size.toInt32 = k := by
  simp [Term.eval, ht, hc] at h
  exact h
/-- a cell that holds no statics -/
def Pl (h : Heap) (a : Addr) : Prop := ∃ c : Cell, h[a]? = some c ∧ c.vm.isStatics = false
theorem own_plE {Z : State} {h : Heap} {a : Addr} {C : String} (F : Exa Z h a C) : Pl h a := by obtain ⟨c, k, h1, -, -, h2, -⟩ := F; exact ⟨c, h1, h2⟩
theorem own_plA {Z : State} {h : Heap} {a : Addr} {ty : FieldType} {len : Nat} {f : Nat → Value} (F : Av Z h a ty len f) : Pl h a := by obtain ⟨c, A, -⟩ := F; exact ⟨c, A.1, A.plain⟩
theorem own_sta_keep {Z : State} {h h' : Heap} {C n d : String} {v : Value} {ws : List Addr} (F : Sta Z h C n d v) (K : Keep h h' ws) (q : ∀ a ∈ ws, Pl h a) : Sta Z h' C n d v := by
  obtain ⟨cf, i, k, f, st, cell, h1, h2, h3, h4, h5, h6, h7⟩ := F
  refine ⟨cf, i, k, f, st, cell, h1, h2, h3, h4, K.2.1 st cell h5 (fun hm => ?_), h6, h7⟩
  obtain ⟨c, e1, e2⟩ := q st hm
  rw [h5] at e1
  cases e1
  rw [h6] at e2
  cases e2

def own_par (m : Nat) : Nat := [20, 0, 1, 2, 3, 4, 0, 6, 7, 8, 9, 10, 11, 0, 13, 0, 0, 0, 0, 20].getD m 20
def own_dp (m : Nat) : Nat := [1, 2, 3, 4, 5, 6, 2, 3, 4, 5, 6, 7, 8, 2, 3, 2, 2, 2, 2, 1].getD m 0
def own_in : Nat → Nat → Nat → Bool
  | 0, _, _ => false
  | f + 1, m, j => m == j || (own_par m != 20 && own_in f (own_par m) j)
def own_pv (ad : Nat → Addr) (m : Nat) : Value := if own_par m = 20 then .null else .ref (ad (own_par m))
theorem own_tab : ∀ m : Fin 20, own_par m.val ≠ 20 → own_par m.val < 20 ∧ own_dp (own_par m.val) < own_dp m.val := by decide +kernel
theorem own_i (n : Nat) (v : Int32) (k : Nat) (h : v = Int32.ofNat k) (hk : k < 1000) : v.toNatClampNeg = k := by
  rw [h]
  show (Int32.ofNat k).toInt.toNat = k
  rw [Int32.toInt_ofNat_small (by omega)]
  omega
def f_chain (p0 : Int32) : Int32 := (if p0 = (0 : Int32) then (0 : Int32) else (if (5 : Int32) < p0 then (if (12 : Int32) < p0 then (if (14 : Int32) < p0 then (if p0 = (15 : Int32) then (4 : Int32) else (if p0 = (16 : Int32) then (5 : Int32) else (if p0 = (17 : Int32) then (6 : Int32) else (if p0 = (18 : Int32) then (7 : Int32) else (8 : Int32))))) else (3 : Int32)) else (2 : Int32)) else (1 : Int32)))
set_option maxRecDepth 65536 in
theorem c_f_chain (l : Launch) (Z : State) (a0 : Array Value) (hw : ∀ d ∈ tables_1, d.before a0 Z = true) (p0 : Int32) (h0 : Heap) (n0 : Nat) : Met1 l Z (⟨"com/example/tolerant_query/tolerantquery/DatatypeWithinPinLaw", "chain", "(I)I"⟩ : MethodName) method_3_code 1 (some .int) [] ({ frames := 0, cells := 0, slots := 0, locals := 0 } : Room) #[(.int p0)] h0 n0 (Ret (.int (f_chain p0)) h0) := by
  refine met_of_go (plainFor_of_name pn_com_example_tolerant_query_tolerantquery_DatatypeWithinPinLaw) (fun m => ef_2 m p0) ?_
  intro W hl C
  subst hl
  refine Go.iloadN C d2_0 (q := 1) rfl rfl ?_
  refine Go.if0 C d2_1 (z_ne _) (qt := 6) (q := 4) (by decide) (by decide) rfl (fun b1 => ?_) (fun b1 => ?_)
  ·
    refine Go.iloadN C d2_6 (q := 7) rfl rfl ?_
    refine Go.iconst C (5 : Int32) d2_7 (q := 8) rfl rfl ?_
    refine Go.icmp C d2_8 (n_gt _ _) (qt := 13) (q := 11) (by decide) (by decide) rfl (fun b2 => ?_) (fun b2 => ?_)
    ·
      refine Go.iloadN C d2_13 (q := 14) rfl rfl ?_
      refine Go.bipush C (12 : Int32) d2_14 (q := 16) rfl rfl ?_
      refine Go.icmp C d2_16 (n_gt _ _) (qt := 21) (q := 19) (by decide) (by decide) rfl (fun b3 => ?_) (fun b3 => ?_)
      ·
        refine Go.iloadN C d2_21 (q := 22) rfl rfl ?_
        refine Go.bipush C (14 : Int32) d2_22 (q := 24) rfl rfl ?_
        refine Go.icmp C d2_24 (n_gt _ _) (qt := 29) (q := 27) (by decide) (by decide) rfl (fun b4 => ?_) (fun b4 => ?_)
        ·
          refine Go.iloadN C d2_29 (q := 30) rfl rfl ?_
          refine Go.bipush C (15 : Int32) d2_30 (q := 32) rfl rfl ?_
          refine Go.icmp C d2_32 (n_ne _ _) (qt := 37) (q := 35) (by decide) (by decide) rfl (fun b5 => ?_) (fun b5 => ?_)
          ·
            refine Go.iloadN C d2_37 (q := 38) rfl rfl ?_
            refine Go.bipush C (16 : Int32) d2_38 (q := 40) rfl rfl ?_
            refine Go.icmp C d2_40 (n_ne _ _) (qt := 45) (q := 43) (by decide) (by decide) rfl (fun b6 => ?_) (fun b6 => ?_)
            ·
              refine Go.iloadN C d2_45 (q := 46) rfl rfl ?_
              refine Go.bipush C (17 : Int32) d2_46 (q := 48) rfl rfl ?_
              refine Go.icmp C d2_48 (n_ne _ _) (qt := 54) (q := 51) (by decide) (by decide) rfl (fun b7 => ?_) (fun b7 => ?_)
              ·
                refine Go.iloadN C d2_54 (q := 55) rfl rfl ?_
                refine Go.bipush C (18 : Int32) d2_55 (q := 57) rfl rfl ?_
                refine Go.icmp C d2_57 (n_ne _ _) (qt := 63) (q := 60) (by decide) (by decide) rfl (fun b8 => ?_) (fun b8 => ?_)
                ·
                  refine Go.bipush C (8 : Int32) d2_63 (q := 65) rfl rfl ?_
                  refine Go.retI C d2_65 (by decide) (by decide) ⟨?_, rfl⟩
                  refine congrArg (fun z => some (Value.int z)) ?_
                  show (8 : Int32) = f_chain p0
                  unfold f_chain
                  rw [if_neg b1, if_pos b2, if_pos b3, if_pos b4, if_neg b5, if_neg b6, if_neg b7, if_neg b8]
                ·
                  have b8 := Classical.not_not.mp b8
                  refine Go.bipush C (7 : Int32) d2_60 (q := 62) rfl rfl ?_
                  refine Go.retI C d2_62 (by decide) (by decide) ⟨?_, rfl⟩
                  refine congrArg (fun z => some (Value.int z)) ?_
                  show (7 : Int32) = f_chain p0
                  unfold f_chain
                  rw [if_neg b1, if_pos b2, if_pos b3, if_pos b4, if_neg b5, if_neg b6, if_neg b7, if_pos b8]
              ·
                have b7 := Classical.not_not.mp b7
                refine Go.bipush C (6 : Int32) d2_51 (q := 53) rfl rfl ?_
                refine Go.retI C d2_53 (by decide) (by decide) ⟨?_, rfl⟩
                refine congrArg (fun z => some (Value.int z)) ?_
                show (6 : Int32) = f_chain p0
                unfold f_chain
                rw [if_neg b1, if_pos b2, if_pos b3, if_pos b4, if_neg b5, if_neg b6, if_pos b7]
            ·
              have b6 := Classical.not_not.mp b6
              refine Go.iconst C (5 : Int32) d2_43 (q := 44) rfl rfl ?_
              refine Go.retI C d2_44 (by decide) (by decide) ⟨?_, rfl⟩
              refine congrArg (fun z => some (Value.int z)) ?_
              show (5 : Int32) = f_chain p0
              unfold f_chain
              rw [if_neg b1, if_pos b2, if_pos b3, if_pos b4, if_neg b5, if_pos b6]
          ·
            have b5 := Classical.not_not.mp b5
            refine Go.iconst C (4 : Int32) d2_35 (q := 36) rfl rfl ?_
            refine Go.retI C d2_36 (by decide) (by decide) ⟨?_, rfl⟩
            refine congrArg (fun z => some (Value.int z)) ?_
            show (4 : Int32) = f_chain p0
            unfold f_chain
            rw [if_neg b1, if_pos b2, if_pos b3, if_pos b4, if_pos b5]
        ·
          refine Go.iconst C (3 : Int32) d2_27 (q := 28) rfl rfl ?_
          refine Go.retI C d2_28 (by decide) (by decide) ⟨?_, rfl⟩
          refine congrArg (fun z => some (Value.int z)) ?_
          show (3 : Int32) = f_chain p0
          unfold f_chain
          rw [if_neg b1, if_pos b2, if_pos b3, if_neg b4]
      ·
        refine Go.iconst C (2 : Int32) d2_19 (q := 20) rfl rfl ?_
        refine Go.retI C d2_20 (by decide) (by decide) ⟨?_, rfl⟩
        refine congrArg (fun z => some (Value.int z)) ?_
        show (2 : Int32) = f_chain p0
        unfold f_chain
        rw [if_neg b1, if_pos b2, if_neg b3]
    ·
      refine Go.iconst C (1 : Int32) d2_11 (q := 12) rfl rfl ?_
      refine Go.retI C d2_12 (by decide) (by decide) ⟨?_, rfl⟩
      refine congrArg (fun z => some (Value.int z)) ?_
      show (1 : Int32) = f_chain p0
      unfold f_chain
      rw [if_neg b1, if_neg b2]
  ·
    have b1 := Classical.not_not.mp b1
    refine Go.iconst C (0 : Int32) d2_4 (q := 5) rfl rfl ?_
    refine Go.retI C d2_5 (by decide) (by decide) ⟨?_, rfl⟩
    refine congrArg (fun z => some (Value.int z)) ?_
    show (0 : Int32) = f_chain p0
    unfold f_chain
    rw [if_pos b1]
def f_depth (p0 : Int32) : Int32 := (if p0 = (0 : Int32) then (0 : Int32) else (if (5 : Int32) < p0 then (if (12 : Int32) < p0 then (if (14 : Int32) < p0 then (1 : Int32) else (p0 - (12 : Int32))) else (p0 - (5 : Int32))) else p0))
set_option maxRecDepth 65536 in
theorem c_f_depth (l : Launch) (Z : State) (a0 : Array Value) (hw : ∀ d ∈ tables_1, d.before a0 Z = true) (p0 : Int32) (h0 : Heap) (n0 : Nat) : Met1 l Z (⟨"com/example/tolerant_query/tolerantquery/DatatypeWithinPinLaw", "depth", "(I)I"⟩ : MethodName) method_4_code 1 (some .int) [] ({ frames := 0, cells := 0, slots := 0, locals := 0 } : Room) #[(.int p0)] h0 n0 (Ret (.int (f_depth p0)) h0) := by
  refine met_of_go (plainFor_of_name pn_com_example_tolerant_query_tolerantquery_DatatypeWithinPinLaw) (fun m => ef_4 m p0) ?_
  intro W hl C
  subst hl
  refine Go.iloadN C d4_0 (q := 1) rfl rfl ?_
  refine Go.if0 C d4_1 (z_ne _) (qt := 6) (q := 4) (by decide) (by decide) rfl (fun b1 => ?_) (fun b1 => ?_)
  ·
    refine Go.iloadN C d4_6 (q := 7) rfl rfl ?_
    refine Go.iconst C (5 : Int32) d4_7 (q := 8) rfl rfl ?_
    refine Go.icmp C d4_8 (n_gt _ _) (qt := 13) (q := 11) (by decide) (by decide) rfl (fun b2 => ?_) (fun b2 => ?_)
    ·
      refine Go.iloadN C d4_13 (q := 14) rfl rfl ?_
      refine Go.bipush C (12 : Int32) d4_14 (q := 16) rfl rfl ?_
      refine Go.icmp C d4_16 (n_gt _ _) (qt := 23) (q := 19) (by decide) (by decide) rfl (fun b3 => ?_) (fun b3 => ?_)
      ·
        refine Go.iloadN C d4_23 (q := 24) rfl rfl ?_
        refine Go.bipush C (14 : Int32) d4_24 (q := 26) rfl rfl ?_
        refine Go.icmp C d4_26 (n_gt _ _) (qt := 34) (q := 29) (by decide) (by decide) rfl (fun b4 => ?_) (fun b4 => ?_)
        ·
          refine Go.iconst C (1 : Int32) d4_34 (q := 35) rfl rfl ?_
          refine Go.retI C d4_35 (by decide) (by decide) ⟨?_, rfl⟩
          refine congrArg (fun z => some (Value.int z)) ?_
          show (1 : Int32) = f_depth p0
          unfold f_depth
          rw [if_neg b1, if_pos b2, if_pos b3, if_pos b4]
        ·
          refine Go.iloadN C d4_29 (q := 30) rfl rfl ?_
          refine Go.bipush C (12 : Int32) d4_30 (q := 32) rfl rfl ?_
          refine Go.isub C d4_32 (q := 33) rfl ?_
          refine Go.retI C d4_33 (by decide) (by decide) ⟨?_, rfl⟩
          refine congrArg (fun z => some (Value.int z)) ?_
          show (p0 - (12 : Int32)) = f_depth p0
          unfold f_depth
          rw [if_neg b1, if_pos b2, if_pos b3, if_neg b4]
      ·
        refine Go.iloadN C d4_19 (q := 20) rfl rfl ?_
        refine Go.iconst C (5 : Int32) d4_20 (q := 21) rfl rfl ?_
        refine Go.isub C d4_21 (q := 22) rfl ?_
        refine Go.retI C d4_22 (by decide) (by decide) ⟨?_, rfl⟩
        refine congrArg (fun z => some (Value.int z)) ?_
        show (p0 - (5 : Int32)) = f_depth p0
        unfold f_depth
        rw [if_neg b1, if_pos b2, if_neg b3]
    ·
      refine Go.iloadN C d4_11 (q := 12) rfl rfl ?_
      refine Go.retI C d4_12 (by decide) (by decide) ⟨?_, rfl⟩
      refine congrArg (fun z => some (Value.int z)) ?_
      show p0 = f_depth p0
      unfold f_depth
      rw [if_neg b1, if_neg b2]
  ·
    have b1 := Classical.not_not.mp b1
    refine Go.iconst C (0 : Int32) d4_4 (q := 5) rfl rfl ?_
    refine Go.retI C d4_5 (by decide) (by decide) ⟨?_, rfl⟩
    refine congrArg (fun z => some (Value.int z)) ?_
    show (0 : Int32) = f_depth p0
    unfold f_depth
    rw [if_pos b1]
theorem own_last (i : Int32) (h0 : ¬ i < 0) (h : i.toNatClampNeg < 20) (q0 : ¬ i = (0 : Int32)) (q1 : ¬ i = (1 : Int32)) (q2 : ¬ i = (2 : Int32)) (q3 : ¬ i = (3 : Int32)) (q4 : ¬ i = (4 : Int32)) (q5 : ¬ i = (5 : Int32)) (q6 : ¬ i = (6 : Int32)) (q7 : ¬ i = (7 : Int32)) (q8 : ¬ i = (8 : Int32)) (q9 : ¬ i = (9 : Int32)) (q10 : ¬ i = (10 : Int32)) (q11 : ¬ i = (11 : Int32)) (q12 : ¬ i = (12 : Int32)) (q13 : ¬ i = (13 : Int32)) (q14 : ¬ i = (14 : Int32)) (q15 : ¬ i = (15 : Int32)) (q16 : ¬ i = (16 : Int32)) (q17 : ¬ i = (17 : Int32)) (q18 : ¬ i = (18 : Int32)) : i = 19 := by
  have e : i.toNatClampNeg = i.toInt.toNat := rfl
  rw [Int32.lt_iff_toInt_lt] at h0
  simp only [← Int32.toInt_inj] at *
  have e0 : (0 : Int32).toInt = 0 := rfl
  have k1 : (1 : Int32).toInt = 1 := rfl
  have k2 : (2 : Int32).toInt = 2 := rfl
  have k3 : (3 : Int32).toInt = 3 := rfl
  have k4 : (4 : Int32).toInt = 4 := rfl
  have k5 : (5 : Int32).toInt = 5 := rfl
  have k6 : (6 : Int32).toInt = 6 := rfl
  have k7 : (7 : Int32).toInt = 7 := rfl
  have k8 : (8 : Int32).toInt = 8 := rfl
  have k9 : (9 : Int32).toInt = 9 := rfl
  have k10 : (10 : Int32).toInt = 10 := rfl
  have k11 : (11 : Int32).toInt = 11 := rfl
  have k12 : (12 : Int32).toInt = 12 := rfl
  have k13 : (13 : Int32).toInt = 13 := rfl
  have k14 : (14 : Int32).toInt = 14 := rfl
  have k15 : (15 : Int32).toInt = 15 := rfl
  have k16 : (16 : Int32).toInt = 16 := rfl
  have k17 : (17 : Int32).toInt = 17 := rfl
  have k18 : (18 : Int32).toInt = 18 := rfl
  have k19 : (19 : Int32).toInt = 19 := rfl
  omega
set_option maxRecDepth 65536 in
theorem c_pick (l : Launch) (Z : State) (a0 : Array Value) (hw : ∀ d ∈ tables_1, d.before a0 Z = true) (i : Int32) (h0 : Heap) (n0 : Nat) (ad : Nat → Addr) (Z0 : n0 ≤ h0.size) (hi : ¬ i < 0 ∧ i.toNatClampNeg < 20) (S0 : Sta Z h0 "com/example/tolerant_query/tolerantquery/Datatype" "LITERAL" "Lcom/example/tolerant_query/tolerantquery/Datatype;" (.ref (ad 0))) (S1 : Sta Z h0 "com/example/tolerant_query/tolerantquery/Datatype" "REAL" "Lcom/example/tolerant_query/tolerantquery/Datatype;" (.ref (ad 1))) (S2 : Sta Z h0 "com/example/tolerant_query/tolerantquery/Datatype" "RATIONAL" "Lcom/example/tolerant_query/tolerantquery/Datatype;" (.ref (ad 2))) (S3 : Sta Z h0 "com/example/tolerant_query/tolerantquery/Datatype" "DECIMAL" "Lcom/example/tolerant_query/tolerantquery/Datatype;" (.ref (ad 3))) (S4 : Sta Z h0 "com/example/tolerant_query/tolerantquery/Datatype" "INTEGER" "Lcom/example/tolerant_query/tolerantquery/Datatype;" (.ref (ad 4))) (S5 : Sta Z h0 "com/example/tolerant_query/tolerantquery/Datatype" "NON_NEGATIVE_INTEGER" "Lcom/example/tolerant_query/tolerantquery/Datatype;" (.ref (ad 5))) (S6 : Sta Z h0 "com/example/tolerant_query/tolerantquery/Datatype" "PLAIN_LITERAL" "Lcom/example/tolerant_query/tolerantquery/Datatype;" (.ref (ad 6))) (S7 : Sta Z h0 "com/example/tolerant_query/tolerantquery/Datatype" "STRING" "Lcom/example/tolerant_query/tolerantquery/Datatype;" (.ref (ad 7))) (S8 : Sta Z h0 "com/example/tolerant_query/tolerantquery/Datatype" "NORMALIZED_STRING" "Lcom/example/tolerant_query/tolerantquery/Datatype;" (.ref (ad 8))) (S9 : Sta Z h0 "com/example/tolerant_query/tolerantquery/Datatype" "TOKEN" "Lcom/example/tolerant_query/tolerantquery/Datatype;" (.ref (ad 9))) (S10 : Sta Z h0 "com/example/tolerant_query/tolerantquery/Datatype" "NMTOKEN" "Lcom/example/tolerant_query/tolerantquery/Datatype;" (.ref (ad 10))) (S11 : Sta Z h0 "com/example/tolerant_query/tolerantquery/Datatype" "NAME" "Lcom/example/tolerant_query/tolerantquery/Datatype;" (.ref (ad 11))) (S12 : Sta Z h0 "com/example/tolerant_query/tolerantquery/Datatype" "NCNAME" "Lcom/example/tolerant_query/tolerantquery/Datatype;" (.ref (ad 12))) (S13 : Sta Z h0 "com/example/tolerant_query/tolerantquery/Datatype" "DATE_TIME" "Lcom/example/tolerant_query/tolerantquery/Datatype;" (.ref (ad 13))) (S14 : Sta Z h0 "com/example/tolerant_query/tolerantquery/Datatype" "DATE_TIME_STAMP" "Lcom/example/tolerant_query/tolerantquery/Datatype;" (.ref (ad 14))) (S15 : Sta Z h0 "com/example/tolerant_query/tolerantquery/Datatype" "HEX_BINARY" "Lcom/example/tolerant_query/tolerantquery/Datatype;" (.ref (ad 15))) (S16 : Sta Z h0 "com/example/tolerant_query/tolerantquery/Datatype" "BASE64_BINARY" "Lcom/example/tolerant_query/tolerantquery/Datatype;" (.ref (ad 16))) (S17 : Sta Z h0 "com/example/tolerant_query/tolerantquery/Datatype" "ANY_URI" "Lcom/example/tolerant_query/tolerantquery/Datatype;" (.ref (ad 17))) (S18 : Sta Z h0 "com/example/tolerant_query/tolerantquery/Datatype" "XML_LITERAL" "Lcom/example/tolerant_query/tolerantquery/Datatype;" (.ref (ad 18))) (S19 : Sta Z h0 "com/example/tolerant_query/tolerantquery/Datatype" "EMPTY" "Lcom/example/tolerant_query/tolerantquery/Datatype;" (.ref (ad 19))) : Met1 l Z (⟨"com/example/tolerant_query/tolerantquery/DatatypeWithinPinLaw", "pick", "(I)Lcom/example/tolerant_query/tolerantquery/Datatype;"⟩ : MethodName) method_5_code 1 (some (.object "com/example/tolerant_query/tolerantquery/Datatype")) [] ({ frames := 0, cells := 0, slots := 0, locals := 0 } : Room) #[(.int i)] h0 n0 (Ret (.ref (ad i.toNatClampNeg)) h0) := by
  refine met_of_go (plainFor_of_name pn_com_example_tolerant_query_tolerantquery_DatatypeWithinPinLaw) (fun m => ef_1 m i) ?_
  intro W hl C
  subst hl
  refine Go.iloadN C d1_0 (q := 1) rfl rfl ?_
  refine Go.if0 C d1_1 (z_ne _) (qt := 8) (q := 4) (by decide) (by decide) rfl (fun b1 => ?_) (fun b1 => ?_)
  ·
    refine Go.iloadN C d1_8 (q := 9) rfl rfl ?_
    refine Go.iconst C (1 : Int32) d1_9 (q := 10) rfl rfl ?_
    refine Go.icmp C d1_10 (n_ne _ _) (qt := 17) (q := 13) (by decide) (by decide) rfl (fun b2 => ?_) (fun b2 => ?_)
    ·
      refine Go.iloadN C d1_17 (q := 18) rfl rfl ?_
      refine Go.iconst C (2 : Int32) d1_18 (q := 19) rfl rfl ?_
      refine Go.icmp C d1_19 (n_ne _ _) (qt := 26) (q := 22) (by decide) (by decide) rfl (fun b3 => ?_) (fun b3 => ?_)
      ·
        refine Go.iloadN C d1_26 (q := 27) rfl rfl ?_
        refine Go.iconst C (3 : Int32) d1_27 (q := 28) rfl rfl ?_
        refine Go.icmp C d1_28 (n_ne _ _) (qt := 35) (q := 31) (by decide) (by decide) rfl (fun b4 => ?_) (fun b4 => ?_)
        ·
          refine Go.iloadN C d1_35 (q := 36) rfl rfl ?_
          refine Go.iconst C (4 : Int32) d1_36 (q := 37) rfl rfl ?_
          refine Go.icmp C d1_37 (n_ne _ _) (qt := 44) (q := 40) (by decide) (by decide) rfl (fun b5 => ?_) (fun b5 => ?_)
          ·
            refine Go.iloadN C d1_44 (q := 45) rfl rfl ?_
            refine Go.iconst C (5 : Int32) d1_45 (q := 46) rfl rfl ?_
            refine Go.icmp C d1_46 (n_ne _ _) (qt := 53) (q := 49) (by decide) (by decide) rfl (fun b6 => ?_) (fun b6 => ?_)
            ·
              refine Go.iloadN C d1_53 (q := 54) rfl rfl ?_
              refine Go.bipush C (6 : Int32) d1_54 (q := 56) rfl rfl ?_
              refine Go.icmp C d1_56 (n_ne _ _) (qt := 63) (q := 59) (by decide) (by decide) rfl (fun b7 => ?_) (fun b7 => ?_)
              ·
                refine Go.iloadN C d1_63 (q := 64) rfl rfl ?_
                refine Go.bipush C (7 : Int32) d1_64 (q := 66) rfl rfl ?_
                refine Go.icmp C d1_66 (n_ne _ _) (qt := 73) (q := 69) (by decide) (by decide) rfl (fun b8 => ?_) (fun b8 => ?_)
                ·
                  refine Go.iloadN C d1_73 (q := 74) rfl rfl ?_
                  refine Go.bipush C (8 : Int32) d1_74 (q := 76) rfl rfl ?_
                  refine Go.icmp C d1_76 (n_ne _ _) (qt := 83) (q := 79) (by decide) (by decide) rfl (fun b9 => ?_) (fun b9 => ?_)
                  ·
                    refine Go.iloadN C d1_83 (q := 84) rfl rfl ?_
                    refine Go.bipush C (9 : Int32) d1_84 (q := 86) rfl rfl ?_
                    refine Go.icmp C d1_86 (n_ne _ _) (qt := 93) (q := 89) (by decide) (by decide) rfl (fun b10 => ?_) (fun b10 => ?_)
                    ·
                      refine Go.iloadN C d1_93 (q := 94) rfl rfl ?_
                      refine Go.bipush C (10 : Int32) d1_94 (q := 96) rfl rfl ?_
                      refine Go.icmp C d1_96 (n_ne _ _) (qt := 103) (q := 99) (by decide) (by decide) rfl (fun b11 => ?_) (fun b11 => ?_)
                      ·
                        refine Go.iloadN C d1_103 (q := 104) rfl rfl ?_
                        refine Go.bipush C (11 : Int32) d1_104 (q := 106) rfl rfl ?_
                        refine Go.icmp C d1_106 (n_ne _ _) (qt := 113) (q := 109) (by decide) (by decide) rfl (fun b12 => ?_) (fun b12 => ?_)
                        ·
                          refine Go.iloadN C d1_113 (q := 114) rfl rfl ?_
                          refine Go.bipush C (12 : Int32) d1_114 (q := 116) rfl rfl ?_
                          refine Go.icmp C d1_116 (n_ne _ _) (qt := 123) (q := 119) (by decide) (by decide) rfl (fun b13 => ?_) (fun b13 => ?_)
                          ·
                            refine Go.iloadN C d1_123 (q := 124) rfl rfl ?_
                            refine Go.bipush C (13 : Int32) d1_124 (q := 126) rfl rfl ?_
                            refine Go.icmp C d1_126 (n_ne _ _) (qt := 133) (q := 129) (by decide) (by decide) rfl (fun b14 => ?_) (fun b14 => ?_)
                            ·
                              refine Go.iloadN C d1_133 (q := 134) rfl rfl ?_
                              refine Go.bipush C (14 : Int32) d1_134 (q := 136) rfl rfl ?_
                              refine Go.icmp C d1_136 (n_ne _ _) (qt := 143) (q := 139) (by decide) (by decide) rfl (fun b15 => ?_) (fun b15 => ?_)
                              ·
                                refine Go.iloadN C d1_143 (q := 144) rfl rfl ?_
                                refine Go.bipush C (15 : Int32) d1_144 (q := 146) rfl rfl ?_
                                refine Go.icmp C d1_146 (n_ne _ _) (qt := 153) (q := 149) (by decide) (by decide) rfl (fun b16 => ?_) (fun b16 => ?_)
                                ·
                                  refine Go.iloadN C d1_153 (q := 154) rfl rfl ?_
                                  refine Go.bipush C (16 : Int32) d1_154 (q := 156) rfl rfl ?_
                                  refine Go.icmp C d1_156 (n_ne _ _) (qt := 163) (q := 159) (by decide) (by decide) rfl (fun b17 => ?_) (fun b17 => ?_)
                                  ·
                                    refine Go.iloadN C d1_163 (q := 164) rfl rfl ?_
                                    refine Go.bipush C (17 : Int32) d1_164 (q := 166) rfl rfl ?_
                                    refine Go.icmp C d1_166 (n_ne _ _) (qt := 173) (q := 169) (by decide) (by decide) rfl (fun b18 => ?_) (fun b18 => ?_)
                                    ·
                                      refine Go.iloadN C d1_173 (q := 174) rfl rfl ?_
                                      refine Go.bipush C (18 : Int32) d1_174 (q := 176) rfl rfl ?_
                                      refine Go.icmp C d1_176 (n_ne _ _) (qt := 183) (q := 179) (by decide) (by decide) rfl (fun b19 => ?_) (fun b19 => ?_)
                                      ·
                                        refine Go.getS C (hw _ (List.mem_of_getElem? (i := 46) rfl)) Via.refl S19 d1_183 (q := 186) rfl ?_
                                        exact Go.retR C d1_186 rfl rfl rfl (by decide) (by decide) ⟨by rw [own_last i hi.1 hi.2 b1 b2 b3 b4 b5 b6 b7 b8 b9 b10 b11 b12 b13 b14 b15 b16 b17 b18 b19]; rfl, rfl⟩
                                      ·
                                        have b19 := Classical.not_not.mp b19
                                        refine Go.getS C (hw _ (List.mem_of_getElem? (i := 57) rfl)) Via.refl S18 d1_179 (q := 182) rfl ?_
                                        exact Go.retR C d1_182 rfl rfl rfl (by decide) (by decide) ⟨by rw [b19]; rfl, rfl⟩
                                    ·
                                      have b18 := Classical.not_not.mp b18
                                      refine Go.getS C (hw _ (List.mem_of_getElem? (i := 55) rfl)) Via.refl S17 d1_169 (q := 172) rfl ?_
                                      exact Go.retR C d1_172 rfl rfl rfl (by decide) (by decide) ⟨by rw [b18]; rfl, rfl⟩
                                  ·
                                    have b17 := Classical.not_not.mp b17
                                    refine Go.getS C (hw _ (List.mem_of_getElem? (i := 34) rfl)) Via.refl S16 d1_159 (q := 162) rfl ?_
                                    exact Go.retR C d1_162 rfl rfl rfl (by decide) (by decide) ⟨by rw [b17]; rfl, rfl⟩
                                ·
                                  have b16 := Classical.not_not.mp b16
                                  refine Go.getS C (hw _ (List.mem_of_getElem? (i := 51) rfl)) Via.refl S15 d1_149 (q := 152) rfl ?_
                                  exact Go.retR C d1_152 rfl rfl rfl (by decide) (by decide) ⟨by rw [b16]; rfl, rfl⟩
                              ·
                                have b15 := Classical.not_not.mp b15
                                refine Go.getS C (hw _ (List.mem_of_getElem? (i := 20) rfl)) Via.refl S14 d1_139 (q := 142) rfl ?_
                                exact Go.retR C d1_142 rfl rfl rfl (by decide) (by decide) ⟨by rw [b15]; rfl, rfl⟩
                            ·
                              have b14 := Classical.not_not.mp b14
                              refine Go.getS C (hw _ (List.mem_of_getElem? (i := 38) rfl)) Via.refl S13 d1_129 (q := 132) rfl ?_
                              exact Go.retR C d1_132 rfl rfl rfl (by decide) (by decide) ⟨by rw [b14]; rfl, rfl⟩
                          ·
                            have b13 := Classical.not_not.mp b13
                            refine Go.getS C (hw _ (List.mem_of_getElem? (i := 41) rfl)) Via.refl S12 d1_119 (q := 122) rfl ?_
                            exact Go.retR C d1_122 rfl rfl rfl (by decide) (by decide) ⟨by rw [b13]; rfl, rfl⟩
                        ·
                          have b12 := Classical.not_not.mp b12
                          refine Go.getS C (hw _ (List.mem_of_getElem? (i := 27) rfl)) Via.refl S11 d1_109 (q := 112) rfl ?_
                          exact Go.retR C d1_112 rfl rfl rfl (by decide) (by decide) ⟨by rw [b12]; rfl, rfl⟩
                      ·
                        have b11 := Classical.not_not.mp b11
                        refine Go.getS C (hw _ (List.mem_of_getElem? (i := 48) rfl)) Via.refl S10 d1_99 (q := 102) rfl ?_
                        exact Go.retR C d1_102 rfl rfl rfl (by decide) (by decide) ⟨by rw [b11]; rfl, rfl⟩
                    ·
                      have b10 := Classical.not_not.mp b10
                      refine Go.getS C (hw _ (List.mem_of_getElem? (i := 36) rfl)) Via.refl S9 d1_89 (q := 92) rfl ?_
                      exact Go.retR C d1_92 rfl rfl rfl (by decide) (by decide) ⟨by rw [b10]; rfl, rfl⟩
                  ·
                    have b9 := Classical.not_not.mp b9
                    refine Go.getS C (hw _ (List.mem_of_getElem? (i := 25) rfl)) Via.refl S8 d1_79 (q := 82) rfl ?_
                    exact Go.retR C d1_82 rfl rfl rfl (by decide) (by decide) ⟨by rw [b9]; rfl, rfl⟩
                ·
                  have b8 := Classical.not_not.mp b8
                  refine Go.getS C (hw _ (List.mem_of_getElem? (i := 40) rfl)) Via.refl S7 d1_69 (q := 72) rfl ?_
                  exact Go.retR C d1_72 rfl rfl rfl (by decide) (by decide) ⟨by rw [b8]; rfl, rfl⟩
              ·
                have b7 := Classical.not_not.mp b7
                refine Go.getS C (hw _ (List.mem_of_getElem? (i := 39) rfl)) Via.refl S6 d1_59 (q := 62) rfl ?_
                exact Go.retR C d1_62 rfl rfl rfl (by decide) (by decide) ⟨by rw [b7]; rfl, rfl⟩
            ·
              have b6 := Classical.not_not.mp b6
              refine Go.getS C (hw _ (List.mem_of_getElem? (i := 43) rfl)) Via.refl S5 d1_49 (q := 52) rfl ?_
              exact Go.retR C d1_52 rfl rfl rfl (by decide) (by decide) ⟨by rw [b6]; rfl, rfl⟩
          ·
            have b5 := Classical.not_not.mp b5
            refine Go.getS C (hw _ (List.mem_of_getElem? (i := 54) rfl)) Via.refl S4 d1_40 (q := 43) rfl ?_
            exact Go.retR C d1_43 rfl rfl rfl (by decide) (by decide) ⟨by rw [b5]; rfl, rfl⟩
        ·
          have b4 := Classical.not_not.mp b4
          refine Go.getS C (hw _ (List.mem_of_getElem? (i := 8) rfl)) Via.refl S3 d1_31 (q := 34) rfl ?_
          exact Go.retR C d1_34 rfl rfl rfl (by decide) (by decide) ⟨by rw [b4]; rfl, rfl⟩
      ·
        have b3 := Classical.not_not.mp b3
        refine Go.getS C (hw _ (List.mem_of_getElem? (i := 53) rfl)) Via.refl S2 d1_22 (q := 25) rfl ?_
        exact Go.retR C d1_25 rfl rfl rfl (by decide) (by decide) ⟨by rw [b3]; rfl, rfl⟩
    ·
      have b2 := Classical.not_not.mp b2
      refine Go.getS C (hw _ (List.mem_of_getElem? (i := 22) rfl)) Via.refl S1 d1_13 (q := 16) rfl ?_
      exact Go.retR C d1_16 rfl rfl rfl (by decide) (by decide) ⟨by rw [b2]; rfl, rfl⟩
  ·
    have b1 := Classical.not_not.mp b1
    refine Go.getS C (hw _ (List.mem_of_getElem? (i := 5) rfl)) Via.refl S0 d1_4 (q := 7) rfl ?_
    exact Go.retR C d1_7 rfl rfl rfl (by decide) (by decide) ⟨by rw [b1]; rfl, rfl⟩
set_option maxRecDepth 65536 in
theorem lp_within (Z : State) (a0 : Array Value) (hw : ∀ d ∈ tables_1, d.before a0 Z = true) (W : Wk) (rm : Room) (C : Cx Z W rm "com/example/tolerant_query/tolerantquery/Datatype" "within" prog_1_method_8_code 4 (some .boolean)) (h0 : Heap) (n0 k n : Nat) (Q : Option Value → Heap → Prop) (ad : Nat → Addr) (a : Addr) (j : Nat) (hj : j < 20) (hk : k ≤ rm.cells) (hn : n ≤ rm.slots) (hP : ∀ k, k < 20 → Fld Z h0 (ad k) "com/example/tolerant_query/tolerantquery/Datatype" "parent" "Lcom/example/tolerant_query/tolerantquery/Datatype;" (own_pv ad k)) (hI : ∀ k m, k < 20 → m < 20 → ad k = ad m → k = m) :
    ∀ (f m : Nat), m < 20 → own_dp m < f → Q (some (.int (if own_in f m j then 1 else 0))) h0 → Go W n0 Q h0 k n 4 #[.val (.ref a), .val (.ref (ad j)), .val (.int (0 : Int32)), .val (.ref (ad m))] [] := by
  intro f
  induction f with
  | zero => intro m _ h _; exact absurd h (Nat.not_lt_zero _)
  | succ f ih =>
    intro m hm hd hQ
    by_cases e : m = j
    · subst e
      by_cases q : own_par m = 20
      ·
        have G0 : Fld Z h0 (ad m) "com/example/tolerant_query/tolerantquery/Datatype" "parent" "Lcom/example/tolerant_query/tolerantquery/Datatype;" .null := by have u := hP m hm; rw [own_pv, if_pos q] at u; exact u
        refine Go.aloadN C d3_4 (q := 5) rfl rfl rfl ?_
        refine Go.ifnullN C d3_5 (q := 8) rfl ?_
        refine Go.iloadN C d3_8 (q := 9) rfl rfl ?_
        refine Go.if0 C d3_9 (z_ne _) (qt := 31) (q := 12) (by decide) (by decide) rfl (fun b1 => absurd b1 (by decide)) (fun _ => ?_)
        refine Go.aloadN C d3_12 (q := 13) rfl rfl rfl ?_
        refine Go.aloadN C d3_13 (q := 14) rfl rfl rfl ?_
        refine Go.acmp C d3_14 (x := (.ref (ad m))) (y := (.ref (ad m))) rfl rfl (decide_eq_true rfl) (by decide) (q := 17) rfl ?_
        refine Go.iconst C (1 : Int32) d3_17 (q := 18) rfl rfl ?_
        refine Go.goto C d3_18 (q := 22) (by decide) (by decide) ?_
        refine Go.istoreNR C d3_22 (q := 23) rfl (l' := #[.val (.ref a), .val (.ref (ad m)), .val (.int (1 : Int32)), .val (.ref (ad m))]) rfl ?_
        refine Go.aloadN C d3_23 (q := 24) rfl rfl rfl ?_
        refine Go.getF C (host := "") (Or.inl (hw _ (List.mem_of_getElem? (i := 18) rfl))) Via.refl G0 d3_24 (q := 27) rfl ?_
        refine Go.astoreN C d3_27 (q := 28) rfl (l' := #[.val (.ref a), .val (.ref (ad m)), .val (.int (1 : Int32)), .val .null]) rfl rfl ?_
        refine Go.goto C d3_28 (q := 4) (by decide) (by decide) ?_
        refine Go.aloadN C d3_4 (q := 5) rfl rfl rfl ?_
        refine Go.ifnullY C d3_5 (q := 31) (by decide) (by decide) ?_
        refine Go.iloadN C d3_31 (q := 32) rfl rfl ?_
        exact Go.retZ (t := .boolean) (by simp) C d3_32 hk hn (by rw [own_in, show (m == m) = true from beq_self_eq_true m] at hQ; exact hQ)
      ·
        have G0 : Fld Z h0 (ad m) "com/example/tolerant_query/tolerantquery/Datatype" "parent" "Lcom/example/tolerant_query/tolerantquery/Datatype;" (.ref (ad (own_par m))) := by have u := hP m hm; rw [own_pv, if_neg q] at u; exact u
        refine Go.aloadN C d3_4 (q := 5) rfl rfl rfl ?_
        refine Go.ifnullN C d3_5 (q := 8) rfl ?_
        refine Go.iloadN C d3_8 (q := 9) rfl rfl ?_
        refine Go.if0 C d3_9 (z_ne _) (qt := 31) (q := 12) (by decide) (by decide) rfl (fun b1 => absurd b1 (by decide)) (fun _ => ?_)
        refine Go.aloadN C d3_12 (q := 13) rfl rfl rfl ?_
        refine Go.aloadN C d3_13 (q := 14) rfl rfl rfl ?_
        refine Go.acmp C d3_14 (x := (.ref (ad m))) (y := (.ref (ad m))) rfl rfl (decide_eq_true rfl) (by decide) (q := 17) rfl ?_
        refine Go.iconst C (1 : Int32) d3_17 (q := 18) rfl rfl ?_
        refine Go.goto C d3_18 (q := 22) (by decide) (by decide) ?_
        refine Go.istoreNR C d3_22 (q := 23) rfl (l' := #[.val (.ref a), .val (.ref (ad m)), .val (.int (1 : Int32)), .val (.ref (ad m))]) rfl ?_
        refine Go.aloadN C d3_23 (q := 24) rfl rfl rfl ?_
        refine Go.getF C (host := "") (Or.inl (hw _ (List.mem_of_getElem? (i := 18) rfl))) Via.refl G0 d3_24 (q := 27) rfl ?_
        refine Go.astoreN C d3_27 (q := 28) rfl (l' := #[.val (.ref a), .val (.ref (ad m)), .val (.int (1 : Int32)), .val (.ref (ad (own_par m)))]) rfl rfl ?_
        refine Go.goto C d3_28 (q := 4) (by decide) (by decide) ?_
        refine Go.aloadN C d3_4 (q := 5) rfl rfl rfl ?_
        refine Go.ifnullN C d3_5 (q := 8) rfl ?_
        refine Go.iloadN C d3_8 (q := 9) rfl rfl ?_
        refine Go.if0 C d3_9 (z_ne _) (qt := 31) (q := 12) (by decide) (by decide) rfl (fun _ => ?_) (fun b2 => absurd b2 (by decide))
        refine Go.iloadN C d3_31 (q := 32) rfl rfl ?_
        exact Go.retZ (t := .boolean) (by simp) C d3_32 hk hn (by rw [own_in, show (m == m) = true from beq_self_eq_true m] at hQ; exact hQ)
    · have ne0 : ad m ≠ ad j := fun z => e (hI m j hm hj z)
      by_cases q : own_par m = 20
      ·
        have G0 : Fld Z h0 (ad m) "com/example/tolerant_query/tolerantquery/Datatype" "parent" "Lcom/example/tolerant_query/tolerantquery/Datatype;" .null := by have u := hP m hm; rw [own_pv, if_pos q] at u; exact u
        refine Go.aloadN C d3_4 (q := 5) rfl rfl rfl ?_
        refine Go.ifnullN C d3_5 (q := 8) rfl ?_
        refine Go.iloadN C d3_8 (q := 9) rfl rfl ?_
        refine Go.if0 C d3_9 (z_ne _) (qt := 31) (q := 12) (by decide) (by decide) rfl (fun b1 => absurd b1 (by decide)) (fun _ => ?_)
        refine Go.aloadN C d3_12 (q := 13) rfl rfl rfl ?_
        refine Go.aloadN C d3_13 (q := 14) rfl rfl rfl ?_
        refine Go.acmp C d3_14 (x := (.ref (ad m))) (y := (.ref (ad j))) rfl rfl (decide_eq_false (fun e => ne0 (Value.ref.inj e))) (by decide) (q := 21) rfl ?_
        refine Go.iconst C (0 : Int32) d3_21 (q := 22) rfl rfl ?_
        refine Go.istoreNR C d3_22 (q := 23) rfl (l' := #[.val (.ref a), .val (.ref (ad j)), .val (.int (0 : Int32)), .val (.ref (ad m))]) rfl ?_
        refine Go.aloadN C d3_23 (q := 24) rfl rfl rfl ?_
        refine Go.getF C (host := "") (Or.inl (hw _ (List.mem_of_getElem? (i := 18) rfl))) Via.refl G0 d3_24 (q := 27) rfl ?_
        refine Go.astoreN C d3_27 (q := 28) rfl (l' := #[.val (.ref a), .val (.ref (ad j)), .val (.int (0 : Int32)), .val .null]) rfl rfl ?_
        refine Go.goto C d3_28 (q := 4) (by decide) (by decide) ?_
        refine Go.aloadN C d3_4 (q := 5) rfl rfl rfl ?_
        refine Go.ifnullY C d3_5 (q := 31) (by decide) (by decide) ?_
        refine Go.iloadN C d3_31 (q := 32) rfl rfl ?_
        exact Go.retZ (t := .boolean) (by simp) C d3_32 hk hn (by rw [own_in, show (m == j) = false from beq_false_of_ne e, show (own_par m != 20) = false from bne_eq_false_iff_eq.mpr q] at hQ; exact hQ)
      ·
        have G0 : Fld Z h0 (ad m) "com/example/tolerant_query/tolerantquery/Datatype" "parent" "Lcom/example/tolerant_query/tolerantquery/Datatype;" (.ref (ad (own_par m))) := by have u := hP m hm; rw [own_pv, if_neg q] at u; exact u
        refine Go.aloadN C d3_4 (q := 5) rfl rfl rfl ?_
        refine Go.ifnullN C d3_5 (q := 8) rfl ?_
        refine Go.iloadN C d3_8 (q := 9) rfl rfl ?_
        refine Go.if0 C d3_9 (z_ne _) (qt := 31) (q := 12) (by decide) (by decide) rfl (fun b1 => absurd b1 (by decide)) (fun _ => ?_)
        refine Go.aloadN C d3_12 (q := 13) rfl rfl rfl ?_
        refine Go.aloadN C d3_13 (q := 14) rfl rfl rfl ?_
        refine Go.acmp C d3_14 (x := (.ref (ad m))) (y := (.ref (ad j))) rfl rfl (decide_eq_false (fun e => ne0 (Value.ref.inj e))) (by decide) (q := 21) rfl ?_
        refine Go.iconst C (0 : Int32) d3_21 (q := 22) rfl rfl ?_
        refine Go.istoreNR C d3_22 (q := 23) rfl (l' := #[.val (.ref a), .val (.ref (ad j)), .val (.int (0 : Int32)), .val (.ref (ad m))]) rfl ?_
        refine Go.aloadN C d3_23 (q := 24) rfl rfl rfl ?_
        refine Go.getF C (host := "") (Or.inl (hw _ (List.mem_of_getElem? (i := 18) rfl))) Via.refl G0 d3_24 (q := 27) rfl ?_
        refine Go.astoreN C d3_27 (q := 28) rfl (l' := #[.val (.ref a), .val (.ref (ad j)), .val (.int (0 : Int32)), .val (.ref (ad (own_par m)))]) rfl rfl ?_
        refine Go.goto C d3_28 (q := 4) (by decide) (by decide) ?_
        exact ih (own_par m) (own_tab ⟨m, hm⟩ q).1 (by have := (own_tab ⟨m, hm⟩ q).2; simp only [] at this; omega) (by rw [own_in, show (m == j) = false from beq_false_of_ne e, show (own_par m != 20) = true from bne_iff_ne.mpr q] at hQ; exact hQ)
theorem own_d9 (i : Nat) (hi : i < 20) : own_dp i < 9 := by
  have k : ∀ m : Fin 20, own_dp m.val < 9 := by decide +kernel
  exact k ⟨i, hi⟩
theorem ef_w (m : MethodId) (x0 x1 : Addr) : entryFrame m #[(.ref x0), (.ref x1)] 4 = mkF m 0 #[.val (.ref x0), .val (.ref x1), .unset, .unset] [] := by first | (simp [entryFrame, mkF, argsToLocals, Value.category]; done) | rfl
set_option maxRecDepth 65536 in
theorem c_within (l : Launch) (Z : State) (a0 : Array Value) (hw : ∀ d ∈ tables_1, d.before a0 Z = true) (ad : Nat → Addr) (i j : Nat) (h0 : Heap) (n0 : Nat) (hi : i < 20) (hj : j < 20) (hP : ∀ k, k < 20 → Fld Z h0 (ad k) "com/example/tolerant_query/tolerantquery/Datatype" "parent" "Lcom/example/tolerant_query/tolerantquery/Datatype;" (own_pv ad k)) (hI : ∀ k m, k < 20 → m < 20 → ad k = ad m → k = m) : Met1 l Z (⟨"com/example/tolerant_query/tolerantquery/Datatype", "within", "(Lcom/example/tolerant_query/tolerantquery/Datatype;)Z"⟩ : MethodName) prog_1_method_8_code 4 (some .boolean) [] ({ frames := 0, cells := 0, slots := 0, locals := 0 } : Room) #[(.ref (ad i)), (.ref (ad j))] h0 n0 (Ret (.int (if own_in 9 i j then 1 else 0)) h0) := by
  refine met_of_go (plainFor_of_name pn_com_example_tolerant_query_tolerantquery_Datatype) (fun m => ef_w m (ad i) (ad j)) ?_
  intro W hl C
  subst hl
  refine Go.iconst C (0 : Int32) d3_0 (q := 1) rfl rfl ?_
  refine Go.istoreNR C d3_1 (q := 2) rfl (l' := #[.val (.ref (ad i)), .val (.ref (ad j)), .val (.int (0 : Int32)), .unset]) rfl ?_
  refine Go.aloadN C d3_2 (q := 3) rfl rfl rfl ?_
  refine Go.astoreN C d3_3 (q := 4) rfl (l' := #[.val (.ref (ad i)), .val (.ref (ad j)), .val (.int (0 : Int32)), .val (.ref (ad i))]) rfl rfl ?_
  exact lp_within Z a0 hw W _ C h0 n0 _ _ _ ad _ j hj (by decide) (by decide) hP hI 9 i hi (own_d9 i hi) ⟨rfl, rfl⟩
theorem own_r (p v : Int32) (h : v = ((p &&& (2147483647 : Int32)) % (20 : Int32))) : ¬ v < 0 ∧ v.toNatClampNeg < 20 := by
  have a := c_mask p 2147483647 31 (by decide) (by decide)
  have b := (c_irem (p &&& (2147483647 : Int32)) 20 20 rfl).1 (by omega)
  rw [← h] at b
  have e : v.toNatClampNeg = v.toInt.toNat := rfl
  have e0 : (0 : Int32).toInt = 0 := rfl
  rw [Int32.lt_iff_toInt_lt]
  omega
theorem own_20 (p v : Int32) (h : v = ((p &&& (2147483647 : Int32)) % (20 : Int32))) : ∃ i : Fin 20, v = Int32.ofNat i.val := by
  have a := own_r p v h
  rw [Int32.lt_iff_toInt_lt] at a
  have e : v.toNatClampNeg = v.toInt.toNat := rfl
  have e0 : (0 : Int32).toInt = 0 := rfl
  refine ⟨⟨_, a.2⟩, Int32.toInt_inj.mp ?_⟩
  rw [Int32.toInt_ofNat_small (by simp only []; omega)]
  simp only []
  omega
theorem fin0 (p0 : Int32) (p1 : Int32) (v1 : Int32) (hv1 : v1 = ((p0 &&& (2147483647 : Int32)) % (20 : Int32))) (v2 : Int32) (hv2 : v2 = ((p1 &&& (2147483647 : Int32)) % (20 : Int32))) (v3 : Int32) (hv3 : v3 = (if v1 = v2 then (1 : Int32) else (if v1 = (19 : Int32) then (0 : Int32) else (if v2 = (19 : Int32) then (0 : Int32) else (if v2 = (0 : Int32) then (1 : Int32) else (if (f_chain v1) = (f_chain v2) then (if (f_depth v1) < (f_depth v2) then (0 : Int32) else (1 : Int32)) else (0 : Int32))))))) (b11 : ¬ (if own_in 9 v1.toNatClampNeg v2.toNatClampNeg then (1 : Int32) else (0 : Int32)) = v3) : False := by
  obtain ⟨i, e1⟩ := own_20 p0 v1 hv1
  obtain ⟨j, e2⟩ := own_20 p1 v2 hv2
  clear hv1 hv2
  subst hv3
  subst e1 e2
  revert i j
  decide +kernel
set_option maxRecDepth 65536 in
set_option maxHeartbeats 4000000 in
theorem rm0 (l : Launch) (Z : State) (a0 : Array Value) (hw : ∀ d ∈ tables_1, d.before a0 Z = true) (p0 : Int32) (p1 : Int32) (h0 : Heap) (n0 : Nat) (Z0 : n0 ≤ h0.size) (ad : Nat → Addr) (S0 : Sta Z h0 "com/example/tolerant_query/tolerantquery/Datatype" "LITERAL" "Lcom/example/tolerant_query/tolerantquery/Datatype;" (.ref (ad 0))) (S1 : Sta Z h0 "com/example/tolerant_query/tolerantquery/Datatype" "REAL" "Lcom/example/tolerant_query/tolerantquery/Datatype;" (.ref (ad 1))) (S2 : Sta Z h0 "com/example/tolerant_query/tolerantquery/Datatype" "RATIONAL" "Lcom/example/tolerant_query/tolerantquery/Datatype;" (.ref (ad 2))) (S3 : Sta Z h0 "com/example/tolerant_query/tolerantquery/Datatype" "DECIMAL" "Lcom/example/tolerant_query/tolerantquery/Datatype;" (.ref (ad 3))) (S4 : Sta Z h0 "com/example/tolerant_query/tolerantquery/Datatype" "INTEGER" "Lcom/example/tolerant_query/tolerantquery/Datatype;" (.ref (ad 4))) (S5 : Sta Z h0 "com/example/tolerant_query/tolerantquery/Datatype" "NON_NEGATIVE_INTEGER" "Lcom/example/tolerant_query/tolerantquery/Datatype;" (.ref (ad 5))) (S6 : Sta Z h0 "com/example/tolerant_query/tolerantquery/Datatype" "PLAIN_LITERAL" "Lcom/example/tolerant_query/tolerantquery/Datatype;" (.ref (ad 6))) (S7 : Sta Z h0 "com/example/tolerant_query/tolerantquery/Datatype" "STRING" "Lcom/example/tolerant_query/tolerantquery/Datatype;" (.ref (ad 7))) (S8 : Sta Z h0 "com/example/tolerant_query/tolerantquery/Datatype" "NORMALIZED_STRING" "Lcom/example/tolerant_query/tolerantquery/Datatype;" (.ref (ad 8))) (S9 : Sta Z h0 "com/example/tolerant_query/tolerantquery/Datatype" "TOKEN" "Lcom/example/tolerant_query/tolerantquery/Datatype;" (.ref (ad 9))) (S10 : Sta Z h0 "com/example/tolerant_query/tolerantquery/Datatype" "NMTOKEN" "Lcom/example/tolerant_query/tolerantquery/Datatype;" (.ref (ad 10))) (S11 : Sta Z h0 "com/example/tolerant_query/tolerantquery/Datatype" "NAME" "Lcom/example/tolerant_query/tolerantquery/Datatype;" (.ref (ad 11))) (S12 : Sta Z h0 "com/example/tolerant_query/tolerantquery/Datatype" "NCNAME" "Lcom/example/tolerant_query/tolerantquery/Datatype;" (.ref (ad 12))) (S13 : Sta Z h0 "com/example/tolerant_query/tolerantquery/Datatype" "DATE_TIME" "Lcom/example/tolerant_query/tolerantquery/Datatype;" (.ref (ad 13))) (S14 : Sta Z h0 "com/example/tolerant_query/tolerantquery/Datatype" "DATE_TIME_STAMP" "Lcom/example/tolerant_query/tolerantquery/Datatype;" (.ref (ad 14))) (S15 : Sta Z h0 "com/example/tolerant_query/tolerantquery/Datatype" "HEX_BINARY" "Lcom/example/tolerant_query/tolerantquery/Datatype;" (.ref (ad 15))) (S16 : Sta Z h0 "com/example/tolerant_query/tolerantquery/Datatype" "BASE64_BINARY" "Lcom/example/tolerant_query/tolerantquery/Datatype;" (.ref (ad 16))) (S17 : Sta Z h0 "com/example/tolerant_query/tolerantquery/Datatype" "ANY_URI" "Lcom/example/tolerant_query/tolerantquery/Datatype;" (.ref (ad 17))) (S18 : Sta Z h0 "com/example/tolerant_query/tolerantquery/Datatype" "XML_LITERAL" "Lcom/example/tolerant_query/tolerantquery/Datatype;" (.ref (ad 18))) (S19 : Sta Z h0 "com/example/tolerant_query/tolerantquery/Datatype" "EMPTY" "Lcom/example/tolerant_query/tolerantquery/Datatype;" (.ref (ad 19))) (hE : ∀ k, k < 20 → Exa Z h0 (ad k) "com/example/tolerant_query/tolerantquery/Datatype") (hP : ∀ k, k < 20 → Fld Z h0 (ad k) "com/example/tolerant_query/tolerantquery/Datatype" "parent" "Lcom/example/tolerant_query/tolerantquery/Datatype;" (own_pv ad k)) (hI : ∀ k m, k < 20 → m < 20 → ad k = ad m → k = m) : Met1 l Z x code maxLocals ret tables_1 room_1 #[(.int p0), (.int p1)] h0 n0 QL := by
  refine met_of_go (plainFor_of_name pn_com_example_tolerant_query_tolerantquery_DatatypeWithinPinLaw) (fun m => ef_0 m p0 p1) ?_
  intro W hl C
  subst hl
  refine Go.iloadN C at_0 (q := 1) rfl rfl ?_
  refine Go.ldcI C (hw _ (List.mem_of_getElem? (i := 0) rfl)) at_1 (q := 3) rfl ?_
  refine Go.iand C at_3 (q := 4) rfl ?_
  refine Go.bipush C (20 : Int32) at_4 (q := 6) rfl rfl ?_
  refine Go.irem C at_6 (q := 7) rfl (by decide) ?_
  refine Go.istoreN C at_7 (q := 8) rfl (fun z => #[.val (.int p0), .val (.int p1), .val (.int z), .unset, .unset, .unset, .unset]) (fun _ => rfl) ?_
  intro v1 hv1
  refine Go.iloadN C at_8 (q := 9) rfl rfl ?_
  refine Go.ldcI C (hw _ (List.mem_of_getElem? (i := 0) rfl)) at_9 (q := 11) rfl ?_
  refine Go.iand C at_11 (q := 12) rfl ?_
  refine Go.bipush C (20 : Int32) at_12 (q := 14) rfl rfl ?_
  refine Go.irem C at_14 (q := 15) rfl (by decide) ?_
  refine Go.istoreN C at_15 (q := 16) rfl (fun z => #[.val (.int p0), .val (.int p1), .val (.int v1), .val (.int z), .unset, .unset, .unset]) (fun _ => rfl) ?_
  intro v2 hv2
  refine Go.iloadN C at_16 (q := 17) rfl rfl ?_
  refine Go.pureS C (hw _ (List.mem_of_getElem? (i := 1) rfl)) (hw _ (List.mem_of_getElem? (i := 2) rfl)) (hw _ (List.mem_of_getElem? (i := 3) rfl)) (hw _ (List.mem_of_getElem? (i := 4) rfl)) (c_pick W.l Z a0 hw v1 h0 n0 ad Z0 (own_r _ v1 hv1) S0 S1 S2 S3 S4 S5 S6 S7 S8 S9 S10 S11 S12 S13 S14 S15 S16 S17 S18 S19) at_17 pd__40I_41Lcom_47example_47tolerant_query_47tolerantquery_47Datatype_59 (q := 20) rfl rfl (argsL := [(.int v1)]) (st := []) rfl rfl (w := 0) rfl (by decide) (by decide) (by decide) (by decide) ?_
  refine Go.astore C at_20 (q := 22) rfl (l' := #[.val (.int p0), .val (.int p1), .val (.int v1), .val (.int v2), .val (.ref (ad v1.toNatClampNeg)), .unset, .unset]) rfl rfl ?_
  refine Go.iloadN C at_22 (q := 23) rfl rfl ?_
  refine Go.pureS C (hw _ (List.mem_of_getElem? (i := 1) rfl)) (hw _ (List.mem_of_getElem? (i := 2) rfl)) (hw _ (List.mem_of_getElem? (i := 3) rfl)) (hw _ (List.mem_of_getElem? (i := 4) rfl)) (c_pick W.l Z a0 hw v2 h0 n0 ad Z0 (own_r _ v2 hv2) S0 S1 S2 S3 S4 S5 S6 S7 S8 S9 S10 S11 S12 S13 S14 S15 S16 S17 S18 S19) at_23 pd__40I_41Lcom_47example_47tolerant_query_47tolerantquery_47Datatype_59 (q := 26) rfl rfl (argsL := [(.int v2)]) (st := []) rfl rfl (w := 0) rfl (by decide) (by decide) (by decide) (by decide) ?_
  refine Go.astore C at_26 (q := 28) rfl (l' := #[.val (.int p0), .val (.int p1), .val (.int v1), .val (.int v2), .val (.ref (ad v1.toNatClampNeg)), .val (.ref (ad v2.toNatClampNeg)), .unset]) rfl rfl ?_
  refine Go.iloadN C at_28 (q := 29) rfl rfl ?_
  refine Go.iloadN C at_29 (q := 30) rfl rfl ?_
  suffices J4 : ∀ v3 : Int32, v3 = (if v1 = v2 then (1 : Int32) else (if v1 = (19 : Int32) then (0 : Int32) else (if v2 = (19 : Int32) then (0 : Int32) else (if v2 = (0 : Int32) then (1 : Int32) else (if (f_chain v1) = (f_chain v2) then (if (f_depth v1) < (f_depth v2) then (0 : Int32) else (1 : Int32)) else (0 : Int32)))))) → Go W n0 QL h0 0 0 96 #[.val (.int p0), .val (.int p1), .val (.int v1), .val (.int v2), .val (.ref (ad v1.toNatClampNeg)), .val (.ref (ad v2.toNatClampNeg)), .val (.int v3)] [] by
    refine Go.icmp C at_30 (n_ne _ _) (qt := 39) (q := 33) (by decide) (by decide) rfl (fun b5 => ?_) (fun b5 => ?_)
    ·
      refine Go.iloadN C at_39 (q := 40) rfl rfl ?_
      refine Go.bipush C (19 : Int32) at_40 (q := 42) rfl rfl ?_
      refine Go.icmp C at_42 (n_eq _ _) (qt := 51) (q := 45) (by decide) (by decide) rfl (fun b6 => ?_) (fun b6 => ?_)
      ·
        refine Go.iconst C (0 : Int32) at_51 (q := 52) rfl rfl ?_
        refine Go.istoreR C at_52 (q := 54) rfl (l' := #[.val (.int p0), .val (.int p1), .val (.int v1), .val (.int v2), .val (.ref (ad v1.toNatClampNeg)), .val (.ref (ad v2.toNatClampNeg)), .val (.int (0 : Int32))]) rfl ?_
        refine Go.goto C at_54 (q := 96) (by decide) (by decide) ?_
        exact J4 _ (by rw [if_neg b5, if_pos b6])
      ·
        refine Go.iloadN C at_45 (q := 46) rfl rfl ?_
        refine Go.bipush C (19 : Int32) at_46 (q := 48) rfl rfl ?_
        refine Go.icmp C at_48 (n_ne _ _) (qt := 57) (q := 51) (by decide) (by decide) rfl (fun b7 => ?_) (fun b7 => ?_)
        ·
          refine Go.iloadN C at_57 (q := 58) rfl rfl ?_
          refine Go.if0 C at_58 (z_ne _) (qt := 67) (q := 61) (by decide) (by decide) rfl (fun b8 => ?_) (fun b8 => ?_)
          ·
            refine Go.iloadN C at_67 (q := 68) rfl rfl ?_
            refine Go.pureS C (hw _ (List.mem_of_getElem? (i := 10) rfl)) (hw _ (List.mem_of_getElem? (i := 11) rfl)) (hw _ (List.mem_of_getElem? (i := 3) rfl)) (hw _ (List.mem_of_getElem? (i := 12) rfl)) (c_f_chain W.l Z a0 hw v1 h0 n0) at_68 pd__40I_41I (q := 71) rfl rfl (argsL := [(.int v1)]) (st := []) rfl rfl (w := 0) rfl (by decide) (by decide) (by decide) (by decide) ?_
            refine Go.iloadN C at_71 (q := 72) rfl rfl ?_
            refine Go.pureS C (hw _ (List.mem_of_getElem? (i := 10) rfl)) (hw _ (List.mem_of_getElem? (i := 11) rfl)) (hw _ (List.mem_of_getElem? (i := 3) rfl)) (hw _ (List.mem_of_getElem? (i := 12) rfl)) (c_f_chain W.l Z a0 hw v2 h0 n0) at_72 pd__40I_41I (q := 75) rfl rfl (argsL := [(.int v2)]) (st := [(.int (f_chain v1))]) rfl rfl (w := 1) rfl (by decide) (by decide) (by decide) (by decide) ?_
            refine Go.icmp C at_75 (n_ne _ _) (qt := 93) (q := 78) (by decide) (by decide) rfl (fun b9 => ?_) (fun b9 => ?_)
            ·
              refine Go.iconst C (0 : Int32) at_93 (q := 94) rfl rfl ?_
              refine Go.istoreR C at_94 (q := 96) rfl (l' := #[.val (.int p0), .val (.int p1), .val (.int v1), .val (.int v2), .val (.ref (ad v1.toNatClampNeg)), .val (.ref (ad v2.toNatClampNeg)), .val (.int (0 : Int32))]) rfl ?_
              exact J4 _ (by rw [if_neg b5, if_neg b6, if_neg b7, if_neg b8, if_neg b9])
            ·
              have b9 := Classical.not_not.mp b9
              refine Go.iloadN C at_78 (q := 79) rfl rfl ?_
              refine Go.pureS C (hw _ (List.mem_of_getElem? (i := 29) rfl)) (hw _ (List.mem_of_getElem? (i := 30) rfl)) (hw _ (List.mem_of_getElem? (i := 3) rfl)) (hw _ (List.mem_of_getElem? (i := 31) rfl)) (c_f_depth W.l Z a0 hw v2 h0 n0) at_79 pd__40I_41I (q := 82) rfl rfl (argsL := [(.int v2)]) (st := []) rfl rfl (w := 0) rfl (by decide) (by decide) (by decide) (by decide) ?_
              refine Go.iloadN C at_82 (q := 83) rfl rfl ?_
              refine Go.pureS C (hw _ (List.mem_of_getElem? (i := 29) rfl)) (hw _ (List.mem_of_getElem? (i := 30) rfl)) (hw _ (List.mem_of_getElem? (i := 3) rfl)) (hw _ (List.mem_of_getElem? (i := 31) rfl)) (c_f_depth W.l Z a0 hw v1 h0 n0) at_83 pd__40I_41I (q := 86) rfl rfl (argsL := [(.int v1)]) (st := [(.int (f_depth v2))]) rfl rfl (w := 1) rfl (by decide) (by decide) (by decide) (by decide) ?_
              refine Go.icmp C at_86 (n_gt _ _) (qt := 93) (q := 89) (by decide) (by decide) rfl (fun b10 => ?_) (fun b10 => ?_)
              ·
                refine Go.iconst C (0 : Int32) at_93 (q := 94) rfl rfl ?_
                refine Go.istoreR C at_94 (q := 96) rfl (l' := #[.val (.int p0), .val (.int p1), .val (.int v1), .val (.int v2), .val (.ref (ad v1.toNatClampNeg)), .val (.ref (ad v2.toNatClampNeg)), .val (.int (0 : Int32))]) rfl ?_
                exact J4 _ (by rw [if_neg b5, if_neg b6, if_neg b7, if_neg b8, if_pos b9, if_pos b10])
              ·
                refine Go.iconst C (1 : Int32) at_89 (q := 90) rfl rfl ?_
                refine Go.goto C at_90 (q := 94) (by decide) (by decide) ?_
                refine Go.istoreR C at_94 (q := 96) rfl (l' := #[.val (.int p0), .val (.int p1), .val (.int v1), .val (.int v2), .val (.ref (ad v1.toNatClampNeg)), .val (.ref (ad v2.toNatClampNeg)), .val (.int (1 : Int32))]) rfl ?_
                exact J4 _ (by rw [if_neg b5, if_neg b6, if_neg b7, if_neg b8, if_pos b9, if_neg b10])
          ·
            have b8 := Classical.not_not.mp b8
            refine Go.iconst C (1 : Int32) at_61 (q := 62) rfl rfl ?_
            refine Go.istoreR C at_62 (q := 64) rfl (l' := #[.val (.int p0), .val (.int p1), .val (.int v1), .val (.int v2), .val (.ref (ad v1.toNatClampNeg)), .val (.ref (ad v2.toNatClampNeg)), .val (.int (1 : Int32))]) rfl ?_
            refine Go.goto C at_64 (q := 96) (by decide) (by decide) ?_
            exact J4 _ (by rw [if_neg b5, if_neg b6, if_neg b7, if_pos b8])
        ·
          have b7 := Classical.not_not.mp b7
          refine Go.iconst C (0 : Int32) at_51 (q := 52) rfl rfl ?_
          refine Go.istoreR C at_52 (q := 54) rfl (l' := #[.val (.int p0), .val (.int p1), .val (.int v1), .val (.int v2), .val (.ref (ad v1.toNatClampNeg)), .val (.ref (ad v2.toNatClampNeg)), .val (.int (0 : Int32))]) rfl ?_
          refine Go.goto C at_54 (q := 96) (by decide) (by decide) ?_
          exact J4 _ (by rw [if_neg b5, if_neg b6, if_pos b7])
    ·
      have b5 := Classical.not_not.mp b5
      refine Go.iconst C (1 : Int32) at_33 (q := 34) rfl rfl ?_
      refine Go.istoreR C at_34 (q := 36) rfl (l' := #[.val (.int p0), .val (.int p1), .val (.int v1), .val (.int v2), .val (.ref (ad v1.toNatClampNeg)), .val (.ref (ad v2.toNatClampNeg)), .val (.int (1 : Int32))]) rfl ?_
      refine Go.goto C at_36 (q := 96) (by decide) (by decide) ?_
      exact J4 _ (by rw [if_pos b5])
  intro v3 hv3
  refine Go.aload C at_96 (q := 98) rfl rfl rfl ?_
  refine Go.aload C at_98 (q := 100) rfl rfl rfl ?_
  refine Go.pureV C (hE _ (own_r _ v1 hv1).2) (hw _ (List.mem_of_getElem? (i := 13) rfl)) (hw _ (List.mem_of_getElem? (i := 14) rfl)) (hw _ (List.mem_of_getElem? (i := 16) rfl)) (hw _ (List.mem_of_getElem? (i := 15) rfl)) (hw _ (List.mem_of_getElem? (i := 6) rfl)) (hw _ (List.mem_of_getElem? (i := 17) rfl)) (c_within W.l Z a0 hw ad v1.toNatClampNeg v2.toNatClampNeg h0 n0 (own_r _ v1 hv1).2 (own_r _ v2 hv2).2 hP hI) at_100 pd__40Lcom_47example_47tolerant_query_47tolerantquery_47Datatype_59_41Z (q := 103) rfl rfl (argsL := [(.ref (ad v2.toNatClampNeg))]) (st := []) rfl rfl (w := 0) rfl (by decide) (by decide) (by decide) (by decide) ?_
  refine Go.iload C at_103 (q := 105) rfl rfl ?_
  refine Go.icmp C at_105 (n_ne _ _) (qt := 112) (q := 108) (by decide) (by decide) rfl (fun b11 => ?_) (fun b11 => ?_)
  ·
    refine Go.iconst C (0 : Int32) at_112 (q := 113) rfl rfl ?_
    exact (fin0 p0 p1 v1 hv1 v2 hv2 v3 hv3  b11).elim
  ·
    have b11 := Classical.not_not.mp b11
    refine Go.iconst C (1 : Int32) at_108 (q := 109) rfl rfl ?_
    refine Go.goto C at_109 (q := 113) (by decide) (by decide) ?_
    exact Go.retZ (t := .boolean) (by simp) C at_113 (by decide) (by decide) (show some (Value.int _) = some (.int 1) from rfl)
set_option maxRecDepth 65536 in
set_option maxHeartbeats 4000000 in
theorem comes_1 {Post : Tables → Env → Array Value → State → Outcome → State → Prop} (hpost : ∀ tb e args s v u, (limb_1_1.after args s (.returned v) u = true ∧ limb_1_2.after args s (.returned v) u = true ∧ True) → FrameEnd s (.returned v) u (Jvm.fieldLocs frame_1_writes args s ++ Jvm.arrayLocs frame_1_arrays args s ++ Jvm.staticLocs frame_1_statics s) 0 0 → Post tb e args s (.returned v) u) :
    ArmFor flags0 classFile x code maxLocals ret World_1 tables_1 room_1 Calls_1 rest_1 Pre_1 Post := by
  intro l hfl _ _ p e ha hc hk s m args below hf hA hF happ hP
  obtain ⟨hcalls, hrest, hpre⟩ := hP
  obtain ⟨-, -, -, hnamed, -, -, -, hat⟩ := (Spec.applies_iff hf).mp happ
  obtain ⟨hg, hn⟩ := and_e (Cond.before_iff.mp (show (Jvm.Cond.and given_1 narrow_1).before args s = true from hpre))
  obtain ⟨hcount, hg0⟩ := and_e hg
  obtain ⟨ha0, hg1⟩ := and_e hg0
  have ha1 := hg1
  obtain ⟨w0, w1, rfl⟩ : ∃ w0 w1 : Value, args = #[w0, w1] := by
    have hs : args.size = 2 := by simpa [Cond.value, given_1] using hcount
    obtain ⟨L⟩ := args
    match L, hs with
    | [w0, w1], _ => exact ⟨w0, w1, rfl⟩
  have hw := fun d (hd : d ∈ tables_1) => atoms_spec (ws := Jvm.Cond.code x code maxLocals ret :: tables_1) hat d (List.mem_cons_of_mem _ hd)
  obtain ⟨i0, ei0⟩ := is_v ha0
  obtain rfl : w0 = (.int i0) := Option.some.inj ei0
  obtain ⟨i1, ei1⟩ := is_v ha1
  obtain rfl : w1 = (.int i1) := Option.some.inj ei1
  obtain ⟨na0, nb0⟩ := and_e hn
  obtain ⟨na1, nb1⟩ := and_e nb0
  obtain ⟨na2, nb2⟩ := and_e nb1
  obtain ⟨na3, nb3⟩ := and_e nb2
  obtain ⟨na4, nb4⟩ := and_e nb3
  obtain ⟨na5, nb5⟩ := and_e nb4
  obtain ⟨na6, nb6⟩ := and_e nb5
  obtain ⟨na7, nb7⟩ := and_e nb6
  obtain ⟨na8, nb8⟩ := and_e nb7
  obtain ⟨na9, nb9⟩ := and_e nb8
  obtain ⟨na10, nb10⟩ := and_e nb9
  obtain ⟨na11, nb11⟩ := and_e nb10
  obtain ⟨na12, nb12⟩ := and_e nb11
  obtain ⟨na13, nb13⟩ := and_e nb12
  obtain ⟨na14, nb14⟩ := and_e nb13
  obtain ⟨na15, nb15⟩ := and_e nb14
  obtain ⟨na16, nb16⟩ := and_e nb15
  obtain ⟨na17, nb17⟩ := and_e nb16
  obtain ⟨na18, nb18⟩ := and_e nb17
  obtain ⟨na19, nb19⟩ := and_e nb18
  obtain ⟨na20, nb20⟩ := and_e nb19
  obtain ⟨na21, nb21⟩ := and_e nb20
  obtain ⟨na22, nb22⟩ := and_e nb21
  obtain ⟨na23, nb23⟩ := and_e nb22
  obtain ⟨na24, nb24⟩ := and_e nb23
  obtain ⟨na25, nb25⟩ := and_e nb24
  obtain ⟨na26, nb26⟩ := and_e nb25
  obtain ⟨na27, nb27⟩ := and_e nb26
  obtain ⟨na28, nb28⟩ := and_e nb27
  obtain ⟨na29, nb29⟩ := and_e nb28
  obtain ⟨na30, nb30⟩ := and_e nb29
  obtain ⟨na31, nb31⟩ := and_e nb30
  obtain ⟨na32, nb32⟩ := and_e nb31
  obtain ⟨na33, nb33⟩ := and_e nb32
  obtain ⟨na34, nb34⟩ := and_e nb33
  obtain ⟨na35, nb35⟩ := and_e nb34
  obtain ⟨na36, nb36⟩ := and_e nb35
  obtain ⟨na37, nb37⟩ := and_e nb36
  obtain ⟨na38, nb38⟩ := and_e nb37
  obtain ⟨na39, nb39⟩ := and_e nb38
  obtain ⟨na40, nb40⟩ := and_e nb39
  obtain ⟨na41, nb41⟩ := and_e nb40
  obtain ⟨na42, nb42⟩ := and_e nb41
  obtain ⟨na43, nb43⟩ := and_e nb42
  obtain ⟨na44, nb44⟩ := and_e nb43
  obtain ⟨na45, nb45⟩ := and_e nb44
  obtain ⟨na46, nb46⟩ := and_e nb45
  obtain ⟨na47, nb47⟩ := and_e nb46
  obtain ⟨na48, nb48⟩ := and_e nb47
  obtain ⟨na49, nb49⟩ := and_e nb48
  obtain ⟨na50, nb50⟩ := and_e nb49
  obtain ⟨na51, nb51⟩ := and_e nb50
  obtain ⟨na52, nb52⟩ := and_e nb51
  obtain ⟨na53, nb53⟩ := and_e nb52
  obtain ⟨na54, nb54⟩ := and_e nb53
  obtain ⟨na55, nb55⟩ := and_e nb54
  obtain ⟨na56, nb56⟩ := and_e nb55
  obtain ⟨na57, nb57⟩ := and_e nb56
  obtain ⟨na58, nb58⟩ := and_e nb57
  obtain ⟨w100, S0, E0, ev0⟩ := own_sta na0 (hw _ (List.mem_of_getElem? (i := 6) rfl)) (hw _ (List.mem_of_getElem? (i := 7) rfl))
  obtain ⟨w101, S1, E1, ev1⟩ := own_sta na6 (hw _ (List.mem_of_getElem? (i := 6) rfl)) (hw _ (List.mem_of_getElem? (i := 23) rfl))
  obtain ⟨w102, S2, E2, ev2⟩ := own_sta na42 (hw _ (List.mem_of_getElem? (i := 6) rfl)) (hw _ (List.mem_of_getElem? (i := 49) rfl))
  obtain ⟨w103, S3, E3, ev3⟩ := own_sta na1 (hw _ (List.mem_of_getElem? (i := 6) rfl)) (hw _ (List.mem_of_getElem? (i := 9) rfl))
  obtain ⟨w104, S4, E4, ev4⟩ := own_sta na47 (hw _ (List.mem_of_getElem? (i := 6) rfl)) (hw _ (List.mem_of_getElem? (i := 50) rfl))
  obtain ⟨w105, S5, E5, ev5⟩ := own_sta na31 (hw _ (List.mem_of_getElem? (i := 6) rfl)) (hw _ (List.mem_of_getElem? (i := 44) rfl))
  obtain ⟨w106, S6, E6, ev6⟩ := own_sta na20 (hw _ (List.mem_of_getElem? (i := 6) rfl)) (hw _ (List.mem_of_getElem? (i := 33) rfl))
  obtain ⟨w107, S7, E7, ev7⟩ := own_sta na17 (hw _ (List.mem_of_getElem? (i := 6) rfl)) (hw _ (List.mem_of_getElem? (i := 32) rfl))
  obtain ⟨w108, S8, E8, ev8⟩ := own_sta na13 (hw _ (List.mem_of_getElem? (i := 6) rfl)) (hw _ (List.mem_of_getElem? (i := 26) rfl))
  obtain ⟨w109, S9, E9, ev9⟩ := own_sta na27 (hw _ (List.mem_of_getElem? (i := 6) rfl)) (hw _ (List.mem_of_getElem? (i := 37) rfl))
  obtain ⟨w110, S10, E10, ev10⟩ := own_sta na35 (hw _ (List.mem_of_getElem? (i := 6) rfl)) (hw _ (List.mem_of_getElem? (i := 45) rfl))
  obtain ⟨w111, S11, E11, ev11⟩ := own_sta na14 (hw _ (List.mem_of_getElem? (i := 6) rfl)) (hw _ (List.mem_of_getElem? (i := 28) rfl))
  obtain ⟨w112, S12, E12, ev12⟩ := own_sta na30 (hw _ (List.mem_of_getElem? (i := 6) rfl)) (hw _ (List.mem_of_getElem? (i := 42) rfl))
  obtain ⟨w113, S13, E13, ev13⟩ := own_sta na9 (hw _ (List.mem_of_getElem? (i := 6) rfl)) (hw _ (List.mem_of_getElem? (i := 24) rfl))
  obtain ⟨w114, S14, E14, ev14⟩ := own_sta na5 (hw _ (List.mem_of_getElem? (i := 6) rfl)) (hw _ (List.mem_of_getElem? (i := 21) rfl))
  obtain ⟨w115, S15, E15, ev15⟩ := own_sta na51 (hw _ (List.mem_of_getElem? (i := 6) rfl)) (hw _ (List.mem_of_getElem? (i := 52) rfl))
  obtain ⟨w116, S16, E16, ev16⟩ := own_sta na24 (hw _ (List.mem_of_getElem? (i := 6) rfl)) (hw _ (List.mem_of_getElem? (i := 35) rfl))
  obtain ⟨w117, S17, E17, ev17⟩ := own_sta na53 (hw _ (List.mem_of_getElem? (i := 6) rfl)) (hw _ (List.mem_of_getElem? (i := 56) rfl))
  obtain ⟨w118, S18, E18, ev18⟩ := own_sta na56 (hw _ (List.mem_of_getElem? (i := 6) rfl)) (hw _ (List.mem_of_getElem? (i := 58) rfl))
  obtain ⟨w119, S19, E19, ev19⟩ := own_sta na39 (hw _ (List.mem_of_getElem? (i := 6) rfl)) (hw _ (List.mem_of_getElem? (i := 47) rfl))
  have O0 := own_fld ev0 (own_eqI na2)
  have R0 := own_fld ev0 (null_v na4)
  have O1 := own_fld ev1 (own_eqI na8)
  have R1 := own_fld ev1 (own_eqR na46 ev0)
  have O2 := own_fld ev2 (own_eqI na44)
  have R2 := own_fld ev2 (own_eqR na45 ev1)
  have O3 := own_fld ev3 (own_eqI na3)
  have R3 := own_fld ev3 (own_eqR na43 ev2)
  have O4 := own_fld ev4 (own_eqI na49)
  have R4 := own_fld ev4 (own_eqR na50 ev3)
  have O5 := own_fld ev5 (own_eqI na33)
  have R5 := own_fld ev5 (own_eqR na48 ev4)
  have O6 := own_fld ev6 (own_eqI na22)
  have R6 := own_fld ev6 (own_eqR na23 ev0)
  have O7 := own_fld ev7 (own_eqI na19)
  have R7 := own_fld ev7 (own_eqR na21 ev6)
  have O8 := own_fld ev8 (own_eqI na15)
  have R8 := own_fld ev8 (own_eqR na18 ev7)
  have O9 := own_fld ev9 (own_eqI na28)
  have R9 := own_fld ev9 (own_eqR na29 ev8)
  have O10 := own_fld ev10 (own_eqI na37)
  have R10 := own_fld ev10 (own_eqR na38 ev9)
  have O11 := own_fld ev11 (own_eqI na16)
  have R11 := own_fld ev11 (own_eqR na36 ev10)
  have O12 := own_fld ev12 (own_eqI na32)
  have R12 := own_fld ev12 (own_eqR na34 ev11)
  have O13 := own_fld ev13 (own_eqI na11)
  have R13 := own_fld ev13 (own_eqR na12 ev0)
  have O14 := own_fld ev14 (own_eqI na7)
  have R14 := own_fld ev14 (own_eqR na10 ev13)
  have O15 := own_fld ev15 (own_eqI na52)
  have R15 := own_fld ev15 (own_eqR nb58 ev0)
  have O16 := own_fld ev16 (own_eqI na26)
  have R16 := own_fld ev16 (own_eqR na25 ev0)
  have O17 := own_fld ev17 (own_eqI na55)
  have R17 := own_fld ev17 (own_eqR na54 ev0)
  have O18 := own_fld ev18 (own_eqI na57)
  have R18 := own_fld ev18 (own_eqR na58 ev0)
  have O19 := own_fld ev19 (own_eqI na40)
  have R19 := own_fld ev19 (null_v na41)
  obtain ⟨ad, had⟩ : ∃ ad : Nat → Addr, ad = fun k => [w100, w101, w102, w103, w104, w105, w106, w107, w108, w109, w110, w111, w112, w113, w114, w115, w116, w117, w118, w119].getD k 0 := ⟨_, rfl⟩
  have hE : ∀ k, k < 20 → Exa s s.heap (ad k) "com/example/tolerant_query/tolerantquery/Datatype" := fun k hk => by
    rw [had]
    have h : k = 0 ∨ k = 1 ∨ k = 2 ∨ k = 3 ∨ k = 4 ∨ k = 5 ∨ k = 6 ∨ k = 7 ∨ k = 8 ∨ k = 9 ∨ k = 10 ∨ k = 11 ∨ k = 12 ∨ k = 13 ∨ k = 14 ∨ k = 15 ∨ k = 16 ∨ k = 17 ∨ k = 18 ∨ k = 19 := by omega
    rcases h with rfl | rfl | rfl | rfl | rfl | rfl | rfl | rfl | rfl | rfl | rfl | rfl | rfl | rfl | rfl | rfl | rfl | rfl | rfl | rfl
    · exact E0
    · exact E1
    · exact E2
    · exact E3
    · exact E4
    · exact E5
    · exact E6
    · exact E7
    · exact E8
    · exact E9
    · exact E10
    · exact E11
    · exact E12
    · exact E13
    · exact E14
    · exact E15
    · exact E16
    · exact E17
    · exact E18
    · exact E19
  have hO : ∀ k, k < 20 → Fld s s.heap (ad k) "java/lang/Enum" "ordinal" "I" (.int (Int32.ofNat k)) := fun k hk => by
    rw [had]
    have h : k = 0 ∨ k = 1 ∨ k = 2 ∨ k = 3 ∨ k = 4 ∨ k = 5 ∨ k = 6 ∨ k = 7 ∨ k = 8 ∨ k = 9 ∨ k = 10 ∨ k = 11 ∨ k = 12 ∨ k = 13 ∨ k = 14 ∨ k = 15 ∨ k = 16 ∨ k = 17 ∨ k = 18 ∨ k = 19 := by omega
    rcases h with rfl | rfl | rfl | rfl | rfl | rfl | rfl | rfl | rfl | rfl | rfl | rfl | rfl | rfl | rfl | rfl | rfl | rfl | rfl | rfl
    · exact O0
    · exact O1
    · exact O2
    · exact O3
    · exact O4
    · exact O5
    · exact O6
    · exact O7
    · exact O8
    · exact O9
    · exact O10
    · exact O11
    · exact O12
    · exact O13
    · exact O14
    · exact O15
    · exact O16
    · exact O17
    · exact O18
    · exact O19
  have hP : ∀ k, k < 20 → Fld s s.heap (ad k) "com/example/tolerant_query/tolerantquery/Datatype" "parent" "Lcom/example/tolerant_query/tolerantquery/Datatype;" (own_pv ad k) := fun k hk => by
    rw [had]
    have h : k = 0 ∨ k = 1 ∨ k = 2 ∨ k = 3 ∨ k = 4 ∨ k = 5 ∨ k = 6 ∨ k = 7 ∨ k = 8 ∨ k = 9 ∨ k = 10 ∨ k = 11 ∨ k = 12 ∨ k = 13 ∨ k = 14 ∨ k = 15 ∨ k = 16 ∨ k = 17 ∨ k = 18 ∨ k = 19 := by omega
    rcases h with rfl | rfl | rfl | rfl | rfl | rfl | rfl | rfl | rfl | rfl | rfl | rfl | rfl | rfl | rfl | rfl | rfl | rfl | rfl | rfl
    · exact R0
    · exact R1
    · exact R2
    · exact R3
    · exact R4
    · exact R5
    · exact R6
    · exact R7
    · exact R8
    · exact R9
    · exact R10
    · exact R11
    · exact R12
    · exact R13
    · exact R14
    · exact R15
    · exact R16
    · exact R17
    · exact R18
    · exact R19
  have hI : ∀ k m, k < 20 → m < 20 → ad k = ad m → k = m := fun k m hk hm e => Classical.byContradiction fun z => Fld.ne (hO k hk) (hO m hm) (fun q => z (by
    have q1 := congrArg (fun u : Value => match u with | .int y => y.toInt | _ => 0) q
    simp only [] at q1
    rw [Int32.toInt_ofNat_small (by omega), Int32.toInt_ofNat_small (by omega)] at q1
    omega)) e
  obtain ⟨n, o, h1, h2, h3, _, L, rfl, ⟨N, rfl⟩, hq⟩ := rm0 l s _ hw i0 i1 s.heap s.heap.size (Nat.le_refl _) ad (had ▸ S0) (had ▸ S1) (had ▸ S2) (had ▸ S3) (had ▸ S4) (had ▸ S5) (had ▸ S6) (had ▸ S7) (had ▸ S8) (had ▸ S9) (had ▸ S10) (had ▸ S11) (had ▸ S12) (had ▸ S13) (had ▸ S14) (had ▸ S15) (had ▸ S16) (had ▸ S17) (had ▸ S18) (had ▸ S19) hE hP hI p e ha hc hk s m _ below hf ((Spec.applies_iff_loose hf).mp happ).1 ⟨rfl, State.Warmed39.refl s, rfl⟩ trivial
  refine ⟨n, _, h1, h2, h3, hpost _ _ _ _ _ _ ⟨Cond.after_iff.mpr rfl, Cond.after_iff.mpr (eq_i res_at (Term.int_eval (1)) rfl), trivial⟩ ⟨hq.1, hq.2.1, (hq.2.2.sift fun y hy => Or.inr (N y hy)).mono (by decide) (by decide)⟩⟩
theorem main_1_1 : Claimed_1_1 := comes_1 fun _ _ _ _ _ _ h hF => ⟨h.1, hF⟩
theorem main_1_2 : Claimed_1_2 := comes_1 fun _ _ _ _ _ _ h hF => ⟨h.2.1, hF⟩
end Jvm.Pilot.@@N@@
namespace Jvm.Pilot.@@N@@
open Jvm Jvm.ClassFile Sem Op Lib Jvm.Free Jvm.Stand Jvm.Pilot.@@N@@.Jvm.D
/-! MADE BY PROGRAM (witnessworld.py) out of the Statement's table words and the real class files: 12 classes; the members and pool entries that the words name. The judged class is class 1, her method 1. -/
namespace start1
open Jvm.ClassFile
def u (s : String) : CpInfo := .utf8 (stringToUtf16 s)
/-- a pool by its gaps: so many unusable entries, then the entry; so many at the end -/
def gap : Nat → List CpInfo → List CpInfo
  | 0, r => r
  | n + 1, r => .unusable :: gap n r
def poolList (es : List (Nat × CpInfo)) (last : Nat) : List CpInfo := es.foldr (fun e r => gap e.1 (e.2 :: r)) (gap last [])
def pool (es : List (Nat × CpInfo)) (last : Nat) : Array CpInfo := ⟨poolList es last⟩
def fileOf (pool : Array CpInfo) (this : Nat) (attrs : Array Attribute := #[]) (ms : Array MethodInfo := #[]) (fl : Nat := 33) (sup : Nat := 0) (ifs : Array Nat := #[]) (fds : Array FieldInfo := #[]) : ClassFile where
  minorVersion := 0
  majorVersion := 65
  constantPool := pool
  accessFlags := fl
  thisClass := this
  superClass := sup
  interfaces := ifs
  fields := fds
  methods := ms
  attributes := attrs
def plain (name : String) (sup : Option ClassId) : Class where
  name := name
  kind := .ordinary
  loader := none
  accessFlags := 33
  super := sup
  interfaces := #[]
  cf := none
  fields := #[]
  methods := #[]
  instanceTypes := #[]
  staticTypes := #[]
  resolved := #[]
  callSites := []
  init := .initialized
  statics := none
  mirror := none

def pool0 : Array CpInfo := pool [(5, u "<init>"), (0, u "()V"), (1, .class_ 10), (1, u "java/lang/Object")] 113

def k0m0 : Method := { name := "<init>", desc := "()V", sig := { parameters := [], returnType := none }, accessFlags := 1, code := none }
/-- java/lang/Object -/
def k0 : Class := { plain "java/lang/Object" none with
  accessFlags := 33
  interfaces := #[]
  cf := some (fileOf pool0 8 #[] #[{ accessFlags := 1, nameIndex := 5, descriptorIndex := 6, attributes := #[] }] 33 0 #[] #[])
  fields := #[]
  methods := #[k0m0]
  instanceTypes := #[]
  staticTypes := #[]
  resolved := Array.replicate 124 none
  statics := none }

def pool1 : Array CpInfo := pool [(2, .class_ 4), (1, u "java/lang/Object"), (0, u "<init>"), (0, u "()V"), (0, .integer 2147483647), (0, .methodref 9 10), (0, .class_ 11), (0, .nameAndType 12 13), (0, u "com/example/tolerant_query/tolerantquery/DatatypeWithinPinLaw"), (0, u "pick"), (0, u "(I)Lcom/example/tolerant_query/tolerantquery/Datatype;"), (0, .methodref 9 15), (0, .nameAndType 16 17), (0, u "chain"), (0, u "(I)I"), (0, .methodref 9 19), (0, .nameAndType 20 17), (0, u "depth"), (0, .methodref 22 23), (0, .class_ 24), (0, .nameAndType 25 26), (0, u "com/example/tolerant_query/tolerantquery/Datatype"), (0, u "within"), (0, u "(Lcom/example/tolerant_query/tolerantquery/Datatype;)Z"), (0, .fieldref 22 28), (0, .nameAndType 29 30), (0, u "LITERAL"), (0, u "Lcom/example/tolerant_query/tolerantquery/Datatype;"), (0, .fieldref 22 32), (0, .nameAndType 33 30), (0, u "REAL"), (0, .fieldref 22 35), (0, .nameAndType 36 30), (0, u "RATIONAL"), (0, .fieldref 22 38), (0, .nameAndType 39 30), (0, u "DECIMAL"), (0, .fieldref 22 41), (0, .nameAndType 42 30), (0, u "INTEGER"), (0, .fieldref 22 44), (0, .nameAndType 45 30), (0, u "NON_NEGATIVE_INTEGER"), (0, .fieldref 22 47), (0, .nameAndType 48 30), (0, u "PLAIN_LITERAL"), (0, .fieldref 22 50), (0, .nameAndType 51 30), (0, u "STRING"), (0, .fieldref 22 53), (0, .nameAndType 54 30), (0, u "NORMALIZED_STRING"), (0, .fieldref 22 56), (0, .nameAndType 57 30), (0, u "TOKEN"), (0, .fieldref 22 59), (0, .nameAndType 60 30), (0, u "NMTOKEN"), (0, .fieldref 22 62), (0, .nameAndType 63 30), (0, u "NAME"), (0, .fieldref 22 65), (0, .nameAndType 66 30), (0, u "NCNAME"), (0, .fieldref 22 68), (0, .nameAndType 69 30), (0, u "DATE_TIME"), (0, .fieldref 22 71), (0, .nameAndType 72 30), (0, u "DATE_TIME_STAMP"), (0, .fieldref 22 74), (0, .nameAndType 75 30), (0, u "HEX_BINARY"), (0, .fieldref 22 77), (0, .nameAndType 78 30), (0, u "BASE64_BINARY"), (0, .fieldref 22 80), (0, .nameAndType 81 30), (0, u "ANY_URI"), (0, .fieldref 22 83), (0, .nameAndType 84 30), (0, u "XML_LITERAL"), (0, .fieldref 22 86), (0, .nameAndType 87 30), (0, u "EMPTY"), (2, u "law"), (0, u "(II)Z")] 3

def k1m0 : Method := { name := "<init>", desc := "()V", sig := { parameters := [], returnType := none }, accessFlags := 1, code := none }
def k1c1 : Code := { maxStack := 2, maxLocals := 7, code := code, exceptionTable := #[], attributes := #[] }
def k1m1 : Method := { name := "law", desc := "(II)Z", sig := { parameters := [.int, .int], returnType := some .boolean }, accessFlags := 9, code := some k1c1 }
def k1c2 : Code := { maxStack := 2, maxLocals := 1, code := method_3_code, exceptionTable := #[], attributes := #[] }
def k1m2 : Method := { name := "chain", desc := "(I)I", sig := { parameters := [.int], returnType := some .int }, accessFlags := 10, code := some k1c2 }
def k1c3 : Code := { maxStack := 2, maxLocals := 1, code := method_4_code, exceptionTable := #[], attributes := #[] }
def k1m3 : Method := { name := "depth", desc := "(I)I", sig := { parameters := [.int], returnType := some .int }, accessFlags := 10, code := some k1c3 }
def k1c4 : Code := { maxStack := 2, maxLocals := 1, code := method_5_code, exceptionTable := #[], attributes := #[] }
def k1m4 : Method := { name := "pick", desc := "(I)Lcom/example/tolerant_query/tolerantquery/Datatype;", sig := { parameters := [.int], returnType := some (.object "com/example/tolerant_query/tolerantquery/Datatype") }, accessFlags := 10, code := some k1c4 }
/-- com/example/tolerant_query/tolerantquery/DatatypeWithinPinLaw -/
def k1 : Class := { plain "com/example/tolerant_query/tolerantquery/DatatypeWithinPinLaw" (some 0) with
  accessFlags := 49
  interfaces := #[]
  cf := some (fileOf pool1 9 #[] #[{ accessFlags := 1, nameIndex := 5, descriptorIndex := 6, attributes := #[] }, { accessFlags := 9, nameIndex := 90, descriptorIndex := 91, attributes := #[] }, { accessFlags := 10, nameIndex := 16, descriptorIndex := 17, attributes := #[] }, { accessFlags := 10, nameIndex := 20, descriptorIndex := 17, attributes := #[] }, { accessFlags := 10, nameIndex := 12, descriptorIndex := 13, attributes := #[] }] 49 2 #[] #[])
  fields := #[]
  methods := #[k1m0, k1m1, k1m2, k1m3, k1m4]
  instanceTypes := #[]
  staticTypes := #[]
  resolved := Array.replicate 95 none
  statics := none }

def pool2 : Array CpInfo := pool [(1, .class_ 2), (0, u "java/lang/constant/Constable"), (0, .class_ 4), (0, u "java/lang/Object")] 6

/-- java/lang/constant/Constable -/
def k2 : Class := { plain "java/lang/constant/Constable" (some 0) with
  accessFlags := 1537
  interfaces := #[]
  cf := some (fileOf pool2 1 #[] #[] 1537 3 #[] #[])
  fields := #[]
  methods := #[]
  instanceTypes := #[]
  staticTypes := #[]
  resolved := Array.replicate 11 none
  statics := none }

def pool3 : Array CpInfo := pool [(1, .class_ 2), (0, u "java/lang/Comparable"), (0, .class_ 4), (0, u "java/lang/Object")] 7

/-- java/lang/Comparable -/
def k3 : Class := { plain "java/lang/Comparable" (some 0) with
  accessFlags := 1537
  interfaces := #[]
  cf := some (fileOf pool3 1 #[] #[] 1537 3 #[] #[])
  fields := #[]
  methods := #[]
  instanceTypes := #[]
  staticTypes := #[]
  resolved := Array.replicate 12 none
  statics := none }

def pool4 : Array CpInfo := pool [(1, .class_ 2), (0, u "java/io/Serializable"), (0, .class_ 4), (0, u "java/lang/Object")] 2

/-- java/io/Serializable -/
def k4 : Class := { plain "java/io/Serializable" (some 0) with
  accessFlags := 1537
  interfaces := #[]
  cf := some (fileOf pool4 1 #[] #[] 1537 3 #[] #[])
  fields := #[]
  methods := #[]
  instanceTypes := #[]
  staticTypes := #[]
  resolved := Array.replicate 7 none
  statics := none }

def pool5 : Array CpInfo := pool [(2, .class_ 4), (1, u "java/lang/Enum"), (0, u "name"), (0, u "Ljava/lang/String;"), (2, u "ordinal"), (0, u "I"), (1, .class_ 14), (1, u "java/lang/Object"), (4, u "hash"), (86, .class_ 108), (1, u "java/lang/Enum$EnumDesc"), (2, .class_ 112), (0, u "java/lang/constant/Constable"), (0, .class_ 114), (0, u "java/lang/Comparable"), (0, .class_ 116), (0, u "java/io/Serializable")] 87

/-- java/lang/Enum -/
def k5 : Class := { plain "java/lang/Enum" (some 0) with
  accessFlags := 1057
  interfaces := #[2, 3, 4]
  cf := some (fileOf pool5 2 #[.nestMembers #[106]] #[] 1057 12 #[111, 113, 115] #[{ accessFlags := 18, nameIndex := 5, descriptorIndex := 6, attributes := #[] }, { accessFlags := 18, nameIndex := 9, descriptorIndex := 10, attributes := #[] }, { accessFlags := 2, nameIndex := 19, descriptorIndex := 10, attributes := #[] }])
  fields := #[{ name := "name", type := (.object "java/lang/String"), accessFlags := 18, slot := 0, constantValue := 0 }, { name := "ordinal", type := .int, accessFlags := 18, slot := 1, constantValue := 0 }, { name := "hash", type := .int, accessFlags := 2, slot := 2, constantValue := 0 }]
  methods := #[]
  instanceTypes := #[(.object "java/lang/String"), .int, .int]
  staticTypes := #[]
  resolved := Array.replicate 204 none
  statics := none }

def pool6 : Array CpInfo := pool [(1, .class_ 2), (0, u "com/example/tolerant_query/tolerantquery/Datatype"), (2, u "LITERAL"), (0, u "Lcom/example/tolerant_query/tolerantquery/Datatype;"), (2, u "REAL"), (2, u "RATIONAL"), (2, u "DECIMAL"), (2, u "INTEGER"), (2, u "NON_NEGATIVE_INTEGER"), (2, u "PLAIN_LITERAL"), (2, u "STRING"), (2, u "NORMALIZED_STRING"), (2, u "TOKEN"), (2, u "NMTOKEN"), (2, u "NAME"), (2, u "NCNAME"), (2, u "DATE_TIME"), (2, u "DATE_TIME_STAMP"), (2, u "HEX_BINARY"), (2, u "BASE64_BINARY"), (2, u "ANY_URI"), (2, u "XML_LITERAL"), (2, u "EMPTY"), (2, u "$VALUES"), (0, u "[Lcom/example/tolerant_query/tolerantquery/Datatype;"), (6, .class_ 76), (1, u "java/lang/Enum"), (8, u "iri"), (0, u "Ljava/lang/String;"), (0, .fieldref 1 88), (0, .nameAndType 89 6), (0, u "parent"), (2, u "NAMED"), (0, u "Ljava/util/Map;"), (8, u "within"), (0, u "(Lcom/example/tolerant_query/tolerantquery/Datatype;)Z"), (14, .class_ 119), (0, u "com/example/tolerant_query/tolerantquery/Datatype$Iris")] 87

def k6c0 : Code := { maxStack := 2, maxLocals := 4, code := prog_1_method_8_code, exceptionTable := #[], attributes := #[] }
def k6m0 : Method := { name := "within", desc := "(Lcom/example/tolerant_query/tolerantquery/Datatype;)Z", sig := { parameters := [(.object "com/example/tolerant_query/tolerantquery/Datatype")], returnType := some .boolean }, accessFlags := 0, code := some k6c0 }
/-- com/example/tolerant_query/tolerantquery/Datatype -/
def k6 : Class := { plain "com/example/tolerant_query/tolerantquery/Datatype" (some 5) with
  accessFlags := 16432
  interfaces := #[]
  cf := some (fileOf pool6 1 #[.nestMembers #[118]] #[{ accessFlags := 0, nameIndex := 102, descriptorIndex := 103, attributes := #[] }] 16432 74 #[] #[{ accessFlags := 16409, nameIndex := 5, descriptorIndex := 6, attributes := #[] }, { accessFlags := 16409, nameIndex := 9, descriptorIndex := 6, attributes := #[] }, { accessFlags := 16409, nameIndex := 12, descriptorIndex := 6, attributes := #[] }, { accessFlags := 16409, nameIndex := 15, descriptorIndex := 6, attributes := #[] }, { accessFlags := 16409, nameIndex := 18, descriptorIndex := 6, attributes := #[] }, { accessFlags := 16409, nameIndex := 21, descriptorIndex := 6, attributes := #[] }, { accessFlags := 16409, nameIndex := 24, descriptorIndex := 6, attributes := #[] }, { accessFlags := 16409, nameIndex := 27, descriptorIndex := 6, attributes := #[] }, { accessFlags := 16409, nameIndex := 30, descriptorIndex := 6, attributes := #[] }, { accessFlags := 16409, nameIndex := 33, descriptorIndex := 6, attributes := #[] }, { accessFlags := 16409, nameIndex := 36, descriptorIndex := 6, attributes := #[] }, { accessFlags := 16409, nameIndex := 39, descriptorIndex := 6, attributes := #[] }, { accessFlags := 16409, nameIndex := 42, descriptorIndex := 6, attributes := #[] }, { accessFlags := 16409, nameIndex := 45, descriptorIndex := 6, attributes := #[] }, { accessFlags := 16409, nameIndex := 48, descriptorIndex := 6, attributes := #[] }, { accessFlags := 16409, nameIndex := 51, descriptorIndex := 6, attributes := #[] }, { accessFlags := 16409, nameIndex := 54, descriptorIndex := 6, attributes := #[] }, { accessFlags := 16409, nameIndex := 57, descriptorIndex := 6, attributes := #[] }, { accessFlags := 16409, nameIndex := 60, descriptorIndex := 6, attributes := #[] }, { accessFlags := 16409, nameIndex := 63, descriptorIndex := 6, attributes := #[] }, { accessFlags := 26, nameIndex := 92, descriptorIndex := 93, attributes := #[] }, { accessFlags := 18, nameIndex := 85, descriptorIndex := 86, attributes := #[] }, { accessFlags := 18, nameIndex := 89, descriptorIndex := 6, attributes := #[] }, { accessFlags := 4122, nameIndex := 66, descriptorIndex := 67, attributes := #[] }])
  fields := #[{ name := "LITERAL", type := (.object "com/example/tolerant_query/tolerantquery/Datatype"), accessFlags := 16409, slot := 0, constantValue := 0 }, { name := "REAL", type := (.object "com/example/tolerant_query/tolerantquery/Datatype"), accessFlags := 16409, slot := 1, constantValue := 0 }, { name := "RATIONAL", type := (.object "com/example/tolerant_query/tolerantquery/Datatype"), accessFlags := 16409, slot := 2, constantValue := 0 }, { name := "DECIMAL", type := (.object "com/example/tolerant_query/tolerantquery/Datatype"), accessFlags := 16409, slot := 3, constantValue := 0 }, { name := "INTEGER", type := (.object "com/example/tolerant_query/tolerantquery/Datatype"), accessFlags := 16409, slot := 4, constantValue := 0 }, { name := "NON_NEGATIVE_INTEGER", type := (.object "com/example/tolerant_query/tolerantquery/Datatype"), accessFlags := 16409, slot := 5, constantValue := 0 }, { name := "PLAIN_LITERAL", type := (.object "com/example/tolerant_query/tolerantquery/Datatype"), accessFlags := 16409, slot := 6, constantValue := 0 }, { name := "STRING", type := (.object "com/example/tolerant_query/tolerantquery/Datatype"), accessFlags := 16409, slot := 7, constantValue := 0 }, { name := "NORMALIZED_STRING", type := (.object "com/example/tolerant_query/tolerantquery/Datatype"), accessFlags := 16409, slot := 8, constantValue := 0 }, { name := "TOKEN", type := (.object "com/example/tolerant_query/tolerantquery/Datatype"), accessFlags := 16409, slot := 9, constantValue := 0 }, { name := "NMTOKEN", type := (.object "com/example/tolerant_query/tolerantquery/Datatype"), accessFlags := 16409, slot := 10, constantValue := 0 }, { name := "NAME", type := (.object "com/example/tolerant_query/tolerantquery/Datatype"), accessFlags := 16409, slot := 11, constantValue := 0 }, { name := "NCNAME", type := (.object "com/example/tolerant_query/tolerantquery/Datatype"), accessFlags := 16409, slot := 12, constantValue := 0 }, { name := "DATE_TIME", type := (.object "com/example/tolerant_query/tolerantquery/Datatype"), accessFlags := 16409, slot := 13, constantValue := 0 }, { name := "DATE_TIME_STAMP", type := (.object "com/example/tolerant_query/tolerantquery/Datatype"), accessFlags := 16409, slot := 14, constantValue := 0 }, { name := "HEX_BINARY", type := (.object "com/example/tolerant_query/tolerantquery/Datatype"), accessFlags := 16409, slot := 15, constantValue := 0 }, { name := "BASE64_BINARY", type := (.object "com/example/tolerant_query/tolerantquery/Datatype"), accessFlags := 16409, slot := 16, constantValue := 0 }, { name := "ANY_URI", type := (.object "com/example/tolerant_query/tolerantquery/Datatype"), accessFlags := 16409, slot := 17, constantValue := 0 }, { name := "XML_LITERAL", type := (.object "com/example/tolerant_query/tolerantquery/Datatype"), accessFlags := 16409, slot := 18, constantValue := 0 }, { name := "EMPTY", type := (.object "com/example/tolerant_query/tolerantquery/Datatype"), accessFlags := 16409, slot := 19, constantValue := 0 }, { name := "NAMED", type := (.object "java/util/Map"), accessFlags := 26, slot := 20, constantValue := 0 }, { name := "iri", type := (.object "java/lang/String"), accessFlags := 18, slot := 3, constantValue := 0 }, { name := "parent", type := (.object "com/example/tolerant_query/tolerantquery/Datatype"), accessFlags := 18, slot := 4, constantValue := 0 }, { name := "$VALUES", type := (.array (.object "com/example/tolerant_query/tolerantquery/Datatype")), accessFlags := 4122, slot := 21, constantValue := 0 }]
  methods := #[k6m0]
  instanceTypes := #[(.object "java/lang/String"), .int, .int, (.object "java/lang/String"), (.object "com/example/tolerant_query/tolerantquery/Datatype")]
  staticTypes := #[(.object "com/example/tolerant_query/tolerantquery/Datatype"), (.object "com/example/tolerant_query/tolerantquery/Datatype"), (.object "com/example/tolerant_query/tolerantquery/Datatype"), (.object "com/example/tolerant_query/tolerantquery/Datatype"), (.object "com/example/tolerant_query/tolerantquery/Datatype"), (.object "com/example/tolerant_query/tolerantquery/Datatype"), (.object "com/example/tolerant_query/tolerantquery/Datatype"), (.object "com/example/tolerant_query/tolerantquery/Datatype"), (.object "com/example/tolerant_query/tolerantquery/Datatype"), (.object "com/example/tolerant_query/tolerantquery/Datatype"), (.object "com/example/tolerant_query/tolerantquery/Datatype"), (.object "com/example/tolerant_query/tolerantquery/Datatype"), (.object "com/example/tolerant_query/tolerantquery/Datatype"), (.object "com/example/tolerant_query/tolerantquery/Datatype"), (.object "com/example/tolerant_query/tolerantquery/Datatype"), (.object "com/example/tolerant_query/tolerantquery/Datatype"), (.object "com/example/tolerant_query/tolerantquery/Datatype"), (.object "com/example/tolerant_query/tolerantquery/Datatype"), (.object "com/example/tolerant_query/tolerantquery/Datatype"), (.object "com/example/tolerant_query/tolerantquery/Datatype"), (.object "java/util/Map"), (.array (.object "com/example/tolerant_query/tolerantquery/Datatype"))]
  resolved := Array.replicate 207 none
  statics := some 0 }

def pool7 : Array CpInfo := pool [(1, u "java/lang/Cloneable"), (0, .class_ 1), (0, u "java/lang/Object"), (0, .class_ 3)] 3

/-- java/lang/Cloneable -/
def k7 : Class := { plain "java/lang/Cloneable" (some 0) with
  accessFlags := 1537
  interfaces := #[]
  cf := some (fileOf pool7 2 #[] #[] 1537 4 #[] #[])
  fields := #[]
  methods := #[]
  instanceTypes := #[]
  staticTypes := #[]
  resolved := Array.replicate 8 none
  statics := none }

/-- the primitive byte -/
def k8 : Class := { plain "byte" none with kind := .primitive 'B', accessFlags := 0x411 }
/-- [B -/
def k9 : Class := { plain "[B" (some 0) with kind := .array 8 .byte, interfaces := #[7, 4], accessFlags := 1041 }

/-- the primitive int -/
def k10 : Class := { plain "int" none with kind := .primitive 'I', accessFlags := 0x411 }
/-- [I -/
def k11 : Class := { plain "[I" (some 0) with kind := .array 10 .int, interfaces := #[7, 4], accessFlags := 1041 }

def heap : Heap := #[{ cls := 6, slots := #[.ref 1, .ref 2, .ref 3, .ref 4, .ref 5, .ref 6, .ref 7, .ref 8, .ref 9, .ref 10, .ref 11, .ref 12, .ref 13, .ref 14, .ref 15, .ref 16, .ref 17, .ref 18, .ref 19, .ref 20, .null, .null], vm := .statics 6 },
  { cls := 6, slots := #[.null, .int 0, .int 0, .null, .null], vm := .none },
  { cls := 6, slots := #[.null, .int 1, .int 0, .null, .ref 1], vm := .none },
  { cls := 6, slots := #[.null, .int 2, .int 0, .null, .ref 2], vm := .none },
  { cls := 6, slots := #[.null, .int 3, .int 0, .null, .ref 3], vm := .none },
  { cls := 6, slots := #[.null, .int 4, .int 0, .null, .ref 4], vm := .none },
  { cls := 6, slots := #[.null, .int 5, .int 0, .null, .ref 5], vm := .none },
  { cls := 6, slots := #[.null, .int 6, .int 0, .null, .ref 1], vm := .none },
  { cls := 6, slots := #[.null, .int 7, .int 0, .null, .ref 7], vm := .none },
  { cls := 6, slots := #[.null, .int 8, .int 0, .null, .ref 8], vm := .none },
  { cls := 6, slots := #[.null, .int 9, .int 0, .null, .ref 9], vm := .none },
  { cls := 6, slots := #[.null, .int 10, .int 0, .null, .ref 10], vm := .none },
  { cls := 6, slots := #[.null, .int 11, .int 0, .null, .ref 11], vm := .none },
  { cls := 6, slots := #[.null, .int 12, .int 0, .null, .ref 12], vm := .none },
  { cls := 6, slots := #[.null, .int 13, .int 0, .null, .ref 1], vm := .none },
  { cls := 6, slots := #[.null, .int 14, .int 0, .null, .ref 14], vm := .none },
  { cls := 6, slots := #[.null, .int 15, .int 0, .null, .ref 1], vm := .none },
  { cls := 6, slots := #[.null, .int 16, .int 0, .null, .ref 1], vm := .none },
  { cls := 6, slots := #[.null, .int 17, .int 0, .null, .ref 1], vm := .none },
  { cls := 6, slots := #[.null, .int 18, .int 0, .null, .ref 1], vm := .none },
  { cls := 6, slots := #[.null, .int 19, .int 0, .null, .null], vm := .none }]
def classes : Array Class := #[k0, k1, k2, k3, k4, k5, k6, k7, k8, k9, k10, k11]
def interned : List (Array UInt16 × Addr) := []
def slotsUsed : Nat := 122
def theMethod : MethodId := ⟨1, 1⟩
def args0 : Array Value := #[.int 1, .int 2]
def aboutOver (below : List Frame) : State where
  vm := { classes := classes, interned := interned.toArray }
  heap := heap
  slotsUsed := slotsUsed
  threads := #[{ frames := .invoking theMethod args0 :: below }]
def below0 : List Frame := [.native { method := ⟨0, 0⟩, args := #[] }]
def about1 : State := aboutOver below0
def p0 : Program := .bare "" "" ""
def e0 : Env := launch0.env 0 0 0
theorem w_frames : about1.frames = Frame.invoking theMethod args0 :: below0 := rfl
set_option maxRecDepth 65536 in
theorem w_args : argsFit about1.vm theMethod args0 = true := by decide +kernel
set_option maxRecDepth 65536 in
theorem w_heap : heapFits about1 = true := by decide +kernel
set_option maxRecDepth 65536 in
theorem w_runnable : about1.curStatus? = some .runnable := by decide +kernel
set_option maxRecDepth 65536 in
theorem w_alone : about1.alone = true := by decide +kernel
set_option maxRecDepth 65536 in
theorem w_named : about1.methodNamed? x = some theMethod := by decide +kernel
set_option maxRecDepth 65536 in
theorem w_hears : about1.hears theMethod below0 = true := by decide +kernel
set_option maxRecDepth 65536 in
theorem w_ripe : about1.ripe theMethod args0 below0 = true := by decide +kernel
theorem w_running : about1.status = .running := rfl
set_option maxRecDepth 65536 in
theorem w_room : about1.hasRoom e0.platform room_1 = true :=
  launch0.hasRoom_least _ room_1 (by decide +kernel) (by decide +kernel) (by decide +kernel) (by decide +kernel) (by decide +kernel) (by decide +kernel)
theorem allAtoms_all (ts : List Jvm.Cond) (a : Array Jvm.Value) (st : Jvm.State) : (allAtoms ts).before a st = ts.all (fun c => c.before a st) := by
  induction ts with
  | nil => rfl
  | cons c t ih =>
    show (Jvm.Cond.and c (allAtoms t)).before a st = _
    rw [Jvm.Cond.before_and, ih, List.all_cons]
def words1 : List Jvm.Cond := Jvm.Cond.code x code maxLocals ret :: tables_1
/-- a 'code' word, met by the world's own term for the bytes: nothing is compared byte by byte -/
theorem code_word {y : MethodName} {bytes : ByteArray} {mx : Nat} {rt : Option FieldType} {a : Array Value} {s : State} {m : MethodId} {meth : Method} {c : Code} (h1 : s.methodNamed? y = some m) (h2 : s.vm.method? m = some meth) (h3 : meth.code = some c) (h4 : c.code = bytes)
    (h5 : (c.maxLocals == mx && c.exceptionTable.isEmpty && decide (c.maxStack ≤ mostOperands) && decide (meth.sig.returnType = rt) && !meth.locks && decide (parseMethodDescriptor y.desc = some meth.sig)) = true) : (Jvm.Cond.code y bytes mx rt).before a s = true := by
  simp only [Bool.and_eq_true, beq_iff_eq, Bool.not_eq_true', decide_eq_true_eq] at h5
  obtain ⟨⟨⟨⟨⟨g1, g2⟩, g3⟩, g4⟩, g5⟩, g6⟩ := h5
  simp [Cond.before, Cond.holds, Cond.value, h1, h2, h3, h4, g1, g2, g3, g4, g5, g6]
def isCode : Jvm.Cond → Bool
  | .code _ _ _ _ => true
  | _ => false
theorem all_split {L : List Jvm.Cond} {P : Jvm.Cond → Bool} (h1 : L.all (fun c => isCode c || P c) = true) (h2 : ∀ c ∈ L.filter isCode, P c = true) : L.all P = true := by
  refine List.all_eq_true.mpr fun c hc => ?_
  have h := List.all_eq_true.mp h1 c hc
  rcases Bool.eq_false_or_eq_true (isCode c) with hi | hi
  · exact h2 c (List.mem_filter.mpr ⟨hc, hi⟩)
  · simpa [hi] using h
set_option maxRecDepth 65536 in
theorem w_c0 : (Jvm.Cond.code x code maxLocals ret).before args0 about1 = true := code_word (m := ⟨1, 1⟩) (meth := k1m1) (c := k1c1) (by decide +kernel) rfl rfl rfl (by decide +kernel)
set_option maxRecDepth 65536 in
theorem w_c1 : (Jvm.Cond.code ({ cls := "com/example/tolerant_query/tolerantquery/DatatypeWithinPinLaw", name := "pick", desc := "(I)Lcom/example/tolerant_query/tolerantquery/Datatype;" } : Jvm.MethodName) method_5_code (1 : Nat) (Option.some (Jvm.ClassFile.FieldType.object "com/example/tolerant_query/tolerantquery/Datatype"))).before args0 about1 = true := code_word (m := ⟨1, 4⟩) (meth := k1m4) (c := k1c4) (by decide +kernel) rfl rfl rfl (by decide +kernel)
set_option maxRecDepth 65536 in
theorem w_c2 : (Jvm.Cond.code ({ cls := "com/example/tolerant_query/tolerantquery/DatatypeWithinPinLaw", name := "chain", desc := "(I)I" } : Jvm.MethodName) method_3_code (1 : Nat) (Option.some Jvm.ClassFile.FieldType.int)).before args0 about1 = true := code_word (m := ⟨1, 2⟩) (meth := k1m2) (c := k1c2) (by decide +kernel) rfl rfl rfl (by decide +kernel)
set_option maxRecDepth 65536 in
theorem w_c3 : (Jvm.Cond.code ({ cls := "com/example/tolerant_query/tolerantquery/Datatype", name := "within", desc := "(Lcom/example/tolerant_query/tolerantquery/Datatype;)Z" } : Jvm.MethodName) prog_1_method_8_code (4 : Nat) (Option.some Jvm.ClassFile.FieldType.boolean)).before args0 about1 = true := code_word (m := ⟨6, 0⟩) (meth := k6m0) (c := k6c0) (by decide +kernel) rfl rfl rfl (by decide +kernel)
set_option maxRecDepth 65536 in
theorem w_c4 : (Jvm.Cond.code ({ cls := "com/example/tolerant_query/tolerantquery/DatatypeWithinPinLaw", name := "depth", desc := "(I)I" } : Jvm.MethodName) method_4_code (1 : Nat) (Option.some Jvm.ClassFile.FieldType.int)).before args0 about1 = true := code_word (m := ⟨1, 3⟩) (meth := k1m3) (c := k1c3) (by decide +kernel) rfl rfl rfl (by decide +kernel)
def codes1 : List Jvm.Cond := [Jvm.Cond.code x code maxLocals ret, Jvm.Cond.code ({ cls := "com/example/tolerant_query/tolerantquery/DatatypeWithinPinLaw", name := "pick", desc := "(I)Lcom/example/tolerant_query/tolerantquery/Datatype;" } : Jvm.MethodName) method_5_code (1 : Nat) (Option.some (Jvm.ClassFile.FieldType.object "com/example/tolerant_query/tolerantquery/Datatype")), Jvm.Cond.code ({ cls := "com/example/tolerant_query/tolerantquery/DatatypeWithinPinLaw", name := "chain", desc := "(I)I" } : Jvm.MethodName) method_3_code (1 : Nat) (Option.some Jvm.ClassFile.FieldType.int), Jvm.Cond.code ({ cls := "com/example/tolerant_query/tolerantquery/Datatype", name := "within", desc := "(Lcom/example/tolerant_query/tolerantquery/Datatype;)Z" } : Jvm.MethodName) prog_1_method_8_code (4 : Nat) (Option.some Jvm.ClassFile.FieldType.boolean), Jvm.Cond.code ({ cls := "com/example/tolerant_query/tolerantquery/DatatypeWithinPinLaw", name := "depth", desc := "(I)I" } : Jvm.MethodName) method_4_code (1 : Nat) (Option.some Jvm.ClassFile.FieldType.int)]
set_option maxRecDepth 65536 in
theorem codes_eq : words1.filter isCode = codes1 := rfl
theorem w_codes : ∀ c ∈ words1.filter isCode, c.before args0 about1 = true := by
  rw [codes_eq]
  intro c hc
  simp only [codes1, List.mem_cons, List.not_mem_nil, or_false] at hc
  rcases hc with rfl | rfl | rfl | rfl | rfl
  · exact w_c0
  · exact w_c1
  · exact w_c2
  · exact w_c3
  · exact w_c4
set_option maxRecDepth 65536 in
theorem w_t1 : (words1.take 24).all (fun c => isCode c || c.before args0 about1) = true := by decide +kernel
set_option maxRecDepth 65536 in
theorem w_t2 : ((words1.drop 24).take 24).all (fun c => isCode c || c.before args0 about1) = true := by decide +kernel
set_option maxRecDepth 65536 in
theorem w_t3 : ((words1.drop 24).drop 24).all (fun c => isCode c || c.before args0 about1) = true := by decide +kernel
theorem w_tables : (allAtoms (Jvm.Cond.code x code maxLocals ret :: tables_1)).before args0 about1 = true := by
  rw [allAtoms_all]
  show words1.all (fun c => c.before args0 about1) = true
  refine all_split ?_ w_codes
  rw [← List.take_append_drop 24 words1, List.all_append, w_t1, ← List.take_append_drop 24 (words1.drop 24), List.all_append, w_t2, w_t3]
  rfl
set_option maxRecDepth 65536 in
theorem w_case : (Jvm.Cond.and given_1 narrow_1).before args0 about1 = true := by decide +kernel
theorem w_applies : (headSpec (Jvm.Cond.code x code maxLocals ret :: tables_1) room_1).applies x e0.platform about1 = true :=
  (Spec.applies_iff w_frames).mpr ⟨w_running, w_runnable, w_alone, w_named, w_hears, w_ripe, w_room, w_tables⟩
theorem atStart : AtStart classFile x code maxLocals ret World_1 tables_1 room_1 Calls_1 rest_1 Pre_1 launch0 p0 e0 about1 theMethod args0 below0 :=
  ⟨lists_1, trivial, launch0.admits_env _ _ _, launch0.least_env, fairChoices_fair.cas, fairChoices_fair.clock, w_frames, w_args, w_heap, w_applies, trivial, trivial, w_case⟩
end start1
theorem witness_1 : WitnessClaimed_1 := ⟨start1.p0, start1.e0, start1.about1, start1.theMethod, start1.args0, start1.below0, start1.atStart⟩
end Jvm.Pilot.@@N@@
