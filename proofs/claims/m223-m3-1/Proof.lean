import JvmDerived
import JvmDerived.Pilot.@@N@@Statement
import JvmDerived.Pilot.@@N@@Code
set_option linter.unusedVariables false
set_option linter.unusedSimpArgs false
namespace Jvm.RoadKit
open Sem ClassFile Op Lib Jvm.Stand Jvm.Free Jvm.LawKit
section New
variable {p : Program} {l : Launch} {e : Env} {R : Room} {s : State} {m : MethodId} {args : Array Value} {below : List Frame} {meth : Method} {c : Code} {T : State} {locs : List Loc} {cells slots : Nat}
theorem retI (X : Stand p l e R s m args below meth c T locs cells slots) (hx : p.tables.exec = Jvm.exec) {pc : Nat} {Ls : Array Slot} {z : Int32} {rest : List Value} (hret : meth.sig.returnType = some .int) (hd : decode c.code pc = .ok (.ireturn, 1)) {fs : List Frame}
    (hl : ∀ (f : JFrame) (acts : List Action), f.method = m → f.locked = none → f.entered = [] → (doReturn e (T.setTop f) acts (some (.int z))).1 = T.setFrames fs) : Steps p.tables e below (T.setTop (mkF m pc Ls (.int z :: rest))) (T.setFrames fs) := by
  have hm' : T.vm.method? m = some meth := X.method'
  have hn : narrow .int (.int z) = .int z := rfl
  show Steps p.tables e below (T.setTop { method := m, pc := pc, locals := Ls, stack := _ :: rest, locked := none }) _
  jvm_step X.here [X.here.top, hx, hd, hm', hret, hn]
  first | (intro acts; rw [hl _ acts rfl rfl rfl]) | rw [hl _ _ rfl rfl rfl]
  exact Steps.refl _
end New
end Jvm.RoadKit
namespace Jvm.Pilot.@@N@@
open Jvm Jvm.ClassFile Sem Op Lib Jvm.Free Jvm.Stand Jvm.LawKit Jvm.RoadKit Bundle Jvm.Pilot.@@N@@.Jvm.D
/-- the fixed things of one body's walk -/
abbrev Wk : Type := Program × Launch × Env × Room × State × MethodId × Array Value × List Frame × Method × Code
abbrev Wk.p (W : Wk) : Program := W.1
abbrev Wk.l (W : Wk) : Launch := W.2.1
abbrev Wk.e (W : Wk) : Env := W.2.2.1
abbrev Wk.R (W : Wk) : Room := W.2.2.2.1
abbrev Wk.s (W : Wk) : State := W.2.2.2.2.1
abbrev Wk.m (W : Wk) : MethodId := W.2.2.2.2.2.1
abbrev Wk.args (W : Wk) : Array Value := W.2.2.2.2.2.2.1
abbrev Wk.below (W : Wk) : List Frame := W.2.2.2.2.2.2.2.1
abbrev Wk.meth (W : Wk) : Method := W.2.2.2.2.2.2.2.2.1
abbrev Wk.c (W : Wk) : Code := W.2.2.2.2.2.2.2.2.2
abbrev St (W : Wk) (T : State) (L : List Loc) (k n : Nat) : Prop := Stand W.p W.l W.e W.R W.s W.m W.args W.below W.meth W.c T L k n
abbrev Sp (W : Wk) (a b : State) : Prop := Steps W.p.tables W.e W.below a b
/-- what holds throughout the walk -/
def Cx (Z : State) (W : Wk) (rm : Room) (own nm : String) (bytes : ByteArray) (maxL : Nat) (ret : Option FieldType) : Prop :=
  W.p.tables.exec = Jvm.exec ∧ W.c.code = bytes ∧ W.c.maxLocals = maxL ∧ W.s.vm.findClass own = some W.m.cls ∧ W.meth.name = nm ∧ W.meth.sig.returnType = ret ∧ Z.Warmed39 W.s.vm ∧ W.meth.locks = false ∧ W.R = rm
section Cxs
variable {Z : State} {W : Wk} {rm : Room} {own nm : String} {bytes : ByteArray} {maxL : Nat} {ret : Option FieldType}
theorem Cx.x (C : Cx Z W rm own nm bytes maxL ret) : W.p.tables.exec = Jvm.exec := C.1
theorem Cx.b (C : Cx Z W rm own nm bytes maxL ret) : W.c.code = bytes := C.2.1
theorem Cx.ml (C : Cx Z W rm own nm bytes maxL ret) : W.c.maxLocals = maxL := C.2.2.1
theorem Cx.ow (C : Cx Z W rm own nm bytes maxL ret) : W.s.vm.findClass own = some W.m.cls := C.2.2.2.1
theorem Cx.na (C : Cx Z W rm own nm bytes maxL ret) : W.meth.name = nm := C.2.2.2.2.1
theorem Cx.re (C : Cx Z W rm own nm bytes maxL ret) : W.meth.sig.returnType = ret := C.2.2.2.2.2.1
theorem Cx.z (C : Cx Z W rm own nm bytes maxL ret) : Z.Warmed39 W.s.vm := C.2.2.2.2.2.2.1
theorem Cx.lk (C : Cx Z W rm own nm bytes maxL ret) : W.meth.locks = false := C.2.2.2.2.2.2.2.1
theorem Cx.ro (C : Cx Z W rm own nm bytes maxL ret) : W.R = rm := C.2.2.2.2.2.2.2.2
end Cxs
/-- the run comes to the invocation's end, with what Q says -/
def Ends (W : Wk) (n0 : Nat) (Q : Option Value → Heap → Prop) (U : State) : Prop :=
  ∃ s₂ o, Sp W U s₂ ∧ s₂.status = .running ∧ Ended s₂ W.below o ∧ ∃ v L, o = .returned v ∧ (Fr n0 L ∧ Q v s₂.heap) ∧ FrameEnd W.s o s₂ L W.R.cells W.R.slots
/-- from pc, with these locals and this stack, over the heap h, at most k cells of n slots made so far -/
def Go (W : Wk) (n0 : Nat) (Q : Option Value → Heap → Prop) (h : Heap) (k n pc : Nat) (ls : Array Slot) (st : List Value) : Prop :=
  ∀ T L k' n', St W T L k' n' → k' ≤ k → n' ≤ n → Fr n0 L → T.heap = h → Ends W n0 Q (T.setTop (mkF W.m pc ls st))
/-- a body's contract: on these arguments, over the heap h, it ends and Q holds of what it returns and of the heap that it leaves -/
def Met1 (l : Launch) (Z : State) (y : MethodName) (bytes : ByteArray) (maxL : Nat) (ret : Option FieldType) (ws : List Jvm.Cond) (rm : Room) (as : Array Value) (h : Heap) (n0 : Nat) (Q : Option Value → Heap → Prop) : Prop :=
  MetFree l y (head1 (Jvm.Cond.code y bytes maxL ret :: ws) rm) (fun a U => a = as ∧ Z.Warmed39 U.vm ∧ U.heap = h) (fun _ _ _ _ _ => True) (fun _ U o U' => ∃ v L, o = .returned v ∧ (Fr n0 L ∧ Q v U'.heap) ∧ FrameEnd U o U' L rm.cells rm.slots)
theorem met_of_go {l : Launch} {Z : State} {y : MethodName} {bytes : ByteArray} {maxL : Nat} {ret : Option FieldType} {ws : List Jvm.Cond} {rm : Room} {as : Array Value} {h : Heap} {n0 : Nat} {Q : Option Value → Heap → Prop} {ls : Array Slot}
    (hpl : plainFor y = true) (hef : ∀ m, entryFrame m as maxL = mkF m 0 ls [])
    (go : ∀ W : Wk, W.l = l → Cx Z W rm y.cls y.name bytes maxL ret → Go W n0 Q h 0 0 0 ls []) : Met1 l Z y bytes maxL ret ws rm as h n0 Q := by
  refine MetFree.of_bodySF hpl hisR ?_
  intro p e s m args below meth c s₁ Bd hml0 hP hK
  obtain ⟨rfl, hZ, hh⟩ := hP
  have X0 : Stand p l e rm s m args below meth c s₁ [] 0 0 := Stand.of_body Bd
  have e0 : s₁.heap = h := by rw [← hh, Bd.state]; rfl
  obtain ⟨s₂, o, h1, h2, h3, h4⟩ := go (p, l, e, rm, s, m, args, below, meth, c) rfl ⟨Bd.exec, Bd.bytes, hml0, findClass_of_methodNamed Bd.named, (name_of_methodNamed Bd.named Bd.method).1, Bd.returns, hZ, Bd.notSynchronized, rfl⟩ s₁ [] 0 0 X0 (Nat.le_refl _) (Nat.le_refl _) (Fr.nil n0) e0
  exact ⟨s₂, o, castTop (hef m) h1, h2, h3, h4⟩
section Gos
variable {Z : State} {W : Wk} {rm : Room} {own nm : String} {bytes : ByteArray} {maxL : Nat} {ret : Option FieldType} {n0 : Nat} {Q : Option Value → Heap → Prop} {h : Heap} {k n pc q : Nat} {ls : Array Slot} {st : List Value} {a0 : Array Value}
theorem Go.mono {k' n' : Nat} (hk : k ≤ k') (hn : n ≤ n') (g : Go W n0 Q h k' n' pc ls st) : Go W n0 Q h k n pc ls st :=
  fun T L a b X h1 h2 => g T L a b X (Nat.le_trans h1 hk) (Nat.le_trans h2 hn)
theorem Go.stepX {ls' : Array Slot} {st' : List Value} (f : ∀ T L a b tg, St W T L a b → T.heap = h → Sp W (T.setTop (mkF W.m q ls' st')) tg → Sp W (T.setTop (mkF W.m pc ls st)) tg) (hr : Go W n0 Q h k n q ls' st') : Go W n0 Q h k n pc ls st := by
  intro T L a b X hk hn N eT
  obtain ⟨s₂, o, hs, r⟩ := hr T L a b X hk hn N eT
  exact ⟨s₂, o, f T L a b _ X eT hs, r⟩
theorem Go.stepT {ls' : Array Slot} {st' : List Value} (f : ∀ T L a b, St W T L a b → T.heap = h → ∃ T', St W T' L a b ∧ T'.heap = h ∧ ∀ tg, Sp W (T'.setTop (mkF W.m q ls' st')) tg → Sp W (T.setTop (mkF W.m pc ls st)) tg) (hr : Go W n0 Q h k n q ls' st') : Go W n0 Q h k n pc ls st := by
  intro T L a b X hk hn N eT
  obtain ⟨T', X', e', sp⟩ := f T L a b X eT
  obtain ⟨s₂, o, hs, r⟩ := hr T' L a b X' hk hn N e'
  exact ⟨s₂, o, sp _ hs, r⟩

theorem Go.iload (C : Cx Z W rm own nm bytes maxL ret) {j : Nat} {v : Int32} (hd : decode bytes pc = .ok (.iload j, 2)) (hq : pc + 2 = q) (hl : ls[j]? = some (.val (.int v)))
    (hr : Go W n0 Q h k n q ls (.int v :: st)) : Go W n0 Q h k n pc ls st := by
  subst hq
  exact Go.stepX (fun T L a b tg X eT kk => XS.iload X.here C.x rfl (hb C.b hd) hl kk) hr
theorem Go.iloadN (C : Cx Z W rm own nm bytes maxL ret) {j : Fin 4} {v : Int32} (hd : decode bytes pc = .ok (.iload_n j, 1)) (hq : pc + 1 = q) (hl : ls[j.val]? = some (.val (.int v)))
    (hr : Go W n0 Q h k n q ls (.int v :: st)) : Go W n0 Q h k n pc ls st := by
  subst hq
  exact Go.stepX (fun T L a b tg X eT kk => XS.iloadN X.here C.x rfl (hb C.b hd) hl kk) hr
theorem Go.lload (C : Cx Z W rm own nm bytes maxL ret) {j : Nat} {v : Int64} (hd : decode bytes pc = .ok (.lload j, 2)) (hq : pc + 2 = q) (hl : ls[j]? = some (.val (.long v)))
    (hr : Go W n0 Q h k n q ls (.long v :: st)) : Go W n0 Q h k n pc ls st := by
  subst hq
  exact Go.stepX (fun T L a b tg X eT kk => XS.lload X.here C.x rfl (hb C.b hd) hl kk) hr
theorem Go.lloadN (C : Cx Z W rm own nm bytes maxL ret) {j : Fin 4} {v : Int64} (hd : decode bytes pc = .ok (.lload_n j, 1)) (hq : pc + 1 = q) (hl : ls[j.val]? = some (.val (.long v)))
    (hr : Go W n0 Q h k n q ls (.long v :: st)) : Go W n0 Q h k n pc ls st := by
  subst hq
  exact Go.stepX (fun T L a b tg X eT kk => XS.lloadN X.here C.x rfl (hb C.b hd) hl kk) hr
theorem Go.aload (C : Cx Z W rm own nm bytes maxL ret) {j : Nat} {v : Value} (hd : decode bytes pc = .ok (.aload j, 2)) (hq : pc + 2 = q) (hl : ls[j]? = some (.val v)) (hv : v.isRef = true)
    (hr : Go W n0 Q h k n q ls (v :: st)) : Go W n0 Q h k n pc ls st := by
  subst hq
  exact Go.stepX (fun T L a b tg X eT kk => XS.aload X.here C.x rfl (hb C.b hd) hl hv kk) hr
theorem Go.aloadN (C : Cx Z W rm own nm bytes maxL ret) {j : Fin 4} {v : Value} (hd : decode bytes pc = .ok (.aload_n j, 1)) (hq : pc + 1 = q) (hl : ls[j.val]? = some (.val v)) (hv : v.isRef = true)
    (hr : Go W n0 Q h k n q ls (v :: st)) : Go W n0 Q h k n pc ls st := by
  subst hq
  exact Go.stepX (fun T L a b tg X eT kk => XS.aloadN X.here C.x rfl (hb C.b hd) hl hv kk) hr
theorem Go.istore (C : Cx Z W rm own nm bytes maxL ret) {j : Nat} {x : Int32} (hd : decode bytes pc = .ok (.istore j, 2)) (hq : pc + 2 = q) (l' : Int32 → Array Slot) (hl : ∀ v, storeLocals ls j (.int v) = some (l' v))
    (hr : ∀ v, v = x → Go W n0 Q h k n q (l' v) st) : Go W n0 Q h k n pc ls (.int x :: st) := by
  subst hq
  exact Go.stepX (fun T L a b tg X eT kk => XS.istore X.here C.x rfl (hb C.b hd) rfl (hl x) kk) (hr x rfl)
theorem Go.istoreN (C : Cx Z W rm own nm bytes maxL ret) {j : Fin 4} {x : Int32} (hd : decode bytes pc = .ok (.istore_n j, 1)) (hq : pc + 1 = q) (l' : Int32 → Array Slot) (hl : ∀ v, storeLocals ls j.val (.int v) = some (l' v))
    (hr : ∀ v, v = x → Go W n0 Q h k n q (l' v) st) : Go W n0 Q h k n pc ls (.int x :: st) := by
  subst hq
  exact Go.stepX (fun T L a b tg X eT kk => XS.istoreN X.here C.x rfl (hb C.b hd) rfl (hl x) kk) (hr x rfl)
theorem Go.lstore (C : Cx Z W rm own nm bytes maxL ret) {j : Nat} {x : Int64} (hd : decode bytes pc = .ok (.lstore j, 2)) (hq : pc + 2 = q) (l' : Int64 → Array Slot) (hl : ∀ v, storeLocals ls j (.long v) = some (l' v))
    (hr : ∀ v, v = x → Go W n0 Q h k n q (l' v) st) : Go W n0 Q h k n pc ls (.long x :: st) := by
  subst hq
  exact Go.stepX (fun T L a b tg X eT kk => XS.lstore X.here C.x rfl (hb C.b hd) rfl (hl x) kk) (hr x rfl)
theorem Go.lstoreN (C : Cx Z W rm own nm bytes maxL ret) {j : Fin 4} {x : Int64} (hd : decode bytes pc = .ok (.lstore_n j, 1)) (hq : pc + 1 = q) (l' : Int64 → Array Slot) (hl : ∀ v, storeLocals ls j.val (.long v) = some (l' v))
    (hr : ∀ v, v = x → Go W n0 Q h k n q (l' v) st) : Go W n0 Q h k n pc ls (.long x :: st) := by
  subst hq
  exact Go.stepX (fun T L a b tg X eT kk => XS.lstoreN X.here C.x rfl (hb C.b hd) rfl (hl x) kk) (hr x rfl)
theorem Go.astore (C : Cx Z W rm own nm bytes maxL ret) {j : Nat} {x : Value} (hd : decode bytes pc = .ok (.astore j, 2)) (hq : pc + 2 = q) {l' : Array Slot} (hv : x.isRef = true) (hl : storeLocals ls j x = some l')
    (hr : Go W n0 Q h k n q l' st) : Go W n0 Q h k n pc ls (x :: st) := by
  subst hq
  exact Go.stepX (fun T L a b tg X eT kk => XS.astore X.here C.x rfl (hb C.b hd) rfl hv hl kk) hr
theorem Go.astoreN (C : Cx Z W rm own nm bytes maxL ret) {j : Fin 4} {x : Value} (hd : decode bytes pc = .ok (.astore_n j, 1)) (hq : pc + 1 = q) {l' : Array Slot} (hv : x.isRef = true) (hl : storeLocals ls j.val x = some l')
    (hr : Go W n0 Q h k n q l' st) : Go W n0 Q h k n pc ls (x :: st) := by
  subst hq
  exact Go.stepX (fun T L a b tg X eT kk => XS.astoreN X.here C.x rfl (hb C.b hd) rfl hv hl kk) hr
theorem Go.istoreR (C : Cx Z W rm own nm bytes maxL ret) {j : Nat} {x : Int32} (hd : decode bytes pc = .ok (.istore j, 2)) (hq : pc + 2 = q) {l' : Array Slot} (hl : storeLocals ls j (.int x) = some l')
    (hr : Go W n0 Q h k n q l' st) : Go W n0 Q h k n pc ls (.int x :: st) := by
  subst hq
  exact Go.stepX (fun T L a b tg X eT kk => XS.istore X.here C.x rfl (hb C.b hd) rfl hl kk) hr
theorem Go.istoreNR (C : Cx Z W rm own nm bytes maxL ret) {j : Fin 4} {x : Int32} (hd : decode bytes pc = .ok (.istore_n j, 1)) (hq : pc + 1 = q) {l' : Array Slot} (hl : storeLocals ls j.val (.int x) = some l')
    (hr : Go W n0 Q h k n q l' st) : Go W n0 Q h k n pc ls (.int x :: st) := by
  subst hq
  exact Go.stepX (fun T L a b tg X eT kk => XS.istoreN X.here C.x rfl (hb C.b hd) rfl hl kk) hr
theorem Go.lstoreR (C : Cx Z W rm own nm bytes maxL ret) {j : Nat} {x : Int64} (hd : decode bytes pc = .ok (.lstore j, 2)) (hq : pc + 2 = q) {l' : Array Slot} (hl : storeLocals ls j (.long x) = some l')
    (hr : Go W n0 Q h k n q l' st) : Go W n0 Q h k n pc ls (.long x :: st) := by
  subst hq
  exact Go.stepX (fun T L a b tg X eT kk => XS.lstore X.here C.x rfl (hb C.b hd) rfl hl kk) hr
theorem Go.lstoreNR (C : Cx Z W rm own nm bytes maxL ret) {j : Fin 4} {x : Int64} (hd : decode bytes pc = .ok (.lstore_n j, 1)) (hq : pc + 1 = q) {l' : Array Slot} (hl : storeLocals ls j.val (.long x) = some l')
    (hr : Go W n0 Q h k n q l' st) : Go W n0 Q h k n pc ls (.long x :: st) := by
  subst hq
  exact Go.stepX (fun T L a b tg X eT kk => XS.lstoreN X.here C.x rfl (hb C.b hd) rfl hl kk) hr
theorem Go.iincR (C : Cx Z W rm own nm bytes maxL ret) {j : Nat} {cst : Int} {x : Int32} (hd : decode bytes pc = .ok (.iinc j cst, 3)) (hq : pc + 3 = q) (hl0 : ls[j]? = some (.val (.int x))) {l' : Array Slot} (hl : storeLocals ls j (.int (x + Int32.ofInt cst)) = some l')
    (hr : Go W n0 Q h k n q l' st) : Go W n0 Q h k n pc ls st := by
  subst hq
  exact Go.stepX (fun T L a b tg X eT kk => XS.iinc X.here C.x rfl (hb C.b hd) hl0 hl kk) hr
theorem Go.iinc (C : Cx Z W rm own nm bytes maxL ret) {j : Nat} {cst : Int} {x y : Int32} (hd : decode bytes pc = .ok (.iinc j cst, 3)) (hq : pc + 3 = q) (hl0 : ls[j]? = some (.val (.int x))) (hy : Int32.ofInt cst = y) (l' : Int32 → Array Slot) (hl : ∀ v, storeLocals ls j (.int v) = some (l' v))
    (hr : ∀ v, v = x + y → Go W n0 Q h k n q (l' v) st) : Go W n0 Q h k n pc ls st := by
  subst hq hy
  exact Go.stepX (fun T L a b tg X eT kk => XS.iinc X.here C.x rfl (hb C.b hd) hl0 (hl _) kk) (hr _ rfl)
theorem Go.iconst (C : Cx Z W rm own nm bytes maxL ret) {i : Int} (v : Int32) (hd : decode bytes pc = .ok (.iconst i, 1)) (hq : pc + 1 = q) (hv : Int32.ofInt i = v)
    (hr : Go W n0 Q h k n q ls (.int v :: st)) : Go W n0 Q h k n pc ls st := by
  subst hq hv
  exact Go.stepX (fun T L a b tg X eT kk => XS.iconst X.here C.x rfl (hb C.b hd) kk) hr
theorem Go.bipush (C : Cx Z W rm own nm bytes maxL ret) {i : Int} (v : Int32) (hd : decode bytes pc = .ok (.bipush i, 2)) (hq : pc + 2 = q) (hv : (Int8.ofInt i).toInt32 = v)
    (hr : Go W n0 Q h k n q ls (.int v :: st)) : Go W n0 Q h k n pc ls st := by
  subst hq hv
  exact Go.stepX (fun T L a b tg X eT kk => XS.bipush X.here C.x rfl (hb C.b hd) kk) hr
theorem Go.sipush (C : Cx Z W rm own nm bytes maxL ret) {i : Int} (v : Int32) (hd : decode bytes pc = .ok (.sipush i, 3)) (hq : pc + 3 = q) (hv : (Int16.ofInt i).toInt32 = v)
    (hr : Go W n0 Q h k n q ls (.int v :: st)) : Go W n0 Q h k n pc ls st := by
  subst hq hv
  exact Go.stepX (fun T L a b tg X eT kk => XS.sipush X.here C.x rfl (hb C.b hd) kk) hr
theorem Go.lconst (C : Cx Z W rm own nm bytes maxL ret) {i : Fin 2} (v : Int64) (hd : decode bytes pc = .ok (.lconst i, 1)) (hq : pc + 1 = q) (hv : Int64.ofNat i = v)
    (hr : Go W n0 Q h k n q ls (.long v :: st)) : Go W n0 Q h k n pc ls st := by
  subst hq hv
  exact Go.stepX (fun T L a b tg X eT kk => XS.lconst X.here C.x rfl (hb C.b hd) kk) hr
theorem Go.aconstNull (C : Cx Z W rm own nm bytes maxL ret)  (hd : decode bytes pc = .ok (.aconst_null, 1)) (hq : pc + 1 = q)
    (hr : Go W n0 Q h k n q ls (.null :: st)) : Go W n0 Q h k n pc ls st := by
  subst hq
  exact Go.stepX (fun T L a b tg X eT kk => XS.aconstNull X.here C.x rfl (hb C.b hd) kk) hr
theorem Go.ldcI (C : Cx Z W rm own nm bytes maxL ret) {index : Nat} {v : Int32} (w : (Jvm.Cond.constant own index v).before a0 Z = true) (hd : decode bytes pc = .ok (.ldc index, 2)) (hq : pc + 2 = q)
    (hr : Go W n0 Q h k n q ls (.int v :: st)) : Go W n0 Q h k n pc ls st := by
  subst hq
  exact Go.stepX (fun T L a b tg X eT kk => X.ldcInt C.x C.ow (mvT C.z w) (g := mkF W.m pc ls st) rfl (hb C.b hd) _ kk) hr
theorem Go.ldcwI (C : Cx Z W rm own nm bytes maxL ret) {index : Nat} {v : Int32} (w : (Jvm.Cond.constant own index v).before a0 Z = true) (hd : decode bytes pc = .ok (.ldc_w index, 3)) (hq : pc + 3 = q)
    (hr : Go W n0 Q h k n q ls (.int v :: st)) : Go W n0 Q h k n pc ls st := by
  subst hq
  exact Go.stepX (fun T L a b tg X eT kk => X.ldcwInt C.x C.ow (mvT C.z w) (g := mkF W.m pc ls st) rfl (hb C.b hd) _ kk) hr
theorem Go.ldc2J (C : Cx Z W rm own nm bytes maxL ret) {index : Nat} {v : Int64} (w : (Jvm.Cond.constantLong own index v).before a0 Z = true) (hd : decode bytes pc = .ok (.ldc2_w index, 3)) (hq : pc + 3 = q)
    (hr : Go W n0 Q h k n q ls (.long v :: st)) : Go W n0 Q h k n pc ls st := by
  subst hq
  exact Go.stepX (fun T L a b tg X eT kk => X.ldc2Long C.x C.ow (mvT C.z w) (g := mkF W.m pc ls st) rfl (hb C.b hd) _ kk) hr
theorem Go.iadd (C : Cx Z W rm own nm bytes maxL ret) {x y : Int32} (hd : decode bytes pc = .ok (.iadd, 1)) (hq : pc + 1 = q)
    (hr : Go W n0 Q h k n q ls (.int (x + y) :: st)) : Go W n0 Q h k n pc ls (.int y :: .int x :: st) := by
  subst hq
  exact Go.stepX (fun T L a b tg X eT kk => XS.iadd X.here C.x rfl (hb C.b hd) rfl kk) hr
theorem Go.ladd (C : Cx Z W rm own nm bytes maxL ret) {x y : Int64} (hd : decode bytes pc = .ok (.ladd, 1)) (hq : pc + 1 = q)
    (hr : Go W n0 Q h k n q ls (.long (x + y) :: st)) : Go W n0 Q h k n pc ls (.long y :: .long x :: st) := by
  subst hq
  exact Go.stepX (fun T L a b tg X eT kk => XS.ladd X.here C.x rfl (hb C.b hd) rfl kk) hr
theorem Go.isub (C : Cx Z W rm own nm bytes maxL ret) {x y : Int32} (hd : decode bytes pc = .ok (.isub, 1)) (hq : pc + 1 = q)
    (hr : Go W n0 Q h k n q ls (.int (x - y) :: st)) : Go W n0 Q h k n pc ls (.int y :: .int x :: st) := by
  subst hq
  exact Go.stepX (fun T L a b tg X eT kk => XS.isub X.here C.x rfl (hb C.b hd) rfl kk) hr
theorem Go.lsub (C : Cx Z W rm own nm bytes maxL ret) {x y : Int64} (hd : decode bytes pc = .ok (.lsub, 1)) (hq : pc + 1 = q)
    (hr : Go W n0 Q h k n q ls (.long (x - y) :: st)) : Go W n0 Q h k n pc ls (.long y :: .long x :: st) := by
  subst hq
  exact Go.stepX (fun T L a b tg X eT kk => XS.lsub X.here C.x rfl (hb C.b hd) rfl kk) hr
theorem Go.imul (C : Cx Z W rm own nm bytes maxL ret) {x y : Int32} (hd : decode bytes pc = .ok (.imul, 1)) (hq : pc + 1 = q)
    (hr : Go W n0 Q h k n q ls (.int (x * y) :: st)) : Go W n0 Q h k n pc ls (.int y :: .int x :: st) := by
  subst hq
  exact Go.stepX (fun T L a b tg X eT kk => XS.imul X.here C.x rfl (hb C.b hd) rfl kk) hr
theorem Go.lmul (C : Cx Z W rm own nm bytes maxL ret) {x y : Int64} (hd : decode bytes pc = .ok (.lmul, 1)) (hq : pc + 1 = q)
    (hr : Go W n0 Q h k n q ls (.long (x * y) :: st)) : Go W n0 Q h k n pc ls (.long y :: .long x :: st) := by
  subst hq
  exact Go.stepX (fun T L a b tg X eT kk => XS.lmul X.here C.x rfl (hb C.b hd) rfl kk) hr
theorem Go.iand (C : Cx Z W rm own nm bytes maxL ret) {x y : Int32} (hd : decode bytes pc = .ok (.iand, 1)) (hq : pc + 1 = q)
    (hr : Go W n0 Q h k n q ls (.int (x &&& y) :: st)) : Go W n0 Q h k n pc ls (.int y :: .int x :: st) := by
  subst hq
  exact Go.stepX (fun T L a b tg X eT kk => XS.iand X.here C.x rfl (hb C.b hd) rfl kk) hr
theorem Go.land (C : Cx Z W rm own nm bytes maxL ret) {x y : Int64} (hd : decode bytes pc = .ok (.land, 1)) (hq : pc + 1 = q)
    (hr : Go W n0 Q h k n q ls (.long (x &&& y) :: st)) : Go W n0 Q h k n pc ls (.long y :: .long x :: st) := by
  subst hq
  exact Go.stepX (fun T L a b tg X eT kk => XS.land X.here C.x rfl (hb C.b hd) rfl kk) hr
theorem Go.ior (C : Cx Z W rm own nm bytes maxL ret) {x y : Int32} (hd : decode bytes pc = .ok (.ior, 1)) (hq : pc + 1 = q)
    (hr : Go W n0 Q h k n q ls (.int (x ||| y) :: st)) : Go W n0 Q h k n pc ls (.int y :: .int x :: st) := by
  subst hq
  exact Go.stepX (fun T L a b tg X eT kk => XS.ior X.here C.x rfl (hb C.b hd) rfl kk) hr
theorem Go.lor (C : Cx Z W rm own nm bytes maxL ret) {x y : Int64} (hd : decode bytes pc = .ok (.lor, 1)) (hq : pc + 1 = q)
    (hr : Go W n0 Q h k n q ls (.long (x ||| y) :: st)) : Go W n0 Q h k n pc ls (.long y :: .long x :: st) := by
  subst hq
  exact Go.stepX (fun T L a b tg X eT kk => XS.lor X.here C.x rfl (hb C.b hd) rfl kk) hr
theorem Go.ixor (C : Cx Z W rm own nm bytes maxL ret) {x y : Int32} (hd : decode bytes pc = .ok (.ixor, 1)) (hq : pc + 1 = q)
    (hr : Go W n0 Q h k n q ls (.int (x ^^^ y) :: st)) : Go W n0 Q h k n pc ls (.int y :: .int x :: st) := by
  subst hq
  exact Go.stepX (fun T L a b tg X eT kk => XS.ixor X.here C.x rfl (hb C.b hd) rfl kk) hr
theorem Go.lxor (C : Cx Z W rm own nm bytes maxL ret) {x y : Int64} (hd : decode bytes pc = .ok (.lxor, 1)) (hq : pc + 1 = q)
    (hr : Go W n0 Q h k n q ls (.long (x ^^^ y) :: st)) : Go W n0 Q h k n pc ls (.long y :: .long x :: st) := by
  subst hq
  exact Go.stepX (fun T L a b tg X eT kk => XS.lxor X.here C.x rfl (hb C.b hd) rfl kk) hr
theorem Go.irem (C : Cx Z W rm own nm bytes maxL ret) {x y : Int32} (hd : decode bytes pc = .ok (.irem, 1)) (hq : pc + 1 = q) (hy : y ≠ 0)
    (hr : Go W n0 Q h k n q ls (.int (x % y) :: st)) : Go W n0 Q h k n pc ls (.int y :: .int x :: st) := by
  subst hq
  exact Go.stepX (fun T L a b tg X eT kk => iremM X C.x rfl (hb C.b hd) rfl hy kk) hr
theorem Go.idiv (C : Cx Z W rm own nm bytes maxL ret) {x y : Int32} (hd : decode bytes pc = .ok (.idiv, 1)) (hq : pc + 1 = q) (hy : y ≠ 0)
    (hr : Go W n0 Q h k n q ls (.int (x / y) :: st)) : Go W n0 Q h k n pc ls (.int y :: .int x :: st) := by
  subst hq
  exact Go.stepX (fun T L a b tg X eT kk => XS.idiv X.here C.x rfl (hb C.b hd) rfl hy kk) hr
theorem Go.lrem (C : Cx Z W rm own nm bytes maxL ret) {x y : Int64} (hd : decode bytes pc = .ok (.lrem, 1)) (hq : pc + 1 = q) (hy : y ≠ 0)
    (hr : Go W n0 Q h k n q ls (.long (x - (x / y) * y) :: st)) : Go W n0 Q h k n pc ls (.long y :: .long x :: st) := by
  subst hq
  exact Go.stepX (fun T L a b tg X eT kk => XS.lrem X.here C.x rfl (hb C.b hd) rfl hy kk) hr
theorem Go.ldiv (C : Cx Z W rm own nm bytes maxL ret) {x y : Int64} (hd : decode bytes pc = .ok (.ldiv, 1)) (hq : pc + 1 = q) (hy : y ≠ 0)
    (hr : Go W n0 Q h k n q ls (.long (x / y) :: st)) : Go W n0 Q h k n pc ls (.long y :: .long x :: st) := by
  subst hq
  exact Go.stepX (fun T L a b tg X eT kk => XS.ldiv X.here C.x rfl (hb C.b hd) rfl hy kk) hr
theorem Go.ineg (C : Cx Z W rm own nm bytes maxL ret) {x : Int32} (hd : decode bytes pc = .ok (.ineg, 1)) (hq : pc + 1 = q)
    (hr : Go W n0 Q h k n q ls (.int (-x) :: st)) : Go W n0 Q h k n pc ls (.int x :: st) := by
  subst hq
  exact Go.stepX (fun T L a b tg X eT kk => XS.ineg X.here C.x rfl (hb C.b hd) rfl kk) hr
theorem Go.lneg (C : Cx Z W rm own nm bytes maxL ret) {x : Int64} (hd : decode bytes pc = .ok (.lneg, 1)) (hq : pc + 1 = q)
    (hr : Go W n0 Q h k n q ls (.long (-x) :: st)) : Go W n0 Q h k n pc ls (.long x :: st) := by
  subst hq
  exact Go.stepX (fun T L a b tg X eT kk => XS.lneg X.here C.x rfl (hb C.b hd) rfl kk) hr
theorem Go.i2l (C : Cx Z W rm own nm bytes maxL ret) {x : Int32} (hd : decode bytes pc = .ok (.i2l, 1)) (hq : pc + 1 = q)
    (hr : Go W n0 Q h k n q ls (.long x.toInt64 :: st)) : Go W n0 Q h k n pc ls (.int x :: st) := by
  subst hq
  exact Go.stepX (fun T L a b tg X eT kk => XS.i2l X.here C.x rfl (hb C.b hd) rfl kk) hr
theorem Go.l2i (C : Cx Z W rm own nm bytes maxL ret) {x : Int64} (hd : decode bytes pc = .ok (.l2i, 1)) (hq : pc + 1 = q)
    (hr : Go W n0 Q h k n q ls (.int x.toInt32 :: st)) : Go W n0 Q h k n pc ls (.long x :: st) := by
  subst hq
  exact Go.stepX (fun T L a b tg X eT kk => XS.l2i X.here C.x rfl (hb C.b hd) rfl kk) hr
theorem Go.i2b (C : Cx Z W rm own nm bytes maxL ret) {x : Int32} (hd : decode bytes pc = .ok (.i2b, 1)) (hq : pc + 1 = q)
    (hr : Go W n0 Q h k n q ls (.int x.toInt8.toInt32 :: st)) : Go W n0 Q h k n pc ls (.int x :: st) := by
  subst hq
  exact Go.stepX (fun T L a b tg X eT kk => XS.i2b X.here C.x rfl (hb C.b hd) rfl kk) hr
theorem Go.i2s (C : Cx Z W rm own nm bytes maxL ret) {x : Int32} (hd : decode bytes pc = .ok (.i2s, 1)) (hq : pc + 1 = q)
    (hr : Go W n0 Q h k n q ls (.int x.toInt16.toInt32 :: st)) : Go W n0 Q h k n pc ls (.int x :: st) := by
  subst hq
  exact Go.stepX (fun T L a b tg X eT kk => XS.i2s X.here C.x rfl (hb C.b hd) rfl kk) hr
theorem Go.i2c (C : Cx Z W rm own nm bytes maxL ret) {x : Int32} (hd : decode bytes pc = .ok (.i2c, 1)) (hq : pc + 1 = q)
    (hr : Go W n0 Q h k n q ls (.int x.toUInt32.toUInt16.toUInt32.toInt32 :: st)) : Go W n0 Q h k n pc ls (.int x :: st) := by
  subst hq
  exact Go.stepX (fun T L a b tg X eT kk => XS.i2c X.here C.x rfl (hb C.b hd) rfl kk) hr
theorem Go.ishl (C : Cx Z W rm own nm bytes maxL ret) {x : Int32} {y : Int32} (hd : decode bytes pc = .ok (.ishl, 1)) (hq : pc + 1 = q)
    (hr : Go W n0 Q h k n q ls (.int (x <<< (y &&& 31)) :: st)) : Go W n0 Q h k n pc ls (.int y :: .int x :: st) := by
  subst hq
  exact Go.stepX (fun T L a b tg X eT kk => XS.ishl X.here C.x rfl (hb C.b hd) rfl kk) hr
theorem Go.ishr (C : Cx Z W rm own nm bytes maxL ret) {x : Int32} {y : Int32} (hd : decode bytes pc = .ok (.ishr, 1)) (hq : pc + 1 = q)
    (hr : Go W n0 Q h k n q ls (.int (x >>> (y &&& 31)) :: st)) : Go W n0 Q h k n pc ls (.int y :: .int x :: st) := by
  subst hq
  exact Go.stepX (fun T L a b tg X eT kk => XS.ishr X.here C.x rfl (hb C.b hd) rfl kk) hr
theorem Go.iushr (C : Cx Z W rm own nm bytes maxL ret) {x : Int32} {y : Int32} (hd : decode bytes pc = .ok (.iushr, 1)) (hq : pc + 1 = q)
    (hr : Go W n0 Q h k n q ls (.int ((x.toUInt32 >>> (y &&& 31).toUInt32).toInt32) :: st)) : Go W n0 Q h k n pc ls (.int y :: .int x :: st) := by
  subst hq
  exact Go.stepX (fun T L a b tg X eT kk => XS.iushr X.here C.x rfl (hb C.b hd) rfl kk) hr
theorem Go.lshl (C : Cx Z W rm own nm bytes maxL ret) {x : Int64} {y : Int32} (hd : decode bytes pc = .ok (.lshl, 1)) (hq : pc + 1 = q)
    (hr : Go W n0 Q h k n q ls (.long (x <<< (y &&& 0x3f).toInt64) :: st)) : Go W n0 Q h k n pc ls (.int y :: .long x :: st) := by
  subst hq
  exact Go.stepX (fun T L a b tg X eT kk => XS.lshl X.here C.x rfl (hb C.b hd) rfl kk) hr
theorem Go.lshr (C : Cx Z W rm own nm bytes maxL ret) {x : Int64} {y : Int32} (hd : decode bytes pc = .ok (.lshr, 1)) (hq : pc + 1 = q)
    (hr : Go W n0 Q h k n q ls (.long (x >>> (y &&& 0x3f).toInt64) :: st)) : Go W n0 Q h k n pc ls (.int y :: .long x :: st) := by
  subst hq
  exact Go.stepX (fun T L a b tg X eT kk => XS.lshr X.here C.x rfl (hb C.b hd) rfl kk) hr
theorem Go.lushr (C : Cx Z W rm own nm bytes maxL ret) {x : Int64} {y : Int32} (hd : decode bytes pc = .ok (.lushr, 1)) (hq : pc + 1 = q)
    (hr : Go W n0 Q h k n q ls (.long ((x.toUInt64 >>> (y &&& 0x3f).toInt64.toUInt64).toInt64) :: st)) : Go W n0 Q h k n pc ls (.int y :: .long x :: st) := by
  subst hq
  exact Go.stepX (fun T L a b tg X eT kk => XS.lushr X.here C.x rfl (hb C.b hd) rfl kk) hr
theorem Go.lcmp (C : Cx Z W rm own nm bytes maxL ret) {x y : Int64} (hd : decode bytes pc = .ok (.lcmp, 1)) (hq : pc + 1 = q)
    (hr : Go W n0 Q h k n q ls (.int (lcmpW x y) :: st)) : Go W n0 Q h k n pc ls (.long y :: .long x :: st) := by
  subst hq
  exact Go.stepX (fun T L a b tg X eT kk => XS.lcmp X.here C.x rfl (hb C.b hd) rfl kk) hr
theorem Go.pop (C : Cx Z W rm own nm bytes maxL ret) {x : Value} (hd : decode bytes pc = .ok (.pop, 1)) (hq : pc + 1 = q) (hc : x.category = 1)
    (hr : Go W n0 Q h k n q ls st) : Go W n0 Q h k n pc ls (x :: st) := by
  subst hq
  exact Go.stepX (fun T L a b tg X eT kk => XS.pop X.here C.x rfl (hb C.b hd) rfl hc kk) hr
theorem Go.dup (C : Cx Z W rm own nm bytes maxL ret) {x : Value} (hd : decode bytes pc = .ok (.dup, 1)) (hq : pc + 1 = q) (hc : x.category = 1)
    (hr : Go W n0 Q h k n q ls (x :: x :: st)) : Go W n0 Q h k n pc ls (x :: st) := by
  subst hq
  exact Go.stepX (fun T L a b tg X eT kk => XS.dup X.here C.x rfl (hb C.b hd) rfl hc kk) hr
theorem Go.dup2 (C : Cx Z W rm own nm bytes maxL ret) {x y : Value} (hd : decode bytes pc = .ok (.dup2, 1)) (hq : pc + 1 = q) (hc : x.category = 1) (hc' : y.category = 1)
    (hr : Go W n0 Q h k n q ls (x :: y :: x :: y :: st)) : Go W n0 Q h k n pc ls (x :: y :: st) := by
  subst hq
  exact Go.stepX (fun T L a b tg X eT kk => XT.dup2 X.here C.x rfl (hb C.b hd) rfl hc hc' kk) hr
theorem Go.goto (C : Cx Z W rm own nm bytes maxL ret) {o : Int} (hd : decode bytes pc = .ok (.goto o, 3)) (ho : 0 ≤ (pc : Int) + o) (hp : ((pc : Int) + o).toNat = q)
    (hr : Go W n0 Q h k n q ls st) : Go W n0 Q h k n pc ls st :=
  Go.stepX (fun T L a b tg X eT kk => XS.goto X.here C.x rfl (pc0 := pc) rfl (hb C.b hd) ho hp kk) hr
theorem Go.icmp (C : Cx Z W rm own nm bytes maxL ret) {cd : ClassFile.Cond} {o : Int} {x y : Int32} {qt : Nat} {P : Prop} [Decidable P] (hd : decode bytes pc = .ok (.if_icmp cd o, 3)) (hP : if_icmp.holds cd x y = decide P) (ho : 0 ≤ (pc : Int) + o) (hp : ((pc : Int) + o).toNat = qt) (hq : pc + 3 = q)
    (ht : P → Go W n0 Q h k n qt ls st) (hf : ¬ P → Go W n0 Q h k n q ls st) : Go W n0 Q h k n pc ls (.int y :: .int x :: st) := by
  subst hq
  by_cases p : P
  · exact Go.stepX (fun T L a b tg X eT kk => XS.icmpYes X.here C.x rfl (pc0 := pc) rfl (hb C.b hd) rfl (hP.trans (decide_eq_true p)) ho hp kk) (ht p)
  · exact Go.stepX (fun T L a b tg X eT kk => XS.icmpNo X.here C.x rfl (hb C.b hd) rfl (hP.trans (decide_eq_false p)) kk) (hf p)
theorem Go.if0 (C : Cx Z W rm own nm bytes maxL ret) {cd : ClassFile.Cond} {o : Int} {x : Int32} {qt : Nat} {P : Prop} [Decidable P] (hd : decode bytes pc = .ok (.ifCond cd o, 3)) (hP : ifCond.holds cd x = decide P) (ho : 0 ≤ (pc : Int) + o) (hp : ((pc : Int) + o).toNat = qt) (hq : pc + 3 = q)
    (ht : P → Go W n0 Q h k n qt ls st) (hf : ¬ P → Go W n0 Q h k n q ls st) : Go W n0 Q h k n pc ls (.int x :: st) := by
  subst hq
  by_cases p : P
  · exact Go.stepX (fun T L a b tg X eT kk => XS.ifYes X.here C.x rfl (pc0 := pc) rfl (hb C.b hd) rfl (hP.trans (decide_eq_true p)) ho hp kk) (ht p)
  · exact Go.stepX (fun T L a b tg X eT kk => XS.ifNo X.here C.x rfl (hb C.b hd) rfl (hP.trans (decide_eq_false p)) kk) (hf p)
theorem Go.ifnullY (C : Cx Z W rm own nm bytes maxL ret) {o : Int} (hd : decode bytes pc = .ok (.ifnull o, 3)) (ho : 0 ≤ (pc : Int) + o) (hp : ((pc : Int) + o).toNat = q)
    (hr : Go W n0 Q h k n q ls st) : Go W n0 Q h k n pc ls (.null :: st) :=
  Go.stepX (fun T L a b tg X eT kk => XS.ifnullYes X.here C.x rfl (pc0 := pc) rfl (hb C.b hd) rfl ho hp kk) hr
theorem Go.ifnullN (C : Cx Z W rm own nm bytes maxL ret) {o : Int} {a : Addr} (hd : decode bytes pc = .ok (.ifnull o, 3)) (hq : pc + 3 = q)
    (hr : Go W n0 Q h k n q ls st) : Go W n0 Q h k n pc ls (.ref a :: st) := by
  subst hq
  exact Go.stepX (fun T L a b tg X eT kk => XS.ifnullNo X.here C.x rfl (hb C.b hd) rfl kk) hr
theorem Go.ifnonnullY (C : Cx Z W rm own nm bytes maxL ret) {o : Int} {a : Addr} (hd : decode bytes pc = .ok (.ifnonnull o, 3)) (ho : 0 ≤ (pc : Int) + o) (hp : ((pc : Int) + o).toNat = q)
    (hr : Go W n0 Q h k n q ls st) : Go W n0 Q h k n pc ls (.ref a :: st) :=
  Go.stepX (fun T L a b tg X eT kk => XS.ifnonnullYes X.here C.x rfl (pc0 := pc) rfl (hb C.b hd) rfl ho hp kk) hr
theorem Go.ifnonnullN (C : Cx Z W rm own nm bytes maxL ret) {o : Int} (hd : decode bytes pc = .ok (.ifnonnull o, 3)) (hq : pc + 3 = q)
    (hr : Go W n0 Q h k n q ls st) : Go W n0 Q h k n pc ls (.null :: st) := by
  subst hq
  exact Go.stepX (fun T L a b tg X eT kk => XS.ifnonnullNo X.here C.x rfl (hb C.b hd) rfl kk) hr
theorem Go.acmp (C : Cx Z W rm own nm bytes maxL ret) {cd : ACond} {o : Int} {x y : Value} {same : Bool} (hd : decode bytes pc = .ok (.if_acmp cd o, 3)) (h1 : x.isRef = true) (h2 : y.isRef = true) (hs : decide (x = y) = same) (ho : 0 ≤ (pc : Int) + o) (hp : q = if acV cd same = true then ((pc : Int) + o).toNat else pc + 3)
    (hr : Go W n0 Q h k n q ls st) : Go W n0 Q h k n pc ls (y :: x :: st) :=
  Go.stepX (fun T L a b tg X eT kk => Jvm.RoadKit.acmp X C.x rfl h1 h2 (pc0 := pc) rfl (hb C.b hd) rfl hs ho hp kk) hr
theorem n_lt (x y : Int32) : if_icmp.holds .lt x y = decide (x < y) := rfl
theorem n_ge (x y : Int32) : if_icmp.holds .ge x y = decide (¬ x < y) := by simp [if_icmp.holds, Int32.not_lt]
theorem n_gt (x y : Int32) : if_icmp.holds .gt x y = decide (y < x) := rfl
theorem n_le (x y : Int32) : if_icmp.holds .le x y = decide (¬ y < x) := by simp [if_icmp.holds, Int32.not_lt]
theorem n_eq (x y : Int32) : if_icmp.holds .eq x y = decide (x = y) := by by_cases e : x = y <;> simp [if_icmp.holds, e]
theorem n_ne (x y : Int32) : if_icmp.holds .ne x y = decide (¬ x = y) := by by_cases e : x = y <;> simp [if_icmp.holds, e]
theorem z_lt (x : Int32) : ifCond.holds .lt x = decide (x < 0) := (if0 _ x).trans (n_lt x 0)
theorem z_ge (x : Int32) : ifCond.holds .ge x = decide (¬ x < 0) := (if0 _ x).trans (n_ge x 0)
theorem z_gt (x : Int32) : ifCond.holds .gt x = decide (0 < x) := (if0 _ x).trans (n_gt x 0)
theorem z_le (x : Int32) : ifCond.holds .le x = decide (¬ 0 < x) := (if0 _ x).trans (n_le x 0)
theorem z_eq (x : Int32) : ifCond.holds .eq x = decide (x = 0) := (if0 _ x).trans (n_eq x 0)
theorem z_ne (x : Int32) : ifCond.holds .ne x = decide (¬ x = 0) := (if0 _ x).trans (n_ne x 0)
theorem l_lt (x y : Int64) : ifCond.holds .lt (lcmpW x y) = decide (x < y) := by rw [z_lt]; exact decide_eq_decide.mpr (lw_lt x y)
theorem l_ge (x y : Int64) : ifCond.holds .ge (lcmpW x y) = decide (¬ x < y) := by rw [z_ge]; exact decide_eq_decide.mpr (not_congr (lw_lt x y))
theorem l_gt (x y : Int64) : ifCond.holds .gt (lcmpW x y) = decide (y < x) := by rw [z_gt]; exact decide_eq_decide.mpr (lw_gt x y)
theorem l_le (x y : Int64) : ifCond.holds .le (lcmpW x y) = decide (¬ y < x) := by rw [z_le]; exact decide_eq_decide.mpr (not_congr (lw_gt x y))
theorem l_eq (x y : Int64) : ifCond.holds .eq (lcmpW x y) = decide (x = y) := by rw [z_eq]; exact decide_eq_decide.mpr (lw_eq x y)
theorem l_ne (x y : Int64) : ifCond.holds .ne (lcmpW x y) = decide (¬ x = y) := by rw [z_ne]; exact decide_eq_decide.mpr (not_congr (lw_eq x y))
theorem nar_b (x : Int32) : nar .byte x.toInt8.toInt32 = x.toInt8.toInt32 := by
  show x.toInt8.toInt32.toInt8.toInt32 = _
  simp
/-- what the law's own walk leaves -/
def QL : Option Value → Heap → Prop := fun v _ => v = some (.int 1)
/-! the ends -/
theorem Go.out {v : Option Value} (f : ∀ T L a b fs, St W T L a b → (∀ (g : JFrame) (acts : List Action), g.method = W.m → g.locked = none → g.entered = [] → (doReturn W.e (T.setTop g) acts v).1 = T.setFrames fs) → Sp W (T.setTop (mkF W.m pc ls st)) (T.setFrames fs)) (hv : W.meth.sig.returnType = none → v = none) (hlk : W.meth.locks = false) (hk : k ≤ W.R.cells) (hn : n ≤ W.R.slots) (hQ : Q v h) : Go W n0 Q h k n pc ls st := by
  intro T L a b X ha hb N eT
  obtain ⟨fs, hr, hrun, hended, hW, hsame⟩ := X.leave (v := v) hv hlk
  refine ⟨_, _, f T L a b fs X hr, hrun, hended, v, L, rfl, ⟨N, ?_⟩, ⟨_, rfl⟩, hW, hsame.mono (Nat.le_trans ha hk) (Nat.le_trans hb hn)⟩
  have e1 : (T.setFrames fs).heap = T.heap := rfl
  rw [e1, eT]
  exact hQ
theorem Go.retI (C : Cx Z W rm own nm bytes maxL (some .int)) {x : Int32} (hd : decode bytes pc = .ok (.ireturn, 1)) (hk : k ≤ rm.cells) (hn : n ≤ rm.slots) (hQ : Q (some (.int x)) h) : Go W n0 Q h k n pc ls (.int x :: st) :=
  Go.out (v := some (.int x)) (fun T L a b fs X hr => Jvm.RoadKit.retI X C.x C.re (hb C.b hd) hr) (fun e => by rw [C.re] at e; cases e) C.lk (by rw [C.ro]; exact hk) (by rw [C.ro]; exact hn) hQ
theorem Go.retZ {t : FieldType} (ht : t = .boolean ∨ t = .byte ∨ t = .char ∨ t = .short) (C : Cx Z W rm own nm bytes maxL (some t)) {x : Int32} (hd : decode bytes pc = .ok (.ireturn, 1)) (hk : k ≤ rm.cells) (hn : n ≤ rm.slots) (hQ : Q (some (.int (nar t x))) h) : Go W n0 Q h k n pc ls (.int x :: st) :=
  Go.out (v := some (.int (nar t x))) (fun T L a b fs X hr => retN X C.x (t := t) C.re ht (hb C.b hd) hr) (fun e => by rw [C.re] at e; cases e) C.lk (by rw [C.ro]; exact hk) (by rw [C.ro]; exact hn) hQ
theorem Go.retV (C : Cx Z W rm own nm bytes maxL none) (hd : decode bytes pc = .ok (.return_, 1)) (hk : k ≤ rm.cells) (hn : n ≤ rm.slots) (hQ : Q none h) : Go W n0 Q h k n pc ls [] :=
  Go.out (v := none) (fun T L a b fs X hr => X.returnOut C.x C.re (hb C.b hd) hr) (fun _ => rfl) C.lk (by rw [C.ro]; exact hk) (by rw [C.ro]; exact hn) hQ
theorem Go.retJ (C : Cx Z W rm own nm bytes maxL (some .long)) {x : Int64} (hd : decode bytes pc = .ok (.lreturn, 1)) (hk : k ≤ rm.cells) (hn : n ≤ rm.slots) (hQ : Q (some (.long x)) h) : Go W n0 Q h k n pc ls [.long x] :=
  Go.out (v := some (.long x)) (fun T L a b fs X hr => Stand.lreturnOut X C.x C.re (hb C.b hd) hr) (fun e => by rw [C.re] at e; cases e) C.lk (by rw [C.ro]; exact hk) (by rw [C.ro]; exact hn) hQ
theorem Go.retR {t : FieldType} (C : Cx Z W rm own nm bytes maxL (some t)) {v : Value} (hd : decode bytes pc = .ok (.areturn, 1)) (ht : t.isReference = true) (hv : v.isRef = true) (hnw : narrow t v = v) (hk : k ≤ rm.cells) (hn : n ≤ rm.slots) (hQ : Q (some v) h) : Go W n0 Q h k n pc ls (v :: st) :=
  Go.out (v := some v) (fun T L a b fs X hr => retOut X C.x (t := t) (i := .areturn) C.re hnw (Or.inr (Or.inr (Or.inr (Or.inr ⟨rfl, ht, hv⟩)))) (hb C.b hd) hr) (fun e => by rw [C.re] at e; cases e) C.lk (by rw [C.ro]; exact hk) (by rw [C.ro]; exact hn) hQ
/-! the calls -/
theorem met_weak {l : Launch} {y : MethodName} {as : Array Value} {Q' : Option Value → Heap → Prop} (M : Met1 l Z y bytes maxL ret [] rm as h n0 Q) (hQ : ∀ v h', Q v h' → Q' v h') : Met1 l Z y bytes maxL ret [] rm as h n0 Q' := by
  intro p e ha hc hk s m args below hf happ hP hK
  obtain ⟨n, o, h1, h2, h3, v, L, h4, ⟨h5, h6⟩, h7⟩ := M p e ha hc hk s m args below hf happ hP hK
  exact ⟨n, o, h1, h2, h3, v, L, h4, ⟨h5, hQ _ _ h6⟩, h7⟩
theorem Go.callS (C : Cx Z W rm own nm bytes maxL ret) {index : Nat} {y : MethodName} {bytes' : ByteArray} {maxL' : Nat} {ret' : Option FieldType} {rm' : Room} {argsL : List Value} {Q' : Option Value → Heap → Prop} {ps : List FieldType} {rt : Option FieldType} {stk : List Value} {k' n' w : Nat}
    (wl : (Jvm.Cond.methodLink own index y).before a0 Z = true) (wst : (Jvm.Cond.static y).before a0 Z = true) (wi : (Jvm.Cond.initialized y.cls).before a0 Z = true) (wc : (Jvm.Cond.code y bytes' maxL' ret').before a0 Z = true)
    (M : Met1 W.l Z y bytes' maxL' ret' [] rm' argsL.toArray h n0 Q') (hd : decode bytes pc = .ok (.invokestatic index, 3)) (hpd : parseMethodDescriptor y.desc = some ⟨ps, rt⟩) (hq : pc + 3 = q) (hls : ls.size = maxL) (hstk : stk = argsL.reverse ++ st) (hlen : argsL.length = ps.length)
    (hw : (st.map fun v => v.category).sum = w) (hfr : rm'.frames + 1 ≤ rm.frames) (hlo : w + (maxL' + 11) + rm'.locals ≤ rm.locals) (hk : k + rm'.cells = k') (hn : n + rm'.slots = n') (hk' : k' ≤ rm.cells) (hn' : n' ≤ rm.slots)
    (hr : ∀ v h', Q' v h' → Go W n0 Q h' k' n' q ls (v.toList ++ st)) (hy : y.cls ≠ "java/lang/invoke/MethodHandle" ∧ y.cls ≠ "java/lang/invoke/VarHandle" := by decide) : Go W n0 Q h k n pc ls stk := by
  subst hstk hq hk hn hw
  intro T L a b X ha hb' N eT
  have e1 := C.ro
  obtain ⟨v, _, ⟨T2, L2, k2, n2⟩, -, X2, ⟨Lc, ⟨N2, hQ2⟩, l2, y2, z2⟩, sp⟩ := Jvm.LawKit.callS X C.x (y := y) C.ow (mvT C.z wl) (mvT C.z wst) (mvT C.z wi) (mvT C.z wc) hy
    (backOf (W := (st.map fun v => v.category).sum) (Q := fun v h L => Fr n0 L ∧ Q' v h) M C.z wc wi (by rw [e1]; exact hfr) (by rw [e1]; exact hlo)) (g := mkF W.m pc ls (argsL.reverse ++ st)) rfl (by rw [C.ml]; exact hls) (argsL := argsL) (rest := st) (lenOf hpd hlen) rfl (by show 2 * 0 + (st.map fun v => v.category).sum ≤ (st.map fun v => v.category).sum; omega) (hb C.b hd) (fun _ _ => ⟨rfl, eT, by rw [e1]; show a + _ ≤ _; omega, by rw [e1]; show b + _ ≤ _; omega⟩)
  dsimp only [Pt.U, Pt.locs, Pt.cells, Pt.slots] at X2 l2 y2 z2 sp hQ2
  subst l2 y2 z2
  obtain ⟨s₂, o, hs, r⟩ := hr v _ hQ2 T2 _ _ _ X2 (by omega) (by omega) (Fr.app N N2) rfl
  exact ⟨s₂, o, sp _ hs, r⟩
/-- what a callee that changes nothing leaves -/
def Ret (w : Value) (h : Heap) : Option Value → Heap → Prop := fun v h' => v = some w ∧ h' = h
theorem Go.pureS (C : Cx Z W rm own nm bytes maxL ret) {index : Nat} {y : MethodName} {bytes' : ByteArray} {maxL' : Nat} {ret' : Option FieldType} {fr lo : Nat} {argsL : List Value} {res : Value} {ps : List FieldType} {rt : Option FieldType} {stk : List Value} {w : Nat}
    (wl : (Jvm.Cond.methodLink own index y).before a0 Z = true) (wst : (Jvm.Cond.static y).before a0 Z = true) (wi : (Jvm.Cond.initialized y.cls).before a0 Z = true) (wc : (Jvm.Cond.code y bytes' maxL' ret').before a0 Z = true)
    (M : Met1 W.l Z y bytes' maxL' ret' [] ({ frames := fr, cells := 0, slots := 0, locals := lo } : Room) argsL.toArray h n0 (Ret res h)) (hd : decode bytes pc = .ok (.invokestatic index, 3)) (hpd : parseMethodDescriptor y.desc = some ⟨ps, rt⟩) (hq : pc + 3 = q) (hls : ls.size = maxL) (hstk : stk = argsL.reverse ++ st) (hlen : argsL.length = ps.length)
    (hw : (st.map fun v => v.category).sum = w) (hfr : fr + 1 ≤ rm.frames) (hlo : w + (maxL' + 11) + lo ≤ rm.locals) (hk' : k ≤ rm.cells) (hn' : n ≤ rm.slots)
    (hr : Go W n0 Q h k n q ls (res :: st)) (hy : y.cls ≠ "java/lang/invoke/MethodHandle" ∧ y.cls ≠ "java/lang/invoke/VarHandle" := by decide) : Go W n0 Q h k n pc ls stk :=
  Go.callS C wl wst wi wc M hd hpd hq hls hstk hlen hw hfr hlo rfl rfl hk' hn' (fun v h' q => by obtain ⟨rfl, rfl⟩ := q; exact hr) hy
theorem Go.callC (C : Cx Z W rm own nm bytes maxL ret) {index : Nat} {y : MethodName} {bytes' : ByteArray} {maxL' : Nat} {rm' : Room} {argsL : List Value} {Q' : Option Value → Heap → Prop} {ps : List FieldType} {rt : Option FieldType} {stk : List Value} {k' n' w : Nat} {a : Addr}
    (hy1 : y.name = "<init>") (wl : (Jvm.Cond.methodLink own index y).before a0 Z = true) (wst : (Jvm.Cond.instanceMethod y).before a0 Z = true) (wi : (Jvm.Cond.initialized y.cls).before a0 Z = true) (wc : (Jvm.Cond.code y bytes' maxL' none).before a0 Z = true)
    (M : Met1 W.l Z y bytes' maxL' none [] rm' (.ref a :: argsL).toArray h n0 Q') (hd : decode bytes pc = .ok (.invokespecial index, 3)) (hpd : parseMethodDescriptor y.desc = some ⟨ps, rt⟩) (hq : pc + 3 = q) (hls : ls.size = maxL) (hstk : stk = argsL.reverse ++ .ref a :: st) (hlen : argsL.length = ps.length)
    (hw : (st.map fun v => v.category).sum = w) (hfr : rm'.frames + 1 ≤ rm.frames) (hlo : w + (maxL' + 11) + rm'.locals ≤ rm.locals) (hk : k + rm'.cells = k') (hn : n + rm'.slots = n') (hk' : k' ≤ rm.cells) (hn' : n' ≤ rm.slots)
    (hr : ∀ v h', Q' v h' → Go W n0 Q h' k' n' q ls (v.toList ++ st)) (hy : y.cls ≠ "java/lang/invoke/MethodHandle" ∧ y.cls ≠ "java/lang/invoke/VarHandle" := by decide) : Go W n0 Q h k n pc ls stk := by
  subst hstk hq hk hn hw
  intro T L i j X ha hb' N eT
  have e1 := C.ro
  obtain ⟨v, _, ⟨T2, L2, k2, n2⟩, -, X2, ⟨Lc, ⟨N2, hQ2⟩, l2, y2, z2⟩, sp⟩ := X.specialBack C.x (y := y) hy1 C.ow (mvT C.z wl) (mvT C.z wst) (mvT C.z wc) hy
    (backOf (W := (st.map fun v => v.category).sum) (Q := fun v h L => Fr n0 L ∧ Q' v h) M C.z wc wi (by rw [e1]; exact hfr) (by rw [e1]; exact hlo)) (g := mkF W.m pc ls (argsL.reverse ++ .ref a :: st)) rfl (by rw [C.ml]; exact hls) (Steps.refl _) (a := a) (argsL := argsL) (rest := st) (lenOf hpd hlen) rfl (by show 2 * 0 + (st.map fun v => v.category).sum ≤ (st.map fun v => v.category).sum; omega) (hb C.b hd) (fun _ _ => ⟨rfl, eT, by rw [e1]; show i + _ ≤ _; omega, by rw [e1]; show j + _ ≤ _; omega⟩)
  dsimp only [Pt.U, Pt.locs, Pt.cells, Pt.slots] at X2 l2 y2 z2 sp hQ2
  subst l2 y2 z2
  obtain ⟨s₂, o, hs, r⟩ := hr v _ hQ2 T2 _ _ _ X2 (by omega) (by omega) (Fr.app N N2) rfl
  exact ⟨s₂, o, sp.trans hs, r⟩
theorem Go.callV (C : Cx Z W rm own nm bytes maxL ret) {index : Nat} {y z : MethodName} {K : String} {bytes' : ByteArray} {maxL' : Nat} {ret' : Option FieldType} {rm' : Room} {argsL : List Value} {Q' : Option Value → Heap → Prop} {ps : List FieldType} {rt : Option FieldType} {stk : List Value} {k' n' w : Nat} {a : Addr}
    (E : Exa Z h a K) (wl : (Jvm.Cond.methodLink own index y).before a0 Z = true) (wdc : (Jvm.Cond.declares y).before a0 Z = true) (hnf : NotFace W.s y) (wse : (Jvm.Cond.selects K y z).before a0 Z = true) (wst : (Jvm.Cond.instanceMethod z).before a0 Z = true) (wi : (Jvm.Cond.initialized z.cls).before a0 Z = true) (wc : (Jvm.Cond.code z bytes' maxL' ret').before a0 Z = true)
    (M : Met1 W.l Z z bytes' maxL' ret' [] rm' (.ref a :: argsL).toArray h n0 Q') (hd : decode bytes pc = .ok (.invokevirtual index, 3)) (hpd : parseMethodDescriptor y.desc = some ⟨ps, rt⟩) (hq : pc + 3 = q) (hls : ls.size = maxL) (hstk : stk = argsL.reverse ++ .ref a :: st) (hlen : argsL.length = ps.length)
    (hw : (st.map fun v => v.category).sum = w) (hfr : rm'.frames + 1 ≤ rm.frames) (hlo : w + (maxL' + 11) + rm'.locals ≤ rm.locals) (hk : k + rm'.cells = k') (hn : n + rm'.slots = n') (hk' : k' ≤ rm.cells) (hn' : n' ≤ rm.slots)
    (hr : ∀ v h', Q' v h' → Go W n0 Q h' k' n' q ls (v.toList ++ st)) (hy : y.cls ≠ "java/lang/invoke/MethodHandle" ∧ y.cls ≠ "java/lang/invoke/VarHandle" := by decide) : Go W n0 Q h k n pc ls stk := by
  subst hstk hq hk hn hw
  intro T L i j X ha hb' N eT
  have e1 := C.ro
  obtain ⟨cq, kq, qa, qb, qc⟩ := isOf (s := W.s) C.z eT E
  obtain ⟨v, _, ⟨T2, L2, k2, n2⟩, -, X2, ⟨Lc, ⟨N2, hQ2⟩, l2, y2, z2⟩, sp⟩ := X.virtualBack C.x (y := y) (z := z) C.ow (mvT C.z wl) (mvT C.z wdc) hnf (mvT C.z wse) (mvT C.z wst) hy
    (backOf (W := (st.map fun v => v.category).sum) (Q := fun v h L => Fr n0 L ∧ Q' v h) M C.z wc wi (by rw [e1]; exact hfr) (by rw [e1]; exact hlo)) qa qc (g := mkF W.m pc ls (argsL.reverse ++ .ref a :: st)) rfl (by rw [C.ml]; exact hls) (Steps.refl _) (argsL := argsL) (rest := st) (lenOf hpd hlen) rfl (by show 2 * 0 + (st.map fun v => v.category).sum ≤ (st.map fun v => v.category).sum; omega) (hb C.b hd) (fun _ _ => ⟨rfl, eT, by rw [e1]; show i + _ ≤ _; omega, by rw [e1]; show j + _ ≤ _; omega⟩)
  dsimp only [Pt.U, Pt.locs, Pt.cells, Pt.slots] at X2 l2 y2 z2 sp hQ2
  subst l2 y2 z2
  obtain ⟨s₂, o, hs, r⟩ := hr v _ hQ2 T2 _ _ _ X2 (by omega) (by omega) (Fr.app N N2) rfl
  exact ⟨s₂, o, sp.trans hs, r⟩
theorem Go.pureV (C : Cx Z W rm own nm bytes maxL ret) {index : Nat} {y : MethodName} {K : String} {bytes' : ByteArray} {maxL' : Nat} {ret' : Option FieldType} {fr lo : Nat} {argsL : List Value} {res : Value} {ps : List FieldType} {rt : Option FieldType} {stk : List Value} {w : Nat} {a : Addr}
    (E : Exa Z h a K) (wl : (Jvm.Cond.methodLink own index y).before a0 Z = true) (wdc : (Jvm.Cond.declares y).before a0 Z = true) (wse : (Jvm.Cond.selects K y y).before a0 Z = true) (wst : (Jvm.Cond.instanceMethod y).before a0 Z = true) (wi : (Jvm.Cond.initialized y.cls).before a0 Z = true) (wc : (Jvm.Cond.code y bytes' maxL' ret').before a0 Z = true)
    (M : Met1 W.l Z y bytes' maxL' ret' [] ({ frames := fr, cells := 0, slots := 0, locals := lo } : Room) (.ref a :: argsL).toArray h n0 (Ret res h)) (hd : decode bytes pc = .ok (.invokevirtual index, 3)) (hpd : parseMethodDescriptor y.desc = some ⟨ps, rt⟩) (hq : pc + 3 = q) (hls : ls.size = maxL) (hstk : stk = argsL.reverse ++ .ref a :: st) (hlen : argsL.length = ps.length)
    (hw : (st.map fun v => v.category).sum = w) (hfr : fr + 1 ≤ rm.frames) (hlo : w + (maxL' + 11) + lo ≤ rm.locals) (hk' : k ≤ rm.cells) (hn' : n ≤ rm.slots)
    (hr : Go W n0 Q h k n q ls (res :: st)) (hy : y.cls ≠ "java/lang/invoke/MethodHandle" ∧ y.cls ≠ "java/lang/invoke/VarHandle" := by decide) : Go W n0 Q h k n pc ls stk :=
  Go.callV C E wl wdc (notFace_of_selects (args := #[]) (mvT C.z wse)) wse wst wi wc M hd hpd hq hls hstk hlen hw hfr hlo rfl rfl hk' hn' (fun v h' q => by obtain ⟨rfl, rfl⟩ := q; exact hr) hy
/-- a private method, by invokevirtual; zz: any method of its class of which the sheet says what it selects (so the class is no interface) -/
theorem Go.callP (C : Cx Z W rm own nm bytes maxL ret) {index : Nat} {y zz : MethodName} {K KK : String} {bytes' : ByteArray} {maxL' : Nat} {ret' : Option FieldType} {rm' : Room} {argsL : List Value} {Q' : Option Value → Heap → Prop} {ps : List FieldType} {rt : Option FieldType} {stk : List Value} {k' n' w : Nat} {a : Addr}
    (E : Exa Z h a K) (wl : (Jvm.Cond.methodLink own index y).before a0 Z = true) (wse : (Jvm.Cond.selects KK zz zz).before a0 Z = true) (hzz : zz.cls = y.cls) (wpr : (Jvm.Cond.privateMethod y).before a0 Z = true) (wst : (Jvm.Cond.instanceMethod y).before a0 Z = true) (wi : (Jvm.Cond.initialized y.cls).before a0 Z = true) (wc : (Jvm.Cond.code y bytes' maxL' ret').before a0 Z = true)
    (M : Met1 W.l Z y bytes' maxL' ret' [] rm' (.ref a :: argsL).toArray h n0 Q') (hd : decode bytes pc = .ok (.invokevirtual index, 3)) (hpd : parseMethodDescriptor y.desc = some ⟨ps, rt⟩) (hq : pc + 3 = q) (hls : ls.size = maxL) (hstk : stk = argsL.reverse ++ .ref a :: st) (hlen : argsL.length = ps.length)
    (hw : (st.map fun v => v.category).sum = w) (hfr : rm'.frames + 1 ≤ rm.frames) (hlo : w + (maxL' + 11) + rm'.locals ≤ rm.locals) (hk : k + rm'.cells = k') (hn : n + rm'.slots = n') (hk' : k' ≤ rm.cells) (hn' : n' ≤ rm.slots)
    (hr : ∀ v h', Q' v h' → Go W n0 Q h' k' n' q ls (v.toList ++ st)) (hy : y.cls ≠ "java/lang/invoke/MethodHandle" ∧ y.cls ≠ "java/lang/invoke/VarHandle" := by decide) : Go W n0 Q h k n pc ls stk := by
  subst hstk hq hk hn hw
  intro T L i j X ha hb' N eT
  have e1 := C.ro
  obtain ⟨cell, hcell, hobj⟩ := E.cell
  rw [← eT] at hcell
  obtain ⟨mk, methM, hnamed, hmethM, hstM, habM⟩ := Cond.instanceMethod_spec (mvT (args := #[]) C.z wst)
  obtain ⟨methM', cM, hmethM', -, -, -, -, -, -, hsigM⟩ := Cond.code_spec hnamed (mvT (args := #[]) C.z wc)
  cases hmethM.symm.trans hmethM'
  obtain ⟨c2, r2, m2, -, -, q3, -, kP, hkP, hkPi⟩ := Cond.selects_spec (mvT (args := #[]) C.z wse)
  have ec : m2.cls = mk.cls := by
    have u1 := findClass_of_methodNamed q3
    have u2 := findClass_of_methodNamed hnamed
    rw [hzz] at u1
    exact Option.some.inj (u1.symm.trans u2)
  rw [ec] at hkP
  have hsel := selectMethod_private (p := W.e.platform) (c := cell.cls) hmethM (Cond.privateMethod_at (mvP C.z wpr (args := #[])) mk methM hnamed hmethM)
  obtain ⟨vm₁, X₁, hst⟩ := X.invokevirtual C.x C.ow (mvT C.z wl) hnamed hmethM hstM hkP hkPi hy (a := a) (cell := cell) hcell hobj hsel hmethM habM hkP hkPi (g := mkF W.m pc ls (argsL.reverse ++ .ref a :: st)) rfl (argsL := argsL) (rest := st) (lenOf hpd hlen _ hsigM) rfl (hb C.b hd)
  obtain ⟨v, ⟨T2, L2, k2, n2⟩, X2, ⟨Lc, ⟨N2, hQ2⟩, l2, y2, z2⟩, sp⟩ := backOf (len := 3) (W := (st.map fun v => v.category).sum) (Q := fun v h L => Fr n0 L ∧ Q' v h) M C.z wc wi (by rw [e1]; exact hfr) (by rw [e1]; exact hlo) W.m W.meth W.c ⟨T.setVm vm₁, L, i, j⟩ (mkF W.m pc ls st) (.invokevirtual index) mk (.ref a :: argsL).toArray X₁ rfl (by rw [C.ml]; exact hls) (hb C.b hd) (by show 2 * 0 + (st.map fun v => v.category).sum ≤ (st.map fun v => v.category).sum; omega) (X₁.named hnamed) ⟨rfl, eT, by rw [e1]; show i + _ ≤ _; omega, by rw [e1]; show j + _ ≤ _; omega⟩
  dsimp only [Pt.U, Pt.locs, Pt.cells, Pt.slots] at X2 l2 y2 z2 sp hQ2
  subst l2 y2 z2
  obtain ⟨s₂, o, hs, r⟩ := hr v _ hQ2 T2 _ _ _ X2 (by omega) (by omega) (Fr.app N N2) rfl
  exact ⟨s₂, o, (hst _ fun acts => by rw [doInvoke_state]; exact Steps.refl _).trans (sp.trans hs), r⟩
/-! the heap -/
theorem Go.initO (C : Cx Z W rm own nm bytes maxL ret) {index w : Nat} {a : Addr} (w1 : (Jvm.Cond.methodLink own index Lib.objectInit).before a0 Z = true) (w2 : (Jvm.Cond.instanceMethod Lib.objectInit).before a0 Z = true) (w3 : (Jvm.Cond.code Lib.objectInit ⟨#[0xb1]⟩ 1 none).before a0 Z = true)
    (hd : decode bytes pc = .ok (.invokespecial index, 3)) (hq : pc + 3 = q) (hls : ls.size = maxL) (hw : (st.map fun v => v.category).sum = w) (hfr : 1 ≤ rm.frames) (hlo : w + 12 ≤ rm.locals) (hr : Go W n0 Q h k n q ls st) : Go W n0 Q h k n pc ls (.ref a :: st) := by
  subst hq hw
  exact Go.stepT (fun T L i j X eT => Jvm.RoadKit.initO X C.x C.z C.ow w1 w2 w3 eT (g := mkF W.m pc ls (.ref a :: st)) rfl (by rw [C.ml]; exact hls) rfl (hb C.b hd) (by rw [C.ro]; exact hfr) (W := (st.map fun v => v.category).sum) (by show 2 * 0 + (st.map fun v => v.category).sum ≤ (st.map fun v => v.category).sum; omega) (by rw [C.ro]; exact hlo)) hr
theorem Go.getF (C : Cx Z W rm own nm bytes maxL ret) {R0 O f d host : String} {index : Nat} {a : Addr} {v : Value} (w : (Jvm.Cond.fieldLink own index R0 f d).before a0 Z = true ∨ (Jvm.Cond.fieldLinkNest own index R0 f d host).before a0 Z = true) (via : Via Z R0 O f d) (F : Fld Z h a O f d v)
    (hd : decode bytes pc = .ok (.getfield index, 3)) (hq : pc + 3 = q) (hr : Go W n0 Q h k n q ls (v :: st)) : Go W n0 Q h k n pc ls (.ref a :: st) := by
  subst hq
  exact Go.stepT (fun T L i j X eT => Jvm.RoadKit.getF X C.x C.z C.ow w via eT F (g := mkF W.m pc ls (.ref a :: st)) rfl rfl (hb C.b hd)) hr
theorem Go.getS (C : Cx Z W rm own nm bytes maxL ret) {R0 O f d : String} {index : Nat} {v : Value} (w : (Jvm.Cond.fieldLink own index R0 f d).before a0 Z = true) (via : Via Z R0 O f d) (F : Sta Z h O f d v)
    (hd : decode bytes pc = .ok (.getstatic index, 3)) (hq : pc + 3 = q) (hr : Go W n0 Q h k n q ls (v :: st)) : Go W n0 Q h k n pc ls st := by
  subst hq
  exact Go.stepT (fun T L i j X eT => Jvm.RoadKit.getS X C.x C.z (host := "") C.ow w via eT F (g := mkF W.m pc ls st) rfl (hb C.b hd)) hr
theorem Go.putF (C : Cx Z W rm own nm bytes maxL ret) {R0 O f d host K : String} {index kk : Nat} {ty : FieldType} {a : Addr} {v old : Value} (w : (Jvm.Cond.fieldLink own index R0 f d).before a0 Z = true ∨ (Jvm.Cond.fieldLinkNest own index R0 f d host).before a0 Z = true) (via : Via Z R0 O f d) (F : Fld Z h a O f d old) (E : Exa Z h a K)
    (Lw : (Jvm.Cond.lays K O f d).before a0 Z = true ∨ ((Jvm.Cond.laysFinal K O f d).before a0 Z = true ∧ own = O ∧ nm = "<init>")) (wi : (Jvm.Cond.instantiable K kk).before a0 Z = true) (hty : parseFieldDescriptor d = some ty) (hn : narrow ty v = v) (hf : fits ty v = true) (ha : n0 ≤ a)
    (hd : decode bytes pc = .ok (.putfield index, 3)) (hq : pc + 3 = q) (hr : ∀ h', Wr h h' a (Jvm.RoadKit.slotOf Z O f d) v → Go W n0 Q h' k n q ls st) : Go W n0 Q h k n pc ls (v :: .ref a :: st) := by
  subst hq
  intro T L i j X hk hn' N eT
  obtain ⟨T', h', X', e', W', sp⟩ := Jvm.RoadKit.putF X C.x C.z C.ow w via eT F E (Lw.imp id fun z => ⟨z.1, z.2.1, C.na.trans z.2.2⟩) wi hty hn hf (g := mkF W.m pc ls (v :: .ref a :: st)) rfl rfl (hb C.b hd)
  obtain ⟨s₂, o, hs, r⟩ := hr h' W' T' _ _ _ X' hk hn' (Fr.snoc X' N ha) e'
  exact ⟨s₂, o, sp _ hs, r⟩
theorem Go.newO (C : Cx Z W rm own nm bytes maxL ret) {K : String} {index sz k' n' : Nat} (w : (Jvm.Cond.classLink own index K).before a0 Z = true) (wi : (Jvm.Cond.instantiable K sz).before a0 Z = true) (wz : (Jvm.Cond.initialized K).before a0 Z = true)
    (hd : decode bytes pc = .ok (.new index, 3)) (hq : pc + 3 = q) (hk : k + 1 = k') (hn : n + sz = n') (hk' : k' ≤ rm.cells) (hn' : n' ≤ rm.slots)
    (hr : ∀ h' a, a = h.size → Ext h h' → Exa Z h' a K → (∀ {O f d : String} {ty : FieldType}, Laid Z a0 K O f d → parseFieldDescriptor d = some ty → Fld Z h' a O f d (defaultValue ty)) → Go W n0 Q h' k' n' q ls (.ref a :: st)) : Go W n0 Q h k n pc ls st := by
  subst hq hk hn
  intro T L i j X hk0 hn0 N eT
  have e1 := C.ro
  obtain ⟨T', h', X', e', E', A', D', -, sp⟩ := Jvm.RoadKit.newO X C.x C.z C.ow w wi wz eT (g := mkF W.m pc ls st) rfl (hb C.b hd) (by rw [e1]; omega) (by rw [e1]; omega)
  obtain ⟨s₂, o, hs, r⟩ := hr h' _ rfl E' A' D' T' _ _ _ X' (by omega) (by omega) N e'
  exact ⟨s₂, o, sp _ hs, r⟩
theorem Go.newP (C : Cx Z W rm own nm bytes maxL ret) {aty : ArrayType} {z : Int32} {cap k' n' : Nat} (w : (Jvm.Cond.arrayClass (newarray.typeOf aty)).before a0 Z = true) (hz : ¬ z < 0) (hcap : z.toNatClampNeg ≤ cap) (hbig : cap * 8 ≤ 536870912)
    (hd : decode bytes pc = .ok (.newarray aty, 2)) (hq : pc + 2 = q) (hk : k + 1 = k') (hn : n + cap = n') (hk' : k' ≤ rm.cells) (hn' : n' ≤ rm.slots)
    (hr : ∀ h' a cA, a = h.size → Ext h h' → Arv Z h' a cA (newarray.typeOf aty) z [] (defaultValue (newarray.typeOf aty)) → Go W n0 Q h' k' n' q ls (.ref a :: st)) : Go W n0 Q h k n pc ls (.int z :: st) := by
  subst hq hk hn
  intro T L i j X hk0 hn0 N eT
  have e1 := C.ro
  obtain ⟨T', h', cA, X', e', E', A', sp⟩ := Jvm.RoadKit.newP X C.x C.z w eT (g := mkF W.m pc ls (.int z :: st)) rfl (hb C.b hd) rfl hz hcap hbig (by rw [e1]; omega) (by rw [e1]; omega)
  obtain ⟨s₂, o, hs, r⟩ := hr h' _ cA rfl E' (Arv.new A' hz) T' _ _ _ X' (by omega) (by omega) N e'
  exact ⟨s₂, o, sp _ hs, r⟩

/-! arrays: the length n, the values f -/
def Av (Z : State) (h : Heap) (a : Addr) (ty : FieldType) (len : Nat) (f : Nat → Value) : Prop := ∃ c : Cell, Arr Z h a c ty ∧ c.slots.size = len ∧ len < 2 ^ 31 ∧ ∀ i, i < len → c.slots[i]? = some (f i)
def upd {α : Type} (f : Nat → α) (j : Nat) (v : α) : Nat → α := fun i => if i = j then v else f i
theorem upd_eq {α : Type} (f : Nat → α) (j : Nat) (v : α) : upd f j v j = v := if_pos rfl
theorem upd_ne {α : Type} (f : Nat → α) {j i : Nat} (v : α) (e : i ≠ j) : upd f j v i = f i := if_neg e
theorem Av.lt {a : Addr} {ty : FieldType} {len : Nat} {f : Nat → Value} (F : Av Z h a ty len f) : a < h.size := by obtain ⟨c, A, -⟩ := F; exact A.lt
theorem Av.ext {a : Addr} {ty : FieldType} {len : Nat} {f : Nat → Value} {h' : Heap} (F : Av Z h a ty len f) (E : Ext h h') : Av Z h' a ty len f := by obtain ⟨c, A, r⟩ := F; exact ⟨c, A.ext E, r⟩
theorem Av.other {a b : Addr} {ty : FieldType} {len sl : Nat} {v : Value} {f : Nat → Value} {h' : Heap} (F : Av Z h b ty len f) (W : Wr h h' a sl v) (e : b ≠ a) : Av Z h' b ty len f := by obtain ⟨c, A, r⟩ := F; exact ⟨c, A.other W e, r⟩
theorem Av.keep {a : Addr} {ty : FieldType} {len : Nat} {f : Nat → Value} {h' : Heap} {ws : List Addr} (F : Av Z h a ty len f) (K : Keep h h' ws) (e : a ∉ ws) : Av Z h' a ty len f := by obtain ⟨c, A, r⟩ := F; exact ⟨c, ⟨K.2.1 a c A.1 e, A.2⟩, r⟩
theorem Av.same {a : Addr} {ty : FieldType} {len j : Nat} {v : Value} {f : Nat → Value} {h' : Heap} (F : Av Z h a ty len f) (W : Wr h h' a j v) : Av Z h' a ty len (upd f j v) := by
  obtain ⟨c, A, r1, r2, r3⟩ := F
  refine ⟨c.setSlot j v, A.same W, by simp [Cell.setSlot, r1], r2, fun i hi => ?_⟩
  by_cases e : i = j
  · subst e
    rw [upd_eq]
    simp [Cell.setSlot, r1, hi]
  · rw [upd_ne _ _ e, ← r3 i hi]
    exact Array.getElem?_setIfInBounds_ne (Ne.symm e)
def iF (g : Nat → Int32) : Nat → Value := fun i => .int (g i)
def jF (g : Nat → Int64) : Nat → Value := fun i => .long (g i)
theorem upd_iF (g : Nat → Int32) (j : Nat) (x : Int32) : upd (iF g) j (.int x) = iF (upd g j x) := by funext i; by_cases e : i = j <;> simp [upd, iF, e]
theorem upd_jF (g : Nat → Int64) (j : Nat) (x : Int64) : upd (jF g) j (.long x) = jF (upd g j x) := by funext i; by_cases e : i = j <;> simp [upd, jF, e]
theorem Av.sameI {a : Addr} {ty : FieldType} {len j : Nat} {x : Int32} {g : Nat → Int32} {h' : Heap} (F : Av Z h a ty len (iF g)) (W : Wr h h' a j (.int x)) : Av Z h' a ty len (iF (upd g j x)) := upd_iF g j x ▸ F.same W
theorem Av.sameJ {a : Addr} {ty : FieldType} {len j : Nat} {x : Int64} {g : Nat → Int64} {h' : Heap} (F : Av Z h a ty len (jF g)) (W : Wr h h' a j (.long x)) : Av Z h' a ty len (jF (upd g j x)) := upd_jF g j x ▸ F.same W
theorem Av.of {a : Addr} {ty : FieldType} {z : Int32} {cA : ClassId} {d : Value} (F : Arv Z h a cA ty z [] d) : Av Z h a ty z.toNatClampNeg (fun _ => d) := by
  obtain ⟨c, A, -, r1, r2, r3, -⟩ := F
  refine ⟨c, A, r1, ?_, fun i hi => ?_⟩
  · have e1 := z.toInt_lt
    have e2 : z.toNatClampNeg = z.toInt.toNat := rfl
    omega
  · rw [r3 i (by omega)]
    simp
theorem Go.alen (C : Cx Z W rm own nm bytes maxL ret) {a : Addr} {ty : FieldType} {len : Nat} {f : Nat → Value} (F : Av Z h a ty len f) (hd : decode bytes pc = .ok (.arraylength, 1)) (hq : pc + 1 = q)
    (hr : Go W n0 Q h k n q ls (.int len.toInt32 :: st)) : Go W n0 Q h k n pc ls (.ref a :: st) := by
  subst hq
  obtain ⟨c, A, r1, r2, r3⟩ := F
  subst r1
  exact Go.stepX (fun T L i j tg X eT kk => X.arraylength C.x (by rw [eT]; exact A.1) (State.isArrayOf_alike C.z.alike A.2.1) (g := mkF W.m pc ls (.ref a :: st)) rfl rfl (hb C.b hd) _ kk) hr
theorem Go.alenZ (C : Cx Z W rm own nm bytes maxL ret) {a : Addr} {ty : FieldType} {z : Int32} {f : Nat → Value} (F : Av Z h a ty z.toNatClampNeg f) (hz : ¬ z < 0) (hd : decode bytes pc = .ok (.arraylength, 1)) (hq : pc + 1 = q)
    (hr : Go W n0 Q h k n q ls (.int z :: st)) : Go W n0 Q h k n pc ls (.ref a :: st) :=
  Go.alen C F hd hq (by rw [(Jvm.RoadKit.back32 hz).1]; exact hr)

theorem Go.iaload (C : Cx Z W rm own nm bytes maxL ret) {a : Addr} {len : Nat} {f : Nat → Value} {j : Int32} {v : Value} (F : Av Z h a .int len f) (i : Nat) (hji : j.toNatClampNeg = i) (hj : ¬ j < 0) (hi : i < len) (hv : f i = v) (hd : decode bytes pc = .ok (.iaload, 1)) (hq : pc + 1 = q)
    (hr : Go W n0 Q h k n q ls (v :: st)) : Go W n0 Q h k n pc ls (.int j :: .ref a :: st) := by
  subst hq hji hv
  obtain ⟨c, A, r1, r2, r3⟩ := F
  exact Go.stepX (fun T L i' j' tg X eT kk => X.iaload C.x (j := j) (by rw [eT]; exact A.1) (State.isArrayOf_alike C.z.alike A.2.1) A.2.2 (fun z => z.elim hj (fun y => absurd (Nat.lt_of_lt_of_le hi (r1 ▸ y)) (Nat.lt_irrefl _))) (r3 _ hi) (g := mkF W.m pc ls (.int j :: .ref a :: st)) rfl rfl (hb C.b hd) _ kk) hr
theorem Go.laload (C : Cx Z W rm own nm bytes maxL ret) {a : Addr} {len : Nat} {f : Nat → Value} {j : Int32} {v : Value} (F : Av Z h a .long len f) (i : Nat) (hji : j.toNatClampNeg = i) (hj : ¬ j < 0) (hi : i < len) (hv : f i = v) (hd : decode bytes pc = .ok (.laload, 1)) (hq : pc + 1 = q)
    (hr : Go W n0 Q h k n q ls (v :: st)) : Go W n0 Q h k n pc ls (.int j :: .ref a :: st) := by
  subst hq hji hv
  obtain ⟨c, A, r1, r2, r3⟩ := F
  exact Go.stepX (fun T L i' j' tg X eT kk => X.laload C.x (j := j) (by rw [eT]; exact A.1) (State.isArrayOf_alike C.z.alike A.2.1) A.2.2 (fun z => z.elim hj (fun y => absurd (Nat.lt_of_lt_of_le hi (r1 ▸ y)) (Nat.lt_irrefl _))) (r3 _ hi) (g := mkF W.m pc ls (.int j :: .ref a :: st)) rfl rfl (hb C.b hd) _ kk) hr
theorem Go.caload (C : Cx Z W rm own nm bytes maxL ret) {a : Addr} {len : Nat} {f : Nat → Value} {j : Int32} {v : Value} (F : Av Z h a .char len f) (i : Nat) (hji : j.toNatClampNeg = i) (hj : ¬ j < 0) (hi : i < len) (hv : f i = v) (hd : decode bytes pc = .ok (.caload, 1)) (hq : pc + 1 = q)
    (hr : Go W n0 Q h k n q ls (v :: st)) : Go W n0 Q h k n pc ls (.int j :: .ref a :: st) := by
  subst hq hji hv
  obtain ⟨c, A, r1, r2, r3⟩ := F
  exact Go.stepX (fun T L i' j' tg X eT kk => X.caload C.x (j := j) (by rw [eT]; exact A.1) (State.isArrayOf_alike C.z.alike A.2.1) A.2.2 (fun z => z.elim hj (fun y => absurd (Nat.lt_of_lt_of_le hi (r1 ▸ y)) (Nat.lt_irrefl _))) (r3 _ hi) (g := mkF W.m pc ls (.int j :: .ref a :: st)) rfl rfl (hb C.b hd) _ kk) hr
theorem Go.baload (C : Cx Z W rm own nm bytes maxL ret) {a : Addr} {len : Nat} {f : Nat → Value} {j : Int32} {v : Value} (F : Av Z h a .byte len f) (i : Nat) (hji : j.toNatClampNeg = i) (hj : ¬ j < 0) (hi : i < len) (hv : f i = v) (hd : decode bytes pc = .ok (.baload, 1)) (hq : pc + 1 = q)
    (hr : Go W n0 Q h k n q ls (v :: st)) : Go W n0 Q h k n pc ls (.int j :: .ref a :: st) := by
  subst hq hji hv
  obtain ⟨c, A, r1, r2, r3⟩ := F
  exact Go.stepX (fun T L i' j' tg X eT kk => X.baloadBytes C.x (j := j) (by rw [eT]; exact A.1) (State.isArrayOf_alike C.z.alike A.2.1) A.2.2 (fun z => z.elim hj (fun y => absurd (Nat.lt_of_lt_of_le hi (r1 ▸ y)) (Nat.lt_irrefl _))) (r3 _ hi) (g := mkF W.m pc ls (.int j :: .ref a :: st)) rfl rfl (hb C.b hd) _ kk) hr
theorem Go.zaload (C : Cx Z W rm own nm bytes maxL ret) {a : Addr} {len : Nat} {f : Nat → Value} {j : Int32} {v : Value} (F : Av Z h a .boolean len f) (i : Nat) (hji : j.toNatClampNeg = i) (hj : ¬ j < 0) (hi : i < len) (hv : f i = v) (hd : decode bytes pc = .ok (.baload, 1)) (hq : pc + 1 = q)
    (hr : Go W n0 Q h k n q ls (v :: st)) : Go W n0 Q h k n pc ls (.int j :: .ref a :: st) := by
  subst hq hji hv
  obtain ⟨c, A, r1, r2, r3⟩ := F
  exact Go.stepX (fun T L i' j' tg X eT kk => X.baloadBooleans C.x (j := j) (by rw [eT]; exact A.1) (State.isArrayOf_alike C.z.alike A.2.1) A.2.2 (fun z => z.elim hj (fun y => absurd (Nat.lt_of_lt_of_le hi (r1 ▸ y)) (Nat.lt_irrefl _))) (r3 _ hi) (g := mkF W.m pc ls (.int j :: .ref a :: st)) rfl rfl (hb C.b hd) _ kk) hr
theorem Go.iastore (C : Cx Z W rm own nm bytes maxL ret) {a : Addr} {len : Nat} {f : Nat → Value} {j : Int32} {x : Int32} (F : Av Z h a .int len f) (i : Nat) (hji : j.toNatClampNeg = i) (hj : ¬ j < 0) (hi : i < len) (ha : n0 ≤ a) (hd : decode bytes pc = .ok (.iastore, 1)) (hq : pc + 1 = q)
    (hr : ∀ h', Wr h h' a i (.int x) → Go W n0 Q h' k n q ls st) : Go W n0 Q h k n pc ls (.int x :: .int j :: .ref a :: st) := by
  subst hq hji
  obtain ⟨c, A, r1, r2, r3⟩ := F
  intro T L i' j' X hk hn N eT
  obtain ⟨T', h', X', e', W', sp⟩ := Jvm.RoadKit.stI X C.x C.z eT A (j := j) (fun z => z.elim hj (fun y => absurd (Nat.lt_of_lt_of_le hi (r1 ▸ y)) (Nat.lt_irrefl _))) (g := mkF W.m pc ls (.int x :: .int j :: .ref a :: st)) rfl rfl (hb C.b hd)
  obtain ⟨s₂, o, hs, r⟩ := hr h' W' T' _ _ _ X' hk hn (Fr.snoc X' N ha) e'
  exact ⟨s₂, o, sp _ hs, r⟩
theorem Go.lastore (C : Cx Z W rm own nm bytes maxL ret) {a : Addr} {len : Nat} {f : Nat → Value} {j : Int32} {x : Int64} (F : Av Z h a .long len f) (i : Nat) (hji : j.toNatClampNeg = i) (hj : ¬ j < 0) (hi : i < len) (ha : n0 ≤ a) (hd : decode bytes pc = .ok (.lastore, 1)) (hq : pc + 1 = q)
    (hr : ∀ h', Wr h h' a i (.long x) → Go W n0 Q h' k n q ls st) : Go W n0 Q h k n pc ls (.long x :: .int j :: .ref a :: st) := by
  subst hq hji
  obtain ⟨c, A, r1, r2, r3⟩ := F
  intro T L i' j' X hk hn N eT
  obtain ⟨T', h', X', e', W', sp⟩ := Jvm.RoadKit.stJ X C.x C.z eT A (j := j) (fun z => z.elim hj (fun y => absurd (Nat.lt_of_lt_of_le hi (r1 ▸ y)) (Nat.lt_irrefl _))) (g := mkF W.m pc ls (.long x :: .int j :: .ref a :: st)) rfl rfl (hb C.b hd)
  obtain ⟨s₂, o, hs, r⟩ := hr h' W' T' _ _ _ X' hk hn (Fr.snoc X' N ha) e'
  exact ⟨s₂, o, sp _ hs, r⟩
theorem Go.castore (C : Cx Z W rm own nm bytes maxL ret) {a : Addr} {len : Nat} {f : Nat → Value} {j : Int32} {x : Int32} (F : Av Z h a .char len f) (i : Nat) (hji : j.toNatClampNeg = i) (hj : ¬ j < 0) (hi : i < len) (ha : n0 ≤ a) (hd : decode bytes pc = .ok (.castore, 1)) (hq : pc + 1 = q)
    (hr : ∀ h', Wr h h' a i (.int (nar .char x)) → Go W n0 Q h' k n q ls st) : Go W n0 Q h k n pc ls (.int x :: .int j :: .ref a :: st) := by
  subst hq hji
  obtain ⟨c, A, r1, r2, r3⟩ := F
  intro T L i' j' X hk hn N eT
  obtain ⟨T', h', X', e', W', sp⟩ := Jvm.RoadKit.stC X C.x C.z eT A (j := j) (fun z => z.elim hj (fun y => absurd (Nat.lt_of_lt_of_le hi (r1 ▸ y)) (Nat.lt_irrefl _))) (g := mkF W.m pc ls (.int x :: .int j :: .ref a :: st)) rfl rfl (hb C.b hd)
  obtain ⟨s₂, o, hs, r⟩ := hr h' W' T' _ _ _ X' hk hn (Fr.snoc X' N ha) e'
  exact ⟨s₂, o, sp _ hs, r⟩
theorem Go.bastore (C : Cx Z W rm own nm bytes maxL ret) {a : Addr} {len : Nat} {f : Nat → Value} {j : Int32} {x : Int32} (F : Av Z h a .byte len f) (i : Nat) (hji : j.toNatClampNeg = i) (hj : ¬ j < 0) (hi : i < len) (ha : n0 ≤ a) (hd : decode bytes pc = .ok (.bastore, 1)) (hq : pc + 1 = q)
    (hr : ∀ h', Wr h h' a i (.int (nar .byte x)) → Go W n0 Q h' k n q ls st) : Go W n0 Q h k n pc ls (.int x :: .int j :: .ref a :: st) := by
  subst hq hji
  obtain ⟨c, A, r1, r2, r3⟩ := F
  intro T L i' j' X hk hn N eT
  obtain ⟨T', h', X', e', W', sp⟩ := Jvm.RoadKit.stB X C.x C.z eT A (j := j) (fun z => z.elim hj (fun y => absurd (Nat.lt_of_lt_of_le hi (r1 ▸ y)) (Nat.lt_irrefl _))) (g := mkF W.m pc ls (.int x :: .int j :: .ref a :: st)) rfl rfl (hb C.b hd)
  obtain ⟨s₂, o, hs, r⟩ := hr h' W' T' _ _ _ X' hk hn (Fr.snoc X' N ha) e'
  exact ⟨s₂, o, sp _ hs, r⟩
theorem Go.zastore (C : Cx Z W rm own nm bytes maxL ret) {a : Addr} {len : Nat} {f : Nat → Value} {j : Int32} {x : Int32} (F : Av Z h a .boolean len f) (i : Nat) (hji : j.toNatClampNeg = i) (hj : ¬ j < 0) (hi : i < len) (ha : n0 ≤ a) (hd : decode bytes pc = .ok (.bastore, 1)) (hq : pc + 1 = q)
    (hr : ∀ h', Wr h h' a i (.int (nar .boolean x)) → Go W n0 Q h' k n q ls st) : Go W n0 Q h k n pc ls (.int x :: .int j :: .ref a :: st) := by
  subst hq hji
  obtain ⟨c, A, r1, r2, r3⟩ := F
  intro T L i' j' X hk hn N eT
  obtain ⟨T', h', X', e', W', sp⟩ := Jvm.RoadKit.stZ X C.x C.z eT A (j := j) (fun z => z.elim hj (fun y => absurd (Nat.lt_of_lt_of_le hi (r1 ▸ y)) (Nat.lt_irrefl _))) (g := mkF W.m pc ls (.int x :: .int j :: .ref a :: st)) rfl rfl (hb C.b hd)
  obtain ⟨s₂, o, hs, r⟩ := hr h' W' T' _ _ _ X' hk hn (Fr.snoc X' N ha) e'
  exact ⟨s₂, o, sp _ hs, r⟩
end Gos

theorem d6_0 : decode jdk_30_method_1_code 0 = .ok (.aload_n 0, 1) := by decide +kernel
theorem d6_1 : decode jdk_30_method_1_code 1 = .ok (.invokespecial 1, 3) := by decide +kernel
theorem d6_4 : decode jdk_30_method_1_code 4 = .ok (.return_, 1) := by decide +kernel
theorem ef_6 (m : MethodId) (a : Addr) : entryFrame m #[(.ref a)] 1 = mkF m 0 #[.val (.ref a)] [] := by first | (simp [entryFrame, mkF, argsToLocals, Value.category]; done) | rfl
theorem pn_java_lang_Record : plainName "java/lang/Record" = true := by first | (simp [plainName, overriddenIn]; done) | decide +kernel
theorem d3_0 : decode jdk_22_method_1_code 0 = .ok (.aload_n 0, 1) := by decide +kernel
theorem d3_1 : decode jdk_22_method_1_code 1 = .ok (.invokespecial 1, 3) := by decide +kernel
theorem d3_4 : decode jdk_22_method_1_code 4 = .ok (.return_, 1) := by decide +kernel
theorem ef_3 (m : MethodId) (a : Addr) : entryFrame m #[(.ref a)] 1 = mkF m 0 #[.val (.ref a)] [] := by first | (simp [entryFrame, mkF, argsToLocals, Value.category]; done) | rfl
theorem pn_java_util_AbstractCollection : plainName "java/util/AbstractCollection" = true := by first | (simp [plainName, overriddenIn]; done) | decide +kernel
theorem d2_0 : decode jdk_39_method_1_code 0 = .ok (.aload_n 0, 1) := by decide +kernel
theorem d2_1 : decode jdk_39_method_1_code 1 = .ok (.invokespecial 1, 3) := by decide +kernel
theorem pd__40_41V : parseMethodDescriptor "()V" = some ⟨[], none⟩ := by decide +kernel
theorem d2_4 : decode jdk_39_method_1_code 4 = .ok (.aload_n 0, 1) := by decide +kernel
theorem d2_5 : decode jdk_39_method_1_code 5 = .ok (.iconst 0, 1) := by decide +kernel
theorem d2_6 : decode jdk_39_method_1_code 6 = .ok (.putfield 7, 3) := by decide +kernel
theorem d2_9 : decode jdk_39_method_1_code 9 = .ok (.return_, 1) := by decide +kernel
theorem ef_2 (m : MethodId) (a : Addr) : entryFrame m #[(.ref a)] 1 = mkF m 0 #[.val (.ref a)] [] := by first | (simp [entryFrame, mkF, argsToLocals, Value.category]; done) | rfl
theorem pn_java_util_AbstractList : plainName "java/util/AbstractList" = true := by first | (simp [plainName, overriddenIn]; done) | decide +kernel
theorem d1_0 : decode jdk_38_method_2_code 0 = .ok (.aload_n 0, 1) := by decide +kernel
theorem d1_1 : decode jdk_38_method_2_code 1 = .ok (.invokespecial 1, 3) := by decide +kernel
theorem d1_4 : decode jdk_38_method_2_code 4 = .ok (.aload_n 0, 1) := by decide +kernel
theorem d1_5 : decode jdk_38_method_2_code 5 = .ok (.getstatic 39, 3) := by decide +kernel
theorem d1_8 : decode jdk_38_method_2_code 8 = .ok (.putfield 9, 3) := by decide +kernel
theorem d1_11 : decode jdk_38_method_2_code 11 = .ok (.return_, 1) := by decide +kernel
theorem ef_1 (m : MethodId) (a : Addr) : entryFrame m #[(.ref a)] 1 = mkF m 0 #[.val (.ref a)] [] := by first | (simp [entryFrame, mkF, argsToLocals, Value.category]; done) | rfl
theorem pn_java_util_ArrayList : plainName "java/util/ArrayList" = true := by first | (simp [plainName, overriddenIn]; done) | decide +kernel
theorem d5_0 : decode prog_43_method_1_code 0 = .ok (.aload_n 0, 1) := by decide +kernel
theorem d5_1 : decode prog_43_method_1_code 1 = .ok (.invokespecial 1, 3) := by decide +kernel
theorem d5_4 : decode prog_43_method_1_code 4 = .ok (.aload_n 0, 1) := by decide +kernel
theorem d5_5 : decode prog_43_method_1_code 5 = .ok (.aload_n 1, 1) := by decide +kernel
theorem d5_6 : decode prog_43_method_1_code 6 = .ok (.putfield 7, 3) := by decide +kernel
theorem d5_9 : decode prog_43_method_1_code 9 = .ok (.aload_n 0, 1) := by decide +kernel
theorem d5_10 : decode prog_43_method_1_code 10 = .ok (.aload_n 2, 1) := by decide +kernel
theorem d5_11 : decode prog_43_method_1_code 11 = .ok (.putfield 13, 3) := by decide +kernel
theorem d5_14 : decode prog_43_method_1_code 14 = .ok (.aload_n 0, 1) := by decide +kernel
theorem d5_15 : decode prog_43_method_1_code 15 = .ok (.lload_n 3, 1) := by decide +kernel
theorem d5_16 : decode prog_43_method_1_code 16 = .ok (.putfield 16, 3) := by decide +kernel
theorem d5_19 : decode prog_43_method_1_code 19 = .ok (.aload_n 0, 1) := by decide +kernel
theorem d5_20 : decode prog_43_method_1_code 20 = .ok (.lload 5, 2) := by decide +kernel
theorem d5_22 : decode prog_43_method_1_code 22 = .ok (.putfield 20, 3) := by decide +kernel
theorem d5_25 : decode prog_43_method_1_code 25 = .ok (.aload_n 0, 1) := by decide +kernel
theorem d5_26 : decode prog_43_method_1_code 26 = .ok (.lload 7, 2) := by decide +kernel
theorem d5_28 : decode prog_43_method_1_code 28 = .ok (.putfield 23, 3) := by decide +kernel
theorem d5_31 : decode prog_43_method_1_code 31 = .ok (.return_, 1) := by decide +kernel
theorem ef_5 (m : MethodId) (a : Addr) (x : Addr) (y : Addr) (q1 : Int64) (q2 : Int64) (q3 : Int64) : entryFrame m #[(.ref a), (.ref x), (.ref y), (.long q1), (.long q2), (.long q3)] 9 = mkF m 0 #[.val (.ref a), .val (.ref x), .val (.ref y), .val (.long q1), .second, .val (.long q2), .second, .val (.long q3), .second] [] := by first | (simp [entryFrame, mkF, argsToLocals, Value.category]; done) | rfl
theorem pn_com_example_catrac_catrac_sql_Result : plainName "com/example/catrac/catrac/sql/Result" = true := by first | (simp [plainName, overriddenIn]; done) | decide +kernel
theorem ef_5_1 (m : MethodId) (a : Addr) (y : Addr) (q1 : Int64) (q2 : Int64) (q3 : Int64) : entryFrame m #[(.ref a), .null, (.ref y), (.long q1), (.long q2), (.long q3)] 9 = mkF m 0 #[.val (.ref a), .val .null, .val (.ref y), .val (.long q1), .second, .val (.long q2), .second, .val (.long q3), .second] [] := by first | (simp [entryFrame, mkF, argsToLocals, Value.category]; done) | rfl
theorem ef_5_2 (m : MethodId) (a : Addr) (x : Addr) (q1 : Int64) (q2 : Int64) (q3 : Int64) : entryFrame m #[(.ref a), (.ref x), .null, (.long q1), (.long q2), (.long q3)] 9 = mkF m 0 #[.val (.ref a), .val (.ref x), .val .null, .val (.long q1), .second, .val (.long q2), .second, .val (.long q3), .second] [] := by first | (simp [entryFrame, mkF, argsToLocals, Value.category]; done) | rfl
theorem ef_5_1_2 (m : MethodId) (a : Addr) (q1 : Int64) (q2 : Int64) (q3 : Int64) : entryFrame m #[(.ref a), .null, .null, (.long q1), (.long q2), (.long q3)] 9 = mkF m 0 #[.val (.ref a), .val .null, .val .null, .val (.long q1), .second, .val (.long q2), .second, .val (.long q3), .second] [] := by first | (simp [entryFrame, mkF, argsToLocals, Value.category]; done) | rfl
theorem d8_0 : decode prog_43_method_3_code 0 = .ok (.new 8, 3) := by decide +kernel
theorem d8_3 : decode prog_43_method_3_code 3 = .ok (.dup, 1) := by decide +kernel
theorem d8_4 : decode prog_43_method_3_code 4 = .ok (.aload_n 0, 1) := by decide +kernel
theorem d8_5 : decode prog_43_method_3_code 5 = .ok (.aload_n 1, 1) := by decide +kernel
theorem d8_6 : decode prog_43_method_3_code 6 = .ok (.lconst 0, 1) := by decide +kernel
theorem d8_7 : decode prog_43_method_3_code 7 = .ok (.lconst 0, 1) := by decide +kernel
theorem d8_8 : decode prog_43_method_3_code 8 = .ok (.lconst 0, 1) := by decide +kernel
theorem d8_9 : decode prog_43_method_3_code 9 = .ok (.invokespecial 30, 3) := by decide +kernel
theorem pd__40Ljava_47util_47List_59Ljava_47util_47List_59JJJ_41V : parseMethodDescriptor "(Ljava/util/List;Ljava/util/List;JJJ)V" = some ⟨[(.object "java/util/List"), (.object "java/util/List"), .long, .long, .long], none⟩ := by decide +kernel
theorem d8_12 : decode prog_43_method_3_code 12 = .ok (.areturn, 1) := by decide +kernel
theorem ef_8 (m : MethodId) (x : Addr) (y : Addr) : entryFrame m #[(.ref x), (.ref y)] 2 = mkF m 0 #[.val (.ref x), .val (.ref y)] [] := by first | (simp [entryFrame, mkF, argsToLocals, Value.category]; done) | rfl
theorem d9_0 : decode prog_43_method_4_code 0 = .ok (.new 8, 3) := by decide +kernel
theorem d9_3 : decode prog_43_method_4_code 3 = .ok (.dup, 1) := by decide +kernel
theorem d9_4 : decode prog_43_method_4_code 4 = .ok (.aconst_null, 1) := by decide +kernel
theorem d9_5 : decode prog_43_method_4_code 5 = .ok (.aconst_null, 1) := by decide +kernel
theorem d9_6 : decode prog_43_method_4_code 6 = .ok (.lload_n 0, 1) := by decide +kernel
theorem d9_7 : decode prog_43_method_4_code 7 = .ok (.lload_n 2, 1) := by decide +kernel
theorem d9_8 : decode prog_43_method_4_code 8 = .ok (.lconst 0, 1) := by decide +kernel
theorem d9_9 : decode prog_43_method_4_code 9 = .ok (.invokespecial 30, 3) := by decide +kernel
theorem d9_12 : decode prog_43_method_4_code 12 = .ok (.areturn, 1) := by decide +kernel
theorem ef_9 (m : MethodId) (q1 : Int64) (q2 : Int64) : entryFrame m #[(.long q1), (.long q2)] 4 = mkF m 0 #[.val (.long q1), .second, .val (.long q2), .second] [] := by first | (simp [entryFrame, mkF, argsToLocals, Value.category]; done) | rfl
theorem d10_0 : decode prog_43_method_5_code 0 = .ok (.new 8, 3) := by decide +kernel
theorem d10_3 : decode prog_43_method_5_code 3 = .ok (.dup, 1) := by decide +kernel
theorem d10_4 : decode prog_43_method_5_code 4 = .ok (.aconst_null, 1) := by decide +kernel
theorem d10_5 : decode prog_43_method_5_code 5 = .ok (.aconst_null, 1) := by decide +kernel
theorem d10_6 : decode prog_43_method_5_code 6 = .ok (.lload_n 0, 1) := by decide +kernel
theorem d10_7 : decode prog_43_method_5_code 7 = .ok (.lload_n 0, 1) := by decide +kernel
theorem d10_8 : decode prog_43_method_5_code 8 = .ok (.lload_n 2, 1) := by decide +kernel
theorem d10_9 : decode prog_43_method_5_code 9 = .ok (.invokespecial 30, 3) := by decide +kernel
theorem d10_12 : decode prog_43_method_5_code 12 = .ok (.areturn, 1) := by decide +kernel
theorem ef_10 (m : MethodId) (q1 : Int64) (q2 : Int64) : entryFrame m #[(.long q1), (.long q2)] 4 = mkF m 0 #[.val (.long q1), .second, .val (.long q2), .second] [] := by first | (simp [entryFrame, mkF, argsToLocals, Value.category]; done) | rfl
theorem d11_0 : decode prog_43_method_2_code 0 = .ok (.getstatic 26, 3) := by decide +kernel
theorem d11_3 : decode prog_43_method_2_code 3 = .ok (.areturn, 1) := by decide +kernel
theorem ef_11 (m : MethodId)  : entryFrame m #[] 0 = mkF m 0 #[] [] := by first | (simp [entryFrame, mkF, argsToLocals, Value.category]; done) | rfl
theorem d7_0 : decode prog_43_method_6_code 0 = .ok (.aload_n 0, 1) := by decide +kernel
theorem d7_1 : decode prog_43_method_6_code 1 = .ok (.getfield 7, 3) := by decide +kernel
theorem d7_4 : decode prog_43_method_6_code 4 = .ok (.ifnull 7, 3) := by decide +kernel
theorem d7_7 : decode prog_43_method_6_code 7 = .ok (.iconst 1, 1) := by decide +kernel
theorem d7_8 : decode prog_43_method_6_code 8 = .ok (.goto 4, 3) := by decide +kernel
theorem d7_12 : decode prog_43_method_6_code 12 = .ok (.ireturn, 1) := by decide +kernel
theorem ef_7 (m : MethodId) (a : Addr) : entryFrame m #[(.ref a)] 1 = mkF m 0 #[.val (.ref a)] [] := by first | (simp [entryFrame, mkF, argsToLocals, Value.category]; done) | rfl
theorem d7_11 : decode prog_43_method_6_code 11 = .ok (.iconst 0, 1) := by decide +kernel
theorem ef_0 (m : MethodId) (p0 : Int32) (p1 : Int64) (p2 : Int64) (p3 : Int64) : entryFrame m #[(.int p0), (.long p1), (.long p2), (.long p3)] maxLocals = mkF m 0 #[.val (.int p0), .val (.long p1), .second, .val (.long p2), .second, .val (.long p3), .second, .unset, .unset, .unset, .unset, .unset, .unset, .unset, .unset] [] := by first | (simp [entryFrame, mkF, argsToLocals, Value.category, maxLocals]; done) | rfl
theorem pn_com_example_catrac_catrac_sql_ResultHasRowsPinLaw : plainName "com/example/catrac/catrac/sql/ResultHasRowsPinLaw" = true := by first | (simp [plainName, overriddenIn]; done) | decide +kernel
theorem pd__40_41Z : parseMethodDescriptor "()Z" = some ⟨[], some .boolean⟩ := by decide +kernel
theorem pd__40Ljava_47util_47List_59Ljava_47util_47List_59_41Lcom_47example_47catrac_47catrac_47sql_47Result_59 : parseMethodDescriptor "(Ljava/util/List;Ljava/util/List;)Lcom/example/catrac/catrac/sql/Result;" = some ⟨[(.object "java/util/List"), (.object "java/util/List")], some (.object "com/example/catrac/catrac/sql/Result")⟩ := by decide +kernel
theorem pd__40JJ_41Lcom_47example_47catrac_47catrac_47sql_47Result_59 : parseMethodDescriptor "(JJ)Lcom/example/catrac/catrac/sql/Result;" = some ⟨[.long, .long], some (.object "com/example/catrac/catrac/sql/Result")⟩ := by decide +kernel
theorem pd__40_41Lcom_47example_47catrac_47catrac_47sql_47Result_59 : parseMethodDescriptor "()Lcom/example/catrac/catrac/sql/Result;" = some ⟨[], some (.object "com/example/catrac/catrac/sql/Result")⟩ := by decide +kernel
/-! statics and what the case says of them -/
theorem own_sta {s : State} {args : Array Value} {C n d K : String} (h : (Jvm.Cond.exactly (.static C n d) K).value args s none s [] = some true) (wi : (Jvm.Cond.initialized C).before args s = true) (wl : (Jvm.Cond.laysStatic C n d).before args s = true) : ∃ a, Sta s s.heap C n d (.ref a) ∧ Exa s s.heap a K ∧ (Term.static C n d).eval args s none [] s = some (.ref a) := by
  obtain ⟨a, ev⟩ := exa_v h
  exact ⟨a, Sta.start ev (Or.inr ⟨wi, wl⟩), Exa.start ev h, ev⟩
theorem own_fld {s : State} {args : Array Value} {t : Term} {a : Addr} {C f d : String} {v : Value} (ht : t.eval args s none [] s = some (.ref a)) (hv : (Term.field t C f d).eval args s none [] s = some v) : Fld s s.heap a C f d v := Fld.start ((fld_at ht).symm.trans hv)
theorem own_eqI {s : State} {args : Array Value} {t : Term} {k : Int32} (h : (Jvm.Cond.eq t (.int k)).value args s none s [] = some true) : t.eval args s none [] s = some (.int k) := by
  obtain ⟨x, y, h1, h2, hk, -⟩ := cmp_v (Or.inl h)
  have e2 : (Term.int k).eval args s none [] s = some (.int k) := Term.int_eval k
  rw [e2] at h2
  cases h2
  cases x <;> simp [Kin, Value.isRef] at hk
  rename_i i
  have h3 : (Jvm.Cond.eq t (.int k)).value args s none s [] = some (decide (i = k)) := by simp [Cond.value, h1, e2]
  rw [h3] at h
  rw [h1, of_decide_eq_true (Option.some.inj h)]
theorem own_eqR {s : State} {args : Array Value} {t u : Term} {b : Addr} (h : (Jvm.Cond.eq t u).value args s none s [] = some true) (hu : u.eval args s none [] s = some (.ref b)) : t.eval args s none [] s = some (.ref b) := by
  obtain ⟨x, y, h1, h2, hk, -⟩ := cmp_v (Or.inl h)
  rw [hu] at h2
  cases h2
  have hx : x.isRef = true := by cases x <;> simp [Kin, Value.isRef] at hk ⊢
  rw [eq_R h1 hu hx rfl] at h
  rw [h1, of_decide_eq_true (Option.some.inj h)]
theorem own_or {s : State} {args : Array Value} {idx : List Nat} {c d : Jvm.Cond} (h : (Jvm.Cond.or c d).value args s none s idx = some true) (hc : c.value args s none s idx = some false) : d.value args s none s idx = some true := by
  have e : (Jvm.Cond.or c d).value args s none s idx = (match c.value args s none s idx with | some false => d.value args s none s idx | x => x) := rfl
  rw [e, hc] at h
  exact h
theorem own_len {s : State} {args : Array Value} {t : Term} {a : Addr} {cell : Cell} {k : Int32} (ht : t.eval args s none [] s = some (.ref a)) (hc : s.arrayAt? a = some cell) (h : (Term.length t).eval args s none [] s = some (.int k)) : cell.slots.size < 2 ^ 31 ∧ cell.slots.size.toInt32 = k := by
  simp [Term.eval, ht, hc] at h
  exact h
/-- a cell that holds no statics -/
def Pl (h : Heap) (a : Addr) : Prop := ∃ c : Cell, h[a]? = some c ∧ c.vm.isStatics = false
theorem own_plE {Z : State} {h : Heap} {a : Addr} {C : String} (F : Exa Z h a C) : Pl h a := by obtain ⟨c, k, h1, -, -, h2, -⟩ := F; exact ⟨c, h1, h2⟩
theorem own_plA {Z : State} {h : Heap} {a : Addr} {ty : FieldType} {len : Nat} {f : Nat → Value} (F : Av Z h a ty len f) : Pl h a := by obtain ⟨c, A, -⟩ := F; exact ⟨c, A.1, A.plain⟩
theorem own_sta_keep {Z : State} {h h' : Heap} {C n d : String} {v : Value} {ws : List Addr} (F : Sta Z h C n d v) (K : Keep h h' ws) (q : ∀ a ∈ ws, Pl h a) : Sta Z h' C n d v := by
  obtain ⟨cf, i, k, f, st, cell, h1, h2, h3, h4, h5, h6, h7⟩ := F
  refine ⟨cf, i, k, f, st, cell, h1, h2, h3, h4, K.2.1 st cell h5 (fun hm => ?_), h6, h7⟩
  obtain ⟨c, e1, e2⟩ := q st hm
  rw [h5] at e1
  cases e1
  rw [h6] at e2
  cases e2

set_option maxRecDepth 65536 in
theorem c_record (l : Launch) (Z : State) (a0 : Array Value) (hw : ∀ d ∈ tables_1, d.before a0 Z = true) (a : Addr) (h0 : Heap) (n0 : Nat)  (Z0 : n0 ≤ h0.size)  : Met1 l Z (⟨"java/lang/Record", "<init>", "()V"⟩ : MethodName) jdk_30_method_1_code 1 none [] ({ frames := 1, cells := 0, slots := 0, locals := 12 } : Room) #[(.ref a)] h0 n0 (fun v h => v = none ∧ h = h0) := by
  refine met_of_go (plainFor_of_name pn_java_lang_Record) (fun m => ef_6 m a) ?_
  intro W hl C
  subst hl
  refine Go.aloadN C d6_0 (q := 1) rfl rfl rfl ?_
  refine Go.initO C (hw _ (List.mem_of_getElem? (i := 37) rfl)) (hw _ (List.mem_of_getElem? (i := 19) rfl)) (hw _ (List.mem_of_getElem? (i := 20) rfl)) d6_1 (q := 4) rfl rfl (w := 0) rfl (by decide) (by decide) ?_
  exact Go.retV C d6_4 (by decide) (by decide) ⟨rfl, rfl⟩
set_option maxRecDepth 65536 in
theorem c_absc (l : Launch) (Z : State) (a0 : Array Value) (hw : ∀ d ∈ tables_1, d.before a0 Z = true) (a : Addr) (h0 : Heap) (n0 : Nat)  (Z0 : n0 ≤ h0.size)  : Met1 l Z (⟨"java/util/AbstractCollection", "<init>", "()V"⟩ : MethodName) jdk_22_method_1_code 1 none [] ({ frames := 1, cells := 0, slots := 0, locals := 12 } : Room) #[(.ref a)] h0 n0 (fun v h => v = none ∧ h = h0) := by
  refine met_of_go (plainFor_of_name pn_java_util_AbstractCollection) (fun m => ef_3 m a) ?_
  intro W hl C
  subst hl
  refine Go.aloadN C d3_0 (q := 1) rfl rfl rfl ?_
  refine Go.initO C (hw _ (List.mem_of_getElem? (i := 18) rfl)) (hw _ (List.mem_of_getElem? (i := 19) rfl)) (hw _ (List.mem_of_getElem? (i := 20) rfl)) d3_1 (q := 4) rfl rfl (w := 0) rfl (by decide) (by decide) ?_
  exact Go.retV C d3_4 (by decide) (by decide) ⟨rfl, rfl⟩
set_option maxRecDepth 65536 in
theorem c_absl (l : Launch) (Z : State) (a0 : Array Value) (hw : ∀ d ∈ tables_1, d.before a0 Z = true) (a : Addr) (h0 : Heap) (n0 : Nat) (u0 u1 : Value) (Z0 : n0 ≤ h0.size) (E0 : Exa Z h0 a "java/util/ArrayList") (g0 : n0 ≤ a) (G0 : Fld Z h0 a "java/util/AbstractList" "modCount" "I" u0) (G1 : Fld Z h0 a "java/util/ArrayList" "elementData" "[Ljava/lang/Object;" u1) : Met1 l Z (⟨"java/util/AbstractList", "<init>", "()V"⟩ : MethodName) jdk_39_method_1_code 1 none [] ({ frames := 2, cells := 0, slots := 0, locals := 24 } : Room) #[(.ref a)] h0 n0 (fun v h => v = none ∧ Keep h0 h [a] ∧ Fld Z h a "java/util/ArrayList" "elementData" "[Ljava/lang/Object;" u1) := by
  refine met_of_go (plainFor_of_name pn_java_util_AbstractList) (fun m => ef_2 m a) ?_
  intro W hl C
  subst hl
  refine Go.aloadN C d2_0 (q := 1) rfl rfl rfl ?_
  refine Go.callC C rfl (hw _ (List.mem_of_getElem? (i := 12) rfl)) (hw _ (List.mem_of_getElem? (i := 13) rfl)) (hw _ (List.mem_of_getElem? (i := 16) rfl)) (hw _ (List.mem_of_getElem? (i := 17) rfl)) (c_absc W.l Z a0 hw a h0 n0 Z0) d2_1 pd__40_41V (q := 4) rfl rfl (argsL := []) (st := []) rfl rfl (w := 0) rfl (by decide) (by decide) (k' := 0) rfl (n' := 0) rfl (by decide) (by decide) ?_
  intro v h' q
  obtain ⟨rfl, eqh⟩ := q
  rw [eqh]
  show Go W n0 (fun v h => v = none ∧ Keep h0 h [a] ∧ Fld Z h a "java/util/ArrayList" "elementData" "[Ljava/lang/Object;" u1) h0 0 0 4 #[.val (.ref a)] []
  refine Go.aloadN C d2_4 (q := 5) rfl rfl rfl ?_
  refine Go.iconst C (0 : Int32) d2_5 (q := 6) rfl rfl ?_
  refine Go.putF C (host := "") (Or.inl (hw _ (List.mem_of_getElem? (i := 21) rfl))) Via.refl G0 E0 (Or.inl (hw _ (List.mem_of_getElem? (i := 22) rfl))) (hw _ (List.mem_of_getElem? (i := 1) rfl)) (ty := .int) (by decide) rfl rfl g0 d2_6 (q := 9) rfl ?_
  intro h1 W2
  have F3 := G0.same W2
  have F4 := (G1.other W2 (Or.inr (slot_ne (Or.inl (hw _ (List.mem_of_getElem? (i := 25) rfl))) (Or.inl (hw _ (List.mem_of_getElem? (i := 22) rfl))) (by decide) (t := (.array (.object "java/lang/Object"))) (t' := .int) (by decide) (by decide))))
  exact Go.retV C d2_9 (by decide) (by decide) ⟨rfl, ((Keep.refl h0 [a]).wr W2 (Or.inl (List.mem_of_getElem? (i := 0) rfl))), F4⟩
set_option maxRecDepth 65536 in
theorem c_al (l : Launch) (Z : State) (a0 : Array Value) (hw : ∀ d ∈ tables_1, d.before a0 Z = true) (a : Addr) (h0 : Heap) (n0 : Nat) (u0 u1 : Value) (d : Addr) (Z0 : n0 ≤ h0.size) (E0 : Exa Z h0 a "java/util/ArrayList") (g0 : n0 ≤ a) (G0 : Fld Z h0 a "java/util/AbstractList" "modCount" "I" u0) (G1 : Fld Z h0 a "java/util/ArrayList" "elementData" "[Ljava/lang/Object;" u1) (S0 : Sta Z h0 "java/util/ArrayList" "DEFAULTCAPACITY_EMPTY_ELEMENTDATA" "[Ljava/lang/Object;" (.ref d)) : Met1 l Z (⟨"java/util/ArrayList", "<init>", "()V"⟩ : MethodName) jdk_38_method_2_code 1 none [] ({ frames := 3, cells := 0, slots := 0, locals := 36 } : Room) #[(.ref a)] h0 n0 (fun v h => v = none ∧ Keep h0 h [a]) := by
  refine met_of_go (plainFor_of_name pn_java_util_ArrayList) (fun m => ef_1 m a) ?_
  intro W hl C
  subst hl
  refine Go.aloadN C d1_0 (q := 1) rfl rfl rfl ?_
  refine Go.callC C rfl (hw _ (List.mem_of_getElem? (i := 6) rfl)) (hw _ (List.mem_of_getElem? (i := 7) rfl)) (hw _ (List.mem_of_getElem? (i := 10) rfl)) (hw _ (List.mem_of_getElem? (i := 11) rfl)) (c_absl W.l Z a0 hw a h0 n0 u0 u1 Z0 E0 g0 G0 G1) d1_1 pd__40_41V (q := 4) rfl rfl (argsL := []) (st := []) rfl rfl (w := 0) rfl (by decide) (by decide) (k' := 0) rfl (n' := 0) rfl (by decide) (by decide) ?_
  intro v h1 q
  obtain ⟨rfl, K2, F3⟩ := q
  show Go W n0 (fun v h => v = none ∧ Keep h0 h [a]) h1 0 0 4 #[.val (.ref a)] []
  refine Go.aloadN C d1_4 (q := 5) rfl rfl rfl ?_
  have F4 := (own_sta_keep S0 K2 (allS (own_plE E0) all0))
  refine Go.getS C (hw _ (List.mem_of_getElem? (i := 23) rfl)) Via.refl F4 d1_5 (q := 8) rfl ?_
  have F5 := (E0.keep K2)
  refine Go.putF C (host := "") (Or.inl (hw _ (List.mem_of_getElem? (i := 24) rfl))) Via.refl F3 F5 (Or.inl (hw _ (List.mem_of_getElem? (i := 25) rfl))) (hw _ (List.mem_of_getElem? (i := 1) rfl)) (ty := (.array (.object "java/lang/Object"))) (by decide) rfl rfl g0 d1_8 (q := 11) rfl ?_
  intro h6 W7
  have F8 := F3.same W7
  exact Go.retV C d1_11 (by decide) (by decide) ⟨rfl, (((Keep.refl h0 [a]).trans K2 (allS (Or.inl (List.mem_of_getElem? (i := 0) rfl)) all0)).wr W7 (Or.inl (List.mem_of_getElem? (i := 0) rfl)))⟩
set_option maxRecDepth 65536 in
theorem c_res (l : Launch) (Z : State) (a0 : Array Value) (hw : ∀ d ∈ tables_1, d.before a0 Z = true) (a : Addr) (x : Addr) (y : Addr) (q1 : Int64) (q2 : Int64) (q3 : Int64) (h0 : Heap) (n0 : Nat) (u0 u1 u2 u3 u4 : Value) (Z0 : n0 ≤ h0.size) (E0 : Exa Z h0 a "com/example/catrac/catrac/sql/Result") (g0 : n0 ≤ a) (G0 : Fld Z h0 a "com/example/catrac/catrac/sql/Result" "columns" "Ljava/util/List;" u0) (G1 : Fld Z h0 a "com/example/catrac/catrac/sql/Result" "rows" "Ljava/util/List;" u1) (G2 : Fld Z h0 a "com/example/catrac/catrac/sql/Result" "matchedRows" "J" u2) (G3 : Fld Z h0 a "com/example/catrac/catrac/sql/Result" "changedRows" "J" u3) (G4 : Fld Z h0 a "com/example/catrac/catrac/sql/Result" "insertId" "J" u4) : Met1 l Z (⟨"com/example/catrac/catrac/sql/Result", "<init>", "(Ljava/util/List;Ljava/util/List;JJJ)V"⟩ : MethodName) prog_43_method_1_code 9 none [] ({ frames := 2, cells := 0, slots := 0, locals := 24 } : Room) #[(.ref a), (.ref x), (.ref y), (.long q1), (.long q2), (.long q3)] h0 n0 (fun v h => v = none ∧ Keep h0 h [a] ∧ Fld Z h a "com/example/catrac/catrac/sql/Result" "columns" "Ljava/util/List;" (.ref x)) := by
  refine met_of_go (plainFor_of_name pn_com_example_catrac_catrac_sql_Result) (fun m => ef_5 m a x y q1 q2 q3) ?_
  intro W hl C
  subst hl
  refine Go.aloadN C d5_0 (q := 1) rfl rfl rfl ?_
  refine Go.callC C rfl (hw _ (List.mem_of_getElem? (i := 32) rfl)) (hw _ (List.mem_of_getElem? (i := 33) rfl)) (hw _ (List.mem_of_getElem? (i := 35) rfl)) (hw _ (List.mem_of_getElem? (i := 36) rfl)) (c_record W.l Z a0 hw a h0 n0 Z0) d5_1 pd__40_41V (q := 4) rfl rfl (argsL := []) (st := []) rfl rfl (w := 0) rfl (by decide) (by decide) (k' := 0) rfl (n' := 0) rfl (by decide) (by decide) ?_
  intro v h' q
  obtain ⟨rfl, eqh⟩ := q
  rw [eqh]
  show Go W n0 (fun v h => v = none ∧ Keep h0 h [a] ∧ Fld Z h a "com/example/catrac/catrac/sql/Result" "columns" "Ljava/util/List;" (.ref x)) h0 0 0 4 #[.val (.ref a), .val (.ref x), .val (.ref y), .val (.long q1), .second, .val (.long q2), .second, .val (.long q3), .second] []
  refine Go.aloadN C d5_4 (q := 5) rfl rfl rfl ?_
  refine Go.aloadN C d5_5 (q := 6) rfl rfl rfl ?_
  refine Go.putF C (host := "") (Or.inl (hw _ (List.mem_of_getElem? (i := 38) rfl))) Via.refl G0 E0 (Or.inr ⟨(hw _ (List.mem_of_getElem? (i := 39) rfl)), rfl, rfl⟩) (hw _ (List.mem_of_getElem? (i := 27) rfl)) (ty := (.object "java/util/List")) (by decide) rfl rfl g0 d5_6 (q := 9) rfl ?_
  intro h1 W2
  have F3 := G0.same W2
  refine Go.aloadN C d5_9 (q := 10) rfl rfl rfl ?_
  refine Go.aloadN C d5_10 (q := 11) rfl rfl rfl ?_
  have F4 := (G1.other W2 (Or.inr (slot_ne (Or.inr (hw _ (List.mem_of_getElem? (i := 41) rfl))) (Or.inr (hw _ (List.mem_of_getElem? (i := 39) rfl))) (by decide) (t := (.object "java/util/List")) (t' := (.object "java/util/List")) (by decide) (by decide))))
  have F5 := (E0.wr W2)
  refine Go.putF C (host := "") (Or.inl (hw _ (List.mem_of_getElem? (i := 40) rfl))) Via.refl F4 F5 (Or.inr ⟨(hw _ (List.mem_of_getElem? (i := 41) rfl)), rfl, rfl⟩) (hw _ (List.mem_of_getElem? (i := 27) rfl)) (ty := (.object "java/util/List")) (by decide) rfl rfl g0 d5_11 (q := 14) rfl ?_
  intro h6 W7
  have F8 := F4.same W7
  refine Go.aloadN C d5_14 (q := 15) rfl rfl rfl ?_
  refine Go.lloadN C d5_15 (q := 16) rfl rfl ?_
  have F9 := ((G2.other W2 (Or.inr (slot_ne (Or.inr (hw _ (List.mem_of_getElem? (i := 43) rfl))) (Or.inr (hw _ (List.mem_of_getElem? (i := 39) rfl))) (by decide) (t := .long) (t' := (.object "java/util/List")) (by decide) (by decide)))).other W7 (Or.inr (slot_ne (Or.inr (hw _ (List.mem_of_getElem? (i := 43) rfl))) (Or.inr (hw _ (List.mem_of_getElem? (i := 41) rfl))) (by decide) (t := .long) (t' := (.object "java/util/List")) (by decide) (by decide))))
  have F10 := (F5.wr W7)
  refine Go.putF C (host := "") (Or.inl (hw _ (List.mem_of_getElem? (i := 42) rfl))) Via.refl F9 F10 (Or.inr ⟨(hw _ (List.mem_of_getElem? (i := 43) rfl)), rfl, rfl⟩) (hw _ (List.mem_of_getElem? (i := 27) rfl)) (ty := .long) (by decide) rfl rfl g0 d5_16 (q := 19) rfl ?_
  intro h11 W12
  have F13 := F9.same W12
  refine Go.aloadN C d5_19 (q := 20) rfl rfl rfl ?_
  refine Go.lload C d5_20 (q := 22) rfl rfl ?_
  have F14 := (((G3.other W2 (Or.inr (slot_ne (Or.inr (hw _ (List.mem_of_getElem? (i := 45) rfl))) (Or.inr (hw _ (List.mem_of_getElem? (i := 39) rfl))) (by decide) (t := .long) (t' := (.object "java/util/List")) (by decide) (by decide)))).other W7 (Or.inr (slot_ne (Or.inr (hw _ (List.mem_of_getElem? (i := 45) rfl))) (Or.inr (hw _ (List.mem_of_getElem? (i := 41) rfl))) (by decide) (t := .long) (t' := (.object "java/util/List")) (by decide) (by decide)))).other W12 (Or.inr (slot_ne (Or.inr (hw _ (List.mem_of_getElem? (i := 45) rfl))) (Or.inr (hw _ (List.mem_of_getElem? (i := 43) rfl))) (by decide) (t := .long) (t' := .long) (by decide) (by decide))))
  have F15 := (F10.wr W12)
  refine Go.putF C (host := "") (Or.inl (hw _ (List.mem_of_getElem? (i := 44) rfl))) Via.refl F14 F15 (Or.inr ⟨(hw _ (List.mem_of_getElem? (i := 45) rfl)), rfl, rfl⟩) (hw _ (List.mem_of_getElem? (i := 27) rfl)) (ty := .long) (by decide) rfl rfl g0 d5_22 (q := 25) rfl ?_
  intro h16 W17
  have F18 := F14.same W17
  refine Go.aloadN C d5_25 (q := 26) rfl rfl rfl ?_
  refine Go.lload C d5_26 (q := 28) rfl rfl ?_
  have F19 := ((((G4.other W2 (Or.inr (slot_ne (Or.inr (hw _ (List.mem_of_getElem? (i := 47) rfl))) (Or.inr (hw _ (List.mem_of_getElem? (i := 39) rfl))) (by decide) (t := .long) (t' := (.object "java/util/List")) (by decide) (by decide)))).other W7 (Or.inr (slot_ne (Or.inr (hw _ (List.mem_of_getElem? (i := 47) rfl))) (Or.inr (hw _ (List.mem_of_getElem? (i := 41) rfl))) (by decide) (t := .long) (t' := (.object "java/util/List")) (by decide) (by decide)))).other W12 (Or.inr (slot_ne (Or.inr (hw _ (List.mem_of_getElem? (i := 47) rfl))) (Or.inr (hw _ (List.mem_of_getElem? (i := 43) rfl))) (by decide) (t := .long) (t' := .long) (by decide) (by decide)))).other W17 (Or.inr (slot_ne (Or.inr (hw _ (List.mem_of_getElem? (i := 47) rfl))) (Or.inr (hw _ (List.mem_of_getElem? (i := 45) rfl))) (by decide) (t := .long) (t' := .long) (by decide) (by decide))))
  have F20 := (F15.wr W17)
  refine Go.putF C (host := "") (Or.inl (hw _ (List.mem_of_getElem? (i := 46) rfl))) Via.refl F19 F20 (Or.inr ⟨(hw _ (List.mem_of_getElem? (i := 47) rfl)), rfl, rfl⟩) (hw _ (List.mem_of_getElem? (i := 27) rfl)) (ty := .long) (by decide) rfl rfl g0 d5_28 (q := 31) rfl ?_
  intro h21 W22
  have F23 := F19.same W22
  have F24 := ((((F3.other W7 (Or.inr (slot_ne (Or.inr (hw _ (List.mem_of_getElem? (i := 39) rfl))) (Or.inr (hw _ (List.mem_of_getElem? (i := 41) rfl))) (by decide) (t := (.object "java/util/List")) (t' := (.object "java/util/List")) (by decide) (by decide)))).other W12 (Or.inr (slot_ne (Or.inr (hw _ (List.mem_of_getElem? (i := 39) rfl))) (Or.inr (hw _ (List.mem_of_getElem? (i := 43) rfl))) (by decide) (t := (.object "java/util/List")) (t' := .long) (by decide) (by decide)))).other W17 (Or.inr (slot_ne (Or.inr (hw _ (List.mem_of_getElem? (i := 39) rfl))) (Or.inr (hw _ (List.mem_of_getElem? (i := 45) rfl))) (by decide) (t := (.object "java/util/List")) (t' := .long) (by decide) (by decide)))).other W22 (Or.inr (slot_ne (Or.inr (hw _ (List.mem_of_getElem? (i := 39) rfl))) (Or.inr (hw _ (List.mem_of_getElem? (i := 47) rfl))) (by decide) (t := (.object "java/util/List")) (t' := .long) (by decide) (by decide))))
  exact Go.retV C d5_31 (by decide) (by decide) ⟨rfl, ((((((Keep.refl h0 [a]).wr W2 (Or.inl (List.mem_of_getElem? (i := 0) rfl))).wr W7 (Or.inl (List.mem_of_getElem? (i := 0) rfl))).wr W12 (Or.inl (List.mem_of_getElem? (i := 0) rfl))).wr W17 (Or.inl (List.mem_of_getElem? (i := 0) rfl))).wr W22 (Or.inl (List.mem_of_getElem? (i := 0) rfl))), F24⟩
set_option maxRecDepth 65536 in
theorem c_res_1 (l : Launch) (Z : State) (a0 : Array Value) (hw : ∀ d ∈ tables_1, d.before a0 Z = true) (a : Addr) (y : Addr) (q1 : Int64) (q2 : Int64) (q3 : Int64) (h0 : Heap) (n0 : Nat) (u0 u1 u2 u3 u4 : Value) (Z0 : n0 ≤ h0.size) (E0 : Exa Z h0 a "com/example/catrac/catrac/sql/Result") (g0 : n0 ≤ a) (G0 : Fld Z h0 a "com/example/catrac/catrac/sql/Result" "columns" "Ljava/util/List;" u0) (G1 : Fld Z h0 a "com/example/catrac/catrac/sql/Result" "rows" "Ljava/util/List;" u1) (G2 : Fld Z h0 a "com/example/catrac/catrac/sql/Result" "matchedRows" "J" u2) (G3 : Fld Z h0 a "com/example/catrac/catrac/sql/Result" "changedRows" "J" u3) (G4 : Fld Z h0 a "com/example/catrac/catrac/sql/Result" "insertId" "J" u4) : Met1 l Z (⟨"com/example/catrac/catrac/sql/Result", "<init>", "(Ljava/util/List;Ljava/util/List;JJJ)V"⟩ : MethodName) prog_43_method_1_code 9 none [] ({ frames := 2, cells := 0, slots := 0, locals := 24 } : Room) #[(.ref a), .null, (.ref y), (.long q1), (.long q2), (.long q3)] h0 n0 (fun v h => v = none ∧ Keep h0 h [a] ∧ Fld Z h a "com/example/catrac/catrac/sql/Result" "columns" "Ljava/util/List;" .null) := by
  refine met_of_go (plainFor_of_name pn_com_example_catrac_catrac_sql_Result) (fun m => ef_5_1 m a y q1 q2 q3) ?_
  intro W hl C
  subst hl
  refine Go.aloadN C d5_0 (q := 1) rfl rfl rfl ?_
  refine Go.callC C rfl (hw _ (List.mem_of_getElem? (i := 32) rfl)) (hw _ (List.mem_of_getElem? (i := 33) rfl)) (hw _ (List.mem_of_getElem? (i := 35) rfl)) (hw _ (List.mem_of_getElem? (i := 36) rfl)) (c_record W.l Z a0 hw a h0 n0 Z0) d5_1 pd__40_41V (q := 4) rfl rfl (argsL := []) (st := []) rfl rfl (w := 0) rfl (by decide) (by decide) (k' := 0) rfl (n' := 0) rfl (by decide) (by decide) ?_
  intro v h' q
  obtain ⟨rfl, eqh⟩ := q
  rw [eqh]
  show Go W n0 (fun v h => v = none ∧ Keep h0 h [a] ∧ Fld Z h a "com/example/catrac/catrac/sql/Result" "columns" "Ljava/util/List;" .null) h0 0 0 4 #[.val (.ref a), .val .null, .val (.ref y), .val (.long q1), .second, .val (.long q2), .second, .val (.long q3), .second] []
  refine Go.aloadN C d5_4 (q := 5) rfl rfl rfl ?_
  refine Go.aloadN C d5_5 (q := 6) rfl rfl rfl ?_
  refine Go.putF C (host := "") (Or.inl (hw _ (List.mem_of_getElem? (i := 38) rfl))) Via.refl G0 E0 (Or.inr ⟨(hw _ (List.mem_of_getElem? (i := 39) rfl)), rfl, rfl⟩) (hw _ (List.mem_of_getElem? (i := 27) rfl)) (ty := (.object "java/util/List")) (by decide) rfl rfl g0 d5_6 (q := 9) rfl ?_
  intro h1 W2
  have F3 := G0.same W2
  refine Go.aloadN C d5_9 (q := 10) rfl rfl rfl ?_
  refine Go.aloadN C d5_10 (q := 11) rfl rfl rfl ?_
  have F4 := (G1.other W2 (Or.inr (slot_ne (Or.inr (hw _ (List.mem_of_getElem? (i := 41) rfl))) (Or.inr (hw _ (List.mem_of_getElem? (i := 39) rfl))) (by decide) (t := (.object "java/util/List")) (t' := (.object "java/util/List")) (by decide) (by decide))))
  have F5 := (E0.wr W2)
  refine Go.putF C (host := "") (Or.inl (hw _ (List.mem_of_getElem? (i := 40) rfl))) Via.refl F4 F5 (Or.inr ⟨(hw _ (List.mem_of_getElem? (i := 41) rfl)), rfl, rfl⟩) (hw _ (List.mem_of_getElem? (i := 27) rfl)) (ty := (.object "java/util/List")) (by decide) rfl rfl g0 d5_11 (q := 14) rfl ?_
  intro h6 W7
  have F8 := F4.same W7
  refine Go.aloadN C d5_14 (q := 15) rfl rfl rfl ?_
  refine Go.lloadN C d5_15 (q := 16) rfl rfl ?_
  have F9 := ((G2.other W2 (Or.inr (slot_ne (Or.inr (hw _ (List.mem_of_getElem? (i := 43) rfl))) (Or.inr (hw _ (List.mem_of_getElem? (i := 39) rfl))) (by decide) (t := .long) (t' := (.object "java/util/List")) (by decide) (by decide)))).other W7 (Or.inr (slot_ne (Or.inr (hw _ (List.mem_of_getElem? (i := 43) rfl))) (Or.inr (hw _ (List.mem_of_getElem? (i := 41) rfl))) (by decide) (t := .long) (t' := (.object "java/util/List")) (by decide) (by decide))))
  have F10 := (F5.wr W7)
  refine Go.putF C (host := "") (Or.inl (hw _ (List.mem_of_getElem? (i := 42) rfl))) Via.refl F9 F10 (Or.inr ⟨(hw _ (List.mem_of_getElem? (i := 43) rfl)), rfl, rfl⟩) (hw _ (List.mem_of_getElem? (i := 27) rfl)) (ty := .long) (by decide) rfl rfl g0 d5_16 (q := 19) rfl ?_
  intro h11 W12
  have F13 := F9.same W12
  refine Go.aloadN C d5_19 (q := 20) rfl rfl rfl ?_
  refine Go.lload C d5_20 (q := 22) rfl rfl ?_
  have F14 := (((G3.other W2 (Or.inr (slot_ne (Or.inr (hw _ (List.mem_of_getElem? (i := 45) rfl))) (Or.inr (hw _ (List.mem_of_getElem? (i := 39) rfl))) (by decide) (t := .long) (t' := (.object "java/util/List")) (by decide) (by decide)))).other W7 (Or.inr (slot_ne (Or.inr (hw _ (List.mem_of_getElem? (i := 45) rfl))) (Or.inr (hw _ (List.mem_of_getElem? (i := 41) rfl))) (by decide) (t := .long) (t' := (.object "java/util/List")) (by decide) (by decide)))).other W12 (Or.inr (slot_ne (Or.inr (hw _ (List.mem_of_getElem? (i := 45) rfl))) (Or.inr (hw _ (List.mem_of_getElem? (i := 43) rfl))) (by decide) (t := .long) (t' := .long) (by decide) (by decide))))
  have F15 := (F10.wr W12)
  refine Go.putF C (host := "") (Or.inl (hw _ (List.mem_of_getElem? (i := 44) rfl))) Via.refl F14 F15 (Or.inr ⟨(hw _ (List.mem_of_getElem? (i := 45) rfl)), rfl, rfl⟩) (hw _ (List.mem_of_getElem? (i := 27) rfl)) (ty := .long) (by decide) rfl rfl g0 d5_22 (q := 25) rfl ?_
  intro h16 W17
  have F18 := F14.same W17
  refine Go.aloadN C d5_25 (q := 26) rfl rfl rfl ?_
  refine Go.lload C d5_26 (q := 28) rfl rfl ?_
  have F19 := ((((G4.other W2 (Or.inr (slot_ne (Or.inr (hw _ (List.mem_of_getElem? (i := 47) rfl))) (Or.inr (hw _ (List.mem_of_getElem? (i := 39) rfl))) (by decide) (t := .long) (t' := (.object "java/util/List")) (by decide) (by decide)))).other W7 (Or.inr (slot_ne (Or.inr (hw _ (List.mem_of_getElem? (i := 47) rfl))) (Or.inr (hw _ (List.mem_of_getElem? (i := 41) rfl))) (by decide) (t := .long) (t' := (.object "java/util/List")) (by decide) (by decide)))).other W12 (Or.inr (slot_ne (Or.inr (hw _ (List.mem_of_getElem? (i := 47) rfl))) (Or.inr (hw _ (List.mem_of_getElem? (i := 43) rfl))) (by decide) (t := .long) (t' := .long) (by decide) (by decide)))).other W17 (Or.inr (slot_ne (Or.inr (hw _ (List.mem_of_getElem? (i := 47) rfl))) (Or.inr (hw _ (List.mem_of_getElem? (i := 45) rfl))) (by decide) (t := .long) (t' := .long) (by decide) (by decide))))
  have F20 := (F15.wr W17)
  refine Go.putF C (host := "") (Or.inl (hw _ (List.mem_of_getElem? (i := 46) rfl))) Via.refl F19 F20 (Or.inr ⟨(hw _ (List.mem_of_getElem? (i := 47) rfl)), rfl, rfl⟩) (hw _ (List.mem_of_getElem? (i := 27) rfl)) (ty := .long) (by decide) rfl rfl g0 d5_28 (q := 31) rfl ?_
  intro h21 W22
  have F23 := F19.same W22
  have F24 := ((((F3.other W7 (Or.inr (slot_ne (Or.inr (hw _ (List.mem_of_getElem? (i := 39) rfl))) (Or.inr (hw _ (List.mem_of_getElem? (i := 41) rfl))) (by decide) (t := (.object "java/util/List")) (t' := (.object "java/util/List")) (by decide) (by decide)))).other W12 (Or.inr (slot_ne (Or.inr (hw _ (List.mem_of_getElem? (i := 39) rfl))) (Or.inr (hw _ (List.mem_of_getElem? (i := 43) rfl))) (by decide) (t := (.object "java/util/List")) (t' := .long) (by decide) (by decide)))).other W17 (Or.inr (slot_ne (Or.inr (hw _ (List.mem_of_getElem? (i := 39) rfl))) (Or.inr (hw _ (List.mem_of_getElem? (i := 45) rfl))) (by decide) (t := (.object "java/util/List")) (t' := .long) (by decide) (by decide)))).other W22 (Or.inr (slot_ne (Or.inr (hw _ (List.mem_of_getElem? (i := 39) rfl))) (Or.inr (hw _ (List.mem_of_getElem? (i := 47) rfl))) (by decide) (t := (.object "java/util/List")) (t' := .long) (by decide) (by decide))))
  exact Go.retV C d5_31 (by decide) (by decide) ⟨rfl, ((((((Keep.refl h0 [a]).wr W2 (Or.inl (List.mem_of_getElem? (i := 0) rfl))).wr W7 (Or.inl (List.mem_of_getElem? (i := 0) rfl))).wr W12 (Or.inl (List.mem_of_getElem? (i := 0) rfl))).wr W17 (Or.inl (List.mem_of_getElem? (i := 0) rfl))).wr W22 (Or.inl (List.mem_of_getElem? (i := 0) rfl))), F24⟩
set_option maxRecDepth 65536 in
theorem c_res_2 (l : Launch) (Z : State) (a0 : Array Value) (hw : ∀ d ∈ tables_1, d.before a0 Z = true) (a : Addr) (x : Addr) (q1 : Int64) (q2 : Int64) (q3 : Int64) (h0 : Heap) (n0 : Nat) (u0 u1 u2 u3 u4 : Value) (Z0 : n0 ≤ h0.size) (E0 : Exa Z h0 a "com/example/catrac/catrac/sql/Result") (g0 : n0 ≤ a) (G0 : Fld Z h0 a "com/example/catrac/catrac/sql/Result" "columns" "Ljava/util/List;" u0) (G1 : Fld Z h0 a "com/example/catrac/catrac/sql/Result" "rows" "Ljava/util/List;" u1) (G2 : Fld Z h0 a "com/example/catrac/catrac/sql/Result" "matchedRows" "J" u2) (G3 : Fld Z h0 a "com/example/catrac/catrac/sql/Result" "changedRows" "J" u3) (G4 : Fld Z h0 a "com/example/catrac/catrac/sql/Result" "insertId" "J" u4) : Met1 l Z (⟨"com/example/catrac/catrac/sql/Result", "<init>", "(Ljava/util/List;Ljava/util/List;JJJ)V"⟩ : MethodName) prog_43_method_1_code 9 none [] ({ frames := 2, cells := 0, slots := 0, locals := 24 } : Room) #[(.ref a), (.ref x), .null, (.long q1), (.long q2), (.long q3)] h0 n0 (fun v h => v = none ∧ Keep h0 h [a] ∧ Fld Z h a "com/example/catrac/catrac/sql/Result" "columns" "Ljava/util/List;" (.ref x)) := by
  refine met_of_go (plainFor_of_name pn_com_example_catrac_catrac_sql_Result) (fun m => ef_5_2 m a x q1 q2 q3) ?_
  intro W hl C
  subst hl
  refine Go.aloadN C d5_0 (q := 1) rfl rfl rfl ?_
  refine Go.callC C rfl (hw _ (List.mem_of_getElem? (i := 32) rfl)) (hw _ (List.mem_of_getElem? (i := 33) rfl)) (hw _ (List.mem_of_getElem? (i := 35) rfl)) (hw _ (List.mem_of_getElem? (i := 36) rfl)) (c_record W.l Z a0 hw a h0 n0 Z0) d5_1 pd__40_41V (q := 4) rfl rfl (argsL := []) (st := []) rfl rfl (w := 0) rfl (by decide) (by decide) (k' := 0) rfl (n' := 0) rfl (by decide) (by decide) ?_
  intro v h' q
  obtain ⟨rfl, eqh⟩ := q
  rw [eqh]
  show Go W n0 (fun v h => v = none ∧ Keep h0 h [a] ∧ Fld Z h a "com/example/catrac/catrac/sql/Result" "columns" "Ljava/util/List;" (.ref x)) h0 0 0 4 #[.val (.ref a), .val (.ref x), .val .null, .val (.long q1), .second, .val (.long q2), .second, .val (.long q3), .second] []
  refine Go.aloadN C d5_4 (q := 5) rfl rfl rfl ?_
  refine Go.aloadN C d5_5 (q := 6) rfl rfl rfl ?_
  refine Go.putF C (host := "") (Or.inl (hw _ (List.mem_of_getElem? (i := 38) rfl))) Via.refl G0 E0 (Or.inr ⟨(hw _ (List.mem_of_getElem? (i := 39) rfl)), rfl, rfl⟩) (hw _ (List.mem_of_getElem? (i := 27) rfl)) (ty := (.object "java/util/List")) (by decide) rfl rfl g0 d5_6 (q := 9) rfl ?_
  intro h1 W2
  have F3 := G0.same W2
  refine Go.aloadN C d5_9 (q := 10) rfl rfl rfl ?_
  refine Go.aloadN C d5_10 (q := 11) rfl rfl rfl ?_
  have F4 := (G1.other W2 (Or.inr (slot_ne (Or.inr (hw _ (List.mem_of_getElem? (i := 41) rfl))) (Or.inr (hw _ (List.mem_of_getElem? (i := 39) rfl))) (by decide) (t := (.object "java/util/List")) (t' := (.object "java/util/List")) (by decide) (by decide))))
  have F5 := (E0.wr W2)
  refine Go.putF C (host := "") (Or.inl (hw _ (List.mem_of_getElem? (i := 40) rfl))) Via.refl F4 F5 (Or.inr ⟨(hw _ (List.mem_of_getElem? (i := 41) rfl)), rfl, rfl⟩) (hw _ (List.mem_of_getElem? (i := 27) rfl)) (ty := (.object "java/util/List")) (by decide) rfl rfl g0 d5_11 (q := 14) rfl ?_
  intro h6 W7
  have F8 := F4.same W7
  refine Go.aloadN C d5_14 (q := 15) rfl rfl rfl ?_
  refine Go.lloadN C d5_15 (q := 16) rfl rfl ?_
  have F9 := ((G2.other W2 (Or.inr (slot_ne (Or.inr (hw _ (List.mem_of_getElem? (i := 43) rfl))) (Or.inr (hw _ (List.mem_of_getElem? (i := 39) rfl))) (by decide) (t := .long) (t' := (.object "java/util/List")) (by decide) (by decide)))).other W7 (Or.inr (slot_ne (Or.inr (hw _ (List.mem_of_getElem? (i := 43) rfl))) (Or.inr (hw _ (List.mem_of_getElem? (i := 41) rfl))) (by decide) (t := .long) (t' := (.object "java/util/List")) (by decide) (by decide))))
  have F10 := (F5.wr W7)
  refine Go.putF C (host := "") (Or.inl (hw _ (List.mem_of_getElem? (i := 42) rfl))) Via.refl F9 F10 (Or.inr ⟨(hw _ (List.mem_of_getElem? (i := 43) rfl)), rfl, rfl⟩) (hw _ (List.mem_of_getElem? (i := 27) rfl)) (ty := .long) (by decide) rfl rfl g0 d5_16 (q := 19) rfl ?_
  intro h11 W12
  have F13 := F9.same W12
  refine Go.aloadN C d5_19 (q := 20) rfl rfl rfl ?_
  refine Go.lload C d5_20 (q := 22) rfl rfl ?_
  have F14 := (((G3.other W2 (Or.inr (slot_ne (Or.inr (hw _ (List.mem_of_getElem? (i := 45) rfl))) (Or.inr (hw _ (List.mem_of_getElem? (i := 39) rfl))) (by decide) (t := .long) (t' := (.object "java/util/List")) (by decide) (by decide)))).other W7 (Or.inr (slot_ne (Or.inr (hw _ (List.mem_of_getElem? (i := 45) rfl))) (Or.inr (hw _ (List.mem_of_getElem? (i := 41) rfl))) (by decide) (t := .long) (t' := (.object "java/util/List")) (by decide) (by decide)))).other W12 (Or.inr (slot_ne (Or.inr (hw _ (List.mem_of_getElem? (i := 45) rfl))) (Or.inr (hw _ (List.mem_of_getElem? (i := 43) rfl))) (by decide) (t := .long) (t' := .long) (by decide) (by decide))))
  have F15 := (F10.wr W12)
  refine Go.putF C (host := "") (Or.inl (hw _ (List.mem_of_getElem? (i := 44) rfl))) Via.refl F14 F15 (Or.inr ⟨(hw _ (List.mem_of_getElem? (i := 45) rfl)), rfl, rfl⟩) (hw _ (List.mem_of_getElem? (i := 27) rfl)) (ty := .long) (by decide) rfl rfl g0 d5_22 (q := 25) rfl ?_
  intro h16 W17
  have F18 := F14.same W17
  refine Go.aloadN C d5_25 (q := 26) rfl rfl rfl ?_
  refine Go.lload C d5_26 (q := 28) rfl rfl ?_
  have F19 := ((((G4.other W2 (Or.inr (slot_ne (Or.inr (hw _ (List.mem_of_getElem? (i := 47) rfl))) (Or.inr (hw _ (List.mem_of_getElem? (i := 39) rfl))) (by decide) (t := .long) (t' := (.object "java/util/List")) (by decide) (by decide)))).other W7 (Or.inr (slot_ne (Or.inr (hw _ (List.mem_of_getElem? (i := 47) rfl))) (Or.inr (hw _ (List.mem_of_getElem? (i := 41) rfl))) (by decide) (t := .long) (t' := (.object "java/util/List")) (by decide) (by decide)))).other W12 (Or.inr (slot_ne (Or.inr (hw _ (List.mem_of_getElem? (i := 47) rfl))) (Or.inr (hw _ (List.mem_of_getElem? (i := 43) rfl))) (by decide) (t := .long) (t' := .long) (by decide) (by decide)))).other W17 (Or.inr (slot_ne (Or.inr (hw _ (List.mem_of_getElem? (i := 47) rfl))) (Or.inr (hw _ (List.mem_of_getElem? (i := 45) rfl))) (by decide) (t := .long) (t' := .long) (by decide) (by decide))))
  have F20 := (F15.wr W17)
  refine Go.putF C (host := "") (Or.inl (hw _ (List.mem_of_getElem? (i := 46) rfl))) Via.refl F19 F20 (Or.inr ⟨(hw _ (List.mem_of_getElem? (i := 47) rfl)), rfl, rfl⟩) (hw _ (List.mem_of_getElem? (i := 27) rfl)) (ty := .long) (by decide) rfl rfl g0 d5_28 (q := 31) rfl ?_
  intro h21 W22
  have F23 := F19.same W22
  have F24 := ((((F3.other W7 (Or.inr (slot_ne (Or.inr (hw _ (List.mem_of_getElem? (i := 39) rfl))) (Or.inr (hw _ (List.mem_of_getElem? (i := 41) rfl))) (by decide) (t := (.object "java/util/List")) (t' := (.object "java/util/List")) (by decide) (by decide)))).other W12 (Or.inr (slot_ne (Or.inr (hw _ (List.mem_of_getElem? (i := 39) rfl))) (Or.inr (hw _ (List.mem_of_getElem? (i := 43) rfl))) (by decide) (t := (.object "java/util/List")) (t' := .long) (by decide) (by decide)))).other W17 (Or.inr (slot_ne (Or.inr (hw _ (List.mem_of_getElem? (i := 39) rfl))) (Or.inr (hw _ (List.mem_of_getElem? (i := 45) rfl))) (by decide) (t := (.object "java/util/List")) (t' := .long) (by decide) (by decide)))).other W22 (Or.inr (slot_ne (Or.inr (hw _ (List.mem_of_getElem? (i := 39) rfl))) (Or.inr (hw _ (List.mem_of_getElem? (i := 47) rfl))) (by decide) (t := (.object "java/util/List")) (t' := .long) (by decide) (by decide))))
  exact Go.retV C d5_31 (by decide) (by decide) ⟨rfl, ((((((Keep.refl h0 [a]).wr W2 (Or.inl (List.mem_of_getElem? (i := 0) rfl))).wr W7 (Or.inl (List.mem_of_getElem? (i := 0) rfl))).wr W12 (Or.inl (List.mem_of_getElem? (i := 0) rfl))).wr W17 (Or.inl (List.mem_of_getElem? (i := 0) rfl))).wr W22 (Or.inl (List.mem_of_getElem? (i := 0) rfl))), F24⟩
set_option maxRecDepth 65536 in
theorem c_res_1_2 (l : Launch) (Z : State) (a0 : Array Value) (hw : ∀ d ∈ tables_1, d.before a0 Z = true) (a : Addr) (q1 : Int64) (q2 : Int64) (q3 : Int64) (h0 : Heap) (n0 : Nat) (u0 u1 u2 u3 u4 : Value) (Z0 : n0 ≤ h0.size) (E0 : Exa Z h0 a "com/example/catrac/catrac/sql/Result") (g0 : n0 ≤ a) (G0 : Fld Z h0 a "com/example/catrac/catrac/sql/Result" "columns" "Ljava/util/List;" u0) (G1 : Fld Z h0 a "com/example/catrac/catrac/sql/Result" "rows" "Ljava/util/List;" u1) (G2 : Fld Z h0 a "com/example/catrac/catrac/sql/Result" "matchedRows" "J" u2) (G3 : Fld Z h0 a "com/example/catrac/catrac/sql/Result" "changedRows" "J" u3) (G4 : Fld Z h0 a "com/example/catrac/catrac/sql/Result" "insertId" "J" u4) : Met1 l Z (⟨"com/example/catrac/catrac/sql/Result", "<init>", "(Ljava/util/List;Ljava/util/List;JJJ)V"⟩ : MethodName) prog_43_method_1_code 9 none [] ({ frames := 2, cells := 0, slots := 0, locals := 24 } : Room) #[(.ref a), .null, .null, (.long q1), (.long q2), (.long q3)] h0 n0 (fun v h => v = none ∧ Keep h0 h [a] ∧ Fld Z h a "com/example/catrac/catrac/sql/Result" "columns" "Ljava/util/List;" .null) := by
  refine met_of_go (plainFor_of_name pn_com_example_catrac_catrac_sql_Result) (fun m => ef_5_1_2 m a q1 q2 q3) ?_
  intro W hl C
  subst hl
  refine Go.aloadN C d5_0 (q := 1) rfl rfl rfl ?_
  refine Go.callC C rfl (hw _ (List.mem_of_getElem? (i := 32) rfl)) (hw _ (List.mem_of_getElem? (i := 33) rfl)) (hw _ (List.mem_of_getElem? (i := 35) rfl)) (hw _ (List.mem_of_getElem? (i := 36) rfl)) (c_record W.l Z a0 hw a h0 n0 Z0) d5_1 pd__40_41V (q := 4) rfl rfl (argsL := []) (st := []) rfl rfl (w := 0) rfl (by decide) (by decide) (k' := 0) rfl (n' := 0) rfl (by decide) (by decide) ?_
  intro v h' q
  obtain ⟨rfl, eqh⟩ := q
  rw [eqh]
  show Go W n0 (fun v h => v = none ∧ Keep h0 h [a] ∧ Fld Z h a "com/example/catrac/catrac/sql/Result" "columns" "Ljava/util/List;" .null) h0 0 0 4 #[.val (.ref a), .val .null, .val .null, .val (.long q1), .second, .val (.long q2), .second, .val (.long q3), .second] []
  refine Go.aloadN C d5_4 (q := 5) rfl rfl rfl ?_
  refine Go.aloadN C d5_5 (q := 6) rfl rfl rfl ?_
  refine Go.putF C (host := "") (Or.inl (hw _ (List.mem_of_getElem? (i := 38) rfl))) Via.refl G0 E0 (Or.inr ⟨(hw _ (List.mem_of_getElem? (i := 39) rfl)), rfl, rfl⟩) (hw _ (List.mem_of_getElem? (i := 27) rfl)) (ty := (.object "java/util/List")) (by decide) rfl rfl g0 d5_6 (q := 9) rfl ?_
  intro h1 W2
  have F3 := G0.same W2
  refine Go.aloadN C d5_9 (q := 10) rfl rfl rfl ?_
  refine Go.aloadN C d5_10 (q := 11) rfl rfl rfl ?_
  have F4 := (G1.other W2 (Or.inr (slot_ne (Or.inr (hw _ (List.mem_of_getElem? (i := 41) rfl))) (Or.inr (hw _ (List.mem_of_getElem? (i := 39) rfl))) (by decide) (t := (.object "java/util/List")) (t' := (.object "java/util/List")) (by decide) (by decide))))
  have F5 := (E0.wr W2)
  refine Go.putF C (host := "") (Or.inl (hw _ (List.mem_of_getElem? (i := 40) rfl))) Via.refl F4 F5 (Or.inr ⟨(hw _ (List.mem_of_getElem? (i := 41) rfl)), rfl, rfl⟩) (hw _ (List.mem_of_getElem? (i := 27) rfl)) (ty := (.object "java/util/List")) (by decide) rfl rfl g0 d5_11 (q := 14) rfl ?_
  intro h6 W7
  have F8 := F4.same W7
  refine Go.aloadN C d5_14 (q := 15) rfl rfl rfl ?_
  refine Go.lloadN C d5_15 (q := 16) rfl rfl ?_
  have F9 := ((G2.other W2 (Or.inr (slot_ne (Or.inr (hw _ (List.mem_of_getElem? (i := 43) rfl))) (Or.inr (hw _ (List.mem_of_getElem? (i := 39) rfl))) (by decide) (t := .long) (t' := (.object "java/util/List")) (by decide) (by decide)))).other W7 (Or.inr (slot_ne (Or.inr (hw _ (List.mem_of_getElem? (i := 43) rfl))) (Or.inr (hw _ (List.mem_of_getElem? (i := 41) rfl))) (by decide) (t := .long) (t' := (.object "java/util/List")) (by decide) (by decide))))
  have F10 := (F5.wr W7)
  refine Go.putF C (host := "") (Or.inl (hw _ (List.mem_of_getElem? (i := 42) rfl))) Via.refl F9 F10 (Or.inr ⟨(hw _ (List.mem_of_getElem? (i := 43) rfl)), rfl, rfl⟩) (hw _ (List.mem_of_getElem? (i := 27) rfl)) (ty := .long) (by decide) rfl rfl g0 d5_16 (q := 19) rfl ?_
  intro h11 W12
  have F13 := F9.same W12
  refine Go.aloadN C d5_19 (q := 20) rfl rfl rfl ?_
  refine Go.lload C d5_20 (q := 22) rfl rfl ?_
  have F14 := (((G3.other W2 (Or.inr (slot_ne (Or.inr (hw _ (List.mem_of_getElem? (i := 45) rfl))) (Or.inr (hw _ (List.mem_of_getElem? (i := 39) rfl))) (by decide) (t := .long) (t' := (.object "java/util/List")) (by decide) (by decide)))).other W7 (Or.inr (slot_ne (Or.inr (hw _ (List.mem_of_getElem? (i := 45) rfl))) (Or.inr (hw _ (List.mem_of_getElem? (i := 41) rfl))) (by decide) (t := .long) (t' := (.object "java/util/List")) (by decide) (by decide)))).other W12 (Or.inr (slot_ne (Or.inr (hw _ (List.mem_of_getElem? (i := 45) rfl))) (Or.inr (hw _ (List.mem_of_getElem? (i := 43) rfl))) (by decide) (t := .long) (t' := .long) (by decide) (by decide))))
  have F15 := (F10.wr W12)
  refine Go.putF C (host := "") (Or.inl (hw _ (List.mem_of_getElem? (i := 44) rfl))) Via.refl F14 F15 (Or.inr ⟨(hw _ (List.mem_of_getElem? (i := 45) rfl)), rfl, rfl⟩) (hw _ (List.mem_of_getElem? (i := 27) rfl)) (ty := .long) (by decide) rfl rfl g0 d5_22 (q := 25) rfl ?_
  intro h16 W17
  have F18 := F14.same W17
  refine Go.aloadN C d5_25 (q := 26) rfl rfl rfl ?_
  refine Go.lload C d5_26 (q := 28) rfl rfl ?_
  have F19 := ((((G4.other W2 (Or.inr (slot_ne (Or.inr (hw _ (List.mem_of_getElem? (i := 47) rfl))) (Or.inr (hw _ (List.mem_of_getElem? (i := 39) rfl))) (by decide) (t := .long) (t' := (.object "java/util/List")) (by decide) (by decide)))).other W7 (Or.inr (slot_ne (Or.inr (hw _ (List.mem_of_getElem? (i := 47) rfl))) (Or.inr (hw _ (List.mem_of_getElem? (i := 41) rfl))) (by decide) (t := .long) (t' := (.object "java/util/List")) (by decide) (by decide)))).other W12 (Or.inr (slot_ne (Or.inr (hw _ (List.mem_of_getElem? (i := 47) rfl))) (Or.inr (hw _ (List.mem_of_getElem? (i := 43) rfl))) (by decide) (t := .long) (t' := .long) (by decide) (by decide)))).other W17 (Or.inr (slot_ne (Or.inr (hw _ (List.mem_of_getElem? (i := 47) rfl))) (Or.inr (hw _ (List.mem_of_getElem? (i := 45) rfl))) (by decide) (t := .long) (t' := .long) (by decide) (by decide))))
  have F20 := (F15.wr W17)
  refine Go.putF C (host := "") (Or.inl (hw _ (List.mem_of_getElem? (i := 46) rfl))) Via.refl F19 F20 (Or.inr ⟨(hw _ (List.mem_of_getElem? (i := 47) rfl)), rfl, rfl⟩) (hw _ (List.mem_of_getElem? (i := 27) rfl)) (ty := .long) (by decide) rfl rfl g0 d5_28 (q := 31) rfl ?_
  intro h21 W22
  have F23 := F19.same W22
  have F24 := ((((F3.other W7 (Or.inr (slot_ne (Or.inr (hw _ (List.mem_of_getElem? (i := 39) rfl))) (Or.inr (hw _ (List.mem_of_getElem? (i := 41) rfl))) (by decide) (t := (.object "java/util/List")) (t' := (.object "java/util/List")) (by decide) (by decide)))).other W12 (Or.inr (slot_ne (Or.inr (hw _ (List.mem_of_getElem? (i := 39) rfl))) (Or.inr (hw _ (List.mem_of_getElem? (i := 43) rfl))) (by decide) (t := (.object "java/util/List")) (t' := .long) (by decide) (by decide)))).other W17 (Or.inr (slot_ne (Or.inr (hw _ (List.mem_of_getElem? (i := 39) rfl))) (Or.inr (hw _ (List.mem_of_getElem? (i := 45) rfl))) (by decide) (t := (.object "java/util/List")) (t' := .long) (by decide) (by decide)))).other W22 (Or.inr (slot_ne (Or.inr (hw _ (List.mem_of_getElem? (i := 39) rfl))) (Or.inr (hw _ (List.mem_of_getElem? (i := 47) rfl))) (by decide) (t := (.object "java/util/List")) (t' := .long) (by decide) (by decide))))
  exact Go.retV C d5_31 (by decide) (by decide) ⟨rfl, ((((((Keep.refl h0 [a]).wr W2 (Or.inl (List.mem_of_getElem? (i := 0) rfl))).wr W7 (Or.inl (List.mem_of_getElem? (i := 0) rfl))).wr W12 (Or.inl (List.mem_of_getElem? (i := 0) rfl))).wr W17 (Or.inl (List.mem_of_getElem? (i := 0) rfl))).wr W22 (Or.inl (List.mem_of_getElem? (i := 0) rfl))), F24⟩
set_option maxRecDepth 65536 in
theorem c_rows (l : Launch) (Z : State) (a0 : Array Value) (hw : ∀ d ∈ tables_1, d.before a0 Z = true) (x : Addr) (y : Addr) (h0 : Heap) (n0 : Nat)  (Z0 : n0 ≤ h0.size) (E_x : Exa Z h0 x "java/util/ArrayList") (E_y : Exa Z h0 y "java/util/ArrayList") : Met1 l Z (⟨"com/example/catrac/catrac/sql/Result", "rows", "(Ljava/util/List;Ljava/util/List;)Lcom/example/catrac/catrac/sql/Result;"⟩ : MethodName) prog_43_method_3_code 2 (some (.object "com/example/catrac/catrac/sql/Result")) [] ({ frames := 3, cells := 1, slots := 5, locals := 45 } : Room) #[(.ref x), (.ref y)] h0 n0 (fun v h => ∃ b : Addr, v = some (.ref b) ∧ Keep h0 h [] ∧ n0 ≤ b ∧ h0.size ≤ b ∧ Exa Z h b "com/example/catrac/catrac/sql/Result" ∧ Fld Z h b "com/example/catrac/catrac/sql/Result" "columns" "Ljava/util/List;" (.ref x)) := by
  refine met_of_go (plainFor_of_name pn_com_example_catrac_catrac_sql_Result) (fun m => ef_8 m x y) ?_
  intro W hl C
  subst hl
  refine Go.newO C (hw _ (List.mem_of_getElem? (i := 56) rfl)) (hw _ (List.mem_of_getElem? (i := 27) rfl)) (hw _ (List.mem_of_getElem? (i := 28) rfl)) d8_0 (q := 3) rfl (k' := 1) rfl (n' := 5) rfl (by decide) (by decide) ?_
  intro h1 a2 g3 E4 A5 D6
  have g7 : n0 ≤ a2 := g3 ▸ Z0
  have y8 : h0.size ≤ a2 := g3 ▸ (Nat.le_refl h0.size)
  have ne9 : x ≠ a2 := Nat.ne_of_lt (g3 ▸ E_x.lt)
  have ne10 : y ≠ a2 := Nat.ne_of_lt (g3 ▸ E_y.lt)
  have F11 : Fld Z h1 a2 "com/example/catrac/catrac/sql/Result" "columns" "Ljava/util/List;" .null := D6 (Or.inr (hw _ (List.mem_of_getElem? (i := 39) rfl))) (ty := (.object "java/util/List")) (by decide)
  have F12 : Fld Z h1 a2 "com/example/catrac/catrac/sql/Result" "rows" "Ljava/util/List;" .null := D6 (Or.inr (hw _ (List.mem_of_getElem? (i := 41) rfl))) (ty := (.object "java/util/List")) (by decide)
  have F13 : Fld Z h1 a2 "com/example/catrac/catrac/sql/Result" "matchedRows" "J" (.long (0 : Int64)) := D6 (Or.inr (hw _ (List.mem_of_getElem? (i := 43) rfl))) (ty := .long) (by decide)
  have F14 : Fld Z h1 a2 "com/example/catrac/catrac/sql/Result" "changedRows" "J" (.long (0 : Int64)) := D6 (Or.inr (hw _ (List.mem_of_getElem? (i := 45) rfl))) (ty := .long) (by decide)
  have F15 : Fld Z h1 a2 "com/example/catrac/catrac/sql/Result" "insertId" "J" (.long (0 : Int64)) := D6 (Or.inr (hw _ (List.mem_of_getElem? (i := 47) rfl))) (ty := .long) (by decide)
  refine Go.dup C d8_3 (q := 4) rfl rfl ?_
  refine Go.aloadN C d8_4 (q := 5) rfl rfl rfl ?_
  refine Go.aloadN C d8_5 (q := 6) rfl rfl rfl ?_
  refine Go.lconst C (0 : Int64) d8_6 (q := 7) rfl rfl ?_
  refine Go.lconst C (0 : Int64) d8_7 (q := 8) rfl rfl ?_
  refine Go.lconst C (0 : Int64) d8_8 (q := 9) rfl rfl ?_
  have F16 := (Nat.le_trans Z0 E4.1)
  refine Go.callC C rfl (hw _ (List.mem_of_getElem? (i := 57) rfl)) (hw _ (List.mem_of_getElem? (i := 30) rfl)) (hw _ (List.mem_of_getElem? (i := 28) rfl)) (hw _ (List.mem_of_getElem? (i := 31) rfl)) (c_res W.l Z a0 hw a2 x y (0 : Int64) (0 : Int64) (0 : Int64) h1 n0 .null .null (.long (0 : Int64)) (.long (0 : Int64)) (.long (0 : Int64)) F16 A5 g7 F11 F12 F13 F14 F15) d8_9 pd__40Ljava_47util_47List_59Ljava_47util_47List_59JJJ_41V (q := 12) rfl rfl (argsL := [(.ref x), (.ref y), (.long (0 : Int64)), (.long (0 : Int64)), (.long (0 : Int64))]) (st := [(.ref a2)]) rfl rfl (w := 1) rfl (by decide) (by decide) (k' := 1) rfl (n' := 5) rfl (by decide) (by decide) ?_
  intro v h17 q
  obtain ⟨rfl, K18, F19⟩ := q
  show Go W n0 (fun v h => ∃ b : Addr, v = some (.ref b) ∧ Keep h0 h [] ∧ n0 ≤ b ∧ h0.size ≤ b ∧ Exa Z h b "com/example/catrac/catrac/sql/Result" ∧ Fld Z h b "com/example/catrac/catrac/sql/Result" "columns" "Ljava/util/List;" (.ref x)) h17 1 5 12 #[.val (.ref x), .val (.ref y)] [(.ref a2)]
  have F20 := (A5.keep K18)
  exact Go.retR C d8_12 rfl rfl rfl (by decide) (by decide) ⟨a2, rfl, (((Keep.refl h0 []).ext E4).trans K18 (allS (Or.inr y8) all0)), g7, y8, F20, F19⟩
set_option maxRecDepth 65536 in
theorem c_changed (l : Launch) (Z : State) (a0 : Array Value) (hw : ∀ d ∈ tables_1, d.before a0 Z = true) (q1 : Int64) (q2 : Int64) (h0 : Heap) (n0 : Nat)  (Z0 : n0 ≤ h0.size)  : Met1 l Z (⟨"com/example/catrac/catrac/sql/Result", "changed", "(JJ)Lcom/example/catrac/catrac/sql/Result;"⟩ : MethodName) prog_43_method_4_code 4 (some (.object "com/example/catrac/catrac/sql/Result")) [] ({ frames := 3, cells := 1, slots := 5, locals := 45 } : Room) #[(.long q1), (.long q2)] h0 n0 (fun v h => ∃ b : Addr, v = some (.ref b) ∧ Keep h0 h [] ∧ n0 ≤ b ∧ h0.size ≤ b ∧ Exa Z h b "com/example/catrac/catrac/sql/Result" ∧ Fld Z h b "com/example/catrac/catrac/sql/Result" "columns" "Ljava/util/List;" .null) := by
  refine met_of_go (plainFor_of_name pn_com_example_catrac_catrac_sql_Result) (fun m => ef_9 m q1 q2) ?_
  intro W hl C
  subst hl
  refine Go.newO C (hw _ (List.mem_of_getElem? (i := 56) rfl)) (hw _ (List.mem_of_getElem? (i := 27) rfl)) (hw _ (List.mem_of_getElem? (i := 28) rfl)) d9_0 (q := 3) rfl (k' := 1) rfl (n' := 5) rfl (by decide) (by decide) ?_
  intro h1 a2 g3 E4 A5 D6
  have g7 : n0 ≤ a2 := g3 ▸ Z0
  have y8 : h0.size ≤ a2 := g3 ▸ (Nat.le_refl h0.size)
  have F9 : Fld Z h1 a2 "com/example/catrac/catrac/sql/Result" "columns" "Ljava/util/List;" .null := D6 (Or.inr (hw _ (List.mem_of_getElem? (i := 39) rfl))) (ty := (.object "java/util/List")) (by decide)
  have F10 : Fld Z h1 a2 "com/example/catrac/catrac/sql/Result" "rows" "Ljava/util/List;" .null := D6 (Or.inr (hw _ (List.mem_of_getElem? (i := 41) rfl))) (ty := (.object "java/util/List")) (by decide)
  have F11 : Fld Z h1 a2 "com/example/catrac/catrac/sql/Result" "matchedRows" "J" (.long (0 : Int64)) := D6 (Or.inr (hw _ (List.mem_of_getElem? (i := 43) rfl))) (ty := .long) (by decide)
  have F12 : Fld Z h1 a2 "com/example/catrac/catrac/sql/Result" "changedRows" "J" (.long (0 : Int64)) := D6 (Or.inr (hw _ (List.mem_of_getElem? (i := 45) rfl))) (ty := .long) (by decide)
  have F13 : Fld Z h1 a2 "com/example/catrac/catrac/sql/Result" "insertId" "J" (.long (0 : Int64)) := D6 (Or.inr (hw _ (List.mem_of_getElem? (i := 47) rfl))) (ty := .long) (by decide)
  refine Go.dup C d9_3 (q := 4) rfl rfl ?_
  refine Go.aconstNull C d9_4 (q := 5) rfl ?_
  refine Go.aconstNull C d9_5 (q := 6) rfl ?_
  refine Go.lloadN C d9_6 (q := 7) rfl rfl ?_
  refine Go.lloadN C d9_7 (q := 8) rfl rfl ?_
  refine Go.lconst C (0 : Int64) d9_8 (q := 9) rfl rfl ?_
  have F14 := (Nat.le_trans Z0 E4.1)
  refine Go.callC C rfl (hw _ (List.mem_of_getElem? (i := 57) rfl)) (hw _ (List.mem_of_getElem? (i := 30) rfl)) (hw _ (List.mem_of_getElem? (i := 28) rfl)) (hw _ (List.mem_of_getElem? (i := 31) rfl)) (c_res_1_2 W.l Z a0 hw a2 q1 q2 (0 : Int64) h1 n0 .null .null (.long (0 : Int64)) (.long (0 : Int64)) (.long (0 : Int64)) F14 A5 g7 F9 F10 F11 F12 F13) d9_9 pd__40Ljava_47util_47List_59Ljava_47util_47List_59JJJ_41V (q := 12) rfl rfl (argsL := [.null, .null, (.long q1), (.long q2), (.long (0 : Int64))]) (st := [(.ref a2)]) rfl rfl (w := 1) rfl (by decide) (by decide) (k' := 1) rfl (n' := 5) rfl (by decide) (by decide) ?_
  intro v h15 q
  obtain ⟨rfl, K16, F17⟩ := q
  show Go W n0 (fun v h => ∃ b : Addr, v = some (.ref b) ∧ Keep h0 h [] ∧ n0 ≤ b ∧ h0.size ≤ b ∧ Exa Z h b "com/example/catrac/catrac/sql/Result" ∧ Fld Z h b "com/example/catrac/catrac/sql/Result" "columns" "Ljava/util/List;" .null) h15 1 5 12 #[.val (.long q1), .second, .val (.long q2), .second] [(.ref a2)]
  have F18 := (A5.keep K16)
  exact Go.retR C d9_12 rfl rfl rfl (by decide) (by decide) ⟨a2, rfl, (((Keep.refl h0 []).ext E4).trans K16 (allS (Or.inr y8) all0)), g7, y8, F18, F17⟩
set_option maxRecDepth 65536 in
theorem c_inserted (l : Launch) (Z : State) (a0 : Array Value) (hw : ∀ d ∈ tables_1, d.before a0 Z = true) (q1 : Int64) (q2 : Int64) (h0 : Heap) (n0 : Nat)  (Z0 : n0 ≤ h0.size)  : Met1 l Z (⟨"com/example/catrac/catrac/sql/Result", "inserted", "(JJ)Lcom/example/catrac/catrac/sql/Result;"⟩ : MethodName) prog_43_method_5_code 4 (some (.object "com/example/catrac/catrac/sql/Result")) [] ({ frames := 3, cells := 1, slots := 5, locals := 45 } : Room) #[(.long q1), (.long q2)] h0 n0 (fun v h => ∃ b : Addr, v = some (.ref b) ∧ Keep h0 h [] ∧ n0 ≤ b ∧ h0.size ≤ b ∧ Exa Z h b "com/example/catrac/catrac/sql/Result" ∧ Fld Z h b "com/example/catrac/catrac/sql/Result" "columns" "Ljava/util/List;" .null) := by
  refine met_of_go (plainFor_of_name pn_com_example_catrac_catrac_sql_Result) (fun m => ef_10 m q1 q2) ?_
  intro W hl C
  subst hl
  refine Go.newO C (hw _ (List.mem_of_getElem? (i := 56) rfl)) (hw _ (List.mem_of_getElem? (i := 27) rfl)) (hw _ (List.mem_of_getElem? (i := 28) rfl)) d10_0 (q := 3) rfl (k' := 1) rfl (n' := 5) rfl (by decide) (by decide) ?_
  intro h1 a2 g3 E4 A5 D6
  have g7 : n0 ≤ a2 := g3 ▸ Z0
  have y8 : h0.size ≤ a2 := g3 ▸ (Nat.le_refl h0.size)
  have F9 : Fld Z h1 a2 "com/example/catrac/catrac/sql/Result" "columns" "Ljava/util/List;" .null := D6 (Or.inr (hw _ (List.mem_of_getElem? (i := 39) rfl))) (ty := (.object "java/util/List")) (by decide)
  have F10 : Fld Z h1 a2 "com/example/catrac/catrac/sql/Result" "rows" "Ljava/util/List;" .null := D6 (Or.inr (hw _ (List.mem_of_getElem? (i := 41) rfl))) (ty := (.object "java/util/List")) (by decide)
  have F11 : Fld Z h1 a2 "com/example/catrac/catrac/sql/Result" "matchedRows" "J" (.long (0 : Int64)) := D6 (Or.inr (hw _ (List.mem_of_getElem? (i := 43) rfl))) (ty := .long) (by decide)
  have F12 : Fld Z h1 a2 "com/example/catrac/catrac/sql/Result" "changedRows" "J" (.long (0 : Int64)) := D6 (Or.inr (hw _ (List.mem_of_getElem? (i := 45) rfl))) (ty := .long) (by decide)
  have F13 : Fld Z h1 a2 "com/example/catrac/catrac/sql/Result" "insertId" "J" (.long (0 : Int64)) := D6 (Or.inr (hw _ (List.mem_of_getElem? (i := 47) rfl))) (ty := .long) (by decide)
  refine Go.dup C d10_3 (q := 4) rfl rfl ?_
  refine Go.aconstNull C d10_4 (q := 5) rfl ?_
  refine Go.aconstNull C d10_5 (q := 6) rfl ?_
  refine Go.lloadN C d10_6 (q := 7) rfl rfl ?_
  refine Go.lloadN C d10_7 (q := 8) rfl rfl ?_
  refine Go.lloadN C d10_8 (q := 9) rfl rfl ?_
  have F14 := (Nat.le_trans Z0 E4.1)
  refine Go.callC C rfl (hw _ (List.mem_of_getElem? (i := 57) rfl)) (hw _ (List.mem_of_getElem? (i := 30) rfl)) (hw _ (List.mem_of_getElem? (i := 28) rfl)) (hw _ (List.mem_of_getElem? (i := 31) rfl)) (c_res_1_2 W.l Z a0 hw a2 q1 q1 q2 h1 n0 .null .null (.long (0 : Int64)) (.long (0 : Int64)) (.long (0 : Int64)) F14 A5 g7 F9 F10 F11 F12 F13) d10_9 pd__40Ljava_47util_47List_59Ljava_47util_47List_59JJJ_41V (q := 12) rfl rfl (argsL := [.null, .null, (.long q1), (.long q1), (.long q2)]) (st := [(.ref a2)]) rfl rfl (w := 1) rfl (by decide) (by decide) (k' := 1) rfl (n' := 5) rfl (by decide) (by decide) ?_
  intro v h15 q
  obtain ⟨rfl, K16, F17⟩ := q
  show Go W n0 (fun v h => ∃ b : Addr, v = some (.ref b) ∧ Keep h0 h [] ∧ n0 ≤ b ∧ h0.size ≤ b ∧ Exa Z h b "com/example/catrac/catrac/sql/Result" ∧ Fld Z h b "com/example/catrac/catrac/sql/Result" "columns" "Ljava/util/List;" .null) h15 1 5 12 #[.val (.long q1), .second, .val (.long q2), .second] [(.ref a2)]
  have F18 := (A5.keep K16)
  exact Go.retR C d10_12 rfl rfl rfl (by decide) (by decide) ⟨a2, rfl, (((Keep.refl h0 []).ext E4).trans K16 (allS (Or.inr y8) all0)), g7, y8, F18, F17⟩
set_option maxRecDepth 65536 in
theorem c_done (l : Launch) (Z : State) (a0 : Array Value) (hw : ∀ d ∈ tables_1, d.before a0 Z = true)  (h0 : Heap) (n0 : Nat) (dn : Addr) (Z0 : n0 ≤ h0.size) (S0 : Sta Z h0 "com/example/catrac/catrac/sql/Result" "DONE" "Lcom/example/catrac/catrac/sql/Result;" (.ref dn)) : Met1 l Z (⟨"com/example/catrac/catrac/sql/Result", "done", "()Lcom/example/catrac/catrac/sql/Result;"⟩ : MethodName) prog_43_method_2_code 0 (some (.object "com/example/catrac/catrac/sql/Result")) [] ({ frames := 0, cells := 0, slots := 0, locals := 0 } : Room) #[] h0 n0 (Ret (.ref dn) h0) := by
  refine met_of_go (plainFor_of_name pn_com_example_catrac_catrac_sql_Result) (fun m => ef_11 m ) ?_
  intro W hl C
  subst hl
  refine Go.getS C (hw _ (List.mem_of_getElem? (i := 67) rfl)) Via.refl S0 d11_0 (q := 3) rfl ?_
  exact Go.retR C d11_3 rfl rfl rfl (by decide) (by decide) ⟨rfl, rfl⟩
set_option maxRecDepth 65536 in
theorem c_has0 (l : Launch) (Z : State) (a0 : Array Value) (hw : ∀ d ∈ tables_1, d.before a0 Z = true) (a : Addr) (h0 : Heap) (n0 : Nat) (u : Addr) (Z0 : n0 ≤ h0.size) (G0 : Fld Z h0 a "com/example/catrac/catrac/sql/Result" "columns" "Ljava/util/List;" (.ref u)) : Met1 l Z (⟨"com/example/catrac/catrac/sql/Result", "hasRows", "()Z"⟩ : MethodName) prog_43_method_6_code 1 (some .boolean) [] ({ frames := 0, cells := 0, slots := 0, locals := 0 } : Room) #[(.ref a)] h0 n0 (Ret (.int 1) h0) := by
  refine met_of_go (plainFor_of_name pn_com_example_catrac_catrac_sql_Result) (fun m => ef_7 m a) ?_
  intro W hl C
  subst hl
  refine Go.aloadN C d7_0 (q := 1) rfl rfl rfl ?_
  refine Go.getF C (host := "") (Or.inl (hw _ (List.mem_of_getElem? (i := 38) rfl))) Via.refl G0 d7_1 (q := 4) rfl ?_
  refine Go.ifnullN C d7_4 (q := 7) rfl ?_
  refine Go.iconst C (1 : Int32) d7_7 (q := 8) rfl rfl ?_
  refine Go.goto C d7_8 (q := 12) (by decide) (by decide) ?_
  exact Go.retZ (t := .boolean) (by simp) C d7_12 (by decide) (by decide) ⟨rfl, rfl⟩
set_option maxRecDepth 65536 in
theorem c_has1 (l : Launch) (Z : State) (a0 : Array Value) (hw : ∀ d ∈ tables_1, d.before a0 Z = true) (a : Addr) (h0 : Heap) (n0 : Nat)  (Z0 : n0 ≤ h0.size) (G0 : Fld Z h0 a "com/example/catrac/catrac/sql/Result" "columns" "Ljava/util/List;" .null) : Met1 l Z (⟨"com/example/catrac/catrac/sql/Result", "hasRows", "()Z"⟩ : MethodName) prog_43_method_6_code 1 (some .boolean) [] ({ frames := 0, cells := 0, slots := 0, locals := 0 } : Room) #[(.ref a)] h0 n0 (Ret (.int 0) h0) := by
  refine met_of_go (plainFor_of_name pn_com_example_catrac_catrac_sql_Result) (fun m => ef_7 m a) ?_
  intro W hl C
  subst hl
  refine Go.aloadN C d7_0 (q := 1) rfl rfl rfl ?_
  refine Go.getF C (host := "") (Or.inl (hw _ (List.mem_of_getElem? (i := 38) rfl))) Via.refl G0 d7_1 (q := 4) rfl ?_
  refine Go.ifnullY C d7_4 (q := 11) (by decide) (by decide) ?_
  refine Go.iconst C (0 : Int32) d7_11 (q := 12) rfl rfl ?_
  exact Go.retZ (t := .boolean) (by simp) C d7_12 (by decide) (by decide) ⟨rfl, rfl⟩
theorem fin0 (p0 : Int32) (p1 : Int64) (p2 : Int64) (p3 : Int64) (v1 : Int32) (hv1 : v1 = (if (p0 &&& (1 : Int32)) = (0 : Int32) then (0 : Int32) else (1 : Int32))) (v4 : Int32) (hv4 : v4 = (if (p0 &&& (2 : Int32)) = (0 : Int32) then (0 : Int32) else (1 : Int32))) (b7 : v1 = (0 : Int32)) (b8 : v4 = (0 : Int32)) (v66 : Int32) (hv66 : v66 = (if (0 : Int32) = v1 then (1 : Int32) else (0 : Int32))) (v84 : Int32) (hv84 : v84 = (v66 &&& (1 : Int32))) (v103 : Int32) (hv103 : v103 = (v84 &&& (1 : Int32))) (v124 : Int32) (hv124 : v124 = (v103 &&& (1 : Int32))) (v129 : Int32) (hv129 : v129 = (v124 &&& (1 : Int32))) : nar .boolean v129 = 1 := by
  have a1 : v1 = 0 ∨ v1 = 1 := by rw [hv1]; split <;> simp
  have e : v66 = 1 := by
    rw [hv66]
    rcases a1 with q | q
    · rw [q]; rfl
    · rw [q] at b7; exact absurd b7 (by decide)
  rw [hv129, hv124, hv103, hv84, e]
  rfl
theorem fin1 (p0 : Int32) (p1 : Int64) (p2 : Int64) (p3 : Int64) (v1 : Int32) (hv1 : v1 = (if (p0 &&& (1 : Int32)) = (0 : Int32) then (0 : Int32) else (1 : Int32))) (v4 : Int32) (hv4 : v4 = (if (p0 &&& (2 : Int32)) = (0 : Int32) then (0 : Int32) else (1 : Int32))) (b7 : v1 = (0 : Int32)) (b8 : ¬ v4 = (0 : Int32)) (v209 : Int32) (hv209 : v209 = (if (0 : Int32) = v1 then (1 : Int32) else (0 : Int32))) (v229 : Int32) (hv229 : v229 = (v209 &&& (1 : Int32))) (v250 : Int32) (hv250 : v250 = (v229 &&& (1 : Int32))) (v273 : Int32) (hv273 : v273 = (v250 &&& (1 : Int32))) (v278 : Int32) (hv278 : v278 = (v273 &&& (1 : Int32))) : nar .boolean v278 = 1 := by
  have a1 : v1 = 0 ∨ v1 = 1 := by rw [hv1]; split <;> simp
  have e : v209 = 1 := by
    rw [hv209]
    rcases a1 with q | q
    · rw [q]; rfl
    · rw [q] at b7; exact absurd b7 (by decide)
  rw [hv278, hv273, hv250, hv229, e]
  rfl
theorem fin2 (p0 : Int32) (p1 : Int64) (p2 : Int64) (p3 : Int64) (v1 : Int32) (hv1 : v1 = (if (p0 &&& (1 : Int32)) = (0 : Int32) then (0 : Int32) else (1 : Int32))) (v4 : Int32) (hv4 : v4 = (if (p0 &&& (2 : Int32)) = (0 : Int32) then (0 : Int32) else (1 : Int32))) (b7 : ¬ v1 = (0 : Int32)) (b293 : v4 = (0 : Int32)) (v359 : Int32) (hv359 : v359 = (if (1 : Int32) = v1 then (1 : Int32) else (0 : Int32))) (v379 : Int32) (hv379 : v379 = (v359 &&& (1 : Int32))) (v400 : Int32) (hv400 : v400 = (v379 &&& (1 : Int32))) (v423 : Int32) (hv423 : v423 = (v400 &&& (1 : Int32))) (v428 : Int32) (hv428 : v428 = (v423 &&& (1 : Int32))) : nar .boolean v428 = 1 := by
  have a1 : v1 = 0 ∨ v1 = 1 := by rw [hv1]; split <;> simp
  have e : v359 = 1 := by
    rw [hv359]
    rcases a1 with q | q
    · exact absurd q b7
    · rw [q]; rfl
  rw [hv428, hv423, hv400, hv379, e]
  rfl
theorem fin3 (p0 : Int32) (p1 : Int64) (p2 : Int64) (p3 : Int64) (v1 : Int32) (hv1 : v1 = (if (p0 &&& (1 : Int32)) = (0 : Int32) then (0 : Int32) else (1 : Int32))) (v4 : Int32) (hv4 : v4 = (if (p0 &&& (2 : Int32)) = (0 : Int32) then (0 : Int32) else (1 : Int32))) (b7 : ¬ v1 = (0 : Int32)) (b293 : ¬ v4 = (0 : Int32)) (v518 : Int32) (hv518 : v518 = (if (1 : Int32) = v1 then (1 : Int32) else (0 : Int32))) (v540 : Int32) (hv540 : v540 = (v518 &&& (1 : Int32))) (v563 : Int32) (hv563 : v563 = (v540 &&& (1 : Int32))) (v588 : Int32) (hv588 : v588 = (v563 &&& (1 : Int32))) (v593 : Int32) (hv593 : v593 = (v588 &&& (1 : Int32))) : nar .boolean v593 = 1 := by
  have a1 : v1 = 0 ∨ v1 = 1 := by rw [hv1]; split <;> simp
  have e : v518 = 1 := by
    rw [hv518]
    rcases a1 with q | q
    · exact absurd q b7
    · rw [q]; rfl
  rw [hv593, hv588, hv563, hv540, e]
  rfl
set_option maxRecDepth 65536 in
set_option maxHeartbeats 4000000 in
theorem rm0 (l : Launch) (Z : State) (a0 : Array Value) (hw : ∀ d ∈ tables_1, d.before a0 Z = true) (p0 : Int32) (p1 : Int64) (p2 : Int64) (p3 : Int64) (h0 : Heap) (n0 : Nat) (Z0 : n0 ≤ h0.size) (d : Addr) (S_d : Sta Z h0 "java/util/ArrayList" "DEFAULTCAPACITY_EMPTY_ELEMENTDATA" "[Ljava/lang/Object;" (.ref d)) (dn : Addr) (S_dn : Sta Z h0 "com/example/catrac/catrac/sql/Result" "DONE" "Lcom/example/catrac/catrac/sql/Result;" (.ref dn)) (E_dn : Exa Z h0 dn "com/example/catrac/catrac/sql/Result") (F_dn : Fld Z h0 dn "com/example/catrac/catrac/sql/Result" "columns" "Ljava/util/List;" .null) : Met1 l Z x code maxLocals ret tables_1 room_1 #[(.int p0), (.long p1), (.long p2), (.long p3)] h0 n0 QL := by
  refine met_of_go (plainFor_of_name pn_com_example_catrac_catrac_sql_ResultHasRowsPinLaw) (fun m => ef_0 m p0 p1 p2 p3) ?_
  intro W hl C
  subst hl
  refine Go.iloadN C at_0 (q := 1) rfl rfl ?_
  refine Go.iconst C (1 : Int32) at_1 (q := 2) rfl rfl ?_
  refine Go.iand C at_2 (q := 3) rfl ?_
  suffices J2 : ∀ v1 : Int32, v1 = (if (p0 &&& (1 : Int32)) = (0 : Int32) then (0 : Int32) else (1 : Int32)) → Go W n0 QL h0 0 0 11 #[.val (.int p0), .val (.long p1), .second, .val (.long p2), .second, .val (.long p3), .second, .unset, .unset, .unset, .unset, .unset, .unset, .unset, .unset] [(.int v1)] by
    refine Go.if0 C at_3 (z_eq _) (qt := 10) (q := 6) (by decide) (by decide) rfl (fun b3 => ?_) (fun b3 => ?_)
    ·
      refine Go.iconst C (0 : Int32) at_10 (q := 11) rfl rfl ?_
      exact J2 _ (by rw [if_pos b3])
    ·
      refine Go.iconst C (1 : Int32) at_6 (q := 7) rfl rfl ?_
      refine Go.goto C at_7 (q := 11) (by decide) (by decide) ?_
      exact J2 _ (by rw [if_neg b3])
  intro v1 hv1
  refine Go.istoreR C at_11 (q := 13) rfl (l' := #[.val (.int p0), .val (.long p1), .second, .val (.long p2), .second, .val (.long p3), .second, .val (.int v1), .unset, .unset, .unset, .unset, .unset, .unset, .unset]) rfl ?_
  refine Go.iloadN C at_13 (q := 14) rfl rfl ?_
  refine Go.iconst C (2 : Int32) at_14 (q := 15) rfl rfl ?_
  refine Go.iand C at_15 (q := 16) rfl ?_
  suffices J5 : ∀ v4 : Int32, v4 = (if (p0 &&& (2 : Int32)) = (0 : Int32) then (0 : Int32) else (1 : Int32)) → Go W n0 QL h0 0 0 24 #[.val (.int p0), .val (.long p1), .second, .val (.long p2), .second, .val (.long p3), .second, .val (.int v1), .unset, .unset, .unset, .unset, .unset, .unset, .unset] [(.int v4)] by
    refine Go.if0 C at_16 (z_eq _) (qt := 23) (q := 19) (by decide) (by decide) rfl (fun b6 => ?_) (fun b6 => ?_)
    ·
      refine Go.iconst C (0 : Int32) at_23 (q := 24) rfl rfl ?_
      exact J5 _ (by rw [if_pos b6])
    ·
      refine Go.iconst C (1 : Int32) at_19 (q := 20) rfl rfl ?_
      refine Go.goto C at_20 (q := 24) (by decide) (by decide) ?_
      exact J5 _ (by rw [if_neg b6])
  intro v4 hv4
  refine Go.istoreR C at_24 (q := 26) rfl (l' := #[.val (.int p0), .val (.long p1), .second, .val (.long p2), .second, .val (.long p3), .second, .val (.int v1), .val (.int v4), .unset, .unset, .unset, .unset, .unset, .unset]) rfl ?_
  refine Go.iload C at_26 (q := 28) rfl rfl ?_
  refine Go.if0 C at_28 (z_eq _) (qt := 41) (q := 31) (by decide) (by decide) rfl (fun b7 => ?_) (fun b7 => ?_)
  ·
    refine Go.aconstNull C at_41 (q := 42) rfl ?_
    refine Go.astore C at_42 (q := 44) rfl (l' := #[.val (.int p0), .val (.long p1), .second, .val (.long p2), .second, .val (.long p3), .second, .val (.int v1), .val (.int v4), .val .null, .unset, .unset, .unset, .unset, .unset]) rfl rfl ?_
    refine Go.iload C at_44 (q := 46) rfl rfl ?_
    refine Go.if0 C at_46 (z_eq _) (qt := 59) (q := 49) (by decide) (by decide) rfl (fun b8 => ?_) (fun b8 => ?_)
    ·
      refine Go.aconstNull C at_59 (q := 60) rfl ?_
      refine Go.astore C at_60 (q := 62) rfl (l' := #[.val (.int p0), .val (.long p1), .second, .val (.long p2), .second, .val (.long p3), .second, .val (.int v1), .val (.int v4), .val .null, .val .null, .unset, .unset, .unset, .unset]) rfl rfl ?_
      refine Go.newO C (hw _ (List.mem_of_getElem? (i := 0) rfl)) (hw _ (List.mem_of_getElem? (i := 1) rfl)) (hw _ (List.mem_of_getElem? (i := 2) rfl)) at_62 (q := 65) rfl (k' := 1) rfl (n' := 3) rfl (by decide) (by decide) ?_
      intro h9 a10 g11 E12 A13 D14
      have g15 : n0 ≤ a10 := g11 ▸ Z0
      have ne16 : dn ≠ a10 := Nat.ne_of_lt (g11 ▸ E_dn.lt)
      have F17 : Fld Z h9 a10 "java/util/AbstractList" "modCount" "I" (.int (0 : Int32)) := D14 (Or.inl (hw _ (List.mem_of_getElem? (i := 22) rfl))) (ty := .int) (by decide)
      have F18 : Fld Z h9 a10 "java/util/ArrayList" "elementData" "[Ljava/lang/Object;" .null := D14 (Or.inl (hw _ (List.mem_of_getElem? (i := 25) rfl))) (ty := (.array (.object "java/lang/Object"))) (by decide)
      refine Go.dup C at_65 (q := 66) rfl rfl ?_
      have F19 := (Nat.le_trans Z0 E12.1)
      have F20 := (S_d.ext E12)
      refine Go.callC C rfl (hw _ (List.mem_of_getElem? (i := 3) rfl)) (hw _ (List.mem_of_getElem? (i := 4) rfl)) (hw _ (List.mem_of_getElem? (i := 2) rfl)) (hw _ (List.mem_of_getElem? (i := 5) rfl)) (c_al W.l Z a0 hw a10 h9 n0 (.int (0 : Int32)) .null d F19 A13 g15 F17 F18 F20) at_66 pd__40_41V (q := 69) rfl rfl (argsL := []) (st := [(.ref a10)]) rfl rfl (w := 1) rfl (by decide) (by decide) (k' := 1) rfl (n' := 3) rfl (by decide) (by decide) ?_
      intro v h21 q
      obtain ⟨rfl, K22⟩ := q
      show Go W n0 QL h21 1 3 69 #[.val (.int p0), .val (.long p1), .second, .val (.long p2), .second, .val (.long p3), .second, .val (.int v1), .val (.int v4), .val .null, .val .null, .unset, .unset, .unset, .unset] [(.ref a10)]
      refine Go.astore C at_69 (q := 71) rfl (l' := #[.val (.int p0), .val (.long p1), .second, .val (.long p2), .second, .val (.long p3), .second, .val (.int v1), .val (.int v4), .val .null, .val .null, .val (.ref a10), .unset, .unset, .unset]) rfl rfl ?_
      refine Go.newO C (hw _ (List.mem_of_getElem? (i := 0) rfl)) (hw _ (List.mem_of_getElem? (i := 1) rfl)) (hw _ (List.mem_of_getElem? (i := 2) rfl)) at_71 (q := 74) rfl (k' := 2) rfl (n' := 6) rfl (by decide) (by decide) ?_
      intro h23 a24 g25 E26 A27 D28
      have F29 := (Nat.le_trans F19 K22.1)
      have g30 : n0 ≤ a24 := g25 ▸ F29
      have F32 := ((E_dn.ext E12).keep K22)
      have ne31 : dn ≠ a24 := Nat.ne_of_lt (g25 ▸ F32.lt)
      have F34 := (A13.keep K22)
      have ne33 : a10 ≠ a24 := Nat.ne_of_lt (g25 ▸ F34.lt)
      have F35 : Fld Z h23 a24 "java/util/AbstractList" "modCount" "I" (.int (0 : Int32)) := D28 (Or.inl (hw _ (List.mem_of_getElem? (i := 22) rfl))) (ty := .int) (by decide)
      have F36 : Fld Z h23 a24 "java/util/ArrayList" "elementData" "[Ljava/lang/Object;" .null := D28 (Or.inl (hw _ (List.mem_of_getElem? (i := 25) rfl))) (ty := (.array (.object "java/lang/Object"))) (by decide)
      refine Go.dup C at_74 (q := 75) rfl rfl ?_
      have F37 := (Nat.le_trans F29 E26.1)
      have F38 := ((own_sta_keep F20 K22 (allS (own_plE A13) all0)).ext E26)
      refine Go.callC C rfl (hw _ (List.mem_of_getElem? (i := 3) rfl)) (hw _ (List.mem_of_getElem? (i := 4) rfl)) (hw _ (List.mem_of_getElem? (i := 2) rfl)) (hw _ (List.mem_of_getElem? (i := 5) rfl)) (c_al W.l Z a0 hw a24 h23 n0 (.int (0 : Int32)) .null d F37 A27 g30 F35 F36 F38) at_75 pd__40_41V (q := 78) rfl rfl (argsL := []) (st := [(.ref a24)]) rfl rfl (w := 1) rfl (by decide) (by decide) (k' := 2) rfl (n' := 6) rfl (by decide) (by decide) ?_
      intro v h39 q
      obtain ⟨rfl, K40⟩ := q
      show Go W n0 QL h39 2 6 78 #[.val (.int p0), .val (.long p1), .second, .val (.long p2), .second, .val (.long p3), .second, .val (.int v1), .val (.int v4), .val .null, .val .null, .val (.ref a10), .unset, .unset, .unset] [(.ref a24)]
      refine Go.astore C at_78 (q := 80) rfl (l' := #[.val (.int p0), .val (.long p1), .second, .val (.long p2), .second, .val (.long p3), .second, .val (.int v1), .val (.int v4), .val .null, .val .null, .val (.ref a10), .val (.ref a24), .unset, .unset]) rfl rfl ?_
      refine Go.newO C (hw _ (List.mem_of_getElem? (i := 26) rfl)) (hw _ (List.mem_of_getElem? (i := 27) rfl)) (hw _ (List.mem_of_getElem? (i := 28) rfl)) at_80 (q := 83) rfl (k' := 3) rfl (n' := 11) rfl (by decide) (by decide) ?_
      intro h41 a42 g43 E44 A45 D46
      have F47 := (Nat.le_trans F37 K40.1)
      have g48 : n0 ≤ a42 := g43 ▸ F47
      have F50 := ((F32.ext E26).keep K40)
      have ne49 : dn ≠ a42 := Nat.ne_of_lt (g43 ▸ F50.lt)
      have F52 := ((F34.ext E26).keep K40)
      have ne51 : a10 ≠ a42 := Nat.ne_of_lt (g43 ▸ F52.lt)
      have F54 := (A27.keep K40)
      have ne53 : a24 ≠ a42 := Nat.ne_of_lt (g43 ▸ F54.lt)
      have F55 : Fld Z h41 a42 "com/example/catrac/catrac/sql/Result" "columns" "Ljava/util/List;" .null := D46 (Or.inr (hw _ (List.mem_of_getElem? (i := 39) rfl))) (ty := (.object "java/util/List")) (by decide)
      have F56 : Fld Z h41 a42 "com/example/catrac/catrac/sql/Result" "rows" "Ljava/util/List;" .null := D46 (Or.inr (hw _ (List.mem_of_getElem? (i := 41) rfl))) (ty := (.object "java/util/List")) (by decide)
      have F57 : Fld Z h41 a42 "com/example/catrac/catrac/sql/Result" "matchedRows" "J" (.long (0 : Int64)) := D46 (Or.inr (hw _ (List.mem_of_getElem? (i := 43) rfl))) (ty := .long) (by decide)
      have F58 : Fld Z h41 a42 "com/example/catrac/catrac/sql/Result" "changedRows" "J" (.long (0 : Int64)) := D46 (Or.inr (hw _ (List.mem_of_getElem? (i := 45) rfl))) (ty := .long) (by decide)
      have F59 : Fld Z h41 a42 "com/example/catrac/catrac/sql/Result" "insertId" "J" (.long (0 : Int64)) := D46 (Or.inr (hw _ (List.mem_of_getElem? (i := 47) rfl))) (ty := .long) (by decide)
      refine Go.dup C at_83 (q := 84) rfl rfl ?_
      refine Go.aload C at_84 (q := 86) rfl rfl rfl ?_
      refine Go.aload C at_86 (q := 88) rfl rfl rfl ?_
      refine Go.lloadN C at_88 (q := 89) rfl rfl ?_
      refine Go.lloadN C at_89 (q := 90) rfl rfl ?_
      refine Go.lload C at_90 (q := 92) rfl rfl ?_
      have F60 := (Nat.le_trans F47 E44.1)
      refine Go.callC C rfl (hw _ (List.mem_of_getElem? (i := 29) rfl)) (hw _ (List.mem_of_getElem? (i := 30) rfl)) (hw _ (List.mem_of_getElem? (i := 28) rfl)) (hw _ (List.mem_of_getElem? (i := 31) rfl)) (c_res_1_2 W.l Z a0 hw a42 p1 p2 p3 h41 n0 .null .null (.long (0 : Int64)) (.long (0 : Int64)) (.long (0 : Int64)) F60 A45 g48 F55 F56 F57 F58 F59) at_92 pd__40Ljava_47util_47List_59Ljava_47util_47List_59JJJ_41V (q := 95) rfl rfl (argsL := [.null, .null, (.long p1), (.long p2), (.long p3)]) (st := [(.ref a42)]) rfl rfl (w := 1) rfl (by decide) (by decide) (k' := 3) rfl (n' := 11) rfl (by decide) (by decide) ?_
      intro v h61 q
      obtain ⟨rfl, K62, F63⟩ := q
      show Go W n0 QL h61 3 11 95 #[.val (.int p0), .val (.long p1), .second, .val (.long p2), .second, .val (.long p3), .second, .val (.int v1), .val (.int v4), .val .null, .val .null, .val (.ref a10), .val (.ref a24), .unset, .unset] [(.ref a42)]
      refine Go.astore C at_95 (q := 97) rfl (l' := #[.val (.int p0), .val (.long p1), .second, .val (.long p2), .second, .val (.long p3), .second, .val (.int v1), .val (.int v4), .val .null, .val .null, .val (.ref a10), .val (.ref a24), .val (.ref a42), .unset]) rfl rfl ?_
      refine Go.aload C at_97 (q := 99) rfl rfl rfl ?_
      have F64 := (A45.keep K62)
      have F65 := (Nat.le_trans F60 K62.1)
      refine Go.pureV C F64 (hw _ (List.mem_of_getElem? (i := 48) rfl)) (hw _ (List.mem_of_getElem? (i := 49) rfl)) (hw _ (List.mem_of_getElem? (i := 51) rfl)) (hw _ (List.mem_of_getElem? (i := 50) rfl)) (hw _ (List.mem_of_getElem? (i := 28) rfl)) (hw _ (List.mem_of_getElem? (i := 52) rfl)) (c_has1 W.l Z a0 hw a42 h61 n0  F65 F63) at_99 pd__40_41Z (q := 102) rfl rfl (argsL := []) (st := []) rfl rfl (w := 0) rfl (by decide) (by decide) (by decide) (by decide) ?_
      refine Go.iload C at_102 (q := 104) rfl rfl ?_
      suffices J67 : ∀ v66 : Int32, v66 = (if (0 : Int32) = v1 then (1 : Int32) else (0 : Int32)) → Go W n0 QL h61 3 11 112 #[.val (.int p0), .val (.long p1), .second, .val (.long p2), .second, .val (.long p3), .second, .val (.int v1), .val (.int v4), .val .null, .val .null, .val (.ref a10), .val (.ref a24), .val (.ref a42), .unset] [(.int v66)] by
        refine Go.icmp C at_104 (n_ne _ _) (qt := 111) (q := 107) (by decide) (by decide) rfl (fun b68 => ?_) (fun b68 => ?_)
        ·
          refine Go.iconst C (0 : Int32) at_111 (q := 112) rfl rfl ?_
          exact J67 _ (by rw [if_neg b68])
        ·
          have b68 := Classical.not_not.mp b68
          refine Go.iconst C (1 : Int32) at_107 (q := 108) rfl rfl ?_
          refine Go.goto C at_108 (q := 112) (by decide) (by decide) ?_
          exact J67 _ (by rw [if_pos b68])
      intro v66 hv66
      refine Go.istoreR C at_112 (q := 114) rfl (l' := #[.val (.int p0), .val (.long p1), .second, .val (.long p2), .second, .val (.long p3), .second, .val (.int v1), .val (.int v4), .val .null, .val .null, .val (.ref a10), .val (.ref a24), .val (.ref a42), .val (.int v66)]) rfl ?_
      refine Go.iload C at_114 (q := 116) rfl rfl ?_
      refine Go.aload C at_116 (q := 118) rfl rfl rfl ?_
      refine Go.aload C at_118 (q := 120) rfl rfl rfl ?_
      have F69 := ((F50.ext E44).keep K62)
      have F70 := ((F52.ext E44).keep K62)
      have F71 := ((F54.ext E44).keep K62)
      refine Go.callS C (hw _ (List.mem_of_getElem? (i := 53) rfl)) (hw _ (List.mem_of_getElem? (i := 54) rfl)) (hw _ (List.mem_of_getElem? (i := 28) rfl)) (hw _ (List.mem_of_getElem? (i := 55) rfl)) (c_rows W.l Z a0 hw a10 a24 h61 n0 F65 F70 F71) at_120 pd__40Ljava_47util_47List_59Ljava_47util_47List_59_41Lcom_47example_47catrac_47catrac_47sql_47Result_59 (q := 123) rfl rfl (argsL := [(.ref a10), (.ref a24)]) (st := [(.int v66)]) rfl rfl (w := 1) rfl (by decide) (by decide) (k' := 4) rfl (n' := 16) rfl (by decide) (by decide) ?_
      intro v h72 q
      obtain ⟨a73, rfl, K74, g75, y76, E77, F78⟩ := q
      have ne79 : dn ≠ a73 := Nat.ne_of_lt (Nat.lt_of_lt_of_le F69.lt y76)
      have ne80 : a10 ≠ a73 := Nat.ne_of_lt (Nat.lt_of_lt_of_le F70.lt y76)
      have ne81 : a24 ≠ a73 := Nat.ne_of_lt (Nat.lt_of_lt_of_le F71.lt y76)
      have ne82 : a42 ≠ a73 := Nat.ne_of_lt (Nat.lt_of_lt_of_le F64.lt y76)
      show Go W n0 QL h72 4 16 123 #[.val (.int p0), .val (.long p1), .second, .val (.long p2), .second, .val (.long p3), .second, .val (.int v1), .val (.int v4), .val .null, .val .null, .val (.ref a10), .val (.ref a24), .val (.ref a42), .val (.int v66)] [(.ref a73), (.int v66)]
      have F83 := (Nat.le_trans F65 K74.1)
      refine Go.pureV C E77 (hw _ (List.mem_of_getElem? (i := 48) rfl)) (hw _ (List.mem_of_getElem? (i := 49) rfl)) (hw _ (List.mem_of_getElem? (i := 51) rfl)) (hw _ (List.mem_of_getElem? (i := 50) rfl)) (hw _ (List.mem_of_getElem? (i := 28) rfl)) (hw _ (List.mem_of_getElem? (i := 52) rfl)) (c_has0 W.l Z a0 hw a73 h72 n0 a10 F83 F78) at_123 pd__40_41Z (q := 126) rfl rfl (argsL := []) (st := [(.int v66)]) rfl rfl (w := 1) rfl (by decide) (by decide) (by decide) (by decide) ?_
      refine Go.iand C at_126 (q := 127) rfl ?_
      refine Go.istore C at_127 (q := 129) rfl (fun z => #[.val (.int p0), .val (.long p1), .second, .val (.long p2), .second, .val (.long p3), .second, .val (.int v1), .val (.int v4), .val .null, .val .null, .val (.ref a10), .val (.ref a24), .val (.ref a42), .val (.int z)]) (fun _ => rfl) ?_
      intro v84 hv84
      refine Go.iload C at_129 (q := 131) rfl rfl ?_
      refine Go.lloadN C at_131 (q := 132) rfl rfl ?_
      refine Go.lloadN C at_132 (q := 133) rfl rfl ?_
      have F85 := (F69.keep K74)
      have F86 := (F70.keep K74)
      have F87 := (F71.keep K74)
      have F88 := (F64.keep K74)
      refine Go.callS C (hw _ (List.mem_of_getElem? (i := 58) rfl)) (hw _ (List.mem_of_getElem? (i := 59) rfl)) (hw _ (List.mem_of_getElem? (i := 28) rfl)) (hw _ (List.mem_of_getElem? (i := 60) rfl)) (c_changed W.l Z a0 hw p1 p2 h72 n0 F83) at_133 pd__40JJ_41Lcom_47example_47catrac_47catrac_47sql_47Result_59 (q := 136) rfl rfl (argsL := [(.long p1), (.long p2)]) (st := [(.int v84)]) rfl rfl (w := 1) rfl (by decide) (by decide) (k' := 5) rfl (n' := 21) rfl (by decide) (by decide) ?_
      intro v h89 q
      obtain ⟨a90, rfl, K91, g92, y93, E94, F95⟩ := q
      have ne96 : dn ≠ a90 := Nat.ne_of_lt (Nat.lt_of_lt_of_le F85.lt y93)
      have ne97 : a10 ≠ a90 := Nat.ne_of_lt (Nat.lt_of_lt_of_le F86.lt y93)
      have ne98 : a24 ≠ a90 := Nat.ne_of_lt (Nat.lt_of_lt_of_le F87.lt y93)
      have ne99 : a42 ≠ a90 := Nat.ne_of_lt (Nat.lt_of_lt_of_le F88.lt y93)
      have ne100 : a73 ≠ a90 := Nat.ne_of_lt (Nat.lt_of_lt_of_le E77.lt y93)
      show Go W n0 QL h89 5 21 136 #[.val (.int p0), .val (.long p1), .second, .val (.long p2), .second, .val (.long p3), .second, .val (.int v1), .val (.int v4), .val .null, .val .null, .val (.ref a10), .val (.ref a24), .val (.ref a42), .val (.int v84)] [(.ref a90), (.int v84)]
      have F101 := (Nat.le_trans F83 K91.1)
      refine Go.pureV C E94 (hw _ (List.mem_of_getElem? (i := 48) rfl)) (hw _ (List.mem_of_getElem? (i := 49) rfl)) (hw _ (List.mem_of_getElem? (i := 51) rfl)) (hw _ (List.mem_of_getElem? (i := 50) rfl)) (hw _ (List.mem_of_getElem? (i := 28) rfl)) (hw _ (List.mem_of_getElem? (i := 52) rfl)) (c_has1 W.l Z a0 hw a90 h89 n0  F101 F95) at_136 pd__40_41Z (q := 139) rfl rfl (argsL := []) (st := [(.int v84)]) rfl rfl (w := 1) rfl (by decide) (by decide) (by decide) (by decide) ?_
      refine Go.if0 C at_139 (z_ne _) (qt := 146) (q := 142) (by decide) (by decide) rfl (fun b102 => absurd b102 (by decide)) (fun _ => ?_)
      refine Go.iconst C (1 : Int32) at_142 (q := 143) rfl rfl ?_
      refine Go.goto C at_143 (q := 147) (by decide) (by decide) ?_
      refine Go.iand C at_147 (q := 148) rfl ?_
      refine Go.istore C at_148 (q := 150) rfl (fun z => #[.val (.int p0), .val (.long p1), .second, .val (.long p2), .second, .val (.long p3), .second, .val (.int v1), .val (.int v4), .val .null, .val .null, .val (.ref a10), .val (.ref a24), .val (.ref a42), .val (.int z)]) (fun _ => rfl) ?_
      intro v103 hv103
      refine Go.iload C at_150 (q := 152) rfl rfl ?_
      refine Go.lloadN C at_152 (q := 153) rfl rfl ?_
      refine Go.lload C at_153 (q := 155) rfl rfl ?_
      have F104 := (F85.keep K91)
      have F105 := (F86.keep K91)
      have F106 := (F87.keep K91)
      have F107 := (F88.keep K91)
      have F108 := (E77.keep K91)
      refine Go.callS C (hw _ (List.mem_of_getElem? (i := 61) rfl)) (hw _ (List.mem_of_getElem? (i := 62) rfl)) (hw _ (List.mem_of_getElem? (i := 28) rfl)) (hw _ (List.mem_of_getElem? (i := 63) rfl)) (c_inserted W.l Z a0 hw p1 p3 h89 n0 F101) at_155 pd__40JJ_41Lcom_47example_47catrac_47catrac_47sql_47Result_59 (q := 158) rfl rfl (argsL := [(.long p1), (.long p3)]) (st := [(.int v103)]) rfl rfl (w := 1) rfl (by decide) (by decide) (k' := 6) rfl (n' := 26) rfl (by decide) (by decide) ?_
      intro v h109 q
      obtain ⟨a110, rfl, K111, g112, y113, E114, F115⟩ := q
      have ne116 : dn ≠ a110 := Nat.ne_of_lt (Nat.lt_of_lt_of_le F104.lt y113)
      have ne117 : a10 ≠ a110 := Nat.ne_of_lt (Nat.lt_of_lt_of_le F105.lt y113)
      have ne118 : a24 ≠ a110 := Nat.ne_of_lt (Nat.lt_of_lt_of_le F106.lt y113)
      have ne119 : a42 ≠ a110 := Nat.ne_of_lt (Nat.lt_of_lt_of_le F107.lt y113)
      have ne120 : a73 ≠ a110 := Nat.ne_of_lt (Nat.lt_of_lt_of_le F108.lt y113)
      have ne121 : a90 ≠ a110 := Nat.ne_of_lt (Nat.lt_of_lt_of_le E94.lt y113)
      show Go W n0 QL h109 6 26 158 #[.val (.int p0), .val (.long p1), .second, .val (.long p2), .second, .val (.long p3), .second, .val (.int v1), .val (.int v4), .val .null, .val .null, .val (.ref a10), .val (.ref a24), .val (.ref a42), .val (.int v103)] [(.ref a110), (.int v103)]
      have F122 := (Nat.le_trans F101 K111.1)
      refine Go.pureV C E114 (hw _ (List.mem_of_getElem? (i := 48) rfl)) (hw _ (List.mem_of_getElem? (i := 49) rfl)) (hw _ (List.mem_of_getElem? (i := 51) rfl)) (hw _ (List.mem_of_getElem? (i := 50) rfl)) (hw _ (List.mem_of_getElem? (i := 28) rfl)) (hw _ (List.mem_of_getElem? (i := 52) rfl)) (c_has1 W.l Z a0 hw a110 h109 n0  F122 F115) at_158 pd__40_41Z (q := 161) rfl rfl (argsL := []) (st := [(.int v103)]) rfl rfl (w := 1) rfl (by decide) (by decide) (by decide) (by decide) ?_
      refine Go.if0 C at_161 (z_ne _) (qt := 168) (q := 164) (by decide) (by decide) rfl (fun b123 => absurd b123 (by decide)) (fun _ => ?_)
      refine Go.iconst C (1 : Int32) at_164 (q := 165) rfl rfl ?_
      refine Go.goto C at_165 (q := 169) (by decide) (by decide) ?_
      refine Go.iand C at_169 (q := 170) rfl ?_
      refine Go.istore C at_170 (q := 172) rfl (fun z => #[.val (.int p0), .val (.long p1), .second, .val (.long p2), .second, .val (.long p3), .second, .val (.int v1), .val (.int v4), .val .null, .val .null, .val (.ref a10), .val (.ref a24), .val (.ref a42), .val (.int z)]) (fun _ => rfl) ?_
      intro v124 hv124
      refine Go.iload C at_172 (q := 174) rfl rfl ?_
      have F125 := (own_sta_keep (own_sta_keep (own_sta_keep (own_sta_keep ((own_sta_keep ((own_sta_keep (S_dn.ext E12) K22 (allS (own_plE A13) all0)).ext E26) K40 (allS (own_plE A27) all0)).ext E44) K62 (allS (own_plE A45) all0)) K74 all0) K91 all0) K111 all0)
      refine Go.callS C (hw _ (List.mem_of_getElem? (i := 64) rfl)) (hw _ (List.mem_of_getElem? (i := 65) rfl)) (hw _ (List.mem_of_getElem? (i := 28) rfl)) (hw _ (List.mem_of_getElem? (i := 66) rfl)) (c_done W.l Z a0 hw  h109 n0 dn F122 F125) at_174 pd__40_41Lcom_47example_47catrac_47catrac_47sql_47Result_59 (q := 177) rfl rfl (argsL := []) (st := [(.int v124)]) rfl rfl (w := 1) rfl (by decide) (by decide) (k' := 6) rfl (n' := 26) rfl (by decide) (by decide) ?_
      intro v h' q
      obtain ⟨rfl, eqh⟩ := q
      rw [eqh]
      show Go W n0 QL h109 6 26 177 #[.val (.int p0), .val (.long p1), .second, .val (.long p2), .second, .val (.long p3), .second, .val (.int v1), .val (.int v4), .val .null, .val .null, .val (.ref a10), .val (.ref a24), .val (.ref a42), .val (.int v124)] [(.ref dn), (.int v124)]
      have F126 := (F104.keep K111)
      have F127 := (((((((((F_dn.ext E12).keep K22 (ninS ne16 nin0)).ext E26).keep K40 (ninS ne31 nin0)).ext E44).keep K62 (ninS ne49 nin0)).keep K74 nin0).keep K91 nin0).keep K111 nin0)
      refine Go.pureV C F126 (hw _ (List.mem_of_getElem? (i := 48) rfl)) (hw _ (List.mem_of_getElem? (i := 49) rfl)) (hw _ (List.mem_of_getElem? (i := 51) rfl)) (hw _ (List.mem_of_getElem? (i := 50) rfl)) (hw _ (List.mem_of_getElem? (i := 28) rfl)) (hw _ (List.mem_of_getElem? (i := 52) rfl)) (c_has1 W.l Z a0 hw dn h109 n0  F122 F127) at_177 pd__40_41Z (q := 180) rfl rfl (argsL := []) (st := [(.int v124)]) rfl rfl (w := 1) rfl (by decide) (by decide) (by decide) (by decide) ?_
      refine Go.if0 C at_180 (z_ne _) (qt := 187) (q := 183) (by decide) (by decide) rfl (fun b128 => absurd b128 (by decide)) (fun _ => ?_)
      refine Go.iconst C (1 : Int32) at_183 (q := 184) rfl rfl ?_
      refine Go.goto C at_184 (q := 188) (by decide) (by decide) ?_
      refine Go.iand C at_188 (q := 189) rfl ?_
      refine Go.istore C at_189 (q := 191) rfl (fun z => #[.val (.int p0), .val (.long p1), .second, .val (.long p2), .second, .val (.long p3), .second, .val (.int v1), .val (.int v4), .val .null, .val .null, .val (.ref a10), .val (.ref a24), .val (.ref a42), .val (.int z)]) (fun _ => rfl) ?_
      intro v129 hv129
      refine Go.iload C at_191 (q := 193) rfl rfl ?_
      exact Go.retZ (t := .boolean) (by simp) C at_193 (by decide) (by decide) (congrArg (fun z => some (Value.int z)) (fin0 p0 p1 p2 p3 v1 hv1 v4 hv4  b7  b8 v66 hv66 v84 hv84 v103 hv103 v124 hv124 v129 hv129))
    ·
      refine Go.newO C (hw _ (List.mem_of_getElem? (i := 0) rfl)) (hw _ (List.mem_of_getElem? (i := 1) rfl)) (hw _ (List.mem_of_getElem? (i := 2) rfl)) at_49 (q := 52) rfl (k' := 1) rfl (n' := 3) rfl (by decide) (by decide) ?_
      intro h130 a131 g132 E133 A134 D135
      have g136 : n0 ≤ a131 := g132 ▸ Z0
      have ne137 : dn ≠ a131 := Nat.ne_of_lt (g132 ▸ E_dn.lt)
      have F138 : Fld Z h130 a131 "java/util/AbstractList" "modCount" "I" (.int (0 : Int32)) := D135 (Or.inl (hw _ (List.mem_of_getElem? (i := 22) rfl))) (ty := .int) (by decide)
      have F139 : Fld Z h130 a131 "java/util/ArrayList" "elementData" "[Ljava/lang/Object;" .null := D135 (Or.inl (hw _ (List.mem_of_getElem? (i := 25) rfl))) (ty := (.array (.object "java/lang/Object"))) (by decide)
      refine Go.dup C at_52 (q := 53) rfl rfl ?_
      have F140 := (Nat.le_trans Z0 E133.1)
      have F141 := (S_d.ext E133)
      refine Go.callC C rfl (hw _ (List.mem_of_getElem? (i := 3) rfl)) (hw _ (List.mem_of_getElem? (i := 4) rfl)) (hw _ (List.mem_of_getElem? (i := 2) rfl)) (hw _ (List.mem_of_getElem? (i := 5) rfl)) (c_al W.l Z a0 hw a131 h130 n0 (.int (0 : Int32)) .null d F140 A134 g136 F138 F139 F141) at_53 pd__40_41V (q := 56) rfl rfl (argsL := []) (st := [(.ref a131)]) rfl rfl (w := 1) rfl (by decide) (by decide) (k' := 1) rfl (n' := 3) rfl (by decide) (by decide) ?_
      intro v h142 q
      obtain ⟨rfl, K143⟩ := q
      show Go W n0 QL h142 1 3 56 #[.val (.int p0), .val (.long p1), .second, .val (.long p2), .second, .val (.long p3), .second, .val (.int v1), .val (.int v4), .val .null, .unset, .unset, .unset, .unset, .unset] [(.ref a131)]
      refine Go.goto C at_56 (q := 60) (by decide) (by decide) ?_
      refine Go.astore C at_60 (q := 62) rfl (l' := #[.val (.int p0), .val (.long p1), .second, .val (.long p2), .second, .val (.long p3), .second, .val (.int v1), .val (.int v4), .val .null, .val (.ref a131), .unset, .unset, .unset, .unset]) rfl rfl ?_
      refine Go.newO C (hw _ (List.mem_of_getElem? (i := 0) rfl)) (hw _ (List.mem_of_getElem? (i := 1) rfl)) (hw _ (List.mem_of_getElem? (i := 2) rfl)) at_62 (q := 65) rfl (k' := 2) rfl (n' := 6) rfl (by decide) (by decide) ?_
      intro h144 a145 g146 E147 A148 D149
      have F150 := (Nat.le_trans F140 K143.1)
      have g151 : n0 ≤ a145 := g146 ▸ F150
      have F153 := ((E_dn.ext E133).keep K143)
      have ne152 : dn ≠ a145 := Nat.ne_of_lt (g146 ▸ F153.lt)
      have F155 := (A134.keep K143)
      have ne154 : a131 ≠ a145 := Nat.ne_of_lt (g146 ▸ F155.lt)
      have F156 : Fld Z h144 a145 "java/util/AbstractList" "modCount" "I" (.int (0 : Int32)) := D149 (Or.inl (hw _ (List.mem_of_getElem? (i := 22) rfl))) (ty := .int) (by decide)
      have F157 : Fld Z h144 a145 "java/util/ArrayList" "elementData" "[Ljava/lang/Object;" .null := D149 (Or.inl (hw _ (List.mem_of_getElem? (i := 25) rfl))) (ty := (.array (.object "java/lang/Object"))) (by decide)
      refine Go.dup C at_65 (q := 66) rfl rfl ?_
      have F158 := (Nat.le_trans F150 E147.1)
      have F159 := ((own_sta_keep F141 K143 (allS (own_plE A134) all0)).ext E147)
      refine Go.callC C rfl (hw _ (List.mem_of_getElem? (i := 3) rfl)) (hw _ (List.mem_of_getElem? (i := 4) rfl)) (hw _ (List.mem_of_getElem? (i := 2) rfl)) (hw _ (List.mem_of_getElem? (i := 5) rfl)) (c_al W.l Z a0 hw a145 h144 n0 (.int (0 : Int32)) .null d F158 A148 g151 F156 F157 F159) at_66 pd__40_41V (q := 69) rfl rfl (argsL := []) (st := [(.ref a145)]) rfl rfl (w := 1) rfl (by decide) (by decide) (k' := 2) rfl (n' := 6) rfl (by decide) (by decide) ?_
      intro v h160 q
      obtain ⟨rfl, K161⟩ := q
      show Go W n0 QL h160 2 6 69 #[.val (.int p0), .val (.long p1), .second, .val (.long p2), .second, .val (.long p3), .second, .val (.int v1), .val (.int v4), .val .null, .val (.ref a131), .unset, .unset, .unset, .unset] [(.ref a145)]
      refine Go.astore C at_69 (q := 71) rfl (l' := #[.val (.int p0), .val (.long p1), .second, .val (.long p2), .second, .val (.long p3), .second, .val (.int v1), .val (.int v4), .val .null, .val (.ref a131), .val (.ref a145), .unset, .unset, .unset]) rfl rfl ?_
      refine Go.newO C (hw _ (List.mem_of_getElem? (i := 0) rfl)) (hw _ (List.mem_of_getElem? (i := 1) rfl)) (hw _ (List.mem_of_getElem? (i := 2) rfl)) at_71 (q := 74) rfl (k' := 3) rfl (n' := 9) rfl (by decide) (by decide) ?_
      intro h162 a163 g164 E165 A166 D167
      have F168 := (Nat.le_trans F158 K161.1)
      have g169 : n0 ≤ a163 := g164 ▸ F168
      have F171 := ((F153.ext E147).keep K161)
      have ne170 : dn ≠ a163 := Nat.ne_of_lt (g164 ▸ F171.lt)
      have F173 := ((F155.ext E147).keep K161)
      have ne172 : a131 ≠ a163 := Nat.ne_of_lt (g164 ▸ F173.lt)
      have F175 := (A148.keep K161)
      have ne174 : a145 ≠ a163 := Nat.ne_of_lt (g164 ▸ F175.lt)
      have F176 : Fld Z h162 a163 "java/util/AbstractList" "modCount" "I" (.int (0 : Int32)) := D167 (Or.inl (hw _ (List.mem_of_getElem? (i := 22) rfl))) (ty := .int) (by decide)
      have F177 : Fld Z h162 a163 "java/util/ArrayList" "elementData" "[Ljava/lang/Object;" .null := D167 (Or.inl (hw _ (List.mem_of_getElem? (i := 25) rfl))) (ty := (.array (.object "java/lang/Object"))) (by decide)
      refine Go.dup C at_74 (q := 75) rfl rfl ?_
      have F178 := (Nat.le_trans F168 E165.1)
      have F179 := ((own_sta_keep F159 K161 (allS (own_plE A148) all0)).ext E165)
      refine Go.callC C rfl (hw _ (List.mem_of_getElem? (i := 3) rfl)) (hw _ (List.mem_of_getElem? (i := 4) rfl)) (hw _ (List.mem_of_getElem? (i := 2) rfl)) (hw _ (List.mem_of_getElem? (i := 5) rfl)) (c_al W.l Z a0 hw a163 h162 n0 (.int (0 : Int32)) .null d F178 A166 g169 F176 F177 F179) at_75 pd__40_41V (q := 78) rfl rfl (argsL := []) (st := [(.ref a163)]) rfl rfl (w := 1) rfl (by decide) (by decide) (k' := 3) rfl (n' := 9) rfl (by decide) (by decide) ?_
      intro v h180 q
      obtain ⟨rfl, K181⟩ := q
      show Go W n0 QL h180 3 9 78 #[.val (.int p0), .val (.long p1), .second, .val (.long p2), .second, .val (.long p3), .second, .val (.int v1), .val (.int v4), .val .null, .val (.ref a131), .val (.ref a145), .unset, .unset, .unset] [(.ref a163)]
      refine Go.astore C at_78 (q := 80) rfl (l' := #[.val (.int p0), .val (.long p1), .second, .val (.long p2), .second, .val (.long p3), .second, .val (.int v1), .val (.int v4), .val .null, .val (.ref a131), .val (.ref a145), .val (.ref a163), .unset, .unset]) rfl rfl ?_
      refine Go.newO C (hw _ (List.mem_of_getElem? (i := 26) rfl)) (hw _ (List.mem_of_getElem? (i := 27) rfl)) (hw _ (List.mem_of_getElem? (i := 28) rfl)) at_80 (q := 83) rfl (k' := 4) rfl (n' := 14) rfl (by decide) (by decide) ?_
      intro h182 a183 g184 E185 A186 D187
      have F188 := (Nat.le_trans F178 K181.1)
      have g189 : n0 ≤ a183 := g184 ▸ F188
      have F191 := ((F171.ext E165).keep K181)
      have ne190 : dn ≠ a183 := Nat.ne_of_lt (g184 ▸ F191.lt)
      have F193 := ((F173.ext E165).keep K181)
      have ne192 : a131 ≠ a183 := Nat.ne_of_lt (g184 ▸ F193.lt)
      have F195 := ((F175.ext E165).keep K181)
      have ne194 : a145 ≠ a183 := Nat.ne_of_lt (g184 ▸ F195.lt)
      have F197 := (A166.keep K181)
      have ne196 : a163 ≠ a183 := Nat.ne_of_lt (g184 ▸ F197.lt)
      have F198 : Fld Z h182 a183 "com/example/catrac/catrac/sql/Result" "columns" "Ljava/util/List;" .null := D187 (Or.inr (hw _ (List.mem_of_getElem? (i := 39) rfl))) (ty := (.object "java/util/List")) (by decide)
      have F199 : Fld Z h182 a183 "com/example/catrac/catrac/sql/Result" "rows" "Ljava/util/List;" .null := D187 (Or.inr (hw _ (List.mem_of_getElem? (i := 41) rfl))) (ty := (.object "java/util/List")) (by decide)
      have F200 : Fld Z h182 a183 "com/example/catrac/catrac/sql/Result" "matchedRows" "J" (.long (0 : Int64)) := D187 (Or.inr (hw _ (List.mem_of_getElem? (i := 43) rfl))) (ty := .long) (by decide)
      have F201 : Fld Z h182 a183 "com/example/catrac/catrac/sql/Result" "changedRows" "J" (.long (0 : Int64)) := D187 (Or.inr (hw _ (List.mem_of_getElem? (i := 45) rfl))) (ty := .long) (by decide)
      have F202 : Fld Z h182 a183 "com/example/catrac/catrac/sql/Result" "insertId" "J" (.long (0 : Int64)) := D187 (Or.inr (hw _ (List.mem_of_getElem? (i := 47) rfl))) (ty := .long) (by decide)
      refine Go.dup C at_83 (q := 84) rfl rfl ?_
      refine Go.aload C at_84 (q := 86) rfl rfl rfl ?_
      refine Go.aload C at_86 (q := 88) rfl rfl rfl ?_
      refine Go.lloadN C at_88 (q := 89) rfl rfl ?_
      refine Go.lloadN C at_89 (q := 90) rfl rfl ?_
      refine Go.lload C at_90 (q := 92) rfl rfl ?_
      have F203 := (Nat.le_trans F188 E185.1)
      refine Go.callC C rfl (hw _ (List.mem_of_getElem? (i := 29) rfl)) (hw _ (List.mem_of_getElem? (i := 30) rfl)) (hw _ (List.mem_of_getElem? (i := 28) rfl)) (hw _ (List.mem_of_getElem? (i := 31) rfl)) (c_res_1 W.l Z a0 hw a183 a131 p1 p2 p3 h182 n0 .null .null (.long (0 : Int64)) (.long (0 : Int64)) (.long (0 : Int64)) F203 A186 g189 F198 F199 F200 F201 F202) at_92 pd__40Ljava_47util_47List_59Ljava_47util_47List_59JJJ_41V (q := 95) rfl rfl (argsL := [.null, (.ref a131), (.long p1), (.long p2), (.long p3)]) (st := [(.ref a183)]) rfl rfl (w := 1) rfl (by decide) (by decide) (k' := 4) rfl (n' := 14) rfl (by decide) (by decide) ?_
      intro v h204 q
      obtain ⟨rfl, K205, F206⟩ := q
      show Go W n0 QL h204 4 14 95 #[.val (.int p0), .val (.long p1), .second, .val (.long p2), .second, .val (.long p3), .second, .val (.int v1), .val (.int v4), .val .null, .val (.ref a131), .val (.ref a145), .val (.ref a163), .unset, .unset] [(.ref a183)]
      refine Go.astore C at_95 (q := 97) rfl (l' := #[.val (.int p0), .val (.long p1), .second, .val (.long p2), .second, .val (.long p3), .second, .val (.int v1), .val (.int v4), .val .null, .val (.ref a131), .val (.ref a145), .val (.ref a163), .val (.ref a183), .unset]) rfl rfl ?_
      refine Go.aload C at_97 (q := 99) rfl rfl rfl ?_
      have F207 := (A186.keep K205)
      have F208 := (Nat.le_trans F203 K205.1)
      refine Go.pureV C F207 (hw _ (List.mem_of_getElem? (i := 48) rfl)) (hw _ (List.mem_of_getElem? (i := 49) rfl)) (hw _ (List.mem_of_getElem? (i := 51) rfl)) (hw _ (List.mem_of_getElem? (i := 50) rfl)) (hw _ (List.mem_of_getElem? (i := 28) rfl)) (hw _ (List.mem_of_getElem? (i := 52) rfl)) (c_has1 W.l Z a0 hw a183 h204 n0  F208 F206) at_99 pd__40_41Z (q := 102) rfl rfl (argsL := []) (st := []) rfl rfl (w := 0) rfl (by decide) (by decide) (by decide) (by decide) ?_
      refine Go.iload C at_102 (q := 104) rfl rfl ?_
      suffices J210 : ∀ v209 : Int32, v209 = (if (0 : Int32) = v1 then (1 : Int32) else (0 : Int32)) → Go W n0 QL h204 4 14 112 #[.val (.int p0), .val (.long p1), .second, .val (.long p2), .second, .val (.long p3), .second, .val (.int v1), .val (.int v4), .val .null, .val (.ref a131), .val (.ref a145), .val (.ref a163), .val (.ref a183), .unset] [(.int v209)] by
        refine Go.icmp C at_104 (n_ne _ _) (qt := 111) (q := 107) (by decide) (by decide) rfl (fun b211 => ?_) (fun b211 => ?_)
        ·
          refine Go.iconst C (0 : Int32) at_111 (q := 112) rfl rfl ?_
          exact J210 _ (by rw [if_neg b211])
        ·
          have b211 := Classical.not_not.mp b211
          refine Go.iconst C (1 : Int32) at_107 (q := 108) rfl rfl ?_
          refine Go.goto C at_108 (q := 112) (by decide) (by decide) ?_
          exact J210 _ (by rw [if_pos b211])
      intro v209 hv209
      refine Go.istoreR C at_112 (q := 114) rfl (l' := #[.val (.int p0), .val (.long p1), .second, .val (.long p2), .second, .val (.long p3), .second, .val (.int v1), .val (.int v4), .val .null, .val (.ref a131), .val (.ref a145), .val (.ref a163), .val (.ref a183), .val (.int v209)]) rfl ?_
      refine Go.iload C at_114 (q := 116) rfl rfl ?_
      refine Go.aload C at_116 (q := 118) rfl rfl rfl ?_
      refine Go.aload C at_118 (q := 120) rfl rfl rfl ?_
      have F212 := ((F191.ext E185).keep K205)
      have F213 := ((F193.ext E185).keep K205)
      have F214 := ((F195.ext E185).keep K205)
      have F215 := ((F197.ext E185).keep K205)
      refine Go.callS C (hw _ (List.mem_of_getElem? (i := 53) rfl)) (hw _ (List.mem_of_getElem? (i := 54) rfl)) (hw _ (List.mem_of_getElem? (i := 28) rfl)) (hw _ (List.mem_of_getElem? (i := 55) rfl)) (c_rows W.l Z a0 hw a145 a163 h204 n0 F208 F214 F215) at_120 pd__40Ljava_47util_47List_59Ljava_47util_47List_59_41Lcom_47example_47catrac_47catrac_47sql_47Result_59 (q := 123) rfl rfl (argsL := [(.ref a145), (.ref a163)]) (st := [(.int v209)]) rfl rfl (w := 1) rfl (by decide) (by decide) (k' := 5) rfl (n' := 19) rfl (by decide) (by decide) ?_
      intro v h216 q
      obtain ⟨a217, rfl, K218, g219, y220, E221, F222⟩ := q
      have ne223 : dn ≠ a217 := Nat.ne_of_lt (Nat.lt_of_lt_of_le F212.lt y220)
      have ne224 : a131 ≠ a217 := Nat.ne_of_lt (Nat.lt_of_lt_of_le F213.lt y220)
      have ne225 : a145 ≠ a217 := Nat.ne_of_lt (Nat.lt_of_lt_of_le F214.lt y220)
      have ne226 : a163 ≠ a217 := Nat.ne_of_lt (Nat.lt_of_lt_of_le F215.lt y220)
      have ne227 : a183 ≠ a217 := Nat.ne_of_lt (Nat.lt_of_lt_of_le F207.lt y220)
      show Go W n0 QL h216 5 19 123 #[.val (.int p0), .val (.long p1), .second, .val (.long p2), .second, .val (.long p3), .second, .val (.int v1), .val (.int v4), .val .null, .val (.ref a131), .val (.ref a145), .val (.ref a163), .val (.ref a183), .val (.int v209)] [(.ref a217), (.int v209)]
      have F228 := (Nat.le_trans F208 K218.1)
      refine Go.pureV C E221 (hw _ (List.mem_of_getElem? (i := 48) rfl)) (hw _ (List.mem_of_getElem? (i := 49) rfl)) (hw _ (List.mem_of_getElem? (i := 51) rfl)) (hw _ (List.mem_of_getElem? (i := 50) rfl)) (hw _ (List.mem_of_getElem? (i := 28) rfl)) (hw _ (List.mem_of_getElem? (i := 52) rfl)) (c_has0 W.l Z a0 hw a217 h216 n0 a145 F228 F222) at_123 pd__40_41Z (q := 126) rfl rfl (argsL := []) (st := [(.int v209)]) rfl rfl (w := 1) rfl (by decide) (by decide) (by decide) (by decide) ?_
      refine Go.iand C at_126 (q := 127) rfl ?_
      refine Go.istore C at_127 (q := 129) rfl (fun z => #[.val (.int p0), .val (.long p1), .second, .val (.long p2), .second, .val (.long p3), .second, .val (.int v1), .val (.int v4), .val .null, .val (.ref a131), .val (.ref a145), .val (.ref a163), .val (.ref a183), .val (.int z)]) (fun _ => rfl) ?_
      intro v229 hv229
      refine Go.iload C at_129 (q := 131) rfl rfl ?_
      refine Go.lloadN C at_131 (q := 132) rfl rfl ?_
      refine Go.lloadN C at_132 (q := 133) rfl rfl ?_
      have F230 := (F212.keep K218)
      have F231 := (F213.keep K218)
      have F232 := (F214.keep K218)
      have F233 := (F215.keep K218)
      have F234 := (F207.keep K218)
      refine Go.callS C (hw _ (List.mem_of_getElem? (i := 58) rfl)) (hw _ (List.mem_of_getElem? (i := 59) rfl)) (hw _ (List.mem_of_getElem? (i := 28) rfl)) (hw _ (List.mem_of_getElem? (i := 60) rfl)) (c_changed W.l Z a0 hw p1 p2 h216 n0 F228) at_133 pd__40JJ_41Lcom_47example_47catrac_47catrac_47sql_47Result_59 (q := 136) rfl rfl (argsL := [(.long p1), (.long p2)]) (st := [(.int v229)]) rfl rfl (w := 1) rfl (by decide) (by decide) (k' := 6) rfl (n' := 24) rfl (by decide) (by decide) ?_
      intro v h235 q
      obtain ⟨a236, rfl, K237, g238, y239, E240, F241⟩ := q
      have ne242 : dn ≠ a236 := Nat.ne_of_lt (Nat.lt_of_lt_of_le F230.lt y239)
      have ne243 : a131 ≠ a236 := Nat.ne_of_lt (Nat.lt_of_lt_of_le F231.lt y239)
      have ne244 : a145 ≠ a236 := Nat.ne_of_lt (Nat.lt_of_lt_of_le F232.lt y239)
      have ne245 : a163 ≠ a236 := Nat.ne_of_lt (Nat.lt_of_lt_of_le F233.lt y239)
      have ne246 : a183 ≠ a236 := Nat.ne_of_lt (Nat.lt_of_lt_of_le F234.lt y239)
      have ne247 : a217 ≠ a236 := Nat.ne_of_lt (Nat.lt_of_lt_of_le E221.lt y239)
      show Go W n0 QL h235 6 24 136 #[.val (.int p0), .val (.long p1), .second, .val (.long p2), .second, .val (.long p3), .second, .val (.int v1), .val (.int v4), .val .null, .val (.ref a131), .val (.ref a145), .val (.ref a163), .val (.ref a183), .val (.int v229)] [(.ref a236), (.int v229)]
      have F248 := (Nat.le_trans F228 K237.1)
      refine Go.pureV C E240 (hw _ (List.mem_of_getElem? (i := 48) rfl)) (hw _ (List.mem_of_getElem? (i := 49) rfl)) (hw _ (List.mem_of_getElem? (i := 51) rfl)) (hw _ (List.mem_of_getElem? (i := 50) rfl)) (hw _ (List.mem_of_getElem? (i := 28) rfl)) (hw _ (List.mem_of_getElem? (i := 52) rfl)) (c_has1 W.l Z a0 hw a236 h235 n0  F248 F241) at_136 pd__40_41Z (q := 139) rfl rfl (argsL := []) (st := [(.int v229)]) rfl rfl (w := 1) rfl (by decide) (by decide) (by decide) (by decide) ?_
      refine Go.if0 C at_139 (z_ne _) (qt := 146) (q := 142) (by decide) (by decide) rfl (fun b249 => absurd b249 (by decide)) (fun _ => ?_)
      refine Go.iconst C (1 : Int32) at_142 (q := 143) rfl rfl ?_
      refine Go.goto C at_143 (q := 147) (by decide) (by decide) ?_
      refine Go.iand C at_147 (q := 148) rfl ?_
      refine Go.istore C at_148 (q := 150) rfl (fun z => #[.val (.int p0), .val (.long p1), .second, .val (.long p2), .second, .val (.long p3), .second, .val (.int v1), .val (.int v4), .val .null, .val (.ref a131), .val (.ref a145), .val (.ref a163), .val (.ref a183), .val (.int z)]) (fun _ => rfl) ?_
      intro v250 hv250
      refine Go.iload C at_150 (q := 152) rfl rfl ?_
      refine Go.lloadN C at_152 (q := 153) rfl rfl ?_
      refine Go.lload C at_153 (q := 155) rfl rfl ?_
      have F251 := (F230.keep K237)
      have F252 := (F231.keep K237)
      have F253 := (F232.keep K237)
      have F254 := (F233.keep K237)
      have F255 := (F234.keep K237)
      have F256 := (E221.keep K237)
      refine Go.callS C (hw _ (List.mem_of_getElem? (i := 61) rfl)) (hw _ (List.mem_of_getElem? (i := 62) rfl)) (hw _ (List.mem_of_getElem? (i := 28) rfl)) (hw _ (List.mem_of_getElem? (i := 63) rfl)) (c_inserted W.l Z a0 hw p1 p3 h235 n0 F248) at_155 pd__40JJ_41Lcom_47example_47catrac_47catrac_47sql_47Result_59 (q := 158) rfl rfl (argsL := [(.long p1), (.long p3)]) (st := [(.int v250)]) rfl rfl (w := 1) rfl (by decide) (by decide) (k' := 7) rfl (n' := 29) rfl (by decide) (by decide) ?_
      intro v h257 q
      obtain ⟨a258, rfl, K259, g260, y261, E262, F263⟩ := q
      have ne264 : dn ≠ a258 := Nat.ne_of_lt (Nat.lt_of_lt_of_le F251.lt y261)
      have ne265 : a131 ≠ a258 := Nat.ne_of_lt (Nat.lt_of_lt_of_le F252.lt y261)
      have ne266 : a145 ≠ a258 := Nat.ne_of_lt (Nat.lt_of_lt_of_le F253.lt y261)
      have ne267 : a163 ≠ a258 := Nat.ne_of_lt (Nat.lt_of_lt_of_le F254.lt y261)
      have ne268 : a183 ≠ a258 := Nat.ne_of_lt (Nat.lt_of_lt_of_le F255.lt y261)
      have ne269 : a217 ≠ a258 := Nat.ne_of_lt (Nat.lt_of_lt_of_le F256.lt y261)
      have ne270 : a236 ≠ a258 := Nat.ne_of_lt (Nat.lt_of_lt_of_le E240.lt y261)
      show Go W n0 QL h257 7 29 158 #[.val (.int p0), .val (.long p1), .second, .val (.long p2), .second, .val (.long p3), .second, .val (.int v1), .val (.int v4), .val .null, .val (.ref a131), .val (.ref a145), .val (.ref a163), .val (.ref a183), .val (.int v250)] [(.ref a258), (.int v250)]
      have F271 := (Nat.le_trans F248 K259.1)
      refine Go.pureV C E262 (hw _ (List.mem_of_getElem? (i := 48) rfl)) (hw _ (List.mem_of_getElem? (i := 49) rfl)) (hw _ (List.mem_of_getElem? (i := 51) rfl)) (hw _ (List.mem_of_getElem? (i := 50) rfl)) (hw _ (List.mem_of_getElem? (i := 28) rfl)) (hw _ (List.mem_of_getElem? (i := 52) rfl)) (c_has1 W.l Z a0 hw a258 h257 n0  F271 F263) at_158 pd__40_41Z (q := 161) rfl rfl (argsL := []) (st := [(.int v250)]) rfl rfl (w := 1) rfl (by decide) (by decide) (by decide) (by decide) ?_
      refine Go.if0 C at_161 (z_ne _) (qt := 168) (q := 164) (by decide) (by decide) rfl (fun b272 => absurd b272 (by decide)) (fun _ => ?_)
      refine Go.iconst C (1 : Int32) at_164 (q := 165) rfl rfl ?_
      refine Go.goto C at_165 (q := 169) (by decide) (by decide) ?_
      refine Go.iand C at_169 (q := 170) rfl ?_
      refine Go.istore C at_170 (q := 172) rfl (fun z => #[.val (.int p0), .val (.long p1), .second, .val (.long p2), .second, .val (.long p3), .second, .val (.int v1), .val (.int v4), .val .null, .val (.ref a131), .val (.ref a145), .val (.ref a163), .val (.ref a183), .val (.int z)]) (fun _ => rfl) ?_
      intro v273 hv273
      refine Go.iload C at_172 (q := 174) rfl rfl ?_
      have F274 := (own_sta_keep (own_sta_keep (own_sta_keep (own_sta_keep ((own_sta_keep ((own_sta_keep ((own_sta_keep (S_dn.ext E133) K143 (allS (own_plE A134) all0)).ext E147) K161 (allS (own_plE A148) all0)).ext E165) K181 (allS (own_plE A166) all0)).ext E185) K205 (allS (own_plE A186) all0)) K218 all0) K237 all0) K259 all0)
      refine Go.callS C (hw _ (List.mem_of_getElem? (i := 64) rfl)) (hw _ (List.mem_of_getElem? (i := 65) rfl)) (hw _ (List.mem_of_getElem? (i := 28) rfl)) (hw _ (List.mem_of_getElem? (i := 66) rfl)) (c_done W.l Z a0 hw  h257 n0 dn F271 F274) at_174 pd__40_41Lcom_47example_47catrac_47catrac_47sql_47Result_59 (q := 177) rfl rfl (argsL := []) (st := [(.int v273)]) rfl rfl (w := 1) rfl (by decide) (by decide) (k' := 7) rfl (n' := 29) rfl (by decide) (by decide) ?_
      intro v h' q
      obtain ⟨rfl, eqh⟩ := q
      rw [eqh]
      show Go W n0 QL h257 7 29 177 #[.val (.int p0), .val (.long p1), .second, .val (.long p2), .second, .val (.long p3), .second, .val (.int v1), .val (.int v4), .val .null, .val (.ref a131), .val (.ref a145), .val (.ref a163), .val (.ref a183), .val (.int v273)] [(.ref dn), (.int v273)]
      have F275 := (F251.keep K259)
      have F276 := (((((((((((F_dn.ext E133).keep K143 (ninS ne137 nin0)).ext E147).keep K161 (ninS ne152 nin0)).ext E165).keep K181 (ninS ne170 nin0)).ext E185).keep K205 (ninS ne190 nin0)).keep K218 nin0).keep K237 nin0).keep K259 nin0)
      refine Go.pureV C F275 (hw _ (List.mem_of_getElem? (i := 48) rfl)) (hw _ (List.mem_of_getElem? (i := 49) rfl)) (hw _ (List.mem_of_getElem? (i := 51) rfl)) (hw _ (List.mem_of_getElem? (i := 50) rfl)) (hw _ (List.mem_of_getElem? (i := 28) rfl)) (hw _ (List.mem_of_getElem? (i := 52) rfl)) (c_has1 W.l Z a0 hw dn h257 n0  F271 F276) at_177 pd__40_41Z (q := 180) rfl rfl (argsL := []) (st := [(.int v273)]) rfl rfl (w := 1) rfl (by decide) (by decide) (by decide) (by decide) ?_
      refine Go.if0 C at_180 (z_ne _) (qt := 187) (q := 183) (by decide) (by decide) rfl (fun b277 => absurd b277 (by decide)) (fun _ => ?_)
      refine Go.iconst C (1 : Int32) at_183 (q := 184) rfl rfl ?_
      refine Go.goto C at_184 (q := 188) (by decide) (by decide) ?_
      refine Go.iand C at_188 (q := 189) rfl ?_
      refine Go.istore C at_189 (q := 191) rfl (fun z => #[.val (.int p0), .val (.long p1), .second, .val (.long p2), .second, .val (.long p3), .second, .val (.int v1), .val (.int v4), .val .null, .val (.ref a131), .val (.ref a145), .val (.ref a163), .val (.ref a183), .val (.int z)]) (fun _ => rfl) ?_
      intro v278 hv278
      refine Go.iload C at_191 (q := 193) rfl rfl ?_
      exact Go.retZ (t := .boolean) (by simp) C at_193 (by decide) (by decide) (congrArg (fun z => some (Value.int z)) (fin1 p0 p1 p2 p3 v1 hv1 v4 hv4  b7  b8 v209 hv209 v229 hv229 v250 hv250 v273 hv273 v278 hv278))
  ·
    refine Go.newO C (hw _ (List.mem_of_getElem? (i := 0) rfl)) (hw _ (List.mem_of_getElem? (i := 1) rfl)) (hw _ (List.mem_of_getElem? (i := 2) rfl)) at_31 (q := 34) rfl (k' := 1) rfl (n' := 3) rfl (by decide) (by decide) ?_
    intro h279 a280 g281 E282 A283 D284
    have g285 : n0 ≤ a280 := g281 ▸ Z0
    have ne286 : dn ≠ a280 := Nat.ne_of_lt (g281 ▸ E_dn.lt)
    have F287 : Fld Z h279 a280 "java/util/AbstractList" "modCount" "I" (.int (0 : Int32)) := D284 (Or.inl (hw _ (List.mem_of_getElem? (i := 22) rfl))) (ty := .int) (by decide)
    have F288 : Fld Z h279 a280 "java/util/ArrayList" "elementData" "[Ljava/lang/Object;" .null := D284 (Or.inl (hw _ (List.mem_of_getElem? (i := 25) rfl))) (ty := (.array (.object "java/lang/Object"))) (by decide)
    refine Go.dup C at_34 (q := 35) rfl rfl ?_
    have F289 := (Nat.le_trans Z0 E282.1)
    have F290 := (S_d.ext E282)
    refine Go.callC C rfl (hw _ (List.mem_of_getElem? (i := 3) rfl)) (hw _ (List.mem_of_getElem? (i := 4) rfl)) (hw _ (List.mem_of_getElem? (i := 2) rfl)) (hw _ (List.mem_of_getElem? (i := 5) rfl)) (c_al W.l Z a0 hw a280 h279 n0 (.int (0 : Int32)) .null d F289 A283 g285 F287 F288 F290) at_35 pd__40_41V (q := 38) rfl rfl (argsL := []) (st := [(.ref a280)]) rfl rfl (w := 1) rfl (by decide) (by decide) (k' := 1) rfl (n' := 3) rfl (by decide) (by decide) ?_
    intro v h291 q
    obtain ⟨rfl, K292⟩ := q
    show Go W n0 QL h291 1 3 38 #[.val (.int p0), .val (.long p1), .second, .val (.long p2), .second, .val (.long p3), .second, .val (.int v1), .val (.int v4), .unset, .unset, .unset, .unset, .unset, .unset] [(.ref a280)]
    refine Go.goto C at_38 (q := 42) (by decide) (by decide) ?_
    refine Go.astore C at_42 (q := 44) rfl (l' := #[.val (.int p0), .val (.long p1), .second, .val (.long p2), .second, .val (.long p3), .second, .val (.int v1), .val (.int v4), .val (.ref a280), .unset, .unset, .unset, .unset, .unset]) rfl rfl ?_
    refine Go.iload C at_44 (q := 46) rfl rfl ?_
    refine Go.if0 C at_46 (z_eq _) (qt := 59) (q := 49) (by decide) (by decide) rfl (fun b293 => ?_) (fun b293 => ?_)
    ·
      refine Go.aconstNull C at_59 (q := 60) rfl ?_
      refine Go.astore C at_60 (q := 62) rfl (l' := #[.val (.int p0), .val (.long p1), .second, .val (.long p2), .second, .val (.long p3), .second, .val (.int v1), .val (.int v4), .val (.ref a280), .val .null, .unset, .unset, .unset, .unset]) rfl rfl ?_
      refine Go.newO C (hw _ (List.mem_of_getElem? (i := 0) rfl)) (hw _ (List.mem_of_getElem? (i := 1) rfl)) (hw _ (List.mem_of_getElem? (i := 2) rfl)) at_62 (q := 65) rfl (k' := 2) rfl (n' := 6) rfl (by decide) (by decide) ?_
      intro h294 a295 g296 E297 A298 D299
      have F300 := (Nat.le_trans F289 K292.1)
      have g301 : n0 ≤ a295 := g296 ▸ F300
      have F303 := ((E_dn.ext E282).keep K292)
      have ne302 : dn ≠ a295 := Nat.ne_of_lt (g296 ▸ F303.lt)
      have F305 := (A283.keep K292)
      have ne304 : a280 ≠ a295 := Nat.ne_of_lt (g296 ▸ F305.lt)
      have F306 : Fld Z h294 a295 "java/util/AbstractList" "modCount" "I" (.int (0 : Int32)) := D299 (Or.inl (hw _ (List.mem_of_getElem? (i := 22) rfl))) (ty := .int) (by decide)
      have F307 : Fld Z h294 a295 "java/util/ArrayList" "elementData" "[Ljava/lang/Object;" .null := D299 (Or.inl (hw _ (List.mem_of_getElem? (i := 25) rfl))) (ty := (.array (.object "java/lang/Object"))) (by decide)
      refine Go.dup C at_65 (q := 66) rfl rfl ?_
      have F308 := (Nat.le_trans F300 E297.1)
      have F309 := ((own_sta_keep F290 K292 (allS (own_plE A283) all0)).ext E297)
      refine Go.callC C rfl (hw _ (List.mem_of_getElem? (i := 3) rfl)) (hw _ (List.mem_of_getElem? (i := 4) rfl)) (hw _ (List.mem_of_getElem? (i := 2) rfl)) (hw _ (List.mem_of_getElem? (i := 5) rfl)) (c_al W.l Z a0 hw a295 h294 n0 (.int (0 : Int32)) .null d F308 A298 g301 F306 F307 F309) at_66 pd__40_41V (q := 69) rfl rfl (argsL := []) (st := [(.ref a295)]) rfl rfl (w := 1) rfl (by decide) (by decide) (k' := 2) rfl (n' := 6) rfl (by decide) (by decide) ?_
      intro v h310 q
      obtain ⟨rfl, K311⟩ := q
      show Go W n0 QL h310 2 6 69 #[.val (.int p0), .val (.long p1), .second, .val (.long p2), .second, .val (.long p3), .second, .val (.int v1), .val (.int v4), .val (.ref a280), .val .null, .unset, .unset, .unset, .unset] [(.ref a295)]
      refine Go.astore C at_69 (q := 71) rfl (l' := #[.val (.int p0), .val (.long p1), .second, .val (.long p2), .second, .val (.long p3), .second, .val (.int v1), .val (.int v4), .val (.ref a280), .val .null, .val (.ref a295), .unset, .unset, .unset]) rfl rfl ?_
      refine Go.newO C (hw _ (List.mem_of_getElem? (i := 0) rfl)) (hw _ (List.mem_of_getElem? (i := 1) rfl)) (hw _ (List.mem_of_getElem? (i := 2) rfl)) at_71 (q := 74) rfl (k' := 3) rfl (n' := 9) rfl (by decide) (by decide) ?_
      intro h312 a313 g314 E315 A316 D317
      have F318 := (Nat.le_trans F308 K311.1)
      have g319 : n0 ≤ a313 := g314 ▸ F318
      have F321 := ((F303.ext E297).keep K311)
      have ne320 : dn ≠ a313 := Nat.ne_of_lt (g314 ▸ F321.lt)
      have F323 := ((F305.ext E297).keep K311)
      have ne322 : a280 ≠ a313 := Nat.ne_of_lt (g314 ▸ F323.lt)
      have F325 := (A298.keep K311)
      have ne324 : a295 ≠ a313 := Nat.ne_of_lt (g314 ▸ F325.lt)
      have F326 : Fld Z h312 a313 "java/util/AbstractList" "modCount" "I" (.int (0 : Int32)) := D317 (Or.inl (hw _ (List.mem_of_getElem? (i := 22) rfl))) (ty := .int) (by decide)
      have F327 : Fld Z h312 a313 "java/util/ArrayList" "elementData" "[Ljava/lang/Object;" .null := D317 (Or.inl (hw _ (List.mem_of_getElem? (i := 25) rfl))) (ty := (.array (.object "java/lang/Object"))) (by decide)
      refine Go.dup C at_74 (q := 75) rfl rfl ?_
      have F328 := (Nat.le_trans F318 E315.1)
      have F329 := ((own_sta_keep F309 K311 (allS (own_plE A298) all0)).ext E315)
      refine Go.callC C rfl (hw _ (List.mem_of_getElem? (i := 3) rfl)) (hw _ (List.mem_of_getElem? (i := 4) rfl)) (hw _ (List.mem_of_getElem? (i := 2) rfl)) (hw _ (List.mem_of_getElem? (i := 5) rfl)) (c_al W.l Z a0 hw a313 h312 n0 (.int (0 : Int32)) .null d F328 A316 g319 F326 F327 F329) at_75 pd__40_41V (q := 78) rfl rfl (argsL := []) (st := [(.ref a313)]) rfl rfl (w := 1) rfl (by decide) (by decide) (k' := 3) rfl (n' := 9) rfl (by decide) (by decide) ?_
      intro v h330 q
      obtain ⟨rfl, K331⟩ := q
      show Go W n0 QL h330 3 9 78 #[.val (.int p0), .val (.long p1), .second, .val (.long p2), .second, .val (.long p3), .second, .val (.int v1), .val (.int v4), .val (.ref a280), .val .null, .val (.ref a295), .unset, .unset, .unset] [(.ref a313)]
      refine Go.astore C at_78 (q := 80) rfl (l' := #[.val (.int p0), .val (.long p1), .second, .val (.long p2), .second, .val (.long p3), .second, .val (.int v1), .val (.int v4), .val (.ref a280), .val .null, .val (.ref a295), .val (.ref a313), .unset, .unset]) rfl rfl ?_
      refine Go.newO C (hw _ (List.mem_of_getElem? (i := 26) rfl)) (hw _ (List.mem_of_getElem? (i := 27) rfl)) (hw _ (List.mem_of_getElem? (i := 28) rfl)) at_80 (q := 83) rfl (k' := 4) rfl (n' := 14) rfl (by decide) (by decide) ?_
      intro h332 a333 g334 E335 A336 D337
      have F338 := (Nat.le_trans F328 K331.1)
      have g339 : n0 ≤ a333 := g334 ▸ F338
      have F341 := ((F321.ext E315).keep K331)
      have ne340 : dn ≠ a333 := Nat.ne_of_lt (g334 ▸ F341.lt)
      have F343 := ((F323.ext E315).keep K331)
      have ne342 : a280 ≠ a333 := Nat.ne_of_lt (g334 ▸ F343.lt)
      have F345 := ((F325.ext E315).keep K331)
      have ne344 : a295 ≠ a333 := Nat.ne_of_lt (g334 ▸ F345.lt)
      have F347 := (A316.keep K331)
      have ne346 : a313 ≠ a333 := Nat.ne_of_lt (g334 ▸ F347.lt)
      have F348 : Fld Z h332 a333 "com/example/catrac/catrac/sql/Result" "columns" "Ljava/util/List;" .null := D337 (Or.inr (hw _ (List.mem_of_getElem? (i := 39) rfl))) (ty := (.object "java/util/List")) (by decide)
      have F349 : Fld Z h332 a333 "com/example/catrac/catrac/sql/Result" "rows" "Ljava/util/List;" .null := D337 (Or.inr (hw _ (List.mem_of_getElem? (i := 41) rfl))) (ty := (.object "java/util/List")) (by decide)
      have F350 : Fld Z h332 a333 "com/example/catrac/catrac/sql/Result" "matchedRows" "J" (.long (0 : Int64)) := D337 (Or.inr (hw _ (List.mem_of_getElem? (i := 43) rfl))) (ty := .long) (by decide)
      have F351 : Fld Z h332 a333 "com/example/catrac/catrac/sql/Result" "changedRows" "J" (.long (0 : Int64)) := D337 (Or.inr (hw _ (List.mem_of_getElem? (i := 45) rfl))) (ty := .long) (by decide)
      have F352 : Fld Z h332 a333 "com/example/catrac/catrac/sql/Result" "insertId" "J" (.long (0 : Int64)) := D337 (Or.inr (hw _ (List.mem_of_getElem? (i := 47) rfl))) (ty := .long) (by decide)
      refine Go.dup C at_83 (q := 84) rfl rfl ?_
      refine Go.aload C at_84 (q := 86) rfl rfl rfl ?_
      refine Go.aload C at_86 (q := 88) rfl rfl rfl ?_
      refine Go.lloadN C at_88 (q := 89) rfl rfl ?_
      refine Go.lloadN C at_89 (q := 90) rfl rfl ?_
      refine Go.lload C at_90 (q := 92) rfl rfl ?_
      have F353 := (Nat.le_trans F338 E335.1)
      refine Go.callC C rfl (hw _ (List.mem_of_getElem? (i := 29) rfl)) (hw _ (List.mem_of_getElem? (i := 30) rfl)) (hw _ (List.mem_of_getElem? (i := 28) rfl)) (hw _ (List.mem_of_getElem? (i := 31) rfl)) (c_res_2 W.l Z a0 hw a333 a280 p1 p2 p3 h332 n0 .null .null (.long (0 : Int64)) (.long (0 : Int64)) (.long (0 : Int64)) F353 A336 g339 F348 F349 F350 F351 F352) at_92 pd__40Ljava_47util_47List_59Ljava_47util_47List_59JJJ_41V (q := 95) rfl rfl (argsL := [(.ref a280), .null, (.long p1), (.long p2), (.long p3)]) (st := [(.ref a333)]) rfl rfl (w := 1) rfl (by decide) (by decide) (k' := 4) rfl (n' := 14) rfl (by decide) (by decide) ?_
      intro v h354 q
      obtain ⟨rfl, K355, F356⟩ := q
      show Go W n0 QL h354 4 14 95 #[.val (.int p0), .val (.long p1), .second, .val (.long p2), .second, .val (.long p3), .second, .val (.int v1), .val (.int v4), .val (.ref a280), .val .null, .val (.ref a295), .val (.ref a313), .unset, .unset] [(.ref a333)]
      refine Go.astore C at_95 (q := 97) rfl (l' := #[.val (.int p0), .val (.long p1), .second, .val (.long p2), .second, .val (.long p3), .second, .val (.int v1), .val (.int v4), .val (.ref a280), .val .null, .val (.ref a295), .val (.ref a313), .val (.ref a333), .unset]) rfl rfl ?_
      refine Go.aload C at_97 (q := 99) rfl rfl rfl ?_
      have F357 := (A336.keep K355)
      have F358 := (Nat.le_trans F353 K355.1)
      refine Go.pureV C F357 (hw _ (List.mem_of_getElem? (i := 48) rfl)) (hw _ (List.mem_of_getElem? (i := 49) rfl)) (hw _ (List.mem_of_getElem? (i := 51) rfl)) (hw _ (List.mem_of_getElem? (i := 50) rfl)) (hw _ (List.mem_of_getElem? (i := 28) rfl)) (hw _ (List.mem_of_getElem? (i := 52) rfl)) (c_has0 W.l Z a0 hw a333 h354 n0 a280 F358 F356) at_99 pd__40_41Z (q := 102) rfl rfl (argsL := []) (st := []) rfl rfl (w := 0) rfl (by decide) (by decide) (by decide) (by decide) ?_
      refine Go.iload C at_102 (q := 104) rfl rfl ?_
      suffices J360 : ∀ v359 : Int32, v359 = (if (1 : Int32) = v1 then (1 : Int32) else (0 : Int32)) → Go W n0 QL h354 4 14 112 #[.val (.int p0), .val (.long p1), .second, .val (.long p2), .second, .val (.long p3), .second, .val (.int v1), .val (.int v4), .val (.ref a280), .val .null, .val (.ref a295), .val (.ref a313), .val (.ref a333), .unset] [(.int v359)] by
        refine Go.icmp C at_104 (n_ne _ _) (qt := 111) (q := 107) (by decide) (by decide) rfl (fun b361 => ?_) (fun b361 => ?_)
        ·
          refine Go.iconst C (0 : Int32) at_111 (q := 112) rfl rfl ?_
          exact J360 _ (by rw [if_neg b361])
        ·
          have b361 := Classical.not_not.mp b361
          refine Go.iconst C (1 : Int32) at_107 (q := 108) rfl rfl ?_
          refine Go.goto C at_108 (q := 112) (by decide) (by decide) ?_
          exact J360 _ (by rw [if_pos b361])
      intro v359 hv359
      refine Go.istoreR C at_112 (q := 114) rfl (l' := #[.val (.int p0), .val (.long p1), .second, .val (.long p2), .second, .val (.long p3), .second, .val (.int v1), .val (.int v4), .val (.ref a280), .val .null, .val (.ref a295), .val (.ref a313), .val (.ref a333), .val (.int v359)]) rfl ?_
      refine Go.iload C at_114 (q := 116) rfl rfl ?_
      refine Go.aload C at_116 (q := 118) rfl rfl rfl ?_
      refine Go.aload C at_118 (q := 120) rfl rfl rfl ?_
      have F362 := ((F341.ext E335).keep K355)
      have F363 := ((F343.ext E335).keep K355)
      have F364 := ((F345.ext E335).keep K355)
      have F365 := ((F347.ext E335).keep K355)
      refine Go.callS C (hw _ (List.mem_of_getElem? (i := 53) rfl)) (hw _ (List.mem_of_getElem? (i := 54) rfl)) (hw _ (List.mem_of_getElem? (i := 28) rfl)) (hw _ (List.mem_of_getElem? (i := 55) rfl)) (c_rows W.l Z a0 hw a295 a313 h354 n0 F358 F364 F365) at_120 pd__40Ljava_47util_47List_59Ljava_47util_47List_59_41Lcom_47example_47catrac_47catrac_47sql_47Result_59 (q := 123) rfl rfl (argsL := [(.ref a295), (.ref a313)]) (st := [(.int v359)]) rfl rfl (w := 1) rfl (by decide) (by decide) (k' := 5) rfl (n' := 19) rfl (by decide) (by decide) ?_
      intro v h366 q
      obtain ⟨a367, rfl, K368, g369, y370, E371, F372⟩ := q
      have ne373 : dn ≠ a367 := Nat.ne_of_lt (Nat.lt_of_lt_of_le F362.lt y370)
      have ne374 : a280 ≠ a367 := Nat.ne_of_lt (Nat.lt_of_lt_of_le F363.lt y370)
      have ne375 : a295 ≠ a367 := Nat.ne_of_lt (Nat.lt_of_lt_of_le F364.lt y370)
      have ne376 : a313 ≠ a367 := Nat.ne_of_lt (Nat.lt_of_lt_of_le F365.lt y370)
      have ne377 : a333 ≠ a367 := Nat.ne_of_lt (Nat.lt_of_lt_of_le F357.lt y370)
      show Go W n0 QL h366 5 19 123 #[.val (.int p0), .val (.long p1), .second, .val (.long p2), .second, .val (.long p3), .second, .val (.int v1), .val (.int v4), .val (.ref a280), .val .null, .val (.ref a295), .val (.ref a313), .val (.ref a333), .val (.int v359)] [(.ref a367), (.int v359)]
      have F378 := (Nat.le_trans F358 K368.1)
      refine Go.pureV C E371 (hw _ (List.mem_of_getElem? (i := 48) rfl)) (hw _ (List.mem_of_getElem? (i := 49) rfl)) (hw _ (List.mem_of_getElem? (i := 51) rfl)) (hw _ (List.mem_of_getElem? (i := 50) rfl)) (hw _ (List.mem_of_getElem? (i := 28) rfl)) (hw _ (List.mem_of_getElem? (i := 52) rfl)) (c_has0 W.l Z a0 hw a367 h366 n0 a295 F378 F372) at_123 pd__40_41Z (q := 126) rfl rfl (argsL := []) (st := [(.int v359)]) rfl rfl (w := 1) rfl (by decide) (by decide) (by decide) (by decide) ?_
      refine Go.iand C at_126 (q := 127) rfl ?_
      refine Go.istore C at_127 (q := 129) rfl (fun z => #[.val (.int p0), .val (.long p1), .second, .val (.long p2), .second, .val (.long p3), .second, .val (.int v1), .val (.int v4), .val (.ref a280), .val .null, .val (.ref a295), .val (.ref a313), .val (.ref a333), .val (.int z)]) (fun _ => rfl) ?_
      intro v379 hv379
      refine Go.iload C at_129 (q := 131) rfl rfl ?_
      refine Go.lloadN C at_131 (q := 132) rfl rfl ?_
      refine Go.lloadN C at_132 (q := 133) rfl rfl ?_
      have F380 := (F362.keep K368)
      have F381 := (F363.keep K368)
      have F382 := (F364.keep K368)
      have F383 := (F365.keep K368)
      have F384 := (F357.keep K368)
      refine Go.callS C (hw _ (List.mem_of_getElem? (i := 58) rfl)) (hw _ (List.mem_of_getElem? (i := 59) rfl)) (hw _ (List.mem_of_getElem? (i := 28) rfl)) (hw _ (List.mem_of_getElem? (i := 60) rfl)) (c_changed W.l Z a0 hw p1 p2 h366 n0 F378) at_133 pd__40JJ_41Lcom_47example_47catrac_47catrac_47sql_47Result_59 (q := 136) rfl rfl (argsL := [(.long p1), (.long p2)]) (st := [(.int v379)]) rfl rfl (w := 1) rfl (by decide) (by decide) (k' := 6) rfl (n' := 24) rfl (by decide) (by decide) ?_
      intro v h385 q
      obtain ⟨a386, rfl, K387, g388, y389, E390, F391⟩ := q
      have ne392 : dn ≠ a386 := Nat.ne_of_lt (Nat.lt_of_lt_of_le F380.lt y389)
      have ne393 : a280 ≠ a386 := Nat.ne_of_lt (Nat.lt_of_lt_of_le F381.lt y389)
      have ne394 : a295 ≠ a386 := Nat.ne_of_lt (Nat.lt_of_lt_of_le F382.lt y389)
      have ne395 : a313 ≠ a386 := Nat.ne_of_lt (Nat.lt_of_lt_of_le F383.lt y389)
      have ne396 : a333 ≠ a386 := Nat.ne_of_lt (Nat.lt_of_lt_of_le F384.lt y389)
      have ne397 : a367 ≠ a386 := Nat.ne_of_lt (Nat.lt_of_lt_of_le E371.lt y389)
      show Go W n0 QL h385 6 24 136 #[.val (.int p0), .val (.long p1), .second, .val (.long p2), .second, .val (.long p3), .second, .val (.int v1), .val (.int v4), .val (.ref a280), .val .null, .val (.ref a295), .val (.ref a313), .val (.ref a333), .val (.int v379)] [(.ref a386), (.int v379)]
      have F398 := (Nat.le_trans F378 K387.1)
      refine Go.pureV C E390 (hw _ (List.mem_of_getElem? (i := 48) rfl)) (hw _ (List.mem_of_getElem? (i := 49) rfl)) (hw _ (List.mem_of_getElem? (i := 51) rfl)) (hw _ (List.mem_of_getElem? (i := 50) rfl)) (hw _ (List.mem_of_getElem? (i := 28) rfl)) (hw _ (List.mem_of_getElem? (i := 52) rfl)) (c_has1 W.l Z a0 hw a386 h385 n0  F398 F391) at_136 pd__40_41Z (q := 139) rfl rfl (argsL := []) (st := [(.int v379)]) rfl rfl (w := 1) rfl (by decide) (by decide) (by decide) (by decide) ?_
      refine Go.if0 C at_139 (z_ne _) (qt := 146) (q := 142) (by decide) (by decide) rfl (fun b399 => absurd b399 (by decide)) (fun _ => ?_)
      refine Go.iconst C (1 : Int32) at_142 (q := 143) rfl rfl ?_
      refine Go.goto C at_143 (q := 147) (by decide) (by decide) ?_
      refine Go.iand C at_147 (q := 148) rfl ?_
      refine Go.istore C at_148 (q := 150) rfl (fun z => #[.val (.int p0), .val (.long p1), .second, .val (.long p2), .second, .val (.long p3), .second, .val (.int v1), .val (.int v4), .val (.ref a280), .val .null, .val (.ref a295), .val (.ref a313), .val (.ref a333), .val (.int z)]) (fun _ => rfl) ?_
      intro v400 hv400
      refine Go.iload C at_150 (q := 152) rfl rfl ?_
      refine Go.lloadN C at_152 (q := 153) rfl rfl ?_
      refine Go.lload C at_153 (q := 155) rfl rfl ?_
      have F401 := (F380.keep K387)
      have F402 := (F381.keep K387)
      have F403 := (F382.keep K387)
      have F404 := (F383.keep K387)
      have F405 := (F384.keep K387)
      have F406 := (E371.keep K387)
      refine Go.callS C (hw _ (List.mem_of_getElem? (i := 61) rfl)) (hw _ (List.mem_of_getElem? (i := 62) rfl)) (hw _ (List.mem_of_getElem? (i := 28) rfl)) (hw _ (List.mem_of_getElem? (i := 63) rfl)) (c_inserted W.l Z a0 hw p1 p3 h385 n0 F398) at_155 pd__40JJ_41Lcom_47example_47catrac_47catrac_47sql_47Result_59 (q := 158) rfl rfl (argsL := [(.long p1), (.long p3)]) (st := [(.int v400)]) rfl rfl (w := 1) rfl (by decide) (by decide) (k' := 7) rfl (n' := 29) rfl (by decide) (by decide) ?_
      intro v h407 q
      obtain ⟨a408, rfl, K409, g410, y411, E412, F413⟩ := q
      have ne414 : dn ≠ a408 := Nat.ne_of_lt (Nat.lt_of_lt_of_le F401.lt y411)
      have ne415 : a280 ≠ a408 := Nat.ne_of_lt (Nat.lt_of_lt_of_le F402.lt y411)
      have ne416 : a295 ≠ a408 := Nat.ne_of_lt (Nat.lt_of_lt_of_le F403.lt y411)
      have ne417 : a313 ≠ a408 := Nat.ne_of_lt (Nat.lt_of_lt_of_le F404.lt y411)
      have ne418 : a333 ≠ a408 := Nat.ne_of_lt (Nat.lt_of_lt_of_le F405.lt y411)
      have ne419 : a367 ≠ a408 := Nat.ne_of_lt (Nat.lt_of_lt_of_le F406.lt y411)
      have ne420 : a386 ≠ a408 := Nat.ne_of_lt (Nat.lt_of_lt_of_le E390.lt y411)
      show Go W n0 QL h407 7 29 158 #[.val (.int p0), .val (.long p1), .second, .val (.long p2), .second, .val (.long p3), .second, .val (.int v1), .val (.int v4), .val (.ref a280), .val .null, .val (.ref a295), .val (.ref a313), .val (.ref a333), .val (.int v400)] [(.ref a408), (.int v400)]
      have F421 := (Nat.le_trans F398 K409.1)
      refine Go.pureV C E412 (hw _ (List.mem_of_getElem? (i := 48) rfl)) (hw _ (List.mem_of_getElem? (i := 49) rfl)) (hw _ (List.mem_of_getElem? (i := 51) rfl)) (hw _ (List.mem_of_getElem? (i := 50) rfl)) (hw _ (List.mem_of_getElem? (i := 28) rfl)) (hw _ (List.mem_of_getElem? (i := 52) rfl)) (c_has1 W.l Z a0 hw a408 h407 n0  F421 F413) at_158 pd__40_41Z (q := 161) rfl rfl (argsL := []) (st := [(.int v400)]) rfl rfl (w := 1) rfl (by decide) (by decide) (by decide) (by decide) ?_
      refine Go.if0 C at_161 (z_ne _) (qt := 168) (q := 164) (by decide) (by decide) rfl (fun b422 => absurd b422 (by decide)) (fun _ => ?_)
      refine Go.iconst C (1 : Int32) at_164 (q := 165) rfl rfl ?_
      refine Go.goto C at_165 (q := 169) (by decide) (by decide) ?_
      refine Go.iand C at_169 (q := 170) rfl ?_
      refine Go.istore C at_170 (q := 172) rfl (fun z => #[.val (.int p0), .val (.long p1), .second, .val (.long p2), .second, .val (.long p3), .second, .val (.int v1), .val (.int v4), .val (.ref a280), .val .null, .val (.ref a295), .val (.ref a313), .val (.ref a333), .val (.int z)]) (fun _ => rfl) ?_
      intro v423 hv423
      refine Go.iload C at_172 (q := 174) rfl rfl ?_
      have F424 := (own_sta_keep (own_sta_keep (own_sta_keep (own_sta_keep ((own_sta_keep ((own_sta_keep ((own_sta_keep (S_dn.ext E282) K292 (allS (own_plE A283) all0)).ext E297) K311 (allS (own_plE A298) all0)).ext E315) K331 (allS (own_plE A316) all0)).ext E335) K355 (allS (own_plE A336) all0)) K368 all0) K387 all0) K409 all0)
      refine Go.callS C (hw _ (List.mem_of_getElem? (i := 64) rfl)) (hw _ (List.mem_of_getElem? (i := 65) rfl)) (hw _ (List.mem_of_getElem? (i := 28) rfl)) (hw _ (List.mem_of_getElem? (i := 66) rfl)) (c_done W.l Z a0 hw  h407 n0 dn F421 F424) at_174 pd__40_41Lcom_47example_47catrac_47catrac_47sql_47Result_59 (q := 177) rfl rfl (argsL := []) (st := [(.int v423)]) rfl rfl (w := 1) rfl (by decide) (by decide) (k' := 7) rfl (n' := 29) rfl (by decide) (by decide) ?_
      intro v h' q
      obtain ⟨rfl, eqh⟩ := q
      rw [eqh]
      show Go W n0 QL h407 7 29 177 #[.val (.int p0), .val (.long p1), .second, .val (.long p2), .second, .val (.long p3), .second, .val (.int v1), .val (.int v4), .val (.ref a280), .val .null, .val (.ref a295), .val (.ref a313), .val (.ref a333), .val (.int v423)] [(.ref dn), (.int v423)]
      have F425 := (F401.keep K409)
      have F426 := (((((((((((F_dn.ext E282).keep K292 (ninS ne286 nin0)).ext E297).keep K311 (ninS ne302 nin0)).ext E315).keep K331 (ninS ne320 nin0)).ext E335).keep K355 (ninS ne340 nin0)).keep K368 nin0).keep K387 nin0).keep K409 nin0)
      refine Go.pureV C F425 (hw _ (List.mem_of_getElem? (i := 48) rfl)) (hw _ (List.mem_of_getElem? (i := 49) rfl)) (hw _ (List.mem_of_getElem? (i := 51) rfl)) (hw _ (List.mem_of_getElem? (i := 50) rfl)) (hw _ (List.mem_of_getElem? (i := 28) rfl)) (hw _ (List.mem_of_getElem? (i := 52) rfl)) (c_has1 W.l Z a0 hw dn h407 n0  F421 F426) at_177 pd__40_41Z (q := 180) rfl rfl (argsL := []) (st := [(.int v423)]) rfl rfl (w := 1) rfl (by decide) (by decide) (by decide) (by decide) ?_
      refine Go.if0 C at_180 (z_ne _) (qt := 187) (q := 183) (by decide) (by decide) rfl (fun b427 => absurd b427 (by decide)) (fun _ => ?_)
      refine Go.iconst C (1 : Int32) at_183 (q := 184) rfl rfl ?_
      refine Go.goto C at_184 (q := 188) (by decide) (by decide) ?_
      refine Go.iand C at_188 (q := 189) rfl ?_
      refine Go.istore C at_189 (q := 191) rfl (fun z => #[.val (.int p0), .val (.long p1), .second, .val (.long p2), .second, .val (.long p3), .second, .val (.int v1), .val (.int v4), .val (.ref a280), .val .null, .val (.ref a295), .val (.ref a313), .val (.ref a333), .val (.int z)]) (fun _ => rfl) ?_
      intro v428 hv428
      refine Go.iload C at_191 (q := 193) rfl rfl ?_
      exact Go.retZ (t := .boolean) (by simp) C at_193 (by decide) (by decide) (congrArg (fun z => some (Value.int z)) (fin2 p0 p1 p2 p3 v1 hv1 v4 hv4  b7  b293 v359 hv359 v379 hv379 v400 hv400 v423 hv423 v428 hv428))
    ·
      refine Go.newO C (hw _ (List.mem_of_getElem? (i := 0) rfl)) (hw _ (List.mem_of_getElem? (i := 1) rfl)) (hw _ (List.mem_of_getElem? (i := 2) rfl)) at_49 (q := 52) rfl (k' := 2) rfl (n' := 6) rfl (by decide) (by decide) ?_
      intro h429 a430 g431 E432 A433 D434
      have F435 := (Nat.le_trans F289 K292.1)
      have g436 : n0 ≤ a430 := g431 ▸ F435
      have F438 := ((E_dn.ext E282).keep K292)
      have ne437 : dn ≠ a430 := Nat.ne_of_lt (g431 ▸ F438.lt)
      have F440 := (A283.keep K292)
      have ne439 : a280 ≠ a430 := Nat.ne_of_lt (g431 ▸ F440.lt)
      have F441 : Fld Z h429 a430 "java/util/AbstractList" "modCount" "I" (.int (0 : Int32)) := D434 (Or.inl (hw _ (List.mem_of_getElem? (i := 22) rfl))) (ty := .int) (by decide)
      have F442 : Fld Z h429 a430 "java/util/ArrayList" "elementData" "[Ljava/lang/Object;" .null := D434 (Or.inl (hw _ (List.mem_of_getElem? (i := 25) rfl))) (ty := (.array (.object "java/lang/Object"))) (by decide)
      refine Go.dup C at_52 (q := 53) rfl rfl ?_
      have F443 := (Nat.le_trans F435 E432.1)
      have F444 := ((own_sta_keep F290 K292 (allS (own_plE A283) all0)).ext E432)
      refine Go.callC C rfl (hw _ (List.mem_of_getElem? (i := 3) rfl)) (hw _ (List.mem_of_getElem? (i := 4) rfl)) (hw _ (List.mem_of_getElem? (i := 2) rfl)) (hw _ (List.mem_of_getElem? (i := 5) rfl)) (c_al W.l Z a0 hw a430 h429 n0 (.int (0 : Int32)) .null d F443 A433 g436 F441 F442 F444) at_53 pd__40_41V (q := 56) rfl rfl (argsL := []) (st := [(.ref a430)]) rfl rfl (w := 1) rfl (by decide) (by decide) (k' := 2) rfl (n' := 6) rfl (by decide) (by decide) ?_
      intro v h445 q
      obtain ⟨rfl, K446⟩ := q
      show Go W n0 QL h445 2 6 56 #[.val (.int p0), .val (.long p1), .second, .val (.long p2), .second, .val (.long p3), .second, .val (.int v1), .val (.int v4), .val (.ref a280), .unset, .unset, .unset, .unset, .unset] [(.ref a430)]
      refine Go.goto C at_56 (q := 60) (by decide) (by decide) ?_
      refine Go.astore C at_60 (q := 62) rfl (l' := #[.val (.int p0), .val (.long p1), .second, .val (.long p2), .second, .val (.long p3), .second, .val (.int v1), .val (.int v4), .val (.ref a280), .val (.ref a430), .unset, .unset, .unset, .unset]) rfl rfl ?_
      refine Go.newO C (hw _ (List.mem_of_getElem? (i := 0) rfl)) (hw _ (List.mem_of_getElem? (i := 1) rfl)) (hw _ (List.mem_of_getElem? (i := 2) rfl)) at_62 (q := 65) rfl (k' := 3) rfl (n' := 9) rfl (by decide) (by decide) ?_
      intro h447 a448 g449 E450 A451 D452
      have F453 := (Nat.le_trans F443 K446.1)
      have g454 : n0 ≤ a448 := g449 ▸ F453
      have F456 := ((F438.ext E432).keep K446)
      have ne455 : dn ≠ a448 := Nat.ne_of_lt (g449 ▸ F456.lt)
      have F458 := ((F440.ext E432).keep K446)
      have ne457 : a280 ≠ a448 := Nat.ne_of_lt (g449 ▸ F458.lt)
      have F460 := (A433.keep K446)
      have ne459 : a430 ≠ a448 := Nat.ne_of_lt (g449 ▸ F460.lt)
      have F461 : Fld Z h447 a448 "java/util/AbstractList" "modCount" "I" (.int (0 : Int32)) := D452 (Or.inl (hw _ (List.mem_of_getElem? (i := 22) rfl))) (ty := .int) (by decide)
      have F462 : Fld Z h447 a448 "java/util/ArrayList" "elementData" "[Ljava/lang/Object;" .null := D452 (Or.inl (hw _ (List.mem_of_getElem? (i := 25) rfl))) (ty := (.array (.object "java/lang/Object"))) (by decide)
      refine Go.dup C at_65 (q := 66) rfl rfl ?_
      have F463 := (Nat.le_trans F453 E450.1)
      have F464 := ((own_sta_keep F444 K446 (allS (own_plE A433) all0)).ext E450)
      refine Go.callC C rfl (hw _ (List.mem_of_getElem? (i := 3) rfl)) (hw _ (List.mem_of_getElem? (i := 4) rfl)) (hw _ (List.mem_of_getElem? (i := 2) rfl)) (hw _ (List.mem_of_getElem? (i := 5) rfl)) (c_al W.l Z a0 hw a448 h447 n0 (.int (0 : Int32)) .null d F463 A451 g454 F461 F462 F464) at_66 pd__40_41V (q := 69) rfl rfl (argsL := []) (st := [(.ref a448)]) rfl rfl (w := 1) rfl (by decide) (by decide) (k' := 3) rfl (n' := 9) rfl (by decide) (by decide) ?_
      intro v h465 q
      obtain ⟨rfl, K466⟩ := q
      show Go W n0 QL h465 3 9 69 #[.val (.int p0), .val (.long p1), .second, .val (.long p2), .second, .val (.long p3), .second, .val (.int v1), .val (.int v4), .val (.ref a280), .val (.ref a430), .unset, .unset, .unset, .unset] [(.ref a448)]
      refine Go.astore C at_69 (q := 71) rfl (l' := #[.val (.int p0), .val (.long p1), .second, .val (.long p2), .second, .val (.long p3), .second, .val (.int v1), .val (.int v4), .val (.ref a280), .val (.ref a430), .val (.ref a448), .unset, .unset, .unset]) rfl rfl ?_
      refine Go.newO C (hw _ (List.mem_of_getElem? (i := 0) rfl)) (hw _ (List.mem_of_getElem? (i := 1) rfl)) (hw _ (List.mem_of_getElem? (i := 2) rfl)) at_71 (q := 74) rfl (k' := 4) rfl (n' := 12) rfl (by decide) (by decide) ?_
      intro h467 a468 g469 E470 A471 D472
      have F473 := (Nat.le_trans F463 K466.1)
      have g474 : n0 ≤ a468 := g469 ▸ F473
      have F476 := ((F456.ext E450).keep K466)
      have ne475 : dn ≠ a468 := Nat.ne_of_lt (g469 ▸ F476.lt)
      have F478 := ((F458.ext E450).keep K466)
      have ne477 : a280 ≠ a468 := Nat.ne_of_lt (g469 ▸ F478.lt)
      have F480 := ((F460.ext E450).keep K466)
      have ne479 : a430 ≠ a468 := Nat.ne_of_lt (g469 ▸ F480.lt)
      have F482 := (A451.keep K466)
      have ne481 : a448 ≠ a468 := Nat.ne_of_lt (g469 ▸ F482.lt)
      have F483 : Fld Z h467 a468 "java/util/AbstractList" "modCount" "I" (.int (0 : Int32)) := D472 (Or.inl (hw _ (List.mem_of_getElem? (i := 22) rfl))) (ty := .int) (by decide)
      have F484 : Fld Z h467 a468 "java/util/ArrayList" "elementData" "[Ljava/lang/Object;" .null := D472 (Or.inl (hw _ (List.mem_of_getElem? (i := 25) rfl))) (ty := (.array (.object "java/lang/Object"))) (by decide)
      refine Go.dup C at_74 (q := 75) rfl rfl ?_
      have F485 := (Nat.le_trans F473 E470.1)
      have F486 := ((own_sta_keep F464 K466 (allS (own_plE A451) all0)).ext E470)
      refine Go.callC C rfl (hw _ (List.mem_of_getElem? (i := 3) rfl)) (hw _ (List.mem_of_getElem? (i := 4) rfl)) (hw _ (List.mem_of_getElem? (i := 2) rfl)) (hw _ (List.mem_of_getElem? (i := 5) rfl)) (c_al W.l Z a0 hw a468 h467 n0 (.int (0 : Int32)) .null d F485 A471 g474 F483 F484 F486) at_75 pd__40_41V (q := 78) rfl rfl (argsL := []) (st := [(.ref a468)]) rfl rfl (w := 1) rfl (by decide) (by decide) (k' := 4) rfl (n' := 12) rfl (by decide) (by decide) ?_
      intro v h487 q
      obtain ⟨rfl, K488⟩ := q
      show Go W n0 QL h487 4 12 78 #[.val (.int p0), .val (.long p1), .second, .val (.long p2), .second, .val (.long p3), .second, .val (.int v1), .val (.int v4), .val (.ref a280), .val (.ref a430), .val (.ref a448), .unset, .unset, .unset] [(.ref a468)]
      refine Go.astore C at_78 (q := 80) rfl (l' := #[.val (.int p0), .val (.long p1), .second, .val (.long p2), .second, .val (.long p3), .second, .val (.int v1), .val (.int v4), .val (.ref a280), .val (.ref a430), .val (.ref a448), .val (.ref a468), .unset, .unset]) rfl rfl ?_
      refine Go.newO C (hw _ (List.mem_of_getElem? (i := 26) rfl)) (hw _ (List.mem_of_getElem? (i := 27) rfl)) (hw _ (List.mem_of_getElem? (i := 28) rfl)) at_80 (q := 83) rfl (k' := 5) rfl (n' := 17) rfl (by decide) (by decide) ?_
      intro h489 a490 g491 E492 A493 D494
      have F495 := (Nat.le_trans F485 K488.1)
      have g496 : n0 ≤ a490 := g491 ▸ F495
      have F498 := ((F476.ext E470).keep K488)
      have ne497 : dn ≠ a490 := Nat.ne_of_lt (g491 ▸ F498.lt)
      have F500 := ((F478.ext E470).keep K488)
      have ne499 : a280 ≠ a490 := Nat.ne_of_lt (g491 ▸ F500.lt)
      have F502 := ((F480.ext E470).keep K488)
      have ne501 : a430 ≠ a490 := Nat.ne_of_lt (g491 ▸ F502.lt)
      have F504 := ((F482.ext E470).keep K488)
      have ne503 : a448 ≠ a490 := Nat.ne_of_lt (g491 ▸ F504.lt)
      have F506 := (A471.keep K488)
      have ne505 : a468 ≠ a490 := Nat.ne_of_lt (g491 ▸ F506.lt)
      have F507 : Fld Z h489 a490 "com/example/catrac/catrac/sql/Result" "columns" "Ljava/util/List;" .null := D494 (Or.inr (hw _ (List.mem_of_getElem? (i := 39) rfl))) (ty := (.object "java/util/List")) (by decide)
      have F508 : Fld Z h489 a490 "com/example/catrac/catrac/sql/Result" "rows" "Ljava/util/List;" .null := D494 (Or.inr (hw _ (List.mem_of_getElem? (i := 41) rfl))) (ty := (.object "java/util/List")) (by decide)
      have F509 : Fld Z h489 a490 "com/example/catrac/catrac/sql/Result" "matchedRows" "J" (.long (0 : Int64)) := D494 (Or.inr (hw _ (List.mem_of_getElem? (i := 43) rfl))) (ty := .long) (by decide)
      have F510 : Fld Z h489 a490 "com/example/catrac/catrac/sql/Result" "changedRows" "J" (.long (0 : Int64)) := D494 (Or.inr (hw _ (List.mem_of_getElem? (i := 45) rfl))) (ty := .long) (by decide)
      have F511 : Fld Z h489 a490 "com/example/catrac/catrac/sql/Result" "insertId" "J" (.long (0 : Int64)) := D494 (Or.inr (hw _ (List.mem_of_getElem? (i := 47) rfl))) (ty := .long) (by decide)
      refine Go.dup C at_83 (q := 84) rfl rfl ?_
      refine Go.aload C at_84 (q := 86) rfl rfl rfl ?_
      refine Go.aload C at_86 (q := 88) rfl rfl rfl ?_
      refine Go.lloadN C at_88 (q := 89) rfl rfl ?_
      refine Go.lloadN C at_89 (q := 90) rfl rfl ?_
      refine Go.lload C at_90 (q := 92) rfl rfl ?_
      have F512 := (Nat.le_trans F495 E492.1)
      refine Go.callC C rfl (hw _ (List.mem_of_getElem? (i := 29) rfl)) (hw _ (List.mem_of_getElem? (i := 30) rfl)) (hw _ (List.mem_of_getElem? (i := 28) rfl)) (hw _ (List.mem_of_getElem? (i := 31) rfl)) (c_res W.l Z a0 hw a490 a280 a430 p1 p2 p3 h489 n0 .null .null (.long (0 : Int64)) (.long (0 : Int64)) (.long (0 : Int64)) F512 A493 g496 F507 F508 F509 F510 F511) at_92 pd__40Ljava_47util_47List_59Ljava_47util_47List_59JJJ_41V (q := 95) rfl rfl (argsL := [(.ref a280), (.ref a430), (.long p1), (.long p2), (.long p3)]) (st := [(.ref a490)]) rfl rfl (w := 1) rfl (by decide) (by decide) (k' := 5) rfl (n' := 17) rfl (by decide) (by decide) ?_
      intro v h513 q
      obtain ⟨rfl, K514, F515⟩ := q
      show Go W n0 QL h513 5 17 95 #[.val (.int p0), .val (.long p1), .second, .val (.long p2), .second, .val (.long p3), .second, .val (.int v1), .val (.int v4), .val (.ref a280), .val (.ref a430), .val (.ref a448), .val (.ref a468), .unset, .unset] [(.ref a490)]
      refine Go.astore C at_95 (q := 97) rfl (l' := #[.val (.int p0), .val (.long p1), .second, .val (.long p2), .second, .val (.long p3), .second, .val (.int v1), .val (.int v4), .val (.ref a280), .val (.ref a430), .val (.ref a448), .val (.ref a468), .val (.ref a490), .unset]) rfl rfl ?_
      refine Go.aload C at_97 (q := 99) rfl rfl rfl ?_
      have F516 := (A493.keep K514)
      have F517 := (Nat.le_trans F512 K514.1)
      refine Go.pureV C F516 (hw _ (List.mem_of_getElem? (i := 48) rfl)) (hw _ (List.mem_of_getElem? (i := 49) rfl)) (hw _ (List.mem_of_getElem? (i := 51) rfl)) (hw _ (List.mem_of_getElem? (i := 50) rfl)) (hw _ (List.mem_of_getElem? (i := 28) rfl)) (hw _ (List.mem_of_getElem? (i := 52) rfl)) (c_has0 W.l Z a0 hw a490 h513 n0 a280 F517 F515) at_99 pd__40_41Z (q := 102) rfl rfl (argsL := []) (st := []) rfl rfl (w := 0) rfl (by decide) (by decide) (by decide) (by decide) ?_
      refine Go.iload C at_102 (q := 104) rfl rfl ?_
      suffices J519 : ∀ v518 : Int32, v518 = (if (1 : Int32) = v1 then (1 : Int32) else (0 : Int32)) → Go W n0 QL h513 5 17 112 #[.val (.int p0), .val (.long p1), .second, .val (.long p2), .second, .val (.long p3), .second, .val (.int v1), .val (.int v4), .val (.ref a280), .val (.ref a430), .val (.ref a448), .val (.ref a468), .val (.ref a490), .unset] [(.int v518)] by
        refine Go.icmp C at_104 (n_ne _ _) (qt := 111) (q := 107) (by decide) (by decide) rfl (fun b520 => ?_) (fun b520 => ?_)
        ·
          refine Go.iconst C (0 : Int32) at_111 (q := 112) rfl rfl ?_
          exact J519 _ (by rw [if_neg b520])
        ·
          have b520 := Classical.not_not.mp b520
          refine Go.iconst C (1 : Int32) at_107 (q := 108) rfl rfl ?_
          refine Go.goto C at_108 (q := 112) (by decide) (by decide) ?_
          exact J519 _ (by rw [if_pos b520])
      intro v518 hv518
      refine Go.istoreR C at_112 (q := 114) rfl (l' := #[.val (.int p0), .val (.long p1), .second, .val (.long p2), .second, .val (.long p3), .second, .val (.int v1), .val (.int v4), .val (.ref a280), .val (.ref a430), .val (.ref a448), .val (.ref a468), .val (.ref a490), .val (.int v518)]) rfl ?_
      refine Go.iload C at_114 (q := 116) rfl rfl ?_
      refine Go.aload C at_116 (q := 118) rfl rfl rfl ?_
      refine Go.aload C at_118 (q := 120) rfl rfl rfl ?_
      have F521 := ((F498.ext E492).keep K514)
      have F522 := ((F500.ext E492).keep K514)
      have F523 := ((F502.ext E492).keep K514)
      have F524 := ((F504.ext E492).keep K514)
      have F525 := ((F506.ext E492).keep K514)
      refine Go.callS C (hw _ (List.mem_of_getElem? (i := 53) rfl)) (hw _ (List.mem_of_getElem? (i := 54) rfl)) (hw _ (List.mem_of_getElem? (i := 28) rfl)) (hw _ (List.mem_of_getElem? (i := 55) rfl)) (c_rows W.l Z a0 hw a448 a468 h513 n0 F517 F524 F525) at_120 pd__40Ljava_47util_47List_59Ljava_47util_47List_59_41Lcom_47example_47catrac_47catrac_47sql_47Result_59 (q := 123) rfl rfl (argsL := [(.ref a448), (.ref a468)]) (st := [(.int v518)]) rfl rfl (w := 1) rfl (by decide) (by decide) (k' := 6) rfl (n' := 22) rfl (by decide) (by decide) ?_
      intro v h526 q
      obtain ⟨a527, rfl, K528, g529, y530, E531, F532⟩ := q
      have ne533 : dn ≠ a527 := Nat.ne_of_lt (Nat.lt_of_lt_of_le F521.lt y530)
      have ne534 : a280 ≠ a527 := Nat.ne_of_lt (Nat.lt_of_lt_of_le F522.lt y530)
      have ne535 : a430 ≠ a527 := Nat.ne_of_lt (Nat.lt_of_lt_of_le F523.lt y530)
      have ne536 : a448 ≠ a527 := Nat.ne_of_lt (Nat.lt_of_lt_of_le F524.lt y530)
      have ne537 : a468 ≠ a527 := Nat.ne_of_lt (Nat.lt_of_lt_of_le F525.lt y530)
      have ne538 : a490 ≠ a527 := Nat.ne_of_lt (Nat.lt_of_lt_of_le F516.lt y530)
      show Go W n0 QL h526 6 22 123 #[.val (.int p0), .val (.long p1), .second, .val (.long p2), .second, .val (.long p3), .second, .val (.int v1), .val (.int v4), .val (.ref a280), .val (.ref a430), .val (.ref a448), .val (.ref a468), .val (.ref a490), .val (.int v518)] [(.ref a527), (.int v518)]
      have F539 := (Nat.le_trans F517 K528.1)
      refine Go.pureV C E531 (hw _ (List.mem_of_getElem? (i := 48) rfl)) (hw _ (List.mem_of_getElem? (i := 49) rfl)) (hw _ (List.mem_of_getElem? (i := 51) rfl)) (hw _ (List.mem_of_getElem? (i := 50) rfl)) (hw _ (List.mem_of_getElem? (i := 28) rfl)) (hw _ (List.mem_of_getElem? (i := 52) rfl)) (c_has0 W.l Z a0 hw a527 h526 n0 a448 F539 F532) at_123 pd__40_41Z (q := 126) rfl rfl (argsL := []) (st := [(.int v518)]) rfl rfl (w := 1) rfl (by decide) (by decide) (by decide) (by decide) ?_
      refine Go.iand C at_126 (q := 127) rfl ?_
      refine Go.istore C at_127 (q := 129) rfl (fun z => #[.val (.int p0), .val (.long p1), .second, .val (.long p2), .second, .val (.long p3), .second, .val (.int v1), .val (.int v4), .val (.ref a280), .val (.ref a430), .val (.ref a448), .val (.ref a468), .val (.ref a490), .val (.int z)]) (fun _ => rfl) ?_
      intro v540 hv540
      refine Go.iload C at_129 (q := 131) rfl rfl ?_
      refine Go.lloadN C at_131 (q := 132) rfl rfl ?_
      refine Go.lloadN C at_132 (q := 133) rfl rfl ?_
      have F541 := (F521.keep K528)
      have F542 := (F522.keep K528)
      have F543 := (F523.keep K528)
      have F544 := (F524.keep K528)
      have F545 := (F525.keep K528)
      have F546 := (F516.keep K528)
      refine Go.callS C (hw _ (List.mem_of_getElem? (i := 58) rfl)) (hw _ (List.mem_of_getElem? (i := 59) rfl)) (hw _ (List.mem_of_getElem? (i := 28) rfl)) (hw _ (List.mem_of_getElem? (i := 60) rfl)) (c_changed W.l Z a0 hw p1 p2 h526 n0 F539) at_133 pd__40JJ_41Lcom_47example_47catrac_47catrac_47sql_47Result_59 (q := 136) rfl rfl (argsL := [(.long p1), (.long p2)]) (st := [(.int v540)]) rfl rfl (w := 1) rfl (by decide) (by decide) (k' := 7) rfl (n' := 27) rfl (by decide) (by decide) ?_
      intro v h547 q
      obtain ⟨a548, rfl, K549, g550, y551, E552, F553⟩ := q
      have ne554 : dn ≠ a548 := Nat.ne_of_lt (Nat.lt_of_lt_of_le F541.lt y551)
      have ne555 : a280 ≠ a548 := Nat.ne_of_lt (Nat.lt_of_lt_of_le F542.lt y551)
      have ne556 : a430 ≠ a548 := Nat.ne_of_lt (Nat.lt_of_lt_of_le F543.lt y551)
      have ne557 : a448 ≠ a548 := Nat.ne_of_lt (Nat.lt_of_lt_of_le F544.lt y551)
      have ne558 : a468 ≠ a548 := Nat.ne_of_lt (Nat.lt_of_lt_of_le F545.lt y551)
      have ne559 : a490 ≠ a548 := Nat.ne_of_lt (Nat.lt_of_lt_of_le F546.lt y551)
      have ne560 : a527 ≠ a548 := Nat.ne_of_lt (Nat.lt_of_lt_of_le E531.lt y551)
      show Go W n0 QL h547 7 27 136 #[.val (.int p0), .val (.long p1), .second, .val (.long p2), .second, .val (.long p3), .second, .val (.int v1), .val (.int v4), .val (.ref a280), .val (.ref a430), .val (.ref a448), .val (.ref a468), .val (.ref a490), .val (.int v540)] [(.ref a548), (.int v540)]
      have F561 := (Nat.le_trans F539 K549.1)
      refine Go.pureV C E552 (hw _ (List.mem_of_getElem? (i := 48) rfl)) (hw _ (List.mem_of_getElem? (i := 49) rfl)) (hw _ (List.mem_of_getElem? (i := 51) rfl)) (hw _ (List.mem_of_getElem? (i := 50) rfl)) (hw _ (List.mem_of_getElem? (i := 28) rfl)) (hw _ (List.mem_of_getElem? (i := 52) rfl)) (c_has1 W.l Z a0 hw a548 h547 n0  F561 F553) at_136 pd__40_41Z (q := 139) rfl rfl (argsL := []) (st := [(.int v540)]) rfl rfl (w := 1) rfl (by decide) (by decide) (by decide) (by decide) ?_
      refine Go.if0 C at_139 (z_ne _) (qt := 146) (q := 142) (by decide) (by decide) rfl (fun b562 => absurd b562 (by decide)) (fun _ => ?_)
      refine Go.iconst C (1 : Int32) at_142 (q := 143) rfl rfl ?_
      refine Go.goto C at_143 (q := 147) (by decide) (by decide) ?_
      refine Go.iand C at_147 (q := 148) rfl ?_
      refine Go.istore C at_148 (q := 150) rfl (fun z => #[.val (.int p0), .val (.long p1), .second, .val (.long p2), .second, .val (.long p3), .second, .val (.int v1), .val (.int v4), .val (.ref a280), .val (.ref a430), .val (.ref a448), .val (.ref a468), .val (.ref a490), .val (.int z)]) (fun _ => rfl) ?_
      intro v563 hv563
      refine Go.iload C at_150 (q := 152) rfl rfl ?_
      refine Go.lloadN C at_152 (q := 153) rfl rfl ?_
      refine Go.lload C at_153 (q := 155) rfl rfl ?_
      have F564 := (F541.keep K549)
      have F565 := (F542.keep K549)
      have F566 := (F543.keep K549)
      have F567 := (F544.keep K549)
      have F568 := (F545.keep K549)
      have F569 := (F546.keep K549)
      have F570 := (E531.keep K549)
      refine Go.callS C (hw _ (List.mem_of_getElem? (i := 61) rfl)) (hw _ (List.mem_of_getElem? (i := 62) rfl)) (hw _ (List.mem_of_getElem? (i := 28) rfl)) (hw _ (List.mem_of_getElem? (i := 63) rfl)) (c_inserted W.l Z a0 hw p1 p3 h547 n0 F561) at_155 pd__40JJ_41Lcom_47example_47catrac_47catrac_47sql_47Result_59 (q := 158) rfl rfl (argsL := [(.long p1), (.long p3)]) (st := [(.int v563)]) rfl rfl (w := 1) rfl (by decide) (by decide) (k' := 8) rfl (n' := 32) rfl (by decide) (by decide) ?_
      intro v h571 q
      obtain ⟨a572, rfl, K573, g574, y575, E576, F577⟩ := q
      have ne578 : dn ≠ a572 := Nat.ne_of_lt (Nat.lt_of_lt_of_le F564.lt y575)
      have ne579 : a280 ≠ a572 := Nat.ne_of_lt (Nat.lt_of_lt_of_le F565.lt y575)
      have ne580 : a430 ≠ a572 := Nat.ne_of_lt (Nat.lt_of_lt_of_le F566.lt y575)
      have ne581 : a448 ≠ a572 := Nat.ne_of_lt (Nat.lt_of_lt_of_le F567.lt y575)
      have ne582 : a468 ≠ a572 := Nat.ne_of_lt (Nat.lt_of_lt_of_le F568.lt y575)
      have ne583 : a490 ≠ a572 := Nat.ne_of_lt (Nat.lt_of_lt_of_le F569.lt y575)
      have ne584 : a527 ≠ a572 := Nat.ne_of_lt (Nat.lt_of_lt_of_le F570.lt y575)
      have ne585 : a548 ≠ a572 := Nat.ne_of_lt (Nat.lt_of_lt_of_le E552.lt y575)
      show Go W n0 QL h571 8 32 158 #[.val (.int p0), .val (.long p1), .second, .val (.long p2), .second, .val (.long p3), .second, .val (.int v1), .val (.int v4), .val (.ref a280), .val (.ref a430), .val (.ref a448), .val (.ref a468), .val (.ref a490), .val (.int v563)] [(.ref a572), (.int v563)]
      have F586 := (Nat.le_trans F561 K573.1)
      refine Go.pureV C E576 (hw _ (List.mem_of_getElem? (i := 48) rfl)) (hw _ (List.mem_of_getElem? (i := 49) rfl)) (hw _ (List.mem_of_getElem? (i := 51) rfl)) (hw _ (List.mem_of_getElem? (i := 50) rfl)) (hw _ (List.mem_of_getElem? (i := 28) rfl)) (hw _ (List.mem_of_getElem? (i := 52) rfl)) (c_has1 W.l Z a0 hw a572 h571 n0  F586 F577) at_158 pd__40_41Z (q := 161) rfl rfl (argsL := []) (st := [(.int v563)]) rfl rfl (w := 1) rfl (by decide) (by decide) (by decide) (by decide) ?_
      refine Go.if0 C at_161 (z_ne _) (qt := 168) (q := 164) (by decide) (by decide) rfl (fun b587 => absurd b587 (by decide)) (fun _ => ?_)
      refine Go.iconst C (1 : Int32) at_164 (q := 165) rfl rfl ?_
      refine Go.goto C at_165 (q := 169) (by decide) (by decide) ?_
      refine Go.iand C at_169 (q := 170) rfl ?_
      refine Go.istore C at_170 (q := 172) rfl (fun z => #[.val (.int p0), .val (.long p1), .second, .val (.long p2), .second, .val (.long p3), .second, .val (.int v1), .val (.int v4), .val (.ref a280), .val (.ref a430), .val (.ref a448), .val (.ref a468), .val (.ref a490), .val (.int z)]) (fun _ => rfl) ?_
      intro v588 hv588
      refine Go.iload C at_172 (q := 174) rfl rfl ?_
      have F589 := (own_sta_keep (own_sta_keep (own_sta_keep (own_sta_keep ((own_sta_keep ((own_sta_keep ((own_sta_keep ((own_sta_keep (S_dn.ext E282) K292 (allS (own_plE A283) all0)).ext E432) K446 (allS (own_plE A433) all0)).ext E450) K466 (allS (own_plE A451) all0)).ext E470) K488 (allS (own_plE A471) all0)).ext E492) K514 (allS (own_plE A493) all0)) K528 all0) K549 all0) K573 all0)
      refine Go.callS C (hw _ (List.mem_of_getElem? (i := 64) rfl)) (hw _ (List.mem_of_getElem? (i := 65) rfl)) (hw _ (List.mem_of_getElem? (i := 28) rfl)) (hw _ (List.mem_of_getElem? (i := 66) rfl)) (c_done W.l Z a0 hw  h571 n0 dn F586 F589) at_174 pd__40_41Lcom_47example_47catrac_47catrac_47sql_47Result_59 (q := 177) rfl rfl (argsL := []) (st := [(.int v588)]) rfl rfl (w := 1) rfl (by decide) (by decide) (k' := 8) rfl (n' := 32) rfl (by decide) (by decide) ?_
      intro v h' q
      obtain ⟨rfl, eqh⟩ := q
      rw [eqh]
      show Go W n0 QL h571 8 32 177 #[.val (.int p0), .val (.long p1), .second, .val (.long p2), .second, .val (.long p3), .second, .val (.int v1), .val (.int v4), .val (.ref a280), .val (.ref a430), .val (.ref a448), .val (.ref a468), .val (.ref a490), .val (.int v588)] [(.ref dn), (.int v588)]
      have F590 := (F564.keep K573)
      have F591 := (((((((((((((F_dn.ext E282).keep K292 (ninS ne286 nin0)).ext E432).keep K446 (ninS ne437 nin0)).ext E450).keep K466 (ninS ne455 nin0)).ext E470).keep K488 (ninS ne475 nin0)).ext E492).keep K514 (ninS ne497 nin0)).keep K528 nin0).keep K549 nin0).keep K573 nin0)
      refine Go.pureV C F590 (hw _ (List.mem_of_getElem? (i := 48) rfl)) (hw _ (List.mem_of_getElem? (i := 49) rfl)) (hw _ (List.mem_of_getElem? (i := 51) rfl)) (hw _ (List.mem_of_getElem? (i := 50) rfl)) (hw _ (List.mem_of_getElem? (i := 28) rfl)) (hw _ (List.mem_of_getElem? (i := 52) rfl)) (c_has1 W.l Z a0 hw dn h571 n0  F586 F591) at_177 pd__40_41Z (q := 180) rfl rfl (argsL := []) (st := [(.int v588)]) rfl rfl (w := 1) rfl (by decide) (by decide) (by decide) (by decide) ?_
      refine Go.if0 C at_180 (z_ne _) (qt := 187) (q := 183) (by decide) (by decide) rfl (fun b592 => absurd b592 (by decide)) (fun _ => ?_)
      refine Go.iconst C (1 : Int32) at_183 (q := 184) rfl rfl ?_
      refine Go.goto C at_184 (q := 188) (by decide) (by decide) ?_
      refine Go.iand C at_188 (q := 189) rfl ?_
      refine Go.istore C at_189 (q := 191) rfl (fun z => #[.val (.int p0), .val (.long p1), .second, .val (.long p2), .second, .val (.long p3), .second, .val (.int v1), .val (.int v4), .val (.ref a280), .val (.ref a430), .val (.ref a448), .val (.ref a468), .val (.ref a490), .val (.int z)]) (fun _ => rfl) ?_
      intro v593 hv593
      refine Go.iload C at_191 (q := 193) rfl rfl ?_
      exact Go.retZ (t := .boolean) (by simp) C at_193 (by decide) (by decide) (congrArg (fun z => some (Value.int z)) (fin3 p0 p1 p2 p3 v1 hv1 v4 hv4  b7  b293 v518 hv518 v540 hv540 v563 hv563 v588 hv588 v593 hv593))
set_option maxRecDepth 65536 in
set_option maxHeartbeats 4000000 in
theorem comes_1 {Post : Tables → Env → Array Value → State → Outcome → State → Prop} (hpost : ∀ tb e args s v u, (limb_1_1.after args s (.returned v) u = true ∧ limb_1_2.after args s (.returned v) u = true ∧ True) → FrameEnd s (.returned v) u (Jvm.fieldLocs frame_1_writes args s ++ Jvm.arrayLocs frame_1_arrays args s ++ Jvm.staticLocs frame_1_statics s) 24 128 → Post tb e args s (.returned v) u) :
    ArmFor flags0 classFile x code maxLocals ret World_1 tables_1 room_1 Calls_1 rest_1 Pre_1 Post := by
  intro l hfl _ _ p e ha hc hk s m args below hf hA hF happ hP
  obtain ⟨hcalls, hrest, hpre⟩ := hP
  obtain ⟨-, -, -, hnamed, -, -, -, hat⟩ := (Spec.applies_iff hf).mp happ
  obtain ⟨hg, hn⟩ := and_e (Cond.before_iff.mp (show (Jvm.Cond.and given_1 narrow_1).before args s = true from hpre))
  obtain ⟨hcount, hg0⟩ := and_e hg
  obtain ⟨ha0, hg1⟩ := and_e hg0
  obtain ⟨ha1, hg2⟩ := and_e hg1
  obtain ⟨ha2, hg3⟩ := and_e hg2
  have ha3 := hg3
  obtain ⟨w0, w1, w2, w3, rfl⟩ : ∃ w0 w1 w2 w3 : Value, args = #[w0, w1, w2, w3] := by
    have hs : args.size = 4 := by simpa [Cond.value, given_1] using hcount
    obtain ⟨L⟩ := args
    match L, hs with
    | [w0, w1, w2, w3], _ => exact ⟨w0, w1, w2, w3, rfl⟩
  have hw := fun d (hd : d ∈ tables_1) => atoms_spec (ws := Jvm.Cond.code x code maxLocals ret :: tables_1) hat d (List.mem_cons_of_mem _ hd)
  obtain ⟨i0, ei0⟩ := is_v ha0
  obtain rfl : w0 = (.int i0) := Option.some.inj ei0
  obtain ⟨i1, ei1⟩ := isL_v ha1
  obtain rfl : w1 = (.long i1) := Option.some.inj ei1
  obtain ⟨i2, ei2⟩ := isL_v ha2
  obtain rfl : w2 = (.long i2) := Option.some.inj ei2
  obtain ⟨i3, ei3⟩ := isL_v ha3
  obtain rfl : w3 = (.long i3) := Option.some.inj ei3
  obtain ⟨na0, nb0⟩ := and_e hn
  obtain ⟨dn, S_dn, E_dn, ev_dn⟩ := own_sta na0 (hw _ (List.mem_of_getElem? (i := 28) rfl)) (hw _ (List.mem_of_getElem? (i := 68) rfl))
  have F_dn := own_fld ev_dn (null_v nb0)
  obtain ⟨hsets, hown0⟩ := atoms_of _ (rest_1_c_eq ▸ (show rest_1_c.before _ s = true from hrest))
  obtain ⟨d, ev_d⟩ := arr_v (Cond.before_iff.mp (hsets _ (List.mem_of_getElem? (i := 6) rfl)))
  have S_d := Sta.start ev_d (Or.inr ⟨(hw _ (List.mem_of_getElem? (i := 2) rfl)), (hsets _ (List.mem_of_getElem? (i := 2) rfl))⟩)
  obtain ⟨n, o, h1, h2, h3, _, L, rfl, ⟨N, rfl⟩, hq⟩ := rm0 l s _ hw i0 i1 i2 i3 s.heap s.heap.size (Nat.le_refl _) d S_d dn S_dn E_dn F_dn p e ha hc hk s m _ below hf ((Spec.applies_iff_loose hf).mp happ).1 ⟨rfl, State.Warmed39.refl s, rfl⟩ trivial
  refine ⟨n, _, h1, h2, h3, hpost _ _ _ _ _ _ ⟨Cond.after_iff.mpr rfl, Cond.after_iff.mpr (eq_i res_at (Term.int_eval (1)) rfl), trivial⟩ ⟨hq.1, hq.2.1, (hq.2.2.sift fun y hy => Or.inr (N y hy)).mono (by decide) (by decide)⟩⟩
theorem main_1_1 : Claimed_1_1 := comes_1 fun _ _ _ _ _ _ h hF => ⟨h.1, hF⟩
theorem main_1_2 : Claimed_1_2 := comes_1 fun _ _ _ _ _ _ h hF => ⟨h.2.1, hF⟩
end Jvm.Pilot.@@N@@
namespace Jvm.Pilot.@@N@@
open Jvm Jvm.ClassFile Sem Op Lib Jvm.Free Jvm.Stand Jvm.Pilot.@@N@@.Jvm.D
/-! MADE BY PROGRAM (witnessworld.py) out of the Statement's table words and the real class files: 19 classes; the members and pool entries that the words name. The judged class is class 1, her method 1. -/
namespace start1
open Jvm.ClassFile
def u (s : String) : CpInfo := .utf8 (stringToUtf16 s)
/-- a pool by its gaps: so many unusable entries, then the entry; so many at the end -/
def gap : Nat → List CpInfo → List CpInfo
  | 0, r => r
  | n + 1, r => .unusable :: gap n r
def poolList (es : List (Nat × CpInfo)) (last : Nat) : List CpInfo := es.foldr (fun e r => gap e.1 (e.2 :: r)) (gap last [])
def pool (es : List (Nat × CpInfo)) (last : Nat) : Array CpInfo := ⟨poolList es last⟩
def fileOf (pool : Array CpInfo) (this : Nat) (attrs : Array Attribute := #[]) (ms : Array MethodInfo := #[]) (fl : Nat := 33) (sup : Nat := 0) (ifs : Array Nat := #[]) (fds : Array FieldInfo := #[]) : ClassFile where
  minorVersion := 0
  majorVersion := 65
  constantPool := pool
  accessFlags := fl
  thisClass := this
  superClass := sup
  interfaces := ifs
  fields := fds
  methods := ms
  attributes := attrs
def plain (name : String) (sup : Option ClassId) : Class where
  name := name
  kind := .ordinary
  loader := none
  accessFlags := 33
  super := sup
  interfaces := #[]
  cf := none
  fields := #[]
  methods := #[]
  instanceTypes := #[]
  staticTypes := #[]
  resolved := #[]
  callSites := []
  init := .initialized
  statics := none
  mirror := none

def pool0 : Array CpInfo := pool [(5, u "<init>"), (0, u "()V"), (1, .class_ 10), (1, u "java/lang/Object")] 113

def k0c0 : Code := { maxStack := 0, maxLocals := 1, code := object_method_1_code, exceptionTable := #[], attributes := #[] }
def k0m0 : Method := { name := "<init>", desc := "()V", sig := { parameters := [], returnType := none }, accessFlags := 1, code := some k0c0 }
/-- java/lang/Object -/
def k0 : Class := { plain "java/lang/Object" none with
  accessFlags := 33
  interfaces := #[]
  cf := some (fileOf pool0 8 #[] #[{ accessFlags := 1, nameIndex := 5, descriptorIndex := 6, attributes := #[] }] 33 0 #[] #[])
  fields := #[]
  methods := #[k0m0]
  instanceTypes := #[]
  staticTypes := #[]
  resolved := Array.replicate 124 none
  statics := none }

def pool1 : Array CpInfo := pool [(2, .class_ 4), (0, .nameAndType 5 6), (0, u "java/lang/Object"), (0, u "<init>"), (0, u "()V"), (0, .class_ 8), (0, u "java/util/ArrayList"), (0, .methodref 7 3), (0, .class_ 11), (0, u "com/example/catrac/catrac/sql/Result"), (0, .methodref 10 13), (0, .nameAndType 5 14), (0, u "(Ljava/util/List;Ljava/util/List;JJJ)V"), (0, .methodref 10 16), (0, .nameAndType 17 18), (0, u "hasRows"), (0, u "()Z"), (0, .methodref 10 20), (0, .nameAndType 21 22), (0, u "rows"), (0, u "(Ljava/util/List;Ljava/util/List;)Lcom/example/catrac/catrac/sql/Result;"), (0, .methodref 10 24), (0, .nameAndType 25 26), (0, u "changed"), (0, u "(JJ)Lcom/example/catrac/catrac/sql/Result;"), (0, .methodref 10 28), (0, .nameAndType 29 26), (0, u "inserted"), (0, .methodref 10 31), (0, .nameAndType 32 33), (0, u "done"), (0, u "()Lcom/example/catrac/catrac/sql/Result;"), (0, .class_ 35), (0, u "com/example/catrac/catrac/sql/ResultHasRowsPinLaw"), (2, u "law"), (0, u "(IJJJ)Z")] 5

def k1m0 : Method := { name := "<init>", desc := "()V", sig := { parameters := [], returnType := none }, accessFlags := 2, code := none }
def k1c1 : Code := { maxStack := 10, maxLocals := 15, code := code, exceptionTable := #[], attributes := #[] }
def k1m1 : Method := { name := "law", desc := "(IJJJ)Z", sig := { parameters := [.int, .long, .long, .long], returnType := some .boolean }, accessFlags := 9, code := some k1c1 }
/-- com/example/catrac/catrac/sql/ResultHasRowsPinLaw -/
def k1 : Class := { plain "com/example/catrac/catrac/sql/ResultHasRowsPinLaw" (some 0) with
  accessFlags := 49
  interfaces := #[]
  cf := some (fileOf pool1 34 #[] #[{ accessFlags := 2, nameIndex := 5, descriptorIndex := 6, attributes := #[] }, { accessFlags := 9, nameIndex := 38, descriptorIndex := 39, attributes := #[] }] 49 2 #[] #[])
  fields := #[]
  methods := #[k1m0, k1m1]
  instanceTypes := #[]
  staticTypes := #[]
  resolved := Array.replicate 45 none
  statics := none }

def pool2 : Array CpInfo := pool [(8, .class_ 10), (1, u "java/lang/Iterable"), (24, .class_ 36), (0, u "java/lang/Object")] 25

/-- java/lang/Iterable -/
def k2 : Class := { plain "java/lang/Iterable" (some 0) with
  accessFlags := 1537
  interfaces := #[]
  cf := some (fileOf pool2 8 #[] #[] 1537 35 #[] #[])
  fields := #[]
  methods := #[]
  instanceTypes := #[]
  staticTypes := #[]
  resolved := Array.replicate 62 none
  statics := none }

def pool3 : Array CpInfo := pool [(10, .class_ 12), (1, u "java/util/Collection"), (47, .class_ 61), (0, u "java/lang/Object"), (0, .class_ 63), (0, u "java/lang/Iterable")] 51

/-- java/util/Collection -/
def k3 : Class := { plain "java/util/Collection" (some 0) with
  accessFlags := 1537
  interfaces := #[2]
  cf := some (fileOf pool3 10 #[] #[] 1537 60 #[62] #[])
  fields := #[]
  methods := #[]
  instanceTypes := #[]
  staticTypes := #[]
  resolved := Array.replicate 115 none
  statics := none }

def pool4 : Array CpInfo := pool [(1, .methodref 2 3), (0, .class_ 4), (0, .nameAndType 5 6), (0, u "java/lang/Object"), (0, u "<init>"), (0, u "()V"), (1, .class_ 10), (1, u "java/util/AbstractCollection"), (66, .class_ 78), (0, u "java/util/Collection")] 81

def k4c0 : Code := { maxStack := 1, maxLocals := 1, code := jdk_22_method_1_code, exceptionTable := #[], attributes := #[] }
def k4m0 : Method := { name := "<init>", desc := "()V", sig := { parameters := [], returnType := none }, accessFlags := 4, code := some k4c0 }
/-- java/util/AbstractCollection -/
def k4 : Class := { plain "java/util/AbstractCollection" (some 0) with
  accessFlags := 1057
  interfaces := #[3]
  cf := some (fileOf pool4 8 #[] #[{ accessFlags := 4, nameIndex := 5, descriptorIndex := 6, attributes := #[] }] 1057 2 #[77] #[])
  fields := #[]
  methods := #[k4m0]
  instanceTypes := #[]
  staticTypes := #[]
  resolved := Array.replicate 160 none
  statics := none }

def pool5 : Array CpInfo := pool [(8, .class_ 10), (1, u "java/util/SequencedCollection"), (15, .class_ 27), (0, u "java/lang/Object"), (0, .class_ 29), (0, u "java/util/Collection")] 27

/-- java/util/SequencedCollection -/
def k5 : Class := { plain "java/util/SequencedCollection" (some 0) with
  accessFlags := 1537
  interfaces := #[3]
  cf := some (fileOf pool5 8 #[] #[] 1537 26 #[28] #[])
  fields := #[]
  methods := #[]
  instanceTypes := #[]
  staticTypes := #[]
  resolved := Array.replicate 57 none
  statics := none }

def pool6 : Array CpInfo := pool [(8, .class_ 10), (1, u "java/util/List"), (92, .class_ 104), (0, u "java/lang/Object"), (15, .class_ 121), (0, u "java/util/SequencedCollection")] 129

/-- java/util/List -/
def k6 : Class := { plain "java/util/List" (some 0) with
  accessFlags := 1537
  interfaces := #[5]
  cf := some (fileOf pool6 8 #[] #[] 1537 103 #[120] #[])
  fields := #[]
  methods := #[]
  instanceTypes := #[]
  staticTypes := #[]
  resolved := Array.replicate 251 none
  statics := none }

def pool7 : Array CpInfo := pool [(1, .methodref 2 3), (0, .class_ 4), (0, .nameAndType 5 6), (0, u "java/util/AbstractCollection"), (0, u "<init>"), (0, u "()V"), (0, .fieldref 8 9), (0, .class_ 10), (0, .nameAndType 11 12), (0, u "java/util/AbstractList"), (0, u "modCount"), (0, u "I"), (64, .class_ 78), (0, u "java/util/AbstractList$Itr"), (3, .class_ 83), (0, u "java/util/AbstractList$ListItr"), (9, .class_ 94), (0, u "java/util/AbstractList$RandomAccessSubList"), (3, .class_ 99), (0, u "java/util/AbstractList$SubList"), (33, .class_ 134), (0, u "java/util/List"), (73, .class_ 209), (0, u "java/util/AbstractList$SubList$1"), (0, .class_ 211), (0, u "java/util/AbstractList$RandomAccessSpliterator")] 6

def k7c0 : Code := { maxStack := 2, maxLocals := 1, code := jdk_39_method_1_code, exceptionTable := #[], attributes := #[] }
def k7m0 : Method := { name := "<init>", desc := "()V", sig := { parameters := [], returnType := none }, accessFlags := 4, code := some k7c0 }
/-- java/util/AbstractList -/
def k7 : Class := { plain "java/util/AbstractList" (some 4) with
  accessFlags := 1057
  interfaces := #[6]
  cf := some (fileOf pool7 8 #[.nestMembers #[93, 98, 208, 210, 82, 77]] #[{ accessFlags := 4, nameIndex := 5, descriptorIndex := 6, attributes := #[] }] 1057 2 #[133] #[{ accessFlags := 132, nameIndex := 11, descriptorIndex := 12, attributes := #[] }])
  fields := #[{ name := "modCount", type := .int, accessFlags := 132, slot := 0, constantValue := 0 }]
  methods := #[k7m0]
  instanceTypes := #[.int]
  staticTypes := #[]
  resolved := Array.replicate 218 none
  statics := none }

def pool8 : Array CpInfo := pool [(1, .class_ 2), (0, u "java/util/RandomAccess"), (0, .class_ 4), (0, u "java/lang/Object")] 2

/-- java/util/RandomAccess -/
def k8 : Class := { plain "java/util/RandomAccess" (some 0) with
  accessFlags := 1537
  interfaces := #[]
  cf := some (fileOf pool8 1 #[] #[] 1537 3 #[] #[])
  fields := #[]
  methods := #[]
  instanceTypes := #[]
  staticTypes := #[]
  resolved := Array.replicate 7 none
  statics := none }

def pool9 : Array CpInfo := pool [(1, .class_ 2), (0, u "java/lang/Cloneable"), (0, .class_ 4), (0, u "java/lang/Object")] 2

/-- java/lang/Cloneable -/
def k9 : Class := { plain "java/lang/Cloneable" (some 0) with
  accessFlags := 1537
  interfaces := #[]
  cf := some (fileOf pool9 1 #[] #[] 1537 3 #[] #[])
  fields := #[]
  methods := #[]
  instanceTypes := #[]
  staticTypes := #[]
  resolved := Array.replicate 7 none
  statics := none }

def pool10 : Array CpInfo := pool [(1, .class_ 2), (0, u "java/io/Serializable"), (0, .class_ 4), (0, u "java/lang/Object")] 2

/-- java/io/Serializable -/
def k10 : Class := { plain "java/io/Serializable" (some 0) with
  accessFlags := 1537
  interfaces := #[]
  cf := some (fileOf pool10 1 #[] #[] 1537 3 #[] #[])
  fields := #[]
  methods := #[]
  instanceTypes := #[]
  staticTypes := #[]
  resolved := Array.replicate 7 none
  statics := none }

def pool11 : Array CpInfo := pool [(1, .methodref 2 3), (0, .class_ 4), (0, .nameAndType 5 6), (0, u "java/util/AbstractList"), (0, u "<init>"), (0, u "()V"), (2, .fieldref 10 11), (0, .class_ 12), (0, .nameAndType 13 14), (0, u "java/util/ArrayList"), (0, u "elementData"), (0, u "[Ljava/lang/Object;"), (2, u "EMPTY_ELEMENTDATA"), (21, .fieldref 10 40), (0, .nameAndType 41 14), (0, u "DEFAULTCAPACITY_EMPTY_ELEMENTDATA"), (8, u "size"), (0, u "I"), (96, .class_ 149), (0, u "java/util/List"), (112, .class_ 263), (0, u "java/util/ArrayList$ListItr"), (3, .class_ 268), (0, u "java/util/ArrayList$Itr"), (7, .class_ 277), (0, u "java/util/ArrayList$SubList"), (12, .class_ 291), (0, u "java/util/ArrayList$ArrayListSpliterator"), (37, .class_ 330), (0, u "java/util/RandomAccess"), (0, .class_ 332), (0, u "java/lang/Cloneable"), (0, .class_ 334), (0, u "java/io/Serializable"), (0, u "serialVersionUID"), (0, u "J"), (3, u "DEFAULT_CAPACITY"), (159, .class_ 501), (0, u "java/util/ArrayList$SubList$2"), (0, .class_ 503), (0, u "java/util/ArrayList$SubList$1")] 5

def k11c0 : Code := { maxStack := 2, maxLocals := 1, code := jdk_38_method_2_code, exceptionTable := #[], attributes := #[] }
def k11m0 : Method := { name := "<init>", desc := "()V", sig := { parameters := [], returnType := none }, accessFlags := 1, code := some k11c0 }
/-- java/util/ArrayList -/
def k11 : Class := { plain "java/util/ArrayList" (some 7) with
  accessFlags := 33
  interfaces := #[6, 8, 9, 10]
  cf := some (fileOf pool11 10 #[.nestMembers #[290, 276, 500, 502, 262, 267]] #[{ accessFlags := 1, nameIndex := 5, descriptorIndex := 6, attributes := #[] }] 33 2 #[148, 329, 331, 333] #[{ accessFlags := 26, nameIndex := 335, descriptorIndex := 336, attributes := #[] }, { accessFlags := 26, nameIndex := 340, descriptorIndex := 51, attributes := #[] }, { accessFlags := 26, nameIndex := 17, descriptorIndex := 14, attributes := #[] }, { accessFlags := 26, nameIndex := 41, descriptorIndex := 14, attributes := #[] }, { accessFlags := 128, nameIndex := 13, descriptorIndex := 14, attributes := #[] }, { accessFlags := 2, nameIndex := 50, descriptorIndex := 51, attributes := #[] }])
  fields := #[{ name := "serialVersionUID", type := .long, accessFlags := 26, slot := 0, constantValue := 0 }, { name := "DEFAULT_CAPACITY", type := .int, accessFlags := 26, slot := 1, constantValue := 0 }, { name := "EMPTY_ELEMENTDATA", type := (.array (.object "java/lang/Object")), accessFlags := 26, slot := 2, constantValue := 0 }, { name := "DEFAULTCAPACITY_EMPTY_ELEMENTDATA", type := (.array (.object "java/lang/Object")), accessFlags := 26, slot := 3, constantValue := 0 }, { name := "elementData", type := (.array (.object "java/lang/Object")), accessFlags := 128, slot := 1, constantValue := 0 }, { name := "size", type := .int, accessFlags := 2, slot := 2, constantValue := 0 }]
  methods := #[k11m0]
  instanceTypes := #[.int, (.array (.object "java/lang/Object")), .int]
  staticTypes := #[.long, .int, (.array (.object "java/lang/Object")), (.array (.object "java/lang/Object"))]
  resolved := Array.replicate 509 none
  statics := some 0 }

def pool12 : Array CpInfo := pool [(1, .methodref 2 3), (0, .class_ 4), (0, .nameAndType 5 6), (0, u "java/lang/Object"), (0, u "<init>"), (0, u "()V"), (0, .class_ 8), (0, u "java/lang/Record")] 13

def k12c0 : Code := { maxStack := 1, maxLocals := 1, code := jdk_30_method_1_code, exceptionTable := #[], attributes := #[] }
def k12m0 : Method := { name := "<init>", desc := "()V", sig := { parameters := [], returnType := none }, accessFlags := 4, code := some k12c0 }
/-- java/lang/Record -/
def k12 : Class := { plain "java/lang/Record" (some 0) with
  accessFlags := 1057
  interfaces := #[]
  cf := some (fileOf pool12 7 #[] #[{ accessFlags := 4, nameIndex := 5, descriptorIndex := 6, attributes := #[] }] 1057 2 #[] #[])
  fields := #[]
  methods := #[k12m0]
  instanceTypes := #[]
  staticTypes := #[]
  resolved := Array.replicate 22 none
  statics := none }

def pool13 : Array CpInfo := pool [(1, .methodref 2 3), (0, .class_ 4), (0, .nameAndType 5 6), (0, u "java/lang/Record"), (0, u "<init>"), (0, u "()V"), (0, .fieldref 8 9), (0, .class_ 10), (0, .nameAndType 11 12), (0, u "com/example/catrac/catrac/sql/Result"), (0, u "columns"), (0, u "Ljava/util/List;"), (0, .fieldref 8 14), (0, .nameAndType 15 12), (0, u "rows"), (0, .fieldref 8 17), (0, .nameAndType 18 19), (0, u "matchedRows"), (0, u "J"), (0, .fieldref 8 21), (0, .nameAndType 22 19), (0, u "changedRows"), (0, .fieldref 8 24), (0, .nameAndType 25 19), (0, u "insertId"), (0, .fieldref 8 27), (0, .nameAndType 28 29), (0, u "DONE"), (0, u "Lcom/example/catrac/catrac/sql/Result;"), (0, .methodref 8 31), (0, .nameAndType 5 32), (0, u "(Ljava/util/List;Ljava/util/List;JJJ)V"), (14, u "changed"), (0, u "(JJ)Lcom/example/catrac/catrac/sql/Result;"), (7, u "done"), (0, u "()Lcom/example/catrac/catrac/sql/Result;"), (0, u "(Ljava/util/List;Ljava/util/List;)Lcom/example/catrac/catrac/sql/Result;"), (1, u "inserted"), (0, u "hasRows"), (0, u "()Z"), (12, .class_ 76), (0, u "com/example/catrac/catrac/sql/Result$Column")] 23

def k13c0 : Code := { maxStack := 3, maxLocals := 9, code := prog_43_method_1_code, exceptionTable := #[], attributes := #[] }
def k13m0 : Method := { name := "<init>", desc := "(Ljava/util/List;Ljava/util/List;JJJ)V", sig := { parameters := [(.object "java/util/List"), (.object "java/util/List"), .long, .long, .long], returnType := none }, accessFlags := 1, code := some k13c0 }
def k13c1 : Code := { maxStack := 1, maxLocals := 0, code := prog_43_method_2_code, exceptionTable := #[], attributes := #[] }
def k13m1 : Method := { name := "done", desc := "()Lcom/example/catrac/catrac/sql/Result;", sig := { parameters := [], returnType := some (.object "com/example/catrac/catrac/sql/Result") }, accessFlags := 8, code := some k13c1 }
def k13c2 : Code := { maxStack := 10, maxLocals := 2, code := prog_43_method_3_code, exceptionTable := #[], attributes := #[] }
def k13m2 : Method := { name := "rows", desc := "(Ljava/util/List;Ljava/util/List;)Lcom/example/catrac/catrac/sql/Result;", sig := { parameters := [(.object "java/util/List"), (.object "java/util/List")], returnType := some (.object "com/example/catrac/catrac/sql/Result") }, accessFlags := 8, code := some k13c2 }
def k13c3 : Code := { maxStack := 10, maxLocals := 4, code := prog_43_method_4_code, exceptionTable := #[], attributes := #[] }
def k13m3 : Method := { name := "changed", desc := "(JJ)Lcom/example/catrac/catrac/sql/Result;", sig := { parameters := [.long, .long], returnType := some (.object "com/example/catrac/catrac/sql/Result") }, accessFlags := 8, code := some k13c3 }
def k13c4 : Code := { maxStack := 10, maxLocals := 4, code := prog_43_method_5_code, exceptionTable := #[], attributes := #[] }
def k13m4 : Method := { name := "inserted", desc := "(JJ)Lcom/example/catrac/catrac/sql/Result;", sig := { parameters := [.long, .long], returnType := some (.object "com/example/catrac/catrac/sql/Result") }, accessFlags := 8, code := some k13c4 }
def k13c5 : Code := { maxStack := 1, maxLocals := 1, code := prog_43_method_6_code, exceptionTable := #[], attributes := #[] }
def k13m5 : Method := { name := "hasRows", desc := "()Z", sig := { parameters := [], returnType := some .boolean }, accessFlags := 1, code := some k13c5 }
/-- com/example/catrac/catrac/sql/Result -/
def k13 : Class := { plain "com/example/catrac/catrac/sql/Result" (some 12) with
  accessFlags := 49
  interfaces := #[]
  cf := some (fileOf pool13 8 #[.nestMembers #[75]] #[{ accessFlags := 1, nameIndex := 5, descriptorIndex := 32, attributes := #[] }, { accessFlags := 8, nameIndex := 56, descriptorIndex := 57, attributes := #[] }, { accessFlags := 8, nameIndex := 15, descriptorIndex := 58, attributes := #[] }, { accessFlags := 8, nameIndex := 47, descriptorIndex := 48, attributes := #[] }, { accessFlags := 8, nameIndex := 60, descriptorIndex := 48, attributes := #[] }, { accessFlags := 1, nameIndex := 61, descriptorIndex := 62, attributes := #[] }] 49 2 #[] #[{ accessFlags := 18, nameIndex := 11, descriptorIndex := 12, attributes := #[] }, { accessFlags := 18, nameIndex := 15, descriptorIndex := 12, attributes := #[] }, { accessFlags := 18, nameIndex := 18, descriptorIndex := 19, attributes := #[] }, { accessFlags := 18, nameIndex := 22, descriptorIndex := 19, attributes := #[] }, { accessFlags := 18, nameIndex := 25, descriptorIndex := 19, attributes := #[] }, { accessFlags := 26, nameIndex := 28, descriptorIndex := 29, attributes := #[] }])
  fields := #[{ name := "columns", type := (.object "java/util/List"), accessFlags := 18, slot := 0, constantValue := 0 }, { name := "rows", type := (.object "java/util/List"), accessFlags := 18, slot := 1, constantValue := 0 }, { name := "matchedRows", type := .long, accessFlags := 18, slot := 2, constantValue := 0 }, { name := "changedRows", type := .long, accessFlags := 18, slot := 3, constantValue := 0 }, { name := "insertId", type := .long, accessFlags := 18, slot := 4, constantValue := 0 }, { name := "DONE", type := (.object "com/example/catrac/catrac/sql/Result"), accessFlags := 26, slot := 0, constantValue := 0 }]
  methods := #[k13m0, k13m1, k13m2, k13m3, k13m4, k13m5]
  instanceTypes := #[(.object "java/util/List"), (.object "java/util/List"), .long, .long, .long]
  staticTypes := #[(.object "com/example/catrac/catrac/sql/Result")]
  resolved := Array.replicate 100 none
  statics := some 1 }

/-- the primitive byte -/
def k14 : Class := { plain "byte" none with kind := .primitive 'B', accessFlags := 0x411 }
/-- [B -/
def k15 : Class := { plain "[B" (some 0) with kind := .array 14 .byte, interfaces := #[9, 10], accessFlags := 1041 }

/-- the primitive int -/
def k16 : Class := { plain "int" none with kind := .primitive 'I', accessFlags := 0x411 }
/-- [I -/
def k17 : Class := { plain "[I" (some 0) with kind := .array 16 .int, interfaces := #[9, 10], accessFlags := 1041 }

/-- [Ljava/lang/Object; -/
def k18 : Class := { plain "[Ljava/lang/Object;" (some 0) with kind := .array 0 (.object "java/lang/Object"), interfaces := #[9, 10], accessFlags := 1041 }

def heap : Heap := #[{ cls := 11, slots := #[.long 0, .int 0, .ref 3, .ref 4], vm := .statics 11 },
  { cls := 13, slots := #[.ref 2], vm := .statics 13 },
  { cls := 13, slots := #[.null, .null, .long 0, .long 0, .long 0], vm := .none },
  { cls := 18, slots := #[], vm := .none },
  { cls := 18, slots := #[], vm := .none }]
def classes : Array Class := #[k0, k1, k2, k3, k4, k5, k6, k7, k8, k9, k10, k11, k12, k13, k14, k15, k16, k17, k18]
def interned : List (Array UInt16 × Addr) := []
def slotsUsed : Nat := 10
def theMethod : MethodId := ⟨1, 1⟩
def args0 : Array Value := #[.int 1, .long 2, .long 3, .long 4]
def aboutOver (below : List Frame) : State where
  vm := { classes := classes, interned := interned.toArray }
  heap := heap
  slotsUsed := slotsUsed
  threads := #[{ frames := .invoking theMethod args0 :: below }]
def below0 : List Frame := [.native { method := ⟨0, 0⟩, args := #[] }]
def about1 : State := aboutOver below0
def p0 : Program := .bare "" "" ""
def e0 : Env := launch0.env 0 0 0
theorem w_frames : about1.frames = Frame.invoking theMethod args0 :: below0 := rfl
set_option maxRecDepth 65536 in
theorem w_args : argsFit about1.vm theMethod args0 = true := by decide +kernel
set_option maxRecDepth 65536 in
theorem w_heap : heapFits about1 = true := by decide +kernel
set_option maxRecDepth 65536 in
theorem w_runnable : about1.curStatus? = some .runnable := by decide +kernel
set_option maxRecDepth 65536 in
theorem w_alone : about1.alone = true := by decide +kernel
set_option maxRecDepth 65536 in
theorem w_named : about1.methodNamed? x = some theMethod := by decide +kernel
set_option maxRecDepth 65536 in
theorem w_hears : about1.hears theMethod below0 = true := by decide +kernel
set_option maxRecDepth 65536 in
theorem w_ripe : about1.ripe theMethod args0 below0 = true := by decide +kernel
theorem w_running : about1.status = .running := rfl
set_option maxRecDepth 65536 in
theorem w_room : about1.hasRoom e0.platform room_1 = true :=
  launch0.hasRoom_least _ room_1 (by decide +kernel) (by decide +kernel) (by decide +kernel) (by decide +kernel) (by decide +kernel) (by decide +kernel)
theorem allAtoms_all (ts : List Jvm.Cond) (a : Array Jvm.Value) (st : Jvm.State) : (allAtoms ts).before a st = ts.all (fun c => c.before a st) := by
  induction ts with
  | nil => rfl
  | cons c t ih =>
    show (Jvm.Cond.and c (allAtoms t)).before a st = _
    rw [Jvm.Cond.before_and, ih, List.all_cons]
def words1 : List Jvm.Cond := Jvm.Cond.code x code maxLocals ret :: tables_1
/-- a 'code' word, met by the world's own term for the bytes: nothing is compared byte by byte -/
theorem code_word {y : MethodName} {bytes : ByteArray} {mx : Nat} {rt : Option FieldType} {a : Array Value} {s : State} {m : MethodId} {meth : Method} {c : Code} (h1 : s.methodNamed? y = some m) (h2 : s.vm.method? m = some meth) (h3 : meth.code = some c) (h4 : c.code = bytes)
    (h5 : (c.maxLocals == mx && c.exceptionTable.isEmpty && decide (c.maxStack ≤ mostOperands) && decide (meth.sig.returnType = rt) && !meth.locks && decide (parseMethodDescriptor y.desc = some meth.sig)) = true) : (Jvm.Cond.code y bytes mx rt).before a s = true := by
  simp only [Bool.and_eq_true, beq_iff_eq, Bool.not_eq_true', decide_eq_true_eq] at h5
  obtain ⟨⟨⟨⟨⟨g1, g2⟩, g3⟩, g4⟩, g5⟩, g6⟩ := h5
  simp [Cond.before, Cond.holds, Cond.value, h1, h2, h3, h4, g1, g2, g3, g4, g5, g6]
def isCode : Jvm.Cond → Bool
  | .code _ _ _ _ => true
  | _ => false
theorem all_split {L : List Jvm.Cond} {P : Jvm.Cond → Bool} (h1 : L.all (fun c => isCode c || P c) = true) (h2 : ∀ c ∈ L.filter isCode, P c = true) : L.all P = true := by
  refine List.all_eq_true.mpr fun c hc => ?_
  have h := List.all_eq_true.mp h1 c hc
  rcases Bool.eq_false_or_eq_true (isCode c) with hi | hi
  · exact h2 c (List.mem_filter.mpr ⟨hc, hi⟩)
  · simpa [hi] using h
set_option maxRecDepth 65536 in
theorem w_c0 : (Jvm.Cond.code x code maxLocals ret).before args0 about1 = true := code_word (m := ⟨1, 1⟩) (meth := k1m1) (c := k1c1) (by decide +kernel) rfl rfl rfl (by decide +kernel)
set_option maxRecDepth 65536 in
theorem w_c1 : (Jvm.Cond.code ({ cls := "java/util/ArrayList", name := "<init>", desc := "()V" } : Jvm.MethodName) jdk_38_method_2_code (1 : Nat) (Option.none : Option Jvm.ClassFile.FieldType)).before args0 about1 = true := code_word (m := ⟨11, 0⟩) (meth := k11m0) (c := k11c0) (by decide +kernel) rfl rfl rfl (by decide +kernel)
set_option maxRecDepth 65536 in
theorem w_c2 : (Jvm.Cond.code ({ cls := "java/util/AbstractList", name := "<init>", desc := "()V" } : Jvm.MethodName) jdk_39_method_1_code (1 : Nat) (Option.none : Option Jvm.ClassFile.FieldType)).before args0 about1 = true := code_word (m := ⟨7, 0⟩) (meth := k7m0) (c := k7c0) (by decide +kernel) rfl rfl rfl (by decide +kernel)
set_option maxRecDepth 65536 in
theorem w_c3 : (Jvm.Cond.code ({ cls := "java/util/AbstractCollection", name := "<init>", desc := "()V" } : Jvm.MethodName) jdk_22_method_1_code (1 : Nat) (Option.none : Option Jvm.ClassFile.FieldType)).before args0 about1 = true := code_word (m := ⟨4, 0⟩) (meth := k4m0) (c := k4c0) (by decide +kernel) rfl rfl rfl (by decide +kernel)
set_option maxRecDepth 65536 in
theorem w_c4 : (Jvm.Cond.code ({ cls := "java/lang/Object", name := "<init>", desc := "()V" } : Jvm.MethodName) object_method_1_code (1 : Nat) (Option.none : Option Jvm.ClassFile.FieldType)).before args0 about1 = true := code_word (m := ⟨0, 0⟩) (meth := k0m0) (c := k0c0) (by decide +kernel) rfl rfl rfl (by decide +kernel)
set_option maxRecDepth 65536 in
theorem w_c5 : (Jvm.Cond.code ({ cls := "com/example/catrac/catrac/sql/Result", name := "<init>", desc := "(Ljava/util/List;Ljava/util/List;JJJ)V" } : Jvm.MethodName) prog_43_method_1_code (9 : Nat) (Option.none : Option Jvm.ClassFile.FieldType)).before args0 about1 = true := code_word (m := ⟨13, 0⟩) (meth := k13m0) (c := k13c0) (by decide +kernel) rfl rfl rfl (by decide +kernel)
set_option maxRecDepth 65536 in
theorem w_c6 : (Jvm.Cond.code ({ cls := "java/lang/Record", name := "<init>", desc := "()V" } : Jvm.MethodName) jdk_30_method_1_code (1 : Nat) (Option.none : Option Jvm.ClassFile.FieldType)).before args0 about1 = true := code_word (m := ⟨12, 0⟩) (meth := k12m0) (c := k12c0) (by decide +kernel) rfl rfl rfl (by decide +kernel)
set_option maxRecDepth 65536 in
theorem w_c7 : (Jvm.Cond.code ({ cls := "com/example/catrac/catrac/sql/Result", name := "hasRows", desc := "()Z" } : Jvm.MethodName) prog_43_method_6_code (1 : Nat) (Option.some Jvm.ClassFile.FieldType.boolean)).before args0 about1 = true := code_word (m := ⟨13, 5⟩) (meth := k13m5) (c := k13c5) (by decide +kernel) rfl rfl rfl (by decide +kernel)
set_option maxRecDepth 65536 in
theorem w_c8 : (Jvm.Cond.code ({ cls := "com/example/catrac/catrac/sql/Result", name := "rows", desc := "(Ljava/util/List;Ljava/util/List;)Lcom/example/catrac/catrac/sql/Result;" } : Jvm.MethodName) prog_43_method_3_code (2 : Nat) (Option.some (Jvm.ClassFile.FieldType.object "com/example/catrac/catrac/sql/Result"))).before args0 about1 = true := code_word (m := ⟨13, 2⟩) (meth := k13m2) (c := k13c2) (by decide +kernel) rfl rfl rfl (by decide +kernel)
set_option maxRecDepth 65536 in
theorem w_c9 : (Jvm.Cond.code ({ cls := "com/example/catrac/catrac/sql/Result", name := "changed", desc := "(JJ)Lcom/example/catrac/catrac/sql/Result;" } : Jvm.MethodName) prog_43_method_4_code (4 : Nat) (Option.some (Jvm.ClassFile.FieldType.object "com/example/catrac/catrac/sql/Result"))).before args0 about1 = true := code_word (m := ⟨13, 3⟩) (meth := k13m3) (c := k13c3) (by decide +kernel) rfl rfl rfl (by decide +kernel)
set_option maxRecDepth 65536 in
theorem w_c10 : (Jvm.Cond.code ({ cls := "com/example/catrac/catrac/sql/Result", name := "inserted", desc := "(JJ)Lcom/example/catrac/catrac/sql/Result;" } : Jvm.MethodName) prog_43_method_5_code (4 : Nat) (Option.some (Jvm.ClassFile.FieldType.object "com/example/catrac/catrac/sql/Result"))).before args0 about1 = true := code_word (m := ⟨13, 4⟩) (meth := k13m4) (c := k13c4) (by decide +kernel) rfl rfl rfl (by decide +kernel)
set_option maxRecDepth 65536 in
theorem w_c11 : (Jvm.Cond.code ({ cls := "com/example/catrac/catrac/sql/Result", name := "done", desc := "()Lcom/example/catrac/catrac/sql/Result;" } : Jvm.MethodName) prog_43_method_2_code (0 : Nat) (Option.some (Jvm.ClassFile.FieldType.object "com/example/catrac/catrac/sql/Result"))).before args0 about1 = true := code_word (m := ⟨13, 1⟩) (meth := k13m1) (c := k13c1) (by decide +kernel) rfl rfl rfl (by decide +kernel)
def codes1 : List Jvm.Cond := [Jvm.Cond.code x code maxLocals ret, Jvm.Cond.code ({ cls := "java/util/ArrayList", name := "<init>", desc := "()V" } : Jvm.MethodName) jdk_38_method_2_code (1 : Nat) (Option.none : Option Jvm.ClassFile.FieldType), Jvm.Cond.code ({ cls := "java/util/AbstractList", name := "<init>", desc := "()V" } : Jvm.MethodName) jdk_39_method_1_code (1 : Nat) (Option.none : Option Jvm.ClassFile.FieldType), Jvm.Cond.code ({ cls := "java/util/AbstractCollection", name := "<init>", desc := "()V" } : Jvm.MethodName) jdk_22_method_1_code (1 : Nat) (Option.none : Option Jvm.ClassFile.FieldType), Jvm.Cond.code ({ cls := "java/lang/Object", name := "<init>", desc := "()V" } : Jvm.MethodName) object_method_1_code (1 : Nat) (Option.none : Option Jvm.ClassFile.FieldType), Jvm.Cond.code ({ cls := "com/example/catrac/catrac/sql/Result", name := "<init>", desc := "(Ljava/util/List;Ljava/util/List;JJJ)V" } : Jvm.MethodName) prog_43_method_1_code (9 : Nat) (Option.none : Option Jvm.ClassFile.FieldType), Jvm.Cond.code ({ cls := "java/lang/Record", name := "<init>", desc := "()V" } : Jvm.MethodName) jdk_30_method_1_code (1 : Nat) (Option.none : Option Jvm.ClassFile.FieldType), Jvm.Cond.code ({ cls := "com/example/catrac/catrac/sql/Result", name := "hasRows", desc := "()Z" } : Jvm.MethodName) prog_43_method_6_code (1 : Nat) (Option.some Jvm.ClassFile.FieldType.boolean), Jvm.Cond.code ({ cls := "com/example/catrac/catrac/sql/Result", name := "rows", desc := "(Ljava/util/List;Ljava/util/List;)Lcom/example/catrac/catrac/sql/Result;" } : Jvm.MethodName) prog_43_method_3_code (2 : Nat) (Option.some (Jvm.ClassFile.FieldType.object "com/example/catrac/catrac/sql/Result")), Jvm.Cond.code ({ cls := "com/example/catrac/catrac/sql/Result", name := "changed", desc := "(JJ)Lcom/example/catrac/catrac/sql/Result;" } : Jvm.MethodName) prog_43_method_4_code (4 : Nat) (Option.some (Jvm.ClassFile.FieldType.object "com/example/catrac/catrac/sql/Result")), Jvm.Cond.code ({ cls := "com/example/catrac/catrac/sql/Result", name := "inserted", desc := "(JJ)Lcom/example/catrac/catrac/sql/Result;" } : Jvm.MethodName) prog_43_method_5_code (4 : Nat) (Option.some (Jvm.ClassFile.FieldType.object "com/example/catrac/catrac/sql/Result")), Jvm.Cond.code ({ cls := "com/example/catrac/catrac/sql/Result", name := "done", desc := "()Lcom/example/catrac/catrac/sql/Result;" } : Jvm.MethodName) prog_43_method_2_code (0 : Nat) (Option.some (Jvm.ClassFile.FieldType.object "com/example/catrac/catrac/sql/Result"))]
set_option maxRecDepth 65536 in
theorem codes_eq : words1.filter isCode = codes1 := rfl
theorem w_codes : ∀ c ∈ words1.filter isCode, c.before args0 about1 = true := by
  rw [codes_eq]
  intro c hc
  simp only [codes1, List.mem_cons, List.not_mem_nil, or_false] at hc
  rcases hc with rfl | rfl | rfl | rfl | rfl | rfl | rfl | rfl | rfl | rfl | rfl | rfl
  · exact w_c0
  · exact w_c1
  · exact w_c2
  · exact w_c3
  · exact w_c4
  · exact w_c5
  · exact w_c6
  · exact w_c7
  · exact w_c8
  · exact w_c9
  · exact w_c10
  · exact w_c11
set_option maxRecDepth 65536 in
theorem w_t1 : (words1.take 24).all (fun c => isCode c || c.before args0 about1) = true := by decide +kernel
set_option maxRecDepth 65536 in
theorem w_t2 : ((words1.drop 24).take 24).all (fun c => isCode c || c.before args0 about1) = true := by decide +kernel
set_option maxRecDepth 65536 in
theorem w_t3 : ((words1.drop 24).drop 24).all (fun c => isCode c || c.before args0 about1) = true := by decide +kernel
theorem w_tables : (allAtoms (Jvm.Cond.code x code maxLocals ret :: tables_1)).before args0 about1 = true := by
  rw [allAtoms_all]
  show words1.all (fun c => c.before args0 about1) = true
  refine all_split ?_ w_codes
  rw [← List.take_append_drop 24 words1, List.all_append, w_t1, ← List.take_append_drop 24 (words1.drop 24), List.all_append, w_t2, w_t3]
  rfl
set_option maxRecDepth 65536 in
theorem w_rest : rest_1_c.before args0 about1 = true := by decide +kernel
set_option maxRecDepth 65536 in
theorem w_case : (Jvm.Cond.and given_1 narrow_1).before args0 about1 = true := by decide +kernel
theorem w_applies : (headSpec (Jvm.Cond.code x code maxLocals ret :: tables_1) room_1).applies x e0.platform about1 = true :=
  (Spec.applies_iff w_frames).mpr ⟨w_running, w_runnable, w_alone, w_named, w_hears, w_ripe, w_room, w_tables⟩
theorem atStart : AtStart classFile x code maxLocals ret World_1 tables_1 room_1 Calls_1 rest_1 Pre_1 launch0 p0 e0 about1 theMethod args0 below0 :=
  ⟨lists_1, trivial, launch0.admits_env _ _ _, launch0.least_env, fairChoices_fair.cas, fairChoices_fair.clock, w_frames, w_args, w_heap, w_applies, trivial, w_rest, w_case⟩
end start1
theorem witness_1 : WitnessClaimed_1 := ⟨start1.p0, start1.e0, start1.about1, start1.theMethod, start1.args0, start1.below0, start1.atStart⟩
end Jvm.Pilot.@@N@@
