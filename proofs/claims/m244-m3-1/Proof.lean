import JvmDerived
import JvmDerived.Pilot.@@N@@Statement
import JvmDerived.Pilot.@@N@@Code
set_option linter.unusedVariables false
set_option linter.unusedSimpArgs false
namespace Jvm.RoadKit
open Sem ClassFile Op Lib Jvm.Stand Jvm.Free Jvm.LawKit
section New
variable {p : Program} {l : Launch} {e : Env} {R : Room} {s : State} {m : MethodId} {args : Array Value} {below : List Frame} {meth : Method} {c : Code} {T : State} {locs : List Loc} {cells slots : Nat}
theorem retI (X : Stand p l e R s m args below meth c T locs cells slots) (hx : p.tables.exec = Jvm.exec) {pc : Nat} {Ls : Array Slot} {z : Int32} {rest : List Value} (hret : meth.sig.returnType = some .int) (hd : decode c.code pc = .ok (.ireturn, 1)) {fs : List Frame}
    (hl : ∀ (f : JFrame) (acts : List Action), f.method = m → f.locked = none → f.entered = [] → (doReturn e (T.setTop f) acts (some (.int z))).1 = T.setFrames fs) : Steps p.tables e below (T.setTop (mkF m pc Ls (.int z :: rest))) (T.setFrames fs) := by
  have hm' : T.vm.method? m = some meth := X.method'
  have hn : narrow .int (.int z) = .int z := rfl
  show Steps p.tables e below (T.setTop { method := m, pc := pc, locals := Ls, stack := _ :: rest, locked := none }) _
  jvm_step X.here [X.here.top, hx, hd, hm', hret, hn]
  first | (intro acts; rw [hl _ acts rfl rfl rfl]) | rw [hl _ _ rfl rfl rfl]
  exact Steps.refl _
end New
end Jvm.RoadKit
namespace Jvm.Pilot.@@N@@
open Jvm Jvm.ClassFile Sem Op Lib Jvm.Free Jvm.Stand Jvm.LawKit Jvm.RoadKit Bundle Jvm.Pilot.@@N@@.Jvm.D
/-- the fixed things of one body's walk -/
abbrev Wk : Type := Program × Launch × Env × Room × State × MethodId × Array Value × List Frame × Method × Code
abbrev Wk.p (W : Wk) : Program := W.1
abbrev Wk.l (W : Wk) : Launch := W.2.1
abbrev Wk.e (W : Wk) : Env := W.2.2.1
abbrev Wk.R (W : Wk) : Room := W.2.2.2.1
abbrev Wk.s (W : Wk) : State := W.2.2.2.2.1
abbrev Wk.m (W : Wk) : MethodId := W.2.2.2.2.2.1
abbrev Wk.args (W : Wk) : Array Value := W.2.2.2.2.2.2.1
abbrev Wk.below (W : Wk) : List Frame := W.2.2.2.2.2.2.2.1
abbrev Wk.meth (W : Wk) : Method := W.2.2.2.2.2.2.2.2.1
abbrev Wk.c (W : Wk) : Code := W.2.2.2.2.2.2.2.2.2
abbrev St (W : Wk) (T : State) (L : List Loc) (k n : Nat) : Prop := Stand W.p W.l W.e W.R W.s W.m W.args W.below W.meth W.c T L k n
abbrev Sp (W : Wk) (a b : State) : Prop := Steps W.p.tables W.e W.below a b
/-- what holds throughout the walk -/
def Cx (Z : State) (W : Wk) (rm : Room) (own nm : String) (bytes : ByteArray) (maxL : Nat) (ret : Option FieldType) : Prop :=
  W.p.tables.exec = Jvm.exec ∧ W.c.code = bytes ∧ W.c.maxLocals = maxL ∧ W.s.vm.findClass own = some W.m.cls ∧ W.meth.name = nm ∧ W.meth.sig.returnType = ret ∧ Z.Warmed39 W.s.vm ∧ W.meth.locks = false ∧ W.R = rm
section Cxs
variable {Z : State} {W : Wk} {rm : Room} {own nm : String} {bytes : ByteArray} {maxL : Nat} {ret : Option FieldType}
theorem Cx.x (C : Cx Z W rm own nm bytes maxL ret) : W.p.tables.exec = Jvm.exec := C.1
theorem Cx.b (C : Cx Z W rm own nm bytes maxL ret) : W.c.code = bytes := C.2.1
theorem Cx.ml (C : Cx Z W rm own nm bytes maxL ret) : W.c.maxLocals = maxL := C.2.2.1
theorem Cx.ow (C : Cx Z W rm own nm bytes maxL ret) : W.s.vm.findClass own = some W.m.cls := C.2.2.2.1
theorem Cx.na (C : Cx Z W rm own nm bytes maxL ret) : W.meth.name = nm := C.2.2.2.2.1
theorem Cx.re (C : Cx Z W rm own nm bytes maxL ret) : W.meth.sig.returnType = ret := C.2.2.2.2.2.1
theorem Cx.z (C : Cx Z W rm own nm bytes maxL ret) : Z.Warmed39 W.s.vm := C.2.2.2.2.2.2.1
theorem Cx.lk (C : Cx Z W rm own nm bytes maxL ret) : W.meth.locks = false := C.2.2.2.2.2.2.2.1
theorem Cx.ro (C : Cx Z W rm own nm bytes maxL ret) : W.R = rm := C.2.2.2.2.2.2.2.2
end Cxs
/-- the run comes to the invocation's end, with what Q says -/
def Ends (W : Wk) (n0 : Nat) (Q : Option Value → Heap → Prop) (U : State) : Prop :=
  ∃ s₂ o, Sp W U s₂ ∧ s₂.status = .running ∧ Ended s₂ W.below o ∧ ∃ v L, o = .returned v ∧ (Fr n0 L ∧ Q v s₂.heap) ∧ FrameEnd W.s o s₂ L W.R.cells W.R.slots
/-- from pc, with these locals and this stack, over the heap h, at most k cells of n slots made so far -/
def Go (W : Wk) (n0 : Nat) (Q : Option Value → Heap → Prop) (h : Heap) (k n pc : Nat) (ls : Array Slot) (st : List Value) : Prop :=
  ∀ T L k' n', St W T L k' n' → k' ≤ k → n' ≤ n → Fr n0 L → T.heap = h → Ends W n0 Q (T.setTop (mkF W.m pc ls st))
/-- a body's contract: on these arguments, over the heap h, it ends and Q holds of what it returns and of the heap that it leaves -/
def Met1 (l : Launch) (Z : State) (y : MethodName) (bytes : ByteArray) (maxL : Nat) (ret : Option FieldType) (ws : List Jvm.Cond) (rm : Room) (as : Array Value) (h : Heap) (n0 : Nat) (Q : Option Value → Heap → Prop) : Prop :=
  MetFree l y (head1 (Jvm.Cond.code y bytes maxL ret :: ws) rm) (fun a U => a = as ∧ Z.Warmed39 U.vm ∧ U.heap = h) (fun _ _ _ _ _ => True) (fun _ U o U' => ∃ v L, o = .returned v ∧ (Fr n0 L ∧ Q v U'.heap) ∧ FrameEnd U o U' L rm.cells rm.slots)
theorem met_of_go {l : Launch} {Z : State} {y : MethodName} {bytes : ByteArray} {maxL : Nat} {ret : Option FieldType} {ws : List Jvm.Cond} {rm : Room} {as : Array Value} {h : Heap} {n0 : Nat} {Q : Option Value → Heap → Prop} {ls : Array Slot}
    (hpl : plainFor y = true) (hef : ∀ m, entryFrame m as maxL = mkF m 0 ls [])
    (go : ∀ W : Wk, W.l = l → Cx Z W rm y.cls y.name bytes maxL ret → Go W n0 Q h 0 0 0 ls []) : Met1 l Z y bytes maxL ret ws rm as h n0 Q := by
  refine MetFree.of_bodySF hpl hisR ?_
  intro p e s m args below meth c s₁ Bd hml0 hP hK
  obtain ⟨rfl, hZ, hh⟩ := hP
  have X0 : Stand p l e rm s m args below meth c s₁ [] 0 0 := Stand.of_body Bd
  have e0 : s₁.heap = h := by rw [← hh, Bd.state]; rfl
  obtain ⟨s₂, o, h1, h2, h3, h4⟩ := go (p, l, e, rm, s, m, args, below, meth, c) rfl ⟨Bd.exec, Bd.bytes, hml0, findClass_of_methodNamed Bd.named, (name_of_methodNamed Bd.named Bd.method).1, Bd.returns, hZ, Bd.notSynchronized, rfl⟩ s₁ [] 0 0 X0 (Nat.le_refl _) (Nat.le_refl _) (Fr.nil n0) e0
  exact ⟨s₂, o, castTop (hef m) h1, h2, h3, h4⟩
section Gos
variable {Z : State} {W : Wk} {rm : Room} {own nm : String} {bytes : ByteArray} {maxL : Nat} {ret : Option FieldType} {n0 : Nat} {Q : Option Value → Heap → Prop} {h : Heap} {k n pc q : Nat} {ls : Array Slot} {st : List Value} {a0 : Array Value}
theorem Go.mono {k' n' : Nat} (hk : k ≤ k') (hn : n ≤ n') (g : Go W n0 Q h k' n' pc ls st) : Go W n0 Q h k n pc ls st :=
  fun T L a b X h1 h2 => g T L a b X (Nat.le_trans h1 hk) (Nat.le_trans h2 hn)
theorem Go.stepX {ls' : Array Slot} {st' : List Value} (f : ∀ T L a b tg, St W T L a b → T.heap = h → Sp W (T.setTop (mkF W.m q ls' st')) tg → Sp W (T.setTop (mkF W.m pc ls st)) tg) (hr : Go W n0 Q h k n q ls' st') : Go W n0 Q h k n pc ls st := by
  intro T L a b X hk hn N eT
  obtain ⟨s₂, o, hs, r⟩ := hr T L a b X hk hn N eT
  exact ⟨s₂, o, f T L a b _ X eT hs, r⟩
theorem Go.stepT {ls' : Array Slot} {st' : List Value} (f : ∀ T L a b, St W T L a b → T.heap = h → ∃ T', St W T' L a b ∧ T'.heap = h ∧ ∀ tg, Sp W (T'.setTop (mkF W.m q ls' st')) tg → Sp W (T.setTop (mkF W.m pc ls st)) tg) (hr : Go W n0 Q h k n q ls' st') : Go W n0 Q h k n pc ls st := by
  intro T L a b X hk hn N eT
  obtain ⟨T', X', e', sp⟩ := f T L a b X eT
  obtain ⟨s₂, o, hs, r⟩ := hr T' L a b X' hk hn N e'
  exact ⟨s₂, o, sp _ hs, r⟩

theorem Go.iload (C : Cx Z W rm own nm bytes maxL ret) {j : Nat} {v : Int32} (hd : decode bytes pc = .ok (.iload j, 2)) (hq : pc + 2 = q) (hl : ls[j]? = some (.val (.int v)))
    (hr : Go W n0 Q h k n q ls (.int v :: st)) : Go W n0 Q h k n pc ls st := by
  subst hq
  exact Go.stepX (fun T L a b tg X eT kk => XS.iload X.here C.x rfl (hb C.b hd) hl kk) hr
theorem Go.iloadN (C : Cx Z W rm own nm bytes maxL ret) {j : Fin 4} {v : Int32} (hd : decode bytes pc = .ok (.iload_n j, 1)) (hq : pc + 1 = q) (hl : ls[j.val]? = some (.val (.int v)))
    (hr : Go W n0 Q h k n q ls (.int v :: st)) : Go W n0 Q h k n pc ls st := by
  subst hq
  exact Go.stepX (fun T L a b tg X eT kk => XS.iloadN X.here C.x rfl (hb C.b hd) hl kk) hr
theorem Go.lload (C : Cx Z W rm own nm bytes maxL ret) {j : Nat} {v : Int64} (hd : decode bytes pc = .ok (.lload j, 2)) (hq : pc + 2 = q) (hl : ls[j]? = some (.val (.long v)))
    (hr : Go W n0 Q h k n q ls (.long v :: st)) : Go W n0 Q h k n pc ls st := by
  subst hq
  exact Go.stepX (fun T L a b tg X eT kk => XS.lload X.here C.x rfl (hb C.b hd) hl kk) hr
theorem Go.lloadN (C : Cx Z W rm own nm bytes maxL ret) {j : Fin 4} {v : Int64} (hd : decode bytes pc = .ok (.lload_n j, 1)) (hq : pc + 1 = q) (hl : ls[j.val]? = some (.val (.long v)))
    (hr : Go W n0 Q h k n q ls (.long v :: st)) : Go W n0 Q h k n pc ls st := by
  subst hq
  exact Go.stepX (fun T L a b tg X eT kk => XS.lloadN X.here C.x rfl (hb C.b hd) hl kk) hr
theorem Go.aload (C : Cx Z W rm own nm bytes maxL ret) {j : Nat} {v : Value} (hd : decode bytes pc = .ok (.aload j, 2)) (hq : pc + 2 = q) (hl : ls[j]? = some (.val v)) (hv : v.isRef = true)
    (hr : Go W n0 Q h k n q ls (v :: st)) : Go W n0 Q h k n pc ls st := by
  subst hq
  exact Go.stepX (fun T L a b tg X eT kk => XS.aload X.here C.x rfl (hb C.b hd) hl hv kk) hr
theorem Go.aloadN (C : Cx Z W rm own nm bytes maxL ret) {j : Fin 4} {v : Value} (hd : decode bytes pc = .ok (.aload_n j, 1)) (hq : pc + 1 = q) (hl : ls[j.val]? = some (.val v)) (hv : v.isRef = true)
    (hr : Go W n0 Q h k n q ls (v :: st)) : Go W n0 Q h k n pc ls st := by
  subst hq
  exact Go.stepX (fun T L a b tg X eT kk => XS.aloadN X.here C.x rfl (hb C.b hd) hl hv kk) hr
theorem Go.istore (C : Cx Z W rm own nm bytes maxL ret) {j : Nat} {x : Int32} (hd : decode bytes pc = .ok (.istore j, 2)) (hq : pc + 2 = q) (l' : Int32 → Array Slot) (hl : ∀ v, storeLocals ls j (.int v) = some (l' v))
    (hr : ∀ v, v = x → Go W n0 Q h k n q (l' v) st) : Go W n0 Q h k n pc ls (.int x :: st) := by
  subst hq
  exact Go.stepX (fun T L a b tg X eT kk => XS.istore X.here C.x rfl (hb C.b hd) rfl (hl x) kk) (hr x rfl)
theorem Go.istoreN (C : Cx Z W rm own nm bytes maxL ret) {j : Fin 4} {x : Int32} (hd : decode bytes pc = .ok (.istore_n j, 1)) (hq : pc + 1 = q) (l' : Int32 → Array Slot) (hl : ∀ v, storeLocals ls j.val (.int v) = some (l' v))
    (hr : ∀ v, v = x → Go W n0 Q h k n q (l' v) st) : Go W n0 Q h k n pc ls (.int x :: st) := by
  subst hq
  exact Go.stepX (fun T L a b tg X eT kk => XS.istoreN X.here C.x rfl (hb C.b hd) rfl (hl x) kk) (hr x rfl)
theorem Go.lstore (C : Cx Z W rm own nm bytes maxL ret) {j : Nat} {x : Int64} (hd : decode bytes pc = .ok (.lstore j, 2)) (hq : pc + 2 = q) (l' : Int64 → Array Slot) (hl : ∀ v, storeLocals ls j (.long v) = some (l' v))
    (hr : ∀ v, v = x → Go W n0 Q h k n q (l' v) st) : Go W n0 Q h k n pc ls (.long x :: st) := by
  subst hq
  exact Go.stepX (fun T L a b tg X eT kk => XS.lstore X.here C.x rfl (hb C.b hd) rfl (hl x) kk) (hr x rfl)
theorem Go.lstoreN (C : Cx Z W rm own nm bytes maxL ret) {j : Fin 4} {x : Int64} (hd : decode bytes pc = .ok (.lstore_n j, 1)) (hq : pc + 1 = q) (l' : Int64 → Array Slot) (hl : ∀ v, storeLocals ls j.val (.long v) = some (l' v))
    (hr : ∀ v, v = x → Go W n0 Q h k n q (l' v) st) : Go W n0 Q h k n pc ls (.long x :: st) := by
  subst hq
  exact Go.stepX (fun T L a b tg X eT kk => XS.lstoreN X.here C.x rfl (hb C.b hd) rfl (hl x) kk) (hr x rfl)
theorem Go.astore (C : Cx Z W rm own nm bytes maxL ret) {j : Nat} {x : Value} (hd : decode bytes pc = .ok (.astore j, 2)) (hq : pc + 2 = q) {l' : Array Slot} (hv : x.isRef = true) (hl : storeLocals ls j x = some l')
    (hr : Go W n0 Q h k n q l' st) : Go W n0 Q h k n pc ls (x :: st) := by
  subst hq
  exact Go.stepX (fun T L a b tg X eT kk => XS.astore X.here C.x rfl (hb C.b hd) rfl hv hl kk) hr
theorem Go.astoreN (C : Cx Z W rm own nm bytes maxL ret) {j : Fin 4} {x : Value} (hd : decode bytes pc = .ok (.astore_n j, 1)) (hq : pc + 1 = q) {l' : Array Slot} (hv : x.isRef = true) (hl : storeLocals ls j.val x = some l')
    (hr : Go W n0 Q h k n q l' st) : Go W n0 Q h k n pc ls (x :: st) := by
  subst hq
  exact Go.stepX (fun T L a b tg X eT kk => XS.astoreN X.here C.x rfl (hb C.b hd) rfl hv hl kk) hr
theorem Go.istoreR (C : Cx Z W rm own nm bytes maxL ret) {j : Nat} {x : Int32} (hd : decode bytes pc = .ok (.istore j, 2)) (hq : pc + 2 = q) {l' : Array Slot} (hl : storeLocals ls j (.int x) = some l')
    (hr : Go W n0 Q h k n q l' st) : Go W n0 Q h k n pc ls (.int x :: st) := by
  subst hq
  exact Go.stepX (fun T L a b tg X eT kk => XS.istore X.here C.x rfl (hb C.b hd) rfl hl kk) hr
theorem Go.istoreNR (C : Cx Z W rm own nm bytes maxL ret) {j : Fin 4} {x : Int32} (hd : decode bytes pc = .ok (.istore_n j, 1)) (hq : pc + 1 = q) {l' : Array Slot} (hl : storeLocals ls j.val (.int x) = some l')
    (hr : Go W n0 Q h k n q l' st) : Go W n0 Q h k n pc ls (.int x :: st) := by
  subst hq
  exact Go.stepX (fun T L a b tg X eT kk => XS.istoreN X.here C.x rfl (hb C.b hd) rfl hl kk) hr
theorem Go.lstoreR (C : Cx Z W rm own nm bytes maxL ret) {j : Nat} {x : Int64} (hd : decode bytes pc = .ok (.lstore j, 2)) (hq : pc + 2 = q) {l' : Array Slot} (hl : storeLocals ls j (.long x) = some l')
    (hr : Go W n0 Q h k n q l' st) : Go W n0 Q h k n pc ls (.long x :: st) := by
  subst hq
  exact Go.stepX (fun T L a b tg X eT kk => XS.lstore X.here C.x rfl (hb C.b hd) rfl hl kk) hr
theorem Go.lstoreNR (C : Cx Z W rm own nm bytes maxL ret) {j : Fin 4} {x : Int64} (hd : decode bytes pc = .ok (.lstore_n j, 1)) (hq : pc + 1 = q) {l' : Array Slot} (hl : storeLocals ls j.val (.long x) = some l')
    (hr : Go W n0 Q h k n q l' st) : Go W n0 Q h k n pc ls (.long x :: st) := by
  subst hq
  exact Go.stepX (fun T L a b tg X eT kk => XS.lstoreN X.here C.x rfl (hb C.b hd) rfl hl kk) hr
theorem Go.iincR (C : Cx Z W rm own nm bytes maxL ret) {j : Nat} {cst : Int} {x : Int32} (hd : decode bytes pc = .ok (.iinc j cst, 3)) (hq : pc + 3 = q) (hl0 : ls[j]? = some (.val (.int x))) {l' : Array Slot} (hl : storeLocals ls j (.int (x + Int32.ofInt cst)) = some l')
    (hr : Go W n0 Q h k n q l' st) : Go W n0 Q h k n pc ls st := by
  subst hq
  exact Go.stepX (fun T L a b tg X eT kk => XS.iinc X.here C.x rfl (hb C.b hd) hl0 hl kk) hr
theorem Go.iinc (C : Cx Z W rm own nm bytes maxL ret) {j : Nat} {cst : Int} {x y : Int32} (hd : decode bytes pc = .ok (.iinc j cst, 3)) (hq : pc + 3 = q) (hl0 : ls[j]? = some (.val (.int x))) (hy : Int32.ofInt cst = y) (l' : Int32 → Array Slot) (hl : ∀ v, storeLocals ls j (.int v) = some (l' v))
    (hr : ∀ v, v = x + y → Go W n0 Q h k n q (l' v) st) : Go W n0 Q h k n pc ls st := by
  subst hq hy
  exact Go.stepX (fun T L a b tg X eT kk => XS.iinc X.here C.x rfl (hb C.b hd) hl0 (hl _) kk) (hr _ rfl)
theorem Go.iconst (C : Cx Z W rm own nm bytes maxL ret) {i : Int} (v : Int32) (hd : decode bytes pc = .ok (.iconst i, 1)) (hq : pc + 1 = q) (hv : Int32.ofInt i = v)
    (hr : Go W n0 Q h k n q ls (.int v :: st)) : Go W n0 Q h k n pc ls st := by
  subst hq hv
  exact Go.stepX (fun T L a b tg X eT kk => XS.iconst X.here C.x rfl (hb C.b hd) kk) hr
theorem Go.bipush (C : Cx Z W rm own nm bytes maxL ret) {i : Int} (v : Int32) (hd : decode bytes pc = .ok (.bipush i, 2)) (hq : pc + 2 = q) (hv : (Int8.ofInt i).toInt32 = v)
    (hr : Go W n0 Q h k n q ls (.int v :: st)) : Go W n0 Q h k n pc ls st := by
  subst hq hv
  exact Go.stepX (fun T L a b tg X eT kk => XS.bipush X.here C.x rfl (hb C.b hd) kk) hr
theorem Go.sipush (C : Cx Z W rm own nm bytes maxL ret) {i : Int} (v : Int32) (hd : decode bytes pc = .ok (.sipush i, 3)) (hq : pc + 3 = q) (hv : (Int16.ofInt i).toInt32 = v)
    (hr : Go W n0 Q h k n q ls (.int v :: st)) : Go W n0 Q h k n pc ls st := by
  subst hq hv
  exact Go.stepX (fun T L a b tg X eT kk => XS.sipush X.here C.x rfl (hb C.b hd) kk) hr
theorem Go.lconst (C : Cx Z W rm own nm bytes maxL ret) {i : Fin 2} (v : Int64) (hd : decode bytes pc = .ok (.lconst i, 1)) (hq : pc + 1 = q) (hv : Int64.ofNat i = v)
    (hr : Go W n0 Q h k n q ls (.long v :: st)) : Go W n0 Q h k n pc ls st := by
  subst hq hv
  exact Go.stepX (fun T L a b tg X eT kk => XS.lconst X.here C.x rfl (hb C.b hd) kk) hr
theorem Go.aconstNull (C : Cx Z W rm own nm bytes maxL ret)  (hd : decode bytes pc = .ok (.aconst_null, 1)) (hq : pc + 1 = q)
    (hr : Go W n0 Q h k n q ls (.null :: st)) : Go W n0 Q h k n pc ls st := by
  subst hq
  exact Go.stepX (fun T L a b tg X eT kk => XS.aconstNull X.here C.x rfl (hb C.b hd) kk) hr
theorem Go.ldcI (C : Cx Z W rm own nm bytes maxL ret) {index : Nat} {v : Int32} (w : (Jvm.Cond.constant own index v).before a0 Z = true) (hd : decode bytes pc = .ok (.ldc index, 2)) (hq : pc + 2 = q)
    (hr : Go W n0 Q h k n q ls (.int v :: st)) : Go W n0 Q h k n pc ls st := by
  subst hq
  exact Go.stepX (fun T L a b tg X eT kk => X.ldcInt C.x C.ow (mvT C.z w) (g := mkF W.m pc ls st) rfl (hb C.b hd) _ kk) hr
theorem Go.ldcwI (C : Cx Z W rm own nm bytes maxL ret) {index : Nat} {v : Int32} (w : (Jvm.Cond.constant own index v).before a0 Z = true) (hd : decode bytes pc = .ok (.ldc_w index, 3)) (hq : pc + 3 = q)
    (hr : Go W n0 Q h k n q ls (.int v :: st)) : Go W n0 Q h k n pc ls st := by
  subst hq
  exact Go.stepX (fun T L a b tg X eT kk => X.ldcwInt C.x C.ow (mvT C.z w) (g := mkF W.m pc ls st) rfl (hb C.b hd) _ kk) hr
theorem Go.ldc2J (C : Cx Z W rm own nm bytes maxL ret) {index : Nat} {v : Int64} (w : (Jvm.Cond.constantLong own index v).before a0 Z = true) (hd : decode bytes pc = .ok (.ldc2_w index, 3)) (hq : pc + 3 = q)
    (hr : Go W n0 Q h k n q ls (.long v :: st)) : Go W n0 Q h k n pc ls st := by
  subst hq
  exact Go.stepX (fun T L a b tg X eT kk => X.ldc2Long C.x C.ow (mvT C.z w) (g := mkF W.m pc ls st) rfl (hb C.b hd) _ kk) hr
theorem Go.iadd (C : Cx Z W rm own nm bytes maxL ret) {x y : Int32} (hd : decode bytes pc = .ok (.iadd, 1)) (hq : pc + 1 = q)
    (hr : Go W n0 Q h k n q ls (.int (x + y) :: st)) : Go W n0 Q h k n pc ls (.int y :: .int x :: st) := by
  subst hq
  exact Go.stepX (fun T L a b tg X eT kk => XS.iadd X.here C.x rfl (hb C.b hd) rfl kk) hr
theorem Go.ladd (C : Cx Z W rm own nm bytes maxL ret) {x y : Int64} (hd : decode bytes pc = .ok (.ladd, 1)) (hq : pc + 1 = q)
    (hr : Go W n0 Q h k n q ls (.long (x + y) :: st)) : Go W n0 Q h k n pc ls (.long y :: .long x :: st) := by
  subst hq
  exact Go.stepX (fun T L a b tg X eT kk => XS.ladd X.here C.x rfl (hb C.b hd) rfl kk) hr
theorem Go.isub (C : Cx Z W rm own nm bytes maxL ret) {x y : Int32} (hd : decode bytes pc = .ok (.isub, 1)) (hq : pc + 1 = q)
    (hr : Go W n0 Q h k n q ls (.int (x - y) :: st)) : Go W n0 Q h k n pc ls (.int y :: .int x :: st) := by
  subst hq
  exact Go.stepX (fun T L a b tg X eT kk => XS.isub X.here C.x rfl (hb C.b hd) rfl kk) hr
theorem Go.lsub (C : Cx Z W rm own nm bytes maxL ret) {x y : Int64} (hd : decode bytes pc = .ok (.lsub, 1)) (hq : pc + 1 = q)
    (hr : Go W n0 Q h k n q ls (.long (x - y) :: st)) : Go W n0 Q h k n pc ls (.long y :: .long x :: st) := by
  subst hq
  exact Go.stepX (fun T L a b tg X eT kk => XS.lsub X.here C.x rfl (hb C.b hd) rfl kk) hr
theorem Go.imul (C : Cx Z W rm own nm bytes maxL ret) {x y : Int32} (hd : decode bytes pc = .ok (.imul, 1)) (hq : pc + 1 = q)
    (hr : Go W n0 Q h k n q ls (.int (x * y) :: st)) : Go W n0 Q h k n pc ls (.int y :: .int x :: st) := by
  subst hq
  exact Go.stepX (fun T L a b tg X eT kk => XS.imul X.here C.x rfl (hb C.b hd) rfl kk) hr
theorem Go.lmul (C : Cx Z W rm own nm bytes maxL ret) {x y : Int64} (hd : decode bytes pc = .ok (.lmul, 1)) (hq : pc + 1 = q)
    (hr : Go W n0 Q h k n q ls (.long (x * y) :: st)) : Go W n0 Q h k n pc ls (.long y :: .long x :: st) := by
  subst hq
  exact Go.stepX (fun T L a b tg X eT kk => XS.lmul X.here C.x rfl (hb C.b hd) rfl kk) hr
theorem Go.iand (C : Cx Z W rm own nm bytes maxL ret) {x y : Int32} (hd : decode bytes pc = .ok (.iand, 1)) (hq : pc + 1 = q)
    (hr : Go W n0 Q h k n q ls (.int (x &&& y) :: st)) : Go W n0 Q h k n pc ls (.int y :: .int x :: st) := by
  subst hq
  exact Go.stepX (fun T L a b tg X eT kk => XS.iand X.here C.x rfl (hb C.b hd) rfl kk) hr
theorem Go.land (C : Cx Z W rm own nm bytes maxL ret) {x y : Int64} (hd : decode bytes pc = .ok (.land, 1)) (hq : pc + 1 = q)
    (hr : Go W n0 Q h k n q ls (.long (x &&& y) :: st)) : Go W n0 Q h k n pc ls (.long y :: .long x :: st) := by
  subst hq
  exact Go.stepX (fun T L a b tg X eT kk => XS.land X.here C.x rfl (hb C.b hd) rfl kk) hr
theorem Go.ior (C : Cx Z W rm own nm bytes maxL ret) {x y : Int32} (hd : decode bytes pc = .ok (.ior, 1)) (hq : pc + 1 = q)
    (hr : Go W n0 Q h k n q ls (.int (x ||| y) :: st)) : Go W n0 Q h k n pc ls (.int y :: .int x :: st) := by
  subst hq
  exact Go.stepX (fun T L a b tg X eT kk => XS.ior X.here C.x rfl (hb C.b hd) rfl kk) hr
theorem Go.lor (C : Cx Z W rm own nm bytes maxL ret) {x y : Int64} (hd : decode bytes pc = .ok (.lor, 1)) (hq : pc + 1 = q)
    (hr : Go W n0 Q h k n q ls (.long (x ||| y) :: st)) : Go W n0 Q h k n pc ls (.long y :: .long x :: st) := by
  subst hq
  exact Go.stepX (fun T L a b tg X eT kk => XS.lor X.here C.x rfl (hb C.b hd) rfl kk) hr
theorem Go.ixor (C : Cx Z W rm own nm bytes maxL ret) {x y : Int32} (hd : decode bytes pc = .ok (.ixor, 1)) (hq : pc + 1 = q)
    (hr : Go W n0 Q h k n q ls (.int (x ^^^ y) :: st)) : Go W n0 Q h k n pc ls (.int y :: .int x :: st) := by
  subst hq
  exact Go.stepX (fun T L a b tg X eT kk => XS.ixor X.here C.x rfl (hb C.b hd) rfl kk) hr
theorem Go.lxor (C : Cx Z W rm own nm bytes maxL ret) {x y : Int64} (hd : decode bytes pc = .ok (.lxor, 1)) (hq : pc + 1 = q)
    (hr : Go W n0 Q h k n q ls (.long (x ^^^ y) :: st)) : Go W n0 Q h k n pc ls (.long y :: .long x :: st) := by
  subst hq
  exact Go.stepX (fun T L a b tg X eT kk => XS.lxor X.here C.x rfl (hb C.b hd) rfl kk) hr
theorem Go.irem (C : Cx Z W rm own nm bytes maxL ret) {x y : Int32} (hd : decode bytes pc = .ok (.irem, 1)) (hq : pc + 1 = q) (hy : y ≠ 0)
    (hr : Go W n0 Q h k n q ls (.int (x % y) :: st)) : Go W n0 Q h k n pc ls (.int y :: .int x :: st) := by
  subst hq
  exact Go.stepX (fun T L a b tg X eT kk => iremM X C.x rfl (hb C.b hd) rfl hy kk) hr
theorem Go.idiv (C : Cx Z W rm own nm bytes maxL ret) {x y : Int32} (hd : decode bytes pc = .ok (.idiv, 1)) (hq : pc + 1 = q) (hy : y ≠ 0)
    (hr : Go W n0 Q h k n q ls (.int (x / y) :: st)) : Go W n0 Q h k n pc ls (.int y :: .int x :: st) := by
  subst hq
  exact Go.stepX (fun T L a b tg X eT kk => XS.idiv X.here C.x rfl (hb C.b hd) rfl hy kk) hr
theorem Go.lrem (C : Cx Z W rm own nm bytes maxL ret) {x y : Int64} (hd : decode bytes pc = .ok (.lrem, 1)) (hq : pc + 1 = q) (hy : y ≠ 0)
    (hr : Go W n0 Q h k n q ls (.long (x - (x / y) * y) :: st)) : Go W n0 Q h k n pc ls (.long y :: .long x :: st) := by
  subst hq
  exact Go.stepX (fun T L a b tg X eT kk => XS.lrem X.here C.x rfl (hb C.b hd) rfl hy kk) hr
theorem Go.ldiv (C : Cx Z W rm own nm bytes maxL ret) {x y : Int64} (hd : decode bytes pc = .ok (.ldiv, 1)) (hq : pc + 1 = q) (hy : y ≠ 0)
    (hr : Go W n0 Q h k n q ls (.long (x / y) :: st)) : Go W n0 Q h k n pc ls (.long y :: .long x :: st) := by
  subst hq
  exact Go.stepX (fun T L a b tg X eT kk => XS.ldiv X.here C.x rfl (hb C.b hd) rfl hy kk) hr
theorem Go.ineg (C : Cx Z W rm own nm bytes maxL ret) {x : Int32} (hd : decode bytes pc = .ok (.ineg, 1)) (hq : pc + 1 = q)
    (hr : Go W n0 Q h k n q ls (.int (-x) :: st)) : Go W n0 Q h k n pc ls (.int x :: st) := by
  subst hq
  exact Go.stepX (fun T L a b tg X eT kk => XS.ineg X.here C.x rfl (hb C.b hd) rfl kk) hr
theorem Go.lneg (C : Cx Z W rm own nm bytes maxL ret) {x : Int64} (hd : decode bytes pc = .ok (.lneg, 1)) (hq : pc + 1 = q)
    (hr : Go W n0 Q h k n q ls (.long (-x) :: st)) : Go W n0 Q h k n pc ls (.long x :: st) := by
  subst hq
  exact Go.stepX (fun T L a b tg X eT kk => XS.lneg X.here C.x rfl (hb C.b hd) rfl kk) hr
theorem Go.i2l (C : Cx Z W rm own nm bytes maxL ret) {x : Int32} (hd : decode bytes pc = .ok (.i2l, 1)) (hq : pc + 1 = q)
    (hr : Go W n0 Q h k n q ls (.long x.toInt64 :: st)) : Go W n0 Q h k n pc ls (.int x :: st) := by
  subst hq
  exact Go.stepX (fun T L a b tg X eT kk => XS.i2l X.here C.x rfl (hb C.b hd) rfl kk) hr
theorem Go.l2i (C : Cx Z W rm own nm bytes maxL ret) {x : Int64} (hd : decode bytes pc = .ok (.l2i, 1)) (hq : pc + 1 = q)
    (hr : Go W n0 Q h k n q ls (.int x.toInt32 :: st)) : Go W n0 Q h k n pc ls (.long x :: st) := by
  subst hq
  exact Go.stepX (fun T L a b tg X eT kk => XS.l2i X.here C.x rfl (hb C.b hd) rfl kk) hr
theorem Go.i2b (C : Cx Z W rm own nm bytes maxL ret) {x : Int32} (hd : decode bytes pc = .ok (.i2b, 1)) (hq : pc + 1 = q)
    (hr : Go W n0 Q h k n q ls (.int x.toInt8.toInt32 :: st)) : Go W n0 Q h k n pc ls (.int x :: st) := by
  subst hq
  exact Go.stepX (fun T L a b tg X eT kk => XS.i2b X.here C.x rfl (hb C.b hd) rfl kk) hr
theorem Go.i2s (C : Cx Z W rm own nm bytes maxL ret) {x : Int32} (hd : decode bytes pc = .ok (.i2s, 1)) (hq : pc + 1 = q)
    (hr : Go W n0 Q h k n q ls (.int x.toInt16.toInt32 :: st)) : Go W n0 Q h k n pc ls (.int x :: st) := by
  subst hq
  exact Go.stepX (fun T L a b tg X eT kk => XS.i2s X.here C.x rfl (hb C.b hd) rfl kk) hr
theorem Go.i2c (C : Cx Z W rm own nm bytes maxL ret) {x : Int32} (hd : decode bytes pc = .ok (.i2c, 1)) (hq : pc + 1 = q)
    (hr : Go W n0 Q h k n q ls (.int x.toUInt32.toUInt16.toUInt32.toInt32 :: st)) : Go W n0 Q h k n pc ls (.int x :: st) := by
  subst hq
  exact Go.stepX (fun T L a b tg X eT kk => XS.i2c X.here C.x rfl (hb C.b hd) rfl kk) hr
theorem Go.ishl (C : Cx Z W rm own nm bytes maxL ret) {x : Int32} {y : Int32} (hd : decode bytes pc = .ok (.ishl, 1)) (hq : pc + 1 = q)
    (hr : Go W n0 Q h k n q ls (.int (x <<< (y &&& 31)) :: st)) : Go W n0 Q h k n pc ls (.int y :: .int x :: st) := by
  subst hq
  exact Go.stepX (fun T L a b tg X eT kk => XS.ishl X.here C.x rfl (hb C.b hd) rfl kk) hr
theorem Go.ishr (C : Cx Z W rm own nm bytes maxL ret) {x : Int32} {y : Int32} (hd : decode bytes pc = .ok (.ishr, 1)) (hq : pc + 1 = q)
    (hr : Go W n0 Q h k n q ls (.int (x >>> (y &&& 31)) :: st)) : Go W n0 Q h k n pc ls (.int y :: .int x :: st) := by
  subst hq
  exact Go.stepX (fun T L a b tg X eT kk => XS.ishr X.here C.x rfl (hb C.b hd) rfl kk) hr
theorem Go.iushr (C : Cx Z W rm own nm bytes maxL ret) {x : Int32} {y : Int32} (hd : decode bytes pc = .ok (.iushr, 1)) (hq : pc + 1 = q)
    (hr : Go W n0 Q h k n q ls (.int ((x.toUInt32 >>> (y &&& 31).toUInt32).toInt32) :: st)) : Go W n0 Q h k n pc ls (.int y :: .int x :: st) := by
  subst hq
  exact Go.stepX (fun T L a b tg X eT kk => XS.iushr X.here C.x rfl (hb C.b hd) rfl kk) hr
theorem Go.lshl (C : Cx Z W rm own nm bytes maxL ret) {x : Int64} {y : Int32} (hd : decode bytes pc = .ok (.lshl, 1)) (hq : pc + 1 = q)
    (hr : Go W n0 Q h k n q ls (.long (x <<< (y &&& 0x3f).toInt64) :: st)) : Go W n0 Q h k n pc ls (.int y :: .long x :: st) := by
  subst hq
  exact Go.stepX (fun T L a b tg X eT kk => XS.lshl X.here C.x rfl (hb C.b hd) rfl kk) hr
theorem Go.lshr (C : Cx Z W rm own nm bytes maxL ret) {x : Int64} {y : Int32} (hd : decode bytes pc = .ok (.lshr, 1)) (hq : pc + 1 = q)
    (hr : Go W n0 Q h k n q ls (.long (x >>> (y &&& 0x3f).toInt64) :: st)) : Go W n0 Q h k n pc ls (.int y :: .long x :: st) := by
  subst hq
  exact Go.stepX (fun T L a b tg X eT kk => XS.lshr X.here C.x rfl (hb C.b hd) rfl kk) hr
theorem Go.lushr (C : Cx Z W rm own nm bytes maxL ret) {x : Int64} {y : Int32} (hd : decode bytes pc = .ok (.lushr, 1)) (hq : pc + 1 = q)
    (hr : Go W n0 Q h k n q ls (.long ((x.toUInt64 >>> (y &&& 0x3f).toInt64.toUInt64).toInt64) :: st)) : Go W n0 Q h k n pc ls (.int y :: .long x :: st) := by
  subst hq
  exact Go.stepX (fun T L a b tg X eT kk => XS.lushr X.here C.x rfl (hb C.b hd) rfl kk) hr
theorem Go.lcmp (C : Cx Z W rm own nm bytes maxL ret) {x y : Int64} (hd : decode bytes pc = .ok (.lcmp, 1)) (hq : pc + 1 = q)
    (hr : Go W n0 Q h k n q ls (.int (lcmpW x y) :: st)) : Go W n0 Q h k n pc ls (.long y :: .long x :: st) := by
  subst hq
  exact Go.stepX (fun T L a b tg X eT kk => XS.lcmp X.here C.x rfl (hb C.b hd) rfl kk) hr
theorem Go.pop (C : Cx Z W rm own nm bytes maxL ret) {x : Value} (hd : decode bytes pc = .ok (.pop, 1)) (hq : pc + 1 = q) (hc : x.category = 1)
    (hr : Go W n0 Q h k n q ls st) : Go W n0 Q h k n pc ls (x :: st) := by
  subst hq
  exact Go.stepX (fun T L a b tg X eT kk => XS.pop X.here C.x rfl (hb C.b hd) rfl hc kk) hr
theorem Go.dup (C : Cx Z W rm own nm bytes maxL ret) {x : Value} (hd : decode bytes pc = .ok (.dup, 1)) (hq : pc + 1 = q) (hc : x.category = 1)
    (hr : Go W n0 Q h k n q ls (x :: x :: st)) : Go W n0 Q h k n pc ls (x :: st) := by
  subst hq
  exact Go.stepX (fun T L a b tg X eT kk => XS.dup X.here C.x rfl (hb C.b hd) rfl hc kk) hr
theorem Go.dup2 (C : Cx Z W rm own nm bytes maxL ret) {x y : Value} (hd : decode bytes pc = .ok (.dup2, 1)) (hq : pc + 1 = q) (hc : x.category = 1) (hc' : y.category = 1)
    (hr : Go W n0 Q h k n q ls (x :: y :: x :: y :: st)) : Go W n0 Q h k n pc ls (x :: y :: st) := by
  subst hq
  exact Go.stepX (fun T L a b tg X eT kk => XT.dup2 X.here C.x rfl (hb C.b hd) rfl hc hc' kk) hr
theorem Go.goto (C : Cx Z W rm own nm bytes maxL ret) {o : Int} (hd : decode bytes pc = .ok (.goto o, 3)) (ho : 0 ≤ (pc : Int) + o) (hp : ((pc : Int) + o).toNat = q)
    (hr : Go W n0 Q h k n q ls st) : Go W n0 Q h k n pc ls st :=
  Go.stepX (fun T L a b tg X eT kk => XS.goto X.here C.x rfl (pc0 := pc) rfl (hb C.b hd) ho hp kk) hr
theorem Go.icmp (C : Cx Z W rm own nm bytes maxL ret) {cd : ClassFile.Cond} {o : Int} {x y : Int32} {qt : Nat} {P : Prop} [Decidable P] (hd : decode bytes pc = .ok (.if_icmp cd o, 3)) (hP : if_icmp.holds cd x y = decide P) (ho : 0 ≤ (pc : Int) + o) (hp : ((pc : Int) + o).toNat = qt) (hq : pc + 3 = q)
    (ht : P → Go W n0 Q h k n qt ls st) (hf : ¬ P → Go W n0 Q h k n q ls st) : Go W n0 Q h k n pc ls (.int y :: .int x :: st) := by
  subst hq
  by_cases p : P
  · exact Go.stepX (fun T L a b tg X eT kk => XS.icmpYes X.here C.x rfl (pc0 := pc) rfl (hb C.b hd) rfl (hP.trans (decide_eq_true p)) ho hp kk) (ht p)
  · exact Go.stepX (fun T L a b tg X eT kk => XS.icmpNo X.here C.x rfl (hb C.b hd) rfl (hP.trans (decide_eq_false p)) kk) (hf p)
theorem Go.if0 (C : Cx Z W rm own nm bytes maxL ret) {cd : ClassFile.Cond} {o : Int} {x : Int32} {qt : Nat} {P : Prop} [Decidable P] (hd : decode bytes pc = .ok (.ifCond cd o, 3)) (hP : ifCond.holds cd x = decide P) (ho : 0 ≤ (pc : Int) + o) (hp : ((pc : Int) + o).toNat = qt) (hq : pc + 3 = q)
    (ht : P → Go W n0 Q h k n qt ls st) (hf : ¬ P → Go W n0 Q h k n q ls st) : Go W n0 Q h k n pc ls (.int x :: st) := by
  subst hq
  by_cases p : P
  · exact Go.stepX (fun T L a b tg X eT kk => XS.ifYes X.here C.x rfl (pc0 := pc) rfl (hb C.b hd) rfl (hP.trans (decide_eq_true p)) ho hp kk) (ht p)
  · exact Go.stepX (fun T L a b tg X eT kk => XS.ifNo X.here C.x rfl (hb C.b hd) rfl (hP.trans (decide_eq_false p)) kk) (hf p)
theorem Go.ifnullY (C : Cx Z W rm own nm bytes maxL ret) {o : Int} (hd : decode bytes pc = .ok (.ifnull o, 3)) (ho : 0 ≤ (pc : Int) + o) (hp : ((pc : Int) + o).toNat = q)
    (hr : Go W n0 Q h k n q ls st) : Go W n0 Q h k n pc ls (.null :: st) :=
  Go.stepX (fun T L a b tg X eT kk => XS.ifnullYes X.here C.x rfl (pc0 := pc) rfl (hb C.b hd) rfl ho hp kk) hr
theorem Go.ifnullN (C : Cx Z W rm own nm bytes maxL ret) {o : Int} {a : Addr} (hd : decode bytes pc = .ok (.ifnull o, 3)) (hq : pc + 3 = q)
    (hr : Go W n0 Q h k n q ls st) : Go W n0 Q h k n pc ls (.ref a :: st) := by
  subst hq
  exact Go.stepX (fun T L a b tg X eT kk => XS.ifnullNo X.here C.x rfl (hb C.b hd) rfl kk) hr
theorem Go.ifnonnullY (C : Cx Z W rm own nm bytes maxL ret) {o : Int} {a : Addr} (hd : decode bytes pc = .ok (.ifnonnull o, 3)) (ho : 0 ≤ (pc : Int) + o) (hp : ((pc : Int) + o).toNat = q)
    (hr : Go W n0 Q h k n q ls st) : Go W n0 Q h k n pc ls (.ref a :: st) :=
  Go.stepX (fun T L a b tg X eT kk => XS.ifnonnullYes X.here C.x rfl (pc0 := pc) rfl (hb C.b hd) rfl ho hp kk) hr
theorem Go.ifnonnullN (C : Cx Z W rm own nm bytes maxL ret) {o : Int} (hd : decode bytes pc = .ok (.ifnonnull o, 3)) (hq : pc + 3 = q)
    (hr : Go W n0 Q h k n q ls st) : Go W n0 Q h k n pc ls (.null :: st) := by
  subst hq
  exact Go.stepX (fun T L a b tg X eT kk => XS.ifnonnullNo X.here C.x rfl (hb C.b hd) rfl kk) hr
theorem Go.acmp (C : Cx Z W rm own nm bytes maxL ret) {cd : ACond} {o : Int} {x y : Value} {same : Bool} (hd : decode bytes pc = .ok (.if_acmp cd o, 3)) (h1 : x.isRef = true) (h2 : y.isRef = true) (hs : decide (x = y) = same) (ho : 0 ≤ (pc : Int) + o) (hp : q = if acV cd same = true then ((pc : Int) + o).toNat else pc + 3)
    (hr : Go W n0 Q h k n q ls st) : Go W n0 Q h k n pc ls (y :: x :: st) :=
  Go.stepX (fun T L a b tg X eT kk => Jvm.RoadKit.acmp X C.x rfl h1 h2 (pc0 := pc) rfl (hb C.b hd) rfl hs ho hp kk) hr
theorem n_lt (x y : Int32) : if_icmp.holds .lt x y = decide (x < y) := rfl
theorem n_ge (x y : Int32) : if_icmp.holds .ge x y = decide (¬ x < y) := by simp [if_icmp.holds, Int32.not_lt]
theorem n_gt (x y : Int32) : if_icmp.holds .gt x y = decide (y < x) := rfl
theorem n_le (x y : Int32) : if_icmp.holds .le x y = decide (¬ y < x) := by simp [if_icmp.holds, Int32.not_lt]
theorem n_eq (x y : Int32) : if_icmp.holds .eq x y = decide (x = y) := by by_cases e : x = y <;> simp [if_icmp.holds, e]
theorem n_ne (x y : Int32) : if_icmp.holds .ne x y = decide (¬ x = y) := by by_cases e : x = y <;> simp [if_icmp.holds, e]
theorem z_lt (x : Int32) : ifCond.holds .lt x = decide (x < 0) := (if0 _ x).trans (n_lt x 0)
theorem z_ge (x : Int32) : ifCond.holds .ge x = decide (¬ x < 0) := (if0 _ x).trans (n_ge x 0)
theorem z_gt (x : Int32) : ifCond.holds .gt x = decide (0 < x) := (if0 _ x).trans (n_gt x 0)
theorem z_le (x : Int32) : ifCond.holds .le x = decide (¬ 0 < x) := (if0 _ x).trans (n_le x 0)
theorem z_eq (x : Int32) : ifCond.holds .eq x = decide (x = 0) := (if0 _ x).trans (n_eq x 0)
theorem z_ne (x : Int32) : ifCond.holds .ne x = decide (¬ x = 0) := (if0 _ x).trans (n_ne x 0)
theorem l_lt (x y : Int64) : ifCond.holds .lt (lcmpW x y) = decide (x < y) := by rw [z_lt]; exact decide_eq_decide.mpr (lw_lt x y)
theorem l_ge (x y : Int64) : ifCond.holds .ge (lcmpW x y) = decide (¬ x < y) := by rw [z_ge]; exact decide_eq_decide.mpr (not_congr (lw_lt x y))
theorem l_gt (x y : Int64) : ifCond.holds .gt (lcmpW x y) = decide (y < x) := by rw [z_gt]; exact decide_eq_decide.mpr (lw_gt x y)
theorem l_le (x y : Int64) : ifCond.holds .le (lcmpW x y) = decide (¬ y < x) := by rw [z_le]; exact decide_eq_decide.mpr (not_congr (lw_gt x y))
theorem l_eq (x y : Int64) : ifCond.holds .eq (lcmpW x y) = decide (x = y) := by rw [z_eq]; exact decide_eq_decide.mpr (lw_eq x y)
theorem l_ne (x y : Int64) : ifCond.holds .ne (lcmpW x y) = decide (¬ x = y) := by rw [z_ne]; exact decide_eq_decide.mpr (not_congr (lw_eq x y))
/-- what the law's own walk leaves -/
def QL : Option Value → Heap → Prop := fun v _ => v = some (.int 1)
/-! the ends -/
theorem Go.out {v : Option Value} (f : ∀ T L a b fs, St W T L a b → (∀ (g : JFrame) (acts : List Action), g.method = W.m → g.locked = none → g.entered = [] → (doReturn W.e (T.setTop g) acts v).1 = T.setFrames fs) → Sp W (T.setTop (mkF W.m pc ls st)) (T.setFrames fs)) (hv : W.meth.sig.returnType = none → v = none) (hlk : W.meth.locks = false) (hk : k ≤ W.R.cells) (hn : n ≤ W.R.slots) (hQ : Q v h) : Go W n0 Q h k n pc ls st := by
  intro T L a b X ha hb N eT
  obtain ⟨fs, hr, hrun, hended, hW, hsame⟩ := X.leave (v := v) hv hlk
  refine ⟨_, _, f T L a b fs X hr, hrun, hended, v, L, rfl, ⟨N, ?_⟩, ⟨_, rfl⟩, hW, hsame.mono (Nat.le_trans ha hk) (Nat.le_trans hb hn)⟩
  have e1 : (T.setFrames fs).heap = T.heap := rfl
  rw [e1, eT]
  exact hQ
theorem Go.retI (C : Cx Z W rm own nm bytes maxL (some .int)) {x : Int32} (hd : decode bytes pc = .ok (.ireturn, 1)) (hk : k ≤ rm.cells) (hn : n ≤ rm.slots) (hQ : Q (some (.int x)) h) : Go W n0 Q h k n pc ls (.int x :: st) :=
  Go.out (v := some (.int x)) (fun T L a b fs X hr => Jvm.RoadKit.retI X C.x C.re (hb C.b hd) hr) (fun e => by rw [C.re] at e; cases e) C.lk (by rw [C.ro]; exact hk) (by rw [C.ro]; exact hn) hQ
theorem Go.retZ {t : FieldType} (ht : t = .boolean ∨ t = .byte ∨ t = .char ∨ t = .short) (C : Cx Z W rm own nm bytes maxL (some t)) {x : Int32} (hd : decode bytes pc = .ok (.ireturn, 1)) (hk : k ≤ rm.cells) (hn : n ≤ rm.slots) (hQ : Q (some (.int (nar t x))) h) : Go W n0 Q h k n pc ls (.int x :: st) :=
  Go.out (v := some (.int (nar t x))) (fun T L a b fs X hr => retN X C.x (t := t) C.re ht (hb C.b hd) hr) (fun e => by rw [C.re] at e; cases e) C.lk (by rw [C.ro]; exact hk) (by rw [C.ro]; exact hn) hQ
theorem Go.retV (C : Cx Z W rm own nm bytes maxL none) (hd : decode bytes pc = .ok (.return_, 1)) (hk : k ≤ rm.cells) (hn : n ≤ rm.slots) (hQ : Q none h) : Go W n0 Q h k n pc ls [] :=
  Go.out (v := none) (fun T L a b fs X hr => X.returnOut C.x C.re (hb C.b hd) hr) (fun _ => rfl) C.lk (by rw [C.ro]; exact hk) (by rw [C.ro]; exact hn) hQ
theorem Go.retJ (C : Cx Z W rm own nm bytes maxL (some .long)) {x : Int64} (hd : decode bytes pc = .ok (.lreturn, 1)) (hk : k ≤ rm.cells) (hn : n ≤ rm.slots) (hQ : Q (some (.long x)) h) : Go W n0 Q h k n pc ls [.long x] :=
  Go.out (v := some (.long x)) (fun T L a b fs X hr => Stand.lreturnOut X C.x C.re (hb C.b hd) hr) (fun e => by rw [C.re] at e; cases e) C.lk (by rw [C.ro]; exact hk) (by rw [C.ro]; exact hn) hQ
/-! the calls -/
theorem met_weak {l : Launch} {y : MethodName} {as : Array Value} {Q' : Option Value → Heap → Prop} (M : Met1 l Z y bytes maxL ret [] rm as h n0 Q) (hQ : ∀ v h', Q v h' → Q' v h') : Met1 l Z y bytes maxL ret [] rm as h n0 Q' := by
  intro p e ha hc hk s m args below hf happ hP hK
  obtain ⟨n, o, h1, h2, h3, v, L, h4, ⟨h5, h6⟩, h7⟩ := M p e ha hc hk s m args below hf happ hP hK
  exact ⟨n, o, h1, h2, h3, v, L, h4, ⟨h5, hQ _ _ h6⟩, h7⟩
theorem Go.callS (C : Cx Z W rm own nm bytes maxL ret) {index : Nat} {y : MethodName} {bytes' : ByteArray} {maxL' : Nat} {ret' : Option FieldType} {rm' : Room} {argsL : List Value} {Q' : Option Value → Heap → Prop} {ps : List FieldType} {rt : Option FieldType} {stk : List Value} {k' n' w : Nat}
    (wl : (Jvm.Cond.methodLink own index y).before a0 Z = true) (wst : (Jvm.Cond.static y).before a0 Z = true) (wi : (Jvm.Cond.initialized y.cls).before a0 Z = true) (wc : (Jvm.Cond.code y bytes' maxL' ret').before a0 Z = true)
    (M : Met1 W.l Z y bytes' maxL' ret' [] rm' argsL.toArray h n0 Q') (hd : decode bytes pc = .ok (.invokestatic index, 3)) (hpd : parseMethodDescriptor y.desc = some ⟨ps, rt⟩) (hq : pc + 3 = q) (hls : ls.size = maxL) (hstk : stk = argsL.reverse ++ st) (hlen : argsL.length = ps.length)
    (hw : (st.map fun v => v.category).sum = w) (hfr : rm'.frames + 1 ≤ rm.frames) (hlo : w + (maxL' + 11) + rm'.locals ≤ rm.locals) (hk : k + rm'.cells = k') (hn : n + rm'.slots = n') (hk' : k' ≤ rm.cells) (hn' : n' ≤ rm.slots)
    (hr : ∀ v h', Q' v h' → Go W n0 Q h' k' n' q ls (v.toList ++ st)) (hy : y.cls ≠ "java/lang/invoke/MethodHandle" ∧ y.cls ≠ "java/lang/invoke/VarHandle" := by decide) : Go W n0 Q h k n pc ls stk := by
  subst hstk hq hk hn hw
  intro T L a b X ha hb' N eT
  have e1 := C.ro
  obtain ⟨v, _, ⟨T2, L2, k2, n2⟩, -, X2, ⟨Lc, ⟨N2, hQ2⟩, l2, y2, z2⟩, sp⟩ := Jvm.LawKit.callS X C.x (y := y) C.ow (mvT C.z wl) (mvT C.z wst) (mvT C.z wi) (mvT C.z wc) hy
    (backOf (W := (st.map fun v => v.category).sum) (Q := fun v h L => Fr n0 L ∧ Q' v h) M C.z wc wi (by rw [e1]; exact hfr) (by rw [e1]; exact hlo)) (g := mkF W.m pc ls (argsL.reverse ++ st)) rfl (by rw [C.ml]; exact hls) (argsL := argsL) (rest := st) (lenOf hpd hlen) rfl (by show 2 * 0 + (st.map fun v => v.category).sum ≤ (st.map fun v => v.category).sum; omega) (hb C.b hd) (fun _ _ => ⟨rfl, eT, by rw [e1]; show a + _ ≤ _; omega, by rw [e1]; show b + _ ≤ _; omega⟩)
  dsimp only [Pt.U, Pt.locs, Pt.cells, Pt.slots] at X2 l2 y2 z2 sp hQ2
  subst l2 y2 z2
  obtain ⟨s₂, o, hs, r⟩ := hr v _ hQ2 T2 _ _ _ X2 (by omega) (by omega) (Fr.app N N2) rfl
  exact ⟨s₂, o, sp _ hs, r⟩
/-- what a callee that changes nothing leaves -/
def Ret (w : Value) (h : Heap) : Option Value → Heap → Prop := fun v h' => v = some w ∧ h' = h
theorem Go.pureS (C : Cx Z W rm own nm bytes maxL ret) {index : Nat} {y : MethodName} {bytes' : ByteArray} {maxL' : Nat} {ret' : Option FieldType} {fr lo : Nat} {argsL : List Value} {res : Value} {ps : List FieldType} {rt : Option FieldType} {stk : List Value} {w : Nat}
    (wl : (Jvm.Cond.methodLink own index y).before a0 Z = true) (wst : (Jvm.Cond.static y).before a0 Z = true) (wi : (Jvm.Cond.initialized y.cls).before a0 Z = true) (wc : (Jvm.Cond.code y bytes' maxL' ret').before a0 Z = true)
    (M : Met1 W.l Z y bytes' maxL' ret' [] ({ frames := fr, cells := 0, slots := 0, locals := lo } : Room) argsL.toArray h n0 (Ret res h)) (hd : decode bytes pc = .ok (.invokestatic index, 3)) (hpd : parseMethodDescriptor y.desc = some ⟨ps, rt⟩) (hq : pc + 3 = q) (hls : ls.size = maxL) (hstk : stk = argsL.reverse ++ st) (hlen : argsL.length = ps.length)
    (hw : (st.map fun v => v.category).sum = w) (hfr : fr + 1 ≤ rm.frames) (hlo : w + (maxL' + 11) + lo ≤ rm.locals) (hk' : k ≤ rm.cells) (hn' : n ≤ rm.slots)
    (hr : Go W n0 Q h k n q ls (res :: st)) (hy : y.cls ≠ "java/lang/invoke/MethodHandle" ∧ y.cls ≠ "java/lang/invoke/VarHandle" := by decide) : Go W n0 Q h k n pc ls stk :=
  Go.callS C wl wst wi wc M hd hpd hq hls hstk hlen hw hfr hlo rfl rfl hk' hn' (fun v h' q => by obtain ⟨rfl, rfl⟩ := q; exact hr) hy
theorem Go.callC (C : Cx Z W rm own nm bytes maxL ret) {index : Nat} {y : MethodName} {bytes' : ByteArray} {maxL' : Nat} {rm' : Room} {argsL : List Value} {Q' : Option Value → Heap → Prop} {ps : List FieldType} {rt : Option FieldType} {stk : List Value} {k' n' w : Nat} {a : Addr}
    (hy1 : y.name = "<init>") (wl : (Jvm.Cond.methodLink own index y).before a0 Z = true) (wst : (Jvm.Cond.instanceMethod y).before a0 Z = true) (wi : (Jvm.Cond.initialized y.cls).before a0 Z = true) (wc : (Jvm.Cond.code y bytes' maxL' none).before a0 Z = true)
    (M : Met1 W.l Z y bytes' maxL' none [] rm' (.ref a :: argsL).toArray h n0 Q') (hd : decode bytes pc = .ok (.invokespecial index, 3)) (hpd : parseMethodDescriptor y.desc = some ⟨ps, rt⟩) (hq : pc + 3 = q) (hls : ls.size = maxL) (hstk : stk = argsL.reverse ++ .ref a :: st) (hlen : argsL.length = ps.length)
    (hw : (st.map fun v => v.category).sum = w) (hfr : rm'.frames + 1 ≤ rm.frames) (hlo : w + (maxL' + 11) + rm'.locals ≤ rm.locals) (hk : k + rm'.cells = k') (hn : n + rm'.slots = n') (hk' : k' ≤ rm.cells) (hn' : n' ≤ rm.slots)
    (hr : ∀ v h', Q' v h' → Go W n0 Q h' k' n' q ls (v.toList ++ st)) (hy : y.cls ≠ "java/lang/invoke/MethodHandle" ∧ y.cls ≠ "java/lang/invoke/VarHandle" := by decide) : Go W n0 Q h k n pc ls stk := by
  subst hstk hq hk hn hw
  intro T L i j X ha hb' N eT
  have e1 := C.ro
  obtain ⟨v, _, ⟨T2, L2, k2, n2⟩, -, X2, ⟨Lc, ⟨N2, hQ2⟩, l2, y2, z2⟩, sp⟩ := X.specialBack C.x (y := y) hy1 C.ow (mvT C.z wl) (mvT C.z wst) (mvT C.z wc) hy
    (backOf (W := (st.map fun v => v.category).sum) (Q := fun v h L => Fr n0 L ∧ Q' v h) M C.z wc wi (by rw [e1]; exact hfr) (by rw [e1]; exact hlo)) (g := mkF W.m pc ls (argsL.reverse ++ .ref a :: st)) rfl (by rw [C.ml]; exact hls) (Steps.refl _) (a := a) (argsL := argsL) (rest := st) (lenOf hpd hlen) rfl (by show 2 * 0 + (st.map fun v => v.category).sum ≤ (st.map fun v => v.category).sum; omega) (hb C.b hd) (fun _ _ => ⟨rfl, eT, by rw [e1]; show i + _ ≤ _; omega, by rw [e1]; show j + _ ≤ _; omega⟩)
  dsimp only [Pt.U, Pt.locs, Pt.cells, Pt.slots] at X2 l2 y2 z2 sp hQ2
  subst l2 y2 z2
  obtain ⟨s₂, o, hs, r⟩ := hr v _ hQ2 T2 _ _ _ X2 (by omega) (by omega) (Fr.app N N2) rfl
  exact ⟨s₂, o, sp.trans hs, r⟩
theorem Go.callV (C : Cx Z W rm own nm bytes maxL ret) {index : Nat} {y z : MethodName} {K : String} {bytes' : ByteArray} {maxL' : Nat} {ret' : Option FieldType} {rm' : Room} {argsL : List Value} {Q' : Option Value → Heap → Prop} {ps : List FieldType} {rt : Option FieldType} {stk : List Value} {k' n' w : Nat} {a : Addr}
    (E : Exa Z h a K) (wl : (Jvm.Cond.methodLink own index y).before a0 Z = true) (wdc : (Jvm.Cond.declares y).before a0 Z = true) (hnf : NotFace W.s y) (wse : (Jvm.Cond.selects K y z).before a0 Z = true) (wst : (Jvm.Cond.instanceMethod z).before a0 Z = true) (wi : (Jvm.Cond.initialized z.cls).before a0 Z = true) (wc : (Jvm.Cond.code z bytes' maxL' ret').before a0 Z = true)
    (M : Met1 W.l Z z bytes' maxL' ret' [] rm' (.ref a :: argsL).toArray h n0 Q') (hd : decode bytes pc = .ok (.invokevirtual index, 3)) (hpd : parseMethodDescriptor y.desc = some ⟨ps, rt⟩) (hq : pc + 3 = q) (hls : ls.size = maxL) (hstk : stk = argsL.reverse ++ .ref a :: st) (hlen : argsL.length = ps.length)
    (hw : (st.map fun v => v.category).sum = w) (hfr : rm'.frames + 1 ≤ rm.frames) (hlo : w + (maxL' + 11) + rm'.locals ≤ rm.locals) (hk : k + rm'.cells = k') (hn : n + rm'.slots = n') (hk' : k' ≤ rm.cells) (hn' : n' ≤ rm.slots)
    (hr : ∀ v h', Q' v h' → Go W n0 Q h' k' n' q ls (v.toList ++ st)) (hy : y.cls ≠ "java/lang/invoke/MethodHandle" ∧ y.cls ≠ "java/lang/invoke/VarHandle" := by decide) : Go W n0 Q h k n pc ls stk := by
  subst hstk hq hk hn hw
  intro T L i j X ha hb' N eT
  have e1 := C.ro
  obtain ⟨cq, kq, qa, qb, qc⟩ := isOf (s := W.s) C.z eT E
  obtain ⟨v, _, ⟨T2, L2, k2, n2⟩, -, X2, ⟨Lc, ⟨N2, hQ2⟩, l2, y2, z2⟩, sp⟩ := X.virtualBack C.x (y := y) (z := z) C.ow (mvT C.z wl) (mvT C.z wdc) hnf (mvT C.z wse) (mvT C.z wst) hy
    (backOf (W := (st.map fun v => v.category).sum) (Q := fun v h L => Fr n0 L ∧ Q' v h) M C.z wc wi (by rw [e1]; exact hfr) (by rw [e1]; exact hlo)) qa qc (g := mkF W.m pc ls (argsL.reverse ++ .ref a :: st)) rfl (by rw [C.ml]; exact hls) (Steps.refl _) (argsL := argsL) (rest := st) (lenOf hpd hlen) rfl (by show 2 * 0 + (st.map fun v => v.category).sum ≤ (st.map fun v => v.category).sum; omega) (hb C.b hd) (fun _ _ => ⟨rfl, eT, by rw [e1]; show i + _ ≤ _; omega, by rw [e1]; show j + _ ≤ _; omega⟩)
  dsimp only [Pt.U, Pt.locs, Pt.cells, Pt.slots] at X2 l2 y2 z2 sp hQ2
  subst l2 y2 z2
  obtain ⟨s₂, o, hs, r⟩ := hr v _ hQ2 T2 _ _ _ X2 (by omega) (by omega) (Fr.app N N2) rfl
  exact ⟨s₂, o, sp.trans hs, r⟩
theorem Go.pureV (C : Cx Z W rm own nm bytes maxL ret) {index : Nat} {y : MethodName} {K : String} {bytes' : ByteArray} {maxL' : Nat} {ret' : Option FieldType} {fr lo : Nat} {argsL : List Value} {res : Value} {ps : List FieldType} {rt : Option FieldType} {stk : List Value} {w : Nat} {a : Addr}
    (E : Exa Z h a K) (wl : (Jvm.Cond.methodLink own index y).before a0 Z = true) (wdc : (Jvm.Cond.declares y).before a0 Z = true) (wse : (Jvm.Cond.selects K y y).before a0 Z = true) (wst : (Jvm.Cond.instanceMethod y).before a0 Z = true) (wi : (Jvm.Cond.initialized y.cls).before a0 Z = true) (wc : (Jvm.Cond.code y bytes' maxL' ret').before a0 Z = true)
    (M : Met1 W.l Z y bytes' maxL' ret' [] ({ frames := fr, cells := 0, slots := 0, locals := lo } : Room) (.ref a :: argsL).toArray h n0 (Ret res h)) (hd : decode bytes pc = .ok (.invokevirtual index, 3)) (hpd : parseMethodDescriptor y.desc = some ⟨ps, rt⟩) (hq : pc + 3 = q) (hls : ls.size = maxL) (hstk : stk = argsL.reverse ++ .ref a :: st) (hlen : argsL.length = ps.length)
    (hw : (st.map fun v => v.category).sum = w) (hfr : fr + 1 ≤ rm.frames) (hlo : w + (maxL' + 11) + lo ≤ rm.locals) (hk' : k ≤ rm.cells) (hn' : n ≤ rm.slots)
    (hr : Go W n0 Q h k n q ls (res :: st)) (hy : y.cls ≠ "java/lang/invoke/MethodHandle" ∧ y.cls ≠ "java/lang/invoke/VarHandle" := by decide) : Go W n0 Q h k n pc ls stk :=
  Go.callV C E wl wdc (notFace_of_selects (args := #[]) (mvT C.z wse)) wse wst wi wc M hd hpd hq hls hstk hlen hw hfr hlo rfl rfl hk' hn' (fun v h' q => by obtain ⟨rfl, rfl⟩ := q; exact hr) hy
/-- a private method, by invokevirtual; zz: any method of its class of which the sheet says what it selects (so the class is no interface) -/
theorem Go.callP (C : Cx Z W rm own nm bytes maxL ret) {index : Nat} {y zz : MethodName} {K KK : String} {bytes' : ByteArray} {maxL' : Nat} {ret' : Option FieldType} {rm' : Room} {argsL : List Value} {Q' : Option Value → Heap → Prop} {ps : List FieldType} {rt : Option FieldType} {stk : List Value} {k' n' w : Nat} {a : Addr}
    (E : Exa Z h a K) (wl : (Jvm.Cond.methodLink own index y).before a0 Z = true) (wse : (Jvm.Cond.selects KK zz zz).before a0 Z = true) (hzz : zz.cls = y.cls) (wpr : (Jvm.Cond.privateMethod y).before a0 Z = true) (wst : (Jvm.Cond.instanceMethod y).before a0 Z = true) (wi : (Jvm.Cond.initialized y.cls).before a0 Z = true) (wc : (Jvm.Cond.code y bytes' maxL' ret').before a0 Z = true)
    (M : Met1 W.l Z y bytes' maxL' ret' [] rm' (.ref a :: argsL).toArray h n0 Q') (hd : decode bytes pc = .ok (.invokevirtual index, 3)) (hpd : parseMethodDescriptor y.desc = some ⟨ps, rt⟩) (hq : pc + 3 = q) (hls : ls.size = maxL) (hstk : stk = argsL.reverse ++ .ref a :: st) (hlen : argsL.length = ps.length)
    (hw : (st.map fun v => v.category).sum = w) (hfr : rm'.frames + 1 ≤ rm.frames) (hlo : w + (maxL' + 11) + rm'.locals ≤ rm.locals) (hk : k + rm'.cells = k') (hn : n + rm'.slots = n') (hk' : k' ≤ rm.cells) (hn' : n' ≤ rm.slots)
    (hr : ∀ v h', Q' v h' → Go W n0 Q h' k' n' q ls (v.toList ++ st)) (hy : y.cls ≠ "java/lang/invoke/MethodHandle" ∧ y.cls ≠ "java/lang/invoke/VarHandle" := by decide) : Go W n0 Q h k n pc ls stk := by
  subst hstk hq hk hn hw
  intro T L i j X ha hb' N eT
  have e1 := C.ro
  obtain ⟨cell, hcell, hobj⟩ := E.cell
  rw [← eT] at hcell
  obtain ⟨mk, methM, hnamed, hmethM, hstM, habM⟩ := Cond.instanceMethod_spec (mvT (args := #[]) C.z wst)
  obtain ⟨methM', cM, hmethM', -, -, -, -, -, -, hsigM⟩ := Cond.code_spec hnamed (mvT (args := #[]) C.z wc)
  cases hmethM.symm.trans hmethM'
  obtain ⟨c2, r2, m2, -, -, q3, -, kP, hkP, hkPi⟩ := Cond.selects_spec (mvT (args := #[]) C.z wse)
  have ec : m2.cls = mk.cls := by
    have u1 := findClass_of_methodNamed q3
    have u2 := findClass_of_methodNamed hnamed
    rw [hzz] at u1
    exact Option.some.inj (u1.symm.trans u2)
  rw [ec] at hkP
  have hsel := selectMethod_private (p := W.e.platform) (c := cell.cls) hmethM (Cond.privateMethod_at (mvP C.z wpr (args := #[])) mk methM hnamed hmethM)
  obtain ⟨vm₁, X₁, hst⟩ := X.invokevirtual C.x C.ow (mvT C.z wl) hnamed hmethM hstM hkP hkPi hy (a := a) (cell := cell) hcell hobj hsel hmethM habM hkP hkPi (g := mkF W.m pc ls (argsL.reverse ++ .ref a :: st)) rfl (argsL := argsL) (rest := st) (lenOf hpd hlen _ hsigM) rfl (hb C.b hd)
  obtain ⟨v, ⟨T2, L2, k2, n2⟩, X2, ⟨Lc, ⟨N2, hQ2⟩, l2, y2, z2⟩, sp⟩ := backOf (len := 3) (W := (st.map fun v => v.category).sum) (Q := fun v h L => Fr n0 L ∧ Q' v h) M C.z wc wi (by rw [e1]; exact hfr) (by rw [e1]; exact hlo) W.m W.meth W.c ⟨T.setVm vm₁, L, i, j⟩ (mkF W.m pc ls st) (.invokevirtual index) mk (.ref a :: argsL).toArray X₁ rfl (by rw [C.ml]; exact hls) (hb C.b hd) (by show 2 * 0 + (st.map fun v => v.category).sum ≤ (st.map fun v => v.category).sum; omega) (X₁.named hnamed) ⟨rfl, eT, by rw [e1]; show i + _ ≤ _; omega, by rw [e1]; show j + _ ≤ _; omega⟩
  dsimp only [Pt.U, Pt.locs, Pt.cells, Pt.slots] at X2 l2 y2 z2 sp hQ2
  subst l2 y2 z2
  obtain ⟨s₂, o, hs, r⟩ := hr v _ hQ2 T2 _ _ _ X2 (by omega) (by omega) (Fr.app N N2) rfl
  exact ⟨s₂, o, (hst _ fun acts => by rw [doInvoke_state]; exact Steps.refl _).trans (sp.trans hs), r⟩
/-! the heap -/
theorem Go.initO (C : Cx Z W rm own nm bytes maxL ret) {index w : Nat} {a : Addr} (w1 : (Jvm.Cond.methodLink own index Lib.objectInit).before a0 Z = true) (w2 : (Jvm.Cond.instanceMethod Lib.objectInit).before a0 Z = true) (w3 : (Jvm.Cond.code Lib.objectInit ⟨#[0xb1]⟩ 1 none).before a0 Z = true)
    (hd : decode bytes pc = .ok (.invokespecial index, 3)) (hq : pc + 3 = q) (hls : ls.size = maxL) (hw : (st.map fun v => v.category).sum = w) (hfr : 1 ≤ rm.frames) (hlo : w + 12 ≤ rm.locals) (hr : Go W n0 Q h k n q ls st) : Go W n0 Q h k n pc ls (.ref a :: st) := by
  subst hq hw
  exact Go.stepT (fun T L i j X eT => Jvm.RoadKit.initO X C.x C.z C.ow w1 w2 w3 eT (g := mkF W.m pc ls (.ref a :: st)) rfl (by rw [C.ml]; exact hls) rfl (hb C.b hd) (by rw [C.ro]; exact hfr) (W := (st.map fun v => v.category).sum) (by show 2 * 0 + (st.map fun v => v.category).sum ≤ (st.map fun v => v.category).sum; omega) (by rw [C.ro]; exact hlo)) hr
theorem Go.getF (C : Cx Z W rm own nm bytes maxL ret) {R0 O f d host : String} {index : Nat} {a : Addr} {v : Value} (w : (Jvm.Cond.fieldLink own index R0 f d).before a0 Z = true ∨ (Jvm.Cond.fieldLinkNest own index R0 f d host).before a0 Z = true) (via : Via Z R0 O f d) (F : Fld Z h a O f d v)
    (hd : decode bytes pc = .ok (.getfield index, 3)) (hq : pc + 3 = q) (hr : Go W n0 Q h k n q ls (v :: st)) : Go W n0 Q h k n pc ls (.ref a :: st) := by
  subst hq
  exact Go.stepT (fun T L i j X eT => Jvm.RoadKit.getF X C.x C.z C.ow w via eT F (g := mkF W.m pc ls (.ref a :: st)) rfl rfl (hb C.b hd)) hr
theorem Go.getS (C : Cx Z W rm own nm bytes maxL ret) {R0 O f d : String} {index : Nat} {v : Value} (w : (Jvm.Cond.fieldLink own index R0 f d).before a0 Z = true) (via : Via Z R0 O f d) (F : Sta Z h O f d v)
    (hd : decode bytes pc = .ok (.getstatic index, 3)) (hq : pc + 3 = q) (hr : Go W n0 Q h k n q ls (v :: st)) : Go W n0 Q h k n pc ls st := by
  subst hq
  exact Go.stepT (fun T L i j X eT => Jvm.RoadKit.getS X C.x C.z (host := "") C.ow w via eT F (g := mkF W.m pc ls st) rfl (hb C.b hd)) hr
theorem Go.putF (C : Cx Z W rm own nm bytes maxL ret) {R0 O f d host K : String} {index kk : Nat} {ty : FieldType} {a : Addr} {v old : Value} (w : (Jvm.Cond.fieldLink own index R0 f d).before a0 Z = true ∨ (Jvm.Cond.fieldLinkNest own index R0 f d host).before a0 Z = true) (via : Via Z R0 O f d) (F : Fld Z h a O f d old) (E : Exa Z h a K)
    (Lw : (Jvm.Cond.lays K O f d).before a0 Z = true ∨ ((Jvm.Cond.laysFinal K O f d).before a0 Z = true ∧ own = O ∧ nm = "<init>")) (wi : (Jvm.Cond.instantiable K kk).before a0 Z = true) (hty : parseFieldDescriptor d = some ty) (hn : narrow ty v = v) (hf : fits ty v = true) (ha : n0 ≤ a)
    (hd : decode bytes pc = .ok (.putfield index, 3)) (hq : pc + 3 = q) (hr : ∀ h', Wr h h' a (Jvm.RoadKit.slotOf Z O f d) v → Go W n0 Q h' k n q ls st) : Go W n0 Q h k n pc ls (v :: .ref a :: st) := by
  subst hq
  intro T L i j X hk hn' N eT
  obtain ⟨T', h', X', e', W', sp⟩ := Jvm.RoadKit.putF X C.x C.z C.ow w via eT F E (Lw.imp id fun z => ⟨z.1, z.2.1, C.na.trans z.2.2⟩) wi hty hn hf (g := mkF W.m pc ls (v :: .ref a :: st)) rfl rfl (hb C.b hd)
  obtain ⟨s₂, o, hs, r⟩ := hr h' W' T' _ _ _ X' hk hn' (Fr.snoc X' N ha) e'
  exact ⟨s₂, o, sp _ hs, r⟩
theorem Go.newO (C : Cx Z W rm own nm bytes maxL ret) {K : String} {index sz k' n' : Nat} (w : (Jvm.Cond.classLink own index K).before a0 Z = true) (wi : (Jvm.Cond.instantiable K sz).before a0 Z = true) (wz : (Jvm.Cond.initialized K).before a0 Z = true)
    (hd : decode bytes pc = .ok (.new index, 3)) (hq : pc + 3 = q) (hk : k + 1 = k') (hn : n + sz = n') (hk' : k' ≤ rm.cells) (hn' : n' ≤ rm.slots)
    (hr : ∀ h' a, a = h.size → Ext h h' → Exa Z h' a K → (∀ {O f d : String} {ty : FieldType}, Laid Z a0 K O f d → parseFieldDescriptor d = some ty → Fld Z h' a O f d (defaultValue ty)) → Go W n0 Q h' k' n' q ls (.ref a :: st)) : Go W n0 Q h k n pc ls st := by
  subst hq hk hn
  intro T L i j X hk0 hn0 N eT
  have e1 := C.ro
  obtain ⟨T', h', X', e', E', A', D', -, sp⟩ := Jvm.RoadKit.newO X C.x C.z C.ow w wi wz eT (g := mkF W.m pc ls st) rfl (hb C.b hd) (by rw [e1]; omega) (by rw [e1]; omega)
  obtain ⟨s₂, o, hs, r⟩ := hr h' _ rfl E' A' D' T' _ _ _ X' (by omega) (by omega) N e'
  exact ⟨s₂, o, sp _ hs, r⟩
theorem Go.newP (C : Cx Z W rm own nm bytes maxL ret) {aty : ArrayType} {z : Int32} {cap k' n' : Nat} (w : (Jvm.Cond.arrayClass (newarray.typeOf aty)).before a0 Z = true) (hz : ¬ z < 0) (hcap : z.toNatClampNeg ≤ cap) (hbig : cap * 8 ≤ 536870912)
    (hd : decode bytes pc = .ok (.newarray aty, 2)) (hq : pc + 2 = q) (hk : k + 1 = k') (hn : n + cap = n') (hk' : k' ≤ rm.cells) (hn' : n' ≤ rm.slots)
    (hr : ∀ h' a cA, a = h.size → Ext h h' → Arv Z h' a cA (newarray.typeOf aty) z [] (defaultValue (newarray.typeOf aty)) → Go W n0 Q h' k' n' q ls (.ref a :: st)) : Go W n0 Q h k n pc ls (.int z :: st) := by
  subst hq hk hn
  intro T L i j X hk0 hn0 N eT
  have e1 := C.ro
  obtain ⟨T', h', cA, X', e', E', A', sp⟩ := Jvm.RoadKit.newP X C.x C.z w eT (g := mkF W.m pc ls (.int z :: st)) rfl (hb C.b hd) rfl hz hcap hbig (by rw [e1]; omega) (by rw [e1]; omega)
  obtain ⟨s₂, o, hs, r⟩ := hr h' _ cA rfl E' (Arv.new A' hz) T' _ _ _ X' (by omega) (by omega) N e'
  exact ⟨s₂, o, sp _ hs, r⟩

/-! arrays: the length n, the values f -/
def Av (Z : State) (h : Heap) (a : Addr) (ty : FieldType) (len : Nat) (f : Nat → Value) : Prop := ∃ c : Cell, Arr Z h a c ty ∧ c.slots.size = len ∧ len < 2 ^ 31 ∧ ∀ i, i < len → c.slots[i]? = some (f i)
def upd {α : Type} (f : Nat → α) (j : Nat) (v : α) : Nat → α := fun i => if i = j then v else f i
theorem upd_eq {α : Type} (f : Nat → α) (j : Nat) (v : α) : upd f j v j = v := if_pos rfl
theorem upd_ne {α : Type} (f : Nat → α) {j i : Nat} (v : α) (e : i ≠ j) : upd f j v i = f i := if_neg e
theorem Av.lt {a : Addr} {ty : FieldType} {len : Nat} {f : Nat → Value} (F : Av Z h a ty len f) : a < h.size := by obtain ⟨c, A, -⟩ := F; exact A.lt
theorem Av.ext {a : Addr} {ty : FieldType} {len : Nat} {f : Nat → Value} {h' : Heap} (F : Av Z h a ty len f) (E : Ext h h') : Av Z h' a ty len f := by obtain ⟨c, A, r⟩ := F; exact ⟨c, A.ext E, r⟩
theorem Av.other {a b : Addr} {ty : FieldType} {len sl : Nat} {v : Value} {f : Nat → Value} {h' : Heap} (F : Av Z h b ty len f) (W : Wr h h' a sl v) (e : b ≠ a) : Av Z h' b ty len f := by obtain ⟨c, A, r⟩ := F; exact ⟨c, A.other W e, r⟩
theorem Av.keep {a : Addr} {ty : FieldType} {len : Nat} {f : Nat → Value} {h' : Heap} {ws : List Addr} (F : Av Z h a ty len f) (K : Keep h h' ws) (e : a ∉ ws) : Av Z h' a ty len f := by obtain ⟨c, A, r⟩ := F; exact ⟨c, ⟨K.2.1 a c A.1 e, A.2⟩, r⟩
theorem Av.same {a : Addr} {ty : FieldType} {len j : Nat} {v : Value} {f : Nat → Value} {h' : Heap} (F : Av Z h a ty len f) (W : Wr h h' a j v) : Av Z h' a ty len (upd f j v) := by
  obtain ⟨c, A, r1, r2, r3⟩ := F
  refine ⟨c.setSlot j v, A.same W, by simp [Cell.setSlot, r1], r2, fun i hi => ?_⟩
  by_cases e : i = j
  · subst e
    rw [upd_eq]
    simp [Cell.setSlot, r1, hi]
  · rw [upd_ne _ _ e, ← r3 i hi]
    exact Array.getElem?_setIfInBounds_ne (Ne.symm e)
def iF (g : Nat → Int32) : Nat → Value := fun i => .int (g i)
def jF (g : Nat → Int64) : Nat → Value := fun i => .long (g i)
theorem upd_iF (g : Nat → Int32) (j : Nat) (x : Int32) : upd (iF g) j (.int x) = iF (upd g j x) := by funext i; by_cases e : i = j <;> simp [upd, iF, e]
theorem upd_jF (g : Nat → Int64) (j : Nat) (x : Int64) : upd (jF g) j (.long x) = jF (upd g j x) := by funext i; by_cases e : i = j <;> simp [upd, jF, e]
theorem Av.sameI {a : Addr} {ty : FieldType} {len j : Nat} {x : Int32} {g : Nat → Int32} {h' : Heap} (F : Av Z h a ty len (iF g)) (W : Wr h h' a j (.int x)) : Av Z h' a ty len (iF (upd g j x)) := upd_iF g j x ▸ F.same W
theorem Av.sameJ {a : Addr} {ty : FieldType} {len j : Nat} {x : Int64} {g : Nat → Int64} {h' : Heap} (F : Av Z h a ty len (jF g)) (W : Wr h h' a j (.long x)) : Av Z h' a ty len (jF (upd g j x)) := upd_jF g j x ▸ F.same W
theorem Av.of {a : Addr} {ty : FieldType} {z : Int32} {cA : ClassId} {d : Value} (F : Arv Z h a cA ty z [] d) : Av Z h a ty z.toNatClampNeg (fun _ => d) := by
  obtain ⟨c, A, -, r1, r2, r3, -⟩ := F
  refine ⟨c, A, r1, ?_, fun i hi => ?_⟩
  · have e1 := z.toInt_lt
    have e2 : z.toNatClampNeg = z.toInt.toNat := rfl
    omega
  · rw [r3 i (by omega)]
    simp
theorem Go.alen (C : Cx Z W rm own nm bytes maxL ret) {a : Addr} {ty : FieldType} {len : Nat} {f : Nat → Value} (F : Av Z h a ty len f) (hd : decode bytes pc = .ok (.arraylength, 1)) (hq : pc + 1 = q)
    (hr : Go W n0 Q h k n q ls (.int len.toInt32 :: st)) : Go W n0 Q h k n pc ls (.ref a :: st) := by
  subst hq
  obtain ⟨c, A, r1, r2, r3⟩ := F
  subst r1
  exact Go.stepX (fun T L i j tg X eT kk => X.arraylength C.x (by rw [eT]; exact A.1) (State.isArrayOf_alike C.z.alike A.2.1) (g := mkF W.m pc ls (.ref a :: st)) rfl rfl (hb C.b hd) _ kk) hr
theorem Go.alenZ (C : Cx Z W rm own nm bytes maxL ret) {a : Addr} {ty : FieldType} {z : Int32} {f : Nat → Value} (F : Av Z h a ty z.toNatClampNeg f) (hz : ¬ z < 0) (hd : decode bytes pc = .ok (.arraylength, 1)) (hq : pc + 1 = q)
    (hr : Go W n0 Q h k n q ls (.int z :: st)) : Go W n0 Q h k n pc ls (.ref a :: st) :=
  Go.alen C F hd hq (by rw [(Jvm.RoadKit.back32 hz).1]; exact hr)

theorem Go.iaload (C : Cx Z W rm own nm bytes maxL ret) {a : Addr} {len : Nat} {f : Nat → Value} {j : Int32} {v : Value} (F : Av Z h a .int len f) (i : Nat) (hji : j.toNatClampNeg = i) (hj : ¬ j < 0) (hi : i < len) (hv : f i = v) (hd : decode bytes pc = .ok (.iaload, 1)) (hq : pc + 1 = q)
    (hr : Go W n0 Q h k n q ls (v :: st)) : Go W n0 Q h k n pc ls (.int j :: .ref a :: st) := by
  subst hq hji hv
  obtain ⟨c, A, r1, r2, r3⟩ := F
  exact Go.stepX (fun T L i' j' tg X eT kk => X.iaload C.x (j := j) (by rw [eT]; exact A.1) (State.isArrayOf_alike C.z.alike A.2.1) A.2.2 (fun z => z.elim hj (fun y => absurd (Nat.lt_of_lt_of_le hi (r1 ▸ y)) (Nat.lt_irrefl _))) (r3 _ hi) (g := mkF W.m pc ls (.int j :: .ref a :: st)) rfl rfl (hb C.b hd) _ kk) hr
theorem Go.laload (C : Cx Z W rm own nm bytes maxL ret) {a : Addr} {len : Nat} {f : Nat → Value} {j : Int32} {v : Value} (F : Av Z h a .long len f) (i : Nat) (hji : j.toNatClampNeg = i) (hj : ¬ j < 0) (hi : i < len) (hv : f i = v) (hd : decode bytes pc = .ok (.laload, 1)) (hq : pc + 1 = q)
    (hr : Go W n0 Q h k n q ls (v :: st)) : Go W n0 Q h k n pc ls (.int j :: .ref a :: st) := by
  subst hq hji hv
  obtain ⟨c, A, r1, r2, r3⟩ := F
  exact Go.stepX (fun T L i' j' tg X eT kk => X.laload C.x (j := j) (by rw [eT]; exact A.1) (State.isArrayOf_alike C.z.alike A.2.1) A.2.2 (fun z => z.elim hj (fun y => absurd (Nat.lt_of_lt_of_le hi (r1 ▸ y)) (Nat.lt_irrefl _))) (r3 _ hi) (g := mkF W.m pc ls (.int j :: .ref a :: st)) rfl rfl (hb C.b hd) _ kk) hr
theorem Go.caload (C : Cx Z W rm own nm bytes maxL ret) {a : Addr} {len : Nat} {f : Nat → Value} {j : Int32} {v : Value} (F : Av Z h a .char len f) (i : Nat) (hji : j.toNatClampNeg = i) (hj : ¬ j < 0) (hi : i < len) (hv : f i = v) (hd : decode bytes pc = .ok (.caload, 1)) (hq : pc + 1 = q)
    (hr : Go W n0 Q h k n q ls (v :: st)) : Go W n0 Q h k n pc ls (.int j :: .ref a :: st) := by
  subst hq hji hv
  obtain ⟨c, A, r1, r2, r3⟩ := F
  exact Go.stepX (fun T L i' j' tg X eT kk => X.caload C.x (j := j) (by rw [eT]; exact A.1) (State.isArrayOf_alike C.z.alike A.2.1) A.2.2 (fun z => z.elim hj (fun y => absurd (Nat.lt_of_lt_of_le hi (r1 ▸ y)) (Nat.lt_irrefl _))) (r3 _ hi) (g := mkF W.m pc ls (.int j :: .ref a :: st)) rfl rfl (hb C.b hd) _ kk) hr
theorem Go.baload (C : Cx Z W rm own nm bytes maxL ret) {a : Addr} {len : Nat} {f : Nat → Value} {j : Int32} {v : Value} (F : Av Z h a .byte len f) (i : Nat) (hji : j.toNatClampNeg = i) (hj : ¬ j < 0) (hi : i < len) (hv : f i = v) (hd : decode bytes pc = .ok (.baload, 1)) (hq : pc + 1 = q)
    (hr : Go W n0 Q h k n q ls (v :: st)) : Go W n0 Q h k n pc ls (.int j :: .ref a :: st) := by
  subst hq hji hv
  obtain ⟨c, A, r1, r2, r3⟩ := F
  exact Go.stepX (fun T L i' j' tg X eT kk => X.baloadBytes C.x (j := j) (by rw [eT]; exact A.1) (State.isArrayOf_alike C.z.alike A.2.1) A.2.2 (fun z => z.elim hj (fun y => absurd (Nat.lt_of_lt_of_le hi (r1 ▸ y)) (Nat.lt_irrefl _))) (r3 _ hi) (g := mkF W.m pc ls (.int j :: .ref a :: st)) rfl rfl (hb C.b hd) _ kk) hr
theorem Go.zaload (C : Cx Z W rm own nm bytes maxL ret) {a : Addr} {len : Nat} {f : Nat → Value} {j : Int32} {v : Value} (F : Av Z h a .boolean len f) (i : Nat) (hji : j.toNatClampNeg = i) (hj : ¬ j < 0) (hi : i < len) (hv : f i = v) (hd : decode bytes pc = .ok (.baload, 1)) (hq : pc + 1 = q)
    (hr : Go W n0 Q h k n q ls (v :: st)) : Go W n0 Q h k n pc ls (.int j :: .ref a :: st) := by
  subst hq hji hv
  obtain ⟨c, A, r1, r2, r3⟩ := F
  exact Go.stepX (fun T L i' j' tg X eT kk => X.baloadBooleans C.x (j := j) (by rw [eT]; exact A.1) (State.isArrayOf_alike C.z.alike A.2.1) A.2.2 (fun z => z.elim hj (fun y => absurd (Nat.lt_of_lt_of_le hi (r1 ▸ y)) (Nat.lt_irrefl _))) (r3 _ hi) (g := mkF W.m pc ls (.int j :: .ref a :: st)) rfl rfl (hb C.b hd) _ kk) hr
theorem Go.iastore (C : Cx Z W rm own nm bytes maxL ret) {a : Addr} {len : Nat} {f : Nat → Value} {j : Int32} {x : Int32} (F : Av Z h a .int len f) (i : Nat) (hji : j.toNatClampNeg = i) (hj : ¬ j < 0) (hi : i < len) (ha : n0 ≤ a) (hd : decode bytes pc = .ok (.iastore, 1)) (hq : pc + 1 = q)
    (hr : ∀ h', Wr h h' a i (.int x) → Go W n0 Q h' k n q ls st) : Go W n0 Q h k n pc ls (.int x :: .int j :: .ref a :: st) := by
  subst hq hji
  obtain ⟨c, A, r1, r2, r3⟩ := F
  intro T L i' j' X hk hn N eT
  obtain ⟨T', h', X', e', W', sp⟩ := Jvm.RoadKit.stI X C.x C.z eT A (j := j) (fun z => z.elim hj (fun y => absurd (Nat.lt_of_lt_of_le hi (r1 ▸ y)) (Nat.lt_irrefl _))) (g := mkF W.m pc ls (.int x :: .int j :: .ref a :: st)) rfl rfl (hb C.b hd)
  obtain ⟨s₂, o, hs, r⟩ := hr h' W' T' _ _ _ X' hk hn (Fr.snoc X' N ha) e'
  exact ⟨s₂, o, sp _ hs, r⟩
theorem Go.lastore (C : Cx Z W rm own nm bytes maxL ret) {a : Addr} {len : Nat} {f : Nat → Value} {j : Int32} {x : Int64} (F : Av Z h a .long len f) (i : Nat) (hji : j.toNatClampNeg = i) (hj : ¬ j < 0) (hi : i < len) (ha : n0 ≤ a) (hd : decode bytes pc = .ok (.lastore, 1)) (hq : pc + 1 = q)
    (hr : ∀ h', Wr h h' a i (.long x) → Go W n0 Q h' k n q ls st) : Go W n0 Q h k n pc ls (.long x :: .int j :: .ref a :: st) := by
  subst hq hji
  obtain ⟨c, A, r1, r2, r3⟩ := F
  intro T L i' j' X hk hn N eT
  obtain ⟨T', h', X', e', W', sp⟩ := Jvm.RoadKit.stJ X C.x C.z eT A (j := j) (fun z => z.elim hj (fun y => absurd (Nat.lt_of_lt_of_le hi (r1 ▸ y)) (Nat.lt_irrefl _))) (g := mkF W.m pc ls (.long x :: .int j :: .ref a :: st)) rfl rfl (hb C.b hd)
  obtain ⟨s₂, o, hs, r⟩ := hr h' W' T' _ _ _ X' hk hn (Fr.snoc X' N ha) e'
  exact ⟨s₂, o, sp _ hs, r⟩
theorem Go.castore (C : Cx Z W rm own nm bytes maxL ret) {a : Addr} {len : Nat} {f : Nat → Value} {j : Int32} {x : Int32} (F : Av Z h a .char len f) (i : Nat) (hji : j.toNatClampNeg = i) (hj : ¬ j < 0) (hi : i < len) (ha : n0 ≤ a) (hd : decode bytes pc = .ok (.castore, 1)) (hq : pc + 1 = q)
    (hr : ∀ h', Wr h h' a i (.int (nar .char x)) → Go W n0 Q h' k n q ls st) : Go W n0 Q h k n pc ls (.int x :: .int j :: .ref a :: st) := by
  subst hq hji
  obtain ⟨c, A, r1, r2, r3⟩ := F
  intro T L i' j' X hk hn N eT
  obtain ⟨T', h', X', e', W', sp⟩ := Jvm.RoadKit.stC X C.x C.z eT A (j := j) (fun z => z.elim hj (fun y => absurd (Nat.lt_of_lt_of_le hi (r1 ▸ y)) (Nat.lt_irrefl _))) (g := mkF W.m pc ls (.int x :: .int j :: .ref a :: st)) rfl rfl (hb C.b hd)
  obtain ⟨s₂, o, hs, r⟩ := hr h' W' T' _ _ _ X' hk hn (Fr.snoc X' N ha) e'
  exact ⟨s₂, o, sp _ hs, r⟩
theorem Go.bastore (C : Cx Z W rm own nm bytes maxL ret) {a : Addr} {len : Nat} {f : Nat → Value} {j : Int32} {x : Int32} (F : Av Z h a .byte len f) (i : Nat) (hji : j.toNatClampNeg = i) (hj : ¬ j < 0) (hi : i < len) (ha : n0 ≤ a) (hd : decode bytes pc = .ok (.bastore, 1)) (hq : pc + 1 = q)
    (hr : ∀ h', Wr h h' a i (.int (nar .byte x)) → Go W n0 Q h' k n q ls st) : Go W n0 Q h k n pc ls (.int x :: .int j :: .ref a :: st) := by
  subst hq hji
  obtain ⟨c, A, r1, r2, r3⟩ := F
  intro T L i' j' X hk hn N eT
  obtain ⟨T', h', X', e', W', sp⟩ := Jvm.RoadKit.stB X C.x C.z eT A (j := j) (fun z => z.elim hj (fun y => absurd (Nat.lt_of_lt_of_le hi (r1 ▸ y)) (Nat.lt_irrefl _))) (g := mkF W.m pc ls (.int x :: .int j :: .ref a :: st)) rfl rfl (hb C.b hd)
  obtain ⟨s₂, o, hs, r⟩ := hr h' W' T' _ _ _ X' hk hn (Fr.snoc X' N ha) e'
  exact ⟨s₂, o, sp _ hs, r⟩
theorem Go.zastore (C : Cx Z W rm own nm bytes maxL ret) {a : Addr} {len : Nat} {f : Nat → Value} {j : Int32} {x : Int32} (F : Av Z h a .boolean len f) (i : Nat) (hji : j.toNatClampNeg = i) (hj : ¬ j < 0) (hi : i < len) (ha : n0 ≤ a) (hd : decode bytes pc = .ok (.bastore, 1)) (hq : pc + 1 = q)
    (hr : ∀ h', Wr h h' a i (.int (nar .boolean x)) → Go W n0 Q h' k n q ls st) : Go W n0 Q h k n pc ls (.int x :: .int j :: .ref a :: st) := by
  subst hq hji
  obtain ⟨c, A, r1, r2, r3⟩ := F
  intro T L i' j' X hk hn N eT
  obtain ⟨T', h', X', e', W', sp⟩ := Jvm.RoadKit.stZ X C.x C.z eT A (j := j) (fun z => z.elim hj (fun y => absurd (Nat.lt_of_lt_of_le hi (r1 ▸ y)) (Nat.lt_irrefl _))) (g := mkF W.m pc ls (.int x :: .int j :: .ref a :: st)) rfl rfl (hb C.b hd)
  obtain ⟨s₂, o, hs, r⟩ := hr h' W' T' _ _ _ X' hk hn (Fr.snoc X' N ha) e'
  exact ⟨s₂, o, sp _ hs, r⟩
end Gos

theorem d1_0 : decode prog_23_method_2_code 0 = .ok (.lload_n 0, 1) := by decide +kernel
theorem d1_1 : decode prog_23_method_2_code 1 = .ok (.iconst 3, 1) := by decide +kernel
theorem d1_2 : decode prog_23_method_2_code 2 = .ok (.lushr, 1) := by decide +kernel
theorem d1_3 : decode prog_23_method_2_code 3 = .ok (.ldc2_w 13, 3) := by decide +kernel
theorem d1_6 : decode prog_23_method_2_code 6 = .ok (.lmul, 1) := by decide +kernel
theorem d1_7 : decode prog_23_method_2_code 7 = .ok (.iload_n 2, 1) := by decide +kernel
theorem d1_8 : decode prog_23_method_2_code 8 = .ok (.iconst 3, 1) := by decide +kernel
theorem d1_9 : decode prog_23_method_2_code 9 = .ok (.iadd, 1) := by decide +kernel
theorem d1_10 : decode prog_23_method_2_code 10 = .ok (.lushr, 1) := by decide +kernel
theorem d1_11 : decode prog_23_method_2_code 11 = .ok (.l2i, 1) := by decide +kernel
theorem d1_12 : decode prog_23_method_2_code 12 = .ok (.istore_n 3, 1) := by decide +kernel
theorem d1_13 : decode prog_23_method_2_code 13 = .ok (.iload_n 3, 1) := by decide +kernel
theorem d1_14 : decode prog_23_method_2_code 14 = .ok (.iconst 3, 1) := by decide +kernel
theorem d1_15 : decode prog_23_method_2_code 15 = .ok (.ishl, 1) := by decide +kernel
theorem d1_16 : decode prog_23_method_2_code 16 = .ok (.lload_n 0, 1) := by decide +kernel
theorem d1_17 : decode prog_23_method_2_code 17 = .ok (.l2i, 1) := by decide +kernel
theorem d1_18 : decode prog_23_method_2_code 18 = .ok (.bipush 7, 2) := by decide +kernel
theorem d1_20 : decode prog_23_method_2_code 20 = .ok (.iand, 1) := by decide +kernel
theorem d1_21 : decode prog_23_method_2_code 21 = .ok (.ior, 1) := by decide +kernel
theorem d1_22 : decode prog_23_method_2_code 22 = .ok (.ireturn, 1) := by decide +kernel
theorem ef_1 (m : MethodId) (p0 : Int64) (p1 : Int32) : entryFrame m #[(.long p0), (.int p1)] 4 = mkF m 0 #[.val (.long p0), .second, .val (.int p1), .unset] [] := by first | (simp [entryFrame, mkF, argsToLocals, Value.category]; done) | rfl
theorem pn_com_example_damaneh_damaneh_engine_OrdersById : plainName "com/example/damaneh/damaneh/engine/OrdersById" = true := by first | (simp [plainName, overriddenIn]; done) | decide +kernel
theorem ef_0 (m : MethodId) (p0 : Int64) (p1 : Int32) (p2 : Int32) : entryFrame m #[(.long p0), (.int p1), (.int p2)] maxLocals = mkF m 0 #[.val (.long p0), .second, .val (.int p1), .val (.int p2), .unset, .unset, .unset, .unset, .unset, .unset, .unset, .unset, .unset, .unset, .unset, .unset, .unset] [] := by first | (simp [entryFrame, mkF, argsToLocals, Value.category, maxLocals]; done) | rfl
theorem pn_com_example_damaneh_damaneh_engine_OrdersByIdHomePinLaw : plainName "com/example/damaneh/damaneh/engine/OrdersByIdHomePinLaw" = true := by first | (simp [plainName, overriddenIn]; done) | decide +kernel
theorem pd__40JI_41I : parseMethodDescriptor "(JI)I" = some ⟨[.long, .int], some .int⟩ := by decide +kernel
def f_home (p0 : Int64) (p1 : Int32) : Int32 := (((((((p0.toUInt64 >>> ((3 : Int32) &&& 0x3f).toInt64.toUInt64).toInt64) * (-7046029254386353131 : Int64)).toUInt64 >>> ((p1 + (3 : Int32)) &&& 0x3f).toInt64.toUInt64).toInt64).toInt32 <<< ((3 : Int32) &&& 31)) ||| (p0.toInt32 &&& (7 : Int32)))
set_option maxRecDepth 65536 in
theorem c_f_home (l : Launch) (Z : State) (a0 : Array Value) (hw : ∀ d ∈ tables_1, d.before a0 Z = true) (p0 : Int64) (p1 : Int32) (h0 : Heap) (n0 : Nat) : Met1 l Z (⟨"com/example/damaneh/damaneh/engine/OrdersById", "home", "(JI)I"⟩ : MethodName) prog_23_method_2_code 4 (some .int) [] ({ frames := 0, cells := 0, slots := 0, locals := 0 } : Room) #[(.long p0), (.int p1)] h0 n0 (Ret (.int (f_home p0 p1)) h0) := by
  refine met_of_go (plainFor_of_name pn_com_example_damaneh_damaneh_engine_OrdersById) (fun m => ef_1 m p0 p1) ?_
  intro W hl C
  subst hl
  refine Go.lloadN C d1_0 (q := 1) rfl rfl ?_
  refine Go.iconst C (3 : Int32) d1_1 (q := 2) rfl rfl ?_
  refine Go.lushr C d1_2 (q := 3) rfl ?_
  refine Go.ldc2J C (hw _ (List.mem_of_getElem? (i := 5) rfl)) d1_3 (q := 6) rfl ?_
  refine Go.lmul C d1_6 (q := 7) rfl ?_
  refine Go.iloadN C d1_7 (q := 8) rfl rfl ?_
  refine Go.iconst C (3 : Int32) d1_8 (q := 9) rfl rfl ?_
  refine Go.iadd C d1_9 (q := 10) rfl ?_
  refine Go.lushr C d1_10 (q := 11) rfl ?_
  refine Go.l2i C d1_11 (q := 12) rfl ?_
  refine Go.istoreNR C d1_12 (q := 13) rfl (l' := #[.val (.long p0), .second, .val (.int p1), .val (.int (((((p0.toUInt64 >>> ((3 : Int32) &&& 0x3f).toInt64.toUInt64).toInt64) * (-7046029254386353131 : Int64)).toUInt64 >>> ((p1 + (3 : Int32)) &&& 0x3f).toInt64.toUInt64).toInt64).toInt32)]) rfl ?_
  refine Go.iloadN C d1_13 (q := 14) rfl rfl ?_
  refine Go.iconst C (3 : Int32) d1_14 (q := 15) rfl rfl ?_
  refine Go.ishl C d1_15 (q := 16) rfl ?_
  refine Go.lloadN C d1_16 (q := 17) rfl rfl ?_
  refine Go.l2i C d1_17 (q := 18) rfl ?_
  refine Go.bipush C (7 : Int32) d1_18 (q := 20) rfl rfl ?_
  refine Go.iand C d1_20 (q := 21) rfl ?_
  refine Go.ior C d1_21 (q := 22) rfl ?_
  refine Go.retI C d1_22 (by decide) (by decide) ⟨?_, rfl⟩
  refine congrArg (fun z => some (Value.int z)) ?_
  show (((((((p0.toUInt64 >>> ((3 : Int32) &&& 0x3f).toInt64.toUInt64).toInt64) * (-7046029254386353131 : Int64)).toUInt64 >>> ((p1 + (3 : Int32)) &&& 0x3f).toInt64.toUInt64).toInt64).toInt32 <<< ((3 : Int32) &&& 31)) ||| (p0.toInt32 &&& (7 : Int32))) = f_home p0 p1
  unfold f_home
  rfl
def own_M (p0 : Int64) : Int64 := (((p0.toUInt64 >>> ((3 : Int32) &&& 0x3f).toInt64.toUInt64).toInt64) * (-7046029254386353131 : Int64))
def own_blk (m : Int64) (q : Int32) : Int32 := ((m.toUInt64 >>> (q &&& 0x3f).toInt64.toUInt64).toInt64).toInt32
theorem own_home_eq (p0 : Int64) (p1 : Int32) : f_home p0 p1 = (own_blk (own_M p0) (p1 + (3 : Int32)) <<< ((3 : Int32) &&& 31)) ||| (p0.toInt32 &&& (7 : Int32)) := rfl
theorem own_pows : ∀ i : Fin 27, ((2 ^ (i.val + 1) : Nat) : Int) * ((2 ^ (63 - i.val) : Nat) : Int) = 18446744073709551616 ∧ ((2 ^ (i.val + 4) : Nat) : Int) = 8 * ((2 ^ (i.val + 1) : Nat) : Int) ∧ ((2 ^ (i.val + 1) : Nat) : Int) ≤ 134217728 ∧ 0 < ((2 ^ (63 - i.val) : Nat) : Int) ∧ 2 ≤ ((2 ^ (i.val + 1) : Nat) : Int) := by decide +kernel
theorem own_blk_b (m : Int64) (i : Fin 27) : 0 ≤ (own_blk m (Int32.ofNat (63 - i.val))).toInt ∧ (own_blk m (Int32.ofNat (63 - i.val))).toInt < ((2 ^ (i.val + 1) : Nat) : Int) := by
  obtain ⟨h1, h2, h3, h4, h5⟩ := own_pows i
  have hi := i.isLt
  have a := c_lushr m (Int32.ofNat (63 - i.val)) (63 - i.val) (by
    rw [Int32.toBitVec_ofNat', BitVec.toNat_ofNat]; omega) (by omega)
  unfold own_blk
  generalize ((m.toUInt64 >>> ((Int32.ofNat (63 - i.val)) &&& 0x3f).toInt64.toUInt64).toInt64) = w at *
  have b := c_l2i w
  have r := rng32 w.toInt32
  have x0 : 0 ≤ m.toInt % 18446744073709551616 := Int.emod_nonneg _ (by decide)
  have x1 : m.toInt % 18446744073709551616 < 18446744073709551616 := Int.emod_lt_of_pos _ (by decide)
  have y0 : 0 ≤ w.toInt := by rw [a]; exact Int.ediv_nonneg x0 (by omega)
  have y1 : w.toInt < ((2 ^ (i.val + 1) : Nat) : Int) := by rw [a]; exact Int.ediv_lt_of_lt_mul h4 (by rw [h1]; exact x1)
  generalize ((2 ^ (i.val + 1) : Nat) : Int) = t at *
  omega
theorem own_home_v (id : Int64) (i : Fin 27) : (f_home id (Int32.ofNat (60 - i.val))).toInt = 8 * (own_blk (own_M id) (Int32.ofNat (63 - i.val))).toInt + id.toInt % 8 := by
  have hi := i.isLt
  have e : Int32.ofNat (60 - i.val) + (3 : Int32) = Int32.ofNat (63 - i.val) := by
    apply Int32.toInt_inj.mp
    have c := c_iadd (Int32.ofNat (60 - i.val)) 3
    have r := rng32 (Int32.ofNat (60 - i.val) + 3)
    rw [Int32.toInt_ofNat_small (by omega)] at c ⊢
    have e3 : (3 : Int32).toInt = 3 := rfl
    omega
  rw [own_home_eq, e]
  obtain ⟨h1, h2, h3, h4, h5⟩ := own_pows i
  obtain ⟨b0, b1⟩ := own_blk_b (own_M id) i
  generalize own_blk (own_M id) (Int32.ofNat (63 - i.val)) = B at *
  have c1 := c_ishl B 3 3 (by decide)
  have c2 := c_mask id.toInt32 7 3 (by decide) (by decide)
  have c3 := c_l2i id
  have r1 := rng32 (B <<< ((3 : Int32) &&& 31))
  generalize ((2 ^ (i.val + 1) : Nat) : Int) = t at *
  generalize B <<< ((3 : Int32) &&& 31) = A at *
  generalize (id.toInt32 &&& (7 : Int32)) = L at *
  have d1 : A.toInt = 8 * B.toInt := by omega
  have c4 := c_or A L 3 (by decide) 8 (by decide) (by omega) (by omega) (by omega)
  have r2 := rng32 (A ||| L)
  omega
theorem own_and8 (x : Int64) : (x &&& (-8 : Int64)).toInt = x.toInt - x.toInt % 8 := by
  have a : x = (x &&& (-8 : Int64)) ||| (x &&& (7 : Int64)) := by
    apply Int64.toBitVec_inj.mp
    rw [Int64.toBitVec_or, Int64.toBitVec_and, Int64.toBitVec_and, ← BitVec.and_or_distrib_left]
    have : ((-8 : Int64).toBitVec ||| (7 : Int64).toBitVec) = BitVec.allOnes 64 := by decide
    rw [this, BitVec.and_allOnes]
  have b : (x &&& (-8 : Int64)).toInt % 8 = 0 := by
    have c := c_maskL (x &&& (-8 : Int64)) 7 3 (by decide) (by decide)
    rw [Int64.and_assoc] at c
    have d : ((-8 : Int64) &&& (7 : Int64)) = 0 := by decide
    rw [d, Int64.and_zero] at c
    have e : (0 : Int64).toInt = 0 := rfl
    omega
  have m := c_maskL x 7 3 (by decide) (by decide)
  have o := c_orL (x &&& (-8 : Int64)) (x &&& (7 : Int64)) 3 (by decide) 8 (by decide) b (by omega) (by omega)
  rw [← a] at o
  have r1 := rng64 x
  have r2 := rng64 (x &&& (-8 : Int64))
  omega
theorem own_v1 (p1 v1 : Int32) (h : v1 = ((4 : Int32) + ((p1 &&& (2147483647 : Int32)) % (27 : Int32)))) : ∃ i : Fin 27, v1 = Int32.ofNat (i.val + 4) := by
  have a := c_mask p1 2147483647 31 (by decide) (by decide)
  have b := (c_irem (p1 &&& (2147483647 : Int32)) 27 27 rfl).1 (by omega)
  have c := c_iadd 4 ((p1 &&& (2147483647 : Int32)) % (27 : Int32))
  rw [← h] at c
  have r := rng32 v1
  have e : (4 : Int32).toInt = 4 := rfl
  have q : (v1.toInt - 4).toNat < 27 := by omega
  refine ⟨⟨_, q⟩, ?_⟩
  apply Int32.toInt_inj.mp
  rw [Int32.toInt_ofNat_small (by simp only []; omega)]
  simp only []
  omega
theorem own_sub (n : Nat) (hn : n < 27) (c : Nat) (hc : 31 ≤ c ∧ c < 100) : (Int32.ofNat c - Int32.ofNat (n + 4)) = Int32.ofNat (c - 4 - n) := by
  apply Int32.toInt_inj.mp
  have a := c_isub (Int32.ofNat c) (Int32.ofNat (n + 4))
  have r := rng32 (Int32.ofNat c - Int32.ofNat (n + 4))
  rw [Int32.toInt_ofNat_small (by omega), Int32.toInt_ofNat_small (by omega)] at a
  rw [Int32.toInt_ofNat_small (by omega)]
  omega
theorem own_sib (p0 : Int64) (p2 : Int32) : ((p0 &&& (-8 : Int64)) ||| (p2 &&& (7 : Int32)).toInt64).toInt = p0.toInt - p0.toInt % 8 + p2.toInt % 8 := by
  have a := own_and8 p0
  have b := c_mask p2 7 3 (by decide) (by decide)
  have c := c_i2l (p2 &&& (7 : Int32))
  have d := c_orL (p0 &&& (-8 : Int64)) (p2 &&& (7 : Int32)).toInt64 3 (by decide) 8 (by decide) (by omega) (by omega) (by omega)
  have r1 := rng64 p0
  have r2 := rng64 ((p0 &&& (-8 : Int64)) ||| (p2 &&& (7 : Int32)).toInt64)
  omega
theorem own_M_sib (p0 s : Int64) (z : Int) (h : s.toInt = p0.toInt - p0.toInt % 8 + z) (hz : 0 ≤ z ∧ z < 8) : own_M s = own_M p0 := by
  unfold own_M
  have a := c_lushr p0 3 3 (by decide) (by decide)
  have b := c_lushr s 3 3 (by decide) (by decide)
  have e : (s.toUInt64 >>> ((3 : Int32) &&& 0x3f).toInt64.toUInt64).toInt64 = (p0.toUInt64 >>> ((3 : Int32) &&& 0x3f).toInt64.toUInt64).toInt64 := by
    apply Int64.toInt_inj.mp
    rw [a, b]
    omega
  rw [e]
theorem fin0 (p0 : Int64) (p1 : Int32) (p2 : Int32) (v1 : Int32) (hv1 : v1 = ((4 : Int32) + ((p1 &&& (2147483647 : Int32)) % (27 : Int32)))) (v2 : Int32) (hv2 : v2 = ((64 : Int32) - v1)) (v3 : Int32) (hv3 : v3 = (f_home p0 v2)) (v4 : Int64) (hv4 : v4 = (((p0.toUInt64 >>> ((3 : Int32) &&& 0x3f).toInt64.toUInt64).toInt64) * (-7046029254386353131 : Int64))) (v5 : Int32) (hv5 : v5 = ((v4.toUInt64 >>> (((67 : Int32) - v1) &&& 0x3f).toInt64.toUInt64).toInt64).toInt32) (v6 : Int32) (hv6 : v6 = ((v5 * (8 : Int32)) + (p0 &&& (7 : Int64)).toInt32)) (v7 : Int32) (hv7 : v7 = (if v3 < (0 : Int32) then (0 : Int32) else (if v3 < ((1 : Int32) <<< (v1 &&& 31)) then (1 : Int32) else (0 : Int32)))) (v11 : Int32) (hv11 : v11 = (p2 &&& (7 : Int32))) (v12 : Int64) (hv12 : v12 = ((p0 &&& (-8 : Int64)) ||| v11.toInt64)) (v13 : Int32) (hv13 : v13 = (f_home v12 v2)) (v14 : Int32) (hv14 : v14 = (if ((v13.toUInt32 >>> ((3 : Int32) &&& 31).toUInt32).toInt32) = ((v3.toUInt32 >>> ((3 : Int32) &&& 31).toUInt32).toInt32) then (if (v13 &&& (7 : Int32)) = v11 then (1 : Int32) else (0 : Int32)) else (0 : Int32))) (b18 : ¬ v3 = v6) : False := by
  obtain ⟨i, e1⟩ := own_v1 p1 v1 hv1
  have hi := i.isLt
  have e2 : v2 = Int32.ofNat (60 - i.val) := by rw [hv2, e1]; exact own_sub i.val hi 64 (by omega)
  have e5 : ((67 : Int32) - v1) = Int32.ofNat (63 - i.val) := by rw [e1]; exact own_sub i.val hi 67 (by omega)
  have a3 := own_home_v p0 i
  rw [← e2, ← hv3] at a3
  obtain ⟨b0, b1⟩ := own_blk_b (own_M p0) i
  obtain ⟨w1, w2, w3, w4, w5⟩ := own_pows i
  have a5 : v5 = own_blk (own_M p0) (Int32.ofNat (63 - i.val)) := by rw [hv5, e5, hv4]; rfl
  rw [← a5] at a3 b0 b1
  have c1 := c_imul v5 8
  have c2 := c_maskL p0 7 3 (by decide) (by decide)
  have c3 := c_l2i (p0 &&& (7 : Int64))
  have c4 := c_iadd (v5 * (8 : Int32)) (p0 &&& (7 : Int64)).toInt32
  rw [← hv6] at c4
  have r1 := rng32 v6
  have r2 := rng32 (v5 * 8)
  have r3 := rng32 (p0 &&& (7 : Int64)).toInt32
  have k8 : (8 : Int32).toInt = 8 := rfl
  rw [k8] at c1
  generalize ((2 ^ (i.val + 1) : Nat) : Int) = t at *
  exact b18 (Int32.toInt_inj.mp (by omega))
theorem fin1 (p0 : Int64) (p1 : Int32) (p2 : Int32) (v1 : Int32) (hv1 : v1 = ((4 : Int32) + ((p1 &&& (2147483647 : Int32)) % (27 : Int32)))) (v2 : Int32) (hv2 : v2 = ((64 : Int32) - v1)) (v3 : Int32) (hv3 : v3 = (f_home p0 v2)) (v4 : Int64) (hv4 : v4 = (((p0.toUInt64 >>> ((3 : Int32) &&& 0x3f).toInt64.toUInt64).toInt64) * (-7046029254386353131 : Int64))) (v5 : Int32) (hv5 : v5 = ((v4.toUInt64 >>> (((67 : Int32) - v1) &&& 0x3f).toInt64.toUInt64).toInt64).toInt32) (v6 : Int32) (hv6 : v6 = ((v5 * (8 : Int32)) + (p0 &&& (7 : Int64)).toInt32)) (v7 : Int32) (hv7 : v7 = (if v3 < (0 : Int32) then (0 : Int32) else (if v3 < ((1 : Int32) <<< (v1 &&& 31)) then (1 : Int32) else (0 : Int32)))) (v11 : Int32) (hv11 : v11 = (p2 &&& (7 : Int32))) (v12 : Int64) (hv12 : v12 = ((p0 &&& (-8 : Int64)) ||| v11.toInt64)) (v13 : Int32) (hv13 : v13 = (f_home v12 v2)) (v14 : Int32) (hv14 : v14 = (if ((v13.toUInt32 >>> ((3 : Int32) &&& 31).toUInt32).toInt32) = ((v3.toUInt32 >>> ((3 : Int32) &&& 31).toUInt32).toInt32) then (if (v13 &&& (7 : Int32)) = v11 then (1 : Int32) else (0 : Int32)) else (0 : Int32))) (b18 : v3 = v6) (b19 : v7 = (0 : Int32)) : False := by
  obtain ⟨i, e1⟩ := own_v1 p1 v1 hv1
  have hi := i.isLt
  have e2 : v2 = Int32.ofNat (60 - i.val) := by rw [hv2, e1]; exact own_sub i.val hi 64 (by omega)
  have e5 : ((67 : Int32) - v1) = Int32.ofNat (63 - i.val) := by rw [e1]; exact own_sub i.val hi 67 (by omega)
  have a3 := own_home_v p0 i
  rw [← e2, ← hv3] at a3
  obtain ⟨b0, b1⟩ := own_blk_b (own_M p0) i
  obtain ⟨w1, w2, w3, w4, w5⟩ := own_pows i
  generalize own_blk (own_M p0) (Int32.ofNat (63 - i.val)) = B at *
  have c1 := c_ishl 1 v1 (i.val + 4) (by
    rw [e1, Int32.toBitVec_ofNat', BitVec.toNat_ofNat]; omega)
  have k1 : (1 : Int32).toInt = 1 := rfl
  have k0 : (0 : Int32).toInt = 0 := rfl
  have r1 := rng32 ((1 : Int32) <<< (v1 &&& 31))
  rw [k1, w2] at c1
  generalize ((2 ^ (i.val + 1) : Nat) : Int) = t at *
  have q1 : ¬ v3 < (0 : Int32) := by rw [Int32.lt_iff_toInt_lt]; omega
  have q2 : v3 < ((1 : Int32) <<< (v1 &&& 31)) := by rw [Int32.lt_iff_toInt_lt]; omega
  rw [hv7, if_neg q1, if_pos q2] at b19
  exact absurd b19 (by decide)
theorem fin2 (p0 : Int64) (p1 : Int32) (p2 : Int32) (v1 : Int32) (hv1 : v1 = ((4 : Int32) + ((p1 &&& (2147483647 : Int32)) % (27 : Int32)))) (v2 : Int32) (hv2 : v2 = ((64 : Int32) - v1)) (v3 : Int32) (hv3 : v3 = (f_home p0 v2)) (v4 : Int64) (hv4 : v4 = (((p0.toUInt64 >>> ((3 : Int32) &&& 0x3f).toInt64.toUInt64).toInt64) * (-7046029254386353131 : Int64))) (v5 : Int32) (hv5 : v5 = ((v4.toUInt64 >>> (((67 : Int32) - v1) &&& 0x3f).toInt64.toUInt64).toInt64).toInt32) (v6 : Int32) (hv6 : v6 = ((v5 * (8 : Int32)) + (p0 &&& (7 : Int64)).toInt32)) (v7 : Int32) (hv7 : v7 = (if v3 < (0 : Int32) then (0 : Int32) else (if v3 < ((1 : Int32) <<< (v1 &&& 31)) then (1 : Int32) else (0 : Int32)))) (v11 : Int32) (hv11 : v11 = (p2 &&& (7 : Int32))) (v12 : Int64) (hv12 : v12 = ((p0 &&& (-8 : Int64)) ||| v11.toInt64)) (v13 : Int32) (hv13 : v13 = (f_home v12 v2)) (v14 : Int32) (hv14 : v14 = (if ((v13.toUInt32 >>> ((3 : Int32) &&& 31).toUInt32).toInt32) = ((v3.toUInt32 >>> ((3 : Int32) &&& 31).toUInt32).toInt32) then (if (v13 &&& (7 : Int32)) = v11 then (1 : Int32) else (0 : Int32)) else (0 : Int32))) (b18 : v3 = v6) (b19 : ¬ v7 = (0 : Int32)) (b20 : v14 = (0 : Int32)) : False := by
  obtain ⟨i, e1⟩ := own_v1 p1 v1 hv1
  have hi := i.isLt
  have e2 : v2 = Int32.ofNat (60 - i.val) := by rw [hv2, e1]; exact own_sub i.val hi 64 (by omega)
  have e5 : ((67 : Int32) - v1) = Int32.ofNat (63 - i.val) := by rw [e1]; exact own_sub i.val hi 67 (by omega)
  have a3 := own_home_v p0 i
  rw [← e2, ← hv3] at a3
  obtain ⟨b0, b1⟩ := own_blk_b (own_M p0) i
  obtain ⟨w1, w2, w3, w4, w5⟩ := own_pows i
  have s0 : v12.toInt = p0.toInt - p0.toInt % 8 + p2.toInt % 8 := by rw [hv12, hv11]; exact own_sib p0 p2
  have s1 := own_M_sib p0 v12 (p2.toInt % 8) s0 (by omega)
  have a13 := own_home_v v12 i
  rw [← e2, ← hv13] at a13
  rw [s1] at a13
  have m := c_mask p2 7 3 (by decide) (by decide)
  rw [← hv11] at m
  have m2 := c_mask v13 7 3 (by decide) (by decide)
  have u1 := c_iushr v13 3 3 (by decide) (by decide)
  have u2 := c_iushr v3 3 3 (by decide) (by decide)
  generalize own_blk (own_M p0) (Int32.ofNat (63 - i.val)) = B at *
  generalize ((2 ^ (i.val + 1) : Nat) : Int) = t at *
  have q1 : ((v13.toUInt32 >>> ((3 : Int32) &&& 31).toUInt32).toInt32) = ((v3.toUInt32 >>> ((3 : Int32) &&& 31).toUInt32).toInt32) := Int32.toInt_inj.mp (by rw [u1, u2]; omega)
  have q2 : (v13 &&& (7 : Int32)) = v11 := Int32.toInt_inj.mp (by omega)
  rw [hv14, if_pos q1, if_pos q2] at b20
  exact absurd b20 (by decide)
set_option maxRecDepth 65536 in
set_option maxHeartbeats 4000000 in
theorem rm0 (l : Launch) (Z : State) (a0 : Array Value) (hw : ∀ d ∈ tables_1, d.before a0 Z = true) (p0 : Int64) (p1 : Int32) (p2 : Int32) (h0 : Heap) (n0 : Nat) (Z0 : n0 ≤ h0.size) : Met1 l Z x code maxLocals ret tables_1 room_1 #[(.long p0), (.int p1), (.int p2)] h0 n0 QL := by
  refine met_of_go (plainFor_of_name pn_com_example_damaneh_damaneh_engine_OrdersByIdHomePinLaw) (fun m => ef_0 m p0 p1 p2) ?_
  intro W hl C
  subst hl
  refine Go.iconst C (4 : Int32) at_0 (q := 1) rfl rfl ?_
  refine Go.iloadN C at_1 (q := 2) rfl rfl ?_
  refine Go.ldcI C (hw _ (List.mem_of_getElem? (i := 0) rfl)) at_2 (q := 4) rfl ?_
  refine Go.iand C at_4 (q := 5) rfl ?_
  refine Go.bipush C (27 : Int32) at_5 (q := 7) rfl rfl ?_
  refine Go.irem C at_7 (q := 8) rfl (by decide) ?_
  refine Go.iadd C at_8 (q := 9) rfl ?_
  refine Go.istore C at_9 (q := 11) rfl (fun z => #[.val (.long p0), .second, .val (.int p1), .val (.int p2), .val (.int z), .unset, .unset, .unset, .unset, .unset, .unset, .unset, .unset, .unset, .unset, .unset, .unset]) (fun _ => rfl) ?_
  intro v1 hv1
  refine Go.bipush C (64 : Int32) at_11 (q := 13) rfl rfl ?_
  refine Go.iload C at_13 (q := 15) rfl rfl ?_
  refine Go.isub C at_15 (q := 16) rfl ?_
  refine Go.istore C at_16 (q := 18) rfl (fun z => #[.val (.long p0), .second, .val (.int p1), .val (.int p2), .val (.int v1), .val (.int z), .unset, .unset, .unset, .unset, .unset, .unset, .unset, .unset, .unset, .unset, .unset]) (fun _ => rfl) ?_
  intro v2 hv2
  refine Go.lloadN C at_18 (q := 19) rfl rfl ?_
  refine Go.iload C at_19 (q := 21) rfl rfl ?_
  refine Go.pureS C (hw _ (List.mem_of_getElem? (i := 1) rfl)) (hw _ (List.mem_of_getElem? (i := 2) rfl)) (hw _ (List.mem_of_getElem? (i := 3) rfl)) (hw _ (List.mem_of_getElem? (i := 4) rfl)) (c_f_home W.l Z a0 hw p0 v2 h0 n0) at_21 pd__40JI_41I (q := 24) rfl rfl (argsL := [(.long p0), (.int v2)]) (st := []) rfl rfl (w := 0) rfl (by decide) (by decide) (by decide) (by decide) ?_
  refine Go.istore C at_24 (q := 26) rfl (fun z => #[.val (.long p0), .second, .val (.int p1), .val (.int p2), .val (.int v1), .val (.int v2), .val (.int z), .unset, .unset, .unset, .unset, .unset, .unset, .unset, .unset, .unset, .unset]) (fun _ => rfl) ?_
  intro v3 hv3
  refine Go.lloadN C at_26 (q := 27) rfl rfl ?_
  refine Go.iconst C (3 : Int32) at_27 (q := 28) rfl rfl ?_
  refine Go.lushr C at_28 (q := 29) rfl ?_
  refine Go.ldc2J C (hw _ (List.mem_of_getElem? (i := 6) rfl)) at_29 (q := 32) rfl ?_
  refine Go.lmul C at_32 (q := 33) rfl ?_
  refine Go.lstore C at_33 (q := 35) rfl (fun z => #[.val (.long p0), .second, .val (.int p1), .val (.int p2), .val (.int v1), .val (.int v2), .val (.int v3), .val (.long z), .second, .unset, .unset, .unset, .unset, .unset, .unset, .unset, .unset]) (fun _ => rfl) ?_
  intro v4 hv4
  refine Go.lload C at_35 (q := 37) rfl rfl ?_
  refine Go.bipush C (67 : Int32) at_37 (q := 39) rfl rfl ?_
  refine Go.iload C at_39 (q := 41) rfl rfl ?_
  refine Go.isub C at_41 (q := 42) rfl ?_
  refine Go.lushr C at_42 (q := 43) rfl ?_
  refine Go.l2i C at_43 (q := 44) rfl ?_
  refine Go.istore C at_44 (q := 46) rfl (fun z => #[.val (.long p0), .second, .val (.int p1), .val (.int p2), .val (.int v1), .val (.int v2), .val (.int v3), .val (.long v4), .second, .val (.int z), .unset, .unset, .unset, .unset, .unset, .unset, .unset]) (fun _ => rfl) ?_
  intro v5 hv5
  refine Go.iload C at_46 (q := 48) rfl rfl ?_
  refine Go.bipush C (8 : Int32) at_48 (q := 50) rfl rfl ?_
  refine Go.imul C at_50 (q := 51) rfl ?_
  refine Go.lloadN C at_51 (q := 52) rfl rfl ?_
  refine Go.ldc2J C (hw _ (List.mem_of_getElem? (i := 7) rfl)) at_52 (q := 55) rfl ?_
  refine Go.land C at_55 (q := 56) rfl ?_
  refine Go.l2i C at_56 (q := 57) rfl ?_
  refine Go.iadd C at_57 (q := 58) rfl ?_
  refine Go.istore C at_58 (q := 60) rfl (fun z => #[.val (.long p0), .second, .val (.int p1), .val (.int p2), .val (.int v1), .val (.int v2), .val (.int v3), .val (.long v4), .second, .val (.int v5), .val (.int z), .unset, .unset, .unset, .unset, .unset, .unset]) (fun _ => rfl) ?_
  intro v6 hv6
  refine Go.iload C at_60 (q := 62) rfl rfl ?_
  suffices J8 : ∀ v7 : Int32, v7 = (if v3 < (0 : Int32) then (0 : Int32) else (if v3 < ((1 : Int32) <<< (v1 &&& 31)) then (1 : Int32) else (0 : Int32))) → Go W n0 QL h0 0 0 79 #[.val (.long p0), .second, .val (.int p1), .val (.int p2), .val (.int v1), .val (.int v2), .val (.int v3), .val (.long v4), .second, .val (.int v5), .val (.int v6), .unset, .unset, .unset, .unset, .unset, .unset] [(.int v7)] by
    refine Go.if0 C at_62 (z_lt _) (qt := 78) (q := 65) (by decide) (by decide) rfl (fun b9 => ?_) (fun b9 => ?_)
    ·
      refine Go.iconst C (0 : Int32) at_78 (q := 79) rfl rfl ?_
      exact J8 _ (by rw [if_pos b9])
    ·
      refine Go.iload C at_65 (q := 67) rfl rfl ?_
      refine Go.iconst C (1 : Int32) at_67 (q := 68) rfl rfl ?_
      refine Go.iload C at_68 (q := 70) rfl rfl ?_
      refine Go.ishl C at_70 (q := 71) rfl ?_
      refine Go.icmp C at_71 (n_ge _ _) (qt := 78) (q := 74) (by decide) (by decide) rfl (fun b10 => ?_) (fun b10 => ?_)
      ·
        refine Go.iconst C (0 : Int32) at_78 (q := 79) rfl rfl ?_
        exact J8 _ (by rw [if_neg b9, if_neg b10])
      ·
        have b10 := Classical.not_not.mp b10
        refine Go.iconst C (1 : Int32) at_74 (q := 75) rfl rfl ?_
        refine Go.goto C at_75 (q := 79) (by decide) (by decide) ?_
        exact J8 _ (by rw [if_neg b9, if_pos b10])
  intro v7 hv7
  refine Go.istoreR C at_79 (q := 81) rfl (l' := #[.val (.long p0), .second, .val (.int p1), .val (.int p2), .val (.int v1), .val (.int v2), .val (.int v3), .val (.long v4), .second, .val (.int v5), .val (.int v6), .val (.int v7), .unset, .unset, .unset, .unset, .unset]) rfl ?_
  refine Go.iloadN C at_81 (q := 82) rfl rfl ?_
  refine Go.bipush C (7 : Int32) at_82 (q := 84) rfl rfl ?_
  refine Go.iand C at_84 (q := 85) rfl ?_
  refine Go.istore C at_85 (q := 87) rfl (fun z => #[.val (.long p0), .second, .val (.int p1), .val (.int p2), .val (.int v1), .val (.int v2), .val (.int v3), .val (.long v4), .second, .val (.int v5), .val (.int v6), .val (.int v7), .val (.int z), .unset, .unset, .unset, .unset]) (fun _ => rfl) ?_
  intro v11 hv11
  refine Go.lloadN C at_87 (q := 88) rfl rfl ?_
  refine Go.ldc2J C (hw _ (List.mem_of_getElem? (i := 8) rfl)) at_88 (q := 91) rfl ?_
  refine Go.land C at_91 (q := 92) rfl ?_
  refine Go.iload C at_92 (q := 94) rfl rfl ?_
  refine Go.i2l C at_94 (q := 95) rfl ?_
  refine Go.lor C at_95 (q := 96) rfl ?_
  refine Go.lstore C at_96 (q := 98) rfl (fun z => #[.val (.long p0), .second, .val (.int p1), .val (.int p2), .val (.int v1), .val (.int v2), .val (.int v3), .val (.long v4), .second, .val (.int v5), .val (.int v6), .val (.int v7), .val (.int v11), .val (.long z), .second, .unset, .unset]) (fun _ => rfl) ?_
  intro v12 hv12
  refine Go.lload C at_98 (q := 100) rfl rfl ?_
  refine Go.iload C at_100 (q := 102) rfl rfl ?_
  refine Go.pureS C (hw _ (List.mem_of_getElem? (i := 1) rfl)) (hw _ (List.mem_of_getElem? (i := 2) rfl)) (hw _ (List.mem_of_getElem? (i := 3) rfl)) (hw _ (List.mem_of_getElem? (i := 4) rfl)) (c_f_home W.l Z a0 hw v12 v2 h0 n0) at_102 pd__40JI_41I (q := 105) rfl rfl (argsL := [(.long v12), (.int v2)]) (st := []) rfl rfl (w := 0) rfl (by decide) (by decide) (by decide) (by decide) ?_
  refine Go.istore C at_105 (q := 107) rfl (fun z => #[.val (.long p0), .second, .val (.int p1), .val (.int p2), .val (.int v1), .val (.int v2), .val (.int v3), .val (.long v4), .second, .val (.int v5), .val (.int v6), .val (.int v7), .val (.int v11), .val (.long v12), .second, .val (.int z), .unset]) (fun _ => rfl) ?_
  intro v13 hv13
  refine Go.iload C at_107 (q := 109) rfl rfl ?_
  refine Go.iconst C (3 : Int32) at_109 (q := 110) rfl rfl ?_
  refine Go.iushr C at_110 (q := 111) rfl ?_
  refine Go.iload C at_111 (q := 113) rfl rfl ?_
  refine Go.iconst C (3 : Int32) at_113 (q := 114) rfl rfl ?_
  refine Go.iushr C at_114 (q := 115) rfl ?_
  suffices J15 : ∀ v14 : Int32, v14 = (if ((v13.toUInt32 >>> ((3 : Int32) &&& 31).toUInt32).toInt32) = ((v3.toUInt32 >>> ((3 : Int32) &&& 31).toUInt32).toInt32) then (if (v13 &&& (7 : Int32)) = v11 then (1 : Int32) else (0 : Int32)) else (0 : Int32)) → Go W n0 QL h0 0 0 133 #[.val (.long p0), .second, .val (.int p1), .val (.int p2), .val (.int v1), .val (.int v2), .val (.int v3), .val (.long v4), .second, .val (.int v5), .val (.int v6), .val (.int v7), .val (.int v11), .val (.long v12), .second, .val (.int v13), .unset] [(.int v14)] by
    refine Go.icmp C at_115 (n_ne _ _) (qt := 132) (q := 118) (by decide) (by decide) rfl (fun b16 => ?_) (fun b16 => ?_)
    ·
      refine Go.iconst C (0 : Int32) at_132 (q := 133) rfl rfl ?_
      exact J15 _ (by rw [if_neg b16])
    ·
      have b16 := Classical.not_not.mp b16
      refine Go.iload C at_118 (q := 120) rfl rfl ?_
      refine Go.bipush C (7 : Int32) at_120 (q := 122) rfl rfl ?_
      refine Go.iand C at_122 (q := 123) rfl ?_
      refine Go.iload C at_123 (q := 125) rfl rfl ?_
      refine Go.icmp C at_125 (n_ne _ _) (qt := 132) (q := 128) (by decide) (by decide) rfl (fun b17 => ?_) (fun b17 => ?_)
      ·
        refine Go.iconst C (0 : Int32) at_132 (q := 133) rfl rfl ?_
        exact J15 _ (by rw [if_pos b16, if_neg b17])
      ·
        have b17 := Classical.not_not.mp b17
        refine Go.iconst C (1 : Int32) at_128 (q := 129) rfl rfl ?_
        refine Go.goto C at_129 (q := 133) (by decide) (by decide) ?_
        exact J15 _ (by rw [if_pos b16, if_pos b17])
  intro v14 hv14
  refine Go.istoreR C at_133 (q := 135) rfl (l' := #[.val (.long p0), .second, .val (.int p1), .val (.int p2), .val (.int v1), .val (.int v2), .val (.int v3), .val (.long v4), .second, .val (.int v5), .val (.int v6), .val (.int v7), .val (.int v11), .val (.long v12), .second, .val (.int v13), .val (.int v14)]) rfl ?_
  refine Go.iload C at_135 (q := 137) rfl rfl ?_
  refine Go.iload C at_137 (q := 139) rfl rfl ?_
  refine Go.icmp C at_139 (n_ne _ _) (qt := 156) (q := 142) (by decide) (by decide) rfl (fun b18 => ?_) (fun b18 => ?_)
  ·
    refine Go.iconst C (0 : Int32) at_156 (q := 157) rfl rfl ?_
    exact (fin0 p0 p1 p2 v1 hv1 v2 hv2 v3 hv3 v4 hv4 v5 hv5 v6 hv6 v7 hv7 v11 hv11 v12 hv12 v13 hv13 v14 hv14  b18).elim
  ·
    have b18 := Classical.not_not.mp b18
    refine Go.iload C at_142 (q := 144) rfl rfl ?_
    refine Go.if0 C at_144 (z_eq _) (qt := 156) (q := 147) (by decide) (by decide) rfl (fun b19 => ?_) (fun b19 => ?_)
    ·
      refine Go.iconst C (0 : Int32) at_156 (q := 157) rfl rfl ?_
      exact (fin1 p0 p1 p2 v1 hv1 v2 hv2 v3 hv3 v4 hv4 v5 hv5 v6 hv6 v7 hv7 v11 hv11 v12 hv12 v13 hv13 v14 hv14  b18  b19).elim
    ·
      refine Go.iload C at_147 (q := 149) rfl rfl ?_
      refine Go.if0 C at_149 (z_eq _) (qt := 156) (q := 152) (by decide) (by decide) rfl (fun b20 => ?_) (fun b20 => ?_)
      ·
        refine Go.iconst C (0 : Int32) at_156 (q := 157) rfl rfl ?_
        exact (fin2 p0 p1 p2 v1 hv1 v2 hv2 v3 hv3 v4 hv4 v5 hv5 v6 hv6 v7 hv7 v11 hv11 v12 hv12 v13 hv13 v14 hv14  b18  b19  b20).elim
      ·
        refine Go.iconst C (1 : Int32) at_152 (q := 153) rfl rfl ?_
        refine Go.goto C at_153 (q := 157) (by decide) (by decide) ?_
        exact Go.retZ (t := .boolean) (by simp) C at_157 (by decide) (by decide) (show some (Value.int _) = some (.int 1) from rfl)
set_option maxRecDepth 65536 in
set_option maxHeartbeats 4000000 in
theorem comes_1 {Post : Tables → Env → Array Value → State → Outcome → State → Prop} (hpost : ∀ tb e args s v u, (limb_1_1.after args s (.returned v) u = true ∧ limb_1_2.after args s (.returned v) u = true ∧ True) → FrameEnd s (.returned v) u (Jvm.fieldLocs frame_1_writes args s ++ Jvm.arrayLocs frame_1_arrays args s ++ Jvm.staticLocs frame_1_statics s) 0 0 → Post tb e args s (.returned v) u) :
    ArmFor flags0 classFile x code maxLocals ret World_1 tables_1 room_1 Calls_1 rest_1 Pre_1 Post := by
  intro l hfl _ _ p e ha hc hk s m args below hf hA hF happ hP
  obtain ⟨hcalls, hrest, hpre⟩ := hP
  obtain ⟨-, -, -, hnamed, -, -, -, hat⟩ := (Spec.applies_iff hf).mp happ
  obtain ⟨hg, hn⟩ := and_e (Cond.before_iff.mp (show (Jvm.Cond.and given_1 narrow_1).before args s = true from hpre))
  obtain ⟨hcount, hg0⟩ := and_e hg
  obtain ⟨ha0, hg1⟩ := and_e hg0
  obtain ⟨ha1, hg2⟩ := and_e hg1
  have ha2 := hg2
  obtain ⟨w0, w1, w2, rfl⟩ : ∃ w0 w1 w2 : Value, args = #[w0, w1, w2] := by
    have hs : args.size = 3 := by simpa [Cond.value, given_1] using hcount
    obtain ⟨L⟩ := args
    match L, hs with
    | [w0, w1, w2], _ => exact ⟨w0, w1, w2, rfl⟩
  have hw := fun d (hd : d ∈ tables_1) => atoms_spec (ws := Jvm.Cond.code x code maxLocals ret :: tables_1) hat d (List.mem_cons_of_mem _ hd)
  obtain ⟨i0, ei0⟩ := isL_v ha0
  obtain rfl : w0 = (.long i0) := Option.some.inj ei0
  obtain ⟨i1, ei1⟩ := is_v ha1
  obtain rfl : w1 = (.int i1) := Option.some.inj ei1
  obtain ⟨i2, ei2⟩ := is_v ha2
  obtain rfl : w2 = (.int i2) := Option.some.inj ei2
  obtain ⟨n, o, h1, h2, h3, _, L, rfl, ⟨N, rfl⟩, hq⟩ := rm0 l s _ hw i0 i1 i2 s.heap s.heap.size (Nat.le_refl _)  p e ha hc hk s m _ below hf ((Spec.applies_iff_loose hf).mp happ).1 ⟨rfl, State.Warmed39.refl s, rfl⟩ trivial
  refine ⟨n, _, h1, h2, h3, hpost _ _ _ _ _ _ ⟨Cond.after_iff.mpr rfl, Cond.after_iff.mpr (eq_i res_at (Term.int_eval (1)) rfl), trivial⟩ ⟨hq.1, hq.2.1, (hq.2.2.sift fun y hy => Or.inr (N y hy)).mono (by decide) (by decide)⟩⟩
theorem main_1_1 : Claimed_1_1 := comes_1 fun _ _ _ _ _ _ h hF => ⟨h.1, hF⟩
theorem main_1_2 : Claimed_1_2 := comes_1 fun _ _ _ _ _ _ h hF => ⟨h.2.1, hF⟩
end Jvm.Pilot.@@N@@
namespace Jvm.Pilot.@@N@@
open Jvm Jvm.ClassFile Sem Op Lib Jvm.Free Jvm.Stand Jvm.Pilot.@@N@@.Jvm.D
/-! MADE BY PROGRAM (witnessworld.py) out of the Statement's table words and the real class files: 9 classes; the members and pool entries that the words name. The judged class is class 1, her method 1. -/
namespace start1
open Jvm.ClassFile
def u (s : String) : CpInfo := .utf8 (stringToUtf16 s)
/-- a pool by its gaps: so many unusable entries, then the entry; so many at the end -/
def gap : Nat → List CpInfo → List CpInfo
  | 0, r => r
  | n + 1, r => .unusable :: gap n r
def poolList (es : List (Nat × CpInfo)) (last : Nat) : List CpInfo := es.foldr (fun e r => gap e.1 (e.2 :: r)) (gap last [])
def pool (es : List (Nat × CpInfo)) (last : Nat) : Array CpInfo := ⟨poolList es last⟩
def fileOf (pool : Array CpInfo) (this : Nat) (attrs : Array Attribute := #[]) (ms : Array MethodInfo := #[]) (fl : Nat := 33) (sup : Nat := 0) (ifs : Array Nat := #[]) (fds : Array FieldInfo := #[]) : ClassFile where
  minorVersion := 0
  majorVersion := 65
  constantPool := pool
  accessFlags := fl
  thisClass := this
  superClass := sup
  interfaces := ifs
  fields := fds
  methods := ms
  attributes := attrs
def plain (name : String) (sup : Option ClassId) : Class where
  name := name
  kind := .ordinary
  loader := none
  accessFlags := 33
  super := sup
  interfaces := #[]
  cf := none
  fields := #[]
  methods := #[]
  instanceTypes := #[]
  staticTypes := #[]
  resolved := #[]
  callSites := []
  init := .initialized
  statics := none
  mirror := none

def pool0 : Array CpInfo := pool [(5, u "<init>"), (0, u "()V"), (1, .class_ 10), (1, u "java/lang/Object")] 113

def k0m0 : Method := { name := "<init>", desc := "()V", sig := { parameters := [], returnType := none }, accessFlags := 1, code := none }
/-- java/lang/Object -/
def k0 : Class := { plain "java/lang/Object" none with
  accessFlags := 33
  interfaces := #[]
  cf := some (fileOf pool0 8 #[] #[{ accessFlags := 1, nameIndex := 5, descriptorIndex := 6, attributes := #[] }] 33 0 #[] #[])
  fields := #[]
  methods := #[k0m0]
  instanceTypes := #[]
  staticTypes := #[]
  resolved := Array.replicate 124 none
  statics := none }

def pool1 : Array CpInfo := pool [(2, .class_ 4), (1, u "java/lang/Object"), (0, u "<init>"), (0, u "()V"), (0, .integer 2147483647), (0, .methodref 9 10), (0, .class_ 11), (0, .nameAndType 12 13), (0, u "com/example/damaneh/damaneh/engine/OrdersById"), (0, u "home"), (0, u "(JI)I"), (0, .long 11400714819323198485), (1, .long 7), (1, .long 18446744073709551608), (1, .class_ 21), (0, u "com/example/damaneh/damaneh/engine/OrdersByIdHomePinLaw"), (2, u "law"), (0, u "(JII)Z")] 3

def k1m0 : Method := { name := "<init>", desc := "()V", sig := { parameters := [], returnType := none }, accessFlags := 1, code := none }
def k1c1 : Code := { maxStack := 5, maxLocals := 17, code := code, exceptionTable := #[], attributes := #[] }
def k1m1 : Method := { name := "law", desc := "(JII)Z", sig := { parameters := [.long, .int, .int], returnType := some .boolean }, accessFlags := 9, code := some k1c1 }
/-- com/example/damaneh/damaneh/engine/OrdersByIdHomePinLaw -/
def k1 : Class := { plain "com/example/damaneh/damaneh/engine/OrdersByIdHomePinLaw" (some 0) with
  accessFlags := 49
  interfaces := #[]
  cf := some (fileOf pool1 20 #[] #[{ accessFlags := 1, nameIndex := 5, descriptorIndex := 6, attributes := #[] }, { accessFlags := 9, nameIndex := 24, descriptorIndex := 25, attributes := #[] }] 49 2 #[] #[])
  fields := #[]
  methods := #[k1m0, k1m1]
  instanceTypes := #[]
  staticTypes := #[]
  resolved := Array.replicate 29 none
  statics := none }

def pool2 : Array CpInfo := pool [(2, .class_ 4), (1, u "java/lang/Object"), (0, u "<init>"), (0, u "()V"), (0, .class_ 8), (0, u "com/example/damaneh/damaneh/engine/OrdersById"), (4, .long 11400714819323198485), (3, u "ids"), (0, u "[J"), (2, u "shift"), (0, u "I"), (2, u "home"), (0, u "(JI)I"), (2, u "orders"), (0, u "[Lcom/example/damaneh/damaneh/engine/Order;"), (2, u "size"), (9, u "J"), (9, u "GOLDEN"), (1, u "BLOCK_BITS"), (1, u "FIRST_SLOTS")] 14

def k2m0 : Method := { name := "<init>", desc := "()V", sig := { parameters := [], returnType := none }, accessFlags := 0, code := none }
def k2c1 : Code := { maxStack := 4, maxLocals := 4, code := prog_23_method_2_code, exceptionTable := #[], attributes := #[] }
def k2m1 : Method := { name := "home", desc := "(JI)I", sig := { parameters := [.long, .int], returnType := some .int }, accessFlags := 8, code := some k2c1 }
/-- com/example/damaneh/damaneh/engine/OrdersById -/
def k2 : Class := { plain "com/example/damaneh/damaneh/engine/OrdersById" (some 0) with
  accessFlags := 48
  interfaces := #[]
  cf := some (fileOf pool2 7 #[] #[{ accessFlags := 0, nameIndex := 5, descriptorIndex := 6, attributes := #[] }, { accessFlags := 8, nameIndex := 25, descriptorIndex := 26, attributes := #[] }] 48 2 #[] #[{ accessFlags := 26, nameIndex := 53, descriptorIndex := 43, attributes := #[] }, { accessFlags := 26, nameIndex := 55, descriptorIndex := 22, attributes := #[] }, { accessFlags := 26, nameIndex := 57, descriptorIndex := 22, attributes := #[] }, { accessFlags := 2, nameIndex := 17, descriptorIndex := 18, attributes := #[] }, { accessFlags := 2, nameIndex := 29, descriptorIndex := 30, attributes := #[] }, { accessFlags := 2, nameIndex := 21, descriptorIndex := 22, attributes := #[] }, { accessFlags := 2, nameIndex := 33, descriptorIndex := 22, attributes := #[] }])
  fields := #[{ name := "GOLDEN", type := .long, accessFlags := 26, slot := 0, constantValue := 0 }, { name := "BLOCK_BITS", type := .int, accessFlags := 26, slot := 1, constantValue := 0 }, { name := "FIRST_SLOTS", type := .int, accessFlags := 26, slot := 2, constantValue := 0 }, { name := "ids", type := (.array .long), accessFlags := 2, slot := 0, constantValue := 0 }, { name := "orders", type := (.array (.object "com/example/damaneh/damaneh/engine/Order")), accessFlags := 2, slot := 1, constantValue := 0 }, { name := "shift", type := .int, accessFlags := 2, slot := 2, constantValue := 0 }, { name := "size", type := .int, accessFlags := 2, slot := 3, constantValue := 0 }]
  methods := #[k2m0, k2m1]
  instanceTypes := #[(.array .long), (.array (.object "com/example/damaneh/damaneh/engine/Order")), .int, .int]
  staticTypes := #[.long, .int, .int]
  resolved := Array.replicate 72 none
  statics := none }

def pool3 : Array CpInfo := pool [(1, u "java/lang/Cloneable"), (0, .class_ 1), (0, u "java/lang/Object"), (0, .class_ 3)] 3

/-- java/lang/Cloneable -/
def k3 : Class := { plain "java/lang/Cloneable" (some 0) with
  accessFlags := 1537
  interfaces := #[]
  cf := some (fileOf pool3 2 #[] #[] 1537 4 #[] #[])
  fields := #[]
  methods := #[]
  instanceTypes := #[]
  staticTypes := #[]
  resolved := Array.replicate 8 none
  statics := none }

def pool4 : Array CpInfo := pool [(1, u "java/io/Serializable"), (0, .class_ 1), (0, u "java/lang/Object"), (0, .class_ 3)] 3

/-- java/io/Serializable -/
def k4 : Class := { plain "java/io/Serializable" (some 0) with
  accessFlags := 1537
  interfaces := #[]
  cf := some (fileOf pool4 2 #[] #[] 1537 4 #[] #[])
  fields := #[]
  methods := #[]
  instanceTypes := #[]
  staticTypes := #[]
  resolved := Array.replicate 8 none
  statics := none }

/-- the primitive byte -/
def k5 : Class := { plain "byte" none with kind := .primitive 'B', accessFlags := 0x411 }
/-- [B -/
def k6 : Class := { plain "[B" (some 0) with kind := .array 5 .byte, interfaces := #[3, 4], accessFlags := 1041 }

/-- the primitive int -/
def k7 : Class := { plain "int" none with kind := .primitive 'I', accessFlags := 0x411 }
/-- [I -/
def k8 : Class := { plain "[I" (some 0) with kind := .array 7 .int, interfaces := #[3, 4], accessFlags := 1041 }

def heap : Heap := #[]
def classes : Array Class := #[k0, k1, k2, k3, k4, k5, k6, k7, k8]
def interned : List (Array UInt16 × Addr) := []
def slotsUsed : Nat := 0
def theMethod : MethodId := ⟨1, 1⟩
def args0 : Array Value := #[.long 1, .int 2, .int 3]
def aboutOver (below : List Frame) : State where
  vm := { classes := classes, interned := interned.toArray }
  heap := heap
  slotsUsed := slotsUsed
  threads := #[{ frames := .invoking theMethod args0 :: below }]
def below0 : List Frame := [.native { method := ⟨0, 0⟩, args := #[] }]
def about1 : State := aboutOver below0
def p0 : Program := .bare "" "" ""
def e0 : Env := launch0.env 0 0 0
theorem w_frames : about1.frames = Frame.invoking theMethod args0 :: below0 := rfl
set_option maxRecDepth 65536 in
theorem w_args : argsFit about1.vm theMethod args0 = true := by decide +kernel
set_option maxRecDepth 65536 in
theorem w_heap : heapFits about1 = true := by decide +kernel
set_option maxRecDepth 65536 in
theorem w_runnable : about1.curStatus? = some .runnable := by decide +kernel
set_option maxRecDepth 65536 in
theorem w_alone : about1.alone = true := by decide +kernel
set_option maxRecDepth 65536 in
theorem w_named : about1.methodNamed? x = some theMethod := by decide +kernel
set_option maxRecDepth 65536 in
theorem w_hears : about1.hears theMethod below0 = true := by decide +kernel
set_option maxRecDepth 65536 in
theorem w_ripe : about1.ripe theMethod args0 below0 = true := by decide +kernel
theorem w_running : about1.status = .running := rfl
set_option maxRecDepth 65536 in
theorem w_room : about1.hasRoom e0.platform room_1 = true :=
  launch0.hasRoom_least _ room_1 (by decide +kernel) (by decide +kernel) (by decide +kernel) (by decide +kernel) (by decide +kernel) (by decide +kernel)
theorem allAtoms_all (ts : List Jvm.Cond) (a : Array Jvm.Value) (st : Jvm.State) : (allAtoms ts).before a st = ts.all (fun c => c.before a st) := by
  induction ts with
  | nil => rfl
  | cons c t ih =>
    show (Jvm.Cond.and c (allAtoms t)).before a st = _
    rw [Jvm.Cond.before_and, ih, List.all_cons]
def words1 : List Jvm.Cond := Jvm.Cond.code x code maxLocals ret :: tables_1
/-- a 'code' word, met by the world's own term for the bytes: nothing is compared byte by byte -/
theorem code_word {y : MethodName} {bytes : ByteArray} {mx : Nat} {rt : Option FieldType} {a : Array Value} {s : State} {m : MethodId} {meth : Method} {c : Code} (h1 : s.methodNamed? y = some m) (h2 : s.vm.method? m = some meth) (h3 : meth.code = some c) (h4 : c.code = bytes)
    (h5 : (c.maxLocals == mx && c.exceptionTable.isEmpty && decide (c.maxStack ≤ mostOperands) && decide (meth.sig.returnType = rt) && !meth.locks && decide (parseMethodDescriptor y.desc = some meth.sig)) = true) : (Jvm.Cond.code y bytes mx rt).before a s = true := by
  simp only [Bool.and_eq_true, beq_iff_eq, Bool.not_eq_true', decide_eq_true_eq] at h5
  obtain ⟨⟨⟨⟨⟨g1, g2⟩, g3⟩, g4⟩, g5⟩, g6⟩ := h5
  simp [Cond.before, Cond.holds, Cond.value, h1, h2, h3, h4, g1, g2, g3, g4, g5, g6]
def isCode : Jvm.Cond → Bool
  | .code _ _ _ _ => true
  | _ => false
theorem all_split {L : List Jvm.Cond} {P : Jvm.Cond → Bool} (h1 : L.all (fun c => isCode c || P c) = true) (h2 : ∀ c ∈ L.filter isCode, P c = true) : L.all P = true := by
  refine List.all_eq_true.mpr fun c hc => ?_
  have h := List.all_eq_true.mp h1 c hc
  rcases Bool.eq_false_or_eq_true (isCode c) with hi | hi
  · exact h2 c (List.mem_filter.mpr ⟨hc, hi⟩)
  · simpa [hi] using h
set_option maxRecDepth 65536 in
theorem w_c0 : (Jvm.Cond.code x code maxLocals ret).before args0 about1 = true := code_word (m := ⟨1, 1⟩) (meth := k1m1) (c := k1c1) (by decide +kernel) rfl rfl rfl (by decide +kernel)
set_option maxRecDepth 65536 in
theorem w_c1 : (Jvm.Cond.code ({ cls := "com/example/damaneh/damaneh/engine/OrdersById", name := "home", desc := "(JI)I" } : Jvm.MethodName) prog_23_method_2_code (4 : Nat) (Option.some Jvm.ClassFile.FieldType.int)).before args0 about1 = true := code_word (m := ⟨2, 1⟩) (meth := k2m1) (c := k2c1) (by decide +kernel) rfl rfl rfl (by decide +kernel)
def codes1 : List Jvm.Cond := [Jvm.Cond.code x code maxLocals ret, Jvm.Cond.code ({ cls := "com/example/damaneh/damaneh/engine/OrdersById", name := "home", desc := "(JI)I" } : Jvm.MethodName) prog_23_method_2_code (4 : Nat) (Option.some Jvm.ClassFile.FieldType.int)]
set_option maxRecDepth 65536 in
theorem codes_eq : words1.filter isCode = codes1 := rfl
theorem w_codes : ∀ c ∈ words1.filter isCode, c.before args0 about1 = true := by
  rw [codes_eq]
  intro c hc
  simp only [codes1, List.mem_cons, List.not_mem_nil, or_false] at hc
  rcases hc with rfl | rfl
  · exact w_c0
  · exact w_c1
set_option maxRecDepth 65536 in
theorem w_t1 : words1.all (fun c => isCode c || c.before args0 about1) = true := by decide +kernel
theorem w_tables : (allAtoms (Jvm.Cond.code x code maxLocals ret :: tables_1)).before args0 about1 = true := by
  rw [allAtoms_all]
  show words1.all (fun c => c.before args0 about1) = true
  refine all_split ?_ w_codes
  rw [w_t1]
set_option maxRecDepth 65536 in
theorem w_case : (Jvm.Cond.and given_1 narrow_1).before args0 about1 = true := by decide +kernel
theorem w_applies : (headSpec (Jvm.Cond.code x code maxLocals ret :: tables_1) room_1).applies x e0.platform about1 = true :=
  (Spec.applies_iff w_frames).mpr ⟨w_running, w_runnable, w_alone, w_named, w_hears, w_ripe, w_room, w_tables⟩
theorem atStart : AtStart classFile x code maxLocals ret World_1 tables_1 room_1 Calls_1 rest_1 Pre_1 launch0 p0 e0 about1 theMethod args0 below0 :=
  ⟨lists_1, trivial, launch0.admits_env _ _ _, launch0.least_env, fairChoices_fair.cas, fairChoices_fair.clock, w_frames, w_args, w_heap, w_applies, trivial, trivial, w_case⟩
end start1
theorem witness_1 : WitnessClaimed_1 := ⟨start1.p0, start1.e0, start1.about1, start1.theMethod, start1.args0, start1.below0, start1.atStart⟩
end Jvm.Pilot.@@N@@
