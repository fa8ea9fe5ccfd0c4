import JvmDerived
import JvmDerived.Pilot.@@N@@Statement
import JvmDerived.Pilot.@@N@@Code
set_option linter.unusedVariables false
set_option linter.unusedSimpArgs false
namespace Jvm.OwnW
open Sem ClassFile Op Lib Jvm.Free Jvm.Stand Jvm.LawKit Jvm.RoadKit
/-- what stays the same all through one invocation -/
abbrev Ctx : Type := Program × Env × State × MethodId × Array Value × List Frame × Method × Code
abbrev Ctx.p (C : Ctx) : Program := C.1
abbrev Ctx.e (C : Ctx) : Env := C.2.1
abbrev Ctx.s (C : Ctx) : State := C.2.2.1
abbrev Ctx.m (C : Ctx) : MethodId := C.2.2.2.1
abbrev Ctx.args (C : Ctx) : Array Value := C.2.2.2.2.1
abbrev Ctx.below (C : Ctx) : List Frame := C.2.2.2.2.2.1
abbrev Ctx.meth (C : Ctx) : Method := C.2.2.2.2.2.2.1
abbrev Ctx.c (C : Ctx) : Code := C.2.2.2.2.2.2.2
/-- each place of the list lies in a cell of ws, or in one made since -/
def Wok (b : Nat) (ws : List Addr) (L : List Loc) : Prop := ∀ y ∈ L, y.base ∈ ws ∨ b ≤ y.base
theorem Wok.nil (b : Nat) (ws : List Addr) : Wok b ws [] := fun _ q => nomatch q
theorem Wok.app {b : Nat} {ws : List Addr} {L L' : List Loc} (N : Wok b ws L) (N' : Wok b ws L') : Wok b ws (L ++ L') := fun y q => (List.mem_append.mp q).elim (N y) (N' y)
theorem Wok.snoc {b : Nat} {ws : List Addr} {L : List Loc} {a : Addr} {sl : Nat} (N : Wok b ws L) (q : a ∈ ws ∨ b ≤ a) : Wok b ws (L ++ [⟨a, sl⟩]) := N.app fun y hy => by cases List.mem_singleton.mp hy; exact q
theorem keep_of_same {s t : State} {L : List Loc} {ws : List Addr} {k n : Nat} (h : s.sameButNew t L k n) (N : Wok s.heap.size ws L) : Keep s.heap t.heap ws := by
  obtain ⟨-, h2, -, -, -, h6⟩ := h
  refine ⟨h2, fun x c hx hn => ?_, fun x c hx => ?_⟩
  · obtain ⟨c', q1, q2, q3, q4⟩ := h6 x c hx
    have hlt := (Array.getElem?_eq_some_iff.mp hx).1
    have : c'.slots = c.slots := Array.ext_getElem? fun i => q4 i fun hm => (N _ hm).elim hn fun z => absurd hlt (Nat.not_lt.mpr z)
    rw [q1, q2, this]
  · obtain ⟨c', q1, q2, q3, q4⟩ := h6 x c hx
    exact ⟨c', q1, by rw [q2], by rw [q2], q3⟩
theorem eq_of_same {s t : State} {L : List Loc} {n : Nat} (h : s.sameButNew t L 0 n) (N : Wok s.heap.size [] L) : t.heap = s.heap := by
  have K := keep_of_same h N
  obtain ⟨-, h2, h3, -⟩ := h
  refine Array.ext_getElem? fun i => ?_
  cases hi : s.heap[i]? with
  | some c => exact K.2.1 i c hi (fun q => nomatch q)
  | none =>
    rw [Array.getElem?_eq_none_iff] at hi ⊢
    omega
/-- where the run stands: the invocation's state T with heap h; of what is older than the invocation only ws has been written -/
def On (l : Launch) (Z : State) (ws : List Addr) (R : Room) (own nm : String) (bytes : ByteArray) (maxL : Nat) (ret : Option FieldType) (C : Ctx) (T : State) (h : Heap) (cells slots : Nat) : Prop :=
  ∃ vm0 : Vm, (∃ k0, C.s.Since vm0 k0 ∧ k0 ≤ h.size) ∧
  (C.p.tables.exec = Jvm.exec ∧ Z.Warmed39 (C.s.setVm vm0).vm ∧ C.c.code = bytes ∧ C.c.maxLocals = maxL ∧ (C.s.setVm vm0).vm.findClass own = some C.m.cls ∧ C.meth.name = nm ∧ C.meth.sig.returnType = ret ∧ C.meth.locks = false) ∧
  (∃ locs, Stand C.p l C.e R (C.s.setVm vm0) C.m C.args C.below C.meth C.c T locs cells slots ∧ Wok C.s.heap.size ws locs) ∧ T.heap = h
theorem grow {s : State} {vm0 : Vm} {n n' : Nat} (SS : ∃ k0, s.Since vm0 k0 ∧ k0 ≤ n) (g : n ≤ n') : ∃ k0, s.Since vm0 k0 ∧ k0 ≤ n' := SS.imp fun _ q => ⟨q.1, Nat.le_trans q.2 g⟩
theorem wr_le {h h' : Heap} {a : Addr} {i : Nat} {v : Value} (W : Wr h h' a i v) : h.size ≤ h'.size := by obtain ⟨_, -, -, -, rfl⟩ := W; simp
def Post (ws : List Addr) (rc : Nat) (h0 : Heap) (Q : Option Value → Heap → Prop) (v : Option Value) (h : Heap) (L : List Loc) : Prop := Wok h0.size ws L ∧ Keep h0 h ws ∧ (rc = 0 → ws = [] → h = h0) ∧ Q v h
/-- from the state A the invocation comes to its end, with Q of what it returns and of the heap it leaves -/
def Go (C : Ctx) (ws : List Addr) (Q : Option Value → Heap → Prop) (k n : Nat) (A : State) : Prop :=
  ∃ U o, Steps C.p.tables C.e C.below A U ∧ U.status = .running ∧ Ended U C.below o ∧ ∃ v L, o = .returned v ∧ Post ws k C.s.heap Q v U.heap L ∧ ReturnedEndW C.s o U L k n
def Met (l : Launch) (Z : State) (y : MethodName) (bytes : ByteArray) (maxL : Nat) (ret : Option FieldType) (wds : List Cond) (rm : Room) (as' : Array Value) (ws : List Addr) (h0 : Heap) (Q : Option Value → Heap → Prop) : Prop :=
  MetFree l y (head1 (Cond.code y bytes maxL ret :: wds) rm) (fun a U => a = as' ∧ Z.Warmed39 U.vm ∧ U.heap = h0) (fun _ _ _ _ _ => True) (fun _ U o U' => ∃ v L, o = .returned v ∧ Post ws rm.cells h0 Q v U'.heap L ∧ ReturnedEndW U o U' L rm.cells rm.slots)
theorem Met.mk {l : Launch} {Z : State} {y : MethodName} {bytes : ByteArray} {maxL : Nat} {ret : Option FieldType} {wds : List Cond} {rm : Room} {as' : Array Value} {ws : List Addr} {h0 : Heap} {Q : Option Value → Heap → Prop} {Ls : Array Slot}
    (hp : plainFor y = true) (ef : ∀ m, entryFrame m as' maxL = mkF m 0 Ls [])
    (H : ∀ (C : Ctx) (T : State), C.s.heap = h0 → On l Z ws rm y.cls y.name bytes maxL ret C T h0 0 0 → Go C ws Q rm.cells rm.slots (T.setTop (mkF C.m 0 Ls []))) : Met l Z y bytes maxL ret wds rm as' ws h0 Q := by
  refine MetFree.of_bodySF hp hisR ?_
  intro p e s m args below meth c s₁ Bd hml0 hP hK
  obtain ⟨rfl, hZ, hh⟩ := hP
  have e0 : s₁.heap = h0 := by rw [← hh, Bd.state]; rfl
  have := H (p, e, s, m, args, below, meth, c) s₁ hh ⟨s.vm, ⟨h0.size, (State.WarmedH.refl s).since _, Nat.le_refl _⟩, ⟨Bd.exec, hZ, Bd.bytes, hml0, findClass_of_methodNamed Bd.named, (name_of_methodNamed Bd.named Bd.method).1, Bd.returns, Bd.notSynchronized⟩, ⟨[], Stand.of_body Bd, Wok.nil _ _⟩, e0⟩
  obtain ⟨U, o, h1, h2, h3, v, L, h4, h5, h6⟩ := this
  refine ⟨U, o, castTop (ef m) h1, h2, h3, v, L, h4, ?_, h6⟩
  rw [← hh]; exact h5
theorem Go.of {C : Ctx} {ws : List Addr} {Q : Option Value → Heap → Prop} {k n : Nat} {A B : State} (g : Go C ws Q k n B) (h : ∀ t, Steps C.p.tables C.e C.below B t → Steps C.p.tables C.e C.below A t) : Go C ws Q k n A := by
  obtain ⟨U, o, h1, r⟩ := g; exact ⟨U, o, h _ h1, r⟩
theorem Go.via {C : Ctx} {ws : List Addr} {Q : Option Value → Heap → Prop} {k n : Nat} {A B : State} (g : Go C ws Q k n B) (h : Steps C.p.tables C.e C.below A B) : Go C ws Q k n A := by
  obtain ⟨U, o, h1, r⟩ := g; exact ⟨U, o, h.trans h1, r⟩
section Steps
variable {l : Launch} {Z : State} {a0 : Array Value} {ws : List Addr} {R : Room} {own nm : String} {bytes : ByteArray} {maxL : Nat} {ret : Option FieldType} {C : Ctx} {T : State} {h : Heap} {cells slots k n : Nat} {Q : Option Value → Heap → Prop} {pc q : Nat} {Ls L' : Array Slot} {st : List Value}
theorem On.size (O : On l Z ws R own nm bytes maxL ret C T h cells slots) : C.s.heap.size ≤ h.size := by
  obtain ⟨vm0, -, -, ⟨_, X, -⟩, rfl⟩ := O; exact X.same.2.1
theorem On.kept (O : On l Z ws R own nm bytes maxL ret C T h cells slots) : Keep C.s.heap h ws := by
  obtain ⟨vm0, -, -, ⟨_, X, N⟩, rfl⟩ := O; exact keep_of_same (s := C.s.setVm vm0) (t := T.setVm vm0) X.same N
theorem fin (O : On l Z ws R own nm bytes maxL ret C T h cells slots) {v : Option Value} (hv : ret = none → v = none) (hk : cells ≤ k) (hn : slots ≤ n) (hQ : Q v h)
    (stp : ∀ X : State, ∀ fs, (∀ (f : JFrame) (acts : List Action), f.method = C.m → f.locked = none → f.entered = [] → (doReturn C.e (T.setTop f) acts v).1 = T.setFrames fs) → X = T.setFrames fs → Steps C.p.tables C.e C.below (T.setTop (mkF C.m pc Ls st)) X) : Go C ws Q k n (T.setTop (mkF C.m pc Ls st)) := by
  obtain ⟨vm0, SS, ⟨hx, hZ, -, -, -, -, hret, hlk⟩, ⟨L, X, N⟩, eT⟩ := O
  obtain ⟨fs, hr, hrun, hended, hW, hsame⟩ := X.leave (v := v) (fun q => hv (hret ▸ q)) hlk
  refine ⟨_, _, stp _ fs hr rfl, hrun, hended, v, L, rfl, ⟨N, ?_, ?_, ?_⟩, ⟨_, rfl⟩, ?_⟩
  · exact keep_of_same (s := C.s.setVm vm0) (t := T.setVm vm0) X.same N
  · rintro rfl rfl
    exact eq_of_same (s := C.s.setVm vm0) (t := T.setVm vm0) (X.same.mono hk (Nat.le_refl _)) N
  · show Q v T.heap; rw [eT]; exact hQ
  · obtain ⟨k0, S, hk0⟩ := SS
    obtain ⟨z1, z2, z3⟩ := S.ended hW (by show k0 ≤ T.heap.size; rw [eT]; exact hk0) hsame
    exact ⟨z1, z2, z3.mono hk hn⟩
theorem ret0 (O : On l Z ws R own nm bytes maxL none C T h cells slots) (hd : decode bytes pc = .ok (.return_, 1)) (hk : cells ≤ k) (hn : slots ≤ n) (hQ : Q none h) : Go C ws Q k n (T.setTop (mkF C.m pc Ls [])) := by
  refine fin O (fun _ => rfl) hk hn hQ ?_
  obtain ⟨vm0, SS, ⟨hx, hZ, rfl, -, -, -, hret, hlk⟩, ⟨L, X, N⟩, eT⟩ := O
  rintro _ fs hr rfl
  exact X.returnOut hx hret hd hr
theorem retV {t : FieldType} {w w' : Value} {i : Instr} {rest : List Value} (O : On l Z ws R own nm bytes maxL (some t) C T h cells slots) (hd : decode bytes pc = .ok (i, 1)) (hw : w' = w) (hnw : narrow t w = w)
    (hi : (i = .ireturn ∧ (t = .int ∨ t = .boolean ∨ t = .byte ∨ t = .char ∨ t = .short) ∧ ∃ z, w = .int z) ∨ (i = .lreturn ∧ t = .long ∧ ∃ z, w = .long z) ∨ (i = .dreturn ∧ t = .double ∧ ∃ z, w = .double z) ∨ (i = .freturn ∧ t = .float ∧ ∃ z, w = .float z) ∨ (i = .areturn ∧ t.isReference = true ∧ w.isRef = true))
    (hk : cells ≤ k) (hn : slots ≤ n) (hQ : Q (some w) h) : Go C ws Q k n (T.setTop (mkF C.m pc Ls (w' :: rest))) := by
  subst hw
  refine fin O (fun q => nomatch q) hk hn hQ ?_
  obtain ⟨vm0, SS, ⟨hx, hZ, rfl, -, -, -, hret, hlk⟩, ⟨L, X, N⟩, eT⟩ := O
  rintro _ fs hr rfl
  exact retOut X hx hret hnw hi hd hr
theorem retI {z z' : Int32} {rest : List Value} (O : On l Z ws R own nm bytes maxL (some .int) C T h cells slots) (hd : decode bytes pc = .ok (.ireturn, 1)) (hz : z = z') (hk : cells ≤ k) (hn : slots ≤ n) (hQ : Q (some (.int z')) h) : Go C ws Q k n (T.setTop (mkF C.m pc Ls (.int z :: rest))) :=
  retV O hd (congrArg Value.int hz) rfl (Or.inl ⟨rfl, Or.inl rfl, _, rfl⟩) hk hn hQ
theorem retB {z z' : Int32} {rest : List Value} (O : On l Z ws R own nm bytes maxL (some .boolean) C T h cells slots) (hd : decode bytes pc = .ok (.ireturn, 1)) (hz : z = z') (h01 : z' = 0 ∨ z' = 1) (hk : cells ≤ k) (hn : slots ≤ n) (hQ : Q (some (.int z')) h) : Go C ws Q k n (T.setTop (mkF C.m pc Ls (.int z :: rest))) :=
  retV O hd (congrArg Value.int hz) (by rcases h01 with rfl | rfl <;> rfl) (Or.inl ⟨rfl, Or.inr (Or.inl rfl), _, rfl⟩) hk hn hQ
theorem retY {z z' : Int32} {rest : List Value} (O : On l Z ws R own nm bytes maxL (some .byte) C T h cells slots) (hd : decode bytes pc = .ok (.ireturn, 1)) (hz : z = z') (hb : z'.toInt8.toInt32 = z') (hk : cells ≤ k) (hn : slots ≤ n) (hQ : Q (some (.int z')) h) : Go C ws Q k n (T.setTop (mkF C.m pc Ls (.int z :: rest))) :=
  retV O hd (congrArg Value.int hz) (congrArg Value.int hb) (Or.inl ⟨rfl, Or.inr (Or.inr (Or.inl rfl)), _, rfl⟩) hk hn hQ
theorem retL {z z' : Int64} {rest : List Value} (O : On l Z ws R own nm bytes maxL (some .long) C T h cells slots) (hd : decode bytes pc = .ok (.lreturn, 1)) (hz : z = z') (hk : cells ≤ k) (hn : slots ≤ n) (hQ : Q (some (.long z')) h) : Go C ws Q k n (T.setTop (mkF C.m pc Ls (.long z :: rest))) :=
  retV O hd (congrArg Value.long hz) rfl (Or.inr (Or.inl ⟨rfl, rfl, _, rfl⟩)) hk hn hQ
theorem retA {t : FieldType} {w : Value} {rest : List Value} (O : On l Z ws R own nm bytes maxL (some t) C T h cells slots) (hd : decode bytes pc = .ok (.areturn, 1)) (ht : t.isReference = true) (hw : w.isRef = true) (hnw : narrow t w = w) (hk : cells ≤ k) (hn : slots ≤ n) (hQ : Q (some w) h) : Go C ws Q k n (T.setTop (mkF C.m pc Ls (w :: rest))) :=
  retV O hd rfl hnw (Or.inr (Or.inr (Or.inr (Or.inr ⟨rfl, ht, hw⟩)))) hk hn hQ
theorem iload (O : On l Z ws R own nm bytes maxL ret C T h cells slots) {i : Nat} {v : Int32} (hd : decode bytes pc = .ok (.iload i, 2)) (hl : Ls[i]? = some (.val (.int v))) (hq : pc + 2 = q)
    (K : Go C ws Q k n (T.setTop (mkF C.m q Ls (.int v :: st)))) : Go C ws Q k n (T.setTop (mkF C.m pc Ls (st))) := by
  obtain ⟨vm0, SS, ⟨hx, -, rfl, -⟩, ⟨_, X, -⟩, -⟩ := O; subst hq
  exact K.of fun _ kk => XS.iload X.here hx rfl hd hl kk
theorem iloadN (O : On l Z ws R own nm bytes maxL ret C T h cells slots) {i : Fin 4} {v : Int32} (hd : decode bytes pc = .ok (.iload_n i, 1)) (hl : Ls[i.val]? = some (.val (.int v))) (hq : pc + 1 = q)
    (K : Go C ws Q k n (T.setTop (mkF C.m q Ls (.int v :: st)))) : Go C ws Q k n (T.setTop (mkF C.m pc Ls (st))) := by
  obtain ⟨vm0, SS, ⟨hx, -, rfl, -⟩, ⟨_, X, -⟩, -⟩ := O; subst hq
  exact K.of fun _ kk => XS.iloadN X.here hx rfl hd hl kk
theorem lload (O : On l Z ws R own nm bytes maxL ret C T h cells slots) {i : Nat} {v : Int64} (hd : decode bytes pc = .ok (.lload i, 2)) (hl : Ls[i]? = some (.val (.long v))) (hq : pc + 2 = q)
    (K : Go C ws Q k n (T.setTop (mkF C.m q Ls (.long v :: st)))) : Go C ws Q k n (T.setTop (mkF C.m pc Ls (st))) := by
  obtain ⟨vm0, SS, ⟨hx, -, rfl, -⟩, ⟨_, X, -⟩, -⟩ := O; subst hq
  exact K.of fun _ kk => XS.lload X.here hx rfl hd hl kk
theorem lloadN (O : On l Z ws R own nm bytes maxL ret C T h cells slots) {i : Fin 4} {v : Int64} (hd : decode bytes pc = .ok (.lload_n i, 1)) (hl : Ls[i.val]? = some (.val (.long v))) (hq : pc + 1 = q)
    (K : Go C ws Q k n (T.setTop (mkF C.m q Ls (.long v :: st)))) : Go C ws Q k n (T.setTop (mkF C.m pc Ls (st))) := by
  obtain ⟨vm0, SS, ⟨hx, -, rfl, -⟩, ⟨_, X, -⟩, -⟩ := O; subst hq
  exact K.of fun _ kk => XS.lloadN X.here hx rfl hd hl kk
theorem aload (O : On l Z ws R own nm bytes maxL ret C T h cells slots) {i : Nat} {v : Value} (hd : decode bytes pc = .ok (.aload i, 2)) (hl : Ls[i]? = some (.val v)) (hv : v.isRef = true) (hq : pc + 2 = q)
    (K : Go C ws Q k n (T.setTop (mkF C.m q Ls (v :: st)))) : Go C ws Q k n (T.setTop (mkF C.m pc Ls (st))) := by
  obtain ⟨vm0, SS, ⟨hx, -, rfl, -⟩, ⟨_, X, -⟩, -⟩ := O; subst hq
  exact K.of fun _ kk => XS.aload X.here hx rfl hd hl hv kk
theorem aloadN (O : On l Z ws R own nm bytes maxL ret C T h cells slots) {i : Fin 4} {v : Value} (hd : decode bytes pc = .ok (.aload_n i, 1)) (hl : Ls[i.val]? = some (.val v)) (hv : v.isRef = true) (hq : pc + 1 = q)
    (K : Go C ws Q k n (T.setTop (mkF C.m q Ls (v :: st)))) : Go C ws Q k n (T.setTop (mkF C.m pc Ls (st))) := by
  obtain ⟨vm0, SS, ⟨hx, -, rfl, -⟩, ⟨_, X, -⟩, -⟩ := O; subst hq
  exact K.of fun _ kk => XS.aloadN X.here hx rfl hd hl hv kk
theorem istore (O : On l Z ws R own nm bytes maxL ret C T h cells slots) {i : Nat} {v : Int32} (hd : decode bytes pc = .ok (.istore i, 2)) (hl : storeLocals Ls i (.int v) = some L') (hq : pc + 2 = q)
    (K : Go C ws Q k n (T.setTop (mkF C.m q L' (st)))) : Go C ws Q k n (T.setTop (mkF C.m pc Ls (.int v :: st))) := by
  obtain ⟨vm0, SS, ⟨hx, -, rfl, -⟩, ⟨_, X, -⟩, -⟩ := O; subst hq
  exact K.of fun _ kk => XS.istore X.here hx rfl hd rfl hl kk
theorem istoreN (O : On l Z ws R own nm bytes maxL ret C T h cells slots) {i : Fin 4} {v : Int32} (hd : decode bytes pc = .ok (.istore_n i, 1)) (hl : storeLocals Ls i.val (.int v) = some L') (hq : pc + 1 = q)
    (K : Go C ws Q k n (T.setTop (mkF C.m q L' (st)))) : Go C ws Q k n (T.setTop (mkF C.m pc Ls (.int v :: st))) := by
  obtain ⟨vm0, SS, ⟨hx, -, rfl, -⟩, ⟨_, X, -⟩, -⟩ := O; subst hq
  exact K.of fun _ kk => XS.istoreN X.here hx rfl hd rfl hl kk
theorem lstore (O : On l Z ws R own nm bytes maxL ret C T h cells slots) {i : Nat} {v : Int64} (hd : decode bytes pc = .ok (.lstore i, 2)) (hl : storeLocals Ls i (.long v) = some L') (hq : pc + 2 = q)
    (K : Go C ws Q k n (T.setTop (mkF C.m q L' (st)))) : Go C ws Q k n (T.setTop (mkF C.m pc Ls (.long v :: st))) := by
  obtain ⟨vm0, SS, ⟨hx, -, rfl, -⟩, ⟨_, X, -⟩, -⟩ := O; subst hq
  exact K.of fun _ kk => XS.lstore X.here hx rfl hd rfl hl kk
theorem lstoreN (O : On l Z ws R own nm bytes maxL ret C T h cells slots) {i : Fin 4} {v : Int64} (hd : decode bytes pc = .ok (.lstore_n i, 1)) (hl : storeLocals Ls i.val (.long v) = some L') (hq : pc + 1 = q)
    (K : Go C ws Q k n (T.setTop (mkF C.m q L' (st)))) : Go C ws Q k n (T.setTop (mkF C.m pc Ls (.long v :: st))) := by
  obtain ⟨vm0, SS, ⟨hx, -, rfl, -⟩, ⟨_, X, -⟩, -⟩ := O; subst hq
  exact K.of fun _ kk => XS.lstoreN X.here hx rfl hd rfl hl kk
theorem astore (O : On l Z ws R own nm bytes maxL ret C T h cells slots) {i : Nat} {v : Value} (hd : decode bytes pc = .ok (.astore i, 2)) (hv : v.isRef = true) (hl : storeLocals Ls i v = some L') (hq : pc + 2 = q)
    (K : Go C ws Q k n (T.setTop (mkF C.m q L' (st)))) : Go C ws Q k n (T.setTop (mkF C.m pc Ls (v :: st))) := by
  obtain ⟨vm0, SS, ⟨hx, -, rfl, -⟩, ⟨_, X, -⟩, -⟩ := O; subst hq
  exact K.of fun _ kk => XS.astore X.here hx rfl hd rfl hv hl kk
theorem astoreN (O : On l Z ws R own nm bytes maxL ret C T h cells slots) {i : Fin 4} {v : Value} (hd : decode bytes pc = .ok (.astore_n i, 1)) (hv : v.isRef = true) (hl : storeLocals Ls i.val v = some L') (hq : pc + 1 = q)
    (K : Go C ws Q k n (T.setTop (mkF C.m q L' (st)))) : Go C ws Q k n (T.setTop (mkF C.m pc Ls (v :: st))) := by
  obtain ⟨vm0, SS, ⟨hx, -, rfl, -⟩, ⟨_, X, -⟩, -⟩ := O; subst hq
  exact K.of fun _ kk => XS.astoreN X.here hx rfl hd rfl hv hl kk
theorem iconst (O : On l Z ws R own nm bytes maxL ret C T h cells slots) {i : Int} {r : Int32} (hd : decode bytes pc = .ok (.iconst i, 1)) (hr : Int32.ofInt i = r) (hq : pc + 1 = q)
    (K : Go C ws Q k n (T.setTop (mkF C.m q Ls (.int r :: st)))) : Go C ws Q k n (T.setTop (mkF C.m pc Ls (st))) := by
  obtain ⟨vm0, SS, ⟨hx, -, rfl, -⟩, ⟨_, X, -⟩, -⟩ := O; subst hq hr
  exact K.of fun _ kk => XS.iconst X.here hx rfl hd kk
theorem bipush (O : On l Z ws R own nm bytes maxL ret C T h cells slots) {i : Int} {r : Int32} (hd : decode bytes pc = .ok (.bipush i, 2)) (hr : (Int8.ofInt i).toInt32 = r) (hq : pc + 2 = q)
    (K : Go C ws Q k n (T.setTop (mkF C.m q Ls (.int r :: st)))) : Go C ws Q k n (T.setTop (mkF C.m pc Ls (st))) := by
  obtain ⟨vm0, SS, ⟨hx, -, rfl, -⟩, ⟨_, X, -⟩, -⟩ := O; subst hq hr
  exact K.of fun _ kk => XS.bipush X.here hx rfl hd kk
theorem sipush (O : On l Z ws R own nm bytes maxL ret C T h cells slots) {i : Int} {r : Int32} (hd : decode bytes pc = .ok (.sipush i, 3)) (hr : (Int16.ofInt i).toInt32 = r) (hq : pc + 3 = q)
    (K : Go C ws Q k n (T.setTop (mkF C.m q Ls (.int r :: st)))) : Go C ws Q k n (T.setTop (mkF C.m pc Ls (st))) := by
  obtain ⟨vm0, SS, ⟨hx, -, rfl, -⟩, ⟨_, X, -⟩, -⟩ := O; subst hq hr
  exact K.of fun _ kk => XS.sipush X.here hx rfl hd kk
theorem lconst (O : On l Z ws R own nm bytes maxL ret C T h cells slots) {i : Fin 2} {r : Int64} (hd : decode bytes pc = .ok (.lconst i, 1)) (hr : Int64.ofNat i = r) (hq : pc + 1 = q)
    (K : Go C ws Q k n (T.setTop (mkF C.m q Ls (.long r :: st)))) : Go C ws Q k n (T.setTop (mkF C.m pc Ls (st))) := by
  obtain ⟨vm0, SS, ⟨hx, -, rfl, -⟩, ⟨_, X, -⟩, -⟩ := O; subst hq hr
  exact K.of fun _ kk => XS.lconst X.here hx rfl hd kk
theorem aconst_null (O : On l Z ws R own nm bytes maxL ret C T h cells slots)  (hd : decode bytes pc = .ok (.aconst_null, 1))  (hq : pc + 1 = q)
    (K : Go C ws Q k n (T.setTop (mkF C.m q Ls (.null :: st)))) : Go C ws Q k n (T.setTop (mkF C.m pc Ls (st))) := by
  obtain ⟨vm0, SS, ⟨hx, -, rfl, -⟩, ⟨_, X, -⟩, -⟩ := O; subst hq
  exact K.of fun _ kk => XS.aconstNull X.here hx rfl hd kk
theorem iadd (O : On l Z ws R own nm bytes maxL ret C T h cells slots) {x y r : Int32} (hd : decode bytes pc = .ok (.iadd, 1)) (hr : x + y = r) (hq : pc + 1 = q)
    (K : Go C ws Q k n (T.setTop (mkF C.m q Ls (.int r :: st)))) : Go C ws Q k n (T.setTop (mkF C.m pc Ls (.int y :: .int x :: st))) := by
  obtain ⟨vm0, SS, ⟨hx, -, rfl, -⟩, ⟨_, X, -⟩, -⟩ := O; subst hq hr
  exact K.of fun _ kk => XS.iadd X.here hx rfl hd rfl kk
theorem isub (O : On l Z ws R own nm bytes maxL ret C T h cells slots) {x y r : Int32} (hd : decode bytes pc = .ok (.isub, 1)) (hr : x - y = r) (hq : pc + 1 = q)
    (K : Go C ws Q k n (T.setTop (mkF C.m q Ls (.int r :: st)))) : Go C ws Q k n (T.setTop (mkF C.m pc Ls (.int y :: .int x :: st))) := by
  obtain ⟨vm0, SS, ⟨hx, -, rfl, -⟩, ⟨_, X, -⟩, -⟩ := O; subst hq hr
  exact K.of fun _ kk => XS.isub X.here hx rfl hd rfl kk
theorem imul (O : On l Z ws R own nm bytes maxL ret C T h cells slots) {x y r : Int32} (hd : decode bytes pc = .ok (.imul, 1)) (hr : x * y = r) (hq : pc + 1 = q)
    (K : Go C ws Q k n (T.setTop (mkF C.m q Ls (.int r :: st)))) : Go C ws Q k n (T.setTop (mkF C.m pc Ls (.int y :: .int x :: st))) := by
  obtain ⟨vm0, SS, ⟨hx, -, rfl, -⟩, ⟨_, X, -⟩, -⟩ := O; subst hq hr
  exact K.of fun _ kk => XS.imul X.here hx rfl hd rfl kk
theorem iand (O : On l Z ws R own nm bytes maxL ret C T h cells slots) {x y r : Int32} (hd : decode bytes pc = .ok (.iand, 1)) (hr : x &&& y = r) (hq : pc + 1 = q)
    (K : Go C ws Q k n (T.setTop (mkF C.m q Ls (.int r :: st)))) : Go C ws Q k n (T.setTop (mkF C.m pc Ls (.int y :: .int x :: st))) := by
  obtain ⟨vm0, SS, ⟨hx, -, rfl, -⟩, ⟨_, X, -⟩, -⟩ := O; subst hq hr
  exact K.of fun _ kk => XS.iand X.here hx rfl hd rfl kk
theorem ior (O : On l Z ws R own nm bytes maxL ret C T h cells slots) {x y r : Int32} (hd : decode bytes pc = .ok (.ior, 1)) (hr : x ||| y = r) (hq : pc + 1 = q)
    (K : Go C ws Q k n (T.setTop (mkF C.m q Ls (.int r :: st)))) : Go C ws Q k n (T.setTop (mkF C.m pc Ls (.int y :: .int x :: st))) := by
  obtain ⟨vm0, SS, ⟨hx, -, rfl, -⟩, ⟨_, X, -⟩, -⟩ := O; subst hq hr
  exact K.of fun _ kk => XS.ior X.here hx rfl hd rfl kk
theorem ixor (O : On l Z ws R own nm bytes maxL ret C T h cells slots) {x y r : Int32} (hd : decode bytes pc = .ok (.ixor, 1)) (hr : x ^^^ y = r) (hq : pc + 1 = q)
    (K : Go C ws Q k n (T.setTop (mkF C.m q Ls (.int r :: st)))) : Go C ws Q k n (T.setTop (mkF C.m pc Ls (.int y :: .int x :: st))) := by
  obtain ⟨vm0, SS, ⟨hx, -, rfl, -⟩, ⟨_, X, -⟩, -⟩ := O; subst hq hr
  exact K.of fun _ kk => XS.ixor X.here hx rfl hd rfl kk
theorem ishl (O : On l Z ws R own nm bytes maxL ret C T h cells slots) {x y r : Int32} (hd : decode bytes pc = .ok (.ishl, 1)) (hr : x <<< (y &&& 31) = r) (hq : pc + 1 = q)
    (K : Go C ws Q k n (T.setTop (mkF C.m q Ls (.int r :: st)))) : Go C ws Q k n (T.setTop (mkF C.m pc Ls (.int y :: .int x :: st))) := by
  obtain ⟨vm0, SS, ⟨hx, -, rfl, -⟩, ⟨_, X, -⟩, -⟩ := O; subst hq hr
  exact K.of fun _ kk => XS.ishl X.here hx rfl hd rfl kk
theorem ishr (O : On l Z ws R own nm bytes maxL ret C T h cells slots) {x y r : Int32} (hd : decode bytes pc = .ok (.ishr, 1)) (hr : x >>> (y &&& 31) = r) (hq : pc + 1 = q)
    (K : Go C ws Q k n (T.setTop (mkF C.m q Ls (.int r :: st)))) : Go C ws Q k n (T.setTop (mkF C.m pc Ls (.int y :: .int x :: st))) := by
  obtain ⟨vm0, SS, ⟨hx, -, rfl, -⟩, ⟨_, X, -⟩, -⟩ := O; subst hq hr
  exact K.of fun _ kk => XS.ishr X.here hx rfl hd rfl kk
theorem iushr (O : On l Z ws R own nm bytes maxL ret C T h cells slots) {x y r : Int32} (hd : decode bytes pc = .ok (.iushr, 1)) (hr : (x.toUInt32 >>> (y &&& 31).toUInt32).toInt32 = r) (hq : pc + 1 = q)
    (K : Go C ws Q k n (T.setTop (mkF C.m q Ls (.int r :: st)))) : Go C ws Q k n (T.setTop (mkF C.m pc Ls (.int y :: .int x :: st))) := by
  obtain ⟨vm0, SS, ⟨hx, -, rfl, -⟩, ⟨_, X, -⟩, -⟩ := O; subst hq hr
  exact K.of fun _ kk => XS.iushr X.here hx rfl hd rfl kk
theorem idiv (O : On l Z ws R own nm bytes maxL ret C T h cells slots) {x y r : Int32} (hd : decode bytes pc = .ok (.idiv, 1)) (hy : y ≠ 0) (hr : x / y = r) (hq : pc + 1 = q)
    (K : Go C ws Q k n (T.setTop (mkF C.m q Ls (.int r :: st)))) : Go C ws Q k n (T.setTop (mkF C.m pc Ls (.int y :: .int x :: st))) := by
  obtain ⟨vm0, SS, ⟨hx, -, rfl, -⟩, ⟨_, X, -⟩, -⟩ := O; subst hq hr
  exact K.of fun _ kk => XS.idiv X.here hx rfl hd rfl hy kk
theorem irem (O : On l Z ws R own nm bytes maxL ret C T h cells slots) {x y r : Int32} (hd : decode bytes pc = .ok (.irem, 1)) (hy : y ≠ 0) (hr : x % y = r) (hq : pc + 1 = q)
    (K : Go C ws Q k n (T.setTop (mkF C.m q Ls (.int r :: st)))) : Go C ws Q k n (T.setTop (mkF C.m pc Ls (.int y :: .int x :: st))) := by
  obtain ⟨vm0, SS, ⟨hx, -, rfl, -⟩, ⟨_, X, -⟩, -⟩ := O; subst hq hr; rw [← irem_eq_mod] at K
  exact K.of fun _ kk => XS.irem X.here hx rfl hd rfl hy kk
theorem ladd (O : On l Z ws R own nm bytes maxL ret C T h cells slots) {x y r : Int64} (hd : decode bytes pc = .ok (.ladd, 1)) (hr : x + y = r) (hq : pc + 1 = q)
    (K : Go C ws Q k n (T.setTop (mkF C.m q Ls (.long r :: st)))) : Go C ws Q k n (T.setTop (mkF C.m pc Ls (.long y :: .long x :: st))) := by
  obtain ⟨vm0, SS, ⟨hx, -, rfl, -⟩, ⟨_, X, -⟩, -⟩ := O; subst hq hr
  exact K.of fun _ kk => XS.ladd X.here hx rfl hd rfl kk
theorem lsub (O : On l Z ws R own nm bytes maxL ret C T h cells slots) {x y r : Int64} (hd : decode bytes pc = .ok (.lsub, 1)) (hr : x - y = r) (hq : pc + 1 = q)
    (K : Go C ws Q k n (T.setTop (mkF C.m q Ls (.long r :: st)))) : Go C ws Q k n (T.setTop (mkF C.m pc Ls (.long y :: .long x :: st))) := by
  obtain ⟨vm0, SS, ⟨hx, -, rfl, -⟩, ⟨_, X, -⟩, -⟩ := O; subst hq hr
  exact K.of fun _ kk => XS.lsub X.here hx rfl hd rfl kk
theorem lmul (O : On l Z ws R own nm bytes maxL ret C T h cells slots) {x y r : Int64} (hd : decode bytes pc = .ok (.lmul, 1)) (hr : x * y = r) (hq : pc + 1 = q)
    (K : Go C ws Q k n (T.setTop (mkF C.m q Ls (.long r :: st)))) : Go C ws Q k n (T.setTop (mkF C.m pc Ls (.long y :: .long x :: st))) := by
  obtain ⟨vm0, SS, ⟨hx, -, rfl, -⟩, ⟨_, X, -⟩, -⟩ := O; subst hq hr
  exact K.of fun _ kk => XS.lmul X.here hx rfl hd rfl kk
theorem land (O : On l Z ws R own nm bytes maxL ret C T h cells slots) {x y r : Int64} (hd : decode bytes pc = .ok (.land, 1)) (hr : x &&& y = r) (hq : pc + 1 = q)
    (K : Go C ws Q k n (T.setTop (mkF C.m q Ls (.long r :: st)))) : Go C ws Q k n (T.setTop (mkF C.m pc Ls (.long y :: .long x :: st))) := by
  obtain ⟨vm0, SS, ⟨hx, -, rfl, -⟩, ⟨_, X, -⟩, -⟩ := O; subst hq hr
  exact K.of fun _ kk => XS.land X.here hx rfl hd rfl kk
theorem lor (O : On l Z ws R own nm bytes maxL ret C T h cells slots) {x y r : Int64} (hd : decode bytes pc = .ok (.lor, 1)) (hr : x ||| y = r) (hq : pc + 1 = q)
    (K : Go C ws Q k n (T.setTop (mkF C.m q Ls (.long r :: st)))) : Go C ws Q k n (T.setTop (mkF C.m pc Ls (.long y :: .long x :: st))) := by
  obtain ⟨vm0, SS, ⟨hx, -, rfl, -⟩, ⟨_, X, -⟩, -⟩ := O; subst hq hr
  exact K.of fun _ kk => XS.lor X.here hx rfl hd rfl kk
theorem lxor (O : On l Z ws R own nm bytes maxL ret C T h cells slots) {x y r : Int64} (hd : decode bytes pc = .ok (.lxor, 1)) (hr : x ^^^ y = r) (hq : pc + 1 = q)
    (K : Go C ws Q k n (T.setTop (mkF C.m q Ls (.long r :: st)))) : Go C ws Q k n (T.setTop (mkF C.m pc Ls (.long y :: .long x :: st))) := by
  obtain ⟨vm0, SS, ⟨hx, -, rfl, -⟩, ⟨_, X, -⟩, -⟩ := O; subst hq hr
  exact K.of fun _ kk => XS.lxor X.here hx rfl hd rfl kk
theorem ldiv (O : On l Z ws R own nm bytes maxL ret C T h cells slots) {x y r : Int64} (hd : decode bytes pc = .ok (.ldiv, 1)) (hy : y ≠ 0) (hr : x / y = r) (hq : pc + 1 = q)
    (K : Go C ws Q k n (T.setTop (mkF C.m q Ls (.long r :: st)))) : Go C ws Q k n (T.setTop (mkF C.m pc Ls (.long y :: .long x :: st))) := by
  obtain ⟨vm0, SS, ⟨hx, -, rfl, -⟩, ⟨_, X, -⟩, -⟩ := O; subst hq hr
  exact K.of fun _ kk => XS.ldiv X.here hx rfl hd rfl hy kk
theorem lrem (O : On l Z ws R own nm bytes maxL ret C T h cells slots) {x y r : Int64} (hd : decode bytes pc = .ok (.lrem, 1)) (hy : y ≠ 0) (hr : x % y = r) (hq : pc + 1 = q)
    (K : Go C ws Q k n (T.setTop (mkF C.m q Ls (.long r :: st)))) : Go C ws Q k n (T.setTop (mkF C.m pc Ls (.long y :: .long x :: st))) := by
  obtain ⟨vm0, SS, ⟨hx, -, rfl, -⟩, ⟨_, X, -⟩, -⟩ := O; subst hq hr; rw [← lrem_mod] at K
  exact K.of fun _ kk => XS.lrem X.here hx rfl hd rfl hy kk
theorem lshl (O : On l Z ws R own nm bytes maxL ret C T h cells slots) {x r : Int64} {y : Int32} (hd : decode bytes pc = .ok (.lshl, 1)) (hr : x <<< (y &&& 0x3f).toInt64 = r) (hq : pc + 1 = q)
    (K : Go C ws Q k n (T.setTop (mkF C.m q Ls (.long r :: st)))) : Go C ws Q k n (T.setTop (mkF C.m pc Ls (.int y :: .long x :: st))) := by
  obtain ⟨vm0, SS, ⟨hx, -, rfl, -⟩, ⟨_, X, -⟩, -⟩ := O; subst hq hr
  exact K.of fun _ kk => XS.lshl X.here hx rfl hd rfl kk
theorem lshr (O : On l Z ws R own nm bytes maxL ret C T h cells slots) {x r : Int64} {y : Int32} (hd : decode bytes pc = .ok (.lshr, 1)) (hr : x >>> (y &&& 0x3f).toInt64 = r) (hq : pc + 1 = q)
    (K : Go C ws Q k n (T.setTop (mkF C.m q Ls (.long r :: st)))) : Go C ws Q k n (T.setTop (mkF C.m pc Ls (.int y :: .long x :: st))) := by
  obtain ⟨vm0, SS, ⟨hx, -, rfl, -⟩, ⟨_, X, -⟩, -⟩ := O; subst hq hr
  exact K.of fun _ kk => XS.lshr X.here hx rfl hd rfl kk
theorem lushr (O : On l Z ws R own nm bytes maxL ret C T h cells slots) {x r : Int64} {y : Int32} (hd : decode bytes pc = .ok (.lushr, 1)) (hr : (x.toUInt64 >>> (y &&& 0x3f).toInt64.toUInt64).toInt64 = r) (hq : pc + 1 = q)
    (K : Go C ws Q k n (T.setTop (mkF C.m q Ls (.long r :: st)))) : Go C ws Q k n (T.setTop (mkF C.m pc Ls (.int y :: .long x :: st))) := by
  obtain ⟨vm0, SS, ⟨hx, -, rfl, -⟩, ⟨_, X, -⟩, -⟩ := O; subst hq hr
  exact K.of fun _ kk => XS.lushr X.here hx rfl hd rfl kk
theorem ineg (O : On l Z ws R own nm bytes maxL ret C T h cells slots) {x : Int32} {r : Int32} (hd : decode bytes pc = .ok (.ineg, 1)) (hr : -x = r) (hq : pc + 1 = q)
    (K : Go C ws Q k n (T.setTop (mkF C.m q Ls (.int r :: st)))) : Go C ws Q k n (T.setTop (mkF C.m pc Ls (.int x :: st))) := by
  obtain ⟨vm0, SS, ⟨hx, -, rfl, -⟩, ⟨_, X, -⟩, -⟩ := O; subst hq hr
  exact K.of fun _ kk => XS.ineg X.here hx rfl hd rfl kk
theorem lneg (O : On l Z ws R own nm bytes maxL ret C T h cells slots) {x : Int64} {r : Int64} (hd : decode bytes pc = .ok (.lneg, 1)) (hr : -x = r) (hq : pc + 1 = q)
    (K : Go C ws Q k n (T.setTop (mkF C.m q Ls (.long r :: st)))) : Go C ws Q k n (T.setTop (mkF C.m pc Ls (.long x :: st))) := by
  obtain ⟨vm0, SS, ⟨hx, -, rfl, -⟩, ⟨_, X, -⟩, -⟩ := O; subst hq hr
  exact K.of fun _ kk => XS.lneg X.here hx rfl hd rfl kk
theorem i2l (O : On l Z ws R own nm bytes maxL ret C T h cells slots) {x : Int32} {r : Int64} (hd : decode bytes pc = .ok (.i2l, 1)) (hr : x.toInt64 = r) (hq : pc + 1 = q)
    (K : Go C ws Q k n (T.setTop (mkF C.m q Ls (.long r :: st)))) : Go C ws Q k n (T.setTop (mkF C.m pc Ls (.int x :: st))) := by
  obtain ⟨vm0, SS, ⟨hx, -, rfl, -⟩, ⟨_, X, -⟩, -⟩ := O; subst hq hr
  exact K.of fun _ kk => XS.i2l X.here hx rfl hd rfl kk
theorem l2i (O : On l Z ws R own nm bytes maxL ret C T h cells slots) {x : Int64} {r : Int32} (hd : decode bytes pc = .ok (.l2i, 1)) (hr : x.toInt32 = r) (hq : pc + 1 = q)
    (K : Go C ws Q k n (T.setTop (mkF C.m q Ls (.int r :: st)))) : Go C ws Q k n (T.setTop (mkF C.m pc Ls (.long x :: st))) := by
  obtain ⟨vm0, SS, ⟨hx, -, rfl, -⟩, ⟨_, X, -⟩, -⟩ := O; subst hq hr
  exact K.of fun _ kk => XS.l2i X.here hx rfl hd rfl kk
theorem i2b (O : On l Z ws R own nm bytes maxL ret C T h cells slots) {x : Int32} {r : Int32} (hd : decode bytes pc = .ok (.i2b, 1)) (hr : x.toInt8.toInt32 = r) (hq : pc + 1 = q)
    (K : Go C ws Q k n (T.setTop (mkF C.m q Ls (.int r :: st)))) : Go C ws Q k n (T.setTop (mkF C.m pc Ls (.int x :: st))) := by
  obtain ⟨vm0, SS, ⟨hx, -, rfl, -⟩, ⟨_, X, -⟩, -⟩ := O; subst hq hr
  exact K.of fun _ kk => XS.i2b X.here hx rfl hd rfl kk
theorem i2c (O : On l Z ws R own nm bytes maxL ret C T h cells slots) {x : Int32} {r : Int32} (hd : decode bytes pc = .ok (.i2c, 1)) (hr : x.toUInt32.toUInt16.toUInt32.toInt32 = r) (hq : pc + 1 = q)
    (K : Go C ws Q k n (T.setTop (mkF C.m q Ls (.int r :: st)))) : Go C ws Q k n (T.setTop (mkF C.m pc Ls (.int x :: st))) := by
  obtain ⟨vm0, SS, ⟨hx, -, rfl, -⟩, ⟨_, X, -⟩, -⟩ := O; subst hq hr
  exact K.of fun _ kk => XS.i2c X.here hx rfl hd rfl kk
theorem i2s (O : On l Z ws R own nm bytes maxL ret C T h cells slots) {x : Int32} {r : Int32} (hd : decode bytes pc = .ok (.i2s, 1)) (hr : x.toInt16.toInt32 = r) (hq : pc + 1 = q)
    (K : Go C ws Q k n (T.setTop (mkF C.m q Ls (.int r :: st)))) : Go C ws Q k n (T.setTop (mkF C.m pc Ls (.int x :: st))) := by
  obtain ⟨vm0, SS, ⟨hx, -, rfl, -⟩, ⟨_, X, -⟩, -⟩ := O; subst hq hr
  exact K.of fun _ kk => XS.i2s X.here hx rfl hd rfl kk
theorem lcmp (O : On l Z ws R own nm bytes maxL ret C T h cells slots) {x y : Int64} {r : Int32} (hd : decode bytes pc = .ok (.lcmp, 1)) (hr : lcmpW x y = r) (hq : pc + 1 = q)
    (K : Go C ws Q k n (T.setTop (mkF C.m q Ls (.int r :: st)))) : Go C ws Q k n (T.setTop (mkF C.m pc Ls (.long y :: .long x :: st))) := by
  obtain ⟨vm0, SS, ⟨hx, -, rfl, -⟩, ⟨_, X, -⟩, -⟩ := O; subst hq hr
  exact K.of fun _ kk => XS.lcmp X.here hx rfl hd rfl kk
theorem iinc (O : On l Z ws R own nm bytes maxL ret C T h cells slots) {i : Nat} {cst : Int} {x : Int32} (hd : decode bytes pc = .ok (.iinc i cst, 3)) (hl : Ls[i]? = some (.val (.int x))) (hl' : storeLocals Ls i (.int (x + Int32.ofInt cst)) = some L') (hq : pc + 3 = q)
    (K : Go C ws Q k n (T.setTop (mkF C.m q L' (st)))) : Go C ws Q k n (T.setTop (mkF C.m pc Ls (st))) := by
  obtain ⟨vm0, SS, ⟨hx, -, rfl, -⟩, ⟨_, X, -⟩, -⟩ := O; subst hq
  exact K.of fun _ kk => XS.iinc X.here hx rfl hd hl hl' kk
theorem dup (O : On l Z ws R own nm bytes maxL ret C T h cells slots) {v : Value} (hd : decode bytes pc = .ok (.dup, 1)) (hc : v.category = 1) (hq : pc + 1 = q)
    (K : Go C ws Q k n (T.setTop (mkF C.m q Ls (v :: v :: st)))) : Go C ws Q k n (T.setTop (mkF C.m pc Ls (v :: st))) := by
  obtain ⟨vm0, SS, ⟨hx, -, rfl, -⟩, ⟨_, X, -⟩, -⟩ := O; subst hq
  exact K.of fun _ kk => XS.dup X.here hx rfl hd rfl hc kk
theorem pop (O : On l Z ws R own nm bytes maxL ret C T h cells slots) {v : Value} (hd : decode bytes pc = .ok (.pop, 1)) (hc : v.category = 1) (hq : pc + 1 = q)
    (K : Go C ws Q k n (T.setTop (mkF C.m q Ls (st)))) : Go C ws Q k n (T.setTop (mkF C.m pc Ls (v :: st))) := by
  obtain ⟨vm0, SS, ⟨hx, -, rfl, -⟩, ⟨_, X, -⟩, -⟩ := O; subst hq
  exact K.of fun _ kk => XS.pop X.here hx rfl hd rfl hc kk
theorem dup_x1 (O : On l Z ws R own nm bytes maxL ret C T h cells slots) {v w : Value} (hd : decode bytes pc = .ok (.dup_x1, 1)) (hc : v.category = 1) (hc' : w.category = 1) (hq : pc + 1 = q)
    (K : Go C ws Q k n (T.setTop (mkF C.m q Ls (v :: w :: v :: st)))) : Go C ws Q k n (T.setTop (mkF C.m pc Ls (v :: w :: st))) := by
  obtain ⟨vm0, SS, ⟨hx, -, rfl, -⟩, ⟨_, X, -⟩, -⟩ := O; subst hq
  exact K.of fun _ kk => XS.dupX1 X.here hx rfl hd rfl hc hc' kk
theorem dup2 (O : On l Z ws R own nm bytes maxL ret C T h cells slots) {v w : Value} (hd : decode bytes pc = .ok (.dup2, 1)) (hc : v.category = 1) (hc' : w.category = 1) (hq : pc + 1 = q)
    (K : Go C ws Q k n (T.setTop (mkF C.m q Ls (v :: w :: v :: w :: st)))) : Go C ws Q k n (T.setTop (mkF C.m pc Ls (v :: w :: st))) := by
  obtain ⟨vm0, SS, ⟨hx, -, rfl, -⟩, ⟨_, X, -⟩, -⟩ := O; subst hq
  exact K.of fun _ kk => XT.dup2 X.here hx rfl hd rfl hc hc' kk
theorem dup2L (O : On l Z ws R own nm bytes maxL ret C T h cells slots) {v : Int64} (hd : decode bytes pc = .ok (.dup2, 1))  (hq : pc + 1 = q)
    (K : Go C ws Q k n (T.setTop (mkF C.m q Ls (.long v :: .long v :: st)))) : Go C ws Q k n (T.setTop (mkF C.m pc Ls (.long v :: st))) := by
  obtain ⟨vm0, SS, ⟨hx, -, rfl, -⟩, ⟨_, X, -⟩, -⟩ := O; subst hq
  exact K.of fun _ kk => XT.dup2L X.here hx rfl hd rfl kk
theorem goto (O : On l Z ws R own nm bytes maxL ret C T h cells slots)  {o : Int} (hd : decode bytes pc = .ok (.goto o, 3))  (ho : 0 ≤ (pc : Int) + o) (hq : ((pc : Int) + o).toNat = q)
    (K : Go C ws Q k n (T.setTop (mkF C.m q Ls st))) : Go C ws Q k n (T.setTop (mkF C.m pc Ls (st))) := by
  obtain ⟨vm0, SS, ⟨hx, -, rfl, -⟩, ⟨_, X, -⟩, -⟩ := O
  exact K.of fun _ kk => XS.goto X.here hx rfl (pc0 := pc) (pc' := q) rfl hd  ho hq kk
theorem ifYes (O : On l Z ws R own nm bytes maxL ret C T h cells slots) {cd : ClassFile.Cond} {x : Int32} {o : Int} (hd : decode bytes pc = .ok (.ifCond cd o, 3)) (hc : ifCond.holds cd x = true) (ho : 0 ≤ (pc : Int) + o) (hq : ((pc : Int) + o).toNat = q)
    (K : Go C ws Q k n (T.setTop (mkF C.m q Ls st))) : Go C ws Q k n (T.setTop (mkF C.m pc Ls (.int x :: st))) := by
  obtain ⟨vm0, SS, ⟨hx, -, rfl, -⟩, ⟨_, X, -⟩, -⟩ := O
  exact K.of fun _ kk => XS.ifYes X.here hx rfl (pc0 := pc) (pc' := q) rfl hd rfl hc ho hq kk
theorem icmpYes (O : On l Z ws R own nm bytes maxL ret C T h cells slots) {cd : ClassFile.Cond} {x y : Int32} {o : Int} (hd : decode bytes pc = .ok (.if_icmp cd o, 3)) (hc : if_icmp.holds cd x y = true) (ho : 0 ≤ (pc : Int) + o) (hq : ((pc : Int) + o).toNat = q)
    (K : Go C ws Q k n (T.setTop (mkF C.m q Ls st))) : Go C ws Q k n (T.setTop (mkF C.m pc Ls (.int y :: .int x :: st))) := by
  obtain ⟨vm0, SS, ⟨hx, -, rfl, -⟩, ⟨_, X, -⟩, -⟩ := O
  exact K.of fun _ kk => XS.icmpYes X.here hx rfl (pc0 := pc) (pc' := q) rfl hd rfl hc ho hq kk
theorem ifnullYes (O : On l Z ws R own nm bytes maxL ret C T h cells slots)  {o : Int} (hd : decode bytes pc = .ok (.ifnull o, 3))  (ho : 0 ≤ (pc : Int) + o) (hq : ((pc : Int) + o).toNat = q)
    (K : Go C ws Q k n (T.setTop (mkF C.m q Ls st))) : Go C ws Q k n (T.setTop (mkF C.m pc Ls (.null :: st))) := by
  obtain ⟨vm0, SS, ⟨hx, -, rfl, -⟩, ⟨_, X, -⟩, -⟩ := O
  exact K.of fun _ kk => XS.ifnullYes X.here hx rfl (pc0 := pc) (pc' := q) rfl hd rfl ho hq kk
theorem ifnonnullYes (O : On l Z ws R own nm bytes maxL ret C T h cells slots) {b : Addr} {o : Int} (hd : decode bytes pc = .ok (.ifnonnull o, 3))  (ho : 0 ≤ (pc : Int) + o) (hq : ((pc : Int) + o).toNat = q)
    (K : Go C ws Q k n (T.setTop (mkF C.m q Ls st))) : Go C ws Q k n (T.setTop (mkF C.m pc Ls (.ref b :: st))) := by
  obtain ⟨vm0, SS, ⟨hx, -, rfl, -⟩, ⟨_, X, -⟩, -⟩ := O
  exact K.of fun _ kk => XS.ifnonnullYes X.here hx rfl (pc0 := pc) (pc' := q) rfl hd rfl ho hq kk
theorem ifNo (O : On l Z ws R own nm bytes maxL ret C T h cells slots) {cd : ClassFile.Cond} {x : Int32} {o : Int} (hd : decode bytes pc = .ok (.ifCond cd o, 3)) (hc : ifCond.holds cd x = false) (hq : pc + 3 = q)
    (K : Go C ws Q k n (T.setTop (mkF C.m q Ls (st)))) : Go C ws Q k n (T.setTop (mkF C.m pc Ls (.int x :: st))) := by
  obtain ⟨vm0, SS, ⟨hx, -, rfl, -⟩, ⟨_, X, -⟩, -⟩ := O; subst hq
  exact K.of fun _ kk => XS.ifNo X.here hx rfl hd rfl hc kk
theorem icmpNo (O : On l Z ws R own nm bytes maxL ret C T h cells slots) {cd : ClassFile.Cond} {x y : Int32} {o : Int} (hd : decode bytes pc = .ok (.if_icmp cd o, 3)) (hc : if_icmp.holds cd x y = false) (hq : pc + 3 = q)
    (K : Go C ws Q k n (T.setTop (mkF C.m q Ls (st)))) : Go C ws Q k n (T.setTop (mkF C.m pc Ls (.int y :: .int x :: st))) := by
  obtain ⟨vm0, SS, ⟨hx, -, rfl, -⟩, ⟨_, X, -⟩, -⟩ := O; subst hq
  exact K.of fun _ kk => XS.icmpNo X.here hx rfl hd rfl hc kk
theorem ifnullNo (O : On l Z ws R own nm bytes maxL ret C T h cells slots) {b : Addr} {o : Int} (hd : decode bytes pc = .ok (.ifnull o, 3))  (hq : pc + 3 = q)
    (K : Go C ws Q k n (T.setTop (mkF C.m q Ls (st)))) : Go C ws Q k n (T.setTop (mkF C.m pc Ls (.ref b :: st))) := by
  obtain ⟨vm0, SS, ⟨hx, -, rfl, -⟩, ⟨_, X, -⟩, -⟩ := O; subst hq
  exact K.of fun _ kk => XS.ifnullNo X.here hx rfl hd rfl kk
theorem ifnonnullNo (O : On l Z ws R own nm bytes maxL ret C T h cells slots) {o : Int} (hd : decode bytes pc = .ok (.ifnonnull o, 3))  (hq : pc + 3 = q)
    (K : Go C ws Q k n (T.setTop (mkF C.m q Ls (st)))) : Go C ws Q k n (T.setTop (mkF C.m pc Ls (.null :: st))) := by
  obtain ⟨vm0, SS, ⟨hx, -, rfl, -⟩, ⟨_, X, -⟩, -⟩ := O; subst hq
  exact K.of fun _ kk => XS.ifnonnullNo X.here hx rfl hd rfl kk
theorem acmp (O : On l Z ws R own nm bytes maxL ret C T h cells slots) {cd : ACond} {x y : Value} {o : Int} {same : Bool} (hd : decode bytes pc = .ok (.if_acmp cd o, 3)) (h1 : x.isRef = true) (h2 : y.isRef = true) (hs : decide (x = y) = same) (ho : 0 ≤ (pc : Int) + o) (hq : q = if acV cd same = true then ((pc : Int) + o).toNat else pc + 3)
    (K : Go C ws Q k n (T.setTop (mkF C.m q Ls st))) : Go C ws Q k n (T.setTop (mkF C.m pc Ls (y :: x :: st))) := by
  obtain ⟨vm0, SS, ⟨hx, -, rfl, -⟩, ⟨_, X, -⟩, -⟩ := O
  exact K.of fun _ kk => Jvm.RoadKit.acmp (g := mkF C.m pc Ls (y :: x :: st)) X hx rfl h1 h2 (pc0 := pc) (pc' := q) rfl hd rfl hs ho hq kk
theorem ldcI (O : On l Z ws R own nm bytes maxL ret C T h cells slots) {i : Nat} {v : Int32} (hd : decode bytes pc = .ok (.ldc i, 2)) (w : (Cond.constant own i v).before a0 Z = true) (hq : pc + 2 = q)
    (K : Go C ws Q k n (T.setTop (mkF C.m q Ls (.int v :: st)))) : Go C ws Q k n (T.setTop (mkF C.m pc Ls st)) := by
  obtain ⟨vm0, SS, ⟨hx, hZ, rfl, -, hown, -⟩, ⟨_, X, -⟩, -⟩ := O; subst hq
  exact K.of fun _ kk => X.ldcInt hx hown (mvT hZ w) (g := mkF C.m pc Ls st) rfl hd _ kk
theorem ldcwI (O : On l Z ws R own nm bytes maxL ret C T h cells slots) {i : Nat} {v : Int32} (hd : decode bytes pc = .ok (.ldc_w i, 3)) (w : (Cond.constant own i v).before a0 Z = true) (hq : pc + 3 = q)
    (K : Go C ws Q k n (T.setTop (mkF C.m q Ls (.int v :: st)))) : Go C ws Q k n (T.setTop (mkF C.m pc Ls st)) := by
  obtain ⟨vm0, SS, ⟨hx, hZ, rfl, -, hown, -⟩, ⟨_, X, -⟩, -⟩ := O; subst hq
  exact K.of fun _ kk => X.ldcwInt hx hown (mvT hZ w) (g := mkF C.m pc Ls st) rfl hd _ kk
theorem ldcL (O : On l Z ws R own nm bytes maxL ret C T h cells slots) {i : Nat} {v : Int64} (hd : decode bytes pc = .ok (.ldc2_w i, 3)) (w : (Cond.constantLong own i v).before a0 Z = true) (hq : pc + 3 = q)
    (K : Go C ws Q k n (T.setTop (mkF C.m q Ls (.long v :: st)))) : Go C ws Q k n (T.setTop (mkF C.m pc Ls st)) := by
  obtain ⟨vm0, SS, ⟨hx, hZ, rfl, -, hown, -⟩, ⟨_, X, -⟩, -⟩ := O; subst hq
  exact K.of fun _ kk => X.ldc2Long hx hown (mvT hZ w) (g := mkF C.m pc Ls st) rfl hd _ kk
theorem getF (O : On l Z ws R own nm bytes maxL ret C T h cells slots) {i : Nat} {R0 D f d host : String} {a : Addr} {v : Value} (hd : decode bytes pc = .ok (.getfield i, 3)) (w : (Cond.fieldLink own i R0 f d).before a0 Z = true ∨ (Cond.fieldLinkNest own i R0 f d host).before a0 Z = true) (via : Via Z R0 D f d) (F : Fld Z h a D f d v) (hq : pc + 3 = q)
    (K : ∀ T', On l Z ws R own nm bytes maxL ret C T' h cells slots → Go C ws Q k n (T'.setTop (mkF C.m q Ls (v :: st)))) : Go C ws Q k n (T.setTop (mkF C.m pc Ls (.ref a :: st))) := by
  obtain ⟨vm0, SS, ⟨hx, hZ, rfl, r1, hown, r2⟩, ⟨_, X, N⟩, eT⟩ := O; subst hq
  obtain ⟨T', X', e', stp⟩ := Jvm.RoadKit.getF X hx hZ hown w via eT F (g := mkF C.m pc Ls (.ref a :: st)) rfl rfl hd
  exact (K T' ⟨vm0, SS, ⟨hx, hZ, rfl, r1, hown, r2⟩, ⟨_, X', N⟩, e'⟩).of fun _ kk => stp _ kk
theorem getS (O : On l Z ws R own nm bytes maxL ret C T h cells slots) {i : Nat} {D f d : String} {v : Value} (hd : decode bytes pc = .ok (.getstatic i, 3)) (w : (Cond.fieldLink own i D f d).before a0 Z = true) (F : Sta Z h D f d v) (hq : pc + 3 = q)
    (K : ∀ T', On l Z ws R own nm bytes maxL ret C T' h cells slots → Go C ws Q k n (T'.setTop (mkF C.m q Ls (v :: st)))) : Go C ws Q k n (T.setTop (mkF C.m pc Ls st)) := by
  obtain ⟨vm0, SS, ⟨hx, hZ, rfl, r1, hown, r2⟩, ⟨_, X, N⟩, eT⟩ := O; subst hq
  obtain ⟨T', X', e', stp⟩ := Jvm.RoadKit.getS (host := "") X hx hZ hown w Via.refl eT F (g := mkF C.m pc Ls st) rfl hd
  exact (K T' ⟨vm0, SS, ⟨hx, hZ, rfl, r1, hown, r2⟩, ⟨_, X', N⟩, e'⟩).of fun _ kk => stp _ kk
theorem putF (O : On l Z ws R own nm bytes maxL ret C T h cells slots) {i kk : Nat} {R0 D f d host K0 : String} {ty : FieldType} {a : Addr} {v old : Value} (hd : decode bytes pc = .ok (.putfield i, 3)) (w : (Cond.fieldLink own i R0 f d).before a0 Z = true ∨ (Cond.fieldLinkNest own i R0 f d host).before a0 Z = true) (via : Via Z R0 D f d)
    (F : Fld Z h a D f d old) (E : Exa Z h a K0) (L : (Cond.lays K0 D f d).before a0 Z = true ∨ ((Cond.laysFinal K0 D f d).before a0 Z = true ∧ own = D ∧ nm = "<init>")) (wi : (Cond.instantiable K0 kk).before a0 Z = true) (hty : parseFieldDescriptor d = some ty) (hn : narrow ty v = v) (hf : fits ty v = true) (ha : a ∈ ws ∨ C.s.heap.size ≤ a) (hq : pc + 3 = q)
    (K : ∀ T' h', On l Z ws R own nm bytes maxL ret C T' h' cells slots → Wr h h' a (Jvm.RoadKit.slotOf Z D f d) v → Go C ws Q k n (T'.setTop (mkF C.m q Ls st))) : Go C ws Q k n (T.setTop (mkF C.m pc Ls (v :: .ref a :: st))) := by
  obtain ⟨vm0, SS, ⟨hx, hZ, rfl, r1, hown, hnm, r2⟩, ⟨_, X, N⟩, eT⟩ := O; subst hq
  obtain ⟨T', h', X', e', W, stp⟩ := Jvm.RoadKit.putF X hx hZ hown w via eT F E (L.imp id fun q => ⟨q.1, q.2.1, hnm.trans q.2.2⟩) wi hty hn hf (g := mkF C.m pc Ls (v :: .ref a :: st)) rfl rfl hd
  exact (K T' h' ⟨vm0, (grow SS (wr_le W)), ⟨hx, hZ, rfl, r1, hown, hnm, r2⟩, ⟨_, X', N.snoc ha⟩, e'⟩ W).of fun _ kk => stp _ kk
theorem newO (O : On l Z ws R own nm bytes maxL ret C T h cells slots) {i ns c2 s2 : Nat} {K0 : String} (hd : decode bytes pc = .ok (.new i, 3)) (w : (Cond.classLink own i K0).before a0 Z = true) (wi : (Cond.instantiable K0 ns).before a0 Z = true) (wz : (Cond.initialized K0).before a0 Z = true) (hc2 : cells + 1 = c2) (hs2 : slots + ns = s2) (hc : c2 ≤ R.cells) (hl : s2 ≤ R.slots) (hq : pc + 3 = q)
    (K : ∀ a T' h', a = h.size → C.s.heap.size ≤ a → On l Z ws R own nm bytes maxL ret C T' h' c2 s2 → Ext h h' → Exa Z h' a K0 → (∀ {O nm d : String} {ty : FieldType}, Laid Z a0 K0 O nm d → parseFieldDescriptor d = some ty → Fld Z h' a O nm d (defaultValue ty)) → Go C ws Q k n (T'.setTop (mkF C.m q Ls (.ref a :: st)))) : Go C ws Q k n (T.setTop (mkF C.m pc Ls st)) := by
  obtain ⟨vm0, SS, ⟨hx, hZ, rfl, r1, hown, r2⟩, ⟨_, X, N⟩, eT⟩ := O; subst hq hc2 hs2
  obtain ⟨T', h', X', e', E, A, D, -, stp⟩ := Jvm.RoadKit.newO X hx hZ hown w wi wz eT (g := mkF C.m pc Ls st) rfl hd hc hl
  exact (K _ T' h' rfl (by rw [← eT]; exact X.same.2.1) ⟨vm0, (grow SS E.1), ⟨hx, hZ, rfl, r1, hown, r2⟩, ⟨_, X', N⟩, e'⟩ E A D).of fun _ kk => stp _ kk
theorem newP (O : On l Z ws R own nm bytes maxL ret C T h cells slots) {aty : ArrayType} {c2 s2 : Nat} (hd : decode bytes pc = .ok (.newarray aty, 2)) (w : (Cond.arrayClass (newarray.typeOf aty)).before a0 Z = true) {z : Int32} (hn : ¬ z < 0) {cap : Nat} (hcap : z.toNatClampNeg ≤ cap) (hb : cap * 8 ≤ 536870912) (hc2 : cells + 1 = c2) (hs2 : slots + cap = s2) (hc : c2 ≤ R.cells) (hl : s2 ≤ R.slots) (hq : pc + 2 = q)
    (K : ∀ a T' h' cA, a = h.size → C.s.heap.size ≤ a → On l Z ws R own nm bytes maxL ret C T' h' c2 s2 → Ext h h' → Arr Z h' a (newA cA (newarray.typeOf aty) z) (newarray.typeOf aty) → Go C ws Q k n (T'.setTop (mkF C.m q Ls (.ref a :: st)))) : Go C ws Q k n (T.setTop (mkF C.m pc Ls (.int z :: st))) := by
  obtain ⟨vm0, SS, ⟨hx, hZ, rfl, r1, hown, r2⟩, ⟨_, X, N⟩, eT⟩ := O; subst hq hc2 hs2
  obtain ⟨T', h', cA, X', e', E, A, stp⟩ := Jvm.RoadKit.newP X hx hZ w eT (g := mkF C.m pc Ls (.int z :: st)) rfl hd rfl hn hcap hb hc hl
  exact (K _ T' h' cA rfl (by rw [← eT]; exact X.same.2.1) ⟨vm0, (grow SS E.1), ⟨hx, hZ, rfl, r1, hown, r2⟩, ⟨_, X', N⟩, e'⟩ E A).of fun _ kk => stp _ kk
theorem initO (O : On l Z ws R own nm bytes maxL ret C T h cells slots) {i : Nat} {a : Addr} (hd : decode bytes pc = .ok (.invokespecial i, 3)) (w1 : (Cond.methodLink own i Lib.objectInit).before a0 Z = true) (w2 : (Cond.instanceMethod Lib.objectInit).before a0 Z = true) (w3 : (Cond.code Lib.objectInit ⟨#[0xb1]⟩ 1 none).before a0 Z = true) (hsz : Ls.size = maxL) (hf : 1 ≤ R.frames) {W : Nat} (hW : (st.map fun v => v.category).sum ≤ W) (hl : W + 12 ≤ R.locals) (hq : pc + 3 = q)
    (K : ∀ T', On l Z ws R own nm bytes maxL ret C T' h cells slots → Go C ws Q k n (T'.setTop (mkF C.m q Ls st))) : Go C ws Q k n (T.setTop (mkF C.m pc Ls (.ref a :: st))) := by
  obtain ⟨vm0, SS, ⟨hx, hZ, rfl, r1, hown, r2⟩, ⟨_, X, N⟩, eT⟩ := O; subst hq
  obtain ⟨T', X', e', stp⟩ := Jvm.RoadKit.initO X hx hZ hown w1 w2 w3 eT (g := mkF C.m pc Ls (.ref a :: st)) rfl (hsz.trans r1.symm) rfl hd hf (W := W) (by show 2 * 0 + _ ≤ _; rw [Nat.mul_zero, Nat.zero_add]; exact hW) hl
  exact (K T' ⟨vm0, SS, ⟨hx, hZ, rfl, r1, hown, r2⟩, ⟨_, X', N⟩, e'⟩).of fun _ kk => stp _ kk
theorem iaload (O : On l Z ws R own nm bytes maxL ret C T h cells slots) {a : Addr} {cl : Cell} {j : Int32} {v : Value} (hd : decode bytes pc = .ok (.iaload, 1)) (A : Arr Z h a cl .int) (hin : ¬ (j < 0 ∨ cl.slots.size ≤ j.toNatClampNeg)) (hv : cl.slots[j.toNatClampNeg]? = some v) (hq : pc + 1 = q)
    (K : Go C ws Q k n (T.setTop (mkF C.m q Ls (v :: st)))) : Go C ws Q k n (T.setTop (mkF C.m pc Ls (.int j :: .ref a :: st))) := by
  obtain ⟨vm0, SS, ⟨hx, hZ, rfl, -⟩, ⟨_, X, N⟩, eT⟩ := O; subst hq
  exact K.of fun _ kk => X.iaload hx (by rw [eT]; exact A.1) (State.isArrayOf_alike hZ.alike A.2.1) A.2.2 hin hv (g := mkF C.m pc Ls (.int j :: .ref a :: st)) rfl rfl hd _ kk
theorem laload (O : On l Z ws R own nm bytes maxL ret C T h cells slots) {a : Addr} {cl : Cell} {j : Int32} {v : Value} (hd : decode bytes pc = .ok (.laload, 1)) (A : Arr Z h a cl .long) (hin : ¬ (j < 0 ∨ cl.slots.size ≤ j.toNatClampNeg)) (hv : cl.slots[j.toNatClampNeg]? = some v) (hq : pc + 1 = q)
    (K : Go C ws Q k n (T.setTop (mkF C.m q Ls (v :: st)))) : Go C ws Q k n (T.setTop (mkF C.m pc Ls (.int j :: .ref a :: st))) := by
  obtain ⟨vm0, SS, ⟨hx, hZ, rfl, -⟩, ⟨_, X, N⟩, eT⟩ := O; subst hq
  exact K.of fun _ kk => X.laload hx (by rw [eT]; exact A.1) (State.isArrayOf_alike hZ.alike A.2.1) A.2.2 hin hv (g := mkF C.m pc Ls (.int j :: .ref a :: st)) rfl rfl hd _ kk
theorem baload (O : On l Z ws R own nm bytes maxL ret C T h cells slots) {a : Addr} {cl : Cell} {j : Int32} {v : Value} (hd : decode bytes pc = .ok (.baload, 1)) (A : Arr Z h a cl .byte) (hin : ¬ (j < 0 ∨ cl.slots.size ≤ j.toNatClampNeg)) (hv : cl.slots[j.toNatClampNeg]? = some v) (hq : pc + 1 = q)
    (K : Go C ws Q k n (T.setTop (mkF C.m q Ls (v :: st)))) : Go C ws Q k n (T.setTop (mkF C.m pc Ls (.int j :: .ref a :: st))) := by
  obtain ⟨vm0, SS, ⟨hx, hZ, rfl, -⟩, ⟨_, X, N⟩, eT⟩ := O; subst hq
  exact K.of fun _ kk => X.baloadBytes hx (by rw [eT]; exact A.1) (State.isArrayOf_alike hZ.alike A.2.1) A.2.2 hin hv (g := mkF C.m pc Ls (.int j :: .ref a :: st)) rfl rfl hd _ kk
theorem aaload (O : On l Z ws R own nm bytes maxL ret C T h cells slots) {a : Addr} {cl : Cell} {ty : FieldType} {j : Int32} {v : Value} (hd : decode bytes pc = .ok (.aaload, 1)) (A : Arr Z h a cl ty) (hty : ty.isReference = true) (hin : ¬ (j < 0 ∨ cl.slots.size ≤ j.toNatClampNeg)) (hv : cl.slots[j.toNatClampNeg]? = some v) (hq : pc + 1 = q)
    (K : Go C ws Q k n (T.setTop (mkF C.m q Ls (v :: st)))) : Go C ws Q k n (T.setTop (mkF C.m pc Ls (.int j :: .ref a :: st))) := by
  obtain ⟨vm0, SS, ⟨hx, hZ, rfl, -⟩, ⟨_, X, N⟩, eT⟩ := O; subst hq
  exact K.of fun _ kk => X.aaload hx (by rw [eT]; exact A.1) (State.isArrayOf_alike hZ.alike A.2.1) hty A.2.2 hin hv (g := mkF C.m pc Ls (.int j :: .ref a :: st)) rfl rfl hd _ kk
theorem arraylength (O : On l Z ws R own nm bytes maxL ret C T h cells slots) {a : Addr} {cl : Cell} {ty : FieldType} {z : Int32} (hd : decode bytes pc = .ok (.arraylength, 1)) (A : Arr Z h a cl ty) (hz : cl.slots.size.toInt32 = z) (hq : pc + 1 = q)
    (K : Go C ws Q k n (T.setTop (mkF C.m q Ls (.int z :: st)))) : Go C ws Q k n (T.setTop (mkF C.m pc Ls (.ref a :: st))) := by
  obtain ⟨vm0, SS, ⟨hx, hZ, rfl, -⟩, ⟨_, X, N⟩, eT⟩ := O; subst hq hz
  exact K.of fun _ kk => X.arraylength hx (by rw [eT]; exact A.1) (State.isArrayOf_alike hZ.alike A.2.1) (g := mkF C.m pc Ls (.ref a :: st)) rfl rfl hd _ kk
theorem iastore (O : On l Z ws R own nm bytes maxL ret C T h cells slots) {a : Addr} {cl : Cell} {j : Int32} {x : Int32} (hd : decode bytes pc = .ok (.iastore, 1)) (A : Arr Z h a cl .int) (hin : ¬ (j < 0 ∨ cl.slots.size ≤ j.toNatClampNeg)) (ha : a ∈ ws ∨ C.s.heap.size ≤ a) (hq : pc + 1 = q)
    (K : ∀ T' h', On l Z ws R own nm bytes maxL ret C T' h' cells slots → Wr h h' a j.toNatClampNeg (.int x) → Go C ws Q k n (T'.setTop (mkF C.m q Ls st))) : Go C ws Q k n (T.setTop (mkF C.m pc Ls (.int x :: .int j :: .ref a :: st))) := by
  obtain ⟨vm0, SS, ⟨hx, hZ, rfl, r1, hown, r2⟩, ⟨_, X, N⟩, eT⟩ := O; subst hq
  obtain ⟨T', h', X', e', W, stp⟩ := Jvm.RoadKit.stI X hx hZ eT A hin (g := mkF C.m pc Ls (.int x :: .int j :: .ref a :: st)) rfl rfl hd
  exact (K T' h' ⟨vm0, (grow SS (wr_le W)), ⟨hx, hZ, rfl, r1, hown, r2⟩, ⟨_, X', N.snoc ha⟩, e'⟩ W).of fun _ kk => stp _ kk
theorem lastore (O : On l Z ws R own nm bytes maxL ret C T h cells slots) {a : Addr} {cl : Cell} {j : Int32} {x : Int64} (hd : decode bytes pc = .ok (.lastore, 1)) (A : Arr Z h a cl .long) (hin : ¬ (j < 0 ∨ cl.slots.size ≤ j.toNatClampNeg)) (ha : a ∈ ws ∨ C.s.heap.size ≤ a) (hq : pc + 1 = q)
    (K : ∀ T' h', On l Z ws R own nm bytes maxL ret C T' h' cells slots → Wr h h' a j.toNatClampNeg (.long x) → Go C ws Q k n (T'.setTop (mkF C.m q Ls st))) : Go C ws Q k n (T.setTop (mkF C.m pc Ls (.long x :: .int j :: .ref a :: st))) := by
  obtain ⟨vm0, SS, ⟨hx, hZ, rfl, r1, hown, r2⟩, ⟨_, X, N⟩, eT⟩ := O; subst hq
  obtain ⟨T', h', X', e', W, stp⟩ := Jvm.RoadKit.stJ X hx hZ eT A hin (g := mkF C.m pc Ls (.long x :: .int j :: .ref a :: st)) rfl rfl hd
  exact (K T' h' ⟨vm0, (grow SS (wr_le W)), ⟨hx, hZ, rfl, r1, hown, r2⟩, ⟨_, X', N.snoc ha⟩, e'⟩ W).of fun _ kk => stp _ kk
theorem bastore (O : On l Z ws R own nm bytes maxL ret C T h cells slots) {a : Addr} {cl : Cell} {j : Int32} {x : Int32} (hd : decode bytes pc = .ok (.bastore, 1)) (A : Arr Z h a cl .byte) (hin : ¬ (j < 0 ∨ cl.slots.size ≤ j.toNatClampNeg)) (ha : a ∈ ws ∨ C.s.heap.size ≤ a) (hq : pc + 1 = q)
    (K : ∀ T' h', On l Z ws R own nm bytes maxL ret C T' h' cells slots → Wr h h' a j.toNatClampNeg (.int (nar .byte x)) → Go C ws Q k n (T'.setTop (mkF C.m q Ls st))) : Go C ws Q k n (T.setTop (mkF C.m pc Ls (.int x :: .int j :: .ref a :: st))) := by
  obtain ⟨vm0, SS, ⟨hx, hZ, rfl, r1, hown, r2⟩, ⟨_, X, N⟩, eT⟩ := O; subst hq
  obtain ⟨T', h', X', e', W, stp⟩ := Jvm.RoadKit.stB X hx hZ eT A hin (g := mkF C.m pc Ls (.int x :: .int j :: .ref a :: st)) rfl rfl hd
  exact (K T' h' ⟨vm0, (grow SS (wr_le W)), ⟨hx, hZ, rfl, r1, hown, r2⟩, ⟨_, X', N.snoc ha⟩, e'⟩ W).of fun _ kk => stp _ kk
theorem callS (O : On l Z ws R own nm bytes maxL ret C T h cells slots) {i : Nat} {y : MethodName} {yb : ByteArray} {yl : Nat} {yr : Option FieldType} {rm : Room} {argsL rest : List Value} {wsc : List Addr} {Qc : Option Value → Heap → Prop} {ps : List FieldType} {rr : Option FieldType} {W c2 s2 : Nat}
    (hd : decode bytes pc = .ok (.invokestatic i, 3)) (w1 : (Cond.methodLink own i y).before a0 Z = true) (w2 : (Cond.static y).before a0 Z = true) (w3 : (Cond.initialized y.cls).before a0 Z = true) (w4 : (Cond.code y yb yl yr).before a0 Z = true) (hy : y.cls ≠ "java/lang/invoke/MethodHandle" ∧ y.cls ≠ "java/lang/invoke/VarHandle")
    (hM : Met l Z y yb yl yr [] rm (argsL).toArray wsc h Qc) (hsz : Ls.size = maxL) (hpd : parseMethodDescriptor y.desc = some ⟨ps, rr⟩) (hlen : argsL.length = ps.length) (hst : st = argsL.reverse ++ rest) (hW : (rest.map fun v => v.category).sum ≤ W)
    (hf : rm.frames + 1 ≤ R.frames) (hl : W + (yl + 11) + rm.locals ≤ R.locals) (hc2 : cells + rm.cells = c2) (hs2 : slots + rm.slots = s2) (hcl : c2 ≤ R.cells) (hsl : s2 ≤ R.slots) (hws : ∀ x ∈ wsc, x ∈ ws ∨ C.s.heap.size ≤ x) (hq : pc + 3 = q)
    (K : ∀ v T' h', On l Z ws R own nm bytes maxL ret C T' h' c2 s2 → Keep h h' wsc → Qc v h' → Go C ws Q k n (T'.setTop (mkF C.m q Ls (v.toList ++ rest)))) : Go C ws Q k n (T.setTop (mkF C.m pc Ls st)) := by
  obtain ⟨vm0, SS, ⟨hx, hZ, rfl, r1, hown, r2⟩, ⟨locs, X, N⟩, eT⟩ := O; subst hq hc2 hs2
  obtain ⟨v, _, ⟨T', L', k', n'⟩, -, X', h2, hgr, ⟨Lc, hQ, l', y', z'⟩, stp⟩ := Jvm.RoadKit.callSS X hx (y := y) hown (mvT hZ w1) (mvT hZ w2) (mvT hZ w3) (mvT hZ w4) hy (backOfS (W := W) (Q := Post wsc rm.cells h Qc) hM hZ w4 w3 hf hl) (g := mkF C.m pc Ls st) rfl (hsz.trans r1.symm) (argsL := argsL) (rest := rest) (lenOf hpd hlen) hst (by show 2 * 0 + _ ≤ _; rw [Nat.mul_zero, Nat.zero_add]; exact hW) hd (fun _ _ => ⟨rfl, eT, hcl, hsl⟩)
  dsimp only [Pt.U, Pt.locs, Pt.cells, Pt.slots] at X' h2 hgr l' y' z' stp hQ
  subst l' y' z'
  obtain ⟨hF, hK, hE, hQ⟩ := hQ
  obtain ⟨k0, hS, hk0⟩ := SS
  obtain ⟨X', hS', hZ', hown'⟩ := rebS hS hk0 X' h2 (eT ▸ hgr) hZ hown
  have hb : C.s.heap.size ≤ h.size := by rw [← eT]; exact X.same.2.1
  exact (K v T' T'.heap ⟨T'.vm, ⟨_, hS', Nat.le_refl _⟩, ⟨hx, hZ', rfl, r1, hown', r2⟩, ⟨_, X', N.app fun y hy => (hF y hy).elim (hws _) fun z => Or.inr (Nat.le_trans hb z)⟩, rfl⟩ hK hQ).via stp
theorem callS0 (O : On l Z ws R own nm bytes maxL ret C T h cells slots) {i : Nat} {y : MethodName} {yb : ByteArray} {yl : Nat} {yr : Option FieldType} {rm : Room} {argsL rest : List Value} {wsc : List Addr} {Qc : Option Value → Heap → Prop} {ps : List FieldType} {rr : Option FieldType} {W c2 s2 : Nat}
    (hd : decode bytes pc = .ok (.invokestatic i, 3)) (w1 : (Cond.methodLink own i y).before a0 Z = true) (w2 : (Cond.static y).before a0 Z = true) (w3 : (Cond.initialized y.cls).before a0 Z = true) (w4 : (Cond.code y yb yl yr).before a0 Z = true) (hy : y.cls ≠ "java/lang/invoke/MethodHandle" ∧ y.cls ≠ "java/lang/invoke/VarHandle")
    (hM : Met l Z y yb yl yr [] rm (argsL).toArray wsc h Qc) (hsz : Ls.size = maxL) (hpd : parseMethodDescriptor y.desc = some ⟨ps, rr⟩) (hlen : argsL.length = ps.length) (hst : st = argsL.reverse ++ rest) (hW : (rest.map fun v => v.category).sum ≤ W)
    (hf : rm.frames + 1 ≤ R.frames) (hl : W + (yl + 11) + rm.locals ≤ R.locals) (hc2 : cells + rm.cells = c2) (hs2 : slots + rm.slots = s2) (hcl : c2 ≤ R.cells) (hsl : s2 ≤ R.slots) (hrc : rm.cells = 0) (hwc : wsc = []) (hq : pc + 3 = q)
    (K : ∀ v T', On l Z ws R own nm bytes maxL ret C T' h c2 s2 → Qc v h → Go C ws Q k n (T'.setTop (mkF C.m q Ls (v.toList ++ rest)))) : Go C ws Q k n (T.setTop (mkF C.m pc Ls st)) := by
  obtain ⟨vm0, SS, ⟨hx, hZ, rfl, r1, hown, r2⟩, ⟨locs, X, N⟩, eT⟩ := O; subst hq hc2 hs2
  obtain ⟨v, _, ⟨T', L', k', n'⟩, -, X', h2, hgr, ⟨Lc, hQ, l', y', z'⟩, stp⟩ := Jvm.RoadKit.callSS X hx (y := y) hown (mvT hZ w1) (mvT hZ w2) (mvT hZ w3) (mvT hZ w4) hy (backOfS (W := W) (Q := Post wsc rm.cells h Qc) hM hZ w4 w3 hf hl) (g := mkF C.m pc Ls st) rfl (hsz.trans r1.symm) (argsL := argsL) (rest := rest) (lenOf hpd hlen) hst (by show 2 * 0 + _ ≤ _; rw [Nat.mul_zero, Nat.zero_add]; exact hW) hd (fun _ _ => ⟨rfl, eT, hcl, hsl⟩)
  dsimp only [Pt.U, Pt.locs, Pt.cells, Pt.slots] at X' h2 hgr l' y' z' stp hQ
  subst l' y' z'
  obtain ⟨hF, hK, hE, hQ⟩ := hQ
  obtain ⟨k0, hS, hk0⟩ := SS
  obtain ⟨X', hS', hZ', hown'⟩ := rebS hS hk0 X' h2 (eT ▸ hgr) hZ hown
  have hb : C.s.heap.size ≤ h.size := by rw [← eT]; exact X.same.2.1
  have he : T'.heap = h := hE hrc hwc
  refine (K v T' ⟨T'.vm, ⟨_, hS', Nat.le_of_eq (congrArg Array.size he)⟩, ⟨hx, hZ', rfl, r1, hown', r2⟩, ⟨_, X', N.app fun y hy => (hF y hy).elim (fun z => by rw [hwc] at z; cases z) fun z => Or.inr (Nat.le_trans hb z)⟩, he⟩ (he ▸ hQ)).via stp
theorem callI (O : On l Z ws R own nm bytes maxL ret C T h cells slots) {i : Nat} {y : MethodName} {yb : ByteArray} {yl : Nat} {rm : Room} {argsL rest : List Value} {wsc : List Addr} {Qc : Option Value → Heap → Prop} {ps : List FieldType} {rr : Option FieldType} {W c2 s2 : Nat} {a : Addr}
    (hd : decode bytes pc = .ok (.invokespecial i, 3)) (hy1 : y.name = "<init>") (w1 : (Cond.methodLink own i y).before a0 Z = true) (w2 : (Cond.instanceMethod y).before a0 Z = true) (w3 : (Cond.initialized y.cls).before a0 Z = true) (w4 : (Cond.code y yb yl none).before a0 Z = true) (hy : y.cls ≠ "java/lang/invoke/MethodHandle" ∧ y.cls ≠ "java/lang/invoke/VarHandle")
    (hM : Met l Z y yb yl none [] rm (Value.ref a :: argsL).toArray wsc h Qc) (hsz : Ls.size = maxL) (hpd : parseMethodDescriptor y.desc = some ⟨ps, rr⟩) (hlen : argsL.length = ps.length) (hst : st = argsL.reverse ++ .ref a :: rest) (hW : (rest.map fun v => v.category).sum ≤ W)
    (hf : rm.frames + 1 ≤ R.frames) (hl : W + (yl + 11) + rm.locals ≤ R.locals) (hc2 : cells + rm.cells = c2) (hs2 : slots + rm.slots = s2) (hcl : c2 ≤ R.cells) (hsl : s2 ≤ R.slots) (hws : ∀ x ∈ wsc, x ∈ ws ∨ C.s.heap.size ≤ x) (hq : pc + 3 = q)
    (K : ∀ v T' h', On l Z ws R own nm bytes maxL ret C T' h' c2 s2 → Keep h h' wsc → Qc v h' → Go C ws Q k n (T'.setTop (mkF C.m q Ls (v.toList ++ rest)))) : Go C ws Q k n (T.setTop (mkF C.m pc Ls st)) := by
  obtain ⟨vm0, SS, ⟨hx, hZ, rfl, r1, hown, r2⟩, ⟨locs, X, N⟩, eT⟩ := O; subst hq hc2 hs2
  obtain ⟨v, _, ⟨T', L', k', n'⟩, -, X', h2, hgr, ⟨Lc, hQ, l', y', z'⟩, stp⟩ := X.specialBackS hx (y := y) hy1 hown (mvT hZ w1) (mvT hZ w2) (mvT hZ w4) hy (backOfS (W := W) (Q := Post wsc rm.cells h Qc) hM hZ w4 w3 hf hl) (g := mkF C.m pc Ls st) rfl (hsz.trans r1.symm) (Steps.refl _) (a := a) (argsL := argsL) (rest := rest) (lenOf hpd hlen) hst (by show 2 * 0 + _ ≤ _; rw [Nat.mul_zero, Nat.zero_add]; exact hW) hd (fun _ _ => ⟨rfl, eT, hcl, hsl⟩)
  dsimp only [Pt.U, Pt.locs, Pt.cells, Pt.slots] at X' h2 hgr l' y' z' stp hQ
  subst l' y' z'
  obtain ⟨hF, hK, hE, hQ⟩ := hQ
  obtain ⟨k0, hS, hk0⟩ := SS
  obtain ⟨X', hS', hZ', hown'⟩ := rebS hS hk0 X' h2 (eT ▸ hgr) hZ hown
  have hb : C.s.heap.size ≤ h.size := by rw [← eT]; exact X.same.2.1
  exact (K v T' T'.heap ⟨T'.vm, ⟨_, hS', Nat.le_refl _⟩, ⟨hx, hZ', rfl, r1, hown', r2⟩, ⟨_, X', N.app fun y hy => (hF y hy).elim (hws _) fun z => Or.inr (Nat.le_trans hb z)⟩, rfl⟩ hK hQ).via (stp)
theorem callI0 (O : On l Z ws R own nm bytes maxL ret C T h cells slots) {i : Nat} {y : MethodName} {yb : ByteArray} {yl : Nat} {rm : Room} {argsL rest : List Value} {wsc : List Addr} {Qc : Option Value → Heap → Prop} {ps : List FieldType} {rr : Option FieldType} {W c2 s2 : Nat} {a : Addr}
    (hd : decode bytes pc = .ok (.invokespecial i, 3)) (hy1 : y.name = "<init>") (w1 : (Cond.methodLink own i y).before a0 Z = true) (w2 : (Cond.instanceMethod y).before a0 Z = true) (w3 : (Cond.initialized y.cls).before a0 Z = true) (w4 : (Cond.code y yb yl none).before a0 Z = true) (hy : y.cls ≠ "java/lang/invoke/MethodHandle" ∧ y.cls ≠ "java/lang/invoke/VarHandle")
    (hM : Met l Z y yb yl none [] rm (Value.ref a :: argsL).toArray wsc h Qc) (hsz : Ls.size = maxL) (hpd : parseMethodDescriptor y.desc = some ⟨ps, rr⟩) (hlen : argsL.length = ps.length) (hst : st = argsL.reverse ++ .ref a :: rest) (hW : (rest.map fun v => v.category).sum ≤ W)
    (hf : rm.frames + 1 ≤ R.frames) (hl : W + (yl + 11) + rm.locals ≤ R.locals) (hc2 : cells + rm.cells = c2) (hs2 : slots + rm.slots = s2) (hcl : c2 ≤ R.cells) (hsl : s2 ≤ R.slots) (hrc : rm.cells = 0) (hwc : wsc = []) (hq : pc + 3 = q)
    (K : ∀ v T', On l Z ws R own nm bytes maxL ret C T' h c2 s2 → Qc v h → Go C ws Q k n (T'.setTop (mkF C.m q Ls (v.toList ++ rest)))) : Go C ws Q k n (T.setTop (mkF C.m pc Ls st)) := by
  obtain ⟨vm0, SS, ⟨hx, hZ, rfl, r1, hown, r2⟩, ⟨locs, X, N⟩, eT⟩ := O; subst hq hc2 hs2
  obtain ⟨v, _, ⟨T', L', k', n'⟩, -, X', h2, hgr, ⟨Lc, hQ, l', y', z'⟩, stp⟩ := X.specialBackS hx (y := y) hy1 hown (mvT hZ w1) (mvT hZ w2) (mvT hZ w4) hy (backOfS (W := W) (Q := Post wsc rm.cells h Qc) hM hZ w4 w3 hf hl) (g := mkF C.m pc Ls st) rfl (hsz.trans r1.symm) (Steps.refl _) (a := a) (argsL := argsL) (rest := rest) (lenOf hpd hlen) hst (by show 2 * 0 + _ ≤ _; rw [Nat.mul_zero, Nat.zero_add]; exact hW) hd (fun _ _ => ⟨rfl, eT, hcl, hsl⟩)
  dsimp only [Pt.U, Pt.locs, Pt.cells, Pt.slots] at X' h2 hgr l' y' z' stp hQ
  subst l' y' z'
  obtain ⟨hF, hK, hE, hQ⟩ := hQ
  obtain ⟨k0, hS, hk0⟩ := SS
  obtain ⟨X', hS', hZ', hown'⟩ := rebS hS hk0 X' h2 (eT ▸ hgr) hZ hown
  have hb : C.s.heap.size ≤ h.size := by rw [← eT]; exact X.same.2.1
  have he : T'.heap = h := hE hrc hwc
  refine (K v T' ⟨T'.vm, ⟨_, hS', Nat.le_of_eq (congrArg Array.size he)⟩, ⟨hx, hZ', rfl, r1, hown', r2⟩, ⟨_, X', N.app fun y hy => (hF y hy).elim (fun z => by rw [hwc] at z; cases z) fun z => Or.inr (Nat.le_trans hb z)⟩, he⟩ (he ▸ hQ)).via (stp)
theorem callV (O : On l Z ws R own nm bytes maxL ret C T h cells slots) {i : Nat} {y z : MethodName} {yb : ByteArray} {yl : Nat} {yr : Option FieldType} {rm : Room} {argsL rest : List Value} {wsc : List Addr} {Qc : Option Value → Heap → Prop} {ps : List FieldType} {rr : Option FieldType} {W c2 s2 : Nat} {a : Addr} {K0 : String}
    (hd : decode bytes pc = .ok (.invokevirtual i, 3)) (w1 : (Cond.methodLink own i y).before a0 Z = true) (wd : (Cond.declares y).before a0 Z = true) (ws1 : (Cond.selects K0 y z).before a0 Z = true) (hyz : y = z) (w2 : (Cond.instanceMethod z).before a0 Z = true) (w3 : (Cond.initialized z.cls).before a0 Z = true) (w4 : (Cond.code z yb yl yr).before a0 Z = true) (hy : y.cls ≠ "java/lang/invoke/MethodHandle" ∧ y.cls ≠ "java/lang/invoke/VarHandle")
    (hM : Met l Z z yb yl yr [] rm (Value.ref a :: argsL).toArray wsc h Qc) (E : Exa Z h a K0) (hsz : Ls.size = maxL) (hpd : parseMethodDescriptor y.desc = some ⟨ps, rr⟩) (hlen : argsL.length = ps.length) (hst : st = argsL.reverse ++ .ref a :: rest) (hW : (rest.map fun v => v.category).sum ≤ W)
    (hf : rm.frames + 1 ≤ R.frames) (hl : W + (yl + 11) + rm.locals ≤ R.locals) (hc2 : cells + rm.cells = c2) (hs2 : slots + rm.slots = s2) (hcl : c2 ≤ R.cells) (hsl : s2 ≤ R.slots) (hws : ∀ x ∈ wsc, x ∈ ws ∨ C.s.heap.size ≤ x) (hq : pc + 3 = q)
    (K : ∀ v T' h', On l Z ws R own nm bytes maxL ret C T' h' c2 s2 → Keep h h' wsc → Qc v h' → Go C ws Q k n (T'.setTop (mkF C.m q Ls (v.toList ++ rest)))) : Go C ws Q k n (T.setTop (mkF C.m pc Ls st)) := by
  obtain ⟨vm0, SS, ⟨hx, hZ, rfl, r1, hown, r2⟩, ⟨locs, X, N⟩, eT⟩ := O; subst hq hc2 hs2
  subst hyz
  obtain ⟨_, _, q1, -, q3⟩ := isOf hZ eT E
  obtain ⟨v, _, ⟨T', L', k', n'⟩, -, X', h2, hgr, ⟨Lc, hQ, l', y', z'⟩, stp⟩ := X.virtualBackS hx (y := y) (z := y) hown (mvT hZ w1) (mvT hZ wd) (notFace_of_selects (args := #[]) (mvT hZ ws1)) (mvT hZ ws1) (mvT hZ w2) hy (backOfS (W := W) (Q := Post wsc rm.cells h Qc) hM hZ w4 w3 hf hl) q1 q3 (g := mkF C.m pc Ls st) rfl (hsz.trans r1.symm) (Steps.refl _) (argsL := argsL) (rest := rest) (lenOf hpd hlen) hst (by show 2 * 0 + _ ≤ _; rw [Nat.mul_zero, Nat.zero_add]; exact hW) hd (fun _ _ => ⟨rfl, eT, hcl, hsl⟩)
  dsimp only [Pt.U, Pt.locs, Pt.cells, Pt.slots] at X' h2 hgr l' y' z' stp hQ
  subst l' y' z'
  obtain ⟨hF, hK, hE, hQ⟩ := hQ
  obtain ⟨k0, hS, hk0⟩ := SS
  obtain ⟨X', hS', hZ', hown'⟩ := rebS hS hk0 X' h2 (eT ▸ hgr) hZ hown
  have hb : C.s.heap.size ≤ h.size := by rw [← eT]; exact X.same.2.1
  exact (K v T' T'.heap ⟨T'.vm, ⟨_, hS', Nat.le_refl _⟩, ⟨hx, hZ', rfl, r1, hown', r2⟩, ⟨_, X', N.app fun y hy => (hF y hy).elim (hws _) fun z => Or.inr (Nat.le_trans hb z)⟩, rfl⟩ hK hQ).via (stp)
theorem callV0 (O : On l Z ws R own nm bytes maxL ret C T h cells slots) {i : Nat} {y z : MethodName} {yb : ByteArray} {yl : Nat} {yr : Option FieldType} {rm : Room} {argsL rest : List Value} {wsc : List Addr} {Qc : Option Value → Heap → Prop} {ps : List FieldType} {rr : Option FieldType} {W c2 s2 : Nat} {a : Addr} {K0 : String}
    (hd : decode bytes pc = .ok (.invokevirtual i, 3)) (w1 : (Cond.methodLink own i y).before a0 Z = true) (wd : (Cond.declares y).before a0 Z = true) (ws1 : (Cond.selects K0 y z).before a0 Z = true) (hyz : y = z) (w2 : (Cond.instanceMethod z).before a0 Z = true) (w3 : (Cond.initialized z.cls).before a0 Z = true) (w4 : (Cond.code z yb yl yr).before a0 Z = true) (hy : y.cls ≠ "java/lang/invoke/MethodHandle" ∧ y.cls ≠ "java/lang/invoke/VarHandle")
    (hM : Met l Z z yb yl yr [] rm (Value.ref a :: argsL).toArray wsc h Qc) (E : Exa Z h a K0) (hsz : Ls.size = maxL) (hpd : parseMethodDescriptor y.desc = some ⟨ps, rr⟩) (hlen : argsL.length = ps.length) (hst : st = argsL.reverse ++ .ref a :: rest) (hW : (rest.map fun v => v.category).sum ≤ W)
    (hf : rm.frames + 1 ≤ R.frames) (hl : W + (yl + 11) + rm.locals ≤ R.locals) (hc2 : cells + rm.cells = c2) (hs2 : slots + rm.slots = s2) (hcl : c2 ≤ R.cells) (hsl : s2 ≤ R.slots) (hrc : rm.cells = 0) (hwc : wsc = []) (hq : pc + 3 = q)
    (K : ∀ v T', On l Z ws R own nm bytes maxL ret C T' h c2 s2 → Qc v h → Go C ws Q k n (T'.setTop (mkF C.m q Ls (v.toList ++ rest)))) : Go C ws Q k n (T.setTop (mkF C.m pc Ls st)) := by
  obtain ⟨vm0, SS, ⟨hx, hZ, rfl, r1, hown, r2⟩, ⟨locs, X, N⟩, eT⟩ := O; subst hq hc2 hs2
  subst hyz
  obtain ⟨_, _, q1, -, q3⟩ := isOf hZ eT E
  obtain ⟨v, _, ⟨T', L', k', n'⟩, -, X', h2, hgr, ⟨Lc, hQ, l', y', z'⟩, stp⟩ := X.virtualBackS hx (y := y) (z := y) hown (mvT hZ w1) (mvT hZ wd) (notFace_of_selects (args := #[]) (mvT hZ ws1)) (mvT hZ ws1) (mvT hZ w2) hy (backOfS (W := W) (Q := Post wsc rm.cells h Qc) hM hZ w4 w3 hf hl) q1 q3 (g := mkF C.m pc Ls st) rfl (hsz.trans r1.symm) (Steps.refl _) (argsL := argsL) (rest := rest) (lenOf hpd hlen) hst (by show 2 * 0 + _ ≤ _; rw [Nat.mul_zero, Nat.zero_add]; exact hW) hd (fun _ _ => ⟨rfl, eT, hcl, hsl⟩)
  dsimp only [Pt.U, Pt.locs, Pt.cells, Pt.slots] at X' h2 hgr l' y' z' stp hQ
  subst l' y' z'
  obtain ⟨hF, hK, hE, hQ⟩ := hQ
  obtain ⟨k0, hS, hk0⟩ := SS
  obtain ⟨X', hS', hZ', hown'⟩ := rebS hS hk0 X' h2 (eT ▸ hgr) hZ hown
  have hb : C.s.heap.size ≤ h.size := by rw [← eT]; exact X.same.2.1
  have he : T'.heap = h := hE hrc hwc
  refine (K v T' ⟨T'.vm, ⟨_, hS', Nat.le_of_eq (congrArg Array.size he)⟩, ⟨hx, hZ', rfl, r1, hown', r2⟩, ⟨_, X', N.app fun y hy => (hF y hy).elim (fun z => by rw [hwc] at z; cases z) fun z => Or.inr (Nat.le_trans hb z)⟩, he⟩ (he ▸ hQ)).via (stp)
theorem callP (O : On l Z ws R own nm bytes maxL ret C T h cells slots) {i : Nat} {y : MethodName} {yb : ByteArray} {yl : Nat} {yr : Option FieldType} {rm : Room} {argsL rest : List Value} {wsc : List Addr} {Qc : Option Value → Heap → Prop} {ps : List FieldType} {rr : Option FieldType} {W c2 s2 : Nat} {a : Addr} {K0 : String} {ik : Nat}
    (hd : decode bytes pc = .ok (.invokevirtual i, 3)) (w1 : (Cond.methodLink own i y).before a0 Z = true) (w2 : (Cond.instanceMethod y).before a0 Z = true) (wp : (Cond.privateMethod y).before a0 Z = true) (wi : (Cond.instantiable y.cls ik).before a0 Z = true) (w3 : (Cond.initialized y.cls).before a0 Z = true) (w4 : (Cond.code y yb yl yr).before a0 Z = true) (hy : y.cls ≠ "java/lang/invoke/MethodHandle" ∧ y.cls ≠ "java/lang/invoke/VarHandle")
    (hM : Met l Z y yb yl yr [] rm (Value.ref a :: argsL).toArray wsc h Qc) (E : Exa Z h a K0) (hsz : Ls.size = maxL) (hpd : parseMethodDescriptor y.desc = some ⟨ps, rr⟩) (hlen : argsL.length = ps.length) (hst : st = argsL.reverse ++ .ref a :: rest) (hW : (rest.map fun v => v.category).sum ≤ W)
    (hf : rm.frames + 1 ≤ R.frames) (hl : W + (yl + 11) + rm.locals ≤ R.locals) (hc2 : cells + rm.cells = c2) (hs2 : slots + rm.slots = s2) (hcl : c2 ≤ R.cells) (hsl : s2 ≤ R.slots) (hws : ∀ x ∈ wsc, x ∈ ws ∨ C.s.heap.size ≤ x) (hq : pc + 3 = q)
    (K : ∀ v T' h', On l Z ws R own nm bytes maxL ret C T' h' c2 s2 → Keep h h' wsc → Qc v h' → Go C ws Q k n (T'.setTop (mkF C.m q Ls (v.toList ++ rest)))) : Go C ws Q k n (T.setTop (mkF C.m pc Ls st)) := by
  obtain ⟨vm0, SS, ⟨hx, hZ, rfl, r1, hown, r2⟩, ⟨locs, X, N⟩, eT⟩ := O; subst hq hc2 hs2
  obtain ⟨cI, kI, i1, i2, -, i4, -⟩ := Cond.instantiable_spec (mvT (args := C.args) hZ wi)
  have hpv : (C.s.setVm vm0).PrivateAt y := Cond.privateMethod_at (mvP (args := #[]) hZ wp)
  have hsel := selects_self_of_private i1 i2 (Bool.or_eq_false_iff.mp i4).1 hpv (mvT (args := C.args) hZ w2) hy
  obtain ⟨cq, q1, q2⟩ := E.cell
  obtain ⟨v, _, ⟨T', L', k', n'⟩, -, X', h2, hgr, ⟨Lc, hQ, l', y', z'⟩, stp⟩ := X.privateBackS hx (y := y) hown (mvT hZ w1) (mvT hZ w2) hsel hpv (mvT hZ w4) hy (backOfS (W := W) (Q := Post wsc rm.cells h Qc) hM hZ w4 w3 hf hl) (g := mkF C.m pc Ls st) rfl (hsz.trans r1.symm) (Steps.refl _) (a := a) (by rw [eT]; exact q1) q2 (argsL := argsL) (rest := rest) (lenOf hpd hlen) hst (by show 2 * 0 + _ ≤ _; rw [Nat.mul_zero, Nat.zero_add]; exact hW) hd (fun _ _ => ⟨rfl, eT, hcl, hsl⟩)
  dsimp only [Pt.U, Pt.locs, Pt.cells, Pt.slots] at X' h2 hgr l' y' z' stp hQ
  subst l' y' z'
  obtain ⟨hF, hK, hE, hQ⟩ := hQ
  obtain ⟨k0, hS, hk0⟩ := SS
  obtain ⟨X', hS', hZ', hown'⟩ := rebS hS hk0 X' h2 (eT ▸ hgr) hZ hown
  have hb : C.s.heap.size ≤ h.size := by rw [← eT]; exact X.same.2.1
  exact (K v T' T'.heap ⟨T'.vm, ⟨_, hS', Nat.le_refl _⟩, ⟨hx, hZ', rfl, r1, hown', r2⟩, ⟨_, X', N.app fun y hy => (hF y hy).elim (hws _) fun z => Or.inr (Nat.le_trans hb z)⟩, rfl⟩ hK hQ).via (stp)
theorem callP0 (O : On l Z ws R own nm bytes maxL ret C T h cells slots) {i : Nat} {y : MethodName} {yb : ByteArray} {yl : Nat} {yr : Option FieldType} {rm : Room} {argsL rest : List Value} {wsc : List Addr} {Qc : Option Value → Heap → Prop} {ps : List FieldType} {rr : Option FieldType} {W c2 s2 : Nat} {a : Addr} {K0 : String} {ik : Nat}
    (hd : decode bytes pc = .ok (.invokevirtual i, 3)) (w1 : (Cond.methodLink own i y).before a0 Z = true) (w2 : (Cond.instanceMethod y).before a0 Z = true) (wp : (Cond.privateMethod y).before a0 Z = true) (wi : (Cond.instantiable y.cls ik).before a0 Z = true) (w3 : (Cond.initialized y.cls).before a0 Z = true) (w4 : (Cond.code y yb yl yr).before a0 Z = true) (hy : y.cls ≠ "java/lang/invoke/MethodHandle" ∧ y.cls ≠ "java/lang/invoke/VarHandle")
    (hM : Met l Z y yb yl yr [] rm (Value.ref a :: argsL).toArray wsc h Qc) (E : Exa Z h a K0) (hsz : Ls.size = maxL) (hpd : parseMethodDescriptor y.desc = some ⟨ps, rr⟩) (hlen : argsL.length = ps.length) (hst : st = argsL.reverse ++ .ref a :: rest) (hW : (rest.map fun v => v.category).sum ≤ W)
    (hf : rm.frames + 1 ≤ R.frames) (hl : W + (yl + 11) + rm.locals ≤ R.locals) (hc2 : cells + rm.cells = c2) (hs2 : slots + rm.slots = s2) (hcl : c2 ≤ R.cells) (hsl : s2 ≤ R.slots) (hrc : rm.cells = 0) (hwc : wsc = []) (hq : pc + 3 = q)
    (K : ∀ v T', On l Z ws R own nm bytes maxL ret C T' h c2 s2 → Qc v h → Go C ws Q k n (T'.setTop (mkF C.m q Ls (v.toList ++ rest)))) : Go C ws Q k n (T.setTop (mkF C.m pc Ls st)) := by
  obtain ⟨vm0, SS, ⟨hx, hZ, rfl, r1, hown, r2⟩, ⟨locs, X, N⟩, eT⟩ := O; subst hq hc2 hs2
  obtain ⟨cI, kI, i1, i2, -, i4, -⟩ := Cond.instantiable_spec (mvT (args := C.args) hZ wi)
  have hpv : (C.s.setVm vm0).PrivateAt y := Cond.privateMethod_at (mvP (args := #[]) hZ wp)
  have hsel := selects_self_of_private i1 i2 (Bool.or_eq_false_iff.mp i4).1 hpv (mvT (args := C.args) hZ w2) hy
  obtain ⟨cq, q1, q2⟩ := E.cell
  obtain ⟨v, _, ⟨T', L', k', n'⟩, -, X', h2, hgr, ⟨Lc, hQ, l', y', z'⟩, stp⟩ := X.privateBackS hx (y := y) hown (mvT hZ w1) (mvT hZ w2) hsel hpv (mvT hZ w4) hy (backOfS (W := W) (Q := Post wsc rm.cells h Qc) hM hZ w4 w3 hf hl) (g := mkF C.m pc Ls st) rfl (hsz.trans r1.symm) (Steps.refl _) (a := a) (by rw [eT]; exact q1) q2 (argsL := argsL) (rest := rest) (lenOf hpd hlen) hst (by show 2 * 0 + _ ≤ _; rw [Nat.mul_zero, Nat.zero_add]; exact hW) hd (fun _ _ => ⟨rfl, eT, hcl, hsl⟩)
  dsimp only [Pt.U, Pt.locs, Pt.cells, Pt.slots] at X' h2 hgr l' y' z' stp hQ
  subst l' y' z'
  obtain ⟨hF, hK, hE, hQ⟩ := hQ
  obtain ⟨k0, hS, hk0⟩ := SS
  obtain ⟨X', hS', hZ', hown'⟩ := rebS hS hk0 X' h2 (eT ▸ hgr) hZ hown
  have hb : C.s.heap.size ≤ h.size := by rw [← eT]; exact X.same.2.1
  have he : T'.heap = h := hE hrc hwc
  refine (K v T' ⟨T'.vm, ⟨_, hS', Nat.le_of_eq (congrArg Array.size he)⟩, ⟨hx, hZ', rfl, r1, hown', r2⟩, ⟨_, X', N.app fun y hy => (hF y hy).elim (fun z => by rw [hwc] at z; cases z) fun z => Or.inr (Nat.le_trans hb z)⟩, he⟩ (he ▸ hQ)).via (stp)
theorem ldcStr (O : On l Z ws R own nm bytes maxL ret C T h cells slots) {i : Nat} {text : String} {cap c2 s2 : Nat} (hd : decode bytes pc = .ok (.ldc i, 2)) (w : (Cond.stringLink own i text).before a0 Z = true) (wS : ∀ a ∈ Bundle.stringAtoms, a.before a0 Z = true) (hcap : 4 * text.toList.length ≤ cap) (hb : cap ≤ 536870912) (hc2 : cells + 2 = c2) (hs2 : slots + (cap + 4) = s2) (hc : c2 ≤ R.cells) (hl : s2 ≤ R.slots) (hq : pc + 2 = q)
    (K : ∀ a T' h', On l Z ws R own nm bytes maxL ret C T' h' c2 s2 → Ext h h' → Go C ws Q k n (T'.setTop (mkF C.m q Ls (.ref a :: st)))) : Go C ws Q k n (T.setTop (mkF C.m pc Ls st)) := by
  obtain ⟨vm0, ⟨k0, hS, hk0⟩, ⟨hx, hZ, rfl, r1, hown, r2⟩, ⟨_, X, N⟩, eT⟩ := O; subst hq hc2 hs2
  obtain ⟨a, T', h', k1, X', e', E, hS', hk1, hZ', hown', stp⟩ := Jvm.RoadKit.ldcS X hx hZ hown w wS eT hS hk0 (g := mkF C.m pc Ls st) rfl hd hcap hb hc hl
  exact (K a T' h' ⟨T'.vm, ⟨k1, hS', hk1⟩, ⟨hx, hZ', rfl, r1, hown', r2⟩, ⟨_, X', N⟩, e'⟩ E).of fun _ kk => stp _ kk
theorem tltL {x y : Int64} (h : x < y) : ifCond.holds .lt (lcmpW x y) = true ∧ ifCond.holds .ge (lcmpW x y) = false ∧ ifCond.holds .gt (lcmpW y x) = true ∧ ifCond.holds .le (lcmpW y x) = false := by
  rw [if0, if0, if0, if0]
  exact ⟨(tlt ((lw_lt x y).mpr h)).1, (tlt ((lw_lt x y).mpr h)).2.1, (tlt ((lw_gt y x).mpr h)).2.2.1, (tlt ((lw_gt y x).mpr h)).2.2.2⟩
theorem fltL {x y : Int64} (h : ¬ x < y) : ifCond.holds .lt (lcmpW x y) = false ∧ ifCond.holds .ge (lcmpW x y) = true ∧ ifCond.holds .gt (lcmpW y x) = false ∧ ifCond.holds .le (lcmpW y x) = true := by
  rw [if0, if0, if0, if0]
  have h1 : ¬ lcmpW x y < 0 := fun q => h ((lw_lt x y).mp q)
  have h2 : ¬ 0 < lcmpW y x := fun q => h ((lw_gt y x).mp q)
  exact ⟨(flt h1).1, (flt h1).2.1, (flt h2).2.2.1, (flt h2).2.2.2⟩
theorem teqL {x y : Int64} (h : x = y) : ifCond.holds .eq (lcmpW x y) = true ∧ ifCond.holds .ne (lcmpW x y) = false := by
  rw [if0, if0]; exact teq ((lw_eq x y).mpr h)
theorem feqL {x y : Int64} (h : ¬ x = y) : ifCond.holds .eq (lcmpW x y) = false ∧ ifCond.holds .ne (lcmpW x y) = true := by
  rw [if0, if0]; exact feq fun q => h ((lw_eq x y).mp q)
theorem tlt0 {x : Int32} (h : x < 0) : ifCond.holds .lt x = true ∧ ifCond.holds .ge x = false := by rw [if0, if0]; exact ⟨(tlt h).1, (tlt h).2.1⟩
theorem flt0 {x : Int32} (h : ¬ x < 0) : ifCond.holds .lt x = false ∧ ifCond.holds .ge x = true := by rw [if0, if0]; exact ⟨(flt h).1, (flt h).2.1⟩
theorem tgt0 {x : Int32} (h : 0 < x) : ifCond.holds .gt x = true ∧ ifCond.holds .le x = false := by rw [if0, if0]; exact ⟨(tlt h).2.2.1, (tlt h).2.2.2⟩
theorem fgt0 {x : Int32} (h : ¬ 0 < x) : ifCond.holds .gt x = false ∧ ifCond.holds .le x = true := by rw [if0, if0]; exact ⟨(flt h).2.2.1, (flt h).2.2.2⟩
theorem teq0 {x : Int32} (h : x = 0) : ifCond.holds .eq x = true ∧ ifCond.holds .ne x = false := by rw [if0, if0]; exact teq h
theorem feq0 {x : Int32} (h : ¬ x = 0) : ifCond.holds .eq x = false ∧ ifCond.holds .ne x = true := by rw [if0, if0]; exact feq h
end Steps
end Jvm.OwnW

namespace Jvm.OwnW
open Sem ClassFile Op Lib Jvm.Free Jvm.Stand Jvm.LawKit Jvm.RoadKit
/-- an array of n places of the kind ty; place j holds f j -/
def Ar (Z : State) (h : Heap) (a : Addr) (ty : FieldType) (n : Nat) (f : Nat → Value) : Prop := ∃ cl : Cell, Arr Z h a cl ty ∧ cl.slots.size = n ∧ n < 2147483648 ∧ ∀ j, j < n → cl.slots[j]? = some (f j)
/-- the values of a list by their places -/
def lf (vs : List Value) : Nat → Value := fun j => vs.getD j .null
def updV (f : Nat → Value) (i : Nat) (v : Value) : Nat → Value := fun j => if j = i then v else f j
section Arrs
variable {Z : State} {h h' : Heap} {a b : Addr} {ty : FieldType} {n i sl : Nat} {f g : Nat → Value} {v : Value} {ws : List Addr} {vs : List Value}
theorem Ar.lt (F : Ar Z h a ty n f) : a < h.size := by obtain ⟨_, A, -⟩ := F; exact A.lt
theorem Ar.ext (F : Ar Z h a ty n f) (E : Ext h h') : Ar Z h' a ty n f := by obtain ⟨c, A, r⟩ := F; exact ⟨c, A.ext E, r⟩
theorem Ar.keep (F : Ar Z h a ty n f) (K : Keep h h' ws) (q : a ∉ ws) : Ar Z h' a ty n f := by obtain ⟨c, A, r⟩ := F; exact ⟨c, ⟨K.2.1 a c A.1 q, A.2⟩, r⟩
theorem Ar.other (F : Ar Z h b ty n f) (W : Wr h h' a sl v) (q : b ≠ a) : Ar Z h' b ty n f := by obtain ⟨c, A, r⟩ := F; exact ⟨c, A.other W q, r⟩
theorem Ar.congr (F : Ar Z h a ty n f) (q : ∀ j, j < n → f j = g j) : Ar Z h a ty n g := by obtain ⟨c, A, r1, r2, r3⟩ := F; exact ⟨c, A, r1, r2, fun j hj => by rw [r3 j hj, q j hj]⟩
theorem Ar.small (F : Ar Z h a ty n f) : n < 2147483648 := by obtain ⟨c, A, r1, r2, r3⟩ := F; exact r2
theorem toNat_of {z : Int32} {n : Nat} (hz : z.toInt = n) : z.toNatClampNeg = n := by simp only [Int32.toNatClampNeg, hz, Int.toNat_natCast]
theorem Ar.new {k : ClassId} {z : Int32} (A : Arr Z h a (newA k ty z) ty) (hz : z.toInt = n) : Ar Z h a ty n (fun _ => defaultValue ty) := by
  have q := toNat_of hz
  refine ⟨_, A, by rw [sz_new, q], ?_, fun j hj => ?_⟩
  · have := z.toInt_lt; omega
  · simp [newA, q, hj]
theorem Ar.set (F : Ar Z h a ty n f) (W : Wr h h' a i v) (hi : i < n) : Ar Z h' a ty n (updV f i v) := by
  obtain ⟨c, A, r1, r2, r3⟩ := F
  refine ⟨_, A.same W, by rw [sz_set]; exact r1, r2, fun j hj => ?_⟩
  by_cases e : j = i
  · subst e; simp [Cell.setSlot, updV, r1, hi]
  · simp only [Cell.setSlot, updV, if_neg e]; rw [Array.getElem?_setIfInBounds_ne (Ne.symm e)]; exact r3 j hj
theorem Ar.setL (F : Ar Z h a ty n (lf vs)) (W : Wr h h' a i v) (hi : i < n) (hl : i < vs.length) : Ar Z h' a ty n (lf (vs.set i v)) := (F.set W hi).congr fun j _ => by
  simp only [updV, lf, List.getD_eq_getElem?_getD]
  by_cases e : j = i
  · subst e; simp [hl]
  · rw [if_neg e, List.getElem?_set_ne (Ne.symm e)]
theorem lf_rep (n : Nat) (d : Value) (j : Nat) (hj : j < n) : d = lf (List.replicate n d) j := by simp [lf, hj]
theorem updV_lf (L : List Value) (hi : i < L.length) : updV (lf L) i v = lf (L.set i v) := by
  funext j
  simp only [updV, lf, List.getD_eq_getElem?_getD]
  by_cases e : j = i
  · subst e; simp [hi]
  · rw [if_neg e, List.getElem?_set_ne (Ne.symm e)]
theorem fill_step (N : Nat → Value) (d : Value) (i j : Nat) : updV (fun j => if j < i then N j else d) i (N i) j = if j < i + 1 then N j else d := by
  simp only [updV]
  by_cases e : j = i
  · subst e; rw [if_pos rfl, if_pos (Nat.lt_succ_self j)]
  · rw [if_neg e]
    by_cases q : j < i
    · rw [if_pos q, if_pos (by omega)]
    · rw [if_neg q, if_neg (by omega)]
theorem Ar.of_arr' {cl : Cell} (A : Arr Z h a cl ty) (hn : cl.slots.size = n) (h31 : n < 2147483648) : Ar Z h a ty n (fun j => (cl.slots[j]?).getD .null) :=
  ⟨cl, A, hn, h31, fun j hj => by simp [hn, hj]⟩
theorem staKeep1 {D n d K0 : String} (F : Sta Z h D n d v) (K : Keep h h' [a]) (E : Exa Z h a K0) : Sta Z h' D n d v := by
  obtain ⟨cf, i, k, f, st, cell, h1, h2, h3, h4, h5, h6, r⟩ := F
  refine ⟨cf, i, k, f, st, cell, h1, h2, h3, h4, K.2.1 _ _ h5 (fun q => ?_), h6, r⟩
  obtain ⟨c, _, e1, -, -, e4, -⟩ := E
  cases List.mem_singleton.mp q
  cases h5.symm.trans e1
  rw [e4] at h6; cases h6
theorem Ar.of_arr {cl : Cell} (A : Arr Z h a cl ty) (hn : cl.slots.size = n) (h31 : n < 2147483648) : ∃ f, Ar Z h a ty n f :=
  ⟨fun j => cl.slots.getD j .null, cl, A, hn, h31, fun j hj => by simp [Array.getD, hn, hj]⟩
theorem staKeep {D n d : String} (F : Sta Z h D n d v) (K : Keep h h' []) : Sta Z h' D n d v := by
  obtain ⟨cf, i, k, f, st, cell, h1, h2, h3, h4, h5, r⟩ := F
  exact ⟨cf, i, k, f, st, cell, h1, h2, h3, h4, K.2.1 _ _ h5 (fun q => nomatch q), r⟩
theorem lenEq {t : Term} {args : Array Value} {s : State} {cl : Cell} {z : Int32} (et : t.eval args s none [] s = some (.ref a)) (ha : s.arrayAt? a = some cl) (hc : (Cond.eq (.length t) (.int z)).value args s none s [] = some true) : cl.slots.size.toInt32 = z ∧ cl.slots.size < 2147483648 := by
  by_cases hb : cl.slots.size < 2 ^ 31
  · exact ⟨gotT (Cond.eq_ints (len_f et ha hb) (Term.int_eval z)) hc, hb⟩
  · obtain ⟨x, y, q1, -⟩ := cmp_v (Or.inl hc)
    simp [Term.eval, et, ha, hb] at q1
theorem inb {z : Int32} {m : Nat} (hz : z.toInt = (i : Int)) (hm : m = n) (hi : i < n) : ¬ (z < 0 ∨ m ≤ z.toNatClampNeg) := by
  rw [toNat_of hz, Int32.lt_iff_toInt_lt, hz, hm]
  have : (0 : Int32).toInt = 0 := rfl
  rw [this]; omega
theorem len32 {m : Nat} {z : Int32} (hm : m = n) (hn : n < 2147483648) (hz : z.toInt = n) : m.toInt32 = z := by
  apply Int32.toInt_inj.mp; rw [hz, hm]; exact len_toInt hn
end Arrs
section ArrSteps
variable {l : Launch} {Z : State} {a0 : Array Value} {ws : List Addr} {R : Room} {own nm : String} {bytes : ByteArray} {maxL : Nat} {ret : Option FieldType} {C : Ctx} {T : State} {h : Heap} {cells slots k n : Nat} {Q : Option Value → Heap → Prop} {pc q : Nat} {Ls L' : Array Slot} {st : List Value}
  {a : Addr} {j : Int32} {i N : Nat} {f : Nat → Value} {v : Value} {ty : FieldType}
theorem ialA (O : On l Z ws R own nm bytes maxL ret C T h cells slots) (hd : decode bytes pc = .ok (.iaload, 1)) (V : Ar Z h a .int N f) (hj : j.toInt = (i : Int)) (hi : i < N) (hv : f i = v) (hq : pc + 1 = q)
    (K : Go C ws Q k n (T.setTop (mkF C.m q Ls (v :: st)))) : Go C ws Q k n (T.setTop (mkF C.m pc Ls (.int j :: .ref a :: st))) := by
  obtain ⟨c, A, r1, r2, r3⟩ := V
  exact iaload O hd A (inb hj r1 hi) (by rw [toNat_of hj, ← hv]; exact r3 i hi) hq K
theorem lalA (O : On l Z ws R own nm bytes maxL ret C T h cells slots) (hd : decode bytes pc = .ok (.laload, 1)) (V : Ar Z h a .long N f) (hj : j.toInt = (i : Int)) (hi : i < N) (hv : f i = v) (hq : pc + 1 = q)
    (K : Go C ws Q k n (T.setTop (mkF C.m q Ls (v :: st)))) : Go C ws Q k n (T.setTop (mkF C.m pc Ls (.int j :: .ref a :: st))) := by
  obtain ⟨c, A, r1, r2, r3⟩ := V
  exact laload O hd A (inb hj r1 hi) (by rw [toNat_of hj, ← hv]; exact r3 i hi) hq K
theorem balA (O : On l Z ws R own nm bytes maxL ret C T h cells slots) (hd : decode bytes pc = .ok (.baload, 1)) (V : Ar Z h a .byte N f) (hj : j.toInt = (i : Int)) (hi : i < N) (hv : f i = v) (hq : pc + 1 = q)
    (K : Go C ws Q k n (T.setTop (mkF C.m q Ls (v :: st)))) : Go C ws Q k n (T.setTop (mkF C.m pc Ls (.int j :: .ref a :: st))) := by
  obtain ⟨c, A, r1, r2, r3⟩ := V
  exact baload O hd A (inb hj r1 hi) (by rw [toNat_of hj, ← hv]; exact r3 i hi) hq K
theorem aalA (O : On l Z ws R own nm bytes maxL ret C T h cells slots) (hd : decode bytes pc = .ok (.aaload, 1)) (V : Ar Z h a ty N f) (hty : ty.isReference = true) (hj : j.toInt = (i : Int)) (hi : i < N) (hv : f i = v) (hq : pc + 1 = q)
    (K : Go C ws Q k n (T.setTop (mkF C.m q Ls (v :: st)))) : Go C ws Q k n (T.setTop (mkF C.m pc Ls (.int j :: .ref a :: st))) := by
  obtain ⟨c, A, r1, r2, r3⟩ := V
  exact aaload O hd A hty (inb hj r1 hi) (by rw [toNat_of hj, ← hv]; exact r3 i hi) hq K
theorem lenA (O : On l Z ws R own nm bytes maxL ret C T h cells slots) (hd : decode bytes pc = .ok (.arraylength, 1)) (V : Ar Z h a ty N f) {z : Int32} (hz : z.toInt = N) (hq : pc + 1 = q)
    (K : Go C ws Q k n (T.setTop (mkF C.m q Ls (.int z :: st)))) : Go C ws Q k n (T.setTop (mkF C.m pc Ls (.ref a :: st))) := by
  obtain ⟨c, A, r1, r2, r3⟩ := V
  exact arraylength O hd A (len32 r1 r2 hz) hq K
theorem iasA (O : On l Z ws R own nm bytes maxL ret C T h cells slots) {x : Int32} (hd : decode bytes pc = .ok (.iastore, 1)) (V : Ar Z h a .int N f) (hj : j.toInt = (i : Int)) (hi : i < N) (ha : a ∈ ws ∨ C.s.heap.size ≤ a) (hq : pc + 1 = q)
    (K : ∀ T' h', On l Z ws R own nm bytes maxL ret C T' h' cells slots → Wr h h' a i (.int x) → Go C ws Q k n (T'.setTop (mkF C.m q Ls st))) : Go C ws Q k n (T.setTop (mkF C.m pc Ls (.int x :: .int j :: .ref a :: st))) := by
  obtain ⟨c, A, r1, r2, r3⟩ := V
  exact iastore O hd A (inb hj r1 hi) ha hq fun T' h' O' W => K T' h' O' (toNat_of hj ▸ W)
theorem lasA (O : On l Z ws R own nm bytes maxL ret C T h cells slots) {x : Int64} (hd : decode bytes pc = .ok (.lastore, 1)) (V : Ar Z h a .long N f) (hj : j.toInt = (i : Int)) (hi : i < N) (ha : a ∈ ws ∨ C.s.heap.size ≤ a) (hq : pc + 1 = q)
    (K : ∀ T' h', On l Z ws R own nm bytes maxL ret C T' h' cells slots → Wr h h' a i (.long x) → Go C ws Q k n (T'.setTop (mkF C.m q Ls st))) : Go C ws Q k n (T.setTop (mkF C.m pc Ls (.long x :: .int j :: .ref a :: st))) := by
  obtain ⟨c, A, r1, r2, r3⟩ := V
  exact lastore O hd A (inb hj r1 hi) ha hq fun T' h' O' W => K T' h' O' (toNat_of hj ▸ W)
theorem basA (O : On l Z ws R own nm bytes maxL ret C T h cells slots) {x y : Int32} (hd : decode bytes pc = .ok (.bastore, 1)) (V : Ar Z h a .byte N f) (hj : j.toInt = (i : Int)) (hi : i < N) (ha : a ∈ ws ∨ C.s.heap.size ≤ a) (hy : x.toInt8.toInt32 = y) (hq : pc + 1 = q)
    (K : ∀ T' h', On l Z ws R own nm bytes maxL ret C T' h' cells slots → Wr h h' a i (.int y) → Go C ws Q k n (T'.setTop (mkF C.m q Ls st))) : Go C ws Q k n (T.setTop (mkF C.m pc Ls (.int x :: .int j :: .ref a :: st))) := by
  obtain ⟨c, A, r1, r2, r3⟩ := V
  subst hy
  exact bastore O hd A (inb hj r1 hi) ha hq fun T' h' O' W => K T' h' O' (toNat_of hj ▸ W)
theorem newA' (O : On l Z ws R own nm bytes maxL ret C T h cells slots) {aty : ArrayType} {c2 s2 : Nat} (hd : decode bytes pc = .ok (.newarray aty, 2)) (ht : newarray.typeOf aty = ty) (w : (Cond.arrayClass ty).before a0 Z = true) {z : Int32} (hz : z.toInt = N) {cap : Nat} (hcap : N ≤ cap) (hb : cap * 8 ≤ 536870912) (hc2 : cells + 1 = c2) (hs2 : slots + cap = s2) (hc : c2 ≤ R.cells) (hl : s2 ≤ R.slots) (hq : pc + 2 = q)
    (K : ∀ a T' h', a = h.size → C.s.heap.size ≤ a → On l Z ws R own nm bytes maxL ret C T' h' c2 s2 → Ext h h' → Ar Z h' a ty N (fun _ => defaultValue ty) → Go C ws Q k n (T'.setTop (mkF C.m q Ls (.ref a :: st)))) : Go C ws Q k n (T.setTop (mkF C.m pc Ls (.int z :: st))) := by
  subst ht
  refine newP O hd w ?_ (by rw [toNat_of hz]; exact hcap) hb hc2 hs2 hc hl hq fun a T' h' cA e1 e2 O' E A => K a T' h' e1 e2 O' E (Ar.new A hz)
  rw [Int32.lt_iff_toInt_lt, hz]
  have : (0 : Int32).toInt = 0 := rfl
  rw [this]; omega
end ArrSteps
end Jvm.OwnW

namespace Jvm.OwnW
open Jvm.RoadKit
theorem add32 {x y : Int32} (h1 : -2147483648 ≤ x.toInt + y.toInt) (h2 : x.toInt + y.toInt < 2147483648) : (x + y).toInt = x.toInt + y.toInt := by
  have := c_iadd x y; have := rng32 (x + y); omega
theorem sub32 {x y : Int32} (h1 : -2147483648 ≤ x.toInt - y.toInt) (h2 : x.toInt - y.toInt < 2147483648) : (x - y).toInt = x.toInt - y.toInt := by
  have := c_isub x y; have := rng32 (x - y); omega
theorem mul32 {x y : Int32} (h1 : -2147483648 ≤ x.toInt * y.toInt) (h2 : x.toInt * y.toInt < 2147483648) : (x * y).toInt = x.toInt * y.toInt := by
  have := c_imul x y; have := rng32 (x * y); omega
theorem add64 {x y : Int64} (h1 : -9223372036854775808 ≤ x.toInt + y.toInt) (h2 : x.toInt + y.toInt < 9223372036854775808) : (x + y).toInt = x.toInt + y.toInt := by
  have := c_ladd x y; have := rng64 (x + y); omega
theorem sub64 {x y : Int64} (h1 : -9223372036854775808 ≤ x.toInt - y.toInt) (h2 : x.toInt - y.toInt < 9223372036854775808) : (x - y).toInt = x.toInt - y.toInt := by
  have := c_lsub x y; have := rng64 (x - y); omega
theorem mul64 {x y : Int64} (h1 : -9223372036854775808 ≤ x.toInt * y.toInt) (h2 : x.toInt * y.toInt < 9223372036854775808) : (x * y).toInt = x.toInt * y.toInt := by
  have := c_lmul x y; have := rng64 (x * y); omega
theorem ne0_32 {z : Int32} (h : 0 < z.toInt) : z ≠ 0 := fun e => by subst e; exact absurd h (by decide)
theorem ne0_64 {z : Int64} (h : 0 < z.toInt) : z ≠ 0 := fun e => by subst e; exact absurd h (by decide)
theorem lt32 {x y : Int32} (h : x.toInt < y.toInt) : x < y := Int32.lt_iff_toInt_lt.mpr h
theorem nlt32 {x y : Int32} (h : y.toInt ≤ x.toInt) : ¬ x < y := fun q => by rw [Int32.lt_iff_toInt_lt] at q; omega
theorem lt64 {x y : Int64} (h : x.toInt < y.toInt) : x < y := Int64.lt_iff_toInt_lt.mpr h
theorem nlt64 {x y : Int64} (h : y.toInt ≤ x.toInt) : ¬ x < y := fun q => by rw [Int64.lt_iff_toInt_lt] at q; omega
theorem eq32 {x y : Int32} (h : x.toInt = y.toInt) : x = y := Int32.toInt_inj.mp h
theorem ne32 {x y : Int32} (h : x.toInt ≠ y.toInt) : ¬ x = y := fun e => h (congrArg _ e)
theorem ne64 {x y : Int64} (h : x.toInt ≠ y.toInt) : ¬ x = y := fun e => h (congrArg _ e)
theorem inc32 {z : Int32} {i : Nat} (hi : z.toInt = (i : Int)) (hb : i < 2147483647) : (z + 1).toInt = ((i + 1 : Nat) : Int) := by
  have h1 : (1 : Int32).toInt = 1 := rfl
  rw [add32 (by omega) (by omega)]; omega
theorem dec32 {z : Int32} {i : Nat} (hi : z.toInt = (i : Int)) (hb : 1 ≤ i) : (z - 1).toInt = ((i - 1 : Nat) : Int) := by
  have h1 : (1 : Int32).toInt = 1 := rfl
  have := rng32 z
  rw [sub32 (by omega) (by omega)]; omega
theorem rem64 {x y : Int64} {d : Int} (hy : y.toInt = d) (hx : 0 ≤ x.toInt) : (x % y).toInt = x.toInt % d := by rw [Int64.toInt_mod, hy]; exact (tr _ _).1 hx
theorem rem32 {x y : Int32} {d : Int} (hy : y.toInt = d) (hx : 0 ≤ x.toInt) : (x % y).toInt = x.toInt % d := by rw [Int32.toInt_mod, hy]; exact (tr _ _).1 hx
theorem eq64 {x y : Int64} (h : x.toInt = y.toInt) : x = y := Int64.toInt_inj.mp h
/-- (s & 0x7fffffff) % z for a z above 0 -/
theorem rem_in (s z : Int32) (hz : 0 < z.toInt) : ∃ i : Nat, ((s &&& 2147483647) % z).toInt = (i : Int) ∧ (i : Int) < z.toInt := by
  have h1 := c_mask s 2147483647 31 (by decide) (by decide)
  have h2 := (c_iremV (s &&& 2147483647) z).1 (by omega) hz
  exact ⟨((s &&& 2147483647) % z).toInt.toNat, by omega, by omega⟩
theorem b8 (x : Int32) : x.toInt8.toInt32.toInt8.toInt32 = x.toInt8.toInt32 := by
  have h := c_i2b x; have h2 := c_i2b x.toInt8.toInt32
  apply Int32.toInt_inj.mp; omega
theorem lf_int (L : List Int32) (j : Nat) (hj : j < L.length) : lf (L.map Value.int) j = .int (L.getD j 0) := by
  simp [lf, List.getD_eq_getElem?_getD, hj]
theorem lf_long (L : List Int64) (j : Nat) (hj : j < L.length) : lf (L.map Value.long) j = .long (L.getD j 0) := by
  simp [lf, List.getD_eq_getElem?_getD, hj]
end Jvm.OwnW

namespace Jvm.OwnW
open Sem ClassFile Op Lib Jvm.Free Jvm.Stand Jvm.LawKit Jvm.RoadKit
/-- the Class object of the class K0 has been made: it is a -/
def MirO (Z : State) (K0 : String) (a : Addr) : Prop := ∃ c k, Z.vm.findClass K0 = some c ∧ Z.vm.classes[c]? = some k ∧ k.mirror = some a
theorem catR {v : Value} (h : v.isRef = true) : v.category = 1 := by cases v <;> first | rfl | cases h
theorem isRef_ite {c : Prop} [Decidable c] {a b : Value} (ha : a.isRef = true) (hb : b.isRef = true) : (if c then a else b).isRef = true := by split <;> assumption
theorem ite_val {α : Type} {c : Prop} [Decidable c] {a b v : α} (h1 : c → a = v) (h2 : ¬ c → b = v) : (if c then a else b) = v := by
  by_cases h : c
  · rw [if_pos h]; exact h1 h
  · rw [if_neg h]; exact h2 h
section StepsR
variable {l : Launch} {Z : State} {a0 : Array Value} {ws : List Addr} {R : Room} {own nm : String} {bytes : ByteArray} {maxL : Nat} {ret : Option FieldType} {C : Ctx} {T : State} {h : Heap} {cells slots k n : Nat} {Q : Option Value → Heap → Prop} {pc q : Nat} {Ls L' : Array Slot} {st : List Value}
theorem lswIn (O : On l Z ws R own nm bytes maxL ret C T h cells slots) {df v : Int} {prs : Array (Int × Int)} {ln : Nat} {x : Int32} {o : Int} (hd : decode bytes pc = .ok (.lookupswitch df prs, ln)) (hs : (prs.toList.zip (prs.toList.drop 1)).all (fun (a, next) => a.1 < next.1) = true) (hf : prs.find? (·.1 == x.toInt) = some (v, o)) (h0 : 0 ≤ (pc : Int) + o) (hq : ((pc : Int) + o).toNat = q)
    (K : Go C ws Q k n (T.setTop (mkF C.m q Ls st))) : Go C ws Q k n (T.setTop (mkF C.m pc Ls (.int x :: st))) := by
  obtain ⟨vm0, SS, ⟨hx, -, rfl, -⟩, ⟨_, X, -⟩, -⟩ := O; subst hq
  refine K.of fun _ kk => ?_
  jvm_step X.here [X.here.top, hx, hd, lookupswitch.wp_whole, hf, h0]
  refine ⟨by simpa using hs, kk⟩
theorem lswOut (O : On l Z ws R own nm bytes maxL ret C T h cells slots) {o : Int} {prs : Array (Int × Int)} {ln : Nat} {x : Int32} (hd : decode bytes pc = .ok (.lookupswitch o prs, ln)) (hs : (prs.toList.zip (prs.toList.drop 1)).all (fun (a, next) => a.1 < next.1) = true) (hf : prs.find? (·.1 == x.toInt) = none) (h0 : 0 ≤ (pc : Int) + o) (hq : ((pc : Int) + o).toNat = q)
    (K : Go C ws Q k n (T.setTop (mkF C.m q Ls st))) : Go C ws Q k n (T.setTop (mkF C.m pc Ls (.int x :: st))) := by
  obtain ⟨vm0, SS, ⟨hx, -, rfl, -⟩, ⟨_, X, -⟩, -⟩ := O; subst hq
  refine K.of fun _ kk => ?_
  jvm_step X.here [X.here.top, hx, hd, lookupswitch.wp_whole, hf, h0]
  refine ⟨by simpa using hs, kk⟩
theorem castY (O : On l Z ws R own nm bytes maxL ret C T h cells slots) {i : Nat} {K0 : String} {a : Addr} (hd : decode bytes pc = .ok (.checkcast i, 3)) (w : (Cond.classLink own i K0).before a0 Z = true) (F : Ins Z h a K0 true) (hq : pc + 3 = q)
    (K : ∀ T', On l Z ws R own nm bytes maxL ret C T' h cells slots → Go C ws Q k n (T'.setTop (mkF C.m q Ls (.ref a :: st)))) : Go C ws Q k n (T.setTop (mkF C.m pc Ls (.ref a :: st))) := by
  obtain ⟨vm0, SS, ⟨hx, hZ, rfl, r1, hown, r2⟩, ⟨_, X, N⟩, eT⟩ := O; subst hq
  obtain ⟨T', X', e', stp⟩ := Jvm.RoadKit.castY X hx hZ hown w eT F (g := mkF C.m pc Ls (.ref a :: st)) rfl rfl hd
  exact (K T' ⟨vm0, SS, ⟨hx, hZ, rfl, r1, hown, r2⟩, ⟨_, X', N⟩, e'⟩).of fun _ kk => stp _ kk
end StepsR
end Jvm.OwnW
namespace Jvm.OwnW
open Sem ClassFile Op Lib Jvm.Free Jvm.Stand Jvm.LawKit Jvm.RoadKit
/-- an array whose own class is known too -/
def ArC (Z : State) (h : Heap) (a : Addr) (ty : FieldType) (n : Nat) (f : Nat → Value) (cA : ClassId) : Prop := ∃ cl : Cell, Arr Z h a cl ty ∧ cl.cls = cA ∧ cl.slots.size = n ∧ n < 2147483648 ∧ ∀ j, j < n → cl.slots[j]? = some (f j)
section ArrsC
variable {Z : State} {h h' : Heap} {a b : Addr} {ty : FieldType} {n i sl : Nat} {f g : Nat → Value} {v : Value} {ws : List Addr} {cA : ClassId}
theorem ArC.ar (F : ArC Z h a ty n f cA) : Ar Z h a ty n f := by obtain ⟨c, A, -, r⟩ := F; exact ⟨c, A, r⟩
theorem ArC.lt (F : ArC Z h a ty n f cA) : a < h.size := F.ar.lt
theorem ArC.ext (F : ArC Z h a ty n f cA) (E : Ext h h') : ArC Z h' a ty n f cA := by obtain ⟨c, A, r⟩ := F; exact ⟨c, A.ext E, r⟩
theorem ArC.keep (F : ArC Z h a ty n f cA) (K : Keep h h' ws) (q : a ∉ ws) : ArC Z h' a ty n f cA := by obtain ⟨c, A, r⟩ := F; exact ⟨c, ⟨K.2.1 a c A.1 q, A.2⟩, r⟩
theorem ArC.other (F : ArC Z h b ty n f cA) (W : Wr h h' a sl v) (q : b ≠ a) : ArC Z h' b ty n f cA := by obtain ⟨c, A, r⟩ := F; exact ⟨c, A.other W q, r⟩
theorem ArC.new {z : Int32} (A : Arr Z h a (newA cA ty z) ty) (hz : z.toInt = n) : ArC Z h a ty n (fun _ => defaultValue ty) cA := by
  have q := toNat_of hz
  refine ⟨_, A, rfl, by rw [sz_new, q], ?_, fun j hj => ?_⟩
  · have := z.toInt_lt; omega
  · simp [newA, q, hj]
theorem ArC.set (F : ArC Z h a ty n f cA) (W : Wr h h' a i v) (hi : i < n) : ArC Z h' a ty n (updV f i v) cA := by
  obtain ⟨c, A, rc, r1, r2, r3⟩ := F
  refine ⟨_, A.same W, rc, by rw [sz_set]; exact r1, r2, fun j hj => ?_⟩
  by_cases e : j = i
  · subst e; simp [Cell.setSlot, updV, r1, hi]
  · simp only [Cell.setSlot, updV, if_neg e]; rw [Array.getElem?_setIfInBounds_ne (Ne.symm e)]; exact r3 j hj
end ArrsC
section StepsC
variable {l : Launch} {Z : State} {a0 : Array Value} {ws : List Addr} {R : Room} {own nm : String} {bytes : ByteArray} {maxL : Nat} {ret : Option FieldType} {C : Ctx} {T : State} {h : Heap} {cells slots k n : Nat} {Q : Option Value → Heap → Prop} {pc q : Nat} {Ls L' : Array Slot} {st : List Value}
  {a : Addr} {j : Int32} {i N : Nat} {f : Nat → Value} {v : Value} {ty : FieldType}
theorem nneg {z : Int32} (hz : z.toInt = (N : Int)) : ¬ z < 0 := by
  rw [Int32.lt_iff_toInt_lt, hz]
  have : (0 : Int32).toInt = 0 := rfl
  rw [this]; omega
theorem newAE (O : On l Z ws R own nm bytes maxL ret C T h cells slots) {aty : ArrayType} {c2 s2 : Nat} {ad : String} (hd : decode bytes pc = .ok (.newarray aty, 2)) (ht : newarray.typeOf aty = ty) (had : "[" ++ ty.toString = ad) (w : (Cond.arrayClass ty).before a0 Z = true) {z : Int32} (hz : z.toInt = N) {cap : Nat} (hcap : N ≤ cap) (hb : cap * 8 ≤ 536870912) (hc2 : cells + 1 = c2) (hs2 : slots + cap = s2) (hc : c2 ≤ R.cells) (hl : s2 ≤ R.slots) (hq : pc + 2 = q)
    (K : ∀ a T' h', a = h.size → C.s.heap.size ≤ a → On l Z ws R own nm bytes maxL ret C T' h' c2 s2 → Ext h h' → Ar Z h' a ty N (fun _ => defaultValue ty) → Exa Z h' a ad → Go C ws Q k n (T'.setTop (mkF C.m q Ls (.ref a :: st)))) : Go C ws Q k n (T.setTop (mkF C.m pc Ls (.int z :: st))) := by
  subst ht
  obtain ⟨vm0, SS, ⟨hx, hZ, rfl, r1, hown, r2⟩, ⟨_, X, N'⟩, eT⟩ := O; subst hq hc2 hs2
  obtain ⟨T', h', cA, X', e', E, A, Ex, stp⟩ := Jvm.RoadKit.newPE X hx hZ w eT (g := mkF C.m pc Ls (.int z :: st)) rfl hd rfl (nneg hz) (by rw [toNat_of hz]; exact hcap) hb hc hl had
  exact (K _ T' h' rfl (by rw [← eT]; exact X.same.2.1) ⟨vm0, (grow SS E.1), ⟨hx, hZ, rfl, r1, hown, r2⟩, ⟨_, X', N'⟩, e'⟩ E (Ar.new A hz) Ex).of fun _ kk => stp _ kk
theorem newRO (O : On l Z ws R own nm bytes maxL ret C T h cells slots) {K0 : String} {ix c2 s2 : Nat} (hd : decode bytes pc = .ok (.anewarray ix, 3)) (w1 : (Cond.classLink own ix K0).before a0 Z = true) (w2 : (Cond.arrayOver (.object K0)).before a0 Z = true) {z : Int32} (hz : z.toInt = N) {cap : Nat} (hcap : N ≤ cap) (hb : cap * 8 ≤ 536870912) (hc2 : cells + 1 = c2) (hs2 : slots + cap = s2) (hc : c2 ≤ R.cells) (hl : s2 ≤ R.slots) (hq : pc + 3 = q)
    (K : ∀ a T' h' cA, a = h.size → C.s.heap.size ≤ a → On l Z ws R own nm bytes maxL ret C T' h' c2 s2 → Ext h h' → ArC Z h' a (.object K0) N (fun _ => .null) cA → Ovr Z cA K0 → Go C ws Q k n (T'.setTop (mkF C.m q Ls (.ref a :: st)))) : Go C ws Q k n (T.setTop (mkF C.m pc Ls (.int z :: st))) := by
  obtain ⟨vm0, SS, ⟨hx, hZ, rfl, r1, hown, r2⟩, ⟨_, X, N'⟩, eT⟩ := O; subst hq hc2 hs2
  obtain ⟨T', h', cA, X', e', E, A, Ov, stp⟩ := Jvm.RoadKit.newR X hx hZ hown w1 w2 eT (g := mkF C.m pc Ls (.int z :: st)) rfl hd rfl (nneg hz) (by rw [toNat_of hz]; exact hcap) hb hc hl
  exact (K _ T' h' cA rfl (by rw [← eT]; exact X.same.2.1) ⟨vm0, (grow SS E.1), ⟨hx, hZ, rfl, r1, hown, r2⟩, ⟨_, X', N'⟩, e'⟩ E (ArC.new A hz) Ov).of fun _ kk => stp _ kk
theorem newRR (O : On l Z ws R own nm bytes maxL ret C T h cells slots) {K0 ad : String} {ix c2 s2 : Nat} (hd : decode bytes pc = .ok (.anewarray ix, 3)) (hC : (FieldType.array ty).toString = K0) (had : "[" ++ K0 = ad) (w1 : (Cond.classLink own ix K0).before a0 Z = true) (w2 : (Cond.arrayOver (.array ty)).before a0 Z = true) {z : Int32} (hz : z.toInt = N) {cap : Nat} (hcap : N ≤ cap) (hb : cap * 8 ≤ 536870912) (hc2 : cells + 1 = c2) (hs2 : slots + cap = s2) (hc : c2 ≤ R.cells) (hl : s2 ≤ R.slots) (hq : pc + 3 = q)
    (K : ∀ a T' h' cA, a = h.size → C.s.heap.size ≤ a → On l Z ws R own nm bytes maxL ret C T' h' c2 s2 → Ext h h' → ArC Z h' a (.array ty) N (fun _ => .null) cA → OvrA Z cA ty K0 → Go C ws Q k n (T'.setTop (mkF C.m q Ls (.ref a :: st)))) : Go C ws Q k n (T.setTop (mkF C.m pc Ls (.int z :: st))) := by
  obtain ⟨vm0, SS, ⟨hx, hZ, rfl, r1, hown, r2⟩, ⟨_, X, N'⟩, eT⟩ := O; subst hq hc2 hs2
  obtain ⟨T', h', cA, X', e', E, A, -, Ov, stp⟩ := Jvm.RoadKit.newRA X hx hZ hown hC w1 w2 eT (g := mkF C.m pc Ls (.int z :: st)) rfl hd rfl (nneg hz) (by rw [toNat_of hz]; exact hcap) hb hc hl had
  exact (K _ T' h' cA rfl (by rw [← eT]; exact X.same.2.1) ⟨vm0, (grow SS E.1), ⟨hx, hZ, rfl, r1, hown, r2⟩, ⟨_, X', N'⟩, e'⟩ E (ArC.new A hz) Ov).of fun _ kk => stp _ kk
theorem aasRR (O : On l Z ws R own nm bytes maxL ret C T h cells slots) {K0 : String} {y : Addr} {cA : ClassId} (hd : decode bytes pc = .ok (.aastore, 1)) (V : ArC Z h a (.array ty) N f cA) (Ov : OvrA Z cA ty K0) (I : Ins Z h y K0 true) (hj : j.toInt = (i : Int)) (hi : i < N) (ha : a ∈ ws ∨ C.s.heap.size ≤ a) (hq : pc + 1 = q)
    (K : ∀ T' h', On l Z ws R own nm bytes maxL ret C T' h' cells slots → Wr h h' a i (.ref y) → Go C ws Q k n (T'.setTop (mkF C.m q Ls st))) : Go C ws Q k n (T.setTop (mkF C.m pc Ls (.ref y :: .int j :: .ref a :: st))) := by
  obtain ⟨vm0, SS, ⟨hx, hZ, rfl, r1, hown, r2⟩, ⟨_, X, N'⟩, eT⟩ := O; subst hq
  obtain ⟨cl, A, rc, s1, s2, s3⟩ := V
  obtain ⟨T', h', X', e', W, stp⟩ := Jvm.RoadKit.stR X hx hZ eT A (inb hj s1 hi) rfl (Sto.ofVA A rc Ov I) (g := mkF C.m pc Ls (.ref y :: .int j :: .ref a :: st)) rfl rfl hd
  exact (K T' h' ⟨vm0, (grow SS (wr_le W)), ⟨hx, hZ, rfl, r1, hown, r2⟩, ⟨_, X', N'.snoc ha⟩, e'⟩ (toNat_of hj ▸ W)).of fun _ kk => stp _ kk
end StepsC
end Jvm.OwnW

namespace Jvm.Pilot.@@N@@
open Jvm Jvm.ClassFile Sem Op Lib Jvm.Free Jvm.Stand Jvm.LawKit Jvm.RoadKit Bundle Jvm.OwnW Jvm.Pilot.@@N@@.Jvm.D

theorem own_str {Z : State} {a0 : Array Value} (hw : ∀ d ∈ tables_1, d.before a0 Z = true) : ∀ a ∈ Bundle.stringAtoms, a.before a0 Z = true := by
  intro a ha
  simp only [Bundle.stringAtoms, List.mem_cons, List.not_mem_nil, or_false] at ha
  rcases ha with rfl | rfl | rfl | rfl | rfl | rfl | rfl
  · exact hw _ (List.mem_of_getElem? (i := 31) rfl)
  · exact hw _ (List.mem_of_getElem? (i := 32) rfl)
  · exact hw _ (List.mem_of_getElem? (i := 33) rfl)
  · exact hw _ (List.mem_of_getElem? (i := 34) rfl)
  · exact hw _ (List.mem_of_getElem? (i := 35) rfl)
  · exact hw _ (List.mem_of_getElem? (i := 36) rfl)
  · exact hw _ (List.mem_of_getElem? (i := 37) rfl)
abbrev own_P : Int := 18446744073709551616
/-- x, read unsigned, is a -/
def own_U (x : Int64) (a : Nat) : Prop := x.toInt % 18446744073709551616 = (a : Int)
theorem own_Ult {x : Int64} {a : Nat} (h : own_U x a) : a < 18446744073709551616 := by unfold own_U at h; omega
theorem own_Uof {x : Int64} {a : Nat} (h : x.toInt = (a : Int)) : own_U x a := by
  have := rng64 x; unfold own_U; omega
theorem own_Uto {x : Int64} {a : Nat} (h : own_U x a) (hb : a < 9223372036854775808) : x.toInt = (a : Int) := by
  have := rng64 x; unfold own_U at h; omega
theorem own_Uex (x : Int64) : ∃ a : Nat, own_U x a ∧ a < 18446744073709551616 := by
  refine ⟨(x.toInt % 18446744073709551616).toNat, ?_, ?_⟩
  · unfold own_U; omega
  · omega
theorem own_Uuniq {x y : Int64} {a : Nat} (h : own_U x a) (h' : own_U y a) : x = y := by
  have := rng64 x; have := rng64 y; unfold own_U at h h'; exact eq64 (by omega)
theorem own_Umul {x y : Int64} {a b : Nat} (hx : own_U x a) (hy : own_U y b) (hb : a * b < 18446744073709551616) : own_U (x * y) (a * b) := by
  unfold own_U at *
  have h := c_lmul x y
  have e : (x.toInt * y.toInt) % 18446744073709551616 = ((a * b : Nat) : Int) := by
    rw [Int.mul_emod, hx, hy, Int.natCast_mul]
    exact Int.emod_eq_of_lt (Int.mul_nonneg (by omega) (by omega)) (by rw [← Int.natCast_mul]; omega)
  omega
theorem own_Umulm {x y : Int64} {a b : Nat} (hx : own_U x a) (hy : own_U y b) : own_U (x * y) (a * b % 18446744073709551616) := by
  unfold own_U at *
  have h := c_lmul x y
  have e : (x.toInt * y.toInt) % 18446744073709551616 = ((a * b % 18446744073709551616 : Nat) : Int) := by
    rw [Int.mul_emod, hx, hy, Int.natCast_emod, Int.natCast_mul]; rfl
  omega
theorem own_Uadd {x y : Int64} {a b : Nat} (hx : own_U x a) (hy : own_U y b) (hb : a + b < 18446744073709551616) : own_U (x + y) (a + b) := by
  unfold own_U at *; have h := c_ladd x y; omega
theorem own_Uaddm {x y : Int64} {a b : Nat} (hx : own_U x a) (hy : own_U y b) : own_U (x + y) ((a + b) % 18446744073709551616) := by
  unfold own_U at *; have h := c_ladd x y; omega
theorem own_Usub {x y : Int64} {a b : Nat} (hx : own_U x a) (hy : own_U y b) (hb : b ≤ a) : own_U (x - y) (a - b) := by
  unfold own_U at *; have h := c_lsub x y; omega
theorem own_Usubm {x y : Int64} {a b c : Nat} (hx : own_U x a) (hy : own_U y b) (h : (c + b) % 18446744073709551616 = a) (hc : c < 18446744073709551616) : own_U (x - y) c := by
  unfold own_U at *; have h := c_lsub x y; omega
theorem own_Uushr {x : Int64} {a : Nat} (hx : own_U x a) {q : Int32} {k : Nat} (hk : q.toBitVec.toNat % 64 = k) (h0 : 0 < k) : own_U ((x.toUInt64 >>> (q &&& 0x3f).toInt64.toUInt64).toInt64) (a / 2 ^ k) := by
  have h := c_lushr x q k hk h0
  have hx' : x.toInt % 18446744073709551616 = (a : Int) := hx
  rw [hx'] at h
  exact own_Uof (by rw [h]; exact (Int.natCast_ediv ..).symm)
theorem own_Ushr {x : Int64} {a : Nat} (hx : own_U x a) (hb : a < 9223372036854775808) {q : Int32} {k : Nat} (hk : q.toBitVec.toNat % 64 = k) : own_U (x >>> (q &&& 0x3f).toInt64) (a / 2 ^ k) := by
  have h := c_lshr x q k hk
  rw [own_Uto hx hb] at h
  exact own_Uof (by rw [h]; exact (Int.natCast_ediv ..).symm)
theorem own_Umask {x : Int64} {a : Nat} (hx : own_U x a) : own_U (x &&& 4294967295) (a % 4294967296) := by
  have h := c_maskL x 4294967295 32 (by decide) (by decide)
  unfold own_U at *; omega
theorem own_Uushr0 {x : Int64} {a : Nat} (hx : own_U x a) {q : Int32} (hk : q.toBitVec.toNat % 64 = 0) : own_U ((x.toUInt64 >>> (q &&& 0x3f).toInt64.toUInt64).toInt64) a := by
  have e : (q &&& 0x3f) = 0 := by
    apply eq32
    rw [c_mask _ 0x3f 6 (by decide) (by decide)]
    have : q.toInt % 64 = 0 := by
      have h1 : q.toInt = q.toBitVec.toInt := rfl
      rw [h1, BitVec.toInt_eq_toNat_cond]
      split <;> omega
    show q.toInt % 64 = 0
    exact this
  rw [e]
  have : ((x.toUInt64 >>> (0 : Int32).toInt64.toUInt64).toInt64) = x := by
    apply Int64.toBitVec_inj.mp
    show x.toBitVec >>> ((0 : BitVec 64) % 64) = _
    simp
  rw [this]; exact hx
/-- the sign trick -/
theorem own_sel (v m : Int64) : (-((v.toUInt64 >>> ((63 : Int32) &&& 0x3f).toInt64.toUInt64).toInt64)) &&& m = if v < 0 then m else 0 := by
  have h := c_lushr v 63 63 (by decide) (by decide)
  have hr := rng64 v
  by_cases e : v < 0
  · rw [if_pos e]
    have e' : v.toInt < 0 := by rw [Int64.lt_iff_toInt_lt] at e; exact e
    have : ((v.toUInt64 >>> ((63 : Int32) &&& 0x3f).toInt64.toUInt64).toInt64) = 1 := eq64 (by rw [h]; show _ = (1 : Int); omega)
    rw [this]
    apply Int64.toBitVec_inj.mp
    show (BitVec.allOnes 64) &&& m.toBitVec = _
    exact BitVec.allOnes_and
  · rw [if_neg e]
    have e' : ¬ v.toInt < 0 := fun q => e (Int64.lt_iff_toInt_lt.mpr q)
    have : ((v.toUInt64 >>> ((63 : Int32) &&& 0x3f).toInt64.toUInt64).toInt64) = 0 := eq64 (by rw [h]; show _ = (0 : Int); omega)
    rw [this]
    apply Int64.toBitVec_inj.mp
    show (0 : BitVec 64) &&& m.toBitVec = _
    exact BitVec.zero_and
theorem own_sel2 (v m : Int64) : (((v ^^^ (-1)) >>> ((63 : Int32) &&& 0x3f).toInt64) &&& m) = if v < 0 then 0 else m := by
  have h := c_lshr (v ^^^ (-1)) 63 63 (by decide)
  have hx := c_xorSL v (-1)
  have hr := rng64 (v ^^^ (-1))
  have n1 : (-1 : Int64).toInt = -1 := rfl
  by_cases e : v < 0
  · rw [if_pos e]
    have e' : v.toInt < 0 := by rw [Int64.lt_iff_toInt_lt] at e; exact e
    have h0 := hx.1 e' (by omega)
    have : (v ^^^ (-1)) >>> ((63 : Int32) &&& 0x3f).toInt64 = 0 := eq64 (by rw [h]; show _ = (0 : Int); omega)
    rw [this]
    apply Int64.toBitVec_inj.mp
    show (0 : BitVec 64) &&& m.toBitVec = _
    exact BitVec.zero_and
  · rw [if_neg e]
    have e' : ¬ v.toInt < 0 := fun q => e (Int64.lt_iff_toInt_lt.mpr q)
    have h0 := hx.2.2.1 (by omega) (by omega)
    have : (v ^^^ (-1)) >>> ((63 : Int32) &&& 0x3f).toInt64 = -1 := eq64 (by rw [h]; show _ = (-1 : Int); omega)
    rw [this]
    apply Int64.toBitVec_inj.mp
    show (BitVec.allOnes 64) &&& m.toBitVec = _
    exact BitVec.allOnes_and
/-- h mod m, unsigned -/
def own_c (m h : Int64) : Int64 := Int64.ofInt ((h.toInt % 18446744073709551616) % m.toInt)
theorem own_cU {m h : Int64} {M H : Nat} (hm : m.toInt = (M : Int)) (hM : 0 < M) (hh : own_U h H) : own_U (own_c m h) (H % M) := by
  have := rng64 m
  have h1 : H % M < M := Nat.mod_lt _ hM
  apply own_Uof
  unfold own_U at hh
  rw [own_c, hh, hm, ← Int.natCast_emod, Int64.toInt_ofInt]
  have sz : (Int64.size : Int) = 18446744073709551616 := rfl
  exact Int.bmod_eq_of_le (by omega) (by omega)
theorem own_c_lt {m h : Int64} {M H : Nat} (hm : m.toInt = (M : Int)) (hM : 0 < M) (hh : own_U h H) : (own_c m h).toInt = ((H % M : Nat) : Int) := by
  have := rng64 m
  have h1 : H % M < M := Nat.mod_lt _ hM
  exact own_Uto (own_cU hm hM hh) (by omega)
theorem own_split (H M : Nat) (hM : 0 < M) : ∃ R0, H = 2 * (H / 2 / M) * M + R0 ∧ R0 < 2 * M ∧ H % M = R0 % M ∧ H / M = 2 * (H / 2 / M) + R0 / M := by
  have h1 := Nat.div_add_mod (H / 2) M
  have h2 := Nat.mod_lt (H / 2) hM
  refine ⟨2 * (H / 2 % M) + H % 2, ?_, by omega, ?_, ?_⟩
  · have e : 2 * (H / 2 / M) * M = 2 * (M * (H / 2 / M)) := by rw [Nat.mul_assoc, Nat.mul_comm M]
    rw [e]; omega
  · have e : H = 2 * (H / 2 % M) + H % 2 + M * (2 * (H / 2 / M)) := by
      have e : M * (2 * (H / 2 / M)) = 2 * (M * (H / 2 / M)) := by rw [Nat.mul_left_comm]
      rw [e]; omega
    rw [e, Nat.add_mul_mod_self_left]
    have q : (2 * (H / 2 % M) + H % 2 + M * (2 * (H / 2 / M))) = H := e.symm
    rw [q]
  · have e : H = 2 * (H / 2 % M) + H % 2 + M * (2 * (H / 2 / M)) := by
      have e : M * (2 * (H / 2 / M)) = 2 * (M * (H / 2 / M)) := by rw [Nat.mul_left_comm]
      rw [e]; omega
    have k : H / M = (2 * (H / 2 % M) + H % 2 + M * (2 * (H / 2 / M))) / M := by rw [← e]
    rw [k, Nat.add_mul_div_left _ _ hM]; omega
theorem own_shl1 {x : Int64} {a : Nat} (hx : own_U x a) (hb : 2 * a < 18446744073709551616) : own_U (x <<< ((1 : Int32) &&& 0x3f).toInt64) (2 * a) := by
  have h := c_lshl x 1 1 (by decide)
  unfold own_U at *; omega
theorem own_ld {x m : Int64} {a M : Nat} (hx : x.toInt = (a : Int)) (hm : m.toInt = (M : Int)) (hM : 0 < M) : (x / m).toInt = ((a / M : Nat) : Int) := by
  have n1 : m ≠ -1 := fun e => by subst e; have : (-1 : Int64).toInt = -1 := rfl; omega
  rw [(c_ldiv x m M hm n1).1 (by omega), hx]; exact (Int.natCast_ediv ..).symm
theorem own_qr {h m : Int64} {H M : Nat} (hh : own_U h H) (hm : m.toInt = (M : Int)) (hM : 0 < M) :
    own_U (((((h.toUInt64 >>> ((1 : Int32) &&& 0x3f).toInt64.toUInt64).toInt64) / m) <<< ((1 : Int32) &&& 0x3f).toInt64)) (2 * (H / 2 / M)) ∧
    own_U (h - (((((h.toUInt64 >>> ((1 : Int32) &&& 0x3f).toInt64.toUInt64).toInt64) / m) <<< ((1 : Int32) &&& 0x3f).toInt64)) * m) (H - 2 * (H / 2 / M) * M) := by
  have hH := own_Ult hh
  have h1 := own_Uushr hh (q := 1) (k := 1) (by decide) (by decide)
  rw [Nat.pow_one] at h1
  have h2 := own_ld (own_Uto h1 (by omega)) hm hM
  have hle : H / 2 / M ≤ H / 2 := Nat.div_le_self _ _
  have h3 := own_shl1 (own_Uof h2) (by omega)
  obtain ⟨R0, e1, -⟩ := own_split H M hM
  refine ⟨h3, own_Usub hh (own_Umul h3 (own_Uof hm) (by omega)) (by omega)⟩
theorem own_rm {r m : Int64} {R0 M : Nat} (hr : own_U r R0) (hm : m.toInt = (M : Int)) (h2 : R0 < 2 * M) : (r - m).toInt = (R0 : Int) - (M : Int) := by
  have h := c_lsub r m; have := rng64 (r - m); have := rng64 m
  unfold own_U at hr; omega
theorem own_rem {h m : Int64} {H M : Nat} (hh : own_U h H) (hm : m.toInt = (M : Int)) (hM : 0 < M) {r : Int64} (hr : h - (((((h.toUInt64 >>> ((1 : Int32) &&& 0x3f).toInt64.toUInt64).toInt64) / m) <<< ((1 : Int32) &&& 0x3f).toInt64)) * m = r) :
    r - (((r - m) ^^^ (-1)) >>> ((63 : Int32) &&& 0x3f).toInt64 &&& m) = own_c m h := by
  obtain ⟨R0, e1, e2, e3, -⟩ := own_split H M hM
  have h1 := (own_qr hh hm hM).2
  rw [hr, show H - 2 * (H / 2 / M) * M = R0 by omega] at h1
  have hs := own_rm h1 hm e2
  have hc := own_cU hm hM hh
  rw [e3] at hc
  rw [own_sel2]
  have z0 : (0 : Int64).toInt = 0 := rfl
  by_cases q : r - m < 0
  · rw [if_pos q, Int64.sub_zero]
    rw [Int64.lt_iff_toInt_lt] at q
    rw [Nat.mod_eq_of_lt (by omega)] at hc
    exact own_Uuniq h1 hc
  · rw [if_neg q]
    rw [Int64.lt_iff_toInt_lt] at q
    have : R0 % M = R0 - M := by rw [Nat.mod_eq_sub_mod (by omega), Nat.mod_eq_of_lt (by omega)]
    rw [this] at hc
    exact own_Uuniq (own_Usub h1 (own_Uof hm) (by omega)) hc
theorem own_div {h m : Int64} {H M : Nat} (hh : own_U h H) (hm : m.toInt = (M : Int)) (hM : 0 < M) {q r : Int64} (hq : (((((h.toUInt64 >>> ((1 : Int32) &&& 0x3f).toInt64.toUInt64).toInt64) / m) <<< ((1 : Int32) &&& 0x3f).toInt64)) = q) (hr : h - q * m = r) :
    own_U (q + (((r ||| ((r - m) ^^^ (-1))).toUInt64 >>> ((63 : Int32) &&& 0x3f).toInt64.toUInt64).toInt64)) (H / M) := by
  obtain ⟨R0, e1, e2, -, e4⟩ := own_split H M hM
  obtain ⟨h0, h1⟩ := own_qr hh hm hM
  have hH := own_Ult hh
  have hle : H / 2 / M ≤ H / 2 := Nat.div_le_self _ _
  rw [hq, hr, show H - 2 * (H / 2 / M) * M = R0 by omega] at h1
  rw [hq] at h0
  have hs := own_rm h1 hm e2
  have hsh := c_lushr (r ||| ((r - m) ^^^ (-1))) 63 63 (by decide) (by decide)
  have hx := c_xorSL (r - m) (-1)
  have ho := c_orSL r ((r - m) ^^^ (-1))
  have n1 : (-1 : Int64).toInt = -1 := rfl
  have hrg := rng64 (r ||| ((r - m) ^^^ (-1)))
  have hrm := rng64 m
  have hr64 := rng64 r
  have h1' : r.toInt % 18446744073709551616 = (R0 : Int) := h1
  by_cases q : R0 < M
  · have d : R0 / M = 0 := Nat.div_eq_of_lt q
    have s1 := hx.1 (by omega) (by omega)
    have s2 := ho.1 (by omega) s1
    have z : ((r ||| ((r - m) ^^^ (-1))).toUInt64 >>> ((63 : Int32) &&& 0x3f).toInt64.toUInt64).toInt64.toInt = ((0 : Nat) : Int) := by rw [hsh]; omega
    have := own_Uadd h0 (own_Uof z) (by omega)
    rw [e4, d]; exact this
  · have d : R0 / M = 1 := Nat.div_eq_of_lt_le (by omega) (by omega)
    have s1 := hx.2.2.1 (by omega) (by omega)
    have s2 := ho.2.2 s1
    have z : ((r ||| ((r - m) ^^^ (-1))).toUInt64 >>> ((63 : Int32) &&& 0x3f).toInt64.toUInt64).toInt64.toInt = ((1 : Nat) : Int) := by rw [hsh]; omega
    have hd : H / M ≤ H := Nat.div_le_self _ _
    have := own_Uadd h0 (own_Uof z) (by omega)
    rw [e4, d]; exact this
/-- one turn of onesOver -/
theorem own_turn {A M : Nat} (hM : 0 < M) : (2 * (A % M) + 1 < M → (2 * A + 1) / M = 2 * (A / M) ∧ (2 * A + 1) % M = 2 * (A % M) + 1) ∧ (¬ 2 * (A % M) + 1 < M → (2 * A + 1) / M = 2 * (A / M) + 1 ∧ (2 * A + 1) % M = 2 * (A % M) + 1 - M) := by
  have h1 := Nat.div_add_mod A M
  have h2 := Nat.mod_lt A hM
  have e : 2 * A + 1 = 2 * (A % M) + 1 + M * (2 * (A / M)) := by
    have e : M * (2 * (A / M)) = 2 * (M * (A / M)) := by rw [Nat.mul_left_comm]
    rw [e]; omega
  refine ⟨fun q => ?_, fun q => ?_⟩
  · rw [e, Nat.add_mul_div_left _ _ hM, Nat.add_mul_mod_self_left, Nat.div_eq_of_lt q, Nat.mod_eq_of_lt q]; omega
  · have d : (2 * (A % M) + 1) / M = 1 := Nat.div_eq_of_lt_le (by omega) (by omega)
    have d' : (2 * (A % M) + 1) % M = 2 * (A % M) + 1 - M := by rw [Nat.mod_eq_sub_mod (by omega), Nat.mod_eq_of_lt (by omega)]
    rw [e, Nat.add_mul_div_left _ _ hM, Nat.add_mul_mod_self_left, d, d']; omega
/-- the two estimates -/
theorem own_est {hh H b S M R hi q : Nat} (h63 : hh < 9223372036854775808) (hH : H = 2 * hh + b) (hb : b ≤ 1) (hS : 1 ≤ S) (hM : 4 ≤ M) (hR : R = (36893488147419103232 * S - 1) / M) (hhi : hi = hh * R / 18446744073709551616) (hq : q = hi / S) : q * M ≤ H ∧ H < q * M + 2 * M := by
  have r1 : R * M ≤ 36893488147419103232 * S - 1 := by rw [hR]; exact Nat.div_mul_le_self _ _
  have r2 : 36893488147419103232 * S - 1 < (R + 1) * M := by rw [hR, Nat.add_mul, Nat.one_mul]; have := Nat.lt_div_mul_add (a := 36893488147419103232 * S - 1) (b := M) (by omega); omega
  have i1 : hi * 18446744073709551616 ≤ hh * R := by rw [hhi]; exact Nat.div_mul_le_self _ _
  have i2 : hh * R < (hi + 1) * 18446744073709551616 := by rw [hhi]; omega
  have q1 : q * S ≤ hi := by rw [hq]; exact Nat.div_mul_le_self _ _
  have q2 : hi + 1 ≤ (q + 1) * S := by rw [hq, Nat.add_mul, Nat.one_mul]; have := Nat.lt_div_mul_add (a := hi) (b := S) (by omega); omega
  constructor
  · have k1 : q * S * 18446744073709551616 * M ≤ hh * R * M := Nat.mul_le_mul_right _ (Nat.le_trans (Nat.mul_le_mul_right _ q1) i1)
    have k2 : hh * R * M ≤ hh * (36893488147419103232 * S) := by rw [Nat.mul_assoc]; exact Nat.mul_le_mul_left _ (by omega)
    have k3 : (q * M) * (18446744073709551616 * S) ≤ (2 * hh) * (18446744073709551616 * S) := by
      have e1 : (q * M) * (18446744073709551616 * S) = q * S * 18446744073709551616 * M := by grind
      have e2 : (2 * hh) * (18446744073709551616 * S) = hh * (36893488147419103232 * S) := by grind
      rw [e1, e2]; exact Nat.le_trans k1 k2
    have := Nat.le_of_mul_le_mul_right k3 (by omega)
    omega
  · refine Nat.lt_of_not_le fun c => ?_
    have k1 : hh * R * M ≤ (q + 1) * S * 18446744073709551616 * M := Nat.mul_le_mul_right _ (Nat.le_trans (Nat.le_of_lt i2) (Nat.mul_le_mul_right _ q2))
    have k2 : hh * (36893488147419103232 * S) ≤ hh * ((R + 1) * M) := Nat.mul_le_mul_left _ (by omega)
    have k3 : hh * M ≤ 9223372036854775807 * M := Nat.mul_le_mul_right _ (by omega)
    have k4 : (q * M + 2 * M) * (18446744073709551616 * S) ≤ (2 * hh + 1) * (18446744073709551616 * S) := Nat.mul_le_mul_right _ (by omega)
    have e1 : hh * ((R + 1) * M) = hh * R * M + hh * M := by grind
    have e2 : (2 * hh + 1) * (18446744073709551616 * S) = hh * (36893488147419103232 * S) + 18446744073709551616 * S := by grind
    have e3 : (q * M + 2 * M) * (18446744073709551616 * S) = (q + 1) * S * 18446744073709551616 * M + 18446744073709551616 * (S * M) := by grind
    have k5 : S * 4 ≤ S * M := Nat.mul_le_mul_left _ hM
    have k6 : 1 * M ≤ S * M := Nat.mul_le_mul_right _ hS
    omega
theorem own_est2 {hh H S M hi hi' q q' : Nat} (hq : q = hi / S) (hq' : q' = hi' / S) (hS : 1 ≤ S) (h1 : hi' ≤ hi) (h2 : hi ≤ hi' + 1) (e1 : q * M ≤ H) (e2 : H < q * M + 2 * M) : q' * M ≤ H ∧ H < q' * M + 3 * M := by
  have a1 : q' ≤ q := by rw [hq, hq']; exact Nat.div_le_div_right h1
  have a2 : q ≤ q' + 1 := by
    rw [hq, hq']
    have : hi / S ≤ (hi' + S) / S := Nat.div_le_div_right (by omega)
    rw [Nat.add_div_right _ (by omega)] at this
    exact this
  have m1 := Nat.mul_le_mul_right M a1
  have m2 := Nat.mul_le_mul_right M a2
  rw [Nat.add_mul, Nat.one_mul] at m2
  omega
theorem own_hi {x y x1 x2 y1 y2 : Nat} (hx : x = x1 * 4294967296 + x2) (hy : y = y1 * 4294967296 + y2) : x * y / 18446744073709551616 = x1 * y1 + (x1 * y2 + x2 * y2 / 4294967296) / 4294967296 + ((x1 * y2 + x2 * y2 / 4294967296) % 4294967296 + x2 * y1) / 4294967296 := by
  have e : x * y = x1 * y1 * 18446744073709551616 + (x1 * y2 + x2 * y1) * 4294967296 + x2 * y2 := by rw [hx, hy]; grind
  rw [e]; omega
theorem own_hi' {x y x1 x2 y1 y2 : Nat} (hx : x = x1 * 4294967296 + x2) (hy : y = y1 * 4294967296 + y2) (b1 : x2 < 4294967296) (b2 : y2 < 4294967296) : x1 * y1 + (x1 * y2 + x2 * y1) / 4294967296 ≤ x * y / 18446744073709551616 ∧ x * y / 18446744073709551616 ≤ x1 * y1 + (x1 * y2 + x2 * y1) / 4294967296 + 1 := by
  have e : x * y = x1 * y1 * 18446744073709551616 + (x1 * y2 + x2 * y1) * 4294967296 + x2 * y2 := by rw [hx, hy]; grind
  have b : x2 * y2 ≤ 4294967295 * 4294967295 := Nat.mul_le_mul (by omega) (by omega)
  rw [e]; omega
theorem own_Us {x : Int64} {a : Nat} (hx : own_U x a) {q : Int32} {s : Nat} (hq : q.toInt = (s : Int)) (hs : s < 64) : own_U ((x.toUInt64 >>> (q &&& 0x3f).toInt64.toUInt64).toInt64) (a / 2 ^ s) := by
  have e : q.toBitVec.toNat % 64 = s := by
    have h1 : q.toInt = q.toBitVec.toInt := rfl
    rw [h1, BitVec.toInt_eq_toNat_cond] at hq
    split at hq <;> omega
  rcases Nat.eq_zero_or_pos s with z | z
  · subst z; rw [Nat.pow_zero, Nat.div_one]; exact own_Uushr0 hx e
  · exact own_Uushr hx e z
theorem own_mh {x y x1 x2 y1 y2 z2 t z1 z0 z3 : Int64} {a b : Nat} (hx : own_U x a) (ha : a < 9223372036854775808) (hy : own_U y b) (hb : b < 9223372036854775808)
    (e1 : x >>> ((32 : Int32) &&& 0x3f).toInt64 = x1) (e2 : x &&& 4294967295 = x2) (e3 : y >>> ((32 : Int32) &&& 0x3f).toInt64 = y1) (e4 : y &&& 4294967295 = y2) (e5 : x2 * y2 = z2) (e6 : x1 * y2 + ((z2.toUInt64 >>> ((32 : Int32) &&& 0x3f).toInt64.toUInt64).toInt64) = t) (e7 : t &&& 4294967295 = z1) (e8 : t >>> ((32 : Int32) &&& 0x3f).toInt64 = z0) (e9 : z1 + x2 * y1 = z3) :
    own_U (x1 * y1 + z0 + z3 >>> ((32 : Int32) &&& 0x3f).toInt64) (a * b / 18446744073709551616) := by
  have h1 : own_U x1 (a / 4294967296) := e1 ▸ own_Ushr hx ha (q := 32) (k := 32) (by decide)
  have h2 : own_U x2 (a % 4294967296) := e2 ▸ own_Umask hx
  have h3 : own_U y1 (b / 4294967296) := e3 ▸ own_Ushr hy hb (q := 32) (k := 32) (by decide)
  have h4 : own_U y2 (b % 4294967296) := e4 ▸ own_Umask hy
  obtain ⟨a1, ea1⟩ : ∃ z, a / 4294967296 = z := ⟨_, rfl⟩
  obtain ⟨a2, ea2⟩ : ∃ z, a % 4294967296 = z := ⟨_, rfl⟩
  obtain ⟨b1, eb1⟩ : ∃ z, b / 4294967296 = z := ⟨_, rfl⟩
  obtain ⟨b2, eb2⟩ : ∃ z, b % 4294967296 = z := ⟨_, rfl⟩
  rw [ea1] at h1; rw [ea2] at h2; rw [eb1] at h3; rw [eb2] at h4
  have k1 : a1 * b2 ≤ 2147483647 * 4294967295 := Nat.mul_le_mul (by omega) (by omega)
  have k2 : a2 * b2 ≤ 4294967295 * 4294967295 := Nat.mul_le_mul (by omega) (by omega)
  have k3 : a2 * b1 ≤ 4294967295 * 2147483647 := Nat.mul_le_mul (by omega) (by omega)
  have k4 : a1 * b1 ≤ 2147483647 * 2147483647 := Nat.mul_le_mul (by omega) (by omega)
  have h5 : own_U z2 (a2 * b2) := e5 ▸ own_Umul h2 h4 (by omega)
  have h6 : own_U t (a1 * b2 + a2 * b2 / 4294967296) := e6 ▸ own_Uadd (own_Umul h1 h4 (by omega)) (own_Uushr h5 (q := 32) (k := 32) (by decide) (by decide)) (by show _ + _ / 4294967296 < _; omega)
  have h7 : own_U z1 ((a1 * b2 + a2 * b2 / 4294967296) % 4294967296) := e7 ▸ own_Umask h6
  have h8 : own_U z0 ((a1 * b2 + a2 * b2 / 4294967296) / 4294967296) := e8 ▸ own_Ushr h6 (by omega) (q := 32) (k := 32) (by decide)
  have h9 : own_U z3 ((a1 * b2 + a2 * b2 / 4294967296) % 4294967296 + a2 * b1) := e9 ▸ own_Uadd h7 (own_Umul h2 h3 (by omega)) (by omega)
  have h10 := own_Uadd (own_Uadd (own_Umul h1 h3 (by omega)) h8 (by omega)) (own_Ushr h9 (by omega) (q := 32) (k := 32) (by decide)) (by show _ + _ / 4294967296 < _; omega)
  rw [own_hi (x := a) (y := b) (x1 := a1) (x2 := a2) (y1 := b1) (y2 := b2) (by omega) (by omega)]
  exact h10
/-- what the rule's fields say of each other -/
def own_recip (M : Nat) (rc : Int64) (sh : Int32) : Prop := 4 ≤ M ∧ M ≤ 4611686018427387904 ∧ ∃ s : Nat, s ≤ 60 ∧ sh.toInt = (s : Int) ∧ 4 * 2 ^ s ≤ M ∧ M < 8 * 2 ^ s ∧ rc.toInt = (((36893488147419103232 * 2 ^ s - 1) / M : Nat) : Int)
def own_rule (m : Int64) (d : Int32) (rc : Int64) (sh : Int32) : Prop := ∃ M : Nat, m.toInt = (M : Int) ∧ 0 < M ∧ (d = 1 ∨ (d = 0 ∧ own_recip M rc sh))
theorem own_rlt {M s : Nat} (h : 4 * 2 ^ s ≤ M) (h4 : 4 ≤ M) : (36893488147419103232 * 2 ^ s - 1) / M < 9223372036854775808 := by
  rw [Nat.div_lt_iff_lt_mul (by omega)]
  have : 0 < 2 ^ s := Nat.pos_of_ne_zero (by simp)
  omega
/-- cellOf's quotient -/
theorem own_quo {m rc h hi : Int64} {sh : Int32} {M H R : Nat} (hm : m.toInt = (M : Int)) (hr : own_recip M rc sh) (hh : own_U h H) (hR : rc.toInt = (R : Int)) (hhi : own_U hi (H / 2 * R / 18446744073709551616)) {q : Int64} (hq : ((hi.toUInt64 >>> (sh &&& 0x3f).toInt64.toUInt64).toInt64) = q) :
    ∃ Q : Nat, own_U q Q ∧ Q * M ≤ H ∧ H < Q * M + 2 * M := by
  obtain ⟨h4, h62, s, hs, hsh, b1, b2, hrc⟩ := hr
  have eR : R = (36893488147419103232 * 2 ^ s - 1) / M := by omega
  have hH := own_Ult hh
  have : 0 < 2 ^ s := Nat.pos_of_ne_zero (by simp)
  have u := own_Us hhi hsh (by omega)
  rw [hq] at u
  exact ⟨_, u, own_est (hh := H / 2) (b := H % 2) (by omega) (by omega) (by omega) (by omega) h4 eR rfl rfl⟩
theorem own_mod {H Q M k : Nat} (hM : 0 < M) (h1 : (Q + k) * M ≤ H) (h2 : H < (Q + k) * M + M) : H % M = H - (Q + k) * M := by
  have e : H = H - (Q + k) * M + M * (Q + k) := by rw [Nat.mul_comm M]; omega
  have e2 : H % M = (H - (Q + k) * M + M * (Q + k)) % M := by rw [← e]
  rw [e2, Nat.add_mul_mod_self_left, Nat.mod_eq_of_lt (by omega)]
/-- cellOf's last step -/
theorem own_fin {m h q r : Int64} {M H Q : Nat} (hm : m.toInt = (M : Int)) (hM : 4 ≤ M) (h62 : M ≤ 4611686018427387904) (hh : own_U h H) (hq : own_U q Q) (h1 : Q * M ≤ H) (h2 : H < Q * M + 2 * M) (hr : h - q * m = r) : (r < m → r = own_c m h) ∧ (¬ r < m → r - m = own_c m h) := by
  have hH := own_Ult hh
  have ur : own_U r (H - Q * M) := hr ▸ own_Usub hh (own_Umul hq (own_Uof hm) (by omega)) h1
  have tr := own_Uto ur (by omega)
  have hc := own_cU hm (by omega) hh
  refine ⟨fun k => ?_, fun k => ?_⟩
  · rw [Int64.lt_iff_toInt_lt] at k
    rw [own_mod (Q := Q) (k := 0) (by omega) (by rw [Nat.add_zero]; exact h1) (by rw [Nat.add_zero]; omega), Nat.add_zero] at hc
    exact own_Uuniq ur hc
  · rw [Int64.lt_iff_toInt_lt] at k
    have e1 : (Q + 1) * M = Q * M + M := by rw [Nat.add_mul, Nat.one_mul]
    rw [own_mod (Q := Q) (k := 1) (by omega) (by omega) (by omega), e1] at hc
    have us := own_Usub ur (own_Uof hm) (by omega)
    rw [Nat.sub_sub] at us
    exact own_Uuniq us hc
theorem own_q' {x rc x12 lo hi rlo rhi mid q : Int64} {sh : Int32} {H M R : Nat} (hr : own_recip M rc sh) (hx : own_U x H) (hR : rc.toInt = (R : Int)) (e1 : ((x.toUInt64 >>> ((1 : Int32) &&& 0x3f).toInt64.toUInt64).toInt64) = x12) (e2 : x12 &&& 4294967295 = lo) (e3 : ((x12.toUInt64 >>> ((32 : Int32) &&& 0x3f).toInt64.toUInt64).toInt64) = hi) (e4 : rc &&& 4294967295 = rlo) (e5 : ((rc.toUInt64 >>> ((32 : Int32) &&& 0x3f).toInt64.toUInt64).toInt64) = rhi) (e6 : hi * rlo + lo * rhi = mid)
    (e7 : (((hi * rhi + ((mid.toUInt64 >>> ((32 : Int32) &&& 0x3f).toInt64.toUInt64).toInt64)).toUInt64 >>> (sh &&& 0x3f).toInt64.toUInt64).toInt64) = q) : ∃ Q : Nat, own_U q Q ∧ Q * M ≤ H ∧ H < Q * M + 3 * M := by
  obtain ⟨h4, h62, s, hs, hsh, b1, b2, hrc⟩ := hr
  have eR : R = (36893488147419103232 * 2 ^ s - 1) / M := by omega
  have hRl := own_rlt b1 h4
  rw [← eR] at hRl
  have hH := own_Ult hx
  have hp : 0 < 2 ^ s := Nat.pos_of_ne_zero (by simp)
  have h1 : own_U x12 (H / 2) := e1 ▸ own_Uushr hx (q := 1) (k := 1) (by decide) (by decide)
  have h2 : own_U lo (H / 2 % 4294967296) := e2 ▸ own_Umask h1
  have h3 : own_U hi (H / 2 / 4294967296) := e3 ▸ own_Uushr h1 (q := 32) (k := 32) (by decide) (by decide)
  have h4' : own_U rlo (R % 4294967296) := e4 ▸ own_Umask (own_Uof hR)
  have h5 : own_U rhi (R / 4294967296) := e5 ▸ own_Uushr (own_Uof hR) (q := 32) (k := 32) (by decide) (by decide)
  obtain ⟨a1, ea1⟩ : ∃ z, H / 2 / 4294967296 = z := ⟨_, rfl⟩
  obtain ⟨a2, ea2⟩ : ∃ z, H / 2 % 4294967296 = z := ⟨_, rfl⟩
  obtain ⟨r1, er1⟩ : ∃ z, R / 4294967296 = z := ⟨_, rfl⟩
  obtain ⟨r2, er2⟩ : ∃ z, R % 4294967296 = z := ⟨_, rfl⟩
  rw [ea1] at h3; rw [ea2] at h2; rw [er1] at h5; rw [er2] at h4'
  have k1 : a1 * r2 ≤ 2147483647 * 4294967295 := Nat.mul_le_mul (by omega) (by omega)
  have k3 : a2 * r1 ≤ 4294967295 * 2147483647 := Nat.mul_le_mul (by omega) (by omega)
  have k4 : a1 * r1 ≤ 2147483647 * 2147483647 := Nat.mul_le_mul (by omega) (by omega)
  have h6 : own_U mid (a1 * r2 + a2 * r1) := e6 ▸ own_Uadd (own_Umul h3 h4' (by omega)) (own_Umul h2 h5 (by omega)) (by omega)
  have h7 := own_Uadd (own_Umul h3 h5 (by omega)) (own_Uushr h6 (q := 32) (k := 32) (by decide) (by decide)) (by show _ + _ / 4294967296 < _; omega)
  have h8 := own_Us h7 hsh (by omega)
  rw [e7] at h8
  obtain ⟨j1, j2⟩ := own_hi' (x := H / 2) (y := R) (x1 := a1) (x2 := a2) (y1 := r1) (y2 := r2) (by omega) (by omega) (by omega) (by omega)
  obtain ⟨i1, i2⟩ := own_est (hh := H / 2) (b := H % 2) (H := H) (S := 2 ^ s) (by omega) (by omega) (by omega) (by omega) h4 eR rfl rfl
  exact ⟨_, h8, own_est2 (hh := H) (hi := H / 2 * R / 18446744073709551616) (hi' := a1 * r1 + (a1 * r2 + a2 * r1) / 4294967296) rfl rfl (by omega) j1 j2 i1 i2⟩
theorem own_cells {m x q y z : Int64} {M H Q : Nat} (hm : m.toInt = (M : Int)) (hM : 4 ≤ M) (h62 : M ≤ 4611686018427387904) (hx : own_U x H) (hq : own_U q Q) (h1 : Q * M ≤ H) (h2 : H < Q * M + 3 * M) (e1 : x - q * m - m = y)
    (e2 : y + ((-((y.toUInt64 >>> ((63 : Int32) &&& 0x3f).toInt64.toUInt64).toInt64)) &&& m) - m = z) : z + ((-((z.toUInt64 >>> ((63 : Int32) &&& 0x3f).toInt64.toUInt64).toInt64)) &&& m) = own_c m x := by
  have hH := own_Ult hx
  have ur := own_Usub hx (own_Umul hq (own_Uof hm) (by omega)) h1
  have hc := own_c_lt hm (by omega) hx
  have ty : y.toInt = ((H - Q * M : Nat) : Int) - (M : Int) := by
    have h := c_lsub (x - q * m) m; have := rng64 (x - q * m - m)
    unfold own_U at ur; rw [← e1]; omega
  have em : ∀ k, (Q + k) * M = Q * M + k * M := fun k => Nat.add_mul _ _ _
  have z0 : (0 : Int64).toInt = 0 := rfl
  rw [own_sel] at e2 ⊢
  by_cases ny : y < 0
  · rw [if_pos ny] at e2
    rw [Int64.lt_iff_toInt_lt] at ny
    have ez : z = y := by rw [← e2]; apply eq64; have a := c_ladd y m; have b := c_lsub (y + m) m; have := rng64 y; have := rng64 (y + m - m); have := rng64 (y + m); omega
    rw [ez, if_pos (Int64.lt_iff_toInt_lt.mpr ny)]
    apply eq64
    rw [hc, own_mod (Q := Q) (k := 0) (by omega) (by rw [em]; omega) (by rw [em]; omega), em]
    have a := c_ladd y m; have := rng64 (y + m); omega
  · rw [if_neg ny, Int64.add_zero] at e2
    rw [Int64.lt_iff_toInt_lt] at ny
    have tz : z.toInt = ((H - Q * M : Nat) : Int) - 2 * (M : Int) := by rw [← e2]; have b := c_lsub y m; have := rng64 (y - m); omega
    by_cases nz : z < 0
    · rw [if_pos nz]
      rw [Int64.lt_iff_toInt_lt] at nz
      apply eq64
      rw [hc, own_mod (Q := Q) (k := 1) (by omega) (by rw [em]; omega) (by rw [em]; omega), em]
      have a := c_ladd z m; have := rng64 (z + m); omega
    · rw [if_neg nz, Int64.add_zero]
      rw [Int64.lt_iff_toInt_lt] at nz
      apply eq64
      rw [hc, own_mod (Q := Q) (k := 2) (by omega) (by rw [em]; omega) (by rw [em]; omega), em]
      omega
theorem own_2 (p q : Int64) : p + 2 * q = p + q + q := by
  apply eq64
  have h1 := c_lmul 2 q; have h2 := c_ladd p (2 * q); have h3 := c_ladd p q; have h4 := c_ladd (p + q) q
  have := rng64 (p + 2 * q); have := rng64 (p + q + q); have n2 : (2 : Int64).toInt = 2 := rfl
  rw [n2] at h1; omega
/-- the carry's word -/
theorem own_carry {x y : Int64} {a b : Nat} (hx : own_U x a) (hy : own_U y b) : ((x &&& y) ||| ((x ||| y) &&& ((x + y) ^^^ (-1)))) < 0 ↔ 18446744073709551616 ≤ a + b := by
  have hs := c_ladd x y
  have h1 := c_andSL x y; have h2 := c_orSL x y; have h3 := c_xorSL (x + y) (-1)
  have h4 := c_andSL (x ||| y) ((x + y) ^^^ (-1)); have h5 := c_orSL (x &&& y) ((x ||| y) &&& ((x + y) ^^^ (-1)))
  have r1 := rng64 x; have r2 := rng64 y; have r3 := rng64 (x + y)
  have n1 : (-1 : Int64).toInt = -1 := rfl
  have z0 : (0 : Int64).toInt = 0 := rfl
  unfold own_U at hx hy
  rw [Int64.lt_iff_toInt_lt, z0]
  rw [n1] at h3
  omega
theorem own_step {m x y c p w f k c' : Int64} {M : Nat} (hm : m.toInt = (M : Int)) (hM : 0 < M) (hc : c = own_c m x) (hp : p.toInt = (own_c m y).toInt - (M : Int)) (hw : ∃ j : Int, w.toInt = (own_c m y).toInt - 18446744073709551616 + j * (M : Int)) (hw1 : - (M : Int) ≤ w.toInt) (hw2 : w.toInt < 0) (hf : p ^^^ w = f)
    (e1 : -((((x &&& y) ||| ((x ||| y) &&& ((x + y) ^^^ (-1)))).toUInt64 >>> ((63 : Int32) &&& 0x3f).toInt64.toUInt64).toInt64) = k) (e2 : c + (p ^^^ (f &&& k)) = c') : c' + ((-((c'.toUInt64 >>> ((63 : Int32) &&& 0x3f).toInt64.toUInt64).toInt64)) &&& m) = own_c m (x + y) := by
  obtain ⟨a, ha, la⟩ := own_Uex x
  obtain ⟨b, hb, lb⟩ := own_Uex y
  have hm64 := rng64 m
  have ca := own_c_lt hm hM ha
  have cb := own_c_lt hm hM hb
  have la' := Nat.mod_lt a hM
  have lb' := Nat.mod_lt b hM
  have hcar := own_carry ha hb
  have ek : f &&& k = if ((x &&& y) ||| ((x ||| y) &&& ((x + y) ^^^ (-1)))) < 0 then f else 0 := by rw [← e1, Int64.and_comm, own_sel]
  have da := Nat.div_add_mod a M
  have db := Nat.div_add_mod b M
  rw [own_sel]
  have z0 : (0 : Int64).toInt = 0 := rfl
  -- the addend
  have hadd : ∃ g : Int64, c + g = c' ∧ (∃ (j : Int) (n : Nat), own_U (x + y) n ∧ g.toInt = (n : Int) - (a : Int) + j * (M : Int)) ∧ - (M : Int) ≤ g.toInt ∧ g.toInt < 0 := by
    by_cases q : 18446744073709551616 ≤ a + b
    · refine ⟨w, ?_, ?_, hw1, hw2⟩
      · rw [← e2, ek, if_pos (hcar.mpr q), ← hf]
        congr 1
        apply Int64.toBitVec_inj.mp
        simp only [Int64.toBitVec_xor]
        rw [← BitVec.xor_assoc, BitVec.xor_self, BitVec.zero_xor]
      · obtain ⟨j, hj⟩ := hw
        refine ⟨j - ((b / M : Nat) : Int), a + b - 18446744073709551616, ?_, ?_⟩
        · have := own_Uaddm ha hb
          rw [show (a + b) % 18446744073709551616 = a + b - 18446744073709551616 by omega] at this; exact this
        · rw [hj, cb, Int.sub_mul]
          have e : ((b / M : Nat) : Int) * (M : Int) = ((M * (b / M) : Nat) : Int) := by rw [Int.natCast_mul, Int.mul_comm]
          rw [e]; omega
    · refine ⟨p, ?_, ?_, by omega, by omega⟩
      · rw [← e2, ek, if_neg (fun z => q (hcar.mp z))]
        congr 1
        apply Int64.toBitVec_inj.mp
        simp only [Int64.toBitVec_xor]
        exact BitVec.xor_zero.symm
      · refine ⟨-1 - ((b / M : Nat) : Int), a + b, own_Uadd ha hb (by omega), ?_⟩
        rw [hp, cb, Int.sub_mul]
        have e : ((b / M : Nat) : Int) * (M : Int) = ((M * (b / M) : Nat) : Int) := by rw [Int.natCast_mul, Int.mul_comm]
        rw [e]; omega
  obtain ⟨g, eg, ⟨j, n, un, hg⟩, g1, g2⟩ := hadd
  have cn := own_c_lt hm hM un
  have ln := Nat.mod_lt n hM
  have dn := Nat.div_add_mod n M
  have tc : c'.toInt = ((a % M : Nat) : Int) + g.toInt := by
    rw [← eg, hc]; have t1 := c_ladd (own_c m x) g; have t2 := rng64 (own_c m x + g); rw [ca] at t1; omega
  -- c' is n - a + a % M + j M
  have key : ∃ i : Int, c'.toInt = ((n % M : Nat) : Int) + i * (M : Int) := by
    refine ⟨j + ((n / M : Nat) : Int) - ((a / M : Nat) : Int), ?_⟩
    have e1 : ((n / M : Nat) : Int) * (M : Int) = ((M * (n / M) : Nat) : Int) := by rw [Int.natCast_mul, Int.mul_comm]
    have e2 : ((a / M : Nat) : Int) * (M : Int) = ((M * (a / M) : Nat) : Int) := by rw [Int.natCast_mul, Int.mul_comm]
    rw [tc, hg, Int.sub_mul, Int.add_mul, e1, e2]; omega
  obtain ⟨i, hi⟩ := key
  apply eq64
  rw [cn]
  have i1 : -1 ≤ i := Int.not_lt.mp fun q => by
    have : i * (M : Int) ≤ (-2) * (M : Int) := Int.mul_le_mul_of_nonneg_right (by omega) (by omega)
    omega
  have i2 : i ≤ 0 := Int.not_lt.mp fun q => by
    have : 1 * (M : Int) ≤ i * (M : Int) := Int.mul_le_mul_of_nonneg_right (by omega) (by omega)
    omega
  obtain rfl | rfl : i = -1 ∨ i = 0 := by omega
  · rw [if_pos (Int64.lt_iff_toInt_lt.mpr (by omega))]
    have := c_ladd c' m; have := rng64 (c' + m); omega
  · rw [if_neg (fun q => by rw [Int64.lt_iff_toInt_lt] at q; omega), Int64.add_zero]; omega
def own_SW (m y p w : Int64) (M : Nat) : Prop := p.toInt = (own_c m y).toInt - (M : Int) ∧ (∃ j : Int, w.toInt = (own_c m y).toInt - 18446744073709551616 + j * (M : Int)) ∧ - (M : Int) ≤ w.toInt ∧ w.toInt < 0
theorem own_start {m s wl p x11 w y : Int64} {M : Nat} (hm : m.toInt = (M : Int)) (hM : 0 < M) (hs : s = own_c m y) (hwl : own_c m (-1) + 1 = wl) (e1 : s - m = p) (e2 : p - wl = x11) (e3 : x11 + ((-(((x11 + m).toUInt64 >>> ((63 : Int32) &&& 0x3f).toInt64.toUInt64).toInt64)) &&& m) = w) : own_SW m y p w M := by
  obtain ⟨b, hb, lb⟩ := own_Uex y
  have u1 : own_U (-1) 18446744073709551615 := rfl
  have cw := own_c_lt hm hM u1
  have cb := own_c_lt hm hM hb
  have lw := Nat.mod_lt 18446744073709551615 hM
  have lb' := Nat.mod_lt b hM
  have dw := Nat.div_add_mod 18446744073709551615 M
  have hm64 := rng64 m
  have z0 : (0 : Int64).toInt = 0 := rfl
  have o1 : (1 : Int64).toInt = 1 := rfl
  have tw : wl.toInt = ((18446744073709551615 % M : Nat) : Int) + 1 := by rw [← hwl]; have t1 := c_ladd (own_c m (-1)) 1; have t2 := rng64 (own_c m (-1) + 1); rw [cw, o1] at t1; omega
  have tp : p.toInt = ((b % M : Nat) : Int) - (M : Int) := by rw [← e1, hs]; have t1 := c_lsub (own_c m y) m; have t2 := rng64 (own_c m y - m); rw [cb] at t1; omega
  have t11 := c_lsub p wl
  rw [e2] at t11
  have t12 := c_ladd x11 m
  have r12 := rng64 (x11 + m)
  have k : (x11 + m).toInt = ((b % M : Nat) : Int) - (((18446744073709551615 % M : Nat) : Int) + 1) := by omega
  have e : ((18446744073709551615 / M : Nat) : Int) * (M : Int) = ((M * (18446744073709551615 / M) : Nat) : Int) := by rw [Int.natCast_mul, Int.mul_comm]
  rw [own_sel] at e3
  refine ⟨by rw [tp, cb], ?_⟩
  by_cases q : x11 + m < 0
  · rw [if_pos q] at e3
    rw [Int64.lt_iff_toInt_lt] at q
    have tww : w.toInt = ((b % M : Nat) : Int) - (((18446744073709551615 % M : Nat) : Int) + 1) := by rw [← e3]; exact k
    refine ⟨⟨((18446744073709551615 / M : Nat) : Int), ?_⟩, by omega, by omega⟩
    rw [tww, cb, e]; omega
  · rw [if_neg q, Int64.add_zero] at e3
    rw [Int64.lt_iff_toInt_lt] at q
    have r11 := rng64 x11
    have tww : w.toInt = ((b % M : Nat) : Int) - (((18446744073709551615 % M : Nat) : Int) + 1) - (M : Int) := by rw [← e3]; omega
    refine ⟨⟨((18446744073709551615 / M : Nat) : Int) - 1, ?_⟩, by omega, by omega⟩
    rw [tww, cb, Int.sub_mul, e]; omega

theorem dx_0 : decode jdk_29_method_66_code 0 = .ok (.lload_n 0, 1) := by decide +kernel
theorem dx_1 : decode jdk_29_method_66_code 1 = .ok (.lload_n 2, 1) := by decide +kernel
theorem dx_2 : decode jdk_29_method_66_code 2 = .ok (.lcmp, 1) := by decide +kernel
theorem dx_3 : decode jdk_29_method_66_code 3 = .ok (.ifCond .lt 7, 3) := by decide +kernel
theorem dx_6 : decode jdk_29_method_66_code 6 = .ok (.lload_n 0, 1) := by decide +kernel
theorem dx_7 : decode jdk_29_method_66_code 7 = .ok (.goto 4, 3) := by decide +kernel
theorem dx_10 : decode jdk_29_method_66_code 10 = .ok (.lload_n 2, 1) := by decide +kernel
theorem dx_11 : decode jdk_29_method_66_code 11 = .ok (.lreturn, 1) := by decide +kernel
def fn_x (p0 : Int64) (p2 : Int64) : Int64 := (if p0 < p2 then p2 else p0)
theorem ef_x (p0 : Int64) (p2 : Int64) (m : MethodId) : entryFrame m #[(.long p0), (.long p2)] 4 = mkF m 0 #[.val (.long p0), .second, .val (.long p2), .second] [] := by first | (simp [entryFrame, mkF, argsToLocals, Value.category, maxLocals]; done) | rfl
theorem pn_x : plainFor (⟨"java/lang/Math", "max", "(JJ)J"⟩ : MethodName) = true := by first | exact plainFor_of_name (by first | (simp [plainName, overriddenIn]; done) | decide +kernel) | decide +kernel
set_option maxRecDepth 65536 in
set_option maxHeartbeats 40000000 in
theorem rm_x (l : Launch) (Z : State) (a0 : Array Value) (hw : ∀ d ∈ tables_1, d.before a0 Z = true) (p0 : Int64) (p2 : Int64) (h0 : Heap)  :
    Met l Z (⟨"java/lang/Math", "max", "(JJ)J"⟩ : MethodName) jdk_29_method_66_code 4 (some .long) [] ({ frames := 0, cells := 0, slots := 0, locals := 0 } : Room) #[(.long p0), (.long p2)] [] h0 (fun v h => v = some (Value.long (fn_x p0 p2))) := by
  refine Met.mk pn_x (ef_x p0 p2) ?_
  intro C T hs0 O
  show Go C [] (fun v h => v = some (Value.long (fn_x p0 p2))) 0 0 (T.setTop (mkF C.m 0 #[.val (.long p0), .second, .val (.long p2), .second] []))
  refine Jvm.OwnW.lloadN O dx_0 rfl (q := 1) rfl ?_
  refine Jvm.OwnW.lloadN O dx_1 rfl (q := 2) rfl ?_
  refine Jvm.OwnW.lcmp O dx_2 rfl (q := 3) rfl ?_
  by_cases hc3 : p0 < p2
  · refine Jvm.OwnW.ifYes O dx_3 (tltL hc3).1 (by decide) (q := 10) rfl ?_
    refine Jvm.OwnW.lloadN O dx_10 rfl (q := 11) rfl ?_
    exact Jvm.OwnW.retL O dx_11 rfl (by decide) (by decide) (by show some (Value.long p2) = some (Value.long (fn_x p0 p2)); rw [fn_x, if_pos hc3])
  · refine Jvm.OwnW.ifNo O dx_3 (fltL hc3).1 (q := 6) rfl ?_
    refine Jvm.OwnW.lloadN O dx_6 rfl (q := 7) rfl ?_
    refine Jvm.OwnW.goto O dx_7 (by decide) (q := 11) rfl ?_
    exact Jvm.OwnW.retL O dx_11 rfl (by decide) (by decide) (by show some (Value.long p0) = some (Value.long (fn_x p0 p2)); rw [fn_x, if_neg hc3])
theorem dm_0 : decode jdk_35_method_45_code 0 = .ok (.lload_n 2, 1) := by decide +kernel
theorem dm_1 : decode jdk_35_method_45_code 1 = .ok (.lconst 0, 1) := by decide +kernel
theorem dm_2 : decode jdk_35_method_45_code 2 = .ok (.lcmp, 1) := by decide +kernel
theorem dm_3 : decode jdk_35_method_45_code 3 = .ok (.ifCond .lt 37, 3) := by decide +kernel
theorem dm_6 : decode jdk_35_method_45_code 6 = .ok (.lload_n 0, 1) := by decide +kernel
theorem dm_7 : decode jdk_35_method_45_code 7 = .ok (.iconst 1, 1) := by decide +kernel
theorem dm_8 : decode jdk_35_method_45_code 8 = .ok (.lushr, 1) := by decide +kernel
theorem dm_9 : decode jdk_35_method_45_code 9 = .ok (.lload_n 2, 1) := by decide +kernel
theorem dm_10 : decode jdk_35_method_45_code 10 = .ok (.ldiv, 1) := by decide +kernel
theorem dm_11 : decode jdk_35_method_45_code 11 = .ok (.iconst 1, 1) := by decide +kernel
theorem dm_12 : decode jdk_35_method_45_code 12 = .ok (.lshl, 1) := by decide +kernel
theorem dm_13 : decode jdk_35_method_45_code 13 = .ok (.lstore 4, 2) := by decide +kernel
theorem dm_15 : decode jdk_35_method_45_code 15 = .ok (.lload_n 0, 1) := by decide +kernel
theorem dm_16 : decode jdk_35_method_45_code 16 = .ok (.lload 4, 2) := by decide +kernel
theorem dm_18 : decode jdk_35_method_45_code 18 = .ok (.lload_n 2, 1) := by decide +kernel
theorem dm_19 : decode jdk_35_method_45_code 19 = .ok (.lmul, 1) := by decide +kernel
theorem dm_20 : decode jdk_35_method_45_code 20 = .ok (.lsub, 1) := by decide +kernel
theorem dm_21 : decode jdk_35_method_45_code 21 = .ok (.lstore 6, 2) := by decide +kernel
theorem dm_23 : decode jdk_35_method_45_code 23 = .ok (.lload 6, 2) := by decide +kernel
theorem dm_25 : decode jdk_35_method_45_code 25 = .ok (.lload 6, 2) := by decide +kernel
theorem dm_27 : decode jdk_35_method_45_code 27 = .ok (.lload_n 2, 1) := by decide +kernel
theorem dm_28 : decode jdk_35_method_45_code 28 = .ok (.lsub, 1) := by decide +kernel
theorem dm_29 : decode jdk_35_method_45_code 29 = .ok (.ldc2_w 306, 3) := by decide +kernel
theorem dm_32 : decode jdk_35_method_45_code 32 = .ok (.lxor, 1) := by decide +kernel
theorem dm_33 : decode jdk_35_method_45_code 33 = .ok (.bipush 63, 2) := by decide +kernel
theorem dm_35 : decode jdk_35_method_45_code 35 = .ok (.lshr, 1) := by decide +kernel
theorem dm_36 : decode jdk_35_method_45_code 36 = .ok (.lload_n 2, 1) := by decide +kernel
theorem dm_37 : decode jdk_35_method_45_code 37 = .ok (.land, 1) := by decide +kernel
theorem dm_38 : decode jdk_35_method_45_code 38 = .ok (.lsub, 1) := by decide +kernel
theorem dm_39 : decode jdk_35_method_45_code 39 = .ok (.lreturn, 1) := by decide +kernel
theorem ef_m (p0 : Int64) (p2 : Int64) (m : MethodId) : entryFrame m #[(.long p0), (.long p2)] 8 = mkF m 0 #[.val (.long p0), .second, .val (.long p2), .second, .unset, .unset, .unset, .unset] [] := by first | (simp [entryFrame, mkF, argsToLocals, Value.category, maxLocals]; done) | rfl
theorem pn_m : plainFor (⟨"java/lang/Long", "remainderUnsigned", "(JJ)J"⟩ : MethodName) = true := by first | exact plainFor_of_name (by first | (simp [plainName, overriddenIn]; done) | decide +kernel) | decide +kernel
set_option maxRecDepth 65536 in
set_option maxHeartbeats 40000000 in
theorem rm_m (l : Launch) (Z : State) (a0 : Array Value) (hw : ∀ d ∈ tables_1, d.before a0 Z = true) (p0 : Int64) (p2 : Int64) (H M : Nat) (h0 : Heap) (hh : own_U p0 H) (hm : p2.toInt = (M : Int)) (hM : 0 < M) :
    Met l Z (⟨"java/lang/Long", "remainderUnsigned", "(JJ)J"⟩ : MethodName) jdk_35_method_45_code 8 (some .long) [] ({ frames := 0, cells := 0, slots := 0, locals := 0 } : Room) #[(.long p0), (.long p2)] [] h0 (fun v h => v = some (.long (own_c p2 p0))) := by
  refine Met.mk pn_m (ef_m p0 p2) ?_
  intro C T hs0 O
  show Go C [] (fun v h => v = some (.long (own_c p2 p0))) 0 0 (T.setTop (mkF C.m 0 #[.val (.long p0), .second, .val (.long p2), .second, .unset, .unset, .unset, .unset] []))
  refine Jvm.OwnW.lloadN O dm_0 rfl (q := 1) rfl ?_
  refine Jvm.OwnW.lconst O dm_1 (r := (0 : Int64)) rfl (q := 2) rfl ?_
  refine Jvm.OwnW.lcmp O dm_2 rfl (q := 3) rfl ?_
  refine Jvm.OwnW.ifNo O dm_3 (fltL (show ¬ (p2 < (0 : Int64)) from nlt64 (by rw [hm]; show (0 : Int) ≤ _; omega))).1 (q := 6) rfl ?_
  refine Jvm.OwnW.lloadN O dm_6 rfl (q := 7) rfl ?_
  refine Jvm.OwnW.iconst O dm_7 (r := (1 : Int32)) rfl (q := 8) rfl ?_
  refine Jvm.OwnW.lushr O dm_8 rfl (q := 9) rfl ?_
  refine Jvm.OwnW.lloadN O dm_9 rfl (q := 10) rfl ?_
  refine Jvm.OwnW.ldiv O dm_10 (ne0_64 (by omega)) rfl (q := 11) rfl ?_
  refine Jvm.OwnW.iconst O dm_11 (r := (1 : Int32)) rfl (q := 12) rfl ?_
  refine Jvm.OwnW.lshl O dm_12 rfl (q := 13) rfl ?_
  refine Jvm.OwnW.lstore O dm_13 (L' := #[.val (.long p0), .second, .val (.long p2), .second, .val (.long ((((p0.toUInt64 >>> ((1 : Int32) &&& 0x3f).toInt64.toUInt64).toInt64) / p2) <<< ((1 : Int32) &&& 0x3f).toInt64)), .second, .unset, .unset]) rfl (q := 15) rfl ?_
  refine Jvm.OwnW.lloadN O dm_15 rfl (q := 16) rfl ?_
  refine Jvm.OwnW.lload O dm_16 rfl (q := 18) rfl ?_
  refine Jvm.OwnW.lloadN O dm_18 rfl (q := 19) rfl ?_
  refine Jvm.OwnW.lmul O dm_19 rfl (q := 20) rfl ?_
  obtain ⟨r, hr⟩ : ∃ zz_, (p0 - (((((p0.toUInt64 >>> ((1 : Int32) &&& 0x3f).toInt64.toUInt64).toInt64) / p2) <<< ((1 : Int32) &&& 0x3f).toInt64) * p2)) = zz_ := ⟨_, rfl⟩
  refine Jvm.OwnW.lsub O dm_20 hr (q := 21) rfl ?_
  refine Jvm.OwnW.lstore O dm_21 (L' := #[.val (.long p0), .second, .val (.long p2), .second, .val (.long ((((p0.toUInt64 >>> ((1 : Int32) &&& 0x3f).toInt64.toUInt64).toInt64) / p2) <<< ((1 : Int32) &&& 0x3f).toInt64)), .second, .val (.long r), .second]) rfl (q := 23) rfl ?_
  refine Jvm.OwnW.lload O dm_23 rfl (q := 25) rfl ?_
  refine Jvm.OwnW.lload O dm_25 rfl (q := 27) rfl ?_
  refine Jvm.OwnW.lloadN O dm_27 rfl (q := 28) rfl ?_
  refine Jvm.OwnW.lsub O dm_28 rfl (q := 29) rfl ?_
  refine Jvm.OwnW.ldcL O dm_29 (hw _ (List.mem_of_getElem? (i := 63) rfl)) (q := 32) rfl ?_
  refine Jvm.OwnW.lxor O dm_32 rfl (q := 33) rfl ?_
  refine Jvm.OwnW.bipush O dm_33 (r := (63 : Int32)) rfl (q := 35) rfl ?_
  refine Jvm.OwnW.lshr O dm_35 rfl (q := 36) rfl ?_
  refine Jvm.OwnW.lloadN O dm_36 rfl (q := 37) rfl ?_
  refine Jvm.OwnW.land O dm_37 rfl (q := 38) rfl ?_
  refine Jvm.OwnW.lsub O dm_38 rfl (q := 39) rfl ?_
  exact Jvm.OwnW.retL O dm_39 (show _ = own_c p2 p0 from own_rem hh hm hM hr) (by decide) (by decide) rfl
theorem dd_0 : decode jdk_35_method_44_code 0 = .ok (.lload_n 2, 1) := by decide +kernel
theorem dd_1 : decode jdk_35_method_44_code 1 = .ok (.lconst 0, 1) := by decide +kernel
theorem dd_2 : decode jdk_35_method_44_code 2 = .ok (.lcmp, 1) := by decide +kernel
theorem dd_3 : decode jdk_35_method_44_code 3 = .ok (.ifCond .lt 38, 3) := by decide +kernel
theorem dd_6 : decode jdk_35_method_44_code 6 = .ok (.lload_n 0, 1) := by decide +kernel
theorem dd_7 : decode jdk_35_method_44_code 7 = .ok (.iconst 1, 1) := by decide +kernel
theorem dd_8 : decode jdk_35_method_44_code 8 = .ok (.lushr, 1) := by decide +kernel
theorem dd_9 : decode jdk_35_method_44_code 9 = .ok (.lload_n 2, 1) := by decide +kernel
theorem dd_10 : decode jdk_35_method_44_code 10 = .ok (.ldiv, 1) := by decide +kernel
theorem dd_11 : decode jdk_35_method_44_code 11 = .ok (.iconst 1, 1) := by decide +kernel
theorem dd_12 : decode jdk_35_method_44_code 12 = .ok (.lshl, 1) := by decide +kernel
theorem dd_13 : decode jdk_35_method_44_code 13 = .ok (.lstore 4, 2) := by decide +kernel
theorem dd_15 : decode jdk_35_method_44_code 15 = .ok (.lload_n 0, 1) := by decide +kernel
theorem dd_16 : decode jdk_35_method_44_code 16 = .ok (.lload 4, 2) := by decide +kernel
theorem dd_18 : decode jdk_35_method_44_code 18 = .ok (.lload_n 2, 1) := by decide +kernel
theorem dd_19 : decode jdk_35_method_44_code 19 = .ok (.lmul, 1) := by decide +kernel
theorem dd_20 : decode jdk_35_method_44_code 20 = .ok (.lsub, 1) := by decide +kernel
theorem dd_21 : decode jdk_35_method_44_code 21 = .ok (.lstore 6, 2) := by decide +kernel
theorem dd_23 : decode jdk_35_method_44_code 23 = .ok (.lload 4, 2) := by decide +kernel
theorem dd_25 : decode jdk_35_method_44_code 25 = .ok (.lload 6, 2) := by decide +kernel
theorem dd_27 : decode jdk_35_method_44_code 27 = .ok (.lload 6, 2) := by decide +kernel
theorem dd_29 : decode jdk_35_method_44_code 29 = .ok (.lload_n 2, 1) := by decide +kernel
theorem dd_30 : decode jdk_35_method_44_code 30 = .ok (.lsub, 1) := by decide +kernel
theorem dd_31 : decode jdk_35_method_44_code 31 = .ok (.ldc2_w 306, 3) := by decide +kernel
theorem dd_34 : decode jdk_35_method_44_code 34 = .ok (.lxor, 1) := by decide +kernel
theorem dd_35 : decode jdk_35_method_44_code 35 = .ok (.lor, 1) := by decide +kernel
theorem dd_36 : decode jdk_35_method_44_code 36 = .ok (.bipush 63, 2) := by decide +kernel
theorem dd_38 : decode jdk_35_method_44_code 38 = .ok (.lushr, 1) := by decide +kernel
theorem dd_39 : decode jdk_35_method_44_code 39 = .ok (.ladd, 1) := by decide +kernel
theorem dd_40 : decode jdk_35_method_44_code 40 = .ok (.lreturn, 1) := by decide +kernel
theorem ef_d (p0 : Int64) (p2 : Int64) (m : MethodId) : entryFrame m #[(.long p0), (.long p2)] 8 = mkF m 0 #[.val (.long p0), .second, .val (.long p2), .second, .unset, .unset, .unset, .unset] [] := by first | (simp [entryFrame, mkF, argsToLocals, Value.category, maxLocals]; done) | rfl
theorem pn_d : plainFor (⟨"java/lang/Long", "divideUnsigned", "(JJ)J"⟩ : MethodName) = true := by first | exact plainFor_of_name (by first | (simp [plainName, overriddenIn]; done) | decide +kernel) | decide +kernel
set_option maxRecDepth 65536 in
set_option maxHeartbeats 40000000 in
theorem rm_d (l : Launch) (Z : State) (a0 : Array Value) (hw : ∀ d ∈ tables_1, d.before a0 Z = true) (p0 : Int64) (p2 : Int64) (H M : Nat) (h0 : Heap) (hh : own_U p0 H) (hm : p2.toInt = (M : Int)) (hM : 0 < M) :
    Met l Z (⟨"java/lang/Long", "divideUnsigned", "(JJ)J"⟩ : MethodName) jdk_35_method_44_code 8 (some .long) [] ({ frames := 0, cells := 0, slots := 0, locals := 0 } : Room) #[(.long p0), (.long p2)] [] h0 (fun v h => ∃ z, v = some (.long z) ∧ own_U z (H / M)) := by
  refine Met.mk pn_d (ef_d p0 p2) ?_
  intro C T hs0 O
  show Go C [] (fun v h => ∃ z, v = some (.long z) ∧ own_U z (H / M)) 0 0 (T.setTop (mkF C.m 0 #[.val (.long p0), .second, .val (.long p2), .second, .unset, .unset, .unset, .unset] []))
  refine Jvm.OwnW.lloadN O dd_0 rfl (q := 1) rfl ?_
  refine Jvm.OwnW.lconst O dd_1 (r := (0 : Int64)) rfl (q := 2) rfl ?_
  refine Jvm.OwnW.lcmp O dd_2 rfl (q := 3) rfl ?_
  refine Jvm.OwnW.ifNo O dd_3 (fltL (show ¬ (p2 < (0 : Int64)) from nlt64 (by rw [hm]; show (0 : Int) ≤ _; omega))).1 (q := 6) rfl ?_
  refine Jvm.OwnW.lloadN O dd_6 rfl (q := 7) rfl ?_
  refine Jvm.OwnW.iconst O dd_7 (r := (1 : Int32)) rfl (q := 8) rfl ?_
  refine Jvm.OwnW.lushr O dd_8 rfl (q := 9) rfl ?_
  refine Jvm.OwnW.lloadN O dd_9 rfl (q := 10) rfl ?_
  refine Jvm.OwnW.ldiv O dd_10 (ne0_64 (by omega)) rfl (q := 11) rfl ?_
  refine Jvm.OwnW.iconst O dd_11 (r := (1 : Int32)) rfl (q := 12) rfl ?_
  obtain ⟨q, hq⟩ : ∃ zz_, ((((p0.toUInt64 >>> ((1 : Int32) &&& 0x3f).toInt64.toUInt64).toInt64) / p2) <<< ((1 : Int32) &&& 0x3f).toInt64) = zz_ := ⟨_, rfl⟩
  refine Jvm.OwnW.lshl O dd_12 hq (q := 13) rfl ?_
  refine Jvm.OwnW.lstore O dd_13 (L' := #[.val (.long p0), .second, .val (.long p2), .second, .val (.long q), .second, .unset, .unset]) rfl (q := 15) rfl ?_
  refine Jvm.OwnW.lloadN O dd_15 rfl (q := 16) rfl ?_
  refine Jvm.OwnW.lload O dd_16 rfl (q := 18) rfl ?_
  refine Jvm.OwnW.lloadN O dd_18 rfl (q := 19) rfl ?_
  refine Jvm.OwnW.lmul O dd_19 rfl (q := 20) rfl ?_
  obtain ⟨r, hr⟩ : ∃ zz_, (p0 - (q * p2)) = zz_ := ⟨_, rfl⟩
  refine Jvm.OwnW.lsub O dd_20 hr (q := 21) rfl ?_
  refine Jvm.OwnW.lstore O dd_21 (L' := #[.val (.long p0), .second, .val (.long p2), .second, .val (.long q), .second, .val (.long r), .second]) rfl (q := 23) rfl ?_
  refine Jvm.OwnW.lload O dd_23 rfl (q := 25) rfl ?_
  refine Jvm.OwnW.lload O dd_25 rfl (q := 27) rfl ?_
  refine Jvm.OwnW.lload O dd_27 rfl (q := 29) rfl ?_
  refine Jvm.OwnW.lloadN O dd_29 rfl (q := 30) rfl ?_
  refine Jvm.OwnW.lsub O dd_30 rfl (q := 31) rfl ?_
  refine Jvm.OwnW.ldcL O dd_31 (hw _ (List.mem_of_getElem? (i := 63) rfl)) (q := 34) rfl ?_
  refine Jvm.OwnW.lxor O dd_34 rfl (q := 35) rfl ?_
  refine Jvm.OwnW.lor O dd_35 rfl (q := 36) rfl ?_
  refine Jvm.OwnW.bipush O dd_36 (r := (63 : Int32)) rfl (q := 38) rfl ?_
  refine Jvm.OwnW.lushr O dd_38 rfl (q := 39) rfl ?_
  refine Jvm.OwnW.ladd O dd_39 rfl (q := 40) rfl ?_
  exact Jvm.OwnW.retL O dd_40 rfl (by decide) (by decide) ⟨_, rfl, own_div hh hm hM hq hr⟩
theorem dh_0 : decode jdk_29_method_45_code 0 = .ok (.lload_n 0, 1) := by decide +kernel
theorem dh_1 : decode jdk_29_method_45_code 1 = .ok (.bipush 32, 2) := by decide +kernel
theorem dh_3 : decode jdk_29_method_45_code 3 = .ok (.lshr, 1) := by decide +kernel
theorem dh_4 : decode jdk_29_method_45_code 4 = .ok (.lstore 4, 2) := by decide +kernel
theorem dh_6 : decode jdk_29_method_45_code 6 = .ok (.lload_n 0, 1) := by decide +kernel
theorem dh_7 : decode jdk_29_method_45_code 7 = .ok (.ldc2_w 138, 3) := by decide +kernel
theorem dh_10 : decode jdk_29_method_45_code 10 = .ok (.land, 1) := by decide +kernel
theorem dh_11 : decode jdk_29_method_45_code 11 = .ok (.lstore 6, 2) := by decide +kernel
theorem dh_13 : decode jdk_29_method_45_code 13 = .ok (.lload_n 2, 1) := by decide +kernel
theorem dh_14 : decode jdk_29_method_45_code 14 = .ok (.bipush 32, 2) := by decide +kernel
theorem dh_16 : decode jdk_29_method_45_code 16 = .ok (.lshr, 1) := by decide +kernel
theorem dh_17 : decode jdk_29_method_45_code 17 = .ok (.lstore 8, 2) := by decide +kernel
theorem dh_19 : decode jdk_29_method_45_code 19 = .ok (.lload_n 2, 1) := by decide +kernel
theorem dh_20 : decode jdk_29_method_45_code 20 = .ok (.ldc2_w 138, 3) := by decide +kernel
theorem dh_23 : decode jdk_29_method_45_code 23 = .ok (.land, 1) := by decide +kernel
theorem dh_24 : decode jdk_29_method_45_code 24 = .ok (.lstore 10, 2) := by decide +kernel
theorem dh_26 : decode jdk_29_method_45_code 26 = .ok (.lload 6, 2) := by decide +kernel
theorem dh_28 : decode jdk_29_method_45_code 28 = .ok (.lload 10, 2) := by decide +kernel
theorem dh_30 : decode jdk_29_method_45_code 30 = .ok (.lmul, 1) := by decide +kernel
theorem dh_31 : decode jdk_29_method_45_code 31 = .ok (.lstore 12, 2) := by decide +kernel
theorem dh_33 : decode jdk_29_method_45_code 33 = .ok (.lload 4, 2) := by decide +kernel
theorem dh_35 : decode jdk_29_method_45_code 35 = .ok (.lload 10, 2) := by decide +kernel
theorem dh_37 : decode jdk_29_method_45_code 37 = .ok (.lmul, 1) := by decide +kernel
theorem dh_38 : decode jdk_29_method_45_code 38 = .ok (.lload 12, 2) := by decide +kernel
theorem dh_40 : decode jdk_29_method_45_code 40 = .ok (.bipush 32, 2) := by decide +kernel
theorem dh_42 : decode jdk_29_method_45_code 42 = .ok (.lushr, 1) := by decide +kernel
theorem dh_43 : decode jdk_29_method_45_code 43 = .ok (.ladd, 1) := by decide +kernel
theorem dh_44 : decode jdk_29_method_45_code 44 = .ok (.lstore 14, 2) := by decide +kernel
theorem dh_46 : decode jdk_29_method_45_code 46 = .ok (.lload 14, 2) := by decide +kernel
theorem dh_48 : decode jdk_29_method_45_code 48 = .ok (.ldc2_w 138, 3) := by decide +kernel
theorem dh_51 : decode jdk_29_method_45_code 51 = .ok (.land, 1) := by decide +kernel
theorem dh_52 : decode jdk_29_method_45_code 52 = .ok (.lstore 16, 2) := by decide +kernel
theorem dh_54 : decode jdk_29_method_45_code 54 = .ok (.lload 14, 2) := by decide +kernel
theorem dh_56 : decode jdk_29_method_45_code 56 = .ok (.bipush 32, 2) := by decide +kernel
theorem dh_58 : decode jdk_29_method_45_code 58 = .ok (.lshr, 1) := by decide +kernel
theorem dh_59 : decode jdk_29_method_45_code 59 = .ok (.lstore 18, 2) := by decide +kernel
theorem dh_61 : decode jdk_29_method_45_code 61 = .ok (.lload 16, 2) := by decide +kernel
theorem dh_63 : decode jdk_29_method_45_code 63 = .ok (.lload 6, 2) := by decide +kernel
theorem dh_65 : decode jdk_29_method_45_code 65 = .ok (.lload 8, 2) := by decide +kernel
theorem dh_67 : decode jdk_29_method_45_code 67 = .ok (.lmul, 1) := by decide +kernel
theorem dh_68 : decode jdk_29_method_45_code 68 = .ok (.ladd, 1) := by decide +kernel
theorem dh_69 : decode jdk_29_method_45_code 69 = .ok (.lstore 16, 2) := by decide +kernel
theorem dh_71 : decode jdk_29_method_45_code 71 = .ok (.lload 4, 2) := by decide +kernel
theorem dh_73 : decode jdk_29_method_45_code 73 = .ok (.lload 8, 2) := by decide +kernel
theorem dh_75 : decode jdk_29_method_45_code 75 = .ok (.lmul, 1) := by decide +kernel
theorem dh_76 : decode jdk_29_method_45_code 76 = .ok (.lload 18, 2) := by decide +kernel
theorem dh_78 : decode jdk_29_method_45_code 78 = .ok (.ladd, 1) := by decide +kernel
theorem dh_79 : decode jdk_29_method_45_code 79 = .ok (.lload 16, 2) := by decide +kernel
theorem dh_81 : decode jdk_29_method_45_code 81 = .ok (.bipush 32, 2) := by decide +kernel
theorem dh_83 : decode jdk_29_method_45_code 83 = .ok (.lshr, 1) := by decide +kernel
theorem dh_84 : decode jdk_29_method_45_code 84 = .ok (.ladd, 1) := by decide +kernel
theorem dh_85 : decode jdk_29_method_45_code 85 = .ok (.lreturn, 1) := by decide +kernel
theorem ef_h (p0 : Int64) (p2 : Int64) (m : MethodId) : entryFrame m #[(.long p0), (.long p2)] 20 = mkF m 0 #[.val (.long p0), .second, .val (.long p2), .second, .unset, .unset, .unset, .unset, .unset, .unset, .unset, .unset, .unset, .unset, .unset, .unset, .unset, .unset, .unset, .unset] [] := by first | (simp [entryFrame, mkF, argsToLocals, Value.category, maxLocals]; done) | rfl
theorem pn_h : plainFor (⟨"java/lang/Math", "multiplyHigh", "(JJ)J"⟩ : MethodName) = true := by first | exact plainFor_of_name (by first | (simp [plainName, overriddenIn]; done) | decide +kernel) | decide +kernel
set_option maxRecDepth 65536 in
set_option maxHeartbeats 40000000 in
theorem rm_h (l : Launch) (Z : State) (a0 : Array Value) (hw : ∀ d ∈ tables_1, d.before a0 Z = true) (p0 : Int64) (p2 : Int64) (xa yb : Nat) (h0 : Heap) (hx : own_U p0 xa) (hxa : xa < 9223372036854775808) (hy : own_U p2 yb) (hyb : yb < 9223372036854775808) :
    Met l Z (⟨"java/lang/Math", "multiplyHigh", "(JJ)J"⟩ : MethodName) jdk_29_method_45_code 20 (some .long) [] ({ frames := 0, cells := 0, slots := 0, locals := 0 } : Room) #[(.long p0), (.long p2)] [] h0 (fun v h => ∃ z, v = some (.long z) ∧ own_U z (xa * yb / 18446744073709551616)) := by
  refine Met.mk pn_h (ef_h p0 p2) ?_
  intro C T hs0 O
  show Go C [] (fun v h => ∃ z, v = some (.long z) ∧ own_U z (xa * yb / 18446744073709551616)) 0 0 (T.setTop (mkF C.m 0 #[.val (.long p0), .second, .val (.long p2), .second, .unset, .unset, .unset, .unset, .unset, .unset, .unset, .unset, .unset, .unset, .unset, .unset, .unset, .unset, .unset, .unset] []))
  refine Jvm.OwnW.lloadN O dh_0 rfl (q := 1) rfl ?_
  refine Jvm.OwnW.bipush O dh_1 (r := (32 : Int32)) rfl (q := 3) rfl ?_
  obtain ⟨x1, hx1⟩ : ∃ zz_, (p0 >>> ((32 : Int32) &&& 0x3f).toInt64) = zz_ := ⟨_, rfl⟩
  refine Jvm.OwnW.lshr O dh_3 hx1 (q := 4) rfl ?_
  refine Jvm.OwnW.lstore O dh_4 (L' := #[.val (.long p0), .second, .val (.long p2), .second, .val (.long x1), .second, .unset, .unset, .unset, .unset, .unset, .unset, .unset, .unset, .unset, .unset, .unset, .unset, .unset, .unset]) rfl (q := 6) rfl ?_
  refine Jvm.OwnW.lloadN O dh_6 rfl (q := 7) rfl ?_
  refine Jvm.OwnW.ldcL O dh_7 (hw _ (List.mem_of_getElem? (i := 132) rfl)) (q := 10) rfl ?_
  obtain ⟨x2, hx2⟩ : ∃ zz_, (p0 &&& (4294967295 : Int64)) = zz_ := ⟨_, rfl⟩
  refine Jvm.OwnW.land O dh_10 hx2 (q := 11) rfl ?_
  refine Jvm.OwnW.lstore O dh_11 (L' := #[.val (.long p0), .second, .val (.long p2), .second, .val (.long x1), .second, .val (.long x2), .second, .unset, .unset, .unset, .unset, .unset, .unset, .unset, .unset, .unset, .unset, .unset, .unset]) rfl (q := 13) rfl ?_
  refine Jvm.OwnW.lloadN O dh_13 rfl (q := 14) rfl ?_
  refine Jvm.OwnW.bipush O dh_14 (r := (32 : Int32)) rfl (q := 16) rfl ?_
  obtain ⟨y1, hy1⟩ : ∃ zz_, (p2 >>> ((32 : Int32) &&& 0x3f).toInt64) = zz_ := ⟨_, rfl⟩
  refine Jvm.OwnW.lshr O dh_16 hy1 (q := 17) rfl ?_
  refine Jvm.OwnW.lstore O dh_17 (L' := #[.val (.long p0), .second, .val (.long p2), .second, .val (.long x1), .second, .val (.long x2), .second, .val (.long y1), .second, .unset, .unset, .unset, .unset, .unset, .unset, .unset, .unset, .unset, .unset]) rfl (q := 19) rfl ?_
  refine Jvm.OwnW.lloadN O dh_19 rfl (q := 20) rfl ?_
  refine Jvm.OwnW.ldcL O dh_20 (hw _ (List.mem_of_getElem? (i := 132) rfl)) (q := 23) rfl ?_
  obtain ⟨y2, hy2⟩ : ∃ zz_, (p2 &&& (4294967295 : Int64)) = zz_ := ⟨_, rfl⟩
  refine Jvm.OwnW.land O dh_23 hy2 (q := 24) rfl ?_
  refine Jvm.OwnW.lstore O dh_24 (L' := #[.val (.long p0), .second, .val (.long p2), .second, .val (.long x1), .second, .val (.long x2), .second, .val (.long y1), .second, .val (.long y2), .second, .unset, .unset, .unset, .unset, .unset, .unset, .unset, .unset]) rfl (q := 26) rfl ?_
  refine Jvm.OwnW.lload O dh_26 rfl (q := 28) rfl ?_
  refine Jvm.OwnW.lload O dh_28 rfl (q := 30) rfl ?_
  obtain ⟨z2, hz2⟩ : ∃ zz_, (x2 * y2) = zz_ := ⟨_, rfl⟩
  refine Jvm.OwnW.lmul O dh_30 hz2 (q := 31) rfl ?_
  refine Jvm.OwnW.lstore O dh_31 (L' := #[.val (.long p0), .second, .val (.long p2), .second, .val (.long x1), .second, .val (.long x2), .second, .val (.long y1), .second, .val (.long y2), .second, .val (.long z2), .second, .unset, .unset, .unset, .unset, .unset, .unset]) rfl (q := 33) rfl ?_
  refine Jvm.OwnW.lload O dh_33 rfl (q := 35) rfl ?_
  refine Jvm.OwnW.lload O dh_35 rfl (q := 37) rfl ?_
  refine Jvm.OwnW.lmul O dh_37 rfl (q := 38) rfl ?_
  refine Jvm.OwnW.lload O dh_38 rfl (q := 40) rfl ?_
  refine Jvm.OwnW.bipush O dh_40 (r := (32 : Int32)) rfl (q := 42) rfl ?_
  refine Jvm.OwnW.lushr O dh_42 rfl (q := 43) rfl ?_
  obtain ⟨t, ht⟩ : ∃ zz_, ((x1 * y2) + ((z2.toUInt64 >>> ((32 : Int32) &&& 0x3f).toInt64.toUInt64).toInt64)) = zz_ := ⟨_, rfl⟩
  refine Jvm.OwnW.ladd O dh_43 ht (q := 44) rfl ?_
  refine Jvm.OwnW.lstore O dh_44 (L' := #[.val (.long p0), .second, .val (.long p2), .second, .val (.long x1), .second, .val (.long x2), .second, .val (.long y1), .second, .val (.long y2), .second, .val (.long z2), .second, .val (.long t), .second, .unset, .unset, .unset, .unset]) rfl (q := 46) rfl ?_
  refine Jvm.OwnW.lload O dh_46 rfl (q := 48) rfl ?_
  refine Jvm.OwnW.ldcL O dh_48 (hw _ (List.mem_of_getElem? (i := 132) rfl)) (q := 51) rfl ?_
  obtain ⟨z1, hz1⟩ : ∃ zz_, (t &&& (4294967295 : Int64)) = zz_ := ⟨_, rfl⟩
  refine Jvm.OwnW.land O dh_51 hz1 (q := 52) rfl ?_
  refine Jvm.OwnW.lstore O dh_52 (L' := #[.val (.long p0), .second, .val (.long p2), .second, .val (.long x1), .second, .val (.long x2), .second, .val (.long y1), .second, .val (.long y2), .second, .val (.long z2), .second, .val (.long t), .second, .val (.long z1), .second, .unset, .unset]) rfl (q := 54) rfl ?_
  refine Jvm.OwnW.lload O dh_54 rfl (q := 56) rfl ?_
  refine Jvm.OwnW.bipush O dh_56 (r := (32 : Int32)) rfl (q := 58) rfl ?_
  obtain ⟨z0, hz0⟩ : ∃ zz_, (t >>> ((32 : Int32) &&& 0x3f).toInt64) = zz_ := ⟨_, rfl⟩
  refine Jvm.OwnW.lshr O dh_58 hz0 (q := 59) rfl ?_
  refine Jvm.OwnW.lstore O dh_59 (L' := #[.val (.long p0), .second, .val (.long p2), .second, .val (.long x1), .second, .val (.long x2), .second, .val (.long y1), .second, .val (.long y2), .second, .val (.long z2), .second, .val (.long t), .second, .val (.long z1), .second, .val (.long z0), .second]) rfl (q := 61) rfl ?_
  refine Jvm.OwnW.lload O dh_61 rfl (q := 63) rfl ?_
  refine Jvm.OwnW.lload O dh_63 rfl (q := 65) rfl ?_
  refine Jvm.OwnW.lload O dh_65 rfl (q := 67) rfl ?_
  refine Jvm.OwnW.lmul O dh_67 rfl (q := 68) rfl ?_
  obtain ⟨z3, hz3⟩ : ∃ zz_, (z1 + (x2 * y1)) = zz_ := ⟨_, rfl⟩
  refine Jvm.OwnW.ladd O dh_68 hz3 (q := 69) rfl ?_
  refine Jvm.OwnW.lstore O dh_69 (L' := #[.val (.long p0), .second, .val (.long p2), .second, .val (.long x1), .second, .val (.long x2), .second, .val (.long y1), .second, .val (.long y2), .second, .val (.long z2), .second, .val (.long t), .second, .val (.long z3), .second, .val (.long z0), .second]) rfl (q := 71) rfl ?_
  refine Jvm.OwnW.lload O dh_71 rfl (q := 73) rfl ?_
  refine Jvm.OwnW.lload O dh_73 rfl (q := 75) rfl ?_
  refine Jvm.OwnW.lmul O dh_75 rfl (q := 76) rfl ?_
  refine Jvm.OwnW.lload O dh_76 rfl (q := 78) rfl ?_
  refine Jvm.OwnW.ladd O dh_78 rfl (q := 79) rfl ?_
  refine Jvm.OwnW.lload O dh_79 rfl (q := 81) rfl ?_
  refine Jvm.OwnW.bipush O dh_81 (r := (32 : Int32)) rfl (q := 83) rfl ?_
  refine Jvm.OwnW.lshr O dh_83 rfl (q := 84) rfl ?_
  refine Jvm.OwnW.ladd O dh_84 rfl (q := 85) rfl ?_
  exact Jvm.OwnW.retL O dh_85 rfl (by decide) (by decide) ⟨_, rfl, own_mh hx hxa hy hyb hx1 hx2 hy1 hy2 hz2 ht hz1 hz0 hz3⟩
theorem dz_0 : decode jdk_33_method_47_code 0 = .ok (.iload_n 0, 1) := by decide +kernel
theorem dz_1 : decode jdk_33_method_47_code 1 = .ok (.ifCond .gt 14, 3) := by decide +kernel
theorem dz_4 : decode jdk_33_method_47_code 4 = .ok (.iload_n 0, 1) := by decide +kernel
theorem dz_5 : decode jdk_33_method_47_code 5 = .ok (.ifCond .ne 8, 3) := by decide +kernel
theorem dz_8 : decode jdk_33_method_47_code 8 = .ok (.bipush 32, 2) := by decide +kernel
theorem dz_10 : decode jdk_33_method_47_code 10 = .ok (.goto 4, 3) := by decide +kernel
theorem dz_13 : decode jdk_33_method_47_code 13 = .ok (.iconst 0, 1) := by decide +kernel
theorem dz_14 : decode jdk_33_method_47_code 14 = .ok (.ireturn, 1) := by decide +kernel
theorem dz_15 : decode jdk_33_method_47_code 15 = .ok (.bipush 31, 2) := by decide +kernel
theorem dz_17 : decode jdk_33_method_47_code 17 = .ok (.istore_n 1, 1) := by decide +kernel
theorem dz_18 : decode jdk_33_method_47_code 18 = .ok (.iload_n 0, 1) := by decide +kernel
theorem dz_19 : decode jdk_33_method_47_code 19 = .ok (.ldc_w 264, 3) := by decide +kernel
theorem dz_22 : decode jdk_33_method_47_code 22 = .ok (.if_icmp .lt 11, 3) := by decide +kernel
theorem dz_25 : decode jdk_33_method_47_code 25 = .ok (.iinc 1 (-16), 3) := by decide +kernel
theorem dz_28 : decode jdk_33_method_47_code 28 = .ok (.iload_n 0, 1) := by decide +kernel
theorem dz_29 : decode jdk_33_method_47_code 29 = .ok (.bipush 16, 2) := by decide +kernel
theorem dz_31 : decode jdk_33_method_47_code 31 = .ok (.iushr, 1) := by decide +kernel
theorem dz_32 : decode jdk_33_method_47_code 32 = .ok (.istore_n 0, 1) := by decide +kernel
theorem dz_33 : decode jdk_33_method_47_code 33 = .ok (.iload_n 0, 1) := by decide +kernel
theorem dz_34 : decode jdk_33_method_47_code 34 = .ok (.sipush 256, 3) := by decide +kernel
theorem dz_37 : decode jdk_33_method_47_code 37 = .ok (.if_icmp .lt 11, 3) := by decide +kernel
theorem dz_40 : decode jdk_33_method_47_code 40 = .ok (.iinc 1 (-8), 3) := by decide +kernel
theorem dz_43 : decode jdk_33_method_47_code 43 = .ok (.iload_n 0, 1) := by decide +kernel
theorem dz_44 : decode jdk_33_method_47_code 44 = .ok (.bipush 8, 2) := by decide +kernel
theorem dz_46 : decode jdk_33_method_47_code 46 = .ok (.iushr, 1) := by decide +kernel
theorem dz_47 : decode jdk_33_method_47_code 47 = .ok (.istore_n 0, 1) := by decide +kernel
theorem dz_48 : decode jdk_33_method_47_code 48 = .ok (.iload_n 0, 1) := by decide +kernel
theorem dz_49 : decode jdk_33_method_47_code 49 = .ok (.bipush 16, 2) := by decide +kernel
theorem dz_51 : decode jdk_33_method_47_code 51 = .ok (.if_icmp .lt 10, 3) := by decide +kernel
theorem dz_54 : decode jdk_33_method_47_code 54 = .ok (.iinc 1 (-4), 3) := by decide +kernel
theorem dz_57 : decode jdk_33_method_47_code 57 = .ok (.iload_n 0, 1) := by decide +kernel
theorem dz_58 : decode jdk_33_method_47_code 58 = .ok (.iconst 4, 1) := by decide +kernel
theorem dz_59 : decode jdk_33_method_47_code 59 = .ok (.iushr, 1) := by decide +kernel
theorem dz_60 : decode jdk_33_method_47_code 60 = .ok (.istore_n 0, 1) := by decide +kernel
theorem dz_61 : decode jdk_33_method_47_code 61 = .ok (.iload_n 0, 1) := by decide +kernel
theorem dz_62 : decode jdk_33_method_47_code 62 = .ok (.iconst 4, 1) := by decide +kernel
theorem dz_63 : decode jdk_33_method_47_code 63 = .ok (.if_icmp .lt 10, 3) := by decide +kernel
theorem dz_66 : decode jdk_33_method_47_code 66 = .ok (.iinc 1 (-2), 3) := by decide +kernel
theorem dz_69 : decode jdk_33_method_47_code 69 = .ok (.iload_n 0, 1) := by decide +kernel
theorem dz_70 : decode jdk_33_method_47_code 70 = .ok (.iconst 2, 1) := by decide +kernel
theorem dz_71 : decode jdk_33_method_47_code 71 = .ok (.iushr, 1) := by decide +kernel
theorem dz_72 : decode jdk_33_method_47_code 72 = .ok (.istore_n 0, 1) := by decide +kernel
theorem dz_73 : decode jdk_33_method_47_code 73 = .ok (.iload_n 1, 1) := by decide +kernel
theorem dz_74 : decode jdk_33_method_47_code 74 = .ok (.iload_n 0, 1) := by decide +kernel
theorem dz_75 : decode jdk_33_method_47_code 75 = .ok (.iconst 1, 1) := by decide +kernel
theorem dz_76 : decode jdk_33_method_47_code 76 = .ok (.iushr, 1) := by decide +kernel
theorem dz_77 : decode jdk_33_method_47_code 77 = .ok (.isub, 1) := by decide +kernel
theorem dz_78 : decode jdk_33_method_47_code 78 = .ok (.ireturn, 1) := by decide +kernel
def fn_z (p0 : Int32) : Int32 := (if (0 : Int32) < p0 then (if p0 < (65536 : Int32) then (if p0 < (256 : Int32) then (if p0 < (16 : Int32) then (if p0 < (4 : Int32) then ((31 : Int32) - ((p0.toUInt32 >>> ((1 : Int32) &&& 31).toUInt32).toInt32)) else ((29 : Int32) - ((((p0.toUInt32 >>> ((2 : Int32) &&& 31).toUInt32).toInt32).toUInt32 >>> ((1 : Int32) &&& 31).toUInt32).toInt32))) else (if ((p0.toUInt32 >>> ((4 : Int32) &&& 31).toUInt32).toInt32) < (4 : Int32) then ((27 : Int32) - ((((p0.toUInt32 >>> ((4 : Int32) &&& 31).toUInt32).toInt32).toUInt32 >>> ((1 : Int32) &&& 31).toUInt32).toInt32)) else ((25 : Int32) - ((((((p0.toUInt32 >>> ((4 : Int32) &&& 31).toUInt32).toInt32).toUInt32 >>> ((2 : Int32) &&& 31).toUInt32).toInt32).toUInt32 >>> ((1 : Int32) &&& 31).toUInt32).toInt32)))) else (if ((p0.toUInt32 >>> ((8 : Int32) &&& 31).toUInt32).toInt32) < (16 : Int32) then (if ((p0.toUInt32 >>> ((8 : Int32) &&& 31).toUInt32).toInt32) < (4 : Int32) then ((23 : Int32) - ((((p0.toUInt32 >>> ((8 : Int32) &&& 31).toUInt32).toInt32).toUInt32 >>> ((1 : Int32) &&& 31).toUInt32).toInt32)) else ((21 : Int32) - ((((((p0.toUInt32 >>> ((8 : Int32) &&& 31).toUInt32).toInt32).toUInt32 >>> ((2 : Int32) &&& 31).toUInt32).toInt32).toUInt32 >>> ((1 : Int32) &&& 31).toUInt32).toInt32))) else (if ((((p0.toUInt32 >>> ((8 : Int32) &&& 31).toUInt32).toInt32).toUInt32 >>> ((4 : Int32) &&& 31).toUInt32).toInt32) < (4 : Int32) then ((19 : Int32) - ((((((p0.toUInt32 >>> ((8 : Int32) &&& 31).toUInt32).toInt32).toUInt32 >>> ((4 : Int32) &&& 31).toUInt32).toInt32).toUInt32 >>> ((1 : Int32) &&& 31).toUInt32).toInt32)) else ((17 : Int32) - ((((((((p0.toUInt32 >>> ((8 : Int32) &&& 31).toUInt32).toInt32).toUInt32 >>> ((4 : Int32) &&& 31).toUInt32).toInt32).toUInt32 >>> ((2 : Int32) &&& 31).toUInt32).toInt32).toUInt32 >>> ((1 : Int32) &&& 31).toUInt32).toInt32))))) else (if ((p0.toUInt32 >>> ((16 : Int32) &&& 31).toUInt32).toInt32) < (256 : Int32) then (if ((p0.toUInt32 >>> ((16 : Int32) &&& 31).toUInt32).toInt32) < (16 : Int32) then (if ((p0.toUInt32 >>> ((16 : Int32) &&& 31).toUInt32).toInt32) < (4 : Int32) then ((15 : Int32) - ((((p0.toUInt32 >>> ((16 : Int32) &&& 31).toUInt32).toInt32).toUInt32 >>> ((1 : Int32) &&& 31).toUInt32).toInt32)) else ((13 : Int32) - ((((((p0.toUInt32 >>> ((16 : Int32) &&& 31).toUInt32).toInt32).toUInt32 >>> ((2 : Int32) &&& 31).toUInt32).toInt32).toUInt32 >>> ((1 : Int32) &&& 31).toUInt32).toInt32))) else (if ((((p0.toUInt32 >>> ((16 : Int32) &&& 31).toUInt32).toInt32).toUInt32 >>> ((4 : Int32) &&& 31).toUInt32).toInt32) < (4 : Int32) then ((11 : Int32) - ((((((p0.toUInt32 >>> ((16 : Int32) &&& 31).toUInt32).toInt32).toUInt32 >>> ((4 : Int32) &&& 31).toUInt32).toInt32).toUInt32 >>> ((1 : Int32) &&& 31).toUInt32).toInt32)) else ((9 : Int32) - ((((((((p0.toUInt32 >>> ((16 : Int32) &&& 31).toUInt32).toInt32).toUInt32 >>> ((4 : Int32) &&& 31).toUInt32).toInt32).toUInt32 >>> ((2 : Int32) &&& 31).toUInt32).toInt32).toUInt32 >>> ((1 : Int32) &&& 31).toUInt32).toInt32)))) else (if ((((p0.toUInt32 >>> ((16 : Int32) &&& 31).toUInt32).toInt32).toUInt32 >>> ((8 : Int32) &&& 31).toUInt32).toInt32) < (16 : Int32) then (if ((((p0.toUInt32 >>> ((16 : Int32) &&& 31).toUInt32).toInt32).toUInt32 >>> ((8 : Int32) &&& 31).toUInt32).toInt32) < (4 : Int32) then ((7 : Int32) - ((((((p0.toUInt32 >>> ((16 : Int32) &&& 31).toUInt32).toInt32).toUInt32 >>> ((8 : Int32) &&& 31).toUInt32).toInt32).toUInt32 >>> ((1 : Int32) &&& 31).toUInt32).toInt32)) else ((5 : Int32) - ((((((((p0.toUInt32 >>> ((16 : Int32) &&& 31).toUInt32).toInt32).toUInt32 >>> ((8 : Int32) &&& 31).toUInt32).toInt32).toUInt32 >>> ((2 : Int32) &&& 31).toUInt32).toInt32).toUInt32 >>> ((1 : Int32) &&& 31).toUInt32).toInt32))) else (if ((((((p0.toUInt32 >>> ((16 : Int32) &&& 31).toUInt32).toInt32).toUInt32 >>> ((8 : Int32) &&& 31).toUInt32).toInt32).toUInt32 >>> ((4 : Int32) &&& 31).toUInt32).toInt32) < (4 : Int32) then ((3 : Int32) - ((((((((p0.toUInt32 >>> ((16 : Int32) &&& 31).toUInt32).toInt32).toUInt32 >>> ((8 : Int32) &&& 31).toUInt32).toInt32).toUInt32 >>> ((4 : Int32) &&& 31).toUInt32).toInt32).toUInt32 >>> ((1 : Int32) &&& 31).toUInt32).toInt32)) else ((1 : Int32) - ((((((((((p0.toUInt32 >>> ((16 : Int32) &&& 31).toUInt32).toInt32).toUInt32 >>> ((8 : Int32) &&& 31).toUInt32).toInt32).toUInt32 >>> ((4 : Int32) &&& 31).toUInt32).toInt32).toUInt32 >>> ((2 : Int32) &&& 31).toUInt32).toInt32).toUInt32 >>> ((1 : Int32) &&& 31).toUInt32).toInt32)))))) else (if p0 = (0 : Int32) then (32 : Int32) else (0 : Int32)))
theorem ef_z (p0 : Int32) (m : MethodId) : entryFrame m #[(.int p0)] 2 = mkF m 0 #[.val (.int p0), .unset] [] := by first | (simp [entryFrame, mkF, argsToLocals, Value.category, maxLocals]; done) | rfl
theorem pn_z : plainFor (⟨"java/lang/Integer", "numberOfLeadingZeros", "(I)I"⟩ : MethodName) = true := by first | exact plainFor_of_name (by first | (simp [plainName, overriddenIn]; done) | decide +kernel) | decide +kernel
set_option maxRecDepth 65536 in
set_option maxHeartbeats 40000000 in
theorem rm_z (l : Launch) (Z : State) (a0 : Array Value) (hw : ∀ d ∈ tables_1, d.before a0 Z = true) (p0 : Int32) (h0 : Heap)  :
    Met l Z (⟨"java/lang/Integer", "numberOfLeadingZeros", "(I)I"⟩ : MethodName) jdk_33_method_47_code 2 (some .int) [] ({ frames := 0, cells := 0, slots := 0, locals := 0 } : Room) #[(.int p0)] [] h0 (fun v h => v = some (Value.int (fn_z p0))) := by
  refine Met.mk pn_z (ef_z p0) ?_
  intro C T hs0 O
  show Go C [] (fun v h => v = some (Value.int (fn_z p0))) 0 0 (T.setTop (mkF C.m 0 #[.val (.int p0), .unset] []))
  refine Jvm.OwnW.iloadN O dz_0 rfl (q := 1) rfl ?_
  by_cases hc1 : (0 : Int32) < p0
  · refine Jvm.OwnW.ifYes O dz_1 (tgt0 hc1).1 (by decide) (q := 15) rfl ?_
    refine Jvm.OwnW.bipush O dz_15 (r := (31 : Int32)) rfl (q := 17) rfl ?_
    refine Jvm.OwnW.istoreN O dz_17 (L' := #[.val (.int p0), .val (.int (31 : Int32))]) rfl (q := 18) rfl ?_
    refine Jvm.OwnW.iloadN O dz_18 rfl (q := 19) rfl ?_
    refine Jvm.OwnW.ldcwI O dz_19 (hw _ (List.mem_of_getElem? (i := 120) rfl)) (q := 22) rfl ?_
    by_cases hc22 : p0 < (65536 : Int32)
    · refine Jvm.OwnW.icmpYes O dz_22 (tlt hc22).1 (by decide) (q := 33) rfl ?_
      refine Jvm.OwnW.iloadN O dz_33 rfl (q := 34) rfl ?_
      refine Jvm.OwnW.sipush O dz_34 (r := (256 : Int32)) rfl (q := 37) rfl ?_
      by_cases hc37 : p0 < (256 : Int32)
      · refine Jvm.OwnW.icmpYes O dz_37 (tlt hc37).1 (by decide) (q := 48) rfl ?_
        refine Jvm.OwnW.iloadN O dz_48 rfl (q := 49) rfl ?_
        refine Jvm.OwnW.bipush O dz_49 (r := (16 : Int32)) rfl (q := 51) rfl ?_
        by_cases hc51 : p0 < (16 : Int32)
        · refine Jvm.OwnW.icmpYes O dz_51 (tlt hc51).1 (by decide) (q := 61) rfl ?_
          refine Jvm.OwnW.iloadN O dz_61 rfl (q := 62) rfl ?_
          refine Jvm.OwnW.iconst O dz_62 (r := (4 : Int32)) rfl (q := 63) rfl ?_
          by_cases hc63 : p0 < (4 : Int32)
          · refine Jvm.OwnW.icmpYes O dz_63 (tlt hc63).1 (by decide) (q := 73) rfl ?_
            refine Jvm.OwnW.iloadN O dz_73 rfl (q := 74) rfl ?_
            refine Jvm.OwnW.iloadN O dz_74 rfl (q := 75) rfl ?_
            refine Jvm.OwnW.iconst O dz_75 (r := (1 : Int32)) rfl (q := 76) rfl ?_
            refine Jvm.OwnW.iushr O dz_76 rfl (q := 77) rfl ?_
            refine Jvm.OwnW.isub O dz_77 rfl (q := 78) rfl ?_
            exact Jvm.OwnW.retI O dz_78 rfl (by decide) (by decide) (by show some (Value.int ((31 : Int32) - ((p0.toUInt32 >>> ((1 : Int32) &&& 31).toUInt32).toInt32))) = some (Value.int (fn_z p0)); rw [fn_z, if_pos hc1, if_pos hc22, if_pos hc37, if_pos hc51, if_pos hc63])
          · refine Jvm.OwnW.icmpNo O dz_63 (flt hc63).1 (q := 66) rfl ?_
            refine Jvm.OwnW.iinc O dz_66 rfl (L' := #[.val (.int p0), .val (.int (29 : Int32))]) rfl (q := 69) rfl ?_
            refine Jvm.OwnW.iloadN O dz_69 rfl (q := 70) rfl ?_
            refine Jvm.OwnW.iconst O dz_70 (r := (2 : Int32)) rfl (q := 71) rfl ?_
            refine Jvm.OwnW.iushr O dz_71 rfl (q := 72) rfl ?_
            refine Jvm.OwnW.istoreN O dz_72 (L' := #[.val (.int ((p0.toUInt32 >>> ((2 : Int32) &&& 31).toUInt32).toInt32)), .val (.int (29 : Int32))]) rfl (q := 73) rfl ?_
            refine Jvm.OwnW.iloadN O dz_73 rfl (q := 74) rfl ?_
            refine Jvm.OwnW.iloadN O dz_74 rfl (q := 75) rfl ?_
            refine Jvm.OwnW.iconst O dz_75 (r := (1 : Int32)) rfl (q := 76) rfl ?_
            refine Jvm.OwnW.iushr O dz_76 rfl (q := 77) rfl ?_
            refine Jvm.OwnW.isub O dz_77 rfl (q := 78) rfl ?_
            exact Jvm.OwnW.retI O dz_78 rfl (by decide) (by decide) (by show some (Value.int ((29 : Int32) - ((((p0.toUInt32 >>> ((2 : Int32) &&& 31).toUInt32).toInt32).toUInt32 >>> ((1 : Int32) &&& 31).toUInt32).toInt32))) = some (Value.int (fn_z p0)); rw [fn_z, if_pos hc1, if_pos hc22, if_pos hc37, if_pos hc51, if_neg hc63])
        · refine Jvm.OwnW.icmpNo O dz_51 (flt hc51).1 (q := 54) rfl ?_
          refine Jvm.OwnW.iinc O dz_54 rfl (L' := #[.val (.int p0), .val (.int (27 : Int32))]) rfl (q := 57) rfl ?_
          refine Jvm.OwnW.iloadN O dz_57 rfl (q := 58) rfl ?_
          refine Jvm.OwnW.iconst O dz_58 (r := (4 : Int32)) rfl (q := 59) rfl ?_
          refine Jvm.OwnW.iushr O dz_59 rfl (q := 60) rfl ?_
          refine Jvm.OwnW.istoreN O dz_60 (L' := #[.val (.int ((p0.toUInt32 >>> ((4 : Int32) &&& 31).toUInt32).toInt32)), .val (.int (27 : Int32))]) rfl (q := 61) rfl ?_
          refine Jvm.OwnW.iloadN O dz_61 rfl (q := 62) rfl ?_
          refine Jvm.OwnW.iconst O dz_62 (r := (4 : Int32)) rfl (q := 63) rfl ?_
          by_cases hc63 : ((p0.toUInt32 >>> ((4 : Int32) &&& 31).toUInt32).toInt32) < (4 : Int32)
          · refine Jvm.OwnW.icmpYes O dz_63 (tlt hc63).1 (by decide) (q := 73) rfl ?_
            refine Jvm.OwnW.iloadN O dz_73 rfl (q := 74) rfl ?_
            refine Jvm.OwnW.iloadN O dz_74 rfl (q := 75) rfl ?_
            refine Jvm.OwnW.iconst O dz_75 (r := (1 : Int32)) rfl (q := 76) rfl ?_
            refine Jvm.OwnW.iushr O dz_76 rfl (q := 77) rfl ?_
            refine Jvm.OwnW.isub O dz_77 rfl (q := 78) rfl ?_
            exact Jvm.OwnW.retI O dz_78 rfl (by decide) (by decide) (by show some (Value.int ((27 : Int32) - ((((p0.toUInt32 >>> ((4 : Int32) &&& 31).toUInt32).toInt32).toUInt32 >>> ((1 : Int32) &&& 31).toUInt32).toInt32))) = some (Value.int (fn_z p0)); rw [fn_z, if_pos hc1, if_pos hc22, if_pos hc37, if_neg hc51, if_pos hc63])
          · refine Jvm.OwnW.icmpNo O dz_63 (flt hc63).1 (q := 66) rfl ?_
            refine Jvm.OwnW.iinc O dz_66 rfl (L' := #[.val (.int ((p0.toUInt32 >>> ((4 : Int32) &&& 31).toUInt32).toInt32)), .val (.int (25 : Int32))]) rfl (q := 69) rfl ?_
            refine Jvm.OwnW.iloadN O dz_69 rfl (q := 70) rfl ?_
            refine Jvm.OwnW.iconst O dz_70 (r := (2 : Int32)) rfl (q := 71) rfl ?_
            refine Jvm.OwnW.iushr O dz_71 rfl (q := 72) rfl ?_
            refine Jvm.OwnW.istoreN O dz_72 (L' := #[.val (.int ((((p0.toUInt32 >>> ((4 : Int32) &&& 31).toUInt32).toInt32).toUInt32 >>> ((2 : Int32) &&& 31).toUInt32).toInt32)), .val (.int (25 : Int32))]) rfl (q := 73) rfl ?_
            refine Jvm.OwnW.iloadN O dz_73 rfl (q := 74) rfl ?_
            refine Jvm.OwnW.iloadN O dz_74 rfl (q := 75) rfl ?_
            refine Jvm.OwnW.iconst O dz_75 (r := (1 : Int32)) rfl (q := 76) rfl ?_
            refine Jvm.OwnW.iushr O dz_76 rfl (q := 77) rfl ?_
            refine Jvm.OwnW.isub O dz_77 rfl (q := 78) rfl ?_
            exact Jvm.OwnW.retI O dz_78 rfl (by decide) (by decide) (by show some (Value.int ((25 : Int32) - ((((((p0.toUInt32 >>> ((4 : Int32) &&& 31).toUInt32).toInt32).toUInt32 >>> ((2 : Int32) &&& 31).toUInt32).toInt32).toUInt32 >>> ((1 : Int32) &&& 31).toUInt32).toInt32))) = some (Value.int (fn_z p0)); rw [fn_z, if_pos hc1, if_pos hc22, if_pos hc37, if_neg hc51, if_neg hc63])
      · refine Jvm.OwnW.icmpNo O dz_37 (flt hc37).1 (q := 40) rfl ?_
        refine Jvm.OwnW.iinc O dz_40 rfl (L' := #[.val (.int p0), .val (.int (23 : Int32))]) rfl (q := 43) rfl ?_
        refine Jvm.OwnW.iloadN O dz_43 rfl (q := 44) rfl ?_
        refine Jvm.OwnW.bipush O dz_44 (r := (8 : Int32)) rfl (q := 46) rfl ?_
        refine Jvm.OwnW.iushr O dz_46 rfl (q := 47) rfl ?_
        refine Jvm.OwnW.istoreN O dz_47 (L' := #[.val (.int ((p0.toUInt32 >>> ((8 : Int32) &&& 31).toUInt32).toInt32)), .val (.int (23 : Int32))]) rfl (q := 48) rfl ?_
        refine Jvm.OwnW.iloadN O dz_48 rfl (q := 49) rfl ?_
        refine Jvm.OwnW.bipush O dz_49 (r := (16 : Int32)) rfl (q := 51) rfl ?_
        by_cases hc51 : ((p0.toUInt32 >>> ((8 : Int32) &&& 31).toUInt32).toInt32) < (16 : Int32)
        · refine Jvm.OwnW.icmpYes O dz_51 (tlt hc51).1 (by decide) (q := 61) rfl ?_
          refine Jvm.OwnW.iloadN O dz_61 rfl (q := 62) rfl ?_
          refine Jvm.OwnW.iconst O dz_62 (r := (4 : Int32)) rfl (q := 63) rfl ?_
          by_cases hc63 : ((p0.toUInt32 >>> ((8 : Int32) &&& 31).toUInt32).toInt32) < (4 : Int32)
          · refine Jvm.OwnW.icmpYes O dz_63 (tlt hc63).1 (by decide) (q := 73) rfl ?_
            refine Jvm.OwnW.iloadN O dz_73 rfl (q := 74) rfl ?_
            refine Jvm.OwnW.iloadN O dz_74 rfl (q := 75) rfl ?_
            refine Jvm.OwnW.iconst O dz_75 (r := (1 : Int32)) rfl (q := 76) rfl ?_
            refine Jvm.OwnW.iushr O dz_76 rfl (q := 77) rfl ?_
            refine Jvm.OwnW.isub O dz_77 rfl (q := 78) rfl ?_
            exact Jvm.OwnW.retI O dz_78 rfl (by decide) (by decide) (by show some (Value.int ((23 : Int32) - ((((p0.toUInt32 >>> ((8 : Int32) &&& 31).toUInt32).toInt32).toUInt32 >>> ((1 : Int32) &&& 31).toUInt32).toInt32))) = some (Value.int (fn_z p0)); rw [fn_z, if_pos hc1, if_pos hc22, if_neg hc37, if_pos hc51, if_pos hc63])
          · refine Jvm.OwnW.icmpNo O dz_63 (flt hc63).1 (q := 66) rfl ?_
            refine Jvm.OwnW.iinc O dz_66 rfl (L' := #[.val (.int ((p0.toUInt32 >>> ((8 : Int32) &&& 31).toUInt32).toInt32)), .val (.int (21 : Int32))]) rfl (q := 69) rfl ?_
            refine Jvm.OwnW.iloadN O dz_69 rfl (q := 70) rfl ?_
            refine Jvm.OwnW.iconst O dz_70 (r := (2 : Int32)) rfl (q := 71) rfl ?_
            refine Jvm.OwnW.iushr O dz_71 rfl (q := 72) rfl ?_
            refine Jvm.OwnW.istoreN O dz_72 (L' := #[.val (.int ((((p0.toUInt32 >>> ((8 : Int32) &&& 31).toUInt32).toInt32).toUInt32 >>> ((2 : Int32) &&& 31).toUInt32).toInt32)), .val (.int (21 : Int32))]) rfl (q := 73) rfl ?_
            refine Jvm.OwnW.iloadN O dz_73 rfl (q := 74) rfl ?_
            refine Jvm.OwnW.iloadN O dz_74 rfl (q := 75) rfl ?_
            refine Jvm.OwnW.iconst O dz_75 (r := (1 : Int32)) rfl (q := 76) rfl ?_
            refine Jvm.OwnW.iushr O dz_76 rfl (q := 77) rfl ?_
            refine Jvm.OwnW.isub O dz_77 rfl (q := 78) rfl ?_
            exact Jvm.OwnW.retI O dz_78 rfl (by decide) (by decide) (by show some (Value.int ((21 : Int32) - ((((((p0.toUInt32 >>> ((8 : Int32) &&& 31).toUInt32).toInt32).toUInt32 >>> ((2 : Int32) &&& 31).toUInt32).toInt32).toUInt32 >>> ((1 : Int32) &&& 31).toUInt32).toInt32))) = some (Value.int (fn_z p0)); rw [fn_z, if_pos hc1, if_pos hc22, if_neg hc37, if_pos hc51, if_neg hc63])
        · refine Jvm.OwnW.icmpNo O dz_51 (flt hc51).1 (q := 54) rfl ?_
          refine Jvm.OwnW.iinc O dz_54 rfl (L' := #[.val (.int ((p0.toUInt32 >>> ((8 : Int32) &&& 31).toUInt32).toInt32)), .val (.int (19 : Int32))]) rfl (q := 57) rfl ?_
          refine Jvm.OwnW.iloadN O dz_57 rfl (q := 58) rfl ?_
          refine Jvm.OwnW.iconst O dz_58 (r := (4 : Int32)) rfl (q := 59) rfl ?_
          refine Jvm.OwnW.iushr O dz_59 rfl (q := 60) rfl ?_
          refine Jvm.OwnW.istoreN O dz_60 (L' := #[.val (.int ((((p0.toUInt32 >>> ((8 : Int32) &&& 31).toUInt32).toInt32).toUInt32 >>> ((4 : Int32) &&& 31).toUInt32).toInt32)), .val (.int (19 : Int32))]) rfl (q := 61) rfl ?_
          refine Jvm.OwnW.iloadN O dz_61 rfl (q := 62) rfl ?_
          refine Jvm.OwnW.iconst O dz_62 (r := (4 : Int32)) rfl (q := 63) rfl ?_
          by_cases hc63 : ((((p0.toUInt32 >>> ((8 : Int32) &&& 31).toUInt32).toInt32).toUInt32 >>> ((4 : Int32) &&& 31).toUInt32).toInt32) < (4 : Int32)
          · refine Jvm.OwnW.icmpYes O dz_63 (tlt hc63).1 (by decide) (q := 73) rfl ?_
            refine Jvm.OwnW.iloadN O dz_73 rfl (q := 74) rfl ?_
            refine Jvm.OwnW.iloadN O dz_74 rfl (q := 75) rfl ?_
            refine Jvm.OwnW.iconst O dz_75 (r := (1 : Int32)) rfl (q := 76) rfl ?_
            refine Jvm.OwnW.iushr O dz_76 rfl (q := 77) rfl ?_
            refine Jvm.OwnW.isub O dz_77 rfl (q := 78) rfl ?_
            exact Jvm.OwnW.retI O dz_78 rfl (by decide) (by decide) (by show some (Value.int ((19 : Int32) - ((((((p0.toUInt32 >>> ((8 : Int32) &&& 31).toUInt32).toInt32).toUInt32 >>> ((4 : Int32) &&& 31).toUInt32).toInt32).toUInt32 >>> ((1 : Int32) &&& 31).toUInt32).toInt32))) = some (Value.int (fn_z p0)); rw [fn_z, if_pos hc1, if_pos hc22, if_neg hc37, if_neg hc51, if_pos hc63])
          · refine Jvm.OwnW.icmpNo O dz_63 (flt hc63).1 (q := 66) rfl ?_
            refine Jvm.OwnW.iinc O dz_66 rfl (L' := #[.val (.int ((((p0.toUInt32 >>> ((8 : Int32) &&& 31).toUInt32).toInt32).toUInt32 >>> ((4 : Int32) &&& 31).toUInt32).toInt32)), .val (.int (17 : Int32))]) rfl (q := 69) rfl ?_
            refine Jvm.OwnW.iloadN O dz_69 rfl (q := 70) rfl ?_
            refine Jvm.OwnW.iconst O dz_70 (r := (2 : Int32)) rfl (q := 71) rfl ?_
            refine Jvm.OwnW.iushr O dz_71 rfl (q := 72) rfl ?_
            refine Jvm.OwnW.istoreN O dz_72 (L' := #[.val (.int ((((((p0.toUInt32 >>> ((8 : Int32) &&& 31).toUInt32).toInt32).toUInt32 >>> ((4 : Int32) &&& 31).toUInt32).toInt32).toUInt32 >>> ((2 : Int32) &&& 31).toUInt32).toInt32)), .val (.int (17 : Int32))]) rfl (q := 73) rfl ?_
            refine Jvm.OwnW.iloadN O dz_73 rfl (q := 74) rfl ?_
            refine Jvm.OwnW.iloadN O dz_74 rfl (q := 75) rfl ?_
            refine Jvm.OwnW.iconst O dz_75 (r := (1 : Int32)) rfl (q := 76) rfl ?_
            refine Jvm.OwnW.iushr O dz_76 rfl (q := 77) rfl ?_
            refine Jvm.OwnW.isub O dz_77 rfl (q := 78) rfl ?_
            exact Jvm.OwnW.retI O dz_78 rfl (by decide) (by decide) (by show some (Value.int ((17 : Int32) - ((((((((p0.toUInt32 >>> ((8 : Int32) &&& 31).toUInt32).toInt32).toUInt32 >>> ((4 : Int32) &&& 31).toUInt32).toInt32).toUInt32 >>> ((2 : Int32) &&& 31).toUInt32).toInt32).toUInt32 >>> ((1 : Int32) &&& 31).toUInt32).toInt32))) = some (Value.int (fn_z p0)); rw [fn_z, if_pos hc1, if_pos hc22, if_neg hc37, if_neg hc51, if_neg hc63])
    · refine Jvm.OwnW.icmpNo O dz_22 (flt hc22).1 (q := 25) rfl ?_
      refine Jvm.OwnW.iinc O dz_25 rfl (L' := #[.val (.int p0), .val (.int (15 : Int32))]) rfl (q := 28) rfl ?_
      refine Jvm.OwnW.iloadN O dz_28 rfl (q := 29) rfl ?_
      refine Jvm.OwnW.bipush O dz_29 (r := (16 : Int32)) rfl (q := 31) rfl ?_
      refine Jvm.OwnW.iushr O dz_31 rfl (q := 32) rfl ?_
      refine Jvm.OwnW.istoreN O dz_32 (L' := #[.val (.int ((p0.toUInt32 >>> ((16 : Int32) &&& 31).toUInt32).toInt32)), .val (.int (15 : Int32))]) rfl (q := 33) rfl ?_
      refine Jvm.OwnW.iloadN O dz_33 rfl (q := 34) rfl ?_
      refine Jvm.OwnW.sipush O dz_34 (r := (256 : Int32)) rfl (q := 37) rfl ?_
      by_cases hc37 : ((p0.toUInt32 >>> ((16 : Int32) &&& 31).toUInt32).toInt32) < (256 : Int32)
      · refine Jvm.OwnW.icmpYes O dz_37 (tlt hc37).1 (by decide) (q := 48) rfl ?_
        refine Jvm.OwnW.iloadN O dz_48 rfl (q := 49) rfl ?_
        refine Jvm.OwnW.bipush O dz_49 (r := (16 : Int32)) rfl (q := 51) rfl ?_
        by_cases hc51 : ((p0.toUInt32 >>> ((16 : Int32) &&& 31).toUInt32).toInt32) < (16 : Int32)
        · refine Jvm.OwnW.icmpYes O dz_51 (tlt hc51).1 (by decide) (q := 61) rfl ?_
          refine Jvm.OwnW.iloadN O dz_61 rfl (q := 62) rfl ?_
          refine Jvm.OwnW.iconst O dz_62 (r := (4 : Int32)) rfl (q := 63) rfl ?_
          by_cases hc63 : ((p0.toUInt32 >>> ((16 : Int32) &&& 31).toUInt32).toInt32) < (4 : Int32)
          · refine Jvm.OwnW.icmpYes O dz_63 (tlt hc63).1 (by decide) (q := 73) rfl ?_
            refine Jvm.OwnW.iloadN O dz_73 rfl (q := 74) rfl ?_
            refine Jvm.OwnW.iloadN O dz_74 rfl (q := 75) rfl ?_
            refine Jvm.OwnW.iconst O dz_75 (r := (1 : Int32)) rfl (q := 76) rfl ?_
            refine Jvm.OwnW.iushr O dz_76 rfl (q := 77) rfl ?_
            refine Jvm.OwnW.isub O dz_77 rfl (q := 78) rfl ?_
            exact Jvm.OwnW.retI O dz_78 rfl (by decide) (by decide) (by show some (Value.int ((15 : Int32) - ((((p0.toUInt32 >>> ((16 : Int32) &&& 31).toUInt32).toInt32).toUInt32 >>> ((1 : Int32) &&& 31).toUInt32).toInt32))) = some (Value.int (fn_z p0)); rw [fn_z, if_pos hc1, if_neg hc22, if_pos hc37, if_pos hc51, if_pos hc63])
          · refine Jvm.OwnW.icmpNo O dz_63 (flt hc63).1 (q := 66) rfl ?_
            refine Jvm.OwnW.iinc O dz_66 rfl (L' := #[.val (.int ((p0.toUInt32 >>> ((16 : Int32) &&& 31).toUInt32).toInt32)), .val (.int (13 : Int32))]) rfl (q := 69) rfl ?_
            refine Jvm.OwnW.iloadN O dz_69 rfl (q := 70) rfl ?_
            refine Jvm.OwnW.iconst O dz_70 (r := (2 : Int32)) rfl (q := 71) rfl ?_
            refine Jvm.OwnW.iushr O dz_71 rfl (q := 72) rfl ?_
            refine Jvm.OwnW.istoreN O dz_72 (L' := #[.val (.int ((((p0.toUInt32 >>> ((16 : Int32) &&& 31).toUInt32).toInt32).toUInt32 >>> ((2 : Int32) &&& 31).toUInt32).toInt32)), .val (.int (13 : Int32))]) rfl (q := 73) rfl ?_
            refine Jvm.OwnW.iloadN O dz_73 rfl (q := 74) rfl ?_
            refine Jvm.OwnW.iloadN O dz_74 rfl (q := 75) rfl ?_
            refine Jvm.OwnW.iconst O dz_75 (r := (1 : Int32)) rfl (q := 76) rfl ?_
            refine Jvm.OwnW.iushr O dz_76 rfl (q := 77) rfl ?_
            refine Jvm.OwnW.isub O dz_77 rfl (q := 78) rfl ?_
            exact Jvm.OwnW.retI O dz_78 rfl (by decide) (by decide) (by show some (Value.int ((13 : Int32) - ((((((p0.toUInt32 >>> ((16 : Int32) &&& 31).toUInt32).toInt32).toUInt32 >>> ((2 : Int32) &&& 31).toUInt32).toInt32).toUInt32 >>> ((1 : Int32) &&& 31).toUInt32).toInt32))) = some (Value.int (fn_z p0)); rw [fn_z, if_pos hc1, if_neg hc22, if_pos hc37, if_pos hc51, if_neg hc63])
        · refine Jvm.OwnW.icmpNo O dz_51 (flt hc51).1 (q := 54) rfl ?_
          refine Jvm.OwnW.iinc O dz_54 rfl (L' := #[.val (.int ((p0.toUInt32 >>> ((16 : Int32) &&& 31).toUInt32).toInt32)), .val (.int (11 : Int32))]) rfl (q := 57) rfl ?_
          refine Jvm.OwnW.iloadN O dz_57 rfl (q := 58) rfl ?_
          refine Jvm.OwnW.iconst O dz_58 (r := (4 : Int32)) rfl (q := 59) rfl ?_
          refine Jvm.OwnW.iushr O dz_59 rfl (q := 60) rfl ?_
          refine Jvm.OwnW.istoreN O dz_60 (L' := #[.val (.int ((((p0.toUInt32 >>> ((16 : Int32) &&& 31).toUInt32).toInt32).toUInt32 >>> ((4 : Int32) &&& 31).toUInt32).toInt32)), .val (.int (11 : Int32))]) rfl (q := 61) rfl ?_
          refine Jvm.OwnW.iloadN O dz_61 rfl (q := 62) rfl ?_
          refine Jvm.OwnW.iconst O dz_62 (r := (4 : Int32)) rfl (q := 63) rfl ?_
          by_cases hc63 : ((((p0.toUInt32 >>> ((16 : Int32) &&& 31).toUInt32).toInt32).toUInt32 >>> ((4 : Int32) &&& 31).toUInt32).toInt32) < (4 : Int32)
          · refine Jvm.OwnW.icmpYes O dz_63 (tlt hc63).1 (by decide) (q := 73) rfl ?_
            refine Jvm.OwnW.iloadN O dz_73 rfl (q := 74) rfl ?_
            refine Jvm.OwnW.iloadN O dz_74 rfl (q := 75) rfl ?_
            refine Jvm.OwnW.iconst O dz_75 (r := (1 : Int32)) rfl (q := 76) rfl ?_
            refine Jvm.OwnW.iushr O dz_76 rfl (q := 77) rfl ?_
            refine Jvm.OwnW.isub O dz_77 rfl (q := 78) rfl ?_
            exact Jvm.OwnW.retI O dz_78 rfl (by decide) (by decide) (by show some (Value.int ((11 : Int32) - ((((((p0.toUInt32 >>> ((16 : Int32) &&& 31).toUInt32).toInt32).toUInt32 >>> ((4 : Int32) &&& 31).toUInt32).toInt32).toUInt32 >>> ((1 : Int32) &&& 31).toUInt32).toInt32))) = some (Value.int (fn_z p0)); rw [fn_z, if_pos hc1, if_neg hc22, if_pos hc37, if_neg hc51, if_pos hc63])
          · refine Jvm.OwnW.icmpNo O dz_63 (flt hc63).1 (q := 66) rfl ?_
            refine Jvm.OwnW.iinc O dz_66 rfl (L' := #[.val (.int ((((p0.toUInt32 >>> ((16 : Int32) &&& 31).toUInt32).toInt32).toUInt32 >>> ((4 : Int32) &&& 31).toUInt32).toInt32)), .val (.int (9 : Int32))]) rfl (q := 69) rfl ?_
            refine Jvm.OwnW.iloadN O dz_69 rfl (q := 70) rfl ?_
            refine Jvm.OwnW.iconst O dz_70 (r := (2 : Int32)) rfl (q := 71) rfl ?_
            refine Jvm.OwnW.iushr O dz_71 rfl (q := 72) rfl ?_
            refine Jvm.OwnW.istoreN O dz_72 (L' := #[.val (.int ((((((p0.toUInt32 >>> ((16 : Int32) &&& 31).toUInt32).toInt32).toUInt32 >>> ((4 : Int32) &&& 31).toUInt32).toInt32).toUInt32 >>> ((2 : Int32) &&& 31).toUInt32).toInt32)), .val (.int (9 : Int32))]) rfl (q := 73) rfl ?_
            refine Jvm.OwnW.iloadN O dz_73 rfl (q := 74) rfl ?_
            refine Jvm.OwnW.iloadN O dz_74 rfl (q := 75) rfl ?_
            refine Jvm.OwnW.iconst O dz_75 (r := (1 : Int32)) rfl (q := 76) rfl ?_
            refine Jvm.OwnW.iushr O dz_76 rfl (q := 77) rfl ?_
            refine Jvm.OwnW.isub O dz_77 rfl (q := 78) rfl ?_
            exact Jvm.OwnW.retI O dz_78 rfl (by decide) (by decide) (by show some (Value.int ((9 : Int32) - ((((((((p0.toUInt32 >>> ((16 : Int32) &&& 31).toUInt32).toInt32).toUInt32 >>> ((4 : Int32) &&& 31).toUInt32).toInt32).toUInt32 >>> ((2 : Int32) &&& 31).toUInt32).toInt32).toUInt32 >>> ((1 : Int32) &&& 31).toUInt32).toInt32))) = some (Value.int (fn_z p0)); rw [fn_z, if_pos hc1, if_neg hc22, if_pos hc37, if_neg hc51, if_neg hc63])
      · refine Jvm.OwnW.icmpNo O dz_37 (flt hc37).1 (q := 40) rfl ?_
        refine Jvm.OwnW.iinc O dz_40 rfl (L' := #[.val (.int ((p0.toUInt32 >>> ((16 : Int32) &&& 31).toUInt32).toInt32)), .val (.int (7 : Int32))]) rfl (q := 43) rfl ?_
        refine Jvm.OwnW.iloadN O dz_43 rfl (q := 44) rfl ?_
        refine Jvm.OwnW.bipush O dz_44 (r := (8 : Int32)) rfl (q := 46) rfl ?_
        refine Jvm.OwnW.iushr O dz_46 rfl (q := 47) rfl ?_
        refine Jvm.OwnW.istoreN O dz_47 (L' := #[.val (.int ((((p0.toUInt32 >>> ((16 : Int32) &&& 31).toUInt32).toInt32).toUInt32 >>> ((8 : Int32) &&& 31).toUInt32).toInt32)), .val (.int (7 : Int32))]) rfl (q := 48) rfl ?_
        refine Jvm.OwnW.iloadN O dz_48 rfl (q := 49) rfl ?_
        refine Jvm.OwnW.bipush O dz_49 (r := (16 : Int32)) rfl (q := 51) rfl ?_
        by_cases hc51 : ((((p0.toUInt32 >>> ((16 : Int32) &&& 31).toUInt32).toInt32).toUInt32 >>> ((8 : Int32) &&& 31).toUInt32).toInt32) < (16 : Int32)
        · refine Jvm.OwnW.icmpYes O dz_51 (tlt hc51).1 (by decide) (q := 61) rfl ?_
          refine Jvm.OwnW.iloadN O dz_61 rfl (q := 62) rfl ?_
          refine Jvm.OwnW.iconst O dz_62 (r := (4 : Int32)) rfl (q := 63) rfl ?_
          by_cases hc63 : ((((p0.toUInt32 >>> ((16 : Int32) &&& 31).toUInt32).toInt32).toUInt32 >>> ((8 : Int32) &&& 31).toUInt32).toInt32) < (4 : Int32)
          · refine Jvm.OwnW.icmpYes O dz_63 (tlt hc63).1 (by decide) (q := 73) rfl ?_
            refine Jvm.OwnW.iloadN O dz_73 rfl (q := 74) rfl ?_
            refine Jvm.OwnW.iloadN O dz_74 rfl (q := 75) rfl ?_
            refine Jvm.OwnW.iconst O dz_75 (r := (1 : Int32)) rfl (q := 76) rfl ?_
            refine Jvm.OwnW.iushr O dz_76 rfl (q := 77) rfl ?_
            refine Jvm.OwnW.isub O dz_77 rfl (q := 78) rfl ?_
            exact Jvm.OwnW.retI O dz_78 rfl (by decide) (by decide) (by show some (Value.int ((7 : Int32) - ((((((p0.toUInt32 >>> ((16 : Int32) &&& 31).toUInt32).toInt32).toUInt32 >>> ((8 : Int32) &&& 31).toUInt32).toInt32).toUInt32 >>> ((1 : Int32) &&& 31).toUInt32).toInt32))) = some (Value.int (fn_z p0)); rw [fn_z, if_pos hc1, if_neg hc22, if_neg hc37, if_pos hc51, if_pos hc63])
          · refine Jvm.OwnW.icmpNo O dz_63 (flt hc63).1 (q := 66) rfl ?_
            refine Jvm.OwnW.iinc O dz_66 rfl (L' := #[.val (.int ((((p0.toUInt32 >>> ((16 : Int32) &&& 31).toUInt32).toInt32).toUInt32 >>> ((8 : Int32) &&& 31).toUInt32).toInt32)), .val (.int (5 : Int32))]) rfl (q := 69) rfl ?_
            refine Jvm.OwnW.iloadN O dz_69 rfl (q := 70) rfl ?_
            refine Jvm.OwnW.iconst O dz_70 (r := (2 : Int32)) rfl (q := 71) rfl ?_
            refine Jvm.OwnW.iushr O dz_71 rfl (q := 72) rfl ?_
            refine Jvm.OwnW.istoreN O dz_72 (L' := #[.val (.int ((((((p0.toUInt32 >>> ((16 : Int32) &&& 31).toUInt32).toInt32).toUInt32 >>> ((8 : Int32) &&& 31).toUInt32).toInt32).toUInt32 >>> ((2 : Int32) &&& 31).toUInt32).toInt32)), .val (.int (5 : Int32))]) rfl (q := 73) rfl ?_
            refine Jvm.OwnW.iloadN O dz_73 rfl (q := 74) rfl ?_
            refine Jvm.OwnW.iloadN O dz_74 rfl (q := 75) rfl ?_
            refine Jvm.OwnW.iconst O dz_75 (r := (1 : Int32)) rfl (q := 76) rfl ?_
            refine Jvm.OwnW.iushr O dz_76 rfl (q := 77) rfl ?_
            refine Jvm.OwnW.isub O dz_77 rfl (q := 78) rfl ?_
            exact Jvm.OwnW.retI O dz_78 rfl (by decide) (by decide) (by show some (Value.int ((5 : Int32) - ((((((((p0.toUInt32 >>> ((16 : Int32) &&& 31).toUInt32).toInt32).toUInt32 >>> ((8 : Int32) &&& 31).toUInt32).toInt32).toUInt32 >>> ((2 : Int32) &&& 31).toUInt32).toInt32).toUInt32 >>> ((1 : Int32) &&& 31).toUInt32).toInt32))) = some (Value.int (fn_z p0)); rw [fn_z, if_pos hc1, if_neg hc22, if_neg hc37, if_pos hc51, if_neg hc63])
        · refine Jvm.OwnW.icmpNo O dz_51 (flt hc51).1 (q := 54) rfl ?_
          refine Jvm.OwnW.iinc O dz_54 rfl (L' := #[.val (.int ((((p0.toUInt32 >>> ((16 : Int32) &&& 31).toUInt32).toInt32).toUInt32 >>> ((8 : Int32) &&& 31).toUInt32).toInt32)), .val (.int (3 : Int32))]) rfl (q := 57) rfl ?_
          refine Jvm.OwnW.iloadN O dz_57 rfl (q := 58) rfl ?_
          refine Jvm.OwnW.iconst O dz_58 (r := (4 : Int32)) rfl (q := 59) rfl ?_
          refine Jvm.OwnW.iushr O dz_59 rfl (q := 60) rfl ?_
          refine Jvm.OwnW.istoreN O dz_60 (L' := #[.val (.int ((((((p0.toUInt32 >>> ((16 : Int32) &&& 31).toUInt32).toInt32).toUInt32 >>> ((8 : Int32) &&& 31).toUInt32).toInt32).toUInt32 >>> ((4 : Int32) &&& 31).toUInt32).toInt32)), .val (.int (3 : Int32))]) rfl (q := 61) rfl ?_
          refine Jvm.OwnW.iloadN O dz_61 rfl (q := 62) rfl ?_
          refine Jvm.OwnW.iconst O dz_62 (r := (4 : Int32)) rfl (q := 63) rfl ?_
          by_cases hc63 : ((((((p0.toUInt32 >>> ((16 : Int32) &&& 31).toUInt32).toInt32).toUInt32 >>> ((8 : Int32) &&& 31).toUInt32).toInt32).toUInt32 >>> ((4 : Int32) &&& 31).toUInt32).toInt32) < (4 : Int32)
          · refine Jvm.OwnW.icmpYes O dz_63 (tlt hc63).1 (by decide) (q := 73) rfl ?_
            refine Jvm.OwnW.iloadN O dz_73 rfl (q := 74) rfl ?_
            refine Jvm.OwnW.iloadN O dz_74 rfl (q := 75) rfl ?_
            refine Jvm.OwnW.iconst O dz_75 (r := (1 : Int32)) rfl (q := 76) rfl ?_
            refine Jvm.OwnW.iushr O dz_76 rfl (q := 77) rfl ?_
            refine Jvm.OwnW.isub O dz_77 rfl (q := 78) rfl ?_
            exact Jvm.OwnW.retI O dz_78 rfl (by decide) (by decide) (by show some (Value.int ((3 : Int32) - ((((((((p0.toUInt32 >>> ((16 : Int32) &&& 31).toUInt32).toInt32).toUInt32 >>> ((8 : Int32) &&& 31).toUInt32).toInt32).toUInt32 >>> ((4 : Int32) &&& 31).toUInt32).toInt32).toUInt32 >>> ((1 : Int32) &&& 31).toUInt32).toInt32))) = some (Value.int (fn_z p0)); rw [fn_z, if_pos hc1, if_neg hc22, if_neg hc37, if_neg hc51, if_pos hc63])
          · refine Jvm.OwnW.icmpNo O dz_63 (flt hc63).1 (q := 66) rfl ?_
            refine Jvm.OwnW.iinc O dz_66 rfl (L' := #[.val (.int ((((((p0.toUInt32 >>> ((16 : Int32) &&& 31).toUInt32).toInt32).toUInt32 >>> ((8 : Int32) &&& 31).toUInt32).toInt32).toUInt32 >>> ((4 : Int32) &&& 31).toUInt32).toInt32)), .val (.int (1 : Int32))]) rfl (q := 69) rfl ?_
            refine Jvm.OwnW.iloadN O dz_69 rfl (q := 70) rfl ?_
            refine Jvm.OwnW.iconst O dz_70 (r := (2 : Int32)) rfl (q := 71) rfl ?_
            refine Jvm.OwnW.iushr O dz_71 rfl (q := 72) rfl ?_
            refine Jvm.OwnW.istoreN O dz_72 (L' := #[.val (.int ((((((((p0.toUInt32 >>> ((16 : Int32) &&& 31).toUInt32).toInt32).toUInt32 >>> ((8 : Int32) &&& 31).toUInt32).toInt32).toUInt32 >>> ((4 : Int32) &&& 31).toUInt32).toInt32).toUInt32 >>> ((2 : Int32) &&& 31).toUInt32).toInt32)), .val (.int (1 : Int32))]) rfl (q := 73) rfl ?_
            refine Jvm.OwnW.iloadN O dz_73 rfl (q := 74) rfl ?_
            refine Jvm.OwnW.iloadN O dz_74 rfl (q := 75) rfl ?_
            refine Jvm.OwnW.iconst O dz_75 (r := (1 : Int32)) rfl (q := 76) rfl ?_
            refine Jvm.OwnW.iushr O dz_76 rfl (q := 77) rfl ?_
            refine Jvm.OwnW.isub O dz_77 rfl (q := 78) rfl ?_
            exact Jvm.OwnW.retI O dz_78 rfl (by decide) (by decide) (by show some (Value.int ((1 : Int32) - ((((((((((p0.toUInt32 >>> ((16 : Int32) &&& 31).toUInt32).toInt32).toUInt32 >>> ((8 : Int32) &&& 31).toUInt32).toInt32).toUInt32 >>> ((4 : Int32) &&& 31).toUInt32).toInt32).toUInt32 >>> ((2 : Int32) &&& 31).toUInt32).toInt32).toUInt32 >>> ((1 : Int32) &&& 31).toUInt32).toInt32))) = some (Value.int (fn_z p0)); rw [fn_z, if_pos hc1, if_neg hc22, if_neg hc37, if_neg hc51, if_neg hc63])
  · refine Jvm.OwnW.ifNo O dz_1 (fgt0 hc1).1 (q := 4) rfl ?_
    refine Jvm.OwnW.iloadN O dz_4 rfl (q := 5) rfl ?_
    by_cases hc5 : p0 = (0 : Int32)
    · refine Jvm.OwnW.ifNo O dz_5 (teq0 hc5).2 (q := 8) rfl ?_
      refine Jvm.OwnW.bipush O dz_8 (r := (32 : Int32)) rfl (q := 10) rfl ?_
      refine Jvm.OwnW.goto O dz_10 (by decide) (q := 14) rfl ?_
      exact Jvm.OwnW.retI O dz_14 rfl (by decide) (by decide) (by show some (Value.int (32 : Int32)) = some (Value.int (fn_z p0)); rw [fn_z, if_neg hc1, if_pos hc5])
    · refine Jvm.OwnW.ifYes O dz_5 (feq0 hc5).2 (by decide) (q := 13) rfl ?_
      refine Jvm.OwnW.iconst O dz_13 (r := (0 : Int32)) rfl (q := 14) rfl ?_
      exact Jvm.OwnW.retI O dz_14 rfl (by decide) (by decide) (by show some (Value.int (0 : Int32)) = some (Value.int (fn_z p0)); rw [fn_z, if_neg hc1, if_neg hc5])
theorem pd_0 : parseMethodDescriptor "(I)I" = some ⟨[.int], some .int⟩ := by decide +kernel
theorem dy_0 : decode jdk_35_method_48_code 0 = .ok (.lload_n 0, 1) := by decide +kernel
theorem dy_1 : decode jdk_35_method_48_code 1 = .ok (.bipush 32, 2) := by decide +kernel
theorem dy_3 : decode jdk_35_method_48_code 3 = .ok (.lushr, 1) := by decide +kernel
theorem dy_4 : decode jdk_35_method_48_code 4 = .ok (.l2i, 1) := by decide +kernel
theorem dy_5 : decode jdk_35_method_48_code 5 = .ok (.istore_n 2, 1) := by decide +kernel
theorem dy_6 : decode jdk_35_method_48_code 6 = .ok (.iload_n 2, 1) := by decide +kernel
theorem dy_7 : decode jdk_35_method_48_code 7 = .ok (.ifCond .ne 14, 3) := by decide +kernel
theorem dy_10 : decode jdk_35_method_48_code 10 = .ok (.bipush 32, 2) := by decide +kernel
theorem dy_12 : decode jdk_35_method_48_code 12 = .ok (.lload_n 0, 1) := by decide +kernel
theorem dy_13 : decode jdk_35_method_48_code 13 = .ok (.l2i, 1) := by decide +kernel
theorem dy_14 : decode jdk_35_method_48_code 14 = .ok (.invokestatic 308, 3) := by decide +kernel
theorem dy_17 : decode jdk_35_method_48_code 17 = .ok (.iadd, 1) := by decide +kernel
theorem dy_18 : decode jdk_35_method_48_code 18 = .ok (.goto 7, 3) := by decide +kernel
theorem dy_21 : decode jdk_35_method_48_code 21 = .ok (.iload_n 2, 1) := by decide +kernel
theorem dy_22 : decode jdk_35_method_48_code 22 = .ok (.invokestatic 308, 3) := by decide +kernel
theorem dy_25 : decode jdk_35_method_48_code 25 = .ok (.ireturn, 1) := by decide +kernel
def fn_y (p0 : Int64) : Int32 := (if ((p0.toUInt64 >>> ((32 : Int32) &&& 0x3f).toInt64.toUInt64).toInt64).toInt32 = (0 : Int32) then ((32 : Int32) + (fn_z p0.toInt32)) else (fn_z ((p0.toUInt64 >>> ((32 : Int32) &&& 0x3f).toInt64.toUInt64).toInt64).toInt32))
theorem ef_y (p0 : Int64) (m : MethodId) : entryFrame m #[(.long p0)] 3 = mkF m 0 #[.val (.long p0), .second, .unset] [] := by first | (simp [entryFrame, mkF, argsToLocals, Value.category, maxLocals]; done) | rfl
theorem pn_y : plainFor (⟨"java/lang/Long", "numberOfLeadingZeros", "(J)I"⟩ : MethodName) = true := by first | exact plainFor_of_name (by first | (simp [plainName, overriddenIn]; done) | decide +kernel) | decide +kernel
set_option maxRecDepth 65536 in
set_option maxHeartbeats 40000000 in
theorem rm_y (l : Launch) (Z : State) (a0 : Array Value) (hw : ∀ d ∈ tables_1, d.before a0 Z = true) (p0 : Int64) (h0 : Heap)  :
    Met l Z (⟨"java/lang/Long", "numberOfLeadingZeros", "(J)I"⟩ : MethodName) jdk_35_method_48_code 3 (some .int) [] ({ frames := 1, cells := 0, slots := 0, locals := 14 } : Room) #[(.long p0)] [] h0 (fun v h => v = some (Value.int (fn_y p0))) := by
  refine Met.mk pn_y (ef_y p0) ?_
  intro C T hs0 O
  show Go C [] (fun v h => v = some (Value.int (fn_y p0))) 0 0 (T.setTop (mkF C.m 0 #[.val (.long p0), .second, .unset] []))
  refine Jvm.OwnW.lloadN O dy_0 rfl (q := 1) rfl ?_
  refine Jvm.OwnW.bipush O dy_1 (r := (32 : Int32)) rfl (q := 3) rfl ?_
  refine Jvm.OwnW.lushr O dy_3 rfl (q := 4) rfl ?_
  refine Jvm.OwnW.l2i O dy_4 rfl (q := 5) rfl ?_
  refine Jvm.OwnW.istoreN O dy_5 (L' := #[.val (.long p0), .second, .val (.int ((p0.toUInt64 >>> ((32 : Int32) &&& 0x3f).toInt64.toUInt64).toInt64).toInt32)]) rfl (q := 6) rfl ?_
  refine Jvm.OwnW.iloadN O dy_6 rfl (q := 7) rfl ?_
  by_cases hc7 : ((p0.toUInt64 >>> ((32 : Int32) &&& 0x3f).toInt64.toUInt64).toInt64).toInt32 = (0 : Int32)
  · refine Jvm.OwnW.ifNo O dy_7 (teq0 hc7).2 (q := 10) rfl ?_
    refine Jvm.OwnW.bipush O dy_10 (r := (32 : Int32)) rfl (q := 12) rfl ?_
    refine Jvm.OwnW.lloadN O dy_12 rfl (q := 13) rfl ?_
    refine Jvm.OwnW.l2i O dy_13 rfl (q := 14) rfl ?_
    refine Jvm.OwnW.callS0 O (y := (⟨"java/lang/Integer", "numberOfLeadingZeros", "(I)I"⟩ : MethodName)) (argsL := [(.int p0.toInt32)]) (rest := [(.int (32 : Int32))]) dy_14 (hw _ (List.mem_of_getElem? (i := 116) rfl)) (hw _ (List.mem_of_getElem? (i := 117) rfl)) (hw _ (List.mem_of_getElem? (i := 118) rfl)) (hw _ (List.mem_of_getElem? (i := 119) rfl)) (by decide) (rm_z l Z a0 hw p0.toInt32 h0) rfl pd_0 rfl (hst := rfl) (W := 1) (Nat.le_of_eq rfl) (by decide) (by decide) (c2 := 0) (s2 := 0) rfl rfl (by decide) (by decide) rfl rfl (q := 17) rfl ?_
    intro v1 T1 O1 q1
    obtain rfl := q1
    show Go C _ _ _ _ (T1.setTop (mkF C.m 17 #[.val (.long p0), .second, .val (.int ((p0.toUInt64 >>> ((32 : Int32) &&& 0x3f).toInt64.toUInt64).toInt64).toInt32)] [(.int (fn_z p0.toInt32)), (.int (32 : Int32))]))
    refine Jvm.OwnW.iadd O1 dy_17 rfl (q := 18) rfl ?_
    refine Jvm.OwnW.goto O1 dy_18 (by decide) (q := 25) rfl ?_
    exact Jvm.OwnW.retI O1 dy_25 rfl (by decide) (by decide) (by show some (Value.int ((32 : Int32) + (fn_z p0.toInt32))) = some (Value.int (fn_y p0)); rw [fn_y, if_pos hc7])
  · refine Jvm.OwnW.ifYes O dy_7 (feq0 hc7).2 (by decide) (q := 21) rfl ?_
    refine Jvm.OwnW.iloadN O dy_21 rfl (q := 22) rfl ?_
    refine Jvm.OwnW.callS0 O (y := (⟨"java/lang/Integer", "numberOfLeadingZeros", "(I)I"⟩ : MethodName)) (argsL := [(.int ((p0.toUInt64 >>> ((32 : Int32) &&& 0x3f).toInt64.toUInt64).toInt64).toInt32)]) (rest := []) dy_22 (hw _ (List.mem_of_getElem? (i := 116) rfl)) (hw _ (List.mem_of_getElem? (i := 117) rfl)) (hw _ (List.mem_of_getElem? (i := 118) rfl)) (hw _ (List.mem_of_getElem? (i := 119) rfl)) (by decide) (rm_z l Z a0 hw ((p0.toUInt64 >>> ((32 : Int32) &&& 0x3f).toInt64.toUInt64).toInt64).toInt32 h0) rfl pd_0 rfl (hst := rfl) (W := 0) (Nat.le_of_eq rfl) (by decide) (by decide) (c2 := 0) (s2 := 0) rfl rfl (by decide) (by decide) rfl rfl (q := 25) rfl ?_
    intro v2 T2 O2 q2
    obtain rfl := q2
    show Go C _ _ _ _ (T2.setTop (mkF C.m 25 #[.val (.long p0), .second, .val (.int ((p0.toUInt64 >>> ((32 : Int32) &&& 0x3f).toInt64.toUInt64).toInt64).toInt32)] [(.int (fn_z ((p0.toUInt64 >>> ((32 : Int32) &&& 0x3f).toInt64.toUInt64).toInt64).toInt32))]))
    exact Jvm.OwnW.retI O2 dy_25 rfl (by decide) (by decide) (by show some (Value.int (fn_z ((p0.toUInt64 >>> ((32 : Int32) &&& 0x3f).toInt64.toUInt64).toInt64).toInt32)) = some (Value.int (fn_y p0)); rw [fn_y, if_neg hc7])
theorem own_inc (z : Int32) (h2 : z.toInt + 1 < 2147483648) : (z + 1).toInt = z.toInt + 1 := by
  have o1 : (1 : Int32).toInt = 1 := rfl
  have := rng32 z
  rw [Jvm.OwnW.add32 (by omega) (by omega), o1]
theorem own_zl {e c : Int32} {I j K : Nat} (hc : c.toInt = 31 - (K : Int)) (hK : K ≤ 30) (he : e.toInt = (j : Int)) (h1 : 1 ≤ j) (h4 : j < 4) (lo : 2 ^ K * j ≤ I) (hi : I < 2 ^ K * (j + 1)) : ∃ L : Nat, (c - ((e.toUInt32 >>> ((1 : Int32) &&& 31).toUInt32).toInt32)).toInt = 32 - (L : Int) ∧ 1 ≤ L ∧ L ≤ 32 ∧ 2 ^ L ≤ 2 * I ∧ I < 2 ^ L := by
  have h := c_iushr e 1 1 (by decide) (by decide)
  have hs := c_isub c ((e.toUInt32 >>> ((1 : Int32) &&& 31).toUInt32).toInt32); have := rng32 (c - ((e.toUInt32 >>> ((1 : Int32) &&& 31).toUInt32).toInt32))
  have p1 : 2 ^ (K + 1) = 2 * 2 ^ K := by rw [Nat.pow_succ]; omega
  have p2 : 2 ^ (K + 2) = 4 * 2 ^ K := by rw [Nat.pow_add]; omega
  obtain rfl | rfl | rfl : j = 1 ∨ j = 2 ∨ j = 3 := by omega
  · exact ⟨K + 1, by omega, by omega, by omega, by omega, by omega⟩
  · exact ⟨K + 2, by omega, by omega, by omega, by omega, by omega⟩
  · exact ⟨K + 2, by omega, by omega, by omega, by omega, by omega⟩
theorem own_z (i : Int32) (I : Nat) (hi : i.toInt % 4294967296 = (I : Int)) (h0 : 0 < I) : ∃ L : Nat, (fn_z i).toInt = 32 - (L : Int) ∧ 1 ≤ L ∧ L ≤ 32 ∧ 2 ^ L ≤ 2 * I ∧ I < 2 ^ L := by
  have hr := rng32 i
  have z0 : (0 : Int32).toInt = 0 := rfl
  rw [fn_z]
  by_cases c0 : (0 : Int32) < i
  · rw [if_pos c0]
    rw [Int32.lt_iff_toInt_lt] at c0
    have h : i.toInt = ((I : Nat) : Int) := by omega
    by_cases c : i < (65536 : Int32)
    · rw [if_pos c]
      rw [Int32.lt_iff_toInt_lt] at c; have t : (65536 : Int32).toInt = 65536 := rfl
      have ha := h
      by_cases ca : i < (256 : Int32)
      · rw [if_pos ca]
        rw [Int32.lt_iff_toInt_lt] at ca; have ta : (256 : Int32).toInt = 256 := rfl
        have haa := ha
        by_cases caa : i < (16 : Int32)
        · rw [if_pos caa]
          rw [Int32.lt_iff_toInt_lt] at caa; have taa : (16 : Int32).toInt = 16 := rfl
          have haaa := haa
          by_cases caaa : i < (4 : Int32)
          · rw [if_pos caaa]
            rw [Int32.lt_iff_toInt_lt] at caaa; have taaa : (4 : Int32).toInt = 4 := rfl
            have haaaa := haaa
            exact own_zl (K := 0) (j := I) rfl (by decide) haaaa (by omega) (by omega) (by omega) (by omega)
          · rw [if_neg caaa]
            rw [Int32.lt_iff_toInt_lt] at caaa; have taaa : (4 : Int32).toInt = 4 := rfl
            have haaab : (((i.toUInt32 >>> ((2 : Int32) &&& 31).toUInt32).toInt32)).toInt = (((I / 4) : Nat) : Int) := by have q := c_iushr i 2 2 (by decide) (by decide); omega
            exact own_zl (K := 2) (j := (I / 4)) rfl (by decide) haaab (by omega) (by omega) (by omega) (by omega)
        · rw [if_neg caa]
          rw [Int32.lt_iff_toInt_lt] at caa; have taa : (16 : Int32).toInt = 16 := rfl
          have haab : (((i.toUInt32 >>> ((4 : Int32) &&& 31).toUInt32).toInt32)).toInt = (((I / 16) : Nat) : Int) := by have q := c_iushr i 4 4 (by decide) (by decide); omega
          by_cases caab : ((i.toUInt32 >>> ((4 : Int32) &&& 31).toUInt32).toInt32) < (4 : Int32)
          · rw [if_pos caab]
            rw [Int32.lt_iff_toInt_lt] at caab; have taab : (4 : Int32).toInt = 4 := rfl
            have haaba := haab
            exact own_zl (K := 4) (j := (I / 16)) rfl (by decide) haaba (by omega) (by omega) (by omega) (by omega)
          · rw [if_neg caab]
            rw [Int32.lt_iff_toInt_lt] at caab; have taab : (4 : Int32).toInt = 4 := rfl
            have haabb : (((((i.toUInt32 >>> ((4 : Int32) &&& 31).toUInt32).toInt32).toUInt32 >>> ((2 : Int32) &&& 31).toUInt32).toInt32)).toInt = ((((I / 16) / 4) : Nat) : Int) := by have q := c_iushr ((i.toUInt32 >>> ((4 : Int32) &&& 31).toUInt32).toInt32) 2 2 (by decide) (by decide); omega
            exact own_zl (K := 6) (j := ((I / 16) / 4)) rfl (by decide) haabb (by omega) (by omega) (by omega) (by omega)
      · rw [if_neg ca]
        rw [Int32.lt_iff_toInt_lt] at ca; have ta : (256 : Int32).toInt = 256 := rfl
        have hab : (((i.toUInt32 >>> ((8 : Int32) &&& 31).toUInt32).toInt32)).toInt = (((I / 256) : Nat) : Int) := by have q := c_iushr i 8 8 (by decide) (by decide); omega
        by_cases cab : ((i.toUInt32 >>> ((8 : Int32) &&& 31).toUInt32).toInt32) < (16 : Int32)
        · rw [if_pos cab]
          rw [Int32.lt_iff_toInt_lt] at cab; have tab : (16 : Int32).toInt = 16 := rfl
          have haba := hab
          by_cases caba : ((i.toUInt32 >>> ((8 : Int32) &&& 31).toUInt32).toInt32) < (4 : Int32)
          · rw [if_pos caba]
            rw [Int32.lt_iff_toInt_lt] at caba; have taba : (4 : Int32).toInt = 4 := rfl
            have habaa := haba
            exact own_zl (K := 8) (j := (I / 256)) rfl (by decide) habaa (by omega) (by omega) (by omega) (by omega)
          · rw [if_neg caba]
            rw [Int32.lt_iff_toInt_lt] at caba; have taba : (4 : Int32).toInt = 4 := rfl
            have habab : (((((i.toUInt32 >>> ((8 : Int32) &&& 31).toUInt32).toInt32).toUInt32 >>> ((2 : Int32) &&& 31).toUInt32).toInt32)).toInt = ((((I / 256) / 4) : Nat) : Int) := by have q := c_iushr ((i.toUInt32 >>> ((8 : Int32) &&& 31).toUInt32).toInt32) 2 2 (by decide) (by decide); omega
            exact own_zl (K := 10) (j := ((I / 256) / 4)) rfl (by decide) habab (by omega) (by omega) (by omega) (by omega)
        · rw [if_neg cab]
          rw [Int32.lt_iff_toInt_lt] at cab; have tab : (16 : Int32).toInt = 16 := rfl
          have habb : (((((i.toUInt32 >>> ((8 : Int32) &&& 31).toUInt32).toInt32).toUInt32 >>> ((4 : Int32) &&& 31).toUInt32).toInt32)).toInt = ((((I / 256) / 16) : Nat) : Int) := by have q := c_iushr ((i.toUInt32 >>> ((8 : Int32) &&& 31).toUInt32).toInt32) 4 4 (by decide) (by decide); omega
          by_cases cabb : ((((i.toUInt32 >>> ((8 : Int32) &&& 31).toUInt32).toInt32).toUInt32 >>> ((4 : Int32) &&& 31).toUInt32).toInt32) < (4 : Int32)
          · rw [if_pos cabb]
            rw [Int32.lt_iff_toInt_lt] at cabb; have tabb : (4 : Int32).toInt = 4 := rfl
            have habba := habb
            exact own_zl (K := 12) (j := ((I / 256) / 16)) rfl (by decide) habba (by omega) (by omega) (by omega) (by omega)
          · rw [if_neg cabb]
            rw [Int32.lt_iff_toInt_lt] at cabb; have tabb : (4 : Int32).toInt = 4 := rfl
            have habbb : (((((((i.toUInt32 >>> ((8 : Int32) &&& 31).toUInt32).toInt32).toUInt32 >>> ((4 : Int32) &&& 31).toUInt32).toInt32).toUInt32 >>> ((2 : Int32) &&& 31).toUInt32).toInt32)).toInt = (((((I / 256) / 16) / 4) : Nat) : Int) := by have q := c_iushr ((((i.toUInt32 >>> ((8 : Int32) &&& 31).toUInt32).toInt32).toUInt32 >>> ((4 : Int32) &&& 31).toUInt32).toInt32) 2 2 (by decide) (by decide); omega
            exact own_zl (K := 14) (j := (((I / 256) / 16) / 4)) rfl (by decide) habbb (by omega) (by omega) (by omega) (by omega)
    · rw [if_neg c]
      rw [Int32.lt_iff_toInt_lt] at c; have t : (65536 : Int32).toInt = 65536 := rfl
      have hb : (((i.toUInt32 >>> ((16 : Int32) &&& 31).toUInt32).toInt32)).toInt = (((I / 65536) : Nat) : Int) := by have q := c_iushr i 16 16 (by decide) (by decide); omega
      by_cases cb : ((i.toUInt32 >>> ((16 : Int32) &&& 31).toUInt32).toInt32) < (256 : Int32)
      · rw [if_pos cb]
        rw [Int32.lt_iff_toInt_lt] at cb; have tb : (256 : Int32).toInt = 256 := rfl
        have hba := hb
        by_cases cba : ((i.toUInt32 >>> ((16 : Int32) &&& 31).toUInt32).toInt32) < (16 : Int32)
        · rw [if_pos cba]
          rw [Int32.lt_iff_toInt_lt] at cba; have tba : (16 : Int32).toInt = 16 := rfl
          have hbaa := hba
          by_cases cbaa : ((i.toUInt32 >>> ((16 : Int32) &&& 31).toUInt32).toInt32) < (4 : Int32)
          · rw [if_pos cbaa]
            rw [Int32.lt_iff_toInt_lt] at cbaa; have tbaa : (4 : Int32).toInt = 4 := rfl
            have hbaaa := hbaa
            exact own_zl (K := 16) (j := (I / 65536)) rfl (by decide) hbaaa (by omega) (by omega) (by omega) (by omega)
          · rw [if_neg cbaa]
            rw [Int32.lt_iff_toInt_lt] at cbaa; have tbaa : (4 : Int32).toInt = 4 := rfl
            have hbaab : (((((i.toUInt32 >>> ((16 : Int32) &&& 31).toUInt32).toInt32).toUInt32 >>> ((2 : Int32) &&& 31).toUInt32).toInt32)).toInt = ((((I / 65536) / 4) : Nat) : Int) := by have q := c_iushr ((i.toUInt32 >>> ((16 : Int32) &&& 31).toUInt32).toInt32) 2 2 (by decide) (by decide); omega
            exact own_zl (K := 18) (j := ((I / 65536) / 4)) rfl (by decide) hbaab (by omega) (by omega) (by omega) (by omega)
        · rw [if_neg cba]
          rw [Int32.lt_iff_toInt_lt] at cba; have tba : (16 : Int32).toInt = 16 := rfl
          have hbab : (((((i.toUInt32 >>> ((16 : Int32) &&& 31).toUInt32).toInt32).toUInt32 >>> ((4 : Int32) &&& 31).toUInt32).toInt32)).toInt = ((((I / 65536) / 16) : Nat) : Int) := by have q := c_iushr ((i.toUInt32 >>> ((16 : Int32) &&& 31).toUInt32).toInt32) 4 4 (by decide) (by decide); omega
          by_cases cbab : ((((i.toUInt32 >>> ((16 : Int32) &&& 31).toUInt32).toInt32).toUInt32 >>> ((4 : Int32) &&& 31).toUInt32).toInt32) < (4 : Int32)
          · rw [if_pos cbab]
            rw [Int32.lt_iff_toInt_lt] at cbab; have tbab : (4 : Int32).toInt = 4 := rfl
            have hbaba := hbab
            exact own_zl (K := 20) (j := ((I / 65536) / 16)) rfl (by decide) hbaba (by omega) (by omega) (by omega) (by omega)
          · rw [if_neg cbab]
            rw [Int32.lt_iff_toInt_lt] at cbab; have tbab : (4 : Int32).toInt = 4 := rfl
            have hbabb : (((((((i.toUInt32 >>> ((16 : Int32) &&& 31).toUInt32).toInt32).toUInt32 >>> ((4 : Int32) &&& 31).toUInt32).toInt32).toUInt32 >>> ((2 : Int32) &&& 31).toUInt32).toInt32)).toInt = (((((I / 65536) / 16) / 4) : Nat) : Int) := by have q := c_iushr ((((i.toUInt32 >>> ((16 : Int32) &&& 31).toUInt32).toInt32).toUInt32 >>> ((4 : Int32) &&& 31).toUInt32).toInt32) 2 2 (by decide) (by decide); omega
            exact own_zl (K := 22) (j := (((I / 65536) / 16) / 4)) rfl (by decide) hbabb (by omega) (by omega) (by omega) (by omega)
      · rw [if_neg cb]
        rw [Int32.lt_iff_toInt_lt] at cb; have tb : (256 : Int32).toInt = 256 := rfl
        have hbb : (((((i.toUInt32 >>> ((16 : Int32) &&& 31).toUInt32).toInt32).toUInt32 >>> ((8 : Int32) &&& 31).toUInt32).toInt32)).toInt = ((((I / 65536) / 256) : Nat) : Int) := by have q := c_iushr ((i.toUInt32 >>> ((16 : Int32) &&& 31).toUInt32).toInt32) 8 8 (by decide) (by decide); omega
        by_cases cbb : ((((i.toUInt32 >>> ((16 : Int32) &&& 31).toUInt32).toInt32).toUInt32 >>> ((8 : Int32) &&& 31).toUInt32).toInt32) < (16 : Int32)
        · rw [if_pos cbb]
          rw [Int32.lt_iff_toInt_lt] at cbb; have tbb : (16 : Int32).toInt = 16 := rfl
          have hbba := hbb
          by_cases cbba : ((((i.toUInt32 >>> ((16 : Int32) &&& 31).toUInt32).toInt32).toUInt32 >>> ((8 : Int32) &&& 31).toUInt32).toInt32) < (4 : Int32)
          · rw [if_pos cbba]
            rw [Int32.lt_iff_toInt_lt] at cbba; have tbba : (4 : Int32).toInt = 4 := rfl
            have hbbaa := hbba
            exact own_zl (K := 24) (j := ((I / 65536) / 256)) rfl (by decide) hbbaa (by omega) (by omega) (by omega) (by omega)
          · rw [if_neg cbba]
            rw [Int32.lt_iff_toInt_lt] at cbba; have tbba : (4 : Int32).toInt = 4 := rfl
            have hbbab : (((((((i.toUInt32 >>> ((16 : Int32) &&& 31).toUInt32).toInt32).toUInt32 >>> ((8 : Int32) &&& 31).toUInt32).toInt32).toUInt32 >>> ((2 : Int32) &&& 31).toUInt32).toInt32)).toInt = (((((I / 65536) / 256) / 4) : Nat) : Int) := by have q := c_iushr ((((i.toUInt32 >>> ((16 : Int32) &&& 31).toUInt32).toInt32).toUInt32 >>> ((8 : Int32) &&& 31).toUInt32).toInt32) 2 2 (by decide) (by decide); omega
            exact own_zl (K := 26) (j := (((I / 65536) / 256) / 4)) rfl (by decide) hbbab (by omega) (by omega) (by omega) (by omega)
        · rw [if_neg cbb]
          rw [Int32.lt_iff_toInt_lt] at cbb; have tbb : (16 : Int32).toInt = 16 := rfl
          have hbbb : (((((((i.toUInt32 >>> ((16 : Int32) &&& 31).toUInt32).toInt32).toUInt32 >>> ((8 : Int32) &&& 31).toUInt32).toInt32).toUInt32 >>> ((4 : Int32) &&& 31).toUInt32).toInt32)).toInt = (((((I / 65536) / 256) / 16) : Nat) : Int) := by have q := c_iushr ((((i.toUInt32 >>> ((16 : Int32) &&& 31).toUInt32).toInt32).toUInt32 >>> ((8 : Int32) &&& 31).toUInt32).toInt32) 4 4 (by decide) (by decide); omega
          by_cases cbbb : ((((((i.toUInt32 >>> ((16 : Int32) &&& 31).toUInt32).toInt32).toUInt32 >>> ((8 : Int32) &&& 31).toUInt32).toInt32).toUInt32 >>> ((4 : Int32) &&& 31).toUInt32).toInt32) < (4 : Int32)
          · rw [if_pos cbbb]
            rw [Int32.lt_iff_toInt_lt] at cbbb; have tbbb : (4 : Int32).toInt = 4 := rfl
            have hbbba := hbbb
            exact own_zl (K := 28) (j := (((I / 65536) / 256) / 16)) rfl (by decide) hbbba (by omega) (by omega) (by omega) (by omega)
          · rw [if_neg cbbb]
            rw [Int32.lt_iff_toInt_lt] at cbbb; have tbbb : (4 : Int32).toInt = 4 := rfl
            have hbbbb : (((((((((i.toUInt32 >>> ((16 : Int32) &&& 31).toUInt32).toInt32).toUInt32 >>> ((8 : Int32) &&& 31).toUInt32).toInt32).toUInt32 >>> ((4 : Int32) &&& 31).toUInt32).toInt32).toUInt32 >>> ((2 : Int32) &&& 31).toUInt32).toInt32)).toInt = ((((((I / 65536) / 256) / 16) / 4) : Nat) : Int) := by have q := c_iushr ((((((i.toUInt32 >>> ((16 : Int32) &&& 31).toUInt32).toInt32).toUInt32 >>> ((8 : Int32) &&& 31).toUInt32).toInt32).toUInt32 >>> ((4 : Int32) &&& 31).toUInt32).toInt32) 2 2 (by decide) (by decide); omega
            exact own_zl (K := 30) (j := ((((I / 65536) / 256) / 16) / 4)) rfl (by decide) hbbbb (by omega) (by omega) (by omega) (by omega)
  · rw [if_neg c0]
    rw [Int32.lt_iff_toInt_lt] at c0
    rw [if_neg (fun q => by rw [q] at hi; rw [z0] at hi; omega)]
    exact ⟨32, rfl, by decide, by decide, by omega, by omega⟩
theorem own_bits {m : Int64} {M : Nat} {sh : Int32} (hm : m.toInt = (M : Int)) (h4 : 4 ≤ M) (h62 : M ≤ 4611686018427387904) (e : (64 : Int32) - fn_y m - 3 = sh) : ∃ s : Nat, s ≤ 60 ∧ sh.toInt = (s : Int) ∧ 4 * 2 ^ s ≤ M ∧ M < 8 * 2 ^ s := by
  have u := c_lushr m 32 32 (by decide) (by decide)
  have v := c_l2i ((m.toUInt64 >>> ((32 : Int32) &&& 0x3f).toInt64.toUInt64).toInt64)
  have r := rng32 ((m.toUInt64 >>> ((32 : Int32) &&& 0x3f).toInt64.toUInt64).toInt64).toInt32
  have hh : ((m.toUInt64 >>> ((32 : Int32) &&& 0x3f).toInt64.toUInt64).toInt64).toInt32.toInt = ((M / 4294967296 : Nat) : Int) := by omega
  have n64 : (64 : Int32).toInt = 64 := rfl
  have n3 : (3 : Int32).toInt = 3 := rfl
  have n32 : (32 : Int32).toInt = 32 := rfl
  have d1 := c_isub 64 (fn_y m); have d2 := c_isub (64 - fn_y m) 3; have d3 := rng32 sh
  rw [e] at d2
  by_cases z : ((m.toUInt64 >>> ((32 : Int32) &&& 0x3f).toInt64.toUInt64).toInt64).toInt32 = 0
  · have hM : M < 4294967296 := by rw [z] at hh; have : (0 : Int32).toInt = 0 := rfl; omega
    have w := c_l2i m
    obtain ⟨L, l1, l2, l3, l4, l5⟩ := own_z m.toInt32 M (by omega) (by omega)
    have ey : fn_y m = 32 + fn_z m.toInt32 := by rw [fn_y, if_pos z]
    have d4 := c_iadd 32 (fn_z m.toInt32)
    rw [ey] at d1
    have hL : 3 ≤ L := by
      rcases Nat.lt_or_ge L 3 with q | q
      · have : 2 ^ L ≤ 2 ^ 2 := Nat.pow_le_pow_right (by decide) (by omega)
        omega
      · exact q
    have p : 2 ^ L = 8 * 2 ^ (L - 3) := by rw [show L = 3 + (L - 3) by omega, Nat.pow_add, show 3 + (L - 3) - 3 = L - 3 by omega]
    exact ⟨L - 3, by omega, by rw [ey] at d2; omega, by omega, by omega⟩
  · obtain ⟨L, l1, l2, l3, l4, l5⟩ := own_z ((m.toUInt64 >>> ((32 : Int32) &&& 0x3f).toInt64.toUInt64).toInt64).toInt32 (M / 4294967296) (by omega) (by
      rcases Nat.eq_zero_or_pos (M / 4294967296) with q | q
      · exact absurd (eq32 (by rw [hh, q]; rfl)) z
      · exact q)
    have ey : fn_y m = fn_z ((m.toUInt64 >>> ((32 : Int32) &&& 0x3f).toInt64.toUInt64).toInt64).toInt32 := by rw [fn_y, if_neg z]
    rw [ey] at d1 d2
    have hL : L ≤ 31 := by
      rcases Nat.lt_or_ge L 32 with q | q
      · omega
      · have : 2 ^ 32 ≤ 2 ^ L := Nat.pow_le_pow_right (by decide) q
        omega
    have p : 2 ^ (L + 29) = 536870912 * 2 ^ L := by rw [Nat.pow_add]; omega
    exact ⟨L + 29, by omega, by omega, by omega, by omega⟩
theorem own_max (p0 : Int64) : ∃ M : Nat, (fn_x (1 : Int64) (p0 &&& (9223372036854775807 : Int64))).toInt = (M : Int) ∧ 0 < M := by
  have h1 := c_maskL p0 9223372036854775807 63 (by decide) (by decide)
  have o1 : (1 : Int64).toInt = 1 := rfl
  rw [fn_x]
  by_cases c : (1 : Int64) < p0 &&& 9223372036854775807
  · rw [if_pos c]
    rw [Int64.lt_iff_toInt_lt] at c
    exact ⟨(p0 &&& 9223372036854775807).toInt.toNat, by omega, by omega⟩
  · rw [if_neg c]; exact ⟨1, rfl, by decide⟩
theorem own_ones {A M s k : Nat} {q r m r2 q2 : Int64} (hm : m.toInt = (M : Int)) (b1 : 4 * 2 ^ s ≤ M) (h4 : 4 ≤ M) (h62 : M ≤ 4611686018427387904) (hA : (A + 1) * 2 ^ (k + 1) = 36893488147419103232 * 2 ^ s) (hq : q.toInt = ((A / M : Nat) : Int)) (hr : r.toInt = ((A % M : Nat) : Int)) (e1 : 2 * r + 1 = r2) (e2 : q * 2 = q2) :
    (2 * A + 1 + 1) * 2 ^ k = 36893488147419103232 * 2 ^ s ∧ (r2 < m → q2.toInt = (((2 * A + 1) / M : Nat) : Int) ∧ r2.toInt = (((2 * A + 1) % M : Nat) : Int)) ∧ (¬ r2 < m → (q2 + 1).toInt = (((2 * A + 1) / M : Nat) : Int) ∧ (r2 - m).toInt = (((2 * A + 1) % M : Nat) : Int)) := by
  have hM : 0 < M := by omega
  have pk : 1 ≤ 2 ^ k := Nat.pos_of_ne_zero (by simp)
  have eA : (2 * A + 1 + 1) * 2 ^ k = 36893488147419103232 * 2 ^ s := by rw [← hA, Nat.pow_succ]; grind
  have bA : (2 * A + 1 + 1) * 1 ≤ (2 * A + 1 + 1) * 2 ^ k := Nat.mul_le_mul_left _ pk
  have bQ : (2 * A + 1) / M < 9223372036854775808 := by rw [Nat.div_lt_iff_lt_mul hM]; omega
  have lr := Nat.mod_lt A hM
  have n2 : (2 : Int64).toInt = 2 := rfl
  have n1 : (1 : Int64).toInt = 1 := rfl
  have m1 := c_lmul 2 r; have m2 := c_ladd (2 * r) 1; have m3 := rng64 r2
  have k1 := c_lmul q 2; have k2 := rng64 q2
  rw [n2] at m1 k1
  rw [e1, n1] at m2
  rw [e2] at k1
  have tr : r2.toInt = ((2 * (A % M) + 1 : Nat) : Int) := by omega
  obtain ⟨w1, w2⟩ := own_turn (A := A) hM
  refine ⟨eA, fun c => ?_, fun c => ?_⟩
  · rw [Int64.lt_iff_toInt_lt] at c
    obtain ⟨x1, x2⟩ := w1 (by omega)
    rw [x1] at bQ
    exact ⟨by omega, by omega⟩
  · rw [Int64.lt_iff_toInt_lt] at c
    obtain ⟨x1, x2⟩ := w2 (by omega)
    rw [x1] at bQ
    have a1 := c_ladd q2 1; have a2 := rng64 (q2 + 1); have s1 := c_lsub r2 m; have s2 := rng64 (r2 - m)
    rw [n1] at a1
    exact ⟨by omega, by omega⟩

theorem pd_1 : parseMethodDescriptor "(JJ)J" = some ⟨[.long, .long], some .long⟩ := by decide +kernel
theorem dv_0 : decode prog_32_method_9_code 0 = .ok (.ldc2_w 83, 3) := by decide +kernel
theorem dv_3 : decode prog_32_method_9_code 3 = .ok (.lload_n 1, 1) := by decide +kernel
theorem dv_4 : decode prog_32_method_9_code 4 = .ok (.invokestatic 85, 3) := by decide +kernel
theorem dv_7 : decode prog_32_method_9_code 7 = .ok (.lstore_n 3, 1) := by decide +kernel
theorem dv_8 : decode prog_32_method_9_code 8 = .ok (.ldc2_w 83, 3) := by decide +kernel
theorem dv_11 : decode prog_32_method_9_code 11 = .ok (.lload_n 1, 1) := by decide +kernel
theorem dv_12 : decode prog_32_method_9_code 12 = .ok (.invokestatic 70, 3) := by decide +kernel
theorem dv_15 : decode prog_32_method_9_code 15 = .ok (.lstore 5, 2) := by decide +kernel
theorem dv_17 : decode prog_32_method_9_code 17 = .ok (.bipush 64, 2) := by decide +kernel
theorem dv_19 : decode prog_32_method_9_code 19 = .ok (.istore 7, 2) := by decide +kernel
theorem dv_21 : decode prog_32_method_9_code 21 = .ok (.iload 7, 2) := by decide +kernel
theorem dv_23 : decode prog_32_method_9_code 23 = .ok (.iload_n 0, 1) := by decide +kernel
theorem dv_24 : decode prog_32_method_9_code 24 = .ok (.if_icmp .ge 42, 3) := by decide +kernel
theorem dv_27 : decode prog_32_method_9_code 27 = .ok (.ldc2_w 88, 3) := by decide +kernel
theorem dv_30 : decode prog_32_method_9_code 30 = .ok (.lload 5, 2) := by decide +kernel
theorem dv_32 : decode prog_32_method_9_code 32 = .ok (.lmul, 1) := by decide +kernel
theorem dv_33 : decode prog_32_method_9_code 33 = .ok (.lconst 1, 1) := by decide +kernel
theorem dv_34 : decode prog_32_method_9_code 34 = .ok (.ladd, 1) := by decide +kernel
theorem dv_35 : decode prog_32_method_9_code 35 = .ok (.lstore 5, 2) := by decide +kernel
theorem dv_37 : decode prog_32_method_9_code 37 = .ok (.lload_n 3, 1) := by decide +kernel
theorem dv_38 : decode prog_32_method_9_code 38 = .ok (.ldc2_w 88, 3) := by decide +kernel
theorem dv_41 : decode prog_32_method_9_code 41 = .ok (.lmul, 1) := by decide +kernel
theorem dv_42 : decode prog_32_method_9_code 42 = .ok (.lstore_n 3, 1) := by decide +kernel
theorem dv_43 : decode prog_32_method_9_code 43 = .ok (.lload 5, 2) := by decide +kernel
theorem dv_45 : decode prog_32_method_9_code 45 = .ok (.lload_n 1, 1) := by decide +kernel
theorem dv_46 : decode prog_32_method_9_code 46 = .ok (.lcmp, 1) := by decide +kernel
theorem dv_47 : decode prog_32_method_9_code 47 = .ok (.ifCond .lt 13, 3) := by decide +kernel
theorem dv_50 : decode prog_32_method_9_code 50 = .ok (.lload 5, 2) := by decide +kernel
theorem dv_52 : decode prog_32_method_9_code 52 = .ok (.lload_n 1, 1) := by decide +kernel
theorem dv_53 : decode prog_32_method_9_code 53 = .ok (.lsub, 1) := by decide +kernel
theorem dv_54 : decode prog_32_method_9_code 54 = .ok (.lstore 5, 2) := by decide +kernel
theorem dv_56 : decode prog_32_method_9_code 56 = .ok (.lload_n 3, 1) := by decide +kernel
theorem dv_57 : decode prog_32_method_9_code 57 = .ok (.lconst 1, 1) := by decide +kernel
theorem dv_58 : decode prog_32_method_9_code 58 = .ok (.ladd, 1) := by decide +kernel
theorem dv_59 : decode prog_32_method_9_code 59 = .ok (.lstore_n 3, 1) := by decide +kernel
theorem dv_60 : decode prog_32_method_9_code 60 = .ok (.iinc 7 1, 3) := by decide +kernel
theorem dv_63 : decode prog_32_method_9_code 63 = .ok (.goto (-42), 3) := by decide +kernel
theorem dv_66 : decode prog_32_method_9_code 66 = .ok (.lload_n 3, 1) := by decide +kernel
theorem dv_67 : decode prog_32_method_9_code 67 = .ok (.lreturn, 1) := by decide +kernel
theorem ef_v (p0 : Int32) (p1 : Int64) (m : MethodId) : entryFrame m #[(.int p0), (.long p1)] 8 = mkF m 0 #[.val (.int p0), .val (.long p1), .second, .unset, .unset, .unset, .unset, .unset] [] := by first | (simp [entryFrame, mkF, argsToLocals, Value.category, maxLocals]; done) | rfl
theorem pn_v : plainFor (⟨"com/example/occupancy/occupancy/hash/internal/CellRule", "onesOver", "(IJ)J"⟩ : MethodName) = true := by first | exact plainFor_of_name (by first | (simp [plainName, overriddenIn]; done) | decide +kernel) | decide +kernel
set_option maxRecDepth 65536 in
set_option maxHeartbeats 40000000 in
theorem rm_v (l : Launch) (Z : State) (a0 : Array Value) (hw : ∀ d ∈ tables_1, d.before a0 Z = true) (p0 : Int32) (p1 : Int64) (M s : Nat) (h0 : Heap) (hm : p1.toInt = (M : Int)) (hM : 0 < M) (hp : p0.toInt = 65 + (s : Int)) (hs : s ≤ 60) (b1 : 4 * 2 ^ s ≤ M) (h4 : 4 ≤ M) (h62 : M ≤ 4611686018427387904) :
    Met l Z (⟨"com/example/occupancy/occupancy/hash/internal/CellRule", "onesOver", "(IJ)J"⟩ : MethodName) prog_32_method_9_code 8 (some .long) [] ({ frames := 1, cells := 0, slots := 0, locals := 19 } : Room) #[(.int p0), (.long p1)] [] h0 (fun v h => ∃ z, v = some (.long z) ∧ z.toInt = (((36893488147419103232 * 2 ^ s - 1) / M : Nat) : Int)) := by
  refine Met.mk pn_v (ef_v p0 p1) ?_
  intro C T hs0 O
  show Go C [] (fun v h => ∃ z, v = some (.long z) ∧ z.toInt = (((36893488147419103232 * 2 ^ s - 1) / M : Nat) : Int)) 0 0 (T.setTop (mkF C.m 0 #[.val (.int p0), .val (.long p1), .second, .unset, .unset, .unset, .unset, .unset] []))
  refine Jvm.OwnW.ldcL O dv_0 (hw _ (List.mem_of_getElem? (i := 124) rfl)) (q := 3) rfl ?_
  refine Jvm.OwnW.lloadN O dv_3 rfl (q := 4) rfl ?_
  refine Jvm.OwnW.callS0 O (y := (⟨"java/lang/Long", "divideUnsigned", "(JJ)J"⟩ : MethodName)) (argsL := [(.long (-1 : Int64)), (.long p1)]) (rest := []) dv_4 (hw _ (List.mem_of_getElem? (i := 125) rfl)) (hw _ (List.mem_of_getElem? (i := 126) rfl)) (hw _ (List.mem_of_getElem? (i := 61) rfl)) (hw _ (List.mem_of_getElem? (i := 127) rfl)) (by decide) (rm_d l Z a0 hw (-1 : Int64) p1 18446744073709551615 M h0 rfl hm hM) rfl pd_1 rfl (hst := rfl) (W := 0) (Nat.le_of_eq rfl) (by decide) (by decide) (c2 := 0) (s2 := 0) rfl rfl (by decide) (by decide) rfl rfl (q := 7) rfl ?_
  intro v1 T1 O1 q1
  obtain ⟨zd, rfl, hzd⟩ := q1
  show Go C _ _ _ _ (T1.setTop (mkF C.m 7 #[.val (.int p0), .val (.long p1), .second, .unset, .unset, .unset, .unset, .unset] [(.long zd)]))
  refine Jvm.OwnW.lstoreN O1 dv_7 (L' := #[.val (.int p0), .val (.long p1), .second, .val (.long zd), .second, .unset, .unset, .unset]) rfl (q := 8) rfl ?_
  refine Jvm.OwnW.ldcL O1 dv_8 (hw _ (List.mem_of_getElem? (i := 124) rfl)) (q := 11) rfl ?_
  refine Jvm.OwnW.lloadN O1 dv_11 rfl (q := 12) rfl ?_
  obtain ⟨H3, hH3, -⟩ := own_Uex (-1 : Int64)
  refine Jvm.OwnW.callS0 O1 (y := (⟨"java/lang/Long", "remainderUnsigned", "(JJ)J"⟩ : MethodName)) (argsL := [(.long (-1 : Int64)), (.long p1)]) (rest := []) dv_12 (hw _ (List.mem_of_getElem? (i := 59) rfl)) (hw _ (List.mem_of_getElem? (i := 60) rfl)) (hw _ (List.mem_of_getElem? (i := 61) rfl)) (hw _ (List.mem_of_getElem? (i := 62) rfl)) (by decide) (rm_m l Z a0 hw (-1 : Int64) p1 H3 M h0 hH3 hm hM) rfl pd_1 rfl (hst := rfl) (W := 0) (Nat.le_of_eq rfl) (by decide) (by decide) (c2 := 0) (s2 := 0) rfl rfl (by decide) (by decide) rfl rfl (q := 15) rfl ?_
  intro v2 T2 O2 q2
  obtain rfl := q2
  show Go C _ _ _ _ (T2.setTop (mkF C.m 15 #[.val (.int p0), .val (.long p1), .second, .val (.long zd), .second, .unset, .unset, .unset] [(.long (own_c p1 (-1 : Int64)))]))
  refine Jvm.OwnW.lstore O2 dv_15 (L' := #[.val (.int p0), .val (.long p1), .second, .val (.long zd), .second, .val (.long (own_c p1 (-1 : Int64))), .second, .unset]) rfl (q := 17) rfl ?_
  refine Jvm.OwnW.bipush O2 dv_17 (r := (64 : Int32)) rfl (q := 19) rfl ?_
  refine Jvm.OwnW.istore O2 dv_19 (L' := #[.val (.int p0), .val (.long p1), .second, .val (.long zd), .second, .val (.long (own_c p1 (-1 : Int64))), .second, .val (.int (64 : Int32))]) rfl (q := 21) rfl ?_
  have lp : ∀ (k : Nat) (T4 : State), On l Z [] ({ frames := 1, cells := 0, slots := 0, locals := 19 } : Room) "com/example/occupancy/occupancy/hash/internal/CellRule" "onesOver" prog_32_method_9_code 8 (some .long) C T4 h0 0 0 → ∀ (q r : Int64), ∀ (z : Int32), ∀ (A : Nat), ∀ (hz : z.toInt + (k : Int) = 65 + (s : Int)), ∀ (hA : (A + 1) * 2 ^ k = 36893488147419103232 * 2 ^ s), ∀ (hq : q.toInt = ((A / M : Nat) : Int)), ∀ (hr : r.toInt = ((A % M : Nat) : Int)), Go C [] (fun v h => ∃ z, v = some (.long z) ∧ z.toInt = (((36893488147419103232 * 2 ^ s - 1) / M : Nat) : Int)) 0 0 (T4.setTop (mkF C.m 21 #[.val (.int p0), .val (.long p1), .second, .val (.long q), .second, .val (.long r), .second, .val (.int z)] [])) := by
    intro k
    induction k with
    | zero =>
      intro T4 O4 q r z A hz hA hq hr 
      refine Jvm.OwnW.iload O4 dv_21 rfl (q := 23) rfl ?_
      refine Jvm.OwnW.iloadN O4 dv_23 rfl (q := 24) rfl ?_
      refine Jvm.OwnW.icmpYes O4 dv_24 (flt (show ¬ (z < p0) from nlt32 (by omega))).2.1 (by decide) (q := 66) rfl ?_
      refine Jvm.OwnW.lloadN O4 dv_66 rfl (q := 67) rfl ?_
      exact Jvm.OwnW.retL O4 dv_67 rfl (by decide) (by decide) ⟨_, rfl, by rw [hq]; rw [Nat.pow_zero, Nat.mul_one] at hA; rw [← hA, Nat.add_sub_cancel]⟩
    | succ k ih =>
      intro T4 O4 q r z A hz hA hq hr 
      refine Jvm.OwnW.iload O4 dv_21 rfl (q := 23) rfl ?_
      refine Jvm.OwnW.iloadN O4 dv_23 rfl (q := 24) rfl ?_
      refine Jvm.OwnW.icmpNo O4 dv_24 (tlt (show z < p0 from lt32 (by omega))).2.1 (q := 27) rfl ?_
      refine Jvm.OwnW.ldcL O4 dv_27 (hw _ (List.mem_of_getElem? (i := 128) rfl)) (q := 30) rfl ?_
      refine Jvm.OwnW.lload O4 dv_30 rfl (q := 32) rfl ?_
      refine Jvm.OwnW.lmul O4 dv_32 rfl (q := 33) rfl ?_
      refine Jvm.OwnW.lconst O4 dv_33 (r := (1 : Int64)) rfl (q := 34) rfl ?_
      obtain ⟨r2, hr2⟩ : ∃ zz_, (((2 : Int64) * r) + (1 : Int64)) = zz_ := ⟨_, rfl⟩
      refine Jvm.OwnW.ladd O4 dv_34 hr2 (q := 35) rfl ?_
      refine Jvm.OwnW.lstore O4 dv_35 (L' := #[.val (.int p0), .val (.long p1), .second, .val (.long q), .second, .val (.long r2), .second, .val (.int z)]) rfl (q := 37) rfl ?_
      refine Jvm.OwnW.lloadN O4 dv_37 rfl (q := 38) rfl ?_
      refine Jvm.OwnW.ldcL O4 dv_38 (hw _ (List.mem_of_getElem? (i := 128) rfl)) (q := 41) rfl ?_
      obtain ⟨q2, hq2⟩ : ∃ zz_, (q * (2 : Int64)) = zz_ := ⟨_, rfl⟩
      refine Jvm.OwnW.lmul O4 dv_41 hq2 (q := 42) rfl ?_
      refine Jvm.OwnW.lstoreN O4 dv_42 (L' := #[.val (.int p0), .val (.long p1), .second, .val (.long q2), .second, .val (.long r2), .second, .val (.int z)]) rfl (q := 43) rfl ?_
      refine Jvm.OwnW.lload O4 dv_43 rfl (q := 45) rfl ?_
      refine Jvm.OwnW.lloadN O4 dv_45 rfl (q := 46) rfl ?_
      refine Jvm.OwnW.lcmp O4 dv_46 rfl (q := 47) rfl ?_
      by_cases hc47 : r2 < p1
      · refine Jvm.OwnW.ifYes O4 dv_47 (tltL hc47).1 (by decide) (q := 60) rfl ?_
        refine Jvm.OwnW.iinc O4 dv_60 rfl (L' := #[.val (.int p0), .val (.long p1), .second, .val (.long q2), .second, .val (.long r2), .second, .val (.int (z + (1 : Int32)))]) rfl (q := 63) rfl ?_
        refine Jvm.OwnW.goto O4 dv_63 (by decide) (q := 21) rfl ?_
        exact ih _ O4 _ _ _ (2 * A + 1) (by have := own_inc z (by omega); omega) (own_ones hm b1 h4 h62 hA hq hr hr2 hq2).1 ((own_ones hm b1 h4 h62 hA hq hr hr2 hq2).2.1 hc47).1 ((own_ones hm b1 h4 h62 hA hq hr hr2 hq2).2.1 hc47).2 
      · refine Jvm.OwnW.ifNo O4 dv_47 (fltL hc47).1 (q := 50) rfl ?_
        refine Jvm.OwnW.lload O4 dv_50 rfl (q := 52) rfl ?_
        refine Jvm.OwnW.lloadN O4 dv_52 rfl (q := 53) rfl ?_
        obtain ⟨r3, hr3⟩ : ∃ zz_, (r2 - p1) = zz_ := ⟨_, rfl⟩
        refine Jvm.OwnW.lsub O4 dv_53 hr3 (q := 54) rfl ?_
        refine Jvm.OwnW.lstore O4 dv_54 (L' := #[.val (.int p0), .val (.long p1), .second, .val (.long q2), .second, .val (.long r3), .second, .val (.int z)]) rfl (q := 56) rfl ?_
        refine Jvm.OwnW.lloadN O4 dv_56 rfl (q := 57) rfl ?_
        refine Jvm.OwnW.lconst O4 dv_57 (r := (1 : Int64)) rfl (q := 58) rfl ?_
        obtain ⟨q3, hq3⟩ : ∃ zz_, (q2 + (1 : Int64)) = zz_ := ⟨_, rfl⟩
        refine Jvm.OwnW.ladd O4 dv_58 hq3 (q := 59) rfl ?_
        refine Jvm.OwnW.lstoreN O4 dv_59 (L' := #[.val (.int p0), .val (.long p1), .second, .val (.long q3), .second, .val (.long r3), .second, .val (.int z)]) rfl (q := 60) rfl ?_
        refine Jvm.OwnW.iinc O4 dv_60 rfl (L' := #[.val (.int p0), .val (.long p1), .second, .val (.long q3), .second, .val (.long r3), .second, .val (.int (z + (1 : Int32)))]) rfl (q := 63) rfl ?_
        refine Jvm.OwnW.goto O4 dv_63 (by decide) (q := 21) rfl ?_
        exact ih _ O4 _ _ _ (2 * A + 1) (by have := own_inc z (by omega); omega) (own_ones hm b1 h4 h62 hA hq hr hr2 hq2).1 (hq3 ▸ ((own_ones hm b1 h4 h62 hA hq hr hr2 hq2).2.2 hc47).1) (hr3 ▸ ((own_ones hm b1 h4 h62 hA hq hr hr2 hq2).2.2 hc47).2) 
  exact lp (s + 1) _ O2 _ _ _ 18446744073709551615 (by show (64 : Int) + _ = _; omega) (by rw [Nat.pow_succ]; omega) (own_Uto hzd (by rw [Nat.div_lt_iff_lt_mul hM]; omega)) (own_c_lt hm hM (H := 18446744073709551615) rfl)
theorem dra_0 : decode prog_32_method_1_code 0 = .ok (.aload_n 0, 1) := by decide +kernel
theorem dra_1 : decode prog_32_method_1_code 1 = .ok (.invokespecial 1, 3) := by decide +kernel
theorem dra_4 : decode prog_32_method_1_code 4 = .ok (.lload_n 1, 1) := by decide +kernel
theorem dra_5 : decode prog_32_method_1_code 5 = .ok (.lconst 1, 1) := by decide +kernel
theorem dra_6 : decode prog_32_method_1_code 6 = .ok (.lcmp, 1) := by decide +kernel
theorem dra_7 : decode prog_32_method_1_code 7 = .ok (.ifCond .ge 17, 3) := by decide +kernel
theorem dra_24 : decode prog_32_method_1_code 24 = .ok (.aload_n 0, 1) := by decide +kernel
theorem dra_25 : decode prog_32_method_1_code 25 = .ok (.lload_n 1, 1) := by decide +kernel
theorem dra_26 : decode prog_32_method_1_code 26 = .ok (.putfield 16, 3) := by decide +kernel
theorem dra_29 : decode prog_32_method_1_code 29 = .ok (.aload_n 0, 1) := by decide +kernel
theorem dra_30 : decode prog_32_method_1_code 30 = .ok (.lload_n 1, 1) := by decide +kernel
theorem dra_31 : decode prog_32_method_1_code 31 = .ok (.ldc2_w 22, 3) := by decide +kernel
theorem dra_34 : decode prog_32_method_1_code 34 = .ok (.lcmp, 1) := by decide +kernel
theorem dra_35 : decode prog_32_method_1_code 35 = .ok (.ifCond .lt 11, 3) := by decide +kernel
theorem dra_46 : decode prog_32_method_1_code 46 = .ok (.iconst 1, 1) := by decide +kernel
theorem dra_47 : decode prog_32_method_1_code 47 = .ok (.goto 4, 3) := by decide +kernel
theorem dra_51 : decode prog_32_method_1_code 51 = .ok (.putfield 26, 3) := by decide +kernel
theorem dra_54 : decode prog_32_method_1_code 54 = .ok (.aload_n 0, 1) := by decide +kernel
theorem dra_55 : decode prog_32_method_1_code 55 = .ok (.getfield 26, 3) := by decide +kernel
theorem dra_58 : decode prog_32_method_1_code 58 = .ok (.ifCond .eq 16, 3) := by decide +kernel
theorem dra_61 : decode prog_32_method_1_code 61 = .ok (.aload_n 0, 1) := by decide +kernel
theorem dra_62 : decode prog_32_method_1_code 62 = .ok (.lconst 0, 1) := by decide +kernel
theorem dra_63 : decode prog_32_method_1_code 63 = .ok (.putfield 30, 3) := by decide +kernel
theorem dra_66 : decode prog_32_method_1_code 66 = .ok (.aload_n 0, 1) := by decide +kernel
theorem dra_67 : decode prog_32_method_1_code 67 = .ok (.iconst 0, 1) := by decide +kernel
theorem dra_68 : decode prog_32_method_1_code 68 = .ok (.putfield 33, 3) := by decide +kernel
theorem dra_71 : decode prog_32_method_1_code 71 = .ok (.goto 33, 3) := by decide +kernel
theorem dra_104 : decode prog_32_method_1_code 104 = .ok (.return_, 1) := by decide +kernel
theorem ef_ra (a1 : Addr) (p2 : Int64) (m : MethodId) : entryFrame m #[(.ref a1), (.long p2)] 4 = mkF m 0 #[.val (.ref a1), .val (.long p2), .second, .unset] [] := by first | (simp [entryFrame, mkF, argsToLocals, Value.category, maxLocals]; done) | rfl
theorem pn_ra : plainFor (⟨"com/example/occupancy/occupancy/hash/internal/CellRule", "<init>", "(J)V"⟩ : MethodName) = true := by first | exact plainFor_of_name (by first | (simp [plainName, overriddenIn]; done) | decide +kernel) | decide +kernel
set_option maxRecDepth 65536 in
set_option maxHeartbeats 40000000 in
theorem rm_ra (l : Launch) (Z : State) (a0 : Array Value) (hw : ∀ d ∈ tables_1, d.before a0 Z = true) (a1 : Addr) (p2 : Int64) (M : Nat) (h0 : Heap) (E_a1 : Exa Z h0 a1 "com/example/occupancy/occupancy/hash/internal/CellRule") (F_cellCount_a1 : Fld Z h0 a1 "com/example/occupancy/occupancy/hash/internal/CellRule" "cellCount" "J" (.long (0 : Int64))) (F_dividesOutright_a1 : Fld Z h0 a1 "com/example/occupancy/occupancy/hash/internal/CellRule" "dividesOutright" "Z" (.int (0 : Int32))) (F_reciprocal_a1 : Fld Z h0 a1 "com/example/occupancy/occupancy/hash/internal/CellRule" "reciprocal" "J" (.long (0 : Int64))) (F_shift_a1 : Fld Z h0 a1 "com/example/occupancy/occupancy/hash/internal/CellRule" "shift" "I" (.int (0 : Int32))) (hm : p2.toInt = (M : Int)) (hM : 0 < M) (c1 : p2 < 4) :
    Met l Z (⟨"com/example/occupancy/occupancy/hash/internal/CellRule", "<init>", "(J)V"⟩ : MethodName) prog_32_method_1_code 4 none [] ({ frames := 2, cells := 0, slots := 0, locals := 39 } : Room) #[(.ref a1), (.long p2)] [a1] h0 (fun v h => v = none ∧ ∃ (d : Int32) (rc : Int64) (sh : Int32), Fld Z h a1 "com/example/occupancy/occupancy/hash/internal/CellRule" "cellCount" "J" (.long p2) ∧ Fld Z h a1 "com/example/occupancy/occupancy/hash/internal/CellRule" "dividesOutright" "Z" (.int d) ∧ Fld Z h a1 "com/example/occupancy/occupancy/hash/internal/CellRule" "reciprocal" "J" (.long rc) ∧ Fld Z h a1 "com/example/occupancy/occupancy/hash/internal/CellRule" "shift" "I" (.int sh) ∧ own_rule p2 d rc sh) := by
  refine Met.mk pn_ra (ef_ra a1 p2) ?_
  intro C T hs0 O
  show Go C [a1] (fun v h => v = none ∧ ∃ (d : Int32) (rc : Int64) (sh : Int32), Fld Z h a1 "com/example/occupancy/occupancy/hash/internal/CellRule" "cellCount" "J" (.long p2) ∧ Fld Z h a1 "com/example/occupancy/occupancy/hash/internal/CellRule" "dividesOutright" "Z" (.int d) ∧ Fld Z h a1 "com/example/occupancy/occupancy/hash/internal/CellRule" "reciprocal" "J" (.long rc) ∧ Fld Z h a1 "com/example/occupancy/occupancy/hash/internal/CellRule" "shift" "I" (.int sh) ∧ own_rule p2 d rc sh) 0 0 (T.setTop (mkF C.m 0 #[.val (.ref a1), .val (.long p2), .second, .unset] []))
  refine Jvm.OwnW.aloadN O dra_0 rfl rfl (q := 1) rfl ?_
  refine Jvm.OwnW.initO O dra_1 (hw _ (List.mem_of_getElem? (i := 11) rfl)) (hw _ (List.mem_of_getElem? (i := 12) rfl)) (hw _ (List.mem_of_getElem? (i := 13) rfl)) rfl (by decide) (W := 0) (Nat.le_of_eq rfl) (by decide) (q := 4) rfl ?_
  intro T1 O1
  refine Jvm.OwnW.lloadN O1 dra_4 rfl (q := 5) rfl ?_
  refine Jvm.OwnW.lconst O1 dra_5 (r := (1 : Int64)) rfl (q := 6) rfl ?_
  refine Jvm.OwnW.lcmp O1 dra_6 rfl (q := 7) rfl ?_
  refine Jvm.OwnW.ifYes O1 dra_7 (fltL (show ¬ (p2 < (1 : Int64)) from nlt64 (by rw [hm]; show (1 : Int) ≤ _; omega))).2.1 (by decide) (q := 24) rfl ?_
  refine Jvm.OwnW.aloadN O1 dra_24 rfl rfl (q := 25) rfl ?_
  refine Jvm.OwnW.lloadN O1 dra_25 rfl (q := 26) rfl ?_
  refine Jvm.OwnW.putF O1 dra_26 (host := "") (Or.inl (hw _ (List.mem_of_getElem? (i := 14) rfl))) Via.refl F_cellCount_a1 E_a1 (Or.inr ⟨hw _ (List.mem_of_getElem? (i := 15) rfl), rfl, rfl⟩) (hw _ (List.mem_of_getElem? (i := 6) rfl)) (ty := .long) (by decide) rfl rfl (Or.inl (List.mem_cons_self ..)) (q := 29) rfl ?_
  intro T2 h2 O2 W2
  have E_a1 := E_a1.wr W2
  have F_cellCount_a1 := F_cellCount_a1.same W2
  have F_dividesOutright_a1 := F_dividesOutright_a1.other W2 (Or.inr (slot_ne (Or.inr (hw _ (List.mem_of_getElem? (i := 18) rfl))) (Or.inr (hw _ (List.mem_of_getElem? (i := 15) rfl))) (by decide) (t := .boolean) (t' := .long) (by decide) (by decide)))
  have F_reciprocal_a1 := F_reciprocal_a1.other W2 (Or.inr (slot_ne (Or.inr (hw _ (List.mem_of_getElem? (i := 20) rfl))) (Or.inr (hw _ (List.mem_of_getElem? (i := 15) rfl))) (by decide) (t := .long) (t' := .long) (by decide) (by decide)))
  have F_shift_a1 := F_shift_a1.other W2 (Or.inr (slot_ne (Or.inr (hw _ (List.mem_of_getElem? (i := 22) rfl))) (Or.inr (hw _ (List.mem_of_getElem? (i := 15) rfl))) (by decide) (t := .int) (t' := .long) (by decide) (by decide)))
  refine Jvm.OwnW.aloadN O2 dra_29 rfl rfl (q := 30) rfl ?_
  refine Jvm.OwnW.lloadN O2 dra_30 rfl (q := 31) rfl ?_
  refine Jvm.OwnW.ldcL O2 dra_31 (hw _ (List.mem_of_getElem? (i := 16) rfl)) (q := 34) rfl ?_
  refine Jvm.OwnW.lcmp O2 dra_34 rfl (q := 35) rfl ?_
  refine Jvm.OwnW.ifYes O2 dra_35 (tltL (show p2 < (4 : Int64) from c1)).1 (by decide) (q := 46) rfl ?_
  refine Jvm.OwnW.iconst O2 dra_46 (r := (1 : Int32)) rfl (q := 47) rfl ?_
  refine Jvm.OwnW.goto O2 dra_47 (by decide) (q := 51) rfl ?_
  refine Jvm.OwnW.putF O2 dra_51 (host := "") (Or.inl (hw _ (List.mem_of_getElem? (i := 17) rfl))) Via.refl F_dividesOutright_a1 E_a1 (Or.inr ⟨hw _ (List.mem_of_getElem? (i := 18) rfl), rfl, rfl⟩) (hw _ (List.mem_of_getElem? (i := 6) rfl)) (ty := .boolean) (by decide) rfl rfl (Or.inl (List.mem_cons_self ..)) (q := 54) rfl ?_
  intro T3 h3 O3 W3
  have E_a1 := E_a1.wr W3
  have F_cellCount_a1 := F_cellCount_a1.other W3 (Or.inr (slot_ne (Or.inr (hw _ (List.mem_of_getElem? (i := 15) rfl))) (Or.inr (hw _ (List.mem_of_getElem? (i := 18) rfl))) (by decide) (t := .long) (t' := .boolean) (by decide) (by decide)))
  have F_dividesOutright_a1 := F_dividesOutright_a1.same W3
  have F_reciprocal_a1 := F_reciprocal_a1.other W3 (Or.inr (slot_ne (Or.inr (hw _ (List.mem_of_getElem? (i := 20) rfl))) (Or.inr (hw _ (List.mem_of_getElem? (i := 18) rfl))) (by decide) (t := .long) (t' := .boolean) (by decide) (by decide)))
  have F_shift_a1 := F_shift_a1.other W3 (Or.inr (slot_ne (Or.inr (hw _ (List.mem_of_getElem? (i := 22) rfl))) (Or.inr (hw _ (List.mem_of_getElem? (i := 18) rfl))) (by decide) (t := .int) (t' := .boolean) (by decide) (by decide)))
  refine Jvm.OwnW.aloadN O3 dra_54 rfl rfl (q := 55) rfl ?_
  refine Jvm.OwnW.getF O3 dra_55 (host := "") (Or.inl (hw _ (List.mem_of_getElem? (i := 17) rfl))) Via.refl F_dividesOutright_a1 (q := 58) rfl ?_
  intro T4 O4
  refine Jvm.OwnW.ifNo O4 dra_58 (feq0 (show ¬ ((1 : Int32) = (0 : Int32)) from (by decide))).1 (q := 61) rfl ?_
  refine Jvm.OwnW.aloadN O4 dra_61 rfl rfl (q := 62) rfl ?_
  refine Jvm.OwnW.lconst O4 dra_62 (r := (0 : Int64)) rfl (q := 63) rfl ?_
  refine Jvm.OwnW.putF O4 dra_63 (host := "") (Or.inl (hw _ (List.mem_of_getElem? (i := 19) rfl))) Via.refl F_reciprocal_a1 E_a1 (Or.inr ⟨hw _ (List.mem_of_getElem? (i := 20) rfl), rfl, rfl⟩) (hw _ (List.mem_of_getElem? (i := 6) rfl)) (ty := .long) (by decide) rfl rfl (Or.inl (List.mem_cons_self ..)) (q := 66) rfl ?_
  intro T5 h5 O5 W5
  have E_a1 := E_a1.wr W5
  have F_cellCount_a1 := F_cellCount_a1.other W5 (Or.inr (slot_ne (Or.inr (hw _ (List.mem_of_getElem? (i := 15) rfl))) (Or.inr (hw _ (List.mem_of_getElem? (i := 20) rfl))) (by decide) (t := .long) (t' := .long) (by decide) (by decide)))
  have F_dividesOutright_a1 := F_dividesOutright_a1.other W5 (Or.inr (slot_ne (Or.inr (hw _ (List.mem_of_getElem? (i := 18) rfl))) (Or.inr (hw _ (List.mem_of_getElem? (i := 20) rfl))) (by decide) (t := .boolean) (t' := .long) (by decide) (by decide)))
  have F_reciprocal_a1 := F_reciprocal_a1.same W5
  have F_shift_a1 := F_shift_a1.other W5 (Or.inr (slot_ne (Or.inr (hw _ (List.mem_of_getElem? (i := 22) rfl))) (Or.inr (hw _ (List.mem_of_getElem? (i := 20) rfl))) (by decide) (t := .int) (t' := .long) (by decide) (by decide)))
  refine Jvm.OwnW.aloadN O5 dra_66 rfl rfl (q := 67) rfl ?_
  refine Jvm.OwnW.iconst O5 dra_67 (r := (0 : Int32)) rfl (q := 68) rfl ?_
  refine Jvm.OwnW.putF O5 dra_68 (host := "") (Or.inl (hw _ (List.mem_of_getElem? (i := 21) rfl))) Via.refl F_shift_a1 E_a1 (Or.inr ⟨hw _ (List.mem_of_getElem? (i := 22) rfl), rfl, rfl⟩) (hw _ (List.mem_of_getElem? (i := 6) rfl)) (ty := .int) (by decide) rfl rfl (Or.inl (List.mem_cons_self ..)) (q := 71) rfl ?_
  intro T6 h6 O6 W6
  have E_a1 := E_a1.wr W6
  have F_cellCount_a1 := F_cellCount_a1.other W6 (Or.inr (slot_ne (Or.inr (hw _ (List.mem_of_getElem? (i := 15) rfl))) (Or.inr (hw _ (List.mem_of_getElem? (i := 22) rfl))) (by decide) (t := .long) (t' := .int) (by decide) (by decide)))
  have F_dividesOutright_a1 := F_dividesOutright_a1.other W6 (Or.inr (slot_ne (Or.inr (hw _ (List.mem_of_getElem? (i := 18) rfl))) (Or.inr (hw _ (List.mem_of_getElem? (i := 22) rfl))) (by decide) (t := .boolean) (t' := .int) (by decide) (by decide)))
  have F_reciprocal_a1 := F_reciprocal_a1.other W6 (Or.inr (slot_ne (Or.inr (hw _ (List.mem_of_getElem? (i := 20) rfl))) (Or.inr (hw _ (List.mem_of_getElem? (i := 22) rfl))) (by decide) (t := .long) (t' := .int) (by decide) (by decide)))
  have F_shift_a1 := F_shift_a1.same W6
  refine Jvm.OwnW.goto O6 dra_71 (by decide) (q := 104) rfl ?_
  exact Jvm.OwnW.ret0 O6 dra_104 (by decide) (by decide) ⟨rfl, _, _, _, F_cellCount_a1, F_dividesOutright_a1, F_reciprocal_a1, F_shift_a1, M, hm, hM, Or.inl rfl⟩
theorem drb_0 : decode prog_32_method_1_code 0 = .ok (.aload_n 0, 1) := by decide +kernel
theorem drb_1 : decode prog_32_method_1_code 1 = .ok (.invokespecial 1, 3) := by decide +kernel
theorem drb_4 : decode prog_32_method_1_code 4 = .ok (.lload_n 1, 1) := by decide +kernel
theorem drb_5 : decode prog_32_method_1_code 5 = .ok (.lconst 1, 1) := by decide +kernel
theorem drb_6 : decode prog_32_method_1_code 6 = .ok (.lcmp, 1) := by decide +kernel
theorem drb_7 : decode prog_32_method_1_code 7 = .ok (.ifCond .ge 17, 3) := by decide +kernel
theorem drb_24 : decode prog_32_method_1_code 24 = .ok (.aload_n 0, 1) := by decide +kernel
theorem drb_25 : decode prog_32_method_1_code 25 = .ok (.lload_n 1, 1) := by decide +kernel
theorem drb_26 : decode prog_32_method_1_code 26 = .ok (.putfield 16, 3) := by decide +kernel
theorem drb_29 : decode prog_32_method_1_code 29 = .ok (.aload_n 0, 1) := by decide +kernel
theorem drb_30 : decode prog_32_method_1_code 30 = .ok (.lload_n 1, 1) := by decide +kernel
theorem drb_31 : decode prog_32_method_1_code 31 = .ok (.ldc2_w 22, 3) := by decide +kernel
theorem drb_34 : decode prog_32_method_1_code 34 = .ok (.lcmp, 1) := by decide +kernel
theorem drb_35 : decode prog_32_method_1_code 35 = .ok (.ifCond .lt 11, 3) := by decide +kernel
theorem drb_38 : decode prog_32_method_1_code 38 = .ok (.lload_n 1, 1) := by decide +kernel
theorem drb_39 : decode prog_32_method_1_code 39 = .ok (.ldc2_w 24, 3) := by decide +kernel
theorem drb_42 : decode prog_32_method_1_code 42 = .ok (.lcmp, 1) := by decide +kernel
theorem drb_43 : decode prog_32_method_1_code 43 = .ok (.ifCond .le 7, 3) := by decide +kernel
theorem drb_46 : decode prog_32_method_1_code 46 = .ok (.iconst 1, 1) := by decide +kernel
theorem drb_47 : decode prog_32_method_1_code 47 = .ok (.goto 4, 3) := by decide +kernel
theorem drb_51 : decode prog_32_method_1_code 51 = .ok (.putfield 26, 3) := by decide +kernel
theorem drb_54 : decode prog_32_method_1_code 54 = .ok (.aload_n 0, 1) := by decide +kernel
theorem drb_55 : decode prog_32_method_1_code 55 = .ok (.getfield 26, 3) := by decide +kernel
theorem drb_58 : decode prog_32_method_1_code 58 = .ok (.ifCond .eq 16, 3) := by decide +kernel
theorem drb_61 : decode prog_32_method_1_code 61 = .ok (.aload_n 0, 1) := by decide +kernel
theorem drb_62 : decode prog_32_method_1_code 62 = .ok (.lconst 0, 1) := by decide +kernel
theorem drb_63 : decode prog_32_method_1_code 63 = .ok (.putfield 30, 3) := by decide +kernel
theorem drb_66 : decode prog_32_method_1_code 66 = .ok (.aload_n 0, 1) := by decide +kernel
theorem drb_67 : decode prog_32_method_1_code 67 = .ok (.iconst 0, 1) := by decide +kernel
theorem drb_68 : decode prog_32_method_1_code 68 = .ok (.putfield 33, 3) := by decide +kernel
theorem drb_71 : decode prog_32_method_1_code 71 = .ok (.goto 33, 3) := by decide +kernel
theorem drb_104 : decode prog_32_method_1_code 104 = .ok (.return_, 1) := by decide +kernel
theorem ef_rb (a1 : Addr) (p2 : Int64) (m : MethodId) : entryFrame m #[(.ref a1), (.long p2)] 4 = mkF m 0 #[.val (.ref a1), .val (.long p2), .second, .unset] [] := by first | (simp [entryFrame, mkF, argsToLocals, Value.category, maxLocals]; done) | rfl
theorem pn_rb : plainFor (⟨"com/example/occupancy/occupancy/hash/internal/CellRule", "<init>", "(J)V"⟩ : MethodName) = true := by first | exact plainFor_of_name (by first | (simp [plainName, overriddenIn]; done) | decide +kernel) | decide +kernel
set_option maxRecDepth 65536 in
set_option maxHeartbeats 40000000 in
theorem rm_rb (l : Launch) (Z : State) (a0 : Array Value) (hw : ∀ d ∈ tables_1, d.before a0 Z = true) (a1 : Addr) (p2 : Int64) (M : Nat) (h0 : Heap) (E_a1 : Exa Z h0 a1 "com/example/occupancy/occupancy/hash/internal/CellRule") (F_cellCount_a1 : Fld Z h0 a1 "com/example/occupancy/occupancy/hash/internal/CellRule" "cellCount" "J" (.long (0 : Int64))) (F_dividesOutright_a1 : Fld Z h0 a1 "com/example/occupancy/occupancy/hash/internal/CellRule" "dividesOutright" "Z" (.int (0 : Int32))) (F_reciprocal_a1 : Fld Z h0 a1 "com/example/occupancy/occupancy/hash/internal/CellRule" "reciprocal" "J" (.long (0 : Int64))) (F_shift_a1 : Fld Z h0 a1 "com/example/occupancy/occupancy/hash/internal/CellRule" "shift" "I" (.int (0 : Int32))) (hm : p2.toInt = (M : Int)) (hM : 0 < M) (c1 : ¬ p2 < 4) (c2 : 4611686018427387904 < p2) :
    Met l Z (⟨"com/example/occupancy/occupancy/hash/internal/CellRule", "<init>", "(J)V"⟩ : MethodName) prog_32_method_1_code 4 none [] ({ frames := 2, cells := 0, slots := 0, locals := 39 } : Room) #[(.ref a1), (.long p2)] [a1] h0 (fun v h => v = none ∧ ∃ (d : Int32) (rc : Int64) (sh : Int32), Fld Z h a1 "com/example/occupancy/occupancy/hash/internal/CellRule" "cellCount" "J" (.long p2) ∧ Fld Z h a1 "com/example/occupancy/occupancy/hash/internal/CellRule" "dividesOutright" "Z" (.int d) ∧ Fld Z h a1 "com/example/occupancy/occupancy/hash/internal/CellRule" "reciprocal" "J" (.long rc) ∧ Fld Z h a1 "com/example/occupancy/occupancy/hash/internal/CellRule" "shift" "I" (.int sh) ∧ own_rule p2 d rc sh) := by
  refine Met.mk pn_rb (ef_rb a1 p2) ?_
  intro C T hs0 O
  show Go C [a1] (fun v h => v = none ∧ ∃ (d : Int32) (rc : Int64) (sh : Int32), Fld Z h a1 "com/example/occupancy/occupancy/hash/internal/CellRule" "cellCount" "J" (.long p2) ∧ Fld Z h a1 "com/example/occupancy/occupancy/hash/internal/CellRule" "dividesOutright" "Z" (.int d) ∧ Fld Z h a1 "com/example/occupancy/occupancy/hash/internal/CellRule" "reciprocal" "J" (.long rc) ∧ Fld Z h a1 "com/example/occupancy/occupancy/hash/internal/CellRule" "shift" "I" (.int sh) ∧ own_rule p2 d rc sh) 0 0 (T.setTop (mkF C.m 0 #[.val (.ref a1), .val (.long p2), .second, .unset] []))
  refine Jvm.OwnW.aloadN O drb_0 rfl rfl (q := 1) rfl ?_
  refine Jvm.OwnW.initO O drb_1 (hw _ (List.mem_of_getElem? (i := 11) rfl)) (hw _ (List.mem_of_getElem? (i := 12) rfl)) (hw _ (List.mem_of_getElem? (i := 13) rfl)) rfl (by decide) (W := 0) (Nat.le_of_eq rfl) (by decide) (q := 4) rfl ?_
  intro T1 O1
  refine Jvm.OwnW.lloadN O1 drb_4 rfl (q := 5) rfl ?_
  refine Jvm.OwnW.lconst O1 drb_5 (r := (1 : Int64)) rfl (q := 6) rfl ?_
  refine Jvm.OwnW.lcmp O1 drb_6 rfl (q := 7) rfl ?_
  refine Jvm.OwnW.ifYes O1 drb_7 (fltL (show ¬ (p2 < (1 : Int64)) from nlt64 (by rw [hm]; show (1 : Int) ≤ _; omega))).2.1 (by decide) (q := 24) rfl ?_
  refine Jvm.OwnW.aloadN O1 drb_24 rfl rfl (q := 25) rfl ?_
  refine Jvm.OwnW.lloadN O1 drb_25 rfl (q := 26) rfl ?_
  refine Jvm.OwnW.putF O1 drb_26 (host := "") (Or.inl (hw _ (List.mem_of_getElem? (i := 14) rfl))) Via.refl F_cellCount_a1 E_a1 (Or.inr ⟨hw _ (List.mem_of_getElem? (i := 15) rfl), rfl, rfl⟩) (hw _ (List.mem_of_getElem? (i := 6) rfl)) (ty := .long) (by decide) rfl rfl (Or.inl (List.mem_cons_self ..)) (q := 29) rfl ?_
  intro T2 h2 O2 W2
  have E_a1 := E_a1.wr W2
  have F_cellCount_a1 := F_cellCount_a1.same W2
  have F_dividesOutright_a1 := F_dividesOutright_a1.other W2 (Or.inr (slot_ne (Or.inr (hw _ (List.mem_of_getElem? (i := 18) rfl))) (Or.inr (hw _ (List.mem_of_getElem? (i := 15) rfl))) (by decide) (t := .boolean) (t' := .long) (by decide) (by decide)))
  have F_reciprocal_a1 := F_reciprocal_a1.other W2 (Or.inr (slot_ne (Or.inr (hw _ (List.mem_of_getElem? (i := 20) rfl))) (Or.inr (hw _ (List.mem_of_getElem? (i := 15) rfl))) (by decide) (t := .long) (t' := .long) (by decide) (by decide)))
  have F_shift_a1 := F_shift_a1.other W2 (Or.inr (slot_ne (Or.inr (hw _ (List.mem_of_getElem? (i := 22) rfl))) (Or.inr (hw _ (List.mem_of_getElem? (i := 15) rfl))) (by decide) (t := .int) (t' := .long) (by decide) (by decide)))
  refine Jvm.OwnW.aloadN O2 drb_29 rfl rfl (q := 30) rfl ?_
  refine Jvm.OwnW.lloadN O2 drb_30 rfl (q := 31) rfl ?_
  refine Jvm.OwnW.ldcL O2 drb_31 (hw _ (List.mem_of_getElem? (i := 16) rfl)) (q := 34) rfl ?_
  refine Jvm.OwnW.lcmp O2 drb_34 rfl (q := 35) rfl ?_
  refine Jvm.OwnW.ifNo O2 drb_35 (fltL (show ¬ (p2 < (4 : Int64)) from c1)).1 (q := 38) rfl ?_
  refine Jvm.OwnW.lloadN O2 drb_38 rfl (q := 39) rfl ?_
  refine Jvm.OwnW.ldcL O2 drb_39 (hw _ (List.mem_of_getElem? (i := 112) rfl)) (q := 42) rfl ?_
  refine Jvm.OwnW.lcmp O2 drb_42 rfl (q := 43) rfl ?_
  refine Jvm.OwnW.ifNo O2 drb_43 (tltL (show (4611686018427387904 : Int64) < p2 from c2)).2.2.2 (q := 46) rfl ?_
  refine Jvm.OwnW.iconst O2 drb_46 (r := (1 : Int32)) rfl (q := 47) rfl ?_
  refine Jvm.OwnW.goto O2 drb_47 (by decide) (q := 51) rfl ?_
  refine Jvm.OwnW.putF O2 drb_51 (host := "") (Or.inl (hw _ (List.mem_of_getElem? (i := 17) rfl))) Via.refl F_dividesOutright_a1 E_a1 (Or.inr ⟨hw _ (List.mem_of_getElem? (i := 18) rfl), rfl, rfl⟩) (hw _ (List.mem_of_getElem? (i := 6) rfl)) (ty := .boolean) (by decide) rfl rfl (Or.inl (List.mem_cons_self ..)) (q := 54) rfl ?_
  intro T3 h3 O3 W3
  have E_a1 := E_a1.wr W3
  have F_cellCount_a1 := F_cellCount_a1.other W3 (Or.inr (slot_ne (Or.inr (hw _ (List.mem_of_getElem? (i := 15) rfl))) (Or.inr (hw _ (List.mem_of_getElem? (i := 18) rfl))) (by decide) (t := .long) (t' := .boolean) (by decide) (by decide)))
  have F_dividesOutright_a1 := F_dividesOutright_a1.same W3
  have F_reciprocal_a1 := F_reciprocal_a1.other W3 (Or.inr (slot_ne (Or.inr (hw _ (List.mem_of_getElem? (i := 20) rfl))) (Or.inr (hw _ (List.mem_of_getElem? (i := 18) rfl))) (by decide) (t := .long) (t' := .boolean) (by decide) (by decide)))
  have F_shift_a1 := F_shift_a1.other W3 (Or.inr (slot_ne (Or.inr (hw _ (List.mem_of_getElem? (i := 22) rfl))) (Or.inr (hw _ (List.mem_of_getElem? (i := 18) rfl))) (by decide) (t := .int) (t' := .boolean) (by decide) (by decide)))
  refine Jvm.OwnW.aloadN O3 drb_54 rfl rfl (q := 55) rfl ?_
  refine Jvm.OwnW.getF O3 drb_55 (host := "") (Or.inl (hw _ (List.mem_of_getElem? (i := 17) rfl))) Via.refl F_dividesOutright_a1 (q := 58) rfl ?_
  intro T4 O4
  refine Jvm.OwnW.ifNo O4 drb_58 (feq0 (show ¬ ((1 : Int32) = (0 : Int32)) from (by decide))).1 (q := 61) rfl ?_
  refine Jvm.OwnW.aloadN O4 drb_61 rfl rfl (q := 62) rfl ?_
  refine Jvm.OwnW.lconst O4 drb_62 (r := (0 : Int64)) rfl (q := 63) rfl ?_
  refine Jvm.OwnW.putF O4 drb_63 (host := "") (Or.inl (hw _ (List.mem_of_getElem? (i := 19) rfl))) Via.refl F_reciprocal_a1 E_a1 (Or.inr ⟨hw _ (List.mem_of_getElem? (i := 20) rfl), rfl, rfl⟩) (hw _ (List.mem_of_getElem? (i := 6) rfl)) (ty := .long) (by decide) rfl rfl (Or.inl (List.mem_cons_self ..)) (q := 66) rfl ?_
  intro T5 h5 O5 W5
  have E_a1 := E_a1.wr W5
  have F_cellCount_a1 := F_cellCount_a1.other W5 (Or.inr (slot_ne (Or.inr (hw _ (List.mem_of_getElem? (i := 15) rfl))) (Or.inr (hw _ (List.mem_of_getElem? (i := 20) rfl))) (by decide) (t := .long) (t' := .long) (by decide) (by decide)))
  have F_dividesOutright_a1 := F_dividesOutright_a1.other W5 (Or.inr (slot_ne (Or.inr (hw _ (List.mem_of_getElem? (i := 18) rfl))) (Or.inr (hw _ (List.mem_of_getElem? (i := 20) rfl))) (by decide) (t := .boolean) (t' := .long) (by decide) (by decide)))
  have F_reciprocal_a1 := F_reciprocal_a1.same W5
  have F_shift_a1 := F_shift_a1.other W5 (Or.inr (slot_ne (Or.inr (hw _ (List.mem_of_getElem? (i := 22) rfl))) (Or.inr (hw _ (List.mem_of_getElem? (i := 20) rfl))) (by decide) (t := .int) (t' := .long) (by decide) (by decide)))
  refine Jvm.OwnW.aloadN O5 drb_66 rfl rfl (q := 67) rfl ?_
  refine Jvm.OwnW.iconst O5 drb_67 (r := (0 : Int32)) rfl (q := 68) rfl ?_
  refine Jvm.OwnW.putF O5 drb_68 (host := "") (Or.inl (hw _ (List.mem_of_getElem? (i := 21) rfl))) Via.refl F_shift_a1 E_a1 (Or.inr ⟨hw _ (List.mem_of_getElem? (i := 22) rfl), rfl, rfl⟩) (hw _ (List.mem_of_getElem? (i := 6) rfl)) (ty := .int) (by decide) rfl rfl (Or.inl (List.mem_cons_self ..)) (q := 71) rfl ?_
  intro T6 h6 O6 W6
  have E_a1 := E_a1.wr W6
  have F_cellCount_a1 := F_cellCount_a1.other W6 (Or.inr (slot_ne (Or.inr (hw _ (List.mem_of_getElem? (i := 15) rfl))) (Or.inr (hw _ (List.mem_of_getElem? (i := 22) rfl))) (by decide) (t := .long) (t' := .int) (by decide) (by decide)))
  have F_dividesOutright_a1 := F_dividesOutright_a1.other W6 (Or.inr (slot_ne (Or.inr (hw _ (List.mem_of_getElem? (i := 18) rfl))) (Or.inr (hw _ (List.mem_of_getElem? (i := 22) rfl))) (by decide) (t := .boolean) (t' := .int) (by decide) (by decide)))
  have F_reciprocal_a1 := F_reciprocal_a1.other W6 (Or.inr (slot_ne (Or.inr (hw _ (List.mem_of_getElem? (i := 20) rfl))) (Or.inr (hw _ (List.mem_of_getElem? (i := 22) rfl))) (by decide) (t := .long) (t' := .int) (by decide) (by decide)))
  have F_shift_a1 := F_shift_a1.same W6
  refine Jvm.OwnW.goto O6 drb_71 (by decide) (q := 104) rfl ?_
  exact Jvm.OwnW.ret0 O6 drb_104 (by decide) (by decide) ⟨rfl, _, _, _, F_cellCount_a1, F_dividesOutright_a1, F_reciprocal_a1, F_shift_a1, M, hm, hM, Or.inl rfl⟩
theorem pd_2 : parseMethodDescriptor "(J)I" = some ⟨[.long], some .int⟩ := by decide +kernel
theorem pd_3 : parseMethodDescriptor "(IJ)J" = some ⟨[.int, .long], some .long⟩ := by decide +kernel
theorem drc_0 : decode prog_32_method_1_code 0 = .ok (.aload_n 0, 1) := by decide +kernel
theorem drc_1 : decode prog_32_method_1_code 1 = .ok (.invokespecial 1, 3) := by decide +kernel
theorem drc_4 : decode prog_32_method_1_code 4 = .ok (.lload_n 1, 1) := by decide +kernel
theorem drc_5 : decode prog_32_method_1_code 5 = .ok (.lconst 1, 1) := by decide +kernel
theorem drc_6 : decode prog_32_method_1_code 6 = .ok (.lcmp, 1) := by decide +kernel
theorem drc_7 : decode prog_32_method_1_code 7 = .ok (.ifCond .ge 17, 3) := by decide +kernel
theorem drc_24 : decode prog_32_method_1_code 24 = .ok (.aload_n 0, 1) := by decide +kernel
theorem drc_25 : decode prog_32_method_1_code 25 = .ok (.lload_n 1, 1) := by decide +kernel
theorem drc_26 : decode prog_32_method_1_code 26 = .ok (.putfield 16, 3) := by decide +kernel
theorem drc_29 : decode prog_32_method_1_code 29 = .ok (.aload_n 0, 1) := by decide +kernel
theorem drc_30 : decode prog_32_method_1_code 30 = .ok (.lload_n 1, 1) := by decide +kernel
theorem drc_31 : decode prog_32_method_1_code 31 = .ok (.ldc2_w 22, 3) := by decide +kernel
theorem drc_34 : decode prog_32_method_1_code 34 = .ok (.lcmp, 1) := by decide +kernel
theorem drc_35 : decode prog_32_method_1_code 35 = .ok (.ifCond .lt 11, 3) := by decide +kernel
theorem drc_38 : decode prog_32_method_1_code 38 = .ok (.lload_n 1, 1) := by decide +kernel
theorem drc_39 : decode prog_32_method_1_code 39 = .ok (.ldc2_w 24, 3) := by decide +kernel
theorem drc_42 : decode prog_32_method_1_code 42 = .ok (.lcmp, 1) := by decide +kernel
theorem drc_43 : decode prog_32_method_1_code 43 = .ok (.ifCond .le 7, 3) := by decide +kernel
theorem drc_50 : decode prog_32_method_1_code 50 = .ok (.iconst 0, 1) := by decide +kernel
theorem drc_51 : decode prog_32_method_1_code 51 = .ok (.putfield 26, 3) := by decide +kernel
theorem drc_54 : decode prog_32_method_1_code 54 = .ok (.aload_n 0, 1) := by decide +kernel
theorem drc_55 : decode prog_32_method_1_code 55 = .ok (.getfield 26, 3) := by decide +kernel
theorem drc_58 : decode prog_32_method_1_code 58 = .ok (.ifCond .eq 16, 3) := by decide +kernel
theorem drc_74 : decode prog_32_method_1_code 74 = .ok (.bipush 64, 2) := by decide +kernel
theorem drc_76 : decode prog_32_method_1_code 76 = .ok (.lload_n 1, 1) := by decide +kernel
theorem drc_77 : decode prog_32_method_1_code 77 = .ok (.invokestatic 39, 3) := by decide +kernel
theorem drc_80 : decode prog_32_method_1_code 80 = .ok (.isub, 1) := by decide +kernel
theorem drc_81 : decode prog_32_method_1_code 81 = .ok (.istore_n 3, 1) := by decide +kernel
theorem drc_82 : decode prog_32_method_1_code 82 = .ok (.aload_n 0, 1) := by decide +kernel
theorem drc_83 : decode prog_32_method_1_code 83 = .ok (.iload_n 3, 1) := by decide +kernel
theorem drc_84 : decode prog_32_method_1_code 84 = .ok (.iconst 3, 1) := by decide +kernel
theorem drc_85 : decode prog_32_method_1_code 85 = .ok (.isub, 1) := by decide +kernel
theorem drc_86 : decode prog_32_method_1_code 86 = .ok (.putfield 33, 3) := by decide +kernel
theorem drc_89 : decode prog_32_method_1_code 89 = .ok (.aload_n 0, 1) := by decide +kernel
theorem drc_90 : decode prog_32_method_1_code 90 = .ok (.bipush 65, 2) := by decide +kernel
theorem drc_92 : decode prog_32_method_1_code 92 = .ok (.aload_n 0, 1) := by decide +kernel
theorem drc_93 : decode prog_32_method_1_code 93 = .ok (.getfield 33, 3) := by decide +kernel
theorem drc_96 : decode prog_32_method_1_code 96 = .ok (.iadd, 1) := by decide +kernel
theorem drc_97 : decode prog_32_method_1_code 97 = .ok (.lload_n 1, 1) := by decide +kernel
theorem drc_98 : decode prog_32_method_1_code 98 = .ok (.invokestatic 43, 3) := by decide +kernel
theorem drc_101 : decode prog_32_method_1_code 101 = .ok (.putfield 30, 3) := by decide +kernel
theorem drc_104 : decode prog_32_method_1_code 104 = .ok (.return_, 1) := by decide +kernel
theorem ef_rc (a1 : Addr) (p2 : Int64) (m : MethodId) : entryFrame m #[(.ref a1), (.long p2)] 4 = mkF m 0 #[.val (.ref a1), .val (.long p2), .second, .unset] [] := by first | (simp [entryFrame, mkF, argsToLocals, Value.category, maxLocals]; done) | rfl
theorem pn_rc : plainFor (⟨"com/example/occupancy/occupancy/hash/internal/CellRule", "<init>", "(J)V"⟩ : MethodName) = true := by first | exact plainFor_of_name (by first | (simp [plainName, overriddenIn]; done) | decide +kernel) | decide +kernel
set_option maxRecDepth 65536 in
set_option maxHeartbeats 40000000 in
theorem rm_rc (l : Launch) (Z : State) (a0 : Array Value) (hw : ∀ d ∈ tables_1, d.before a0 Z = true) (a1 : Addr) (p2 : Int64) (M : Nat) (h0 : Heap) (E_a1 : Exa Z h0 a1 "com/example/occupancy/occupancy/hash/internal/CellRule") (F_cellCount_a1 : Fld Z h0 a1 "com/example/occupancy/occupancy/hash/internal/CellRule" "cellCount" "J" (.long (0 : Int64))) (F_dividesOutright_a1 : Fld Z h0 a1 "com/example/occupancy/occupancy/hash/internal/CellRule" "dividesOutright" "Z" (.int (0 : Int32))) (F_reciprocal_a1 : Fld Z h0 a1 "com/example/occupancy/occupancy/hash/internal/CellRule" "reciprocal" "J" (.long (0 : Int64))) (F_shift_a1 : Fld Z h0 a1 "com/example/occupancy/occupancy/hash/internal/CellRule" "shift" "I" (.int (0 : Int32))) (hm : p2.toInt = (M : Int)) (hM : 0 < M) (c1 : ¬ p2 < 4) (c2 : ¬ 4611686018427387904 < p2) (h4 : 4 ≤ M) (h62 : M ≤ 4611686018427387904) :
    Met l Z (⟨"com/example/occupancy/occupancy/hash/internal/CellRule", "<init>", "(J)V"⟩ : MethodName) prog_32_method_1_code 4 none [] ({ frames := 2, cells := 0, slots := 0, locals := 39 } : Room) #[(.ref a1), (.long p2)] [a1] h0 (fun v h => v = none ∧ ∃ (d : Int32) (rc : Int64) (sh : Int32), Fld Z h a1 "com/example/occupancy/occupancy/hash/internal/CellRule" "cellCount" "J" (.long p2) ∧ Fld Z h a1 "com/example/occupancy/occupancy/hash/internal/CellRule" "dividesOutright" "Z" (.int d) ∧ Fld Z h a1 "com/example/occupancy/occupancy/hash/internal/CellRule" "reciprocal" "J" (.long rc) ∧ Fld Z h a1 "com/example/occupancy/occupancy/hash/internal/CellRule" "shift" "I" (.int sh) ∧ own_rule p2 d rc sh) := by
  refine Met.mk pn_rc (ef_rc a1 p2) ?_
  intro C T hs0 O
  show Go C [a1] (fun v h => v = none ∧ ∃ (d : Int32) (rc : Int64) (sh : Int32), Fld Z h a1 "com/example/occupancy/occupancy/hash/internal/CellRule" "cellCount" "J" (.long p2) ∧ Fld Z h a1 "com/example/occupancy/occupancy/hash/internal/CellRule" "dividesOutright" "Z" (.int d) ∧ Fld Z h a1 "com/example/occupancy/occupancy/hash/internal/CellRule" "reciprocal" "J" (.long rc) ∧ Fld Z h a1 "com/example/occupancy/occupancy/hash/internal/CellRule" "shift" "I" (.int sh) ∧ own_rule p2 d rc sh) 0 0 (T.setTop (mkF C.m 0 #[.val (.ref a1), .val (.long p2), .second, .unset] []))
  refine Jvm.OwnW.aloadN O drc_0 rfl rfl (q := 1) rfl ?_
  refine Jvm.OwnW.initO O drc_1 (hw _ (List.mem_of_getElem? (i := 11) rfl)) (hw _ (List.mem_of_getElem? (i := 12) rfl)) (hw _ (List.mem_of_getElem? (i := 13) rfl)) rfl (by decide) (W := 0) (Nat.le_of_eq rfl) (by decide) (q := 4) rfl ?_
  intro T1 O1
  refine Jvm.OwnW.lloadN O1 drc_4 rfl (q := 5) rfl ?_
  refine Jvm.OwnW.lconst O1 drc_5 (r := (1 : Int64)) rfl (q := 6) rfl ?_
  refine Jvm.OwnW.lcmp O1 drc_6 rfl (q := 7) rfl ?_
  refine Jvm.OwnW.ifYes O1 drc_7 (fltL (show ¬ (p2 < (1 : Int64)) from nlt64 (by rw [hm]; show (1 : Int) ≤ _; omega))).2.1 (by decide) (q := 24) rfl ?_
  refine Jvm.OwnW.aloadN O1 drc_24 rfl rfl (q := 25) rfl ?_
  refine Jvm.OwnW.lloadN O1 drc_25 rfl (q := 26) rfl ?_
  refine Jvm.OwnW.putF O1 drc_26 (host := "") (Or.inl (hw _ (List.mem_of_getElem? (i := 14) rfl))) Via.refl F_cellCount_a1 E_a1 (Or.inr ⟨hw _ (List.mem_of_getElem? (i := 15) rfl), rfl, rfl⟩) (hw _ (List.mem_of_getElem? (i := 6) rfl)) (ty := .long) (by decide) rfl rfl (Or.inl (List.mem_cons_self ..)) (q := 29) rfl ?_
  intro T2 h2 O2 W2
  have E_a1 := E_a1.wr W2
  have F_cellCount_a1 := F_cellCount_a1.same W2
  have F_dividesOutright_a1 := F_dividesOutright_a1.other W2 (Or.inr (slot_ne (Or.inr (hw _ (List.mem_of_getElem? (i := 18) rfl))) (Or.inr (hw _ (List.mem_of_getElem? (i := 15) rfl))) (by decide) (t := .boolean) (t' := .long) (by decide) (by decide)))
  have F_reciprocal_a1 := F_reciprocal_a1.other W2 (Or.inr (slot_ne (Or.inr (hw _ (List.mem_of_getElem? (i := 20) rfl))) (Or.inr (hw _ (List.mem_of_getElem? (i := 15) rfl))) (by decide) (t := .long) (t' := .long) (by decide) (by decide)))
  have F_shift_a1 := F_shift_a1.other W2 (Or.inr (slot_ne (Or.inr (hw _ (List.mem_of_getElem? (i := 22) rfl))) (Or.inr (hw _ (List.mem_of_getElem? (i := 15) rfl))) (by decide) (t := .int) (t' := .long) (by decide) (by decide)))
  refine Jvm.OwnW.aloadN O2 drc_29 rfl rfl (q := 30) rfl ?_
  refine Jvm.OwnW.lloadN O2 drc_30 rfl (q := 31) rfl ?_
  refine Jvm.OwnW.ldcL O2 drc_31 (hw _ (List.mem_of_getElem? (i := 16) rfl)) (q := 34) rfl ?_
  refine Jvm.OwnW.lcmp O2 drc_34 rfl (q := 35) rfl ?_
  refine Jvm.OwnW.ifNo O2 drc_35 (fltL (show ¬ (p2 < (4 : Int64)) from c1)).1 (q := 38) rfl ?_
  refine Jvm.OwnW.lloadN O2 drc_38 rfl (q := 39) rfl ?_
  refine Jvm.OwnW.ldcL O2 drc_39 (hw _ (List.mem_of_getElem? (i := 112) rfl)) (q := 42) rfl ?_
  refine Jvm.OwnW.lcmp O2 drc_42 rfl (q := 43) rfl ?_
  refine Jvm.OwnW.ifYes O2 drc_43 (fltL (show ¬ ((4611686018427387904 : Int64) < p2) from c2)).2.2.2 (by decide) (q := 50) rfl ?_
  refine Jvm.OwnW.iconst O2 drc_50 (r := (0 : Int32)) rfl (q := 51) rfl ?_
  refine Jvm.OwnW.putF O2 drc_51 (host := "") (Or.inl (hw _ (List.mem_of_getElem? (i := 17) rfl))) Via.refl F_dividesOutright_a1 E_a1 (Or.inr ⟨hw _ (List.mem_of_getElem? (i := 18) rfl), rfl, rfl⟩) (hw _ (List.mem_of_getElem? (i := 6) rfl)) (ty := .boolean) (by decide) rfl rfl (Or.inl (List.mem_cons_self ..)) (q := 54) rfl ?_
  intro T3 h3 O3 W3
  have E_a1 := E_a1.wr W3
  have F_cellCount_a1 := F_cellCount_a1.other W3 (Or.inr (slot_ne (Or.inr (hw _ (List.mem_of_getElem? (i := 15) rfl))) (Or.inr (hw _ (List.mem_of_getElem? (i := 18) rfl))) (by decide) (t := .long) (t' := .boolean) (by decide) (by decide)))
  have F_dividesOutright_a1 := F_dividesOutright_a1.same W3
  have F_reciprocal_a1 := F_reciprocal_a1.other W3 (Or.inr (slot_ne (Or.inr (hw _ (List.mem_of_getElem? (i := 20) rfl))) (Or.inr (hw _ (List.mem_of_getElem? (i := 18) rfl))) (by decide) (t := .long) (t' := .boolean) (by decide) (by decide)))
  have F_shift_a1 := F_shift_a1.other W3 (Or.inr (slot_ne (Or.inr (hw _ (List.mem_of_getElem? (i := 22) rfl))) (Or.inr (hw _ (List.mem_of_getElem? (i := 18) rfl))) (by decide) (t := .int) (t' := .boolean) (by decide) (by decide)))
  refine Jvm.OwnW.aloadN O3 drc_54 rfl rfl (q := 55) rfl ?_
  refine Jvm.OwnW.getF O3 drc_55 (host := "") (Or.inl (hw _ (List.mem_of_getElem? (i := 17) rfl))) Via.refl F_dividesOutright_a1 (q := 58) rfl ?_
  intro T4 O4
  refine Jvm.OwnW.ifYes O4 drc_58 (teq0 (show (0 : Int32) = (0 : Int32) from (by decide))).1 (by decide) (q := 74) rfl ?_
  refine Jvm.OwnW.bipush O4 drc_74 (r := (64 : Int32)) rfl (q := 76) rfl ?_
  refine Jvm.OwnW.lloadN O4 drc_76 rfl (q := 77) rfl ?_
  refine Jvm.OwnW.callS0 O4 (y := (⟨"java/lang/Long", "numberOfLeadingZeros", "(J)I"⟩ : MethodName)) (argsL := [(.long p2)]) (rest := [(.int (64 : Int32))]) drc_77 (hw _ (List.mem_of_getElem? (i := 113) rfl)) (hw _ (List.mem_of_getElem? (i := 114) rfl)) (hw _ (List.mem_of_getElem? (i := 61) rfl)) (hw _ (List.mem_of_getElem? (i := 115) rfl)) (by decide) (rm_y l Z a0 hw p2 h3) rfl pd_2 rfl (hst := rfl) (W := 1) (Nat.le_of_eq rfl) (by decide) (by decide) (c2 := 0) (s2 := 0) rfl rfl (by decide) (by decide) rfl rfl (q := 80) rfl ?_
  intro v5 T5 O5 q5
  obtain rfl := q5
  show Go C _ _ _ _ (T5.setTop (mkF C.m 80 #[.val (.ref a1), .val (.long p2), .second, .unset] [(.int (fn_y p2)), (.int (64 : Int32))]))
  refine Jvm.OwnW.isub O5 drc_80 rfl (q := 81) rfl ?_
  refine Jvm.OwnW.istoreN O5 drc_81 (L' := #[.val (.ref a1), .val (.long p2), .second, .val (.int ((64 : Int32) - (fn_y p2)))]) rfl (q := 82) rfl ?_
  refine Jvm.OwnW.aloadN O5 drc_82 rfl rfl (q := 83) rfl ?_
  refine Jvm.OwnW.iloadN O5 drc_83 rfl (q := 84) rfl ?_
  refine Jvm.OwnW.iconst O5 drc_84 (r := (3 : Int32)) rfl (q := 85) rfl ?_
  obtain ⟨sh, hsh⟩ : ∃ zz_, (((64 : Int32) - (fn_y p2)) - (3 : Int32)) = zz_ := ⟨_, rfl⟩
  refine Jvm.OwnW.isub O5 drc_85 hsh (q := 86) rfl ?_
  obtain ⟨s, hs, hshv, b1, b2⟩ := own_bits hm h4 h62 hsh
  refine Jvm.OwnW.putF O5 drc_86 (host := "") (Or.inl (hw _ (List.mem_of_getElem? (i := 21) rfl))) Via.refl F_shift_a1 E_a1 (Or.inr ⟨hw _ (List.mem_of_getElem? (i := 22) rfl), rfl, rfl⟩) (hw _ (List.mem_of_getElem? (i := 6) rfl)) (ty := .int) (by decide) rfl rfl (Or.inl (List.mem_cons_self ..)) (q := 89) rfl ?_
  intro T6 h6 O6 W6
  have E_a1 := E_a1.wr W6
  have F_cellCount_a1 := F_cellCount_a1.other W6 (Or.inr (slot_ne (Or.inr (hw _ (List.mem_of_getElem? (i := 15) rfl))) (Or.inr (hw _ (List.mem_of_getElem? (i := 22) rfl))) (by decide) (t := .long) (t' := .int) (by decide) (by decide)))
  have F_dividesOutright_a1 := F_dividesOutright_a1.other W6 (Or.inr (slot_ne (Or.inr (hw _ (List.mem_of_getElem? (i := 18) rfl))) (Or.inr (hw _ (List.mem_of_getElem? (i := 22) rfl))) (by decide) (t := .boolean) (t' := .int) (by decide) (by decide)))
  have F_reciprocal_a1 := F_reciprocal_a1.other W6 (Or.inr (slot_ne (Or.inr (hw _ (List.mem_of_getElem? (i := 20) rfl))) (Or.inr (hw _ (List.mem_of_getElem? (i := 22) rfl))) (by decide) (t := .long) (t' := .int) (by decide) (by decide)))
  have F_shift_a1 := F_shift_a1.same W6
  refine Jvm.OwnW.aloadN O6 drc_89 rfl rfl (q := 90) rfl ?_
  refine Jvm.OwnW.bipush O6 drc_90 (r := (65 : Int32)) rfl (q := 92) rfl ?_
  refine Jvm.OwnW.aloadN O6 drc_92 rfl rfl (q := 93) rfl ?_
  refine Jvm.OwnW.getF O6 drc_93 (host := "") (Or.inl (hw _ (List.mem_of_getElem? (i := 21) rfl))) Via.refl F_shift_a1 (q := 96) rfl ?_
  intro T7 O7
  obtain ⟨bb, hbb⟩ : ∃ zz_, ((65 : Int32) + sh) = zz_ := ⟨_, rfl⟩
  refine Jvm.OwnW.iadd O7 drc_96 hbb (q := 97) rfl ?_
  have hbbv : bb.toInt = 65 + (s : Int) := by
    rw [← hbb, Jvm.OwnW.add32 (by rw [hshv]; show _ ≤ (65 : Int) + _; omega) (by rw [hshv]; show (65 : Int) + _ < _; omega), hshv]; rfl
  refine Jvm.OwnW.lloadN O7 drc_97 rfl (q := 98) rfl ?_
  refine Jvm.OwnW.callS0 O7 (y := (⟨"com/example/occupancy/occupancy/hash/internal/CellRule", "onesOver", "(IJ)J"⟩ : MethodName)) (argsL := [(.int bb), (.long p2)]) (rest := [(.ref a1)]) drc_98 (hw _ (List.mem_of_getElem? (i := 121) rfl)) (hw _ (List.mem_of_getElem? (i := 122) rfl)) (hw _ (List.mem_of_getElem? (i := 7) rfl)) (hw _ (List.mem_of_getElem? (i := 123) rfl)) (by decide) (rm_v l Z a0 hw bb p2 M s h6 hm hM hbbv hs b1 h4 h62) rfl pd_3 rfl (hst := rfl) (W := 1) (Nat.le_of_eq rfl) (by decide) (by decide) (c2 := 0) (s2 := 0) rfl rfl (by decide) (by decide) rfl rfl (q := 101) rfl ?_
  intro v8 T8 O8 q8
  obtain ⟨rc, rfl, hrc⟩ := q8
  show Go C _ _ _ _ (T8.setTop (mkF C.m 101 #[.val (.ref a1), .val (.long p2), .second, .val (.int ((64 : Int32) - (fn_y p2)))] [(.long rc), (.ref a1)]))
  refine Jvm.OwnW.putF O8 drc_101 (host := "") (Or.inl (hw _ (List.mem_of_getElem? (i := 19) rfl))) Via.refl F_reciprocal_a1 E_a1 (Or.inr ⟨hw _ (List.mem_of_getElem? (i := 20) rfl), rfl, rfl⟩) (hw _ (List.mem_of_getElem? (i := 6) rfl)) (ty := .long) (by decide) rfl rfl (Or.inl (List.mem_cons_self ..)) (q := 104) rfl ?_
  intro T9 h9 O9 W9
  have E_a1 := E_a1.wr W9
  have F_cellCount_a1 := F_cellCount_a1.other W9 (Or.inr (slot_ne (Or.inr (hw _ (List.mem_of_getElem? (i := 15) rfl))) (Or.inr (hw _ (List.mem_of_getElem? (i := 20) rfl))) (by decide) (t := .long) (t' := .long) (by decide) (by decide)))
  have F_dividesOutright_a1 := F_dividesOutright_a1.other W9 (Or.inr (slot_ne (Or.inr (hw _ (List.mem_of_getElem? (i := 18) rfl))) (Or.inr (hw _ (List.mem_of_getElem? (i := 20) rfl))) (by decide) (t := .boolean) (t' := .long) (by decide) (by decide)))
  have F_reciprocal_a1 := F_reciprocal_a1.same W9
  have F_shift_a1 := F_shift_a1.other W9 (Or.inr (slot_ne (Or.inr (hw _ (List.mem_of_getElem? (i := 22) rfl))) (Or.inr (hw _ (List.mem_of_getElem? (i := 20) rfl))) (by decide) (t := .int) (t' := .long) (by decide) (by decide)))
  exact Jvm.OwnW.ret0 O9 drc_104 (by decide) (by decide) ⟨rfl, _, _, _, F_cellCount_a1, F_dividesOutright_a1, F_reciprocal_a1, F_shift_a1, M, hm, hM, Or.inr ⟨rfl, h4, h62, s, hs, hshv, b1, b2, hrc⟩⟩
theorem rm_r (l : Launch) (Z : State) (a0 : Array Value) (hw : ∀ d ∈ tables_1, d.before a0 Z = true) (a1 : Addr) (p2 : Int64) (M : Nat) (h0 : Heap) (E_a1 : Exa Z h0 a1 "com/example/occupancy/occupancy/hash/internal/CellRule") (F_cellCount_a1 : Fld Z h0 a1 "com/example/occupancy/occupancy/hash/internal/CellRule" "cellCount" "J" (.long (0 : Int64))) (F_dividesOutright_a1 : Fld Z h0 a1 "com/example/occupancy/occupancy/hash/internal/CellRule" "dividesOutright" "Z" (.int (0 : Int32))) (F_reciprocal_a1 : Fld Z h0 a1 "com/example/occupancy/occupancy/hash/internal/CellRule" "reciprocal" "J" (.long (0 : Int64))) (F_shift_a1 : Fld Z h0 a1 "com/example/occupancy/occupancy/hash/internal/CellRule" "shift" "I" (.int (0 : Int32))) (hm : p2.toInt = (M : Int)) (hM : 0 < M) :
    Met l Z (⟨"com/example/occupancy/occupancy/hash/internal/CellRule", "<init>", "(J)V"⟩ : MethodName) prog_32_method_1_code 4 none [] ({ frames := 2, cells := 0, slots := 0, locals := 39 } : Room) #[.ref a1, .long p2] [a1] h0 (fun v h => v = none ∧ ∃ (d : Int32) (rc : Int64) (sh : Int32), Fld Z h a1 "com/example/occupancy/occupancy/hash/internal/CellRule" "cellCount" "J" (.long p2) ∧ Fld Z h a1 "com/example/occupancy/occupancy/hash/internal/CellRule" "dividesOutright" "Z" (.int d) ∧ Fld Z h a1 "com/example/occupancy/occupancy/hash/internal/CellRule" "reciprocal" "J" (.long rc) ∧ Fld Z h a1 "com/example/occupancy/occupancy/hash/internal/CellRule" "shift" "I" (.int sh) ∧ own_rule p2 d rc sh) := by
  by_cases c1 : p2 < 4
  · exact rm_ra l Z a0 hw a1 p2 M h0 E_a1 F_cellCount_a1 F_dividesOutright_a1 F_reciprocal_a1 F_shift_a1 hm hM c1
  · by_cases c2 : 4611686018427387904 < p2
    · exact rm_rb l Z a0 hw a1 p2 M h0 E_a1 F_cellCount_a1 F_dividesOutright_a1 F_reciprocal_a1 F_shift_a1 hm hM c1 c2
    · refine rm_rc l Z a0 hw a1 p2 M h0 E_a1 F_cellCount_a1 F_dividesOutright_a1 F_reciprocal_a1 F_shift_a1 hm hM c1 c2 ?_ ?_
      · rw [Int64.lt_iff_toInt_lt, hm] at c1; have : (4 : Int64).toInt = 4 := rfl; omega
      · rw [Int64.lt_iff_toInt_lt, hm] at c2; have : (4611686018427387904 : Int64).toInt = 4611686018427387904 := rfl; omega
theorem dq_0 : decode jdk_31_method_11_code 0 = .ok (.aload_n 0, 1) := by decide +kernel
theorem dq_1 : decode jdk_31_method_11_code 1 = .ok (.ifnonnull 12, 3) := by decide +kernel
theorem dq_13 : decode jdk_31_method_11_code 13 = .ok (.aload_n 0, 1) := by decide +kernel
theorem dq_14 : decode jdk_31_method_11_code 14 = .ok (.areturn, 1) := by decide +kernel
theorem ef_q (a1 : Addr) (a2 : Addr) (m : MethodId) : entryFrame m #[(.ref a1), (.ref a2)] 2 = mkF m 0 #[.val (.ref a1), .val (.ref a2)] [] := by first | (simp [entryFrame, mkF, argsToLocals, Value.category, maxLocals]; done) | rfl
theorem pn_q : plainFor (⟨"java/util/Objects", "requireNonNull", "(Ljava/lang/Object;Ljava/lang/String;)Ljava/lang/Object;"⟩ : MethodName) = true := by first | exact plainFor_of_name (by first | (simp [plainName, overriddenIn]; done) | decide +kernel) | decide +kernel
set_option maxRecDepth 65536 in
set_option maxHeartbeats 40000000 in
theorem rm_q (l : Launch) (Z : State) (a0 : Array Value) (hw : ∀ d ∈ tables_1, d.before a0 Z = true) (a1 : Addr) (a2 : Addr) (h0 : Heap)  :
    Met l Z (⟨"java/util/Objects", "requireNonNull", "(Ljava/lang/Object;Ljava/lang/String;)Ljava/lang/Object;"⟩ : MethodName) jdk_31_method_11_code 2 (some (.object "java/lang/Object")) [] ({ frames := 0, cells := 0, slots := 0, locals := 0 } : Room) #[(.ref a1), (.ref a2)] [] h0 (fun v h => v = some (.ref a1)) := by
  refine Met.mk pn_q (ef_q a1 a2) ?_
  intro C T hs0 O
  show Go C [] (fun v h => v = some (.ref a1)) 0 0 (T.setTop (mkF C.m 0 #[.val (.ref a1), .val (.ref a2)] []))
  refine Jvm.OwnW.aloadN O dq_0 rfl rfl (q := 1) rfl ?_
  refine Jvm.OwnW.ifnonnullYes O dq_1 (by decide) (q := 13) rfl ?_
  refine Jvm.OwnW.aloadN O dq_13 rfl rfl (q := 14) rfl ?_
  exact Jvm.OwnW.retA O dq_14 rfl rfl (by first | rfl | (cases ((.ref a1)) <;> rfl)) (by decide) (by decide) rfl
theorem dc_0 : decode prog_32_method_2_code 0 = .ok (.aload_n 0, 1) := by decide +kernel
theorem dc_1 : decode prog_32_method_2_code 1 = .ok (.getfield 16, 3) := by decide +kernel
theorem dc_4 : decode prog_32_method_2_code 4 = .ok (.lreturn, 1) := by decide +kernel
theorem ef_c (a1 : Addr) (m : Int64) (m : MethodId) : entryFrame m #[(.ref a1)] 1 = mkF m 0 #[.val (.ref a1)] [] := by first | (simp [entryFrame, mkF, argsToLocals, Value.category, maxLocals]; done) | rfl
theorem pn_c : plainFor (⟨"com/example/occupancy/occupancy/hash/internal/CellRule", "cellCount", "()J"⟩ : MethodName) = true := by first | exact plainFor_of_name (by first | (simp [plainName, overriddenIn]; done) | decide +kernel) | decide +kernel
set_option maxRecDepth 65536 in
set_option maxHeartbeats 40000000 in
theorem rm_c (l : Launch) (Z : State) (a0 : Array Value) (hw : ∀ d ∈ tables_1, d.before a0 Z = true) (a1 : Addr) (m : Int64) (h0 : Heap) (E_a1 : Exa Z h0 a1 "com/example/occupancy/occupancy/hash/internal/CellRule") (F_cellCount_a1 : Fld Z h0 a1 "com/example/occupancy/occupancy/hash/internal/CellRule" "cellCount" "J" (.long m)) :
    Met l Z (⟨"com/example/occupancy/occupancy/hash/internal/CellRule", "cellCount", "()J"⟩ : MethodName) prog_32_method_2_code 1 (some .long) [] ({ frames := 0, cells := 0, slots := 0, locals := 0 } : Room) #[(.ref a1)] [] h0 (fun v h => v = some (.long m)) := by
  refine Met.mk pn_c (ef_c a1 m) ?_
  intro C T hs0 O
  show Go C [] (fun v h => v = some (.long m)) 0 0 (T.setTop (mkF C.m 0 #[.val (.ref a1)] []))
  refine Jvm.OwnW.aloadN O dc_0 rfl rfl (q := 1) rfl ?_
  refine Jvm.OwnW.getF O dc_1 (host := "") (Or.inl (hw _ (List.mem_of_getElem? (i := 14) rfl))) Via.refl F_cellCount_a1 (q := 4) rfl ?_
  intro T1 O1
  exact Jvm.OwnW.retL O1 dc_4 rfl (by decide) (by decide) rfl
theorem do1_0 : decode prog_32_method_7_code 0 = .ok (.aload_n 0, 1) := by decide +kernel
theorem do1_1 : decode prog_32_method_7_code 1 = .ok (.getfield 26, 3) := by decide +kernel
theorem do1_4 : decode prog_32_method_7_code 4 = .ok (.ifCond .eq 15, 3) := by decide +kernel
theorem do1_7 : decode prog_32_method_7_code 7 = .ok (.lload_n 1, 1) := by decide +kernel
theorem do1_8 : decode prog_32_method_7_code 8 = .ok (.aload_n 0, 1) := by decide +kernel
theorem do1_9 : decode prog_32_method_7_code 9 = .ok (.getfield 16, 3) := by decide +kernel
theorem do1_12 : decode prog_32_method_7_code 12 = .ok (.invokestatic 70, 3) := by decide +kernel
theorem do1_15 : decode prog_32_method_7_code 15 = .ok (.lstore_n 3, 1) := by decide +kernel
theorem do1_16 : decode prog_32_method_7_code 16 = .ok (.goto 54, 3) := by decide +kernel
theorem do1_70 : decode prog_32_method_7_code 70 = .ok (.lload_n 3, 1) := by decide +kernel
theorem do1_71 : decode prog_32_method_7_code 71 = .ok (.lreturn, 1) := by decide +kernel
theorem ef_o1 (a1 : Addr) (p2 : Int64) (m rc : Int64) (sh : Int32) (m : MethodId) : entryFrame m #[(.ref a1), (.long p2)] 9 = mkF m 0 #[.val (.ref a1), .val (.long p2), .second, .unset, .unset, .unset, .unset, .unset, .unset] [] := by first | (simp [entryFrame, mkF, argsToLocals, Value.category, maxLocals]; done) | rfl
theorem pn_o1 : plainFor (⟨"com/example/occupancy/occupancy/hash/internal/CellRule", "cellOf", "(J)J"⟩ : MethodName) = true := by first | exact plainFor_of_name (by first | (simp [plainName, overriddenIn]; done) | decide +kernel) | decide +kernel
set_option maxRecDepth 65536 in
set_option maxHeartbeats 40000000 in
theorem rm_o1 (l : Launch) (Z : State) (a0 : Array Value) (hw : ∀ d ∈ tables_1, d.before a0 Z = true) (a1 : Addr) (p2 : Int64) (m rc : Int64) (sh : Int32) (M : Nat) (h0 : Heap) (E_a1 : Exa Z h0 a1 "com/example/occupancy/occupancy/hash/internal/CellRule") (F_cellCount_a1 : Fld Z h0 a1 "com/example/occupancy/occupancy/hash/internal/CellRule" "cellCount" "J" (.long m)) (F_dividesOutright_a1 : Fld Z h0 a1 "com/example/occupancy/occupancy/hash/internal/CellRule" "dividesOutright" "Z" (.int (1 : Int32))) (F_reciprocal_a1 : Fld Z h0 a1 "com/example/occupancy/occupancy/hash/internal/CellRule" "reciprocal" "J" (.long rc)) (F_shift_a1 : Fld Z h0 a1 "com/example/occupancy/occupancy/hash/internal/CellRule" "shift" "I" (.int sh)) (hm : m.toInt = (M : Int)) (hM : 0 < M) :
    Met l Z (⟨"com/example/occupancy/occupancy/hash/internal/CellRule", "cellOf", "(J)J"⟩ : MethodName) prog_32_method_7_code 9 (some .long) [] ({ frames := 1, cells := 0, slots := 0, locals := 31 } : Room) #[(.ref a1), (.long p2)] [] h0 (fun v h => v = some (.long (own_c m p2))) := by
  refine Met.mk pn_o1 (ef_o1 a1 p2 m rc sh) ?_
  intro C T hs0 O
  show Go C [] (fun v h => v = some (.long (own_c m p2))) 0 0 (T.setTop (mkF C.m 0 #[.val (.ref a1), .val (.long p2), .second, .unset, .unset, .unset, .unset, .unset, .unset] []))
  refine Jvm.OwnW.aloadN O do1_0 rfl rfl (q := 1) rfl ?_
  refine Jvm.OwnW.getF O do1_1 (host := "") (Or.inl (hw _ (List.mem_of_getElem? (i := 17) rfl))) Via.refl F_dividesOutright_a1 (q := 4) rfl ?_
  intro T1 O1
  refine Jvm.OwnW.ifNo O1 do1_4 (feq0 (show ¬ ((1 : Int32) = (0 : Int32)) from (by decide))).1 (q := 7) rfl ?_
  refine Jvm.OwnW.lloadN O1 do1_7 rfl (q := 8) rfl ?_
  refine Jvm.OwnW.aloadN O1 do1_8 rfl rfl (q := 9) rfl ?_
  refine Jvm.OwnW.getF O1 do1_9 (host := "") (Or.inl (hw _ (List.mem_of_getElem? (i := 14) rfl))) Via.refl F_cellCount_a1 (q := 12) rfl ?_
  intro T2 O2
  obtain ⟨H4, hH4, -⟩ := own_Uex p2
  refine Jvm.OwnW.callS0 O2 (y := (⟨"java/lang/Long", "remainderUnsigned", "(JJ)J"⟩ : MethodName)) (argsL := [(.long p2), (.long m)]) (rest := []) do1_12 (hw _ (List.mem_of_getElem? (i := 59) rfl)) (hw _ (List.mem_of_getElem? (i := 60) rfl)) (hw _ (List.mem_of_getElem? (i := 61) rfl)) (hw _ (List.mem_of_getElem? (i := 62) rfl)) (by decide) (rm_m l Z a0 hw p2 m H4 M h0 hH4 hm hM) rfl pd_1 rfl (hst := rfl) (W := 0) (Nat.le_of_eq rfl) (by decide) (by decide) (c2 := 0) (s2 := 0) rfl rfl (by decide) (by decide) rfl rfl (q := 15) rfl ?_
  intro v3 T3 O3 q3
  obtain rfl := q3
  show Go C _ _ _ _ (T3.setTop (mkF C.m 15 #[.val (.ref a1), .val (.long p2), .second, .unset, .unset, .unset, .unset, .unset, .unset] [(.long (own_c m p2))]))
  refine Jvm.OwnW.lstoreN O3 do1_15 (L' := #[.val (.ref a1), .val (.long p2), .second, .val (.long (own_c m p2)), .second, .unset, .unset, .unset, .unset]) rfl (q := 16) rfl ?_
  refine Jvm.OwnW.goto O3 do1_16 (by decide) (q := 70) rfl ?_
  refine Jvm.OwnW.lloadN O3 do1_70 rfl (q := 71) rfl ?_
  exact Jvm.OwnW.retL O3 do1_71 rfl (by decide) (by decide) rfl
theorem do0_0 : decode prog_32_method_7_code 0 = .ok (.aload_n 0, 1) := by decide +kernel
theorem do0_1 : decode prog_32_method_7_code 1 = .ok (.getfield 26, 3) := by decide +kernel
theorem do0_4 : decode prog_32_method_7_code 4 = .ok (.ifCond .eq 15, 3) := by decide +kernel
theorem do0_19 : decode prog_32_method_7_code 19 = .ok (.lload_n 1, 1) := by decide +kernel
theorem do0_20 : decode prog_32_method_7_code 20 = .ok (.iconst 1, 1) := by decide +kernel
theorem do0_21 : decode prog_32_method_7_code 21 = .ok (.lushr, 1) := by decide +kernel
theorem do0_22 : decode prog_32_method_7_code 22 = .ok (.aload_n 0, 1) := by decide +kernel
theorem do0_23 : decode prog_32_method_7_code 23 = .ok (.getfield 30, 3) := by decide +kernel
theorem do0_26 : decode prog_32_method_7_code 26 = .ok (.invokestatic 74, 3) := by decide +kernel
theorem do0_29 : decode prog_32_method_7_code 29 = .ok (.aload_n 0, 1) := by decide +kernel
theorem do0_30 : decode prog_32_method_7_code 30 = .ok (.getfield 33, 3) := by decide +kernel
theorem do0_33 : decode prog_32_method_7_code 33 = .ok (.lushr, 1) := by decide +kernel
theorem do0_34 : decode prog_32_method_7_code 34 = .ok (.lstore 5, 2) := by decide +kernel
theorem do0_36 : decode prog_32_method_7_code 36 = .ok (.lload_n 1, 1) := by decide +kernel
theorem do0_37 : decode prog_32_method_7_code 37 = .ok (.lload 5, 2) := by decide +kernel
theorem do0_39 : decode prog_32_method_7_code 39 = .ok (.aload_n 0, 1) := by decide +kernel
theorem do0_40 : decode prog_32_method_7_code 40 = .ok (.getfield 16, 3) := by decide +kernel
theorem do0_43 : decode prog_32_method_7_code 43 = .ok (.lmul, 1) := by decide +kernel
theorem do0_44 : decode prog_32_method_7_code 44 = .ok (.lsub, 1) := by decide +kernel
theorem do0_45 : decode prog_32_method_7_code 45 = .ok (.lstore 7, 2) := by decide +kernel
theorem do0_47 : decode prog_32_method_7_code 47 = .ok (.lload 7, 2) := by decide +kernel
theorem do0_49 : decode prog_32_method_7_code 49 = .ok (.aload_n 0, 1) := by decide +kernel
theorem do0_50 : decode prog_32_method_7_code 50 = .ok (.getfield 16, 3) := by decide +kernel
theorem do0_53 : decode prog_32_method_7_code 53 = .ok (.lcmp, 1) := by decide +kernel
theorem do0_54 : decode prog_32_method_7_code 54 = .ok (.ifCond .ge 8, 3) := by decide +kernel
theorem do0_57 : decode prog_32_method_7_code 57 = .ok (.lload 7, 2) := by decide +kernel
theorem do0_59 : decode prog_32_method_7_code 59 = .ok (.goto 10, 3) := by decide +kernel
theorem do0_62 : decode prog_32_method_7_code 62 = .ok (.lload 7, 2) := by decide +kernel
theorem do0_64 : decode prog_32_method_7_code 64 = .ok (.aload_n 0, 1) := by decide +kernel
theorem do0_65 : decode prog_32_method_7_code 65 = .ok (.getfield 16, 3) := by decide +kernel
theorem do0_68 : decode prog_32_method_7_code 68 = .ok (.lsub, 1) := by decide +kernel
theorem do0_69 : decode prog_32_method_7_code 69 = .ok (.lstore_n 3, 1) := by decide +kernel
theorem do0_70 : decode prog_32_method_7_code 70 = .ok (.lload_n 3, 1) := by decide +kernel
theorem do0_71 : decode prog_32_method_7_code 71 = .ok (.lreturn, 1) := by decide +kernel
theorem ef_o0 (a1 : Addr) (p2 : Int64) (m rc : Int64) (sh : Int32) (m : MethodId) : entryFrame m #[(.ref a1), (.long p2)] 9 = mkF m 0 #[.val (.ref a1), .val (.long p2), .second, .unset, .unset, .unset, .unset, .unset, .unset] [] := by first | (simp [entryFrame, mkF, argsToLocals, Value.category, maxLocals]; done) | rfl
theorem pn_o0 : plainFor (⟨"com/example/occupancy/occupancy/hash/internal/CellRule", "cellOf", "(J)J"⟩ : MethodName) = true := by first | exact plainFor_of_name (by first | (simp [plainName, overriddenIn]; done) | decide +kernel) | decide +kernel
set_option maxRecDepth 65536 in
set_option maxHeartbeats 40000000 in
theorem rm_o0 (l : Launch) (Z : State) (a0 : Array Value) (hw : ∀ d ∈ tables_1, d.before a0 Z = true) (a1 : Addr) (p2 : Int64) (m rc : Int64) (sh : Int32) (M : Nat) (h0 : Heap) (E_a1 : Exa Z h0 a1 "com/example/occupancy/occupancy/hash/internal/CellRule") (F_cellCount_a1 : Fld Z h0 a1 "com/example/occupancy/occupancy/hash/internal/CellRule" "cellCount" "J" (.long m)) (F_dividesOutright_a1 : Fld Z h0 a1 "com/example/occupancy/occupancy/hash/internal/CellRule" "dividesOutright" "Z" (.int (0 : Int32))) (F_reciprocal_a1 : Fld Z h0 a1 "com/example/occupancy/occupancy/hash/internal/CellRule" "reciprocal" "J" (.long rc)) (F_shift_a1 : Fld Z h0 a1 "com/example/occupancy/occupancy/hash/internal/CellRule" "shift" "I" (.int sh)) (hm : m.toInt = (M : Int)) (hM : 0 < M) (hrr : own_recip M rc sh) :
    Met l Z (⟨"com/example/occupancy/occupancy/hash/internal/CellRule", "cellOf", "(J)J"⟩ : MethodName) prog_32_method_7_code 9 (some .long) [] ({ frames := 1, cells := 0, slots := 0, locals := 31 } : Room) #[(.ref a1), (.long p2)] [] h0 (fun v h => v = some (.long (own_c m p2))) := by
  refine Met.mk pn_o0 (ef_o0 a1 p2 m rc sh) ?_
  intro C T hs0 O
  show Go C [] (fun v h => v = some (.long (own_c m p2))) 0 0 (T.setTop (mkF C.m 0 #[.val (.ref a1), .val (.long p2), .second, .unset, .unset, .unset, .unset, .unset, .unset] []))
  refine Jvm.OwnW.aloadN O do0_0 rfl rfl (q := 1) rfl ?_
  refine Jvm.OwnW.getF O do0_1 (host := "") (Or.inl (hw _ (List.mem_of_getElem? (i := 17) rfl))) Via.refl F_dividesOutright_a1 (q := 4) rfl ?_
  intro T1 O1
  refine Jvm.OwnW.ifYes O1 do0_4 (teq0 (show (0 : Int32) = (0 : Int32) from (by decide))).1 (by decide) (q := 19) rfl ?_
  refine Jvm.OwnW.lloadN O1 do0_19 rfl (q := 20) rfl ?_
  refine Jvm.OwnW.iconst O1 do0_20 (r := (1 : Int32)) rfl (q := 21) rfl ?_
  obtain ⟨u, hu⟩ : ∃ zz_, ((p2.toUInt64 >>> ((1 : Int32) &&& 0x3f).toInt64.toUInt64).toInt64) = zz_ := ⟨_, rfl⟩
  refine Jvm.OwnW.lushr O1 do0_21 hu (q := 22) rfl ?_
  obtain ⟨H, hH, lH⟩ := own_Uex p2
  have hu1 : own_U u (H / 2) := hu ▸ own_Uushr hH (q := 1) (k := 1) (by decide) (by decide)
  obtain ⟨h4, h62, s, hs, hsh, b1, b2, hrc⟩ := id hrr
  refine Jvm.OwnW.aloadN O1 do0_22 rfl rfl (q := 23) rfl ?_
  refine Jvm.OwnW.getF O1 do0_23 (host := "") (Or.inl (hw _ (List.mem_of_getElem? (i := 19) rfl))) Via.refl F_reciprocal_a1 (q := 26) rfl ?_
  intro T2 O2
  refine Jvm.OwnW.callS0 O2 (y := (⟨"java/lang/Math", "multiplyHigh", "(JJ)J"⟩ : MethodName)) (argsL := [(.long u), (.long rc)]) (rest := []) do0_26 (hw _ (List.mem_of_getElem? (i := 129) rfl)) (hw _ (List.mem_of_getElem? (i := 130) rfl)) (hw _ (List.mem_of_getElem? (i := 3) rfl)) (hw _ (List.mem_of_getElem? (i := 131) rfl)) (by decide) (rm_h l Z a0 hw u rc _ _ h0 hu1 (by omega) (own_Uof hrc) (own_rlt b1 h4)) rfl pd_1 rfl (hst := rfl) (W := 0) (Nat.le_of_eq rfl) (by decide) (by decide) (c2 := 0) (s2 := 0) rfl rfl (by decide) (by decide) rfl rfl (q := 29) rfl ?_
  intro v3 T3 O3 q3
  obtain ⟨hi, rfl, hhi⟩ := q3
  show Go C _ _ _ _ (T3.setTop (mkF C.m 29 #[.val (.ref a1), .val (.long p2), .second, .unset, .unset, .unset, .unset, .unset, .unset] [(.long hi)]))
  refine Jvm.OwnW.aloadN O3 do0_29 rfl rfl (q := 30) rfl ?_
  refine Jvm.OwnW.getF O3 do0_30 (host := "") (Or.inl (hw _ (List.mem_of_getElem? (i := 21) rfl))) Via.refl F_shift_a1 (q := 33) rfl ?_
  intro T4 O4
  obtain ⟨q, hq⟩ : ∃ zz_, ((hi.toUInt64 >>> (sh &&& 0x3f).toInt64.toUInt64).toInt64) = zz_ := ⟨_, rfl⟩
  refine Jvm.OwnW.lushr O4 do0_33 hq (q := 34) rfl ?_
  refine Jvm.OwnW.lstore O4 do0_34 (L' := #[.val (.ref a1), .val (.long p2), .second, .unset, .unset, .val (.long q), .second, .unset, .unset]) rfl (q := 36) rfl ?_
  refine Jvm.OwnW.lloadN O4 do0_36 rfl (q := 37) rfl ?_
  refine Jvm.OwnW.lload O4 do0_37 rfl (q := 39) rfl ?_
  refine Jvm.OwnW.aloadN O4 do0_39 rfl rfl (q := 40) rfl ?_
  refine Jvm.OwnW.getF O4 do0_40 (host := "") (Or.inl (hw _ (List.mem_of_getElem? (i := 14) rfl))) Via.refl F_cellCount_a1 (q := 43) rfl ?_
  intro T5 O5
  refine Jvm.OwnW.lmul O5 do0_43 rfl (q := 44) rfl ?_
  obtain ⟨r, hr⟩ : ∃ zz_, (p2 - (q * m)) = zz_ := ⟨_, rfl⟩
  refine Jvm.OwnW.lsub O5 do0_44 hr (q := 45) rfl ?_
  obtain ⟨Q0, uq, q1, q2⟩ := own_quo hm hrr hH hrc hhi hq
  have hfin := own_fin hm h4 h62 hH uq q1 q2 hr
  refine Jvm.OwnW.lstore O5 do0_45 (L' := #[.val (.ref a1), .val (.long p2), .second, .unset, .unset, .val (.long q), .second, .val (.long r), .second]) rfl (q := 47) rfl ?_
  refine Jvm.OwnW.lload O5 do0_47 rfl (q := 49) rfl ?_
  refine Jvm.OwnW.aloadN O5 do0_49 rfl rfl (q := 50) rfl ?_
  refine Jvm.OwnW.getF O5 do0_50 (host := "") (Or.inl (hw _ (List.mem_of_getElem? (i := 14) rfl))) Via.refl F_cellCount_a1 (q := 53) rfl ?_
  intro T6 O6
  refine Jvm.OwnW.lcmp O6 do0_53 rfl (q := 54) rfl ?_
  by_cases hc54 : r < m
  · refine Jvm.OwnW.ifNo O6 do0_54 (tltL hc54).2.1 (q := 57) rfl ?_
    refine Jvm.OwnW.lload O6 do0_57 rfl (q := 59) rfl ?_
    refine Jvm.OwnW.goto O6 do0_59 (by decide) (q := 69) rfl ?_
    refine Jvm.OwnW.lstoreN O6 do0_69 (L' := #[.val (.ref a1), .val (.long p2), .second, .val (.long r), .second, .val (.long q), .second, .val (.long r), .second]) rfl (q := 70) rfl ?_
    refine Jvm.OwnW.lloadN O6 do0_70 rfl (q := 71) rfl ?_
    exact Jvm.OwnW.retL O6 do0_71 (show _ = own_c m p2 from hfin.1 hc54) (by decide) (by decide) rfl
  · refine Jvm.OwnW.ifYes O6 do0_54 (fltL hc54).2.1 (by decide) (q := 62) rfl ?_
    refine Jvm.OwnW.lload O6 do0_62 rfl (q := 64) rfl ?_
    refine Jvm.OwnW.aloadN O6 do0_64 rfl rfl (q := 65) rfl ?_
    refine Jvm.OwnW.getF O6 do0_65 (host := "") (Or.inl (hw _ (List.mem_of_getElem? (i := 14) rfl))) Via.refl F_cellCount_a1 (q := 68) rfl ?_
    intro T7 O7
    refine Jvm.OwnW.lsub O7 do0_68 rfl (q := 69) rfl ?_
    refine Jvm.OwnW.lstoreN O7 do0_69 (L' := #[.val (.ref a1), .val (.long p2), .second, .val (.long (r - m)), .second, .val (.long q), .second, .val (.long r), .second]) rfl (q := 70) rfl ?_
    refine Jvm.OwnW.lloadN O7 do0_70 rfl (q := 71) rfl ?_
    exact Jvm.OwnW.retL O7 do0_71 (show _ = own_c m p2 from hfin.2 hc54) (by decide) (by decide) rfl
theorem rm_o (l : Launch) (Z : State) (a0 : Array Value) (hw : ∀ d ∈ tables_1, d.before a0 Z = true) (a1 : Addr) (p2 : Int64) (m rc : Int64) (d sh : Int32) (h0 : Heap) (E_a1 : Exa Z h0 a1 "com/example/occupancy/occupancy/hash/internal/CellRule") (F_cellCount_a1 : Fld Z h0 a1 "com/example/occupancy/occupancy/hash/internal/CellRule" "cellCount" "J" (.long m)) (F_dividesOutright_a1 : Fld Z h0 a1 "com/example/occupancy/occupancy/hash/internal/CellRule" "dividesOutright" "Z" (.int d)) (F_reciprocal_a1 : Fld Z h0 a1 "com/example/occupancy/occupancy/hash/internal/CellRule" "reciprocal" "J" (.long rc)) (F_shift_a1 : Fld Z h0 a1 "com/example/occupancy/occupancy/hash/internal/CellRule" "shift" "I" (.int sh)) (hrule : own_rule m d rc sh) :
    Met l Z (⟨"com/example/occupancy/occupancy/hash/internal/CellRule", "cellOf", "(J)J"⟩ : MethodName) prog_32_method_7_code 9 (some .long) [] ({ frames := 1, cells := 0, slots := 0, locals := 31 } : Room) #[.ref a1, .long p2] [] h0 (fun v h => v = some (.long (own_c m p2))) := by
  obtain ⟨M, hm, hM, rfl | ⟨rfl, hrr⟩⟩ := hrule
  · exact rm_o1 l Z a0 hw a1 p2 m rc sh M h0 E_a1 F_cellCount_a1 F_dividesOutright_a1 F_reciprocal_a1 F_shift_a1 hm hM
  · exact rm_o0 l Z a0 hw a1 p2 m rc sh M h0 E_a1 F_cellCount_a1 F_dividesOutright_a1 F_reciprocal_a1 F_shift_a1 hm hM hrr
theorem pd_4 : parseMethodDescriptor "(J)J" = some ⟨[.long], some .long⟩ := by decide +kernel
theorem ds1_0 : decode prog_32_method_8_code 0 = .ok (.aload_n 0, 1) := by decide +kernel
theorem ds1_1 : decode prog_32_method_8_code 1 = .ok (.getfield 26, 3) := by decide +kernel
theorem ds1_4 : decode prog_32_method_8_code 4 = .ok (.ifCond .eq 33, 3) := by decide +kernel
theorem ds1_7 : decode prog_32_method_8_code 7 = .ok (.iconst 0, 1) := by decide +kernel
theorem ds1_8 : decode prog_32_method_8_code 8 = .ok (.istore 4, 2) := by decide +kernel
theorem ds1_10 : decode prog_32_method_8_code 10 = .ok (.iload 4, 2) := by decide +kernel
theorem ds1_12 : decode prog_32_method_8_code 12 = .ok (.iload_n 3, 1) := by decide +kernel
theorem ds1_13 : decode prog_32_method_8_code 13 = .ok (.if_icmp .ge 21, 3) := by decide +kernel
theorem ds1_16 : decode prog_32_method_8_code 16 = .ok (.aload_n 2, 1) := by decide +kernel
theorem ds1_17 : decode prog_32_method_8_code 17 = .ok (.iload 4, 2) := by decide +kernel
theorem ds1_19 : decode prog_32_method_8_code 19 = .ok (.aload_n 0, 1) := by decide +kernel
theorem ds1_20 : decode prog_32_method_8_code 20 = .ok (.aload_n 1, 1) := by decide +kernel
theorem ds1_21 : decode prog_32_method_8_code 21 = .ok (.iload 4, 2) := by decide +kernel
theorem ds1_23 : decode prog_32_method_8_code 23 = .ok (.laload, 1) := by decide +kernel
theorem ds1_24 : decode prog_32_method_8_code 24 = .ok (.invokevirtual 56, 3) := by decide +kernel
theorem ds1_27 : decode prog_32_method_8_code 27 = .ok (.lastore, 1) := by decide +kernel
theorem ds1_28 : decode prog_32_method_8_code 28 = .ok (.iinc 4 1, 3) := by decide +kernel
theorem ds1_31 : decode prog_32_method_8_code 31 = .ok (.goto (-21), 3) := by decide +kernel
theorem ds1_34 : decode prog_32_method_8_code 34 = .ok (.goto 168, 3) := by decide +kernel
theorem ds1_202 : decode prog_32_method_8_code 202 = .ok (.return_, 1) := by decide +kernel
theorem ef_s1 (a1 : Addr) (ai : Addr) (ao : Addr) (m rc : Int64) (sh : Int32) (x0 x1 u0 u1 : Int64) (m : MethodId) : entryFrame m #[(.ref a1), (.ref ai), (.ref ao), (.int (2 : Int32))] 20 = mkF m 0 #[.val (.ref a1), .val (.ref ai), .val (.ref ao), .val (.int (2 : Int32)), .unset, .unset, .unset, .unset, .unset, .unset, .unset, .unset, .unset, .unset, .unset, .unset, .unset, .unset, .unset, .unset] [] := by first | (simp [entryFrame, mkF, argsToLocals, Value.category, maxLocals]; done) | rfl
theorem pn_s1 : plainFor (⟨"com/example/occupancy/occupancy/hash/internal/CellRule", "cellsOf", "([J[JI)V"⟩ : MethodName) = true := by first | exact plainFor_of_name (by first | (simp [plainName, overriddenIn]; done) | decide +kernel) | decide +kernel
set_option maxRecDepth 65536 in
set_option maxHeartbeats 40000000 in
theorem rm_s1 (l : Launch) (Z : State) (a0 : Array Value) (hw : ∀ d ∈ tables_1, d.before a0 Z = true) (a1 : Addr) (ai : Addr) (ao : Addr) (m rc : Int64) (sh : Int32) (x0 x1 u0 u1 : Int64) (M : Nat) (h0 : Heap) (E_a1 : Exa Z h0 a1 "com/example/occupancy/occupancy/hash/internal/CellRule") (F_cellCount_a1 : Fld Z h0 a1 "com/example/occupancy/occupancy/hash/internal/CellRule" "cellCount" "J" (.long m)) (F_dividesOutright_a1 : Fld Z h0 a1 "com/example/occupancy/occupancy/hash/internal/CellRule" "dividesOutright" "Z" (.int (1 : Int32))) (F_reciprocal_a1 : Fld Z h0 a1 "com/example/occupancy/occupancy/hash/internal/CellRule" "reciprocal" "J" (.long rc)) (F_shift_a1 : Fld Z h0 a1 "com/example/occupancy/occupancy/hash/internal/CellRule" "shift" "I" (.int sh)) (V_ai : Ar Z h0 ai .long 2 (lf [.long x0, .long x1])) (V_ao : Ar Z h0 ao .long 2 (lf [.long u0, .long u1])) (nio : ai ≠ ao) (nro : a1 ≠ ao) (hm : m.toInt = (M : Int)) (hM : 0 < M) :
    Met l Z (⟨"com/example/occupancy/occupancy/hash/internal/CellRule", "cellsOf", "([J[JI)V"⟩ : MethodName) prog_32_method_8_code 20 none [] ({ frames := 2, cells := 0, slots := 0, locals := 53 } : Room) #[(.ref a1), (.ref ai), (.ref ao), (.int (2 : Int32))] [ao] h0 (fun v h => v = none ∧ Ar Z h ao .long 2 (lf [.long (own_c m x0), .long (own_c m x1)])) := by
  refine Met.mk pn_s1 (ef_s1 a1 ai ao m rc sh x0 x1 u0 u1) ?_
  intro C T hs0 O
  show Go C [ao] (fun v h => v = none ∧ Ar Z h ao .long 2 (lf [.long (own_c m x0), .long (own_c m x1)])) 0 0 (T.setTop (mkF C.m 0 #[.val (.ref a1), .val (.ref ai), .val (.ref ao), .val (.int (2 : Int32)), .unset, .unset, .unset, .unset, .unset, .unset, .unset, .unset, .unset, .unset, .unset, .unset, .unset, .unset, .unset, .unset] []))
  refine Jvm.OwnW.aloadN O ds1_0 rfl rfl (q := 1) rfl ?_
  refine Jvm.OwnW.getF O ds1_1 (host := "") (Or.inl (hw _ (List.mem_of_getElem? (i := 17) rfl))) Via.refl F_dividesOutright_a1 (q := 4) rfl ?_
  intro T1 O1
  refine Jvm.OwnW.ifNo O1 ds1_4 (feq0 (show ¬ ((1 : Int32) = (0 : Int32)) from (by decide))).1 (q := 7) rfl ?_
  refine Jvm.OwnW.iconst O1 ds1_7 (r := (0 : Int32)) rfl (q := 8) rfl ?_
  refine Jvm.OwnW.istore O1 ds1_8 (L' := #[.val (.ref a1), .val (.ref ai), .val (.ref ao), .val (.int (2 : Int32)), .val (.int (0 : Int32)), .unset, .unset, .unset, .unset, .unset, .unset, .unset, .unset, .unset, .unset, .unset, .unset, .unset, .unset, .unset]) rfl (q := 10) rfl ?_
  refine Jvm.OwnW.iload O1 ds1_10 rfl (q := 12) rfl ?_
  refine Jvm.OwnW.iloadN O1 ds1_12 rfl (q := 13) rfl ?_
  refine Jvm.OwnW.icmpNo O1 ds1_13 (tlt (show (0 : Int32) < (2 : Int32) from (by decide))).2.1 (q := 16) rfl ?_
  refine Jvm.OwnW.aloadN O1 ds1_16 rfl rfl (q := 17) rfl ?_
  refine Jvm.OwnW.iload O1 ds1_17 rfl (q := 19) rfl ?_
  refine Jvm.OwnW.aloadN O1 ds1_19 rfl rfl (q := 20) rfl ?_
  refine Jvm.OwnW.aloadN O1 ds1_20 rfl rfl (q := 21) rfl ?_
  refine Jvm.OwnW.iload O1 ds1_21 rfl (q := 23) rfl ?_
  refine Jvm.OwnW.lalA O1 ds1_23 V_ai (i := 0) rfl (by decide) (v := (.long x0)) rfl (q := 24) rfl ?_
  refine Jvm.OwnW.callV0 O1 (y := (⟨"com/example/occupancy/occupancy/hash/internal/CellRule", "cellOf", "(J)J"⟩ : MethodName)) (z := (⟨"com/example/occupancy/occupancy/hash/internal/CellRule", "cellOf", "(J)J"⟩ : MethodName)) (a := a1) (argsL := [(.long x0)]) (rest := [(.int (0 : Int32)), (.ref ao)]) ds1_24 (hw _ (List.mem_of_getElem? (i := 99) rfl)) (hw _ (List.mem_of_getElem? (i := 55) rfl)) (hw _ (List.mem_of_getElem? (i := 57) rfl)) rfl (hw _ (List.mem_of_getElem? (i := 56) rfl)) (hw _ (List.mem_of_getElem? (i := 7) rfl)) (hw _ (List.mem_of_getElem? (i := 58) rfl)) (by decide) (rm_o l Z a0 hw a1 x0 m rc (1 : Int32) sh h0 E_a1 F_cellCount_a1 F_dividesOutright_a1 F_reciprocal_a1 F_shift_a1 ⟨M, hm, hM, Or.inl rfl⟩) E_a1 rfl pd_4 rfl (hst := rfl) (W := 2) (Nat.le_of_eq rfl) (by decide) (by decide) (c2 := 0) (s2 := 0) rfl rfl (by decide) (by decide) rfl rfl (q := 27) rfl ?_
  intro v2 T2 O2 q2
  obtain rfl := q2
  show Go C _ _ _ _ (T2.setTop (mkF C.m 27 #[.val (.ref a1), .val (.ref ai), .val (.ref ao), .val (.int (2 : Int32)), .val (.int (0 : Int32)), .unset, .unset, .unset, .unset, .unset, .unset, .unset, .unset, .unset, .unset, .unset, .unset, .unset, .unset, .unset] [(.long (own_c m x0)), (.int (0 : Int32)), (.ref ao)]))
  refine Jvm.OwnW.lasA O2 ds1_27 V_ao (i := 0) rfl (by decide) (Or.inl (List.mem_cons_self ..)) (q := 28) rfl ?_
  intro T3 h3 O3 W3
  have V_ao : Ar Z h3 ao .long 2 (lf [(.long (own_c m x0)), (.long u1)]) := V_ao.setL W3 (by decide) (Nat.le_of_ble_eq_true rfl)
  have E_a1 := E_a1.wr W3
  have F_cellCount_a1 := F_cellCount_a1.other W3 (Or.inl nro)
  have F_dividesOutright_a1 := F_dividesOutright_a1.other W3 (Or.inl nro)
  have F_reciprocal_a1 := F_reciprocal_a1.other W3 (Or.inl nro)
  have F_shift_a1 := F_shift_a1.other W3 (Or.inl nro)
  have V_ai := V_ai.other W3 nio
  refine Jvm.OwnW.iinc O3 ds1_28 rfl (L' := #[.val (.ref a1), .val (.ref ai), .val (.ref ao), .val (.int (2 : Int32)), .val (.int (1 : Int32)), .unset, .unset, .unset, .unset, .unset, .unset, .unset, .unset, .unset, .unset, .unset, .unset, .unset, .unset, .unset]) rfl (q := 31) rfl ?_
  refine Jvm.OwnW.goto O3 ds1_31 (by decide) (q := 10) rfl ?_
  refine Jvm.OwnW.iload O3 ds1_10 rfl (q := 12) rfl ?_
  refine Jvm.OwnW.iloadN O3 ds1_12 rfl (q := 13) rfl ?_
  refine Jvm.OwnW.icmpNo O3 ds1_13 (tlt (show (1 : Int32) < (2 : Int32) from (by decide))).2.1 (q := 16) rfl ?_
  refine Jvm.OwnW.aloadN O3 ds1_16 rfl rfl (q := 17) rfl ?_
  refine Jvm.OwnW.iload O3 ds1_17 rfl (q := 19) rfl ?_
  refine Jvm.OwnW.aloadN O3 ds1_19 rfl rfl (q := 20) rfl ?_
  refine Jvm.OwnW.aloadN O3 ds1_20 rfl rfl (q := 21) rfl ?_
  refine Jvm.OwnW.iload O3 ds1_21 rfl (q := 23) rfl ?_
  refine Jvm.OwnW.lalA O3 ds1_23 V_ai (i := 1) rfl (by decide) (v := (.long x1)) rfl (q := 24) rfl ?_
  refine Jvm.OwnW.callV0 O3 (y := (⟨"com/example/occupancy/occupancy/hash/internal/CellRule", "cellOf", "(J)J"⟩ : MethodName)) (z := (⟨"com/example/occupancy/occupancy/hash/internal/CellRule", "cellOf", "(J)J"⟩ : MethodName)) (a := a1) (argsL := [(.long x1)]) (rest := [(.int (1 : Int32)), (.ref ao)]) ds1_24 (hw _ (List.mem_of_getElem? (i := 99) rfl)) (hw _ (List.mem_of_getElem? (i := 55) rfl)) (hw _ (List.mem_of_getElem? (i := 57) rfl)) rfl (hw _ (List.mem_of_getElem? (i := 56) rfl)) (hw _ (List.mem_of_getElem? (i := 7) rfl)) (hw _ (List.mem_of_getElem? (i := 58) rfl)) (by decide) (rm_o l Z a0 hw a1 x1 m rc (1 : Int32) sh h3 E_a1 F_cellCount_a1 F_dividesOutright_a1 F_reciprocal_a1 F_shift_a1 ⟨M, hm, hM, Or.inl rfl⟩) E_a1 rfl pd_4 rfl (hst := rfl) (W := 2) (Nat.le_of_eq rfl) (by decide) (by decide) (c2 := 0) (s2 := 0) rfl rfl (by decide) (by decide) rfl rfl (q := 27) rfl ?_
  intro v4 T4 O4 q4
  obtain rfl := q4
  show Go C _ _ _ _ (T4.setTop (mkF C.m 27 #[.val (.ref a1), .val (.ref ai), .val (.ref ao), .val (.int (2 : Int32)), .val (.int (1 : Int32)), .unset, .unset, .unset, .unset, .unset, .unset, .unset, .unset, .unset, .unset, .unset, .unset, .unset, .unset, .unset] [(.long (own_c m x1)), (.int (1 : Int32)), (.ref ao)]))
  refine Jvm.OwnW.lasA O4 ds1_27 V_ao (i := 1) rfl (by decide) (Or.inl (List.mem_cons_self ..)) (q := 28) rfl ?_
  intro T5 h5 O5 W5
  have V_ao : Ar Z h5 ao .long 2 (lf [(.long (own_c m x0)), (.long (own_c m x1))]) := V_ao.setL W5 (by decide) (Nat.le_of_ble_eq_true rfl)
  have E_a1 := E_a1.wr W5
  have F_cellCount_a1 := F_cellCount_a1.other W5 (Or.inl nro)
  have F_dividesOutright_a1 := F_dividesOutright_a1.other W5 (Or.inl nro)
  have F_reciprocal_a1 := F_reciprocal_a1.other W5 (Or.inl nro)
  have F_shift_a1 := F_shift_a1.other W5 (Or.inl nro)
  have V_ai := V_ai.other W5 nio
  refine Jvm.OwnW.iinc O5 ds1_28 rfl (L' := #[.val (.ref a1), .val (.ref ai), .val (.ref ao), .val (.int (2 : Int32)), .val (.int (2 : Int32)), .unset, .unset, .unset, .unset, .unset, .unset, .unset, .unset, .unset, .unset, .unset, .unset, .unset, .unset, .unset]) rfl (q := 31) rfl ?_
  refine Jvm.OwnW.goto O5 ds1_31 (by decide) (q := 10) rfl ?_
  refine Jvm.OwnW.iload O5 ds1_10 rfl (q := 12) rfl ?_
  refine Jvm.OwnW.iloadN O5 ds1_12 rfl (q := 13) rfl ?_
  refine Jvm.OwnW.icmpYes O5 ds1_13 (flt (show ¬ ((2 : Int32) < (2 : Int32)) from (by decide))).2.1 (by decide) (q := 34) rfl ?_
  refine Jvm.OwnW.goto O5 ds1_34 (by decide) (q := 202) rfl ?_
  exact Jvm.OwnW.ret0 O5 ds1_202 (by decide) (by decide) ⟨rfl, V_ao⟩
theorem ds0_0 : decode prog_32_method_8_code 0 = .ok (.aload_n 0, 1) := by decide +kernel
theorem ds0_1 : decode prog_32_method_8_code 1 = .ok (.getfield 26, 3) := by decide +kernel
theorem ds0_4 : decode prog_32_method_8_code 4 = .ok (.ifCond .eq 33, 3) := by decide +kernel
theorem ds0_37 : decode prog_32_method_8_code 37 = .ok (.aload_n 0, 1) := by decide +kernel
theorem ds0_38 : decode prog_32_method_8_code 38 = .ok (.getfield 16, 3) := by decide +kernel
theorem ds0_41 : decode prog_32_method_8_code 41 = .ok (.lstore 4, 2) := by decide +kernel
theorem ds0_43 : decode prog_32_method_8_code 43 = .ok (.aload_n 0, 1) := by decide +kernel
theorem ds0_44 : decode prog_32_method_8_code 44 = .ok (.getfield 33, 3) := by decide +kernel
theorem ds0_47 : decode prog_32_method_8_code 47 = .ok (.istore 6, 2) := by decide +kernel
theorem ds0_49 : decode prog_32_method_8_code 49 = .ok (.aload_n 0, 1) := by decide +kernel
theorem ds0_50 : decode prog_32_method_8_code 50 = .ok (.getfield 30, 3) := by decide +kernel
theorem ds0_53 : decode prog_32_method_8_code 53 = .ok (.ldc2_w 79, 3) := by decide +kernel
theorem ds0_56 : decode prog_32_method_8_code 56 = .ok (.land, 1) := by decide +kernel
theorem ds0_57 : decode prog_32_method_8_code 57 = .ok (.lstore 7, 2) := by decide +kernel
theorem ds0_59 : decode prog_32_method_8_code 59 = .ok (.aload_n 0, 1) := by decide +kernel
theorem ds0_60 : decode prog_32_method_8_code 60 = .ok (.getfield 30, 3) := by decide +kernel
theorem ds0_63 : decode prog_32_method_8_code 63 = .ok (.bipush 32, 2) := by decide +kernel
theorem ds0_65 : decode prog_32_method_8_code 65 = .ok (.lushr, 1) := by decide +kernel
theorem ds0_66 : decode prog_32_method_8_code 66 = .ok (.lstore 9, 2) := by decide +kernel
theorem ds0_68 : decode prog_32_method_8_code 68 = .ok (.iconst 0, 1) := by decide +kernel
theorem ds0_69 : decode prog_32_method_8_code 69 = .ok (.istore 11, 2) := by decide +kernel
theorem ds0_71 : decode prog_32_method_8_code 71 = .ok (.iload 11, 2) := by decide +kernel
theorem ds0_73 : decode prog_32_method_8_code 73 = .ok (.iload_n 3, 1) := by decide +kernel
theorem ds0_74 : decode prog_32_method_8_code 74 = .ok (.if_icmp .ge 63, 3) := by decide +kernel
theorem ds0_77 : decode prog_32_method_8_code 77 = .ok (.aload_n 1, 1) := by decide +kernel
theorem ds0_78 : decode prog_32_method_8_code 78 = .ok (.iload 11, 2) := by decide +kernel
theorem ds0_80 : decode prog_32_method_8_code 80 = .ok (.laload, 1) := by decide +kernel
theorem ds0_81 : decode prog_32_method_8_code 81 = .ok (.iconst 1, 1) := by decide +kernel
theorem ds0_82 : decode prog_32_method_8_code 82 = .ok (.lushr, 1) := by decide +kernel
theorem ds0_83 : decode prog_32_method_8_code 83 = .ok (.lstore 12, 2) := by decide +kernel
theorem ds0_85 : decode prog_32_method_8_code 85 = .ok (.lload 12, 2) := by decide +kernel
theorem ds0_87 : decode prog_32_method_8_code 87 = .ok (.ldc2_w 79, 3) := by decide +kernel
theorem ds0_90 : decode prog_32_method_8_code 90 = .ok (.land, 1) := by decide +kernel
theorem ds0_91 : decode prog_32_method_8_code 91 = .ok (.lstore 14, 2) := by decide +kernel
theorem ds0_93 : decode prog_32_method_8_code 93 = .ok (.lload 12, 2) := by decide +kernel
theorem ds0_95 : decode prog_32_method_8_code 95 = .ok (.bipush 32, 2) := by decide +kernel
theorem ds0_97 : decode prog_32_method_8_code 97 = .ok (.lushr, 1) := by decide +kernel
theorem ds0_98 : decode prog_32_method_8_code 98 = .ok (.lstore 16, 2) := by decide +kernel
theorem ds0_100 : decode prog_32_method_8_code 100 = .ok (.lload 16, 2) := by decide +kernel
theorem ds0_102 : decode prog_32_method_8_code 102 = .ok (.lload 7, 2) := by decide +kernel
theorem ds0_104 : decode prog_32_method_8_code 104 = .ok (.lmul, 1) := by decide +kernel
theorem ds0_105 : decode prog_32_method_8_code 105 = .ok (.lload 14, 2) := by decide +kernel
theorem ds0_107 : decode prog_32_method_8_code 107 = .ok (.lload 9, 2) := by decide +kernel
theorem ds0_109 : decode prog_32_method_8_code 109 = .ok (.lmul, 1) := by decide +kernel
theorem ds0_110 : decode prog_32_method_8_code 110 = .ok (.ladd, 1) := by decide +kernel
theorem ds0_111 : decode prog_32_method_8_code 111 = .ok (.lstore 18, 2) := by decide +kernel
theorem ds0_113 : decode prog_32_method_8_code 113 = .ok (.aload_n 2, 1) := by decide +kernel
theorem ds0_114 : decode prog_32_method_8_code 114 = .ok (.iload 11, 2) := by decide +kernel
theorem ds0_116 : decode prog_32_method_8_code 116 = .ok (.lload 16, 2) := by decide +kernel
theorem ds0_118 : decode prog_32_method_8_code 118 = .ok (.lload 9, 2) := by decide +kernel
theorem ds0_120 : decode prog_32_method_8_code 120 = .ok (.lmul, 1) := by decide +kernel
theorem ds0_121 : decode prog_32_method_8_code 121 = .ok (.lload 18, 2) := by decide +kernel
theorem ds0_123 : decode prog_32_method_8_code 123 = .ok (.bipush 32, 2) := by decide +kernel
theorem ds0_125 : decode prog_32_method_8_code 125 = .ok (.lushr, 1) := by decide +kernel
theorem ds0_126 : decode prog_32_method_8_code 126 = .ok (.ladd, 1) := by decide +kernel
theorem ds0_127 : decode prog_32_method_8_code 127 = .ok (.iload 6, 2) := by decide +kernel
theorem ds0_129 : decode prog_32_method_8_code 129 = .ok (.lushr, 1) := by decide +kernel
theorem ds0_130 : decode prog_32_method_8_code 130 = .ok (.lastore, 1) := by decide +kernel
theorem ds0_131 : decode prog_32_method_8_code 131 = .ok (.iinc 11 1, 3) := by decide +kernel
theorem ds0_134 : decode prog_32_method_8_code 134 = .ok (.goto (-63), 3) := by decide +kernel
theorem ds0_137 : decode prog_32_method_8_code 137 = .ok (.iconst 0, 1) := by decide +kernel
theorem ds0_138 : decode prog_32_method_8_code 138 = .ok (.istore 11, 2) := by decide +kernel
theorem ds0_140 : decode prog_32_method_8_code 140 = .ok (.iload 11, 2) := by decide +kernel
theorem ds0_142 : decode prog_32_method_8_code 142 = .ok (.iload_n 3, 1) := by decide +kernel
theorem ds0_143 : decode prog_32_method_8_code 143 = .ok (.if_icmp .ge 59, 3) := by decide +kernel
theorem ds0_146 : decode prog_32_method_8_code 146 = .ok (.aload_n 1, 1) := by decide +kernel
theorem ds0_147 : decode prog_32_method_8_code 147 = .ok (.iload 11, 2) := by decide +kernel
theorem ds0_149 : decode prog_32_method_8_code 149 = .ok (.laload, 1) := by decide +kernel
theorem ds0_150 : decode prog_32_method_8_code 150 = .ok (.aload_n 2, 1) := by decide +kernel
theorem ds0_151 : decode prog_32_method_8_code 151 = .ok (.iload 11, 2) := by decide +kernel
theorem ds0_153 : decode prog_32_method_8_code 153 = .ok (.laload, 1) := by decide +kernel
theorem ds0_154 : decode prog_32_method_8_code 154 = .ok (.lload 4, 2) := by decide +kernel
theorem ds0_156 : decode prog_32_method_8_code 156 = .ok (.lmul, 1) := by decide +kernel
theorem ds0_157 : decode prog_32_method_8_code 157 = .ok (.lsub, 1) := by decide +kernel
theorem ds0_158 : decode prog_32_method_8_code 158 = .ok (.lload 4, 2) := by decide +kernel
theorem ds0_160 : decode prog_32_method_8_code 160 = .ok (.lsub, 1) := by decide +kernel
theorem ds0_161 : decode prog_32_method_8_code 161 = .ok (.lstore 12, 2) := by decide +kernel
theorem ds0_163 : decode prog_32_method_8_code 163 = .ok (.lload 12, 2) := by decide +kernel
theorem ds0_165 : decode prog_32_method_8_code 165 = .ok (.lload 12, 2) := by decide +kernel
theorem ds0_167 : decode prog_32_method_8_code 167 = .ok (.bipush 63, 2) := by decide +kernel
theorem ds0_169 : decode prog_32_method_8_code 169 = .ok (.lushr, 1) := by decide +kernel
theorem ds0_170 : decode prog_32_method_8_code 170 = .ok (.lneg, 1) := by decide +kernel
theorem ds0_171 : decode prog_32_method_8_code 171 = .ok (.lload 4, 2) := by decide +kernel
theorem ds0_173 : decode prog_32_method_8_code 173 = .ok (.land, 1) := by decide +kernel
theorem ds0_174 : decode prog_32_method_8_code 174 = .ok (.ladd, 1) := by decide +kernel
theorem ds0_175 : decode prog_32_method_8_code 175 = .ok (.lload 4, 2) := by decide +kernel
theorem ds0_177 : decode prog_32_method_8_code 177 = .ok (.lsub, 1) := by decide +kernel
theorem ds0_178 : decode prog_32_method_8_code 178 = .ok (.lstore 14, 2) := by decide +kernel
theorem ds0_180 : decode prog_32_method_8_code 180 = .ok (.aload_n 2, 1) := by decide +kernel
theorem ds0_181 : decode prog_32_method_8_code 181 = .ok (.iload 11, 2) := by decide +kernel
theorem ds0_183 : decode prog_32_method_8_code 183 = .ok (.lload 14, 2) := by decide +kernel
theorem ds0_185 : decode prog_32_method_8_code 185 = .ok (.lload 14, 2) := by decide +kernel
theorem ds0_187 : decode prog_32_method_8_code 187 = .ok (.bipush 63, 2) := by decide +kernel
theorem ds0_189 : decode prog_32_method_8_code 189 = .ok (.lushr, 1) := by decide +kernel
theorem ds0_190 : decode prog_32_method_8_code 190 = .ok (.lneg, 1) := by decide +kernel
theorem ds0_191 : decode prog_32_method_8_code 191 = .ok (.lload 4, 2) := by decide +kernel
theorem ds0_193 : decode prog_32_method_8_code 193 = .ok (.land, 1) := by decide +kernel
theorem ds0_194 : decode prog_32_method_8_code 194 = .ok (.ladd, 1) := by decide +kernel
theorem ds0_195 : decode prog_32_method_8_code 195 = .ok (.lastore, 1) := by decide +kernel
theorem ds0_196 : decode prog_32_method_8_code 196 = .ok (.iinc 11 1, 3) := by decide +kernel
theorem ds0_199 : decode prog_32_method_8_code 199 = .ok (.goto (-59), 3) := by decide +kernel
theorem ds0_202 : decode prog_32_method_8_code 202 = .ok (.return_, 1) := by decide +kernel
theorem ef_s0 (a1 : Addr) (ai : Addr) (ao : Addr) (m rc : Int64) (sh : Int32) (x0 x1 u0 u1 : Int64) (m : MethodId) : entryFrame m #[(.ref a1), (.ref ai), (.ref ao), (.int (2 : Int32))] 20 = mkF m 0 #[.val (.ref a1), .val (.ref ai), .val (.ref ao), .val (.int (2 : Int32)), .unset, .unset, .unset, .unset, .unset, .unset, .unset, .unset, .unset, .unset, .unset, .unset, .unset, .unset, .unset, .unset] [] := by first | (simp [entryFrame, mkF, argsToLocals, Value.category, maxLocals]; done) | rfl
theorem pn_s0 : plainFor (⟨"com/example/occupancy/occupancy/hash/internal/CellRule", "cellsOf", "([J[JI)V"⟩ : MethodName) = true := by first | exact plainFor_of_name (by first | (simp [plainName, overriddenIn]; done) | decide +kernel) | decide +kernel
set_option maxRecDepth 65536 in
set_option maxHeartbeats 40000000 in
theorem rm_s0 (l : Launch) (Z : State) (a0 : Array Value) (hw : ∀ d ∈ tables_1, d.before a0 Z = true) (a1 : Addr) (ai : Addr) (ao : Addr) (m rc : Int64) (sh : Int32) (x0 x1 u0 u1 : Int64) (M : Nat) (h0 : Heap) (E_a1 : Exa Z h0 a1 "com/example/occupancy/occupancy/hash/internal/CellRule") (F_cellCount_a1 : Fld Z h0 a1 "com/example/occupancy/occupancy/hash/internal/CellRule" "cellCount" "J" (.long m)) (F_dividesOutright_a1 : Fld Z h0 a1 "com/example/occupancy/occupancy/hash/internal/CellRule" "dividesOutright" "Z" (.int (0 : Int32))) (F_reciprocal_a1 : Fld Z h0 a1 "com/example/occupancy/occupancy/hash/internal/CellRule" "reciprocal" "J" (.long rc)) (F_shift_a1 : Fld Z h0 a1 "com/example/occupancy/occupancy/hash/internal/CellRule" "shift" "I" (.int sh)) (V_ai : Ar Z h0 ai .long 2 (lf [.long x0, .long x1])) (V_ao : Ar Z h0 ao .long 2 (lf [.long u0, .long u1])) (nio : ai ≠ ao) (nro : a1 ≠ ao) (hm : m.toInt = (M : Int)) (hM : 0 < M) (hrr : own_recip M rc sh) :
    Met l Z (⟨"com/example/occupancy/occupancy/hash/internal/CellRule", "cellsOf", "([J[JI)V"⟩ : MethodName) prog_32_method_8_code 20 none [] ({ frames := 2, cells := 0, slots := 0, locals := 53 } : Room) #[(.ref a1), (.ref ai), (.ref ao), (.int (2 : Int32))] [ao] h0 (fun v h => v = none ∧ Ar Z h ao .long 2 (lf [.long (own_c m x0), .long (own_c m x1)])) := by
  refine Met.mk pn_s0 (ef_s0 a1 ai ao m rc sh x0 x1 u0 u1) ?_
  intro C T hs0 O
  show Go C [ao] (fun v h => v = none ∧ Ar Z h ao .long 2 (lf [.long (own_c m x0), .long (own_c m x1)])) 0 0 (T.setTop (mkF C.m 0 #[.val (.ref a1), .val (.ref ai), .val (.ref ao), .val (.int (2 : Int32)), .unset, .unset, .unset, .unset, .unset, .unset, .unset, .unset, .unset, .unset, .unset, .unset, .unset, .unset, .unset, .unset] []))
  refine Jvm.OwnW.aloadN O ds0_0 rfl rfl (q := 1) rfl ?_
  refine Jvm.OwnW.getF O ds0_1 (host := "") (Or.inl (hw _ (List.mem_of_getElem? (i := 17) rfl))) Via.refl F_dividesOutright_a1 (q := 4) rfl ?_
  intro T1 O1
  refine Jvm.OwnW.ifYes O1 ds0_4 (teq0 (show (0 : Int32) = (0 : Int32) from (by decide))).1 (by decide) (q := 37) rfl ?_
  obtain ⟨h4, h62, s, hs, hsh, b1, b2, hrc⟩ := id hrr
  refine Jvm.OwnW.aloadN O1 ds0_37 rfl rfl (q := 38) rfl ?_
  refine Jvm.OwnW.getF O1 ds0_38 (host := "") (Or.inl (hw _ (List.mem_of_getElem? (i := 14) rfl))) Via.refl F_cellCount_a1 (q := 41) rfl ?_
  intro T2 O2
  refine Jvm.OwnW.lstore O2 ds0_41 (L' := #[.val (.ref a1), .val (.ref ai), .val (.ref ao), .val (.int (2 : Int32)), .val (.long m), .second, .unset, .unset, .unset, .unset, .unset, .unset, .unset, .unset, .unset, .unset, .unset, .unset, .unset, .unset]) rfl (q := 43) rfl ?_
  refine Jvm.OwnW.aloadN O2 ds0_43 rfl rfl (q := 44) rfl ?_
  refine Jvm.OwnW.getF O2 ds0_44 (host := "") (Or.inl (hw _ (List.mem_of_getElem? (i := 21) rfl))) Via.refl F_shift_a1 (q := 47) rfl ?_
  intro T3 O3
  refine Jvm.OwnW.istore O3 ds0_47 (L' := #[.val (.ref a1), .val (.ref ai), .val (.ref ao), .val (.int (2 : Int32)), .val (.long m), .second, .val (.int sh), .unset, .unset, .unset, .unset, .unset, .unset, .unset, .unset, .unset, .unset, .unset, .unset, .unset]) rfl (q := 49) rfl ?_
  refine Jvm.OwnW.aloadN O3 ds0_49 rfl rfl (q := 50) rfl ?_
  refine Jvm.OwnW.getF O3 ds0_50 (host := "") (Or.inl (hw _ (List.mem_of_getElem? (i := 19) rfl))) Via.refl F_reciprocal_a1 (q := 53) rfl ?_
  intro T4 O4
  refine Jvm.OwnW.ldcL O4 ds0_53 (hw _ (List.mem_of_getElem? (i := 133) rfl)) (q := 56) rfl ?_
  obtain ⟨rlo, hrlo⟩ : ∃ zz_, (rc &&& (4294967295 : Int64)) = zz_ := ⟨_, rfl⟩
  refine Jvm.OwnW.land O4 ds0_56 hrlo (q := 57) rfl ?_
  refine Jvm.OwnW.lstore O4 ds0_57 (L' := #[.val (.ref a1), .val (.ref ai), .val (.ref ao), .val (.int (2 : Int32)), .val (.long m), .second, .val (.int sh), .val (.long rlo), .second, .unset, .unset, .unset, .unset, .unset, .unset, .unset, .unset, .unset, .unset, .unset]) rfl (q := 59) rfl ?_
  refine Jvm.OwnW.aloadN O4 ds0_59 rfl rfl (q := 60) rfl ?_
  refine Jvm.OwnW.getF O4 ds0_60 (host := "") (Or.inl (hw _ (List.mem_of_getElem? (i := 19) rfl))) Via.refl F_reciprocal_a1 (q := 63) rfl ?_
  intro T5 O5
  refine Jvm.OwnW.bipush O5 ds0_63 (r := (32 : Int32)) rfl (q := 65) rfl ?_
  obtain ⟨rhi, hrhi⟩ : ∃ zz_, ((rc.toUInt64 >>> ((32 : Int32) &&& 0x3f).toInt64.toUInt64).toInt64) = zz_ := ⟨_, rfl⟩
  refine Jvm.OwnW.lushr O5 ds0_65 hrhi (q := 66) rfl ?_
  refine Jvm.OwnW.lstore O5 ds0_66 (L' := #[.val (.ref a1), .val (.ref ai), .val (.ref ao), .val (.int (2 : Int32)), .val (.long m), .second, .val (.int sh), .val (.long rlo), .second, .val (.long rhi), .second, .unset, .unset, .unset, .unset, .unset, .unset, .unset, .unset, .unset]) rfl (q := 68) rfl ?_
  refine Jvm.OwnW.iconst O5 ds0_68 (r := (0 : Int32)) rfl (q := 69) rfl ?_
  refine Jvm.OwnW.istore O5 ds0_69 (L' := #[.val (.ref a1), .val (.ref ai), .val (.ref ao), .val (.int (2 : Int32)), .val (.long m), .second, .val (.int sh), .val (.long rlo), .second, .val (.long rhi), .second, .val (.int (0 : Int32)), .unset, .unset, .unset, .unset, .unset, .unset, .unset, .unset]) rfl (q := 71) rfl ?_
  refine Jvm.OwnW.iload O5 ds0_71 rfl (q := 73) rfl ?_
  refine Jvm.OwnW.iloadN O5 ds0_73 rfl (q := 74) rfl ?_
  refine Jvm.OwnW.icmpNo O5 ds0_74 (tlt (show (0 : Int32) < (2 : Int32) from (by decide))).2.1 (q := 77) rfl ?_
  refine Jvm.OwnW.aloadN O5 ds0_77 rfl rfl (q := 78) rfl ?_
  refine Jvm.OwnW.iload O5 ds0_78 rfl (q := 80) rfl ?_
  refine Jvm.OwnW.lalA O5 ds0_80 V_ai (i := 0) rfl (by decide) (v := (.long x0)) rfl (q := 81) rfl ?_
  refine Jvm.OwnW.iconst O5 ds0_81 (r := (1 : Int32)) rfl (q := 82) rfl ?_
  obtain ⟨xh0, hxh0⟩ : ∃ zz_, ((x0.toUInt64 >>> ((1 : Int32) &&& 0x3f).toInt64.toUInt64).toInt64) = zz_ := ⟨_, rfl⟩
  refine Jvm.OwnW.lushr O5 ds0_82 hxh0 (q := 83) rfl ?_
  refine Jvm.OwnW.lstore O5 ds0_83 (L' := #[.val (.ref a1), .val (.ref ai), .val (.ref ao), .val (.int (2 : Int32)), .val (.long m), .second, .val (.int sh), .val (.long rlo), .second, .val (.long rhi), .second, .val (.int (0 : Int32)), .val (.long xh0), .second, .unset, .unset, .unset, .unset, .unset, .unset]) rfl (q := 85) rfl ?_
  refine Jvm.OwnW.lload O5 ds0_85 rfl (q := 87) rfl ?_
  refine Jvm.OwnW.ldcL O5 ds0_87 (hw _ (List.mem_of_getElem? (i := 133) rfl)) (q := 90) rfl ?_
  obtain ⟨lo0, hlo0⟩ : ∃ zz_, (xh0 &&& (4294967295 : Int64)) = zz_ := ⟨_, rfl⟩
  refine Jvm.OwnW.land O5 ds0_90 hlo0 (q := 91) rfl ?_
  refine Jvm.OwnW.lstore O5 ds0_91 (L' := #[.val (.ref a1), .val (.ref ai), .val (.ref ao), .val (.int (2 : Int32)), .val (.long m), .second, .val (.int sh), .val (.long rlo), .second, .val (.long rhi), .second, .val (.int (0 : Int32)), .val (.long xh0), .second, .val (.long lo0), .second, .unset, .unset, .unset, .unset]) rfl (q := 93) rfl ?_
  refine Jvm.OwnW.lload O5 ds0_93 rfl (q := 95) rfl ?_
  refine Jvm.OwnW.bipush O5 ds0_95 (r := (32 : Int32)) rfl (q := 97) rfl ?_
  obtain ⟨hi0, hhi0⟩ : ∃ zz_, ((xh0.toUInt64 >>> ((32 : Int32) &&& 0x3f).toInt64.toUInt64).toInt64) = zz_ := ⟨_, rfl⟩
  refine Jvm.OwnW.lushr O5 ds0_97 hhi0 (q := 98) rfl ?_
  refine Jvm.OwnW.lstore O5 ds0_98 (L' := #[.val (.ref a1), .val (.ref ai), .val (.ref ao), .val (.int (2 : Int32)), .val (.long m), .second, .val (.int sh), .val (.long rlo), .second, .val (.long rhi), .second, .val (.int (0 : Int32)), .val (.long xh0), .second, .val (.long lo0), .second, .val (.long hi0), .second, .unset, .unset]) rfl (q := 100) rfl ?_
  refine Jvm.OwnW.lload O5 ds0_100 rfl (q := 102) rfl ?_
  refine Jvm.OwnW.lload O5 ds0_102 rfl (q := 104) rfl ?_
  refine Jvm.OwnW.lmul O5 ds0_104 rfl (q := 105) rfl ?_
  refine Jvm.OwnW.lload O5 ds0_105 rfl (q := 107) rfl ?_
  refine Jvm.OwnW.lload O5 ds0_107 rfl (q := 109) rfl ?_
  refine Jvm.OwnW.lmul O5 ds0_109 rfl (q := 110) rfl ?_
  obtain ⟨mi0, hmi0⟩ : ∃ zz_, ((hi0 * rlo) + (lo0 * rhi)) = zz_ := ⟨_, rfl⟩
  refine Jvm.OwnW.ladd O5 ds0_110 hmi0 (q := 111) rfl ?_
  refine Jvm.OwnW.lstore O5 ds0_111 (L' := #[.val (.ref a1), .val (.ref ai), .val (.ref ao), .val (.int (2 : Int32)), .val (.long m), .second, .val (.int sh), .val (.long rlo), .second, .val (.long rhi), .second, .val (.int (0 : Int32)), .val (.long xh0), .second, .val (.long lo0), .second, .val (.long hi0), .second, .val (.long mi0), .second]) rfl (q := 113) rfl ?_
  refine Jvm.OwnW.aloadN O5 ds0_113 rfl rfl (q := 114) rfl ?_
  refine Jvm.OwnW.iload O5 ds0_114 rfl (q := 116) rfl ?_
  refine Jvm.OwnW.lload O5 ds0_116 rfl (q := 118) rfl ?_
  refine Jvm.OwnW.lload O5 ds0_118 rfl (q := 120) rfl ?_
  refine Jvm.OwnW.lmul O5 ds0_120 rfl (q := 121) rfl ?_
  refine Jvm.OwnW.lload O5 ds0_121 rfl (q := 123) rfl ?_
  refine Jvm.OwnW.bipush O5 ds0_123 (r := (32 : Int32)) rfl (q := 125) rfl ?_
  refine Jvm.OwnW.lushr O5 ds0_125 rfl (q := 126) rfl ?_
  refine Jvm.OwnW.ladd O5 ds0_126 rfl (q := 127) rfl ?_
  refine Jvm.OwnW.iload O5 ds0_127 rfl (q := 129) rfl ?_
  obtain ⟨q0, hq0⟩ : ∃ zz_, ((((hi0 * rhi) + ((mi0.toUInt64 >>> ((32 : Int32) &&& 0x3f).toInt64.toUInt64).toInt64)).toUInt64 >>> (sh &&& 0x3f).toInt64.toUInt64).toInt64) = zz_ := ⟨_, rfl⟩
  refine Jvm.OwnW.lushr O5 ds0_129 hq0 (q := 130) rfl ?_
  obtain ⟨H0, hH0, lH0⟩ := own_Uex x0
  obtain ⟨Q0, uq0, qa0, qb0⟩ := own_q' hrr hH0 hrc hxh0 hlo0 hhi0 hrlo hrhi hmi0 hq0
  refine Jvm.OwnW.lasA O5 ds0_130 V_ao (i := 0) rfl (by decide) (Or.inl (List.mem_cons_self ..)) (q := 131) rfl ?_
  intro T6 h6 O6 W6
  have V_ao : Ar Z h6 ao .long 2 (lf [(.long q0), (.long u1)]) := V_ao.setL W6 (by decide) (Nat.le_of_ble_eq_true rfl)
  have E_a1 := E_a1.wr W6
  have F_cellCount_a1 := F_cellCount_a1.other W6 (Or.inl nro)
  have F_dividesOutright_a1 := F_dividesOutright_a1.other W6 (Or.inl nro)
  have F_reciprocal_a1 := F_reciprocal_a1.other W6 (Or.inl nro)
  have F_shift_a1 := F_shift_a1.other W6 (Or.inl nro)
  have V_ai := V_ai.other W6 nio
  refine Jvm.OwnW.iinc O6 ds0_131 rfl (L' := #[.val (.ref a1), .val (.ref ai), .val (.ref ao), .val (.int (2 : Int32)), .val (.long m), .second, .val (.int sh), .val (.long rlo), .second, .val (.long rhi), .second, .val (.int (1 : Int32)), .val (.long xh0), .second, .val (.long lo0), .second, .val (.long hi0), .second, .val (.long mi0), .second]) rfl (q := 134) rfl ?_
  refine Jvm.OwnW.goto O6 ds0_134 (by decide) (q := 71) rfl ?_
  refine Jvm.OwnW.iload O6 ds0_71 rfl (q := 73) rfl ?_
  refine Jvm.OwnW.iloadN O6 ds0_73 rfl (q := 74) rfl ?_
  refine Jvm.OwnW.icmpNo O6 ds0_74 (tlt (show (1 : Int32) < (2 : Int32) from (by decide))).2.1 (q := 77) rfl ?_
  refine Jvm.OwnW.aloadN O6 ds0_77 rfl rfl (q := 78) rfl ?_
  refine Jvm.OwnW.iload O6 ds0_78 rfl (q := 80) rfl ?_
  refine Jvm.OwnW.lalA O6 ds0_80 V_ai (i := 1) rfl (by decide) (v := (.long x1)) rfl (q := 81) rfl ?_
  refine Jvm.OwnW.iconst O6 ds0_81 (r := (1 : Int32)) rfl (q := 82) rfl ?_
  obtain ⟨xh1, hxh1⟩ : ∃ zz_, ((x1.toUInt64 >>> ((1 : Int32) &&& 0x3f).toInt64.toUInt64).toInt64) = zz_ := ⟨_, rfl⟩
  refine Jvm.OwnW.lushr O6 ds0_82 hxh1 (q := 83) rfl ?_
  refine Jvm.OwnW.lstore O6 ds0_83 (L' := #[.val (.ref a1), .val (.ref ai), .val (.ref ao), .val (.int (2 : Int32)), .val (.long m), .second, .val (.int sh), .val (.long rlo), .second, .val (.long rhi), .second, .val (.int (1 : Int32)), .val (.long xh1), .second, .val (.long lo0), .second, .val (.long hi0), .second, .val (.long mi0), .second]) rfl (q := 85) rfl ?_
  refine Jvm.OwnW.lload O6 ds0_85 rfl (q := 87) rfl ?_
  refine Jvm.OwnW.ldcL O6 ds0_87 (hw _ (List.mem_of_getElem? (i := 133) rfl)) (q := 90) rfl ?_
  obtain ⟨lo1, hlo1⟩ : ∃ zz_, (xh1 &&& (4294967295 : Int64)) = zz_ := ⟨_, rfl⟩
  refine Jvm.OwnW.land O6 ds0_90 hlo1 (q := 91) rfl ?_
  refine Jvm.OwnW.lstore O6 ds0_91 (L' := #[.val (.ref a1), .val (.ref ai), .val (.ref ao), .val (.int (2 : Int32)), .val (.long m), .second, .val (.int sh), .val (.long rlo), .second, .val (.long rhi), .second, .val (.int (1 : Int32)), .val (.long xh1), .second, .val (.long lo1), .second, .val (.long hi0), .second, .val (.long mi0), .second]) rfl (q := 93) rfl ?_
  refine Jvm.OwnW.lload O6 ds0_93 rfl (q := 95) rfl ?_
  refine Jvm.OwnW.bipush O6 ds0_95 (r := (32 : Int32)) rfl (q := 97) rfl ?_
  obtain ⟨hi1, hhi1⟩ : ∃ zz_, ((xh1.toUInt64 >>> ((32 : Int32) &&& 0x3f).toInt64.toUInt64).toInt64) = zz_ := ⟨_, rfl⟩
  refine Jvm.OwnW.lushr O6 ds0_97 hhi1 (q := 98) rfl ?_
  refine Jvm.OwnW.lstore O6 ds0_98 (L' := #[.val (.ref a1), .val (.ref ai), .val (.ref ao), .val (.int (2 : Int32)), .val (.long m), .second, .val (.int sh), .val (.long rlo), .second, .val (.long rhi), .second, .val (.int (1 : Int32)), .val (.long xh1), .second, .val (.long lo1), .second, .val (.long hi1), .second, .val (.long mi0), .second]) rfl (q := 100) rfl ?_
  refine Jvm.OwnW.lload O6 ds0_100 rfl (q := 102) rfl ?_
  refine Jvm.OwnW.lload O6 ds0_102 rfl (q := 104) rfl ?_
  refine Jvm.OwnW.lmul O6 ds0_104 rfl (q := 105) rfl ?_
  refine Jvm.OwnW.lload O6 ds0_105 rfl (q := 107) rfl ?_
  refine Jvm.OwnW.lload O6 ds0_107 rfl (q := 109) rfl ?_
  refine Jvm.OwnW.lmul O6 ds0_109 rfl (q := 110) rfl ?_
  obtain ⟨mi1, hmi1⟩ : ∃ zz_, ((hi1 * rlo) + (lo1 * rhi)) = zz_ := ⟨_, rfl⟩
  refine Jvm.OwnW.ladd O6 ds0_110 hmi1 (q := 111) rfl ?_
  refine Jvm.OwnW.lstore O6 ds0_111 (L' := #[.val (.ref a1), .val (.ref ai), .val (.ref ao), .val (.int (2 : Int32)), .val (.long m), .second, .val (.int sh), .val (.long rlo), .second, .val (.long rhi), .second, .val (.int (1 : Int32)), .val (.long xh1), .second, .val (.long lo1), .second, .val (.long hi1), .second, .val (.long mi1), .second]) rfl (q := 113) rfl ?_
  refine Jvm.OwnW.aloadN O6 ds0_113 rfl rfl (q := 114) rfl ?_
  refine Jvm.OwnW.iload O6 ds0_114 rfl (q := 116) rfl ?_
  refine Jvm.OwnW.lload O6 ds0_116 rfl (q := 118) rfl ?_
  refine Jvm.OwnW.lload O6 ds0_118 rfl (q := 120) rfl ?_
  refine Jvm.OwnW.lmul O6 ds0_120 rfl (q := 121) rfl ?_
  refine Jvm.OwnW.lload O6 ds0_121 rfl (q := 123) rfl ?_
  refine Jvm.OwnW.bipush O6 ds0_123 (r := (32 : Int32)) rfl (q := 125) rfl ?_
  refine Jvm.OwnW.lushr O6 ds0_125 rfl (q := 126) rfl ?_
  refine Jvm.OwnW.ladd O6 ds0_126 rfl (q := 127) rfl ?_
  refine Jvm.OwnW.iload O6 ds0_127 rfl (q := 129) rfl ?_
  obtain ⟨q1, hq1⟩ : ∃ zz_, ((((hi1 * rhi) + ((mi1.toUInt64 >>> ((32 : Int32) &&& 0x3f).toInt64.toUInt64).toInt64)).toUInt64 >>> (sh &&& 0x3f).toInt64.toUInt64).toInt64) = zz_ := ⟨_, rfl⟩
  refine Jvm.OwnW.lushr O6 ds0_129 hq1 (q := 130) rfl ?_
  obtain ⟨H1, hH1, lH1⟩ := own_Uex x1
  obtain ⟨Q1, uq1, qa1, qb1⟩ := own_q' hrr hH1 hrc hxh1 hlo1 hhi1 hrlo hrhi hmi1 hq1
  refine Jvm.OwnW.lasA O6 ds0_130 V_ao (i := 1) rfl (by decide) (Or.inl (List.mem_cons_self ..)) (q := 131) rfl ?_
  intro T7 h7 O7 W7
  have V_ao : Ar Z h7 ao .long 2 (lf [(.long q0), (.long q1)]) := V_ao.setL W7 (by decide) (Nat.le_of_ble_eq_true rfl)
  have E_a1 := E_a1.wr W7
  have F_cellCount_a1 := F_cellCount_a1.other W7 (Or.inl nro)
  have F_dividesOutright_a1 := F_dividesOutright_a1.other W7 (Or.inl nro)
  have F_reciprocal_a1 := F_reciprocal_a1.other W7 (Or.inl nro)
  have F_shift_a1 := F_shift_a1.other W7 (Or.inl nro)
  have V_ai := V_ai.other W7 nio
  refine Jvm.OwnW.iinc O7 ds0_131 rfl (L' := #[.val (.ref a1), .val (.ref ai), .val (.ref ao), .val (.int (2 : Int32)), .val (.long m), .second, .val (.int sh), .val (.long rlo), .second, .val (.long rhi), .second, .val (.int (2 : Int32)), .val (.long xh1), .second, .val (.long lo1), .second, .val (.long hi1), .second, .val (.long mi1), .second]) rfl (q := 134) rfl ?_
  refine Jvm.OwnW.goto O7 ds0_134 (by decide) (q := 71) rfl ?_
  refine Jvm.OwnW.iload O7 ds0_71 rfl (q := 73) rfl ?_
  refine Jvm.OwnW.iloadN O7 ds0_73 rfl (q := 74) rfl ?_
  refine Jvm.OwnW.icmpYes O7 ds0_74 (flt (show ¬ ((2 : Int32) < (2 : Int32)) from (by decide))).2.1 (by decide) (q := 137) rfl ?_
  refine Jvm.OwnW.iconst O7 ds0_137 (r := (0 : Int32)) rfl (q := 138) rfl ?_
  refine Jvm.OwnW.istore O7 ds0_138 (L' := #[.val (.ref a1), .val (.ref ai), .val (.ref ao), .val (.int (2 : Int32)), .val (.long m), .second, .val (.int sh), .val (.long rlo), .second, .val (.long rhi), .second, .val (.int (0 : Int32)), .val (.long xh1), .second, .val (.long lo1), .second, .val (.long hi1), .second, .val (.long mi1), .second]) rfl (q := 140) rfl ?_
  refine Jvm.OwnW.iload O7 ds0_140 rfl (q := 142) rfl ?_
  refine Jvm.OwnW.iloadN O7 ds0_142 rfl (q := 143) rfl ?_
  refine Jvm.OwnW.icmpNo O7 ds0_143 (tlt (show (0 : Int32) < (2 : Int32) from (by decide))).2.1 (q := 146) rfl ?_
  refine Jvm.OwnW.aloadN O7 ds0_146 rfl rfl (q := 147) rfl ?_
  refine Jvm.OwnW.iload O7 ds0_147 rfl (q := 149) rfl ?_
  refine Jvm.OwnW.lalA O7 ds0_149 V_ai (i := 0) rfl (by decide) (v := (.long x0)) rfl (q := 150) rfl ?_
  refine Jvm.OwnW.aloadN O7 ds0_150 rfl rfl (q := 151) rfl ?_
  refine Jvm.OwnW.iload O7 ds0_151 rfl (q := 153) rfl ?_
  refine Jvm.OwnW.lalA O7 ds0_153 V_ao (i := 0) rfl (by decide) (v := (.long q0)) rfl (q := 154) rfl ?_
  refine Jvm.OwnW.lload O7 ds0_154 rfl (q := 156) rfl ?_
  refine Jvm.OwnW.lmul O7 ds0_156 rfl (q := 157) rfl ?_
  refine Jvm.OwnW.lsub O7 ds0_157 rfl (q := 158) rfl ?_
  refine Jvm.OwnW.lload O7 ds0_158 rfl (q := 160) rfl ?_
  obtain ⟨y0, hy0⟩ : ∃ zz_, ((x0 - (q0 * m)) - m) = zz_ := ⟨_, rfl⟩
  refine Jvm.OwnW.lsub O7 ds0_160 hy0 (q := 161) rfl ?_
  refine Jvm.OwnW.lstore O7 ds0_161 (L' := #[.val (.ref a1), .val (.ref ai), .val (.ref ao), .val (.int (2 : Int32)), .val (.long m), .second, .val (.int sh), .val (.long rlo), .second, .val (.long rhi), .second, .val (.int (0 : Int32)), .val (.long y0), .second, .val (.long lo1), .second, .val (.long hi1), .second, .val (.long mi1), .second]) rfl (q := 163) rfl ?_
  refine Jvm.OwnW.lload O7 ds0_163 rfl (q := 165) rfl ?_
  refine Jvm.OwnW.lload O7 ds0_165 rfl (q := 167) rfl ?_
  refine Jvm.OwnW.bipush O7 ds0_167 (r := (63 : Int32)) rfl (q := 169) rfl ?_
  refine Jvm.OwnW.lushr O7 ds0_169 rfl (q := 170) rfl ?_
  refine Jvm.OwnW.lneg O7 ds0_170 rfl (q := 171) rfl ?_
  refine Jvm.OwnW.lload O7 ds0_171 rfl (q := 173) rfl ?_
  refine Jvm.OwnW.land O7 ds0_173 rfl (q := 174) rfl ?_
  refine Jvm.OwnW.ladd O7 ds0_174 rfl (q := 175) rfl ?_
  refine Jvm.OwnW.lload O7 ds0_175 rfl (q := 177) rfl ?_
  obtain ⟨z0, hz0⟩ : ∃ zz_, ((y0 + ((-((y0.toUInt64 >>> ((63 : Int32) &&& 0x3f).toInt64.toUInt64).toInt64)) &&& m)) - m) = zz_ := ⟨_, rfl⟩
  refine Jvm.OwnW.lsub O7 ds0_177 hz0 (q := 178) rfl ?_
  refine Jvm.OwnW.lstore O7 ds0_178 (L' := #[.val (.ref a1), .val (.ref ai), .val (.ref ao), .val (.int (2 : Int32)), .val (.long m), .second, .val (.int sh), .val (.long rlo), .second, .val (.long rhi), .second, .val (.int (0 : Int32)), .val (.long y0), .second, .val (.long z0), .second, .val (.long hi1), .second, .val (.long mi1), .second]) rfl (q := 180) rfl ?_
  refine Jvm.OwnW.aloadN O7 ds0_180 rfl rfl (q := 181) rfl ?_
  refine Jvm.OwnW.iload O7 ds0_181 rfl (q := 183) rfl ?_
  refine Jvm.OwnW.lload O7 ds0_183 rfl (q := 185) rfl ?_
  refine Jvm.OwnW.lload O7 ds0_185 rfl (q := 187) rfl ?_
  refine Jvm.OwnW.bipush O7 ds0_187 (r := (63 : Int32)) rfl (q := 189) rfl ?_
  refine Jvm.OwnW.lushr O7 ds0_189 rfl (q := 190) rfl ?_
  refine Jvm.OwnW.lneg O7 ds0_190 rfl (q := 191) rfl ?_
  refine Jvm.OwnW.lload O7 ds0_191 rfl (q := 193) rfl ?_
  refine Jvm.OwnW.land O7 ds0_193 rfl (q := 194) rfl ?_
  obtain ⟨c0, hc0⟩ : ∃ zz_, (z0 + ((-((z0.toUInt64 >>> ((63 : Int32) &&& 0x3f).toInt64.toUInt64).toInt64)) &&& m)) = zz_ := ⟨_, rfl⟩
  refine Jvm.OwnW.ladd O7 ds0_194 hc0 (q := 195) rfl ?_
  obtain rfl : c0 = own_c m x0 := hc0.symm.trans (own_cells hm h4 h62 hH0 uq0 qa0 qb0 hy0 hz0)
  refine Jvm.OwnW.lasA O7 ds0_195 V_ao (i := 0) rfl (by decide) (Or.inl (List.mem_cons_self ..)) (q := 196) rfl ?_
  intro T8 h8 O8 W8
  have V_ao : Ar Z h8 ao .long 2 (lf [(.long (own_c m x0)), (.long q1)]) := V_ao.setL W8 (by decide) (Nat.le_of_ble_eq_true rfl)
  have E_a1 := E_a1.wr W8
  have F_cellCount_a1 := F_cellCount_a1.other W8 (Or.inl nro)
  have F_dividesOutright_a1 := F_dividesOutright_a1.other W8 (Or.inl nro)
  have F_reciprocal_a1 := F_reciprocal_a1.other W8 (Or.inl nro)
  have F_shift_a1 := F_shift_a1.other W8 (Or.inl nro)
  have V_ai := V_ai.other W8 nio
  refine Jvm.OwnW.iinc O8 ds0_196 rfl (L' := #[.val (.ref a1), .val (.ref ai), .val (.ref ao), .val (.int (2 : Int32)), .val (.long m), .second, .val (.int sh), .val (.long rlo), .second, .val (.long rhi), .second, .val (.int (1 : Int32)), .val (.long y0), .second, .val (.long z0), .second, .val (.long hi1), .second, .val (.long mi1), .second]) rfl (q := 199) rfl ?_
  refine Jvm.OwnW.goto O8 ds0_199 (by decide) (q := 140) rfl ?_
  refine Jvm.OwnW.iload O8 ds0_140 rfl (q := 142) rfl ?_
  refine Jvm.OwnW.iloadN O8 ds0_142 rfl (q := 143) rfl ?_
  refine Jvm.OwnW.icmpNo O8 ds0_143 (tlt (show (1 : Int32) < (2 : Int32) from (by decide))).2.1 (q := 146) rfl ?_
  refine Jvm.OwnW.aloadN O8 ds0_146 rfl rfl (q := 147) rfl ?_
  refine Jvm.OwnW.iload O8 ds0_147 rfl (q := 149) rfl ?_
  refine Jvm.OwnW.lalA O8 ds0_149 V_ai (i := 1) rfl (by decide) (v := (.long x1)) rfl (q := 150) rfl ?_
  refine Jvm.OwnW.aloadN O8 ds0_150 rfl rfl (q := 151) rfl ?_
  refine Jvm.OwnW.iload O8 ds0_151 rfl (q := 153) rfl ?_
  refine Jvm.OwnW.lalA O8 ds0_153 V_ao (i := 1) rfl (by decide) (v := (.long q1)) rfl (q := 154) rfl ?_
  refine Jvm.OwnW.lload O8 ds0_154 rfl (q := 156) rfl ?_
  refine Jvm.OwnW.lmul O8 ds0_156 rfl (q := 157) rfl ?_
  refine Jvm.OwnW.lsub O8 ds0_157 rfl (q := 158) rfl ?_
  refine Jvm.OwnW.lload O8 ds0_158 rfl (q := 160) rfl ?_
  obtain ⟨y1, hy1⟩ : ∃ zz_, ((x1 - (q1 * m)) - m) = zz_ := ⟨_, rfl⟩
  refine Jvm.OwnW.lsub O8 ds0_160 hy1 (q := 161) rfl ?_
  refine Jvm.OwnW.lstore O8 ds0_161 (L' := #[.val (.ref a1), .val (.ref ai), .val (.ref ao), .val (.int (2 : Int32)), .val (.long m), .second, .val (.int sh), .val (.long rlo), .second, .val (.long rhi), .second, .val (.int (1 : Int32)), .val (.long y1), .second, .val (.long z0), .second, .val (.long hi1), .second, .val (.long mi1), .second]) rfl (q := 163) rfl ?_
  refine Jvm.OwnW.lload O8 ds0_163 rfl (q := 165) rfl ?_
  refine Jvm.OwnW.lload O8 ds0_165 rfl (q := 167) rfl ?_
  refine Jvm.OwnW.bipush O8 ds0_167 (r := (63 : Int32)) rfl (q := 169) rfl ?_
  refine Jvm.OwnW.lushr O8 ds0_169 rfl (q := 170) rfl ?_
  refine Jvm.OwnW.lneg O8 ds0_170 rfl (q := 171) rfl ?_
  refine Jvm.OwnW.lload O8 ds0_171 rfl (q := 173) rfl ?_
  refine Jvm.OwnW.land O8 ds0_173 rfl (q := 174) rfl ?_
  refine Jvm.OwnW.ladd O8 ds0_174 rfl (q := 175) rfl ?_
  refine Jvm.OwnW.lload O8 ds0_175 rfl (q := 177) rfl ?_
  obtain ⟨z1, hz1⟩ : ∃ zz_, ((y1 + ((-((y1.toUInt64 >>> ((63 : Int32) &&& 0x3f).toInt64.toUInt64).toInt64)) &&& m)) - m) = zz_ := ⟨_, rfl⟩
  refine Jvm.OwnW.lsub O8 ds0_177 hz1 (q := 178) rfl ?_
  refine Jvm.OwnW.lstore O8 ds0_178 (L' := #[.val (.ref a1), .val (.ref ai), .val (.ref ao), .val (.int (2 : Int32)), .val (.long m), .second, .val (.int sh), .val (.long rlo), .second, .val (.long rhi), .second, .val (.int (1 : Int32)), .val (.long y1), .second, .val (.long z1), .second, .val (.long hi1), .second, .val (.long mi1), .second]) rfl (q := 180) rfl ?_
  refine Jvm.OwnW.aloadN O8 ds0_180 rfl rfl (q := 181) rfl ?_
  refine Jvm.OwnW.iload O8 ds0_181 rfl (q := 183) rfl ?_
  refine Jvm.OwnW.lload O8 ds0_183 rfl (q := 185) rfl ?_
  refine Jvm.OwnW.lload O8 ds0_185 rfl (q := 187) rfl ?_
  refine Jvm.OwnW.bipush O8 ds0_187 (r := (63 : Int32)) rfl (q := 189) rfl ?_
  refine Jvm.OwnW.lushr O8 ds0_189 rfl (q := 190) rfl ?_
  refine Jvm.OwnW.lneg O8 ds0_190 rfl (q := 191) rfl ?_
  refine Jvm.OwnW.lload O8 ds0_191 rfl (q := 193) rfl ?_
  refine Jvm.OwnW.land O8 ds0_193 rfl (q := 194) rfl ?_
  obtain ⟨c1, hc1⟩ : ∃ zz_, (z1 + ((-((z1.toUInt64 >>> ((63 : Int32) &&& 0x3f).toInt64.toUInt64).toInt64)) &&& m)) = zz_ := ⟨_, rfl⟩
  refine Jvm.OwnW.ladd O8 ds0_194 hc1 (q := 195) rfl ?_
  obtain rfl : c1 = own_c m x1 := hc1.symm.trans (own_cells hm h4 h62 hH1 uq1 qa1 qb1 hy1 hz1)
  refine Jvm.OwnW.lasA O8 ds0_195 V_ao (i := 1) rfl (by decide) (Or.inl (List.mem_cons_self ..)) (q := 196) rfl ?_
  intro T9 h9 O9 W9
  have V_ao : Ar Z h9 ao .long 2 (lf [(.long (own_c m x0)), (.long (own_c m x1))]) := V_ao.setL W9 (by decide) (Nat.le_of_ble_eq_true rfl)
  have E_a1 := E_a1.wr W9
  have F_cellCount_a1 := F_cellCount_a1.other W9 (Or.inl nro)
  have F_dividesOutright_a1 := F_dividesOutright_a1.other W9 (Or.inl nro)
  have F_reciprocal_a1 := F_reciprocal_a1.other W9 (Or.inl nro)
  have F_shift_a1 := F_shift_a1.other W9 (Or.inl nro)
  have V_ai := V_ai.other W9 nio
  refine Jvm.OwnW.iinc O9 ds0_196 rfl (L' := #[.val (.ref a1), .val (.ref ai), .val (.ref ao), .val (.int (2 : Int32)), .val (.long m), .second, .val (.int sh), .val (.long rlo), .second, .val (.long rhi), .second, .val (.int (2 : Int32)), .val (.long y1), .second, .val (.long z1), .second, .val (.long hi1), .second, .val (.long mi1), .second]) rfl (q := 199) rfl ?_
  refine Jvm.OwnW.goto O9 ds0_199 (by decide) (q := 140) rfl ?_
  refine Jvm.OwnW.iload O9 ds0_140 rfl (q := 142) rfl ?_
  refine Jvm.OwnW.iloadN O9 ds0_142 rfl (q := 143) rfl ?_
  refine Jvm.OwnW.icmpYes O9 ds0_143 (flt (show ¬ ((2 : Int32) < (2 : Int32)) from (by decide))).2.1 (by decide) (q := 202) rfl ?_
  exact Jvm.OwnW.ret0 O9 ds0_202 (by decide) (by decide) ⟨rfl, V_ao⟩
theorem rm_s (l : Launch) (Z : State) (a0 : Array Value) (hw : ∀ d ∈ tables_1, d.before a0 Z = true) (a1 : Addr) (ai : Addr) (ao : Addr) (m rc : Int64) (d sh : Int32) (x0 x1 u0 u1 : Int64) (h0 : Heap) (E_a1 : Exa Z h0 a1 "com/example/occupancy/occupancy/hash/internal/CellRule") (F_cellCount_a1 : Fld Z h0 a1 "com/example/occupancy/occupancy/hash/internal/CellRule" "cellCount" "J" (.long m)) (F_dividesOutright_a1 : Fld Z h0 a1 "com/example/occupancy/occupancy/hash/internal/CellRule" "dividesOutright" "Z" (.int d)) (F_reciprocal_a1 : Fld Z h0 a1 "com/example/occupancy/occupancy/hash/internal/CellRule" "reciprocal" "J" (.long rc)) (F_shift_a1 : Fld Z h0 a1 "com/example/occupancy/occupancy/hash/internal/CellRule" "shift" "I" (.int sh)) (V_ai : Ar Z h0 ai .long 2 (lf [.long x0, .long x1])) (V_ao : Ar Z h0 ao .long 2 (lf [.long u0, .long u1])) (nio : ai ≠ ao) (nro : a1 ≠ ao) (hrule : own_rule m d rc sh) :
    Met l Z (⟨"com/example/occupancy/occupancy/hash/internal/CellRule", "cellsOf", "([J[JI)V"⟩ : MethodName) prog_32_method_8_code 20 none [] ({ frames := 2, cells := 0, slots := 0, locals := 53 } : Room) #[.ref a1, .ref ai, .ref ao, .int 2] [ao] h0 (fun v h => v = none ∧ Ar Z h ao .long 2 (lf [.long (own_c m x0), .long (own_c m x1)])) := by
  obtain ⟨M, hm, hM, rfl | ⟨rfl, hrr⟩⟩ := hrule
  · exact rm_s1 l Z a0 hw a1 ai ao m rc sh x0 x1 u0 u1 M h0 E_a1 F_cellCount_a1 F_dividesOutright_a1 F_reciprocal_a1 F_shift_a1 V_ai V_ao nio nro hm hM
  · exact rm_s0 l Z a0 hw a1 ai ao m rc sh x0 x1 u0 u1 M h0 E_a1 F_cellCount_a1 F_dividesOutright_a1 F_reciprocal_a1 F_shift_a1 V_ai V_ao nio nro hm hM hrr
theorem pd_5 : parseMethodDescriptor "(Ljava/lang/Object;Ljava/lang/String;)Ljava/lang/Object;" = some ⟨[(.object "java/lang/Object"), (.object "java/lang/String")], some (.object "java/lang/Object")⟩ := by decide +kernel
theorem pd_6 : parseMethodDescriptor "()J" = some ⟨[], some .long⟩ := by decide +kernel
theorem db_0 : decode prog_29_method_1_code 0 = .ok (.aload_n 0, 1) := by decide +kernel
theorem db_1 : decode prog_29_method_1_code 1 = .ok (.invokespecial 1, 3) := by decide +kernel
theorem db_4 : decode prog_29_method_1_code 4 = .ok (.iload_n 2, 1) := by decide +kernel
theorem db_5 : decode prog_29_method_1_code 5 = .ok (.iconst 1, 1) := by decide +kernel
theorem db_6 : decode prog_29_method_1_code 6 = .ok (.if_icmp .ge 17, 3) := by decide +kernel
theorem db_23 : decode prog_29_method_1_code 23 = .ok (.aload_n 0, 1) := by decide +kernel
theorem db_24 : decode prog_29_method_1_code 24 = .ok (.aload_n 1, 1) := by decide +kernel
theorem db_25 : decode prog_29_method_1_code 25 = .ok (.ldc 16, 2) := by decide +kernel
theorem db_27 : decode prog_29_method_1_code 27 = .ok (.invokestatic 18, 3) := by decide +kernel
theorem db_30 : decode prog_29_method_1_code 30 = .ok (.checkcast 24, 3) := by decide +kernel
theorem db_33 : decode prog_29_method_1_code 33 = .ok (.putfield 26, 3) := by decide +kernel
theorem db_36 : decode prog_29_method_1_code 36 = .ok (.aload_n 0, 1) := by decide +kernel
theorem db_37 : decode prog_29_method_1_code 37 = .ok (.aload_n 1, 1) := by decide +kernel
theorem db_38 : decode prog_29_method_1_code 38 = .ok (.invokevirtual 31, 3) := by decide +kernel
theorem db_41 : decode prog_29_method_1_code 41 = .ok (.putfield 35, 3) := by decide +kernel
theorem db_44 : decode prog_29_method_1_code 44 = .ok (.aload_n 0, 1) := by decide +kernel
theorem db_45 : decode prog_29_method_1_code 45 = .ok (.aload_n 1, 1) := by decide +kernel
theorem db_46 : decode prog_29_method_1_code 46 = .ok (.ldc2_w 38, 3) := by decide +kernel
theorem db_49 : decode prog_29_method_1_code 49 = .ok (.invokevirtual 40, 3) := by decide +kernel
theorem db_52 : decode prog_29_method_1_code 52 = .ok (.lconst 1, 1) := by decide +kernel
theorem db_53 : decode prog_29_method_1_code 53 = .ok (.ladd, 1) := by decide +kernel
theorem db_54 : decode prog_29_method_1_code 54 = .ok (.putfield 44, 3) := by decide +kernel
theorem db_57 : decode prog_29_method_1_code 57 = .ok (.aload_n 0, 1) := by decide +kernel
theorem db_58 : decode prog_29_method_1_code 58 = .ok (.iload_n 2, 1) := by decide +kernel
theorem db_59 : decode prog_29_method_1_code 59 = .ok (.newarray .long, 2) := by decide +kernel
theorem db_61 : decode prog_29_method_1_code 61 = .ok (.putfield 47, 3) := by decide +kernel
theorem db_64 : decode prog_29_method_1_code 64 = .ok (.aload_n 0, 1) := by decide +kernel
theorem db_65 : decode prog_29_method_1_code 65 = .ok (.iload_n 2, 1) := by decide +kernel
theorem db_66 : decode prog_29_method_1_code 66 = .ok (.newarray .long, 2) := by decide +kernel
theorem db_68 : decode prog_29_method_1_code 68 = .ok (.putfield 51, 3) := by decide +kernel
theorem db_71 : decode prog_29_method_1_code 71 = .ok (.aload_n 0, 1) := by decide +kernel
theorem db_72 : decode prog_29_method_1_code 72 = .ok (.iload_n 2, 1) := by decide +kernel
theorem db_73 : decode prog_29_method_1_code 73 = .ok (.newarray .long, 2) := by decide +kernel
theorem db_75 : decode prog_29_method_1_code 75 = .ok (.putfield 54, 3) := by decide +kernel
theorem db_78 : decode prog_29_method_1_code 78 = .ok (.aload_n 0, 1) := by decide +kernel
theorem db_79 : decode prog_29_method_1_code 79 = .ok (.iload_n 2, 1) := by decide +kernel
theorem db_80 : decode prog_29_method_1_code 80 = .ok (.newarray .long, 2) := by decide +kernel
theorem db_82 : decode prog_29_method_1_code 82 = .ok (.putfield 57, 3) := by decide +kernel
theorem db_85 : decode prog_29_method_1_code 85 = .ok (.aload_n 0, 1) := by decide +kernel
theorem db_86 : decode prog_29_method_1_code 86 = .ok (.iload_n 2, 1) := by decide +kernel
theorem db_87 : decode prog_29_method_1_code 87 = .ok (.newarray .long, 2) := by decide +kernel
theorem db_89 : decode prog_29_method_1_code 89 = .ok (.putfield 60, 3) := by decide +kernel
theorem db_92 : decode prog_29_method_1_code 92 = .ok (.return_, 1) := by decide +kernel
theorem ef_b (a1 : Addr) (a2 : Addr) (m rc : Int64) (d sh : Int32) (m : MethodId) : entryFrame m #[(.ref a1), (.ref a2), (.int (2 : Int32))] 3 = mkF m 0 #[.val (.ref a1), .val (.ref a2), .val (.int (2 : Int32))] [] := by first | (simp [entryFrame, mkF, argsToLocals, Value.category, maxLocals]; done) | rfl
theorem pn_b : plainFor (⟨"com/example/occupancy/occupancy/hash/internal/CellBatch", "<init>", "(Lcom/example/occupancy/occupancy/hash/internal/CellRule;I)V"⟩ : MethodName) = true := by first | exact plainFor_of_name (by first | (simp [plainName, overriddenIn]; done) | decide +kernel) | decide +kernel
set_option maxRecDepth 65536 in
set_option maxHeartbeats 40000000 in
theorem rm_b (l : Launch) (Z : State) (a0 : Array Value) (hw : ∀ d ∈ tables_1, d.before a0 Z = true) (a1 : Addr) (a2 : Addr) (m rc : Int64) (d sh : Int32) (h0 : Heap) (E_a1 : Exa Z h0 a1 "com/example/occupancy/occupancy/hash/internal/CellBatch") (F_rule_a1 : Fld Z h0 a1 "com/example/occupancy/occupancy/hash/internal/CellBatch" "rule" "Lcom/example/occupancy/occupancy/hash/internal/CellRule;" .null) (F_cellCount_a1 : Fld Z h0 a1 "com/example/occupancy/occupancy/hash/internal/CellBatch" "cellCount" "J" (.long (0 : Int64))) (F_wrapLoss_a1 : Fld Z h0 a1 "com/example/occupancy/occupancy/hash/internal/CellBatch" "wrapLoss" "J" (.long (0 : Int64))) (F_sums_a1 : Fld Z h0 a1 "com/example/occupancy/occupancy/hash/internal/CellBatch" "sums" "[J" .null) (F_steps_a1 : Fld Z h0 a1 "com/example/occupancy/occupancy/hash/internal/CellBatch" "steps" "[J" .null) (F_cells_a1 : Fld Z h0 a1 "com/example/occupancy/occupancy/hash/internal/CellBatch" "cells" "[J" .null) (F_plainSteps_a1 : Fld Z h0 a1 "com/example/occupancy/occupancy/hash/internal/CellBatch" "plainSteps" "[J" .null) (F_wrapFlips_a1 : Fld Z h0 a1 "com/example/occupancy/occupancy/hash/internal/CellBatch" "wrapFlips" "[J" .null) (F_size_a1 : Fld Z h0 a1 "com/example/occupancy/occupancy/hash/internal/CellBatch" "size" "I" (.int (0 : Int32))) (E_a2 : Exa Z h0 a2 "com/example/occupancy/occupancy/hash/internal/CellRule") (F_cellCount_a2 : Fld Z h0 a2 "com/example/occupancy/occupancy/hash/internal/CellRule" "cellCount" "J" (.long m)) (F_dividesOutright_a2 : Fld Z h0 a2 "com/example/occupancy/occupancy/hash/internal/CellRule" "dividesOutright" "Z" (.int d)) (F_reciprocal_a2 : Fld Z h0 a2 "com/example/occupancy/occupancy/hash/internal/CellRule" "reciprocal" "J" (.long rc)) (F_shift_a2 : Fld Z h0 a2 "com/example/occupancy/occupancy/hash/internal/CellRule" "shift" "I" (.int sh)) (n12 : a1 ≠ a2) (hrule : own_rule m d rc sh) :
    Met l Z (⟨"com/example/occupancy/occupancy/hash/internal/CellBatch", "<init>", "(Lcom/example/occupancy/occupancy/hash/internal/CellRule;I)V"⟩ : MethodName) prog_29_method_1_code 3 none [] ({ frames := 2, cells := 7, slots := 30, locals := 52 } : Room) #[(.ref a1), (.ref a2), (.int (2 : Int32))] [a1] h0 (fun v h => v = none ∧ ∃ sa ta ca pa fa : Addr, h0.size ≤ sa ∧ h0.size ≤ ta ∧ h0.size ≤ ca ∧ h0.size ≤ pa ∧ h0.size ≤ fa ∧ sa ≠ ta ∧ sa ≠ ca ∧ sa ≠ pa ∧ sa ≠ fa ∧ ta ≠ ca ∧ ta ≠ pa ∧ ta ≠ fa ∧ ca ≠ pa ∧ ca ≠ fa ∧ pa ≠ fa ∧ Fld Z h a1 "com/example/occupancy/occupancy/hash/internal/CellBatch" "rule" "Lcom/example/occupancy/occupancy/hash/internal/CellRule;" (.ref a2) ∧ Fld Z h a1 "com/example/occupancy/occupancy/hash/internal/CellBatch" "cellCount" "J" (.long m) ∧ Fld Z h a1 "com/example/occupancy/occupancy/hash/internal/CellBatch" "wrapLoss" "J" (.long (own_c m (-1 : Int64) + (1 : Int64))) ∧ Fld Z h a1 "com/example/occupancy/occupancy/hash/internal/CellBatch" "sums" "[J" (.ref sa) ∧ Fld Z h a1 "com/example/occupancy/occupancy/hash/internal/CellBatch" "steps" "[J" (.ref ta) ∧ Fld Z h a1 "com/example/occupancy/occupancy/hash/internal/CellBatch" "cells" "[J" (.ref ca) ∧ Fld Z h a1 "com/example/occupancy/occupancy/hash/internal/CellBatch" "plainSteps" "[J" (.ref pa) ∧ Fld Z h a1 "com/example/occupancy/occupancy/hash/internal/CellBatch" "wrapFlips" "[J" (.ref fa) ∧ Fld Z h a1 "com/example/occupancy/occupancy/hash/internal/CellBatch" "size" "I" (.int (0 : Int32)) ∧ Ar Z h sa .long 2 (lf [.long (0 : Int64), .long (0 : Int64)]) ∧ Ar Z h ta .long 2 (lf [.long (0 : Int64), .long (0 : Int64)]) ∧ Ar Z h ca .long 2 (lf [.long (0 : Int64), .long (0 : Int64)]) ∧ Ar Z h pa .long 2 (lf [.long (0 : Int64), .long (0 : Int64)]) ∧ Ar Z h fa .long 2 (lf [.long (0 : Int64), .long (0 : Int64)])) := by
  refine Met.mk pn_b (ef_b a1 a2 m rc d sh) ?_
  intro C T hs0 O
  show Go C [a1] (fun v h => v = none ∧ ∃ sa ta ca pa fa : Addr, h0.size ≤ sa ∧ h0.size ≤ ta ∧ h0.size ≤ ca ∧ h0.size ≤ pa ∧ h0.size ≤ fa ∧ sa ≠ ta ∧ sa ≠ ca ∧ sa ≠ pa ∧ sa ≠ fa ∧ ta ≠ ca ∧ ta ≠ pa ∧ ta ≠ fa ∧ ca ≠ pa ∧ ca ≠ fa ∧ pa ≠ fa ∧ Fld Z h a1 "com/example/occupancy/occupancy/hash/internal/CellBatch" "rule" "Lcom/example/occupancy/occupancy/hash/internal/CellRule;" (.ref a2) ∧ Fld Z h a1 "com/example/occupancy/occupancy/hash/internal/CellBatch" "cellCount" "J" (.long m) ∧ Fld Z h a1 "com/example/occupancy/occupancy/hash/internal/CellBatch" "wrapLoss" "J" (.long (own_c m (-1 : Int64) + (1 : Int64))) ∧ Fld Z h a1 "com/example/occupancy/occupancy/hash/internal/CellBatch" "sums" "[J" (.ref sa) ∧ Fld Z h a1 "com/example/occupancy/occupancy/hash/internal/CellBatch" "steps" "[J" (.ref ta) ∧ Fld Z h a1 "com/example/occupancy/occupancy/hash/internal/CellBatch" "cells" "[J" (.ref ca) ∧ Fld Z h a1 "com/example/occupancy/occupancy/hash/internal/CellBatch" "plainSteps" "[J" (.ref pa) ∧ Fld Z h a1 "com/example/occupancy/occupancy/hash/internal/CellBatch" "wrapFlips" "[J" (.ref fa) ∧ Fld Z h a1 "com/example/occupancy/occupancy/hash/internal/CellBatch" "size" "I" (.int (0 : Int32)) ∧ Ar Z h sa .long 2 (lf [.long (0 : Int64), .long (0 : Int64)]) ∧ Ar Z h ta .long 2 (lf [.long (0 : Int64), .long (0 : Int64)]) ∧ Ar Z h ca .long 2 (lf [.long (0 : Int64), .long (0 : Int64)]) ∧ Ar Z h pa .long 2 (lf [.long (0 : Int64), .long (0 : Int64)]) ∧ Ar Z h fa .long 2 (lf [.long (0 : Int64), .long (0 : Int64)])) 7 30 (T.setTop (mkF C.m 0 #[.val (.ref a1), .val (.ref a2), .val (.int (2 : Int32))] []))
  refine Jvm.OwnW.aloadN O db_0 rfl rfl (q := 1) rfl ?_
  refine Jvm.OwnW.initO O db_1 (hw _ (List.mem_of_getElem? (i := 29) rfl)) (hw _ (List.mem_of_getElem? (i := 12) rfl)) (hw _ (List.mem_of_getElem? (i := 13) rfl)) rfl (by decide) (W := 0) (Nat.le_of_eq rfl) (by decide) (q := 4) rfl ?_
  intro T1 O1
  refine Jvm.OwnW.iloadN O1 db_4 rfl (q := 5) rfl ?_
  refine Jvm.OwnW.iconst O1 db_5 (r := (1 : Int32)) rfl (q := 6) rfl ?_
  refine Jvm.OwnW.icmpYes O1 db_6 (flt (show ¬ ((2 : Int32) < (1 : Int32)) from (by decide))).2.1 (by decide) (q := 23) rfl ?_
  refine Jvm.OwnW.aloadN O1 db_23 rfl rfl (q := 24) rfl ?_
  refine Jvm.OwnW.aloadN O1 db_24 rfl rfl (q := 25) rfl ?_
  refine Jvm.OwnW.ldcStr O1 db_25 (hw _ (List.mem_of_getElem? (i := 30) rfl)) (own_str hw) (cap := 16) (by decide +kernel) (by decide) (c2 := 2) (s2 := 20) rfl rfl (by decide) (by decide) (q := 27) rfl ?_
  intro nb2 T2 h2 O2 X2
  have E_a1 := E_a1.ext X2
  have F_rule_a1 := F_rule_a1.ext X2
  have F_cellCount_a1 := F_cellCount_a1.ext X2
  have F_wrapLoss_a1 := F_wrapLoss_a1.ext X2
  have F_sums_a1 := F_sums_a1.ext X2
  have F_steps_a1 := F_steps_a1.ext X2
  have F_cells_a1 := F_cells_a1.ext X2
  have F_plainSteps_a1 := F_plainSteps_a1.ext X2
  have F_wrapFlips_a1 := F_wrapFlips_a1.ext X2
  have F_size_a1 := F_size_a1.ext X2
  have E_a2 := E_a2.ext X2
  have F_cellCount_a2 := F_cellCount_a2.ext X2
  have F_dividesOutright_a2 := F_dividesOutright_a2.ext X2
  have F_reciprocal_a2 := F_reciprocal_a2.ext X2
  have F_shift_a2 := F_shift_a2.ext X2
  refine Jvm.OwnW.callS0 O2 (y := (⟨"java/util/Objects", "requireNonNull", "(Ljava/lang/Object;Ljava/lang/String;)Ljava/lang/Object;"⟩ : MethodName)) (argsL := [(.ref a2), (.ref nb2)]) (rest := [(.ref a1)]) db_27 (hw _ (List.mem_of_getElem? (i := 38) rfl)) (hw _ (List.mem_of_getElem? (i := 39) rfl)) (hw _ (List.mem_of_getElem? (i := 40) rfl)) (hw _ (List.mem_of_getElem? (i := 41) rfl)) (by decide) (rm_q l Z a0 hw a2 nb2 h2) rfl pd_5 rfl (hst := rfl) (W := 1) (Nat.le_of_eq rfl) (by decide) (by decide) (c2 := 2) (s2 := 20) rfl rfl (by decide) (by decide) rfl rfl (q := 30) rfl ?_
  intro v3 T3 O3 q3
  obtain rfl := q3
  show Go C _ _ _ _ (T3.setTop (mkF C.m 30 #[.val (.ref a1), .val (.ref a2), .val (.int (2 : Int32))] [(.ref a2), (.ref a1)]))
  refine Jvm.OwnW.castY O3 db_30 (hw _ (List.mem_of_getElem? (i := 42) rfl)) (Ins.self E_a2) (q := 33) rfl ?_
  intro T4 O4
  refine Jvm.OwnW.putF O4 db_33 (host := "") (Or.inl (hw _ (List.mem_of_getElem? (i := 44) rfl))) Via.refl F_rule_a1 E_a1 (Or.inr ⟨hw _ (List.mem_of_getElem? (i := 45) rfl), rfl, rfl⟩) (hw _ (List.mem_of_getElem? (i := 24) rfl)) (ty := (.object "com/example/occupancy/occupancy/hash/internal/CellRule")) (by decide) rfl rfl (Or.inl (List.mem_cons_self ..)) (q := 36) rfl ?_
  intro T5 h5 O5 W5
  have E_a1 := E_a1.wr W5
  have F_rule_a1 := F_rule_a1.same W5
  have F_cellCount_a1 := F_cellCount_a1.other W5 (Or.inr (slot_ne (Or.inr (hw _ (List.mem_of_getElem? (i := 52) rfl))) (Or.inr (hw _ (List.mem_of_getElem? (i := 45) rfl))) (by decide) (t := .long) (t' := (.object "com/example/occupancy/occupancy/hash/internal/CellRule")) (by decide) (by decide)))
  have F_wrapLoss_a1 := F_wrapLoss_a1.other W5 (Or.inr (slot_ne (Or.inr (hw _ (List.mem_of_getElem? (i := 65) rfl))) (Or.inr (hw _ (List.mem_of_getElem? (i := 45) rfl))) (by decide) (t := .long) (t' := (.object "com/example/occupancy/occupancy/hash/internal/CellRule")) (by decide) (by decide)))
  have F_sums_a1 := F_sums_a1.other W5 (Or.inr (slot_ne (Or.inr (hw _ (List.mem_of_getElem? (i := 68) rfl))) (Or.inr (hw _ (List.mem_of_getElem? (i := 45) rfl))) (by decide) (t := (.array .long)) (t' := (.object "com/example/occupancy/occupancy/hash/internal/CellRule")) (by decide) (by decide)))
  have F_steps_a1 := F_steps_a1.other W5 (Or.inr (slot_ne (Or.inr (hw _ (List.mem_of_getElem? (i := 70) rfl))) (Or.inr (hw _ (List.mem_of_getElem? (i := 45) rfl))) (by decide) (t := (.array .long)) (t' := (.object "com/example/occupancy/occupancy/hash/internal/CellRule")) (by decide) (by decide)))
  have F_cells_a1 := F_cells_a1.other W5 (Or.inr (slot_ne (Or.inr (hw _ (List.mem_of_getElem? (i := 72) rfl))) (Or.inr (hw _ (List.mem_of_getElem? (i := 45) rfl))) (by decide) (t := (.array .long)) (t' := (.object "com/example/occupancy/occupancy/hash/internal/CellRule")) (by decide) (by decide)))
  have F_plainSteps_a1 := F_plainSteps_a1.other W5 (Or.inr (slot_ne (Or.inr (hw _ (List.mem_of_getElem? (i := 74) rfl))) (Or.inr (hw _ (List.mem_of_getElem? (i := 45) rfl))) (by decide) (t := (.array .long)) (t' := (.object "com/example/occupancy/occupancy/hash/internal/CellRule")) (by decide) (by decide)))
  have F_wrapFlips_a1 := F_wrapFlips_a1.other W5 (Or.inr (slot_ne (Or.inr (hw _ (List.mem_of_getElem? (i := 76) rfl))) (Or.inr (hw _ (List.mem_of_getElem? (i := 45) rfl))) (by decide) (t := (.array .long)) (t' := (.object "com/example/occupancy/occupancy/hash/internal/CellRule")) (by decide) (by decide)))
  have F_size_a1 := F_size_a1.other W5 (Or.inr (slot_ne (Or.inl (hw _ (List.mem_of_getElem? (i := 88) rfl))) (Or.inr (hw _ (List.mem_of_getElem? (i := 45) rfl))) (by decide) (t := .int) (t' := (.object "com/example/occupancy/occupancy/hash/internal/CellRule")) (by decide) (by decide)))
  have E_a2 := E_a2.wr W5
  have F_cellCount_a2 := F_cellCount_a2.other W5 (Or.inl (Ne.symm n12))
  have F_dividesOutright_a2 := F_dividesOutright_a2.other W5 (Or.inl (Ne.symm n12))
  have F_reciprocal_a2 := F_reciprocal_a2.other W5 (Or.inl (Ne.symm n12))
  have F_shift_a2 := F_shift_a2.other W5 (Or.inl (Ne.symm n12))
  refine Jvm.OwnW.aloadN O5 db_36 rfl rfl (q := 37) rfl ?_
  refine Jvm.OwnW.aloadN O5 db_37 rfl rfl (q := 38) rfl ?_
  refine Jvm.OwnW.callV0 O5 (y := (⟨"com/example/occupancy/occupancy/hash/internal/CellRule", "cellCount", "()J"⟩ : MethodName)) (z := (⟨"com/example/occupancy/occupancy/hash/internal/CellRule", "cellCount", "()J"⟩ : MethodName)) (a := a2) (argsL := []) (rest := [(.ref a1)]) db_38 (hw _ (List.mem_of_getElem? (i := 46) rfl)) (hw _ (List.mem_of_getElem? (i := 47) rfl)) (hw _ (List.mem_of_getElem? (i := 49) rfl)) rfl (hw _ (List.mem_of_getElem? (i := 48) rfl)) (hw _ (List.mem_of_getElem? (i := 7) rfl)) (hw _ (List.mem_of_getElem? (i := 50) rfl)) (by decide) (rm_c l Z a0 hw a2 m h5 E_a2 F_cellCount_a2) E_a2 rfl pd_6 rfl (hst := rfl) (W := 1) (Nat.le_of_eq rfl) (by decide) (by decide) (c2 := 2) (s2 := 20) rfl rfl (by decide) (by decide) rfl rfl (q := 41) rfl ?_
  intro v6 T6 O6 q6
  obtain rfl := q6
  show Go C _ _ _ _ (T6.setTop (mkF C.m 41 #[.val (.ref a1), .val (.ref a2), .val (.int (2 : Int32))] [(.long m), (.ref a1)]))
  refine Jvm.OwnW.putF O6 db_41 (host := "") (Or.inl (hw _ (List.mem_of_getElem? (i := 51) rfl))) Via.refl F_cellCount_a1 E_a1 (Or.inr ⟨hw _ (List.mem_of_getElem? (i := 52) rfl), rfl, rfl⟩) (hw _ (List.mem_of_getElem? (i := 24) rfl)) (ty := .long) (by decide) rfl rfl (Or.inl (List.mem_cons_self ..)) (q := 44) rfl ?_
  intro T7 h7 O7 W7
  have E_a1 := E_a1.wr W7
  have F_rule_a1 := F_rule_a1.other W7 (Or.inr (slot_ne (Or.inr (hw _ (List.mem_of_getElem? (i := 45) rfl))) (Or.inr (hw _ (List.mem_of_getElem? (i := 52) rfl))) (by decide) (t := (.object "com/example/occupancy/occupancy/hash/internal/CellRule")) (t' := .long) (by decide) (by decide)))
  have F_cellCount_a1 := F_cellCount_a1.same W7
  have F_wrapLoss_a1 := F_wrapLoss_a1.other W7 (Or.inr (slot_ne (Or.inr (hw _ (List.mem_of_getElem? (i := 65) rfl))) (Or.inr (hw _ (List.mem_of_getElem? (i := 52) rfl))) (by decide) (t := .long) (t' := .long) (by decide) (by decide)))
  have F_sums_a1 := F_sums_a1.other W7 (Or.inr (slot_ne (Or.inr (hw _ (List.mem_of_getElem? (i := 68) rfl))) (Or.inr (hw _ (List.mem_of_getElem? (i := 52) rfl))) (by decide) (t := (.array .long)) (t' := .long) (by decide) (by decide)))
  have F_steps_a1 := F_steps_a1.other W7 (Or.inr (slot_ne (Or.inr (hw _ (List.mem_of_getElem? (i := 70) rfl))) (Or.inr (hw _ (List.mem_of_getElem? (i := 52) rfl))) (by decide) (t := (.array .long)) (t' := .long) (by decide) (by decide)))
  have F_cells_a1 := F_cells_a1.other W7 (Or.inr (slot_ne (Or.inr (hw _ (List.mem_of_getElem? (i := 72) rfl))) (Or.inr (hw _ (List.mem_of_getElem? (i := 52) rfl))) (by decide) (t := (.array .long)) (t' := .long) (by decide) (by decide)))
  have F_plainSteps_a1 := F_plainSteps_a1.other W7 (Or.inr (slot_ne (Or.inr (hw _ (List.mem_of_getElem? (i := 74) rfl))) (Or.inr (hw _ (List.mem_of_getElem? (i := 52) rfl))) (by decide) (t := (.array .long)) (t' := .long) (by decide) (by decide)))
  have F_wrapFlips_a1 := F_wrapFlips_a1.other W7 (Or.inr (slot_ne (Or.inr (hw _ (List.mem_of_getElem? (i := 76) rfl))) (Or.inr (hw _ (List.mem_of_getElem? (i := 52) rfl))) (by decide) (t := (.array .long)) (t' := .long) (by decide) (by decide)))
  have F_size_a1 := F_size_a1.other W7 (Or.inr (slot_ne (Or.inl (hw _ (List.mem_of_getElem? (i := 88) rfl))) (Or.inr (hw _ (List.mem_of_getElem? (i := 52) rfl))) (by decide) (t := .int) (t' := .long) (by decide) (by decide)))
  have E_a2 := E_a2.wr W7
  have F_cellCount_a2 := F_cellCount_a2.other W7 (Or.inl (Ne.symm n12))
  have F_dividesOutright_a2 := F_dividesOutright_a2.other W7 (Or.inl (Ne.symm n12))
  have F_reciprocal_a2 := F_reciprocal_a2.other W7 (Or.inl (Ne.symm n12))
  have F_shift_a2 := F_shift_a2.other W7 (Or.inl (Ne.symm n12))
  refine Jvm.OwnW.aloadN O7 db_44 rfl rfl (q := 45) rfl ?_
  refine Jvm.OwnW.aloadN O7 db_45 rfl rfl (q := 46) rfl ?_
  refine Jvm.OwnW.ldcL O7 db_46 (hw _ (List.mem_of_getElem? (i := 53) rfl)) (q := 49) rfl ?_
  refine Jvm.OwnW.callV0 O7 (y := (⟨"com/example/occupancy/occupancy/hash/internal/CellRule", "cellOf", "(J)J"⟩ : MethodName)) (z := (⟨"com/example/occupancy/occupancy/hash/internal/CellRule", "cellOf", "(J)J"⟩ : MethodName)) (a := a2) (argsL := [(.long (-1 : Int64))]) (rest := [(.ref a1)]) db_49 (hw _ (List.mem_of_getElem? (i := 54) rfl)) (hw _ (List.mem_of_getElem? (i := 55) rfl)) (hw _ (List.mem_of_getElem? (i := 57) rfl)) rfl (hw _ (List.mem_of_getElem? (i := 56) rfl)) (hw _ (List.mem_of_getElem? (i := 7) rfl)) (hw _ (List.mem_of_getElem? (i := 58) rfl)) (by decide) (rm_o l Z a0 hw a2 (-1 : Int64) m rc d sh h7 E_a2 F_cellCount_a2 F_dividesOutright_a2 F_reciprocal_a2 F_shift_a2 hrule) E_a2 rfl pd_4 rfl (hst := rfl) (W := 1) (Nat.le_of_eq rfl) (by decide) (by decide) (c2 := 2) (s2 := 20) rfl rfl (by decide) (by decide) rfl rfl (q := 52) rfl ?_
  intro v8 T8 O8 q8
  obtain rfl := q8
  show Go C _ _ _ _ (T8.setTop (mkF C.m 52 #[.val (.ref a1), .val (.ref a2), .val (.int (2 : Int32))] [(.long (own_c m (-1 : Int64))), (.ref a1)]))
  refine Jvm.OwnW.lconst O8 db_52 (r := (1 : Int64)) rfl (q := 53) rfl ?_
  refine Jvm.OwnW.ladd O8 db_53 rfl (q := 54) rfl ?_
  refine Jvm.OwnW.putF O8 db_54 (host := "") (Or.inl (hw _ (List.mem_of_getElem? (i := 64) rfl))) Via.refl F_wrapLoss_a1 E_a1 (Or.inr ⟨hw _ (List.mem_of_getElem? (i := 65) rfl), rfl, rfl⟩) (hw _ (List.mem_of_getElem? (i := 24) rfl)) (ty := .long) (by decide) rfl rfl (Or.inl (List.mem_cons_self ..)) (q := 57) rfl ?_
  intro T9 h9 O9 W9
  have E_a1 := E_a1.wr W9
  have F_rule_a1 := F_rule_a1.other W9 (Or.inr (slot_ne (Or.inr (hw _ (List.mem_of_getElem? (i := 45) rfl))) (Or.inr (hw _ (List.mem_of_getElem? (i := 65) rfl))) (by decide) (t := (.object "com/example/occupancy/occupancy/hash/internal/CellRule")) (t' := .long) (by decide) (by decide)))
  have F_cellCount_a1 := F_cellCount_a1.other W9 (Or.inr (slot_ne (Or.inr (hw _ (List.mem_of_getElem? (i := 52) rfl))) (Or.inr (hw _ (List.mem_of_getElem? (i := 65) rfl))) (by decide) (t := .long) (t' := .long) (by decide) (by decide)))
  have F_wrapLoss_a1 := F_wrapLoss_a1.same W9
  have F_sums_a1 := F_sums_a1.other W9 (Or.inr (slot_ne (Or.inr (hw _ (List.mem_of_getElem? (i := 68) rfl))) (Or.inr (hw _ (List.mem_of_getElem? (i := 65) rfl))) (by decide) (t := (.array .long)) (t' := .long) (by decide) (by decide)))
  have F_steps_a1 := F_steps_a1.other W9 (Or.inr (slot_ne (Or.inr (hw _ (List.mem_of_getElem? (i := 70) rfl))) (Or.inr (hw _ (List.mem_of_getElem? (i := 65) rfl))) (by decide) (t := (.array .long)) (t' := .long) (by decide) (by decide)))
  have F_cells_a1 := F_cells_a1.other W9 (Or.inr (slot_ne (Or.inr (hw _ (List.mem_of_getElem? (i := 72) rfl))) (Or.inr (hw _ (List.mem_of_getElem? (i := 65) rfl))) (by decide) (t := (.array .long)) (t' := .long) (by decide) (by decide)))
  have F_plainSteps_a1 := F_plainSteps_a1.other W9 (Or.inr (slot_ne (Or.inr (hw _ (List.mem_of_getElem? (i := 74) rfl))) (Or.inr (hw _ (List.mem_of_getElem? (i := 65) rfl))) (by decide) (t := (.array .long)) (t' := .long) (by decide) (by decide)))
  have F_wrapFlips_a1 := F_wrapFlips_a1.other W9 (Or.inr (slot_ne (Or.inr (hw _ (List.mem_of_getElem? (i := 76) rfl))) (Or.inr (hw _ (List.mem_of_getElem? (i := 65) rfl))) (by decide) (t := (.array .long)) (t' := .long) (by decide) (by decide)))
  have F_size_a1 := F_size_a1.other W9 (Or.inr (slot_ne (Or.inl (hw _ (List.mem_of_getElem? (i := 88) rfl))) (Or.inr (hw _ (List.mem_of_getElem? (i := 65) rfl))) (by decide) (t := .int) (t' := .long) (by decide) (by decide)))
  have E_a2 := E_a2.wr W9
  have F_cellCount_a2 := F_cellCount_a2.other W9 (Or.inl (Ne.symm n12))
  have F_dividesOutright_a2 := F_dividesOutright_a2.other W9 (Or.inl (Ne.symm n12))
  have F_reciprocal_a2 := F_reciprocal_a2.other W9 (Or.inl (Ne.symm n12))
  have F_shift_a2 := F_shift_a2.other W9 (Or.inl (Ne.symm n12))
  refine Jvm.OwnW.aloadN O9 db_57 rfl rfl (q := 58) rfl ?_
  refine Jvm.OwnW.iloadN O9 db_58 rfl (q := 59) rfl ?_
  refine Jvm.OwnW.newA' O9 db_59 (ty := .long) rfl (hw _ (List.mem_of_getElem? (i := 66) rfl)) (N := 2) rfl (cap := 2) (by decide) (by decide) (c2 := 3) (s2 := 22) rfl rfl (by decide) (by decide) (q := 61) rfl ?_
  intro nb10 T10 h10 g10 N10 O10 X10 V_nb10
  have ne_a1_nb10 : a1 ≠ nb10 := Nat.ne_of_lt (Nat.lt_of_lt_of_le E_a1.lt (Nat.le_of_eq g10.symm))
  have ne_a2_nb10 : a2 ≠ nb10 := Nat.ne_of_lt (Nat.lt_of_lt_of_le E_a2.lt (Nat.le_of_eq g10.symm))
  have E_a1 := E_a1.ext X10
  have F_rule_a1 := F_rule_a1.ext X10
  have F_cellCount_a1 := F_cellCount_a1.ext X10
  have F_wrapLoss_a1 := F_wrapLoss_a1.ext X10
  have F_sums_a1 := F_sums_a1.ext X10
  have F_steps_a1 := F_steps_a1.ext X10
  have F_cells_a1 := F_cells_a1.ext X10
  have F_plainSteps_a1 := F_plainSteps_a1.ext X10
  have F_wrapFlips_a1 := F_wrapFlips_a1.ext X10
  have F_size_a1 := F_size_a1.ext X10
  have E_a2 := E_a2.ext X10
  have F_cellCount_a2 := F_cellCount_a2.ext X10
  have F_dividesOutright_a2 := F_dividesOutright_a2.ext X10
  have F_reciprocal_a2 := F_reciprocal_a2.ext X10
  have F_shift_a2 := F_shift_a2.ext X10
  have V_nb10 : Ar Z h10 nb10 .long 2 (lf [(.long (0 : Int64)), (.long (0 : Int64))]) := V_nb10.congr (lf_rep 2 _)
  refine Jvm.OwnW.putF O10 db_61 (host := "") (Or.inl (hw _ (List.mem_of_getElem? (i := 67) rfl))) Via.refl F_sums_a1 E_a1 (Or.inr ⟨hw _ (List.mem_of_getElem? (i := 68) rfl), rfl, rfl⟩) (hw _ (List.mem_of_getElem? (i := 24) rfl)) (ty := (.array .long)) (by decide) rfl rfl (Or.inl (List.mem_cons_self ..)) (q := 64) rfl ?_
  intro T11 h11 O11 W11
  have E_a1 := E_a1.wr W11
  have F_rule_a1 := F_rule_a1.other W11 (Or.inr (slot_ne (Or.inr (hw _ (List.mem_of_getElem? (i := 45) rfl))) (Or.inr (hw _ (List.mem_of_getElem? (i := 68) rfl))) (by decide) (t := (.object "com/example/occupancy/occupancy/hash/internal/CellRule")) (t' := (.array .long)) (by decide) (by decide)))
  have F_cellCount_a1 := F_cellCount_a1.other W11 (Or.inr (slot_ne (Or.inr (hw _ (List.mem_of_getElem? (i := 52) rfl))) (Or.inr (hw _ (List.mem_of_getElem? (i := 68) rfl))) (by decide) (t := .long) (t' := (.array .long)) (by decide) (by decide)))
  have F_wrapLoss_a1 := F_wrapLoss_a1.other W11 (Or.inr (slot_ne (Or.inr (hw _ (List.mem_of_getElem? (i := 65) rfl))) (Or.inr (hw _ (List.mem_of_getElem? (i := 68) rfl))) (by decide) (t := .long) (t' := (.array .long)) (by decide) (by decide)))
  have F_sums_a1 := F_sums_a1.same W11
  have F_steps_a1 := F_steps_a1.other W11 (Or.inr (slot_ne (Or.inr (hw _ (List.mem_of_getElem? (i := 70) rfl))) (Or.inr (hw _ (List.mem_of_getElem? (i := 68) rfl))) (by decide) (t := (.array .long)) (t' := (.array .long)) (by decide) (by decide)))
  have F_cells_a1 := F_cells_a1.other W11 (Or.inr (slot_ne (Or.inr (hw _ (List.mem_of_getElem? (i := 72) rfl))) (Or.inr (hw _ (List.mem_of_getElem? (i := 68) rfl))) (by decide) (t := (.array .long)) (t' := (.array .long)) (by decide) (by decide)))
  have F_plainSteps_a1 := F_plainSteps_a1.other W11 (Or.inr (slot_ne (Or.inr (hw _ (List.mem_of_getElem? (i := 74) rfl))) (Or.inr (hw _ (List.mem_of_getElem? (i := 68) rfl))) (by decide) (t := (.array .long)) (t' := (.array .long)) (by decide) (by decide)))
  have F_wrapFlips_a1 := F_wrapFlips_a1.other W11 (Or.inr (slot_ne (Or.inr (hw _ (List.mem_of_getElem? (i := 76) rfl))) (Or.inr (hw _ (List.mem_of_getElem? (i := 68) rfl))) (by decide) (t := (.array .long)) (t' := (.array .long)) (by decide) (by decide)))
  have F_size_a1 := F_size_a1.other W11 (Or.inr (slot_ne (Or.inl (hw _ (List.mem_of_getElem? (i := 88) rfl))) (Or.inr (hw _ (List.mem_of_getElem? (i := 68) rfl))) (by decide) (t := .int) (t' := (.array .long)) (by decide) (by decide)))
  have E_a2 := E_a2.wr W11
  have F_cellCount_a2 := F_cellCount_a2.other W11 (Or.inl (Ne.symm n12))
  have F_dividesOutright_a2 := F_dividesOutright_a2.other W11 (Or.inl (Ne.symm n12))
  have F_reciprocal_a2 := F_reciprocal_a2.other W11 (Or.inl (Ne.symm n12))
  have F_shift_a2 := F_shift_a2.other W11 (Or.inl (Ne.symm n12))
  have V_nb10 := V_nb10.other W11 (Ne.symm ne_a1_nb10)
  refine Jvm.OwnW.aloadN O11 db_64 rfl rfl (q := 65) rfl ?_
  refine Jvm.OwnW.iloadN O11 db_65 rfl (q := 66) rfl ?_
  refine Jvm.OwnW.newA' O11 db_66 (ty := .long) rfl (hw _ (List.mem_of_getElem? (i := 66) rfl)) (N := 2) rfl (cap := 2) (by decide) (by decide) (c2 := 4) (s2 := 24) rfl rfl (by decide) (by decide) (q := 68) rfl ?_
  intro nb12 T12 h12 g12 N12 O12 X12 V_nb12
  have ne_a1_nb12 : a1 ≠ nb12 := Nat.ne_of_lt (Nat.lt_of_lt_of_le E_a1.lt (Nat.le_of_eq g12.symm))
  have ne_a2_nb12 : a2 ≠ nb12 := Nat.ne_of_lt (Nat.lt_of_lt_of_le E_a2.lt (Nat.le_of_eq g12.symm))
  have ne_nb10_nb12 : nb10 ≠ nb12 := Nat.ne_of_lt (Nat.lt_of_lt_of_le V_nb10.lt (Nat.le_of_eq g12.symm))
  have E_a1 := E_a1.ext X12
  have F_rule_a1 := F_rule_a1.ext X12
  have F_cellCount_a1 := F_cellCount_a1.ext X12
  have F_wrapLoss_a1 := F_wrapLoss_a1.ext X12
  have F_sums_a1 := F_sums_a1.ext X12
  have F_steps_a1 := F_steps_a1.ext X12
  have F_cells_a1 := F_cells_a1.ext X12
  have F_plainSteps_a1 := F_plainSteps_a1.ext X12
  have F_wrapFlips_a1 := F_wrapFlips_a1.ext X12
  have F_size_a1 := F_size_a1.ext X12
  have E_a2 := E_a2.ext X12
  have F_cellCount_a2 := F_cellCount_a2.ext X12
  have F_dividesOutright_a2 := F_dividesOutright_a2.ext X12
  have F_reciprocal_a2 := F_reciprocal_a2.ext X12
  have F_shift_a2 := F_shift_a2.ext X12
  have V_nb10 := V_nb10.ext X12
  have V_nb12 : Ar Z h12 nb12 .long 2 (lf [(.long (0 : Int64)), (.long (0 : Int64))]) := V_nb12.congr (lf_rep 2 _)
  refine Jvm.OwnW.putF O12 db_68 (host := "") (Or.inl (hw _ (List.mem_of_getElem? (i := 69) rfl))) Via.refl F_steps_a1 E_a1 (Or.inr ⟨hw _ (List.mem_of_getElem? (i := 70) rfl), rfl, rfl⟩) (hw _ (List.mem_of_getElem? (i := 24) rfl)) (ty := (.array .long)) (by decide) rfl rfl (Or.inl (List.mem_cons_self ..)) (q := 71) rfl ?_
  intro T13 h13 O13 W13
  have E_a1 := E_a1.wr W13
  have F_rule_a1 := F_rule_a1.other W13 (Or.inr (slot_ne (Or.inr (hw _ (List.mem_of_getElem? (i := 45) rfl))) (Or.inr (hw _ (List.mem_of_getElem? (i := 70) rfl))) (by decide) (t := (.object "com/example/occupancy/occupancy/hash/internal/CellRule")) (t' := (.array .long)) (by decide) (by decide)))
  have F_cellCount_a1 := F_cellCount_a1.other W13 (Or.inr (slot_ne (Or.inr (hw _ (List.mem_of_getElem? (i := 52) rfl))) (Or.inr (hw _ (List.mem_of_getElem? (i := 70) rfl))) (by decide) (t := .long) (t' := (.array .long)) (by decide) (by decide)))
  have F_wrapLoss_a1 := F_wrapLoss_a1.other W13 (Or.inr (slot_ne (Or.inr (hw _ (List.mem_of_getElem? (i := 65) rfl))) (Or.inr (hw _ (List.mem_of_getElem? (i := 70) rfl))) (by decide) (t := .long) (t' := (.array .long)) (by decide) (by decide)))
  have F_sums_a1 := F_sums_a1.other W13 (Or.inr (slot_ne (Or.inr (hw _ (List.mem_of_getElem? (i := 68) rfl))) (Or.inr (hw _ (List.mem_of_getElem? (i := 70) rfl))) (by decide) (t := (.array .long)) (t' := (.array .long)) (by decide) (by decide)))
  have F_steps_a1 := F_steps_a1.same W13
  have F_cells_a1 := F_cells_a1.other W13 (Or.inr (slot_ne (Or.inr (hw _ (List.mem_of_getElem? (i := 72) rfl))) (Or.inr (hw _ (List.mem_of_getElem? (i := 70) rfl))) (by decide) (t := (.array .long)) (t' := (.array .long)) (by decide) (by decide)))
  have F_plainSteps_a1 := F_plainSteps_a1.other W13 (Or.inr (slot_ne (Or.inr (hw _ (List.mem_of_getElem? (i := 74) rfl))) (Or.inr (hw _ (List.mem_of_getElem? (i := 70) rfl))) (by decide) (t := (.array .long)) (t' := (.array .long)) (by decide) (by decide)))
  have F_wrapFlips_a1 := F_wrapFlips_a1.other W13 (Or.inr (slot_ne (Or.inr (hw _ (List.mem_of_getElem? (i := 76) rfl))) (Or.inr (hw _ (List.mem_of_getElem? (i := 70) rfl))) (by decide) (t := (.array .long)) (t' := (.array .long)) (by decide) (by decide)))
  have F_size_a1 := F_size_a1.other W13 (Or.inr (slot_ne (Or.inl (hw _ (List.mem_of_getElem? (i := 88) rfl))) (Or.inr (hw _ (List.mem_of_getElem? (i := 70) rfl))) (by decide) (t := .int) (t' := (.array .long)) (by decide) (by decide)))
  have E_a2 := E_a2.wr W13
  have F_cellCount_a2 := F_cellCount_a2.other W13 (Or.inl (Ne.symm n12))
  have F_dividesOutright_a2 := F_dividesOutright_a2.other W13 (Or.inl (Ne.symm n12))
  have F_reciprocal_a2 := F_reciprocal_a2.other W13 (Or.inl (Ne.symm n12))
  have F_shift_a2 := F_shift_a2.other W13 (Or.inl (Ne.symm n12))
  have V_nb10 := V_nb10.other W13 (Ne.symm ne_a1_nb10)
  have V_nb12 := V_nb12.other W13 (Ne.symm ne_a1_nb12)
  refine Jvm.OwnW.aloadN O13 db_71 rfl rfl (q := 72) rfl ?_
  refine Jvm.OwnW.iloadN O13 db_72 rfl (q := 73) rfl ?_
  refine Jvm.OwnW.newA' O13 db_73 (ty := .long) rfl (hw _ (List.mem_of_getElem? (i := 66) rfl)) (N := 2) rfl (cap := 2) (by decide) (by decide) (c2 := 5) (s2 := 26) rfl rfl (by decide) (by decide) (q := 75) rfl ?_
  intro nb14 T14 h14 g14 N14 O14 X14 V_nb14
  have ne_a1_nb14 : a1 ≠ nb14 := Nat.ne_of_lt (Nat.lt_of_lt_of_le E_a1.lt (Nat.le_of_eq g14.symm))
  have ne_a2_nb14 : a2 ≠ nb14 := Nat.ne_of_lt (Nat.lt_of_lt_of_le E_a2.lt (Nat.le_of_eq g14.symm))
  have ne_nb10_nb14 : nb10 ≠ nb14 := Nat.ne_of_lt (Nat.lt_of_lt_of_le V_nb10.lt (Nat.le_of_eq g14.symm))
  have ne_nb12_nb14 : nb12 ≠ nb14 := Nat.ne_of_lt (Nat.lt_of_lt_of_le V_nb12.lt (Nat.le_of_eq g14.symm))
  have E_a1 := E_a1.ext X14
  have F_rule_a1 := F_rule_a1.ext X14
  have F_cellCount_a1 := F_cellCount_a1.ext X14
  have F_wrapLoss_a1 := F_wrapLoss_a1.ext X14
  have F_sums_a1 := F_sums_a1.ext X14
  have F_steps_a1 := F_steps_a1.ext X14
  have F_cells_a1 := F_cells_a1.ext X14
  have F_plainSteps_a1 := F_plainSteps_a1.ext X14
  have F_wrapFlips_a1 := F_wrapFlips_a1.ext X14
  have F_size_a1 := F_size_a1.ext X14
  have E_a2 := E_a2.ext X14
  have F_cellCount_a2 := F_cellCount_a2.ext X14
  have F_dividesOutright_a2 := F_dividesOutright_a2.ext X14
  have F_reciprocal_a2 := F_reciprocal_a2.ext X14
  have F_shift_a2 := F_shift_a2.ext X14
  have V_nb10 := V_nb10.ext X14
  have V_nb12 := V_nb12.ext X14
  have V_nb14 : Ar Z h14 nb14 .long 2 (lf [(.long (0 : Int64)), (.long (0 : Int64))]) := V_nb14.congr (lf_rep 2 _)
  refine Jvm.OwnW.putF O14 db_75 (host := "") (Or.inl (hw _ (List.mem_of_getElem? (i := 71) rfl))) Via.refl F_cells_a1 E_a1 (Or.inr ⟨hw _ (List.mem_of_getElem? (i := 72) rfl), rfl, rfl⟩) (hw _ (List.mem_of_getElem? (i := 24) rfl)) (ty := (.array .long)) (by decide) rfl rfl (Or.inl (List.mem_cons_self ..)) (q := 78) rfl ?_
  intro T15 h15 O15 W15
  have E_a1 := E_a1.wr W15
  have F_rule_a1 := F_rule_a1.other W15 (Or.inr (slot_ne (Or.inr (hw _ (List.mem_of_getElem? (i := 45) rfl))) (Or.inr (hw _ (List.mem_of_getElem? (i := 72) rfl))) (by decide) (t := (.object "com/example/occupancy/occupancy/hash/internal/CellRule")) (t' := (.array .long)) (by decide) (by decide)))
  have F_cellCount_a1 := F_cellCount_a1.other W15 (Or.inr (slot_ne (Or.inr (hw _ (List.mem_of_getElem? (i := 52) rfl))) (Or.inr (hw _ (List.mem_of_getElem? (i := 72) rfl))) (by decide) (t := .long) (t' := (.array .long)) (by decide) (by decide)))
  have F_wrapLoss_a1 := F_wrapLoss_a1.other W15 (Or.inr (slot_ne (Or.inr (hw _ (List.mem_of_getElem? (i := 65) rfl))) (Or.inr (hw _ (List.mem_of_getElem? (i := 72) rfl))) (by decide) (t := .long) (t' := (.array .long)) (by decide) (by decide)))
  have F_sums_a1 := F_sums_a1.other W15 (Or.inr (slot_ne (Or.inr (hw _ (List.mem_of_getElem? (i := 68) rfl))) (Or.inr (hw _ (List.mem_of_getElem? (i := 72) rfl))) (by decide) (t := (.array .long)) (t' := (.array .long)) (by decide) (by decide)))
  have F_steps_a1 := F_steps_a1.other W15 (Or.inr (slot_ne (Or.inr (hw _ (List.mem_of_getElem? (i := 70) rfl))) (Or.inr (hw _ (List.mem_of_getElem? (i := 72) rfl))) (by decide) (t := (.array .long)) (t' := (.array .long)) (by decide) (by decide)))
  have F_cells_a1 := F_cells_a1.same W15
  have F_plainSteps_a1 := F_plainSteps_a1.other W15 (Or.inr (slot_ne (Or.inr (hw _ (List.mem_of_getElem? (i := 74) rfl))) (Or.inr (hw _ (List.mem_of_getElem? (i := 72) rfl))) (by decide) (t := (.array .long)) (t' := (.array .long)) (by decide) (by decide)))
  have F_wrapFlips_a1 := F_wrapFlips_a1.other W15 (Or.inr (slot_ne (Or.inr (hw _ (List.mem_of_getElem? (i := 76) rfl))) (Or.inr (hw _ (List.mem_of_getElem? (i := 72) rfl))) (by decide) (t := (.array .long)) (t' := (.array .long)) (by decide) (by decide)))
  have F_size_a1 := F_size_a1.other W15 (Or.inr (slot_ne (Or.inl (hw _ (List.mem_of_getElem? (i := 88) rfl))) (Or.inr (hw _ (List.mem_of_getElem? (i := 72) rfl))) (by decide) (t := .int) (t' := (.array .long)) (by decide) (by decide)))
  have E_a2 := E_a2.wr W15
  have F_cellCount_a2 := F_cellCount_a2.other W15 (Or.inl (Ne.symm n12))
  have F_dividesOutright_a2 := F_dividesOutright_a2.other W15 (Or.inl (Ne.symm n12))
  have F_reciprocal_a2 := F_reciprocal_a2.other W15 (Or.inl (Ne.symm n12))
  have F_shift_a2 := F_shift_a2.other W15 (Or.inl (Ne.symm n12))
  have V_nb10 := V_nb10.other W15 (Ne.symm ne_a1_nb10)
  have V_nb12 := V_nb12.other W15 (Ne.symm ne_a1_nb12)
  have V_nb14 := V_nb14.other W15 (Ne.symm ne_a1_nb14)
  refine Jvm.OwnW.aloadN O15 db_78 rfl rfl (q := 79) rfl ?_
  refine Jvm.OwnW.iloadN O15 db_79 rfl (q := 80) rfl ?_
  refine Jvm.OwnW.newA' O15 db_80 (ty := .long) rfl (hw _ (List.mem_of_getElem? (i := 66) rfl)) (N := 2) rfl (cap := 2) (by decide) (by decide) (c2 := 6) (s2 := 28) rfl rfl (by decide) (by decide) (q := 82) rfl ?_
  intro nb16 T16 h16 g16 N16 O16 X16 V_nb16
  have ne_a1_nb16 : a1 ≠ nb16 := Nat.ne_of_lt (Nat.lt_of_lt_of_le E_a1.lt (Nat.le_of_eq g16.symm))
  have ne_a2_nb16 : a2 ≠ nb16 := Nat.ne_of_lt (Nat.lt_of_lt_of_le E_a2.lt (Nat.le_of_eq g16.symm))
  have ne_nb10_nb16 : nb10 ≠ nb16 := Nat.ne_of_lt (Nat.lt_of_lt_of_le V_nb10.lt (Nat.le_of_eq g16.symm))
  have ne_nb12_nb16 : nb12 ≠ nb16 := Nat.ne_of_lt (Nat.lt_of_lt_of_le V_nb12.lt (Nat.le_of_eq g16.symm))
  have ne_nb14_nb16 : nb14 ≠ nb16 := Nat.ne_of_lt (Nat.lt_of_lt_of_le V_nb14.lt (Nat.le_of_eq g16.symm))
  have E_a1 := E_a1.ext X16
  have F_rule_a1 := F_rule_a1.ext X16
  have F_cellCount_a1 := F_cellCount_a1.ext X16
  have F_wrapLoss_a1 := F_wrapLoss_a1.ext X16
  have F_sums_a1 := F_sums_a1.ext X16
  have F_steps_a1 := F_steps_a1.ext X16
  have F_cells_a1 := F_cells_a1.ext X16
  have F_plainSteps_a1 := F_plainSteps_a1.ext X16
  have F_wrapFlips_a1 := F_wrapFlips_a1.ext X16
  have F_size_a1 := F_size_a1.ext X16
  have E_a2 := E_a2.ext X16
  have F_cellCount_a2 := F_cellCount_a2.ext X16
  have F_dividesOutright_a2 := F_dividesOutright_a2.ext X16
  have F_reciprocal_a2 := F_reciprocal_a2.ext X16
  have F_shift_a2 := F_shift_a2.ext X16
  have V_nb10 := V_nb10.ext X16
  have V_nb12 := V_nb12.ext X16
  have V_nb14 := V_nb14.ext X16
  have V_nb16 : Ar Z h16 nb16 .long 2 (lf [(.long (0 : Int64)), (.long (0 : Int64))]) := V_nb16.congr (lf_rep 2 _)
  refine Jvm.OwnW.putF O16 db_82 (host := "") (Or.inl (hw _ (List.mem_of_getElem? (i := 73) rfl))) Via.refl F_plainSteps_a1 E_a1 (Or.inr ⟨hw _ (List.mem_of_getElem? (i := 74) rfl), rfl, rfl⟩) (hw _ (List.mem_of_getElem? (i := 24) rfl)) (ty := (.array .long)) (by decide) rfl rfl (Or.inl (List.mem_cons_self ..)) (q := 85) rfl ?_
  intro T17 h17 O17 W17
  have E_a1 := E_a1.wr W17
  have F_rule_a1 := F_rule_a1.other W17 (Or.inr (slot_ne (Or.inr (hw _ (List.mem_of_getElem? (i := 45) rfl))) (Or.inr (hw _ (List.mem_of_getElem? (i := 74) rfl))) (by decide) (t := (.object "com/example/occupancy/occupancy/hash/internal/CellRule")) (t' := (.array .long)) (by decide) (by decide)))
  have F_cellCount_a1 := F_cellCount_a1.other W17 (Or.inr (slot_ne (Or.inr (hw _ (List.mem_of_getElem? (i := 52) rfl))) (Or.inr (hw _ (List.mem_of_getElem? (i := 74) rfl))) (by decide) (t := .long) (t' := (.array .long)) (by decide) (by decide)))
  have F_wrapLoss_a1 := F_wrapLoss_a1.other W17 (Or.inr (slot_ne (Or.inr (hw _ (List.mem_of_getElem? (i := 65) rfl))) (Or.inr (hw _ (List.mem_of_getElem? (i := 74) rfl))) (by decide) (t := .long) (t' := (.array .long)) (by decide) (by decide)))
  have F_sums_a1 := F_sums_a1.other W17 (Or.inr (slot_ne (Or.inr (hw _ (List.mem_of_getElem? (i := 68) rfl))) (Or.inr (hw _ (List.mem_of_getElem? (i := 74) rfl))) (by decide) (t := (.array .long)) (t' := (.array .long)) (by decide) (by decide)))
  have F_steps_a1 := F_steps_a1.other W17 (Or.inr (slot_ne (Or.inr (hw _ (List.mem_of_getElem? (i := 70) rfl))) (Or.inr (hw _ (List.mem_of_getElem? (i := 74) rfl))) (by decide) (t := (.array .long)) (t' := (.array .long)) (by decide) (by decide)))
  have F_cells_a1 := F_cells_a1.other W17 (Or.inr (slot_ne (Or.inr (hw _ (List.mem_of_getElem? (i := 72) rfl))) (Or.inr (hw _ (List.mem_of_getElem? (i := 74) rfl))) (by decide) (t := (.array .long)) (t' := (.array .long)) (by decide) (by decide)))
  have F_plainSteps_a1 := F_plainSteps_a1.same W17
  have F_wrapFlips_a1 := F_wrapFlips_a1.other W17 (Or.inr (slot_ne (Or.inr (hw _ (List.mem_of_getElem? (i := 76) rfl))) (Or.inr (hw _ (List.mem_of_getElem? (i := 74) rfl))) (by decide) (t := (.array .long)) (t' := (.array .long)) (by decide) (by decide)))
  have F_size_a1 := F_size_a1.other W17 (Or.inr (slot_ne (Or.inl (hw _ (List.mem_of_getElem? (i := 88) rfl))) (Or.inr (hw _ (List.mem_of_getElem? (i := 74) rfl))) (by decide) (t := .int) (t' := (.array .long)) (by decide) (by decide)))
  have E_a2 := E_a2.wr W17
  have F_cellCount_a2 := F_cellCount_a2.other W17 (Or.inl (Ne.symm n12))
  have F_dividesOutright_a2 := F_dividesOutright_a2.other W17 (Or.inl (Ne.symm n12))
  have F_reciprocal_a2 := F_reciprocal_a2.other W17 (Or.inl (Ne.symm n12))
  have F_shift_a2 := F_shift_a2.other W17 (Or.inl (Ne.symm n12))
  have V_nb10 := V_nb10.other W17 (Ne.symm ne_a1_nb10)
  have V_nb12 := V_nb12.other W17 (Ne.symm ne_a1_nb12)
  have V_nb14 := V_nb14.other W17 (Ne.symm ne_a1_nb14)
  have V_nb16 := V_nb16.other W17 (Ne.symm ne_a1_nb16)
  refine Jvm.OwnW.aloadN O17 db_85 rfl rfl (q := 86) rfl ?_
  refine Jvm.OwnW.iloadN O17 db_86 rfl (q := 87) rfl ?_
  refine Jvm.OwnW.newA' O17 db_87 (ty := .long) rfl (hw _ (List.mem_of_getElem? (i := 66) rfl)) (N := 2) rfl (cap := 2) (by decide) (by decide) (c2 := 7) (s2 := 30) rfl rfl (by decide) (by decide) (q := 89) rfl ?_
  intro nb18 T18 h18 g18 N18 O18 X18 V_nb18
  have ne_a1_nb18 : a1 ≠ nb18 := Nat.ne_of_lt (Nat.lt_of_lt_of_le E_a1.lt (Nat.le_of_eq g18.symm))
  have ne_a2_nb18 : a2 ≠ nb18 := Nat.ne_of_lt (Nat.lt_of_lt_of_le E_a2.lt (Nat.le_of_eq g18.symm))
  have ne_nb10_nb18 : nb10 ≠ nb18 := Nat.ne_of_lt (Nat.lt_of_lt_of_le V_nb10.lt (Nat.le_of_eq g18.symm))
  have ne_nb12_nb18 : nb12 ≠ nb18 := Nat.ne_of_lt (Nat.lt_of_lt_of_le V_nb12.lt (Nat.le_of_eq g18.symm))
  have ne_nb14_nb18 : nb14 ≠ nb18 := Nat.ne_of_lt (Nat.lt_of_lt_of_le V_nb14.lt (Nat.le_of_eq g18.symm))
  have ne_nb16_nb18 : nb16 ≠ nb18 := Nat.ne_of_lt (Nat.lt_of_lt_of_le V_nb16.lt (Nat.le_of_eq g18.symm))
  have E_a1 := E_a1.ext X18
  have F_rule_a1 := F_rule_a1.ext X18
  have F_cellCount_a1 := F_cellCount_a1.ext X18
  have F_wrapLoss_a1 := F_wrapLoss_a1.ext X18
  have F_sums_a1 := F_sums_a1.ext X18
  have F_steps_a1 := F_steps_a1.ext X18
  have F_cells_a1 := F_cells_a1.ext X18
  have F_plainSteps_a1 := F_plainSteps_a1.ext X18
  have F_wrapFlips_a1 := F_wrapFlips_a1.ext X18
  have F_size_a1 := F_size_a1.ext X18
  have E_a2 := E_a2.ext X18
  have F_cellCount_a2 := F_cellCount_a2.ext X18
  have F_dividesOutright_a2 := F_dividesOutright_a2.ext X18
  have F_reciprocal_a2 := F_reciprocal_a2.ext X18
  have F_shift_a2 := F_shift_a2.ext X18
  have V_nb10 := V_nb10.ext X18
  have V_nb12 := V_nb12.ext X18
  have V_nb14 := V_nb14.ext X18
  have V_nb16 := V_nb16.ext X18
  have V_nb18 : Ar Z h18 nb18 .long 2 (lf [(.long (0 : Int64)), (.long (0 : Int64))]) := V_nb18.congr (lf_rep 2 _)
  refine Jvm.OwnW.putF O18 db_89 (host := "") (Or.inl (hw _ (List.mem_of_getElem? (i := 75) rfl))) Via.refl F_wrapFlips_a1 E_a1 (Or.inr ⟨hw _ (List.mem_of_getElem? (i := 76) rfl), rfl, rfl⟩) (hw _ (List.mem_of_getElem? (i := 24) rfl)) (ty := (.array .long)) (by decide) rfl rfl (Or.inl (List.mem_cons_self ..)) (q := 92) rfl ?_
  intro T19 h19 O19 W19
  have E_a1 := E_a1.wr W19
  have F_rule_a1 := F_rule_a1.other W19 (Or.inr (slot_ne (Or.inr (hw _ (List.mem_of_getElem? (i := 45) rfl))) (Or.inr (hw _ (List.mem_of_getElem? (i := 76) rfl))) (by decide) (t := (.object "com/example/occupancy/occupancy/hash/internal/CellRule")) (t' := (.array .long)) (by decide) (by decide)))
  have F_cellCount_a1 := F_cellCount_a1.other W19 (Or.inr (slot_ne (Or.inr (hw _ (List.mem_of_getElem? (i := 52) rfl))) (Or.inr (hw _ (List.mem_of_getElem? (i := 76) rfl))) (by decide) (t := .long) (t' := (.array .long)) (by decide) (by decide)))
  have F_wrapLoss_a1 := F_wrapLoss_a1.other W19 (Or.inr (slot_ne (Or.inr (hw _ (List.mem_of_getElem? (i := 65) rfl))) (Or.inr (hw _ (List.mem_of_getElem? (i := 76) rfl))) (by decide) (t := .long) (t' := (.array .long)) (by decide) (by decide)))
  have F_sums_a1 := F_sums_a1.other W19 (Or.inr (slot_ne (Or.inr (hw _ (List.mem_of_getElem? (i := 68) rfl))) (Or.inr (hw _ (List.mem_of_getElem? (i := 76) rfl))) (by decide) (t := (.array .long)) (t' := (.array .long)) (by decide) (by decide)))
  have F_steps_a1 := F_steps_a1.other W19 (Or.inr (slot_ne (Or.inr (hw _ (List.mem_of_getElem? (i := 70) rfl))) (Or.inr (hw _ (List.mem_of_getElem? (i := 76) rfl))) (by decide) (t := (.array .long)) (t' := (.array .long)) (by decide) (by decide)))
  have F_cells_a1 := F_cells_a1.other W19 (Or.inr (slot_ne (Or.inr (hw _ (List.mem_of_getElem? (i := 72) rfl))) (Or.inr (hw _ (List.mem_of_getElem? (i := 76) rfl))) (by decide) (t := (.array .long)) (t' := (.array .long)) (by decide) (by decide)))
  have F_plainSteps_a1 := F_plainSteps_a1.other W19 (Or.inr (slot_ne (Or.inr (hw _ (List.mem_of_getElem? (i := 74) rfl))) (Or.inr (hw _ (List.mem_of_getElem? (i := 76) rfl))) (by decide) (t := (.array .long)) (t' := (.array .long)) (by decide) (by decide)))
  have F_wrapFlips_a1 := F_wrapFlips_a1.same W19
  have F_size_a1 := F_size_a1.other W19 (Or.inr (slot_ne (Or.inl (hw _ (List.mem_of_getElem? (i := 88) rfl))) (Or.inr (hw _ (List.mem_of_getElem? (i := 76) rfl))) (by decide) (t := .int) (t' := (.array .long)) (by decide) (by decide)))
  have E_a2 := E_a2.wr W19
  have F_cellCount_a2 := F_cellCount_a2.other W19 (Or.inl (Ne.symm n12))
  have F_dividesOutright_a2 := F_dividesOutright_a2.other W19 (Or.inl (Ne.symm n12))
  have F_reciprocal_a2 := F_reciprocal_a2.other W19 (Or.inl (Ne.symm n12))
  have F_shift_a2 := F_shift_a2.other W19 (Or.inl (Ne.symm n12))
  have V_nb10 := V_nb10.other W19 (Ne.symm ne_a1_nb10)
  have V_nb12 := V_nb12.other W19 (Ne.symm ne_a1_nb12)
  have V_nb14 := V_nb14.other W19 (Ne.symm ne_a1_nb14)
  have V_nb16 := V_nb16.other W19 (Ne.symm ne_a1_nb16)
  have V_nb18 := V_nb18.other W19 (Ne.symm ne_a1_nb18)
  exact Jvm.OwnW.ret0 O19 db_92 (by decide) (by decide) ⟨rfl, nb10, nb12, nb14, nb16, nb18, hs0 ▸ N10, hs0 ▸ N12, hs0 ▸ N14, hs0 ▸ N16, hs0 ▸ N18, ne_nb10_nb12, ne_nb10_nb14, ne_nb10_nb16, ne_nb10_nb18, ne_nb12_nb14, ne_nb12_nb16, ne_nb12_nb18, ne_nb14_nb16, ne_nb14_nb18, ne_nb16_nb18, F_rule_a1, F_cellCount_a1, F_wrapLoss_a1, F_sums_a1, F_steps_a1, F_cells_a1, F_plainSteps_a1, F_wrapFlips_a1, F_size_a1, V_nb10, V_nb12, V_nb14, V_nb16, V_nb18⟩
theorem df0_0 : decode prog_29_method_4_code 0 = .ok (.aload_n 0, 1) := by decide +kernel
theorem df0_1 : decode prog_29_method_4_code 1 = .ok (.getfield 72, 3) := by decide +kernel
theorem df0_4 : decode prog_29_method_4_code 4 = .ok (.aload_n 0, 1) := by decide +kernel
theorem df0_5 : decode prog_29_method_4_code 5 = .ok (.getfield 47, 3) := by decide +kernel
theorem df0_8 : decode prog_29_method_4_code 8 = .ok (.arraylength, 1) := by decide +kernel
theorem df0_9 : decode prog_29_method_4_code 9 = .ok (.if_icmp .ne 7, 3) := by decide +kernel
theorem df0_16 : decode prog_29_method_4_code 16 = .ok (.iconst 0, 1) := by decide +kernel
theorem df0_17 : decode prog_29_method_4_code 17 = .ok (.ireturn, 1) := by decide +kernel
theorem ef_f0 (a1 : Addr) (sa : Addr) (x0 x1 : Int64) (m : MethodId) : entryFrame m #[(.ref a1)] 1 = mkF m 0 #[.val (.ref a1)] [] := by first | (simp [entryFrame, mkF, argsToLocals, Value.category, maxLocals]; done) | rfl
theorem pn_f0 : plainFor (⟨"com/example/occupancy/occupancy/hash/internal/CellBatch", "isFull", "()Z"⟩ : MethodName) = true := by first | exact plainFor_of_name (by first | (simp [plainName, overriddenIn]; done) | decide +kernel) | decide +kernel
set_option maxRecDepth 65536 in
set_option maxHeartbeats 40000000 in
theorem rm_f0 (l : Launch) (Z : State) (a0 : Array Value) (hw : ∀ d ∈ tables_1, d.before a0 Z = true) (a1 : Addr) (sa : Addr) (x0 x1 : Int64) (h0 : Heap) (E_a1 : Exa Z h0 a1 "com/example/occupancy/occupancy/hash/internal/CellBatch") (F_sums_a1 : Fld Z h0 a1 "com/example/occupancy/occupancy/hash/internal/CellBatch" "sums" "[J" (.ref sa)) (F_size_a1 : Fld Z h0 a1 "com/example/occupancy/occupancy/hash/internal/CellBatch" "size" "I" (.int (0 : Int32))) (V_sa : Ar Z h0 sa .long 2 (lf [.long x0, .long x1])) :
    Met l Z (⟨"com/example/occupancy/occupancy/hash/internal/CellBatch", "isFull", "()Z"⟩ : MethodName) prog_29_method_4_code 1 (some .boolean) [] ({ frames := 0, cells := 0, slots := 0, locals := 0 } : Room) #[(.ref a1)] [] h0 (fun v h => v = some (.int 0)) := by
  refine Met.mk pn_f0 (ef_f0 a1 sa x0 x1) ?_
  intro C T hs0 O
  show Go C [] (fun v h => v = some (.int 0)) 0 0 (T.setTop (mkF C.m 0 #[.val (.ref a1)] []))
  refine Jvm.OwnW.aloadN O df0_0 rfl rfl (q := 1) rfl ?_
  refine Jvm.OwnW.getF O df0_1 (host := "") (Or.inl (hw _ (List.mem_of_getElem? (i := 87) rfl))) Via.refl F_size_a1 (q := 4) rfl ?_
  intro T1 O1
  refine Jvm.OwnW.aloadN O1 df0_4 rfl rfl (q := 5) rfl ?_
  refine Jvm.OwnW.getF O1 df0_5 (host := "") (Or.inl (hw _ (List.mem_of_getElem? (i := 67) rfl))) Via.refl F_sums_a1 (q := 8) rfl ?_
  intro T2 O2
  refine Jvm.OwnW.lenA O2 df0_8 V_sa (z := (2 : Int32)) rfl (q := 9) rfl ?_
  refine Jvm.OwnW.icmpYes O2 df0_9 (feq (show ¬ ((0 : Int32) = (2 : Int32)) from (by decide))).2 (by decide) (q := 16) rfl ?_
  refine Jvm.OwnW.iconst O2 df0_16 (r := (0 : Int32)) rfl (q := 17) rfl ?_
  exact Jvm.OwnW.retB O2 df0_17 rfl (Or.inl rfl) (by decide) (by decide) rfl
theorem pd_7 : parseMethodDescriptor "()Z" = some ⟨[], some .boolean⟩ := by decide +kernel
theorem da0_0 : decode prog_29_method_14_code 0 = .ok (.aload_n 0, 1) := by decide +kernel
theorem da0_1 : decode prog_29_method_14_code 1 = .ok (.invokevirtual 131, 3) := by decide +kernel
theorem da0_4 : decode prog_29_method_14_code 4 = .ok (.ifCond .eq 20, 3) := by decide +kernel
theorem da0_24 : decode prog_29_method_14_code 24 = .ok (.aload_n 0, 1) := by decide +kernel
theorem da0_25 : decode prog_29_method_14_code 25 = .ok (.getfield 72, 3) := by decide +kernel
theorem da0_28 : decode prog_29_method_14_code 28 = .ok (.istore 5, 2) := by decide +kernel
theorem da0_30 : decode prog_29_method_14_code 30 = .ok (.aload_n 0, 1) := by decide +kernel
theorem da0_31 : decode prog_29_method_14_code 31 = .ok (.getfield 47, 3) := by decide +kernel
theorem da0_34 : decode prog_29_method_14_code 34 = .ok (.iload 5, 2) := by decide +kernel
theorem da0_36 : decode prog_29_method_14_code 36 = .ok (.lload_n 1, 1) := by decide +kernel
theorem da0_37 : decode prog_29_method_14_code 37 = .ok (.lastore, 1) := by decide +kernel
theorem da0_38 : decode prog_29_method_14_code 38 = .ok (.aload_n 0, 1) := by decide +kernel
theorem da0_39 : decode prog_29_method_14_code 39 = .ok (.getfield 51, 3) := by decide +kernel
theorem da0_42 : decode prog_29_method_14_code 42 = .ok (.iload 5, 2) := by decide +kernel
theorem da0_44 : decode prog_29_method_14_code 44 = .ok (.lload_n 3, 1) := by decide +kernel
theorem da0_45 : decode prog_29_method_14_code 45 = .ok (.lastore, 1) := by decide +kernel
theorem da0_46 : decode prog_29_method_14_code 46 = .ok (.aload_n 0, 1) := by decide +kernel
theorem da0_47 : decode prog_29_method_14_code 47 = .ok (.iload 5, 2) := by decide +kernel
theorem da0_49 : decode prog_29_method_14_code 49 = .ok (.iconst 1, 1) := by decide +kernel
theorem da0_50 : decode prog_29_method_14_code 50 = .ok (.iadd, 1) := by decide +kernel
theorem da0_51 : decode prog_29_method_14_code 51 = .ok (.putfield 72, 3) := by decide +kernel
theorem da0_54 : decode prog_29_method_14_code 54 = .ok (.return_, 1) := by decide +kernel
theorem ef_a0 (a1 : Addr) (p2 : Int64) (p4 : Int64) (ar sa ta ca pa fa : Addr) (m wl x0 x1 y0 y1 : Int64) (m : MethodId) : entryFrame m #[(.ref a1), (.long p2), (.long p4)] 6 = mkF m 0 #[.val (.ref a1), .val (.long p2), .second, .val (.long p4), .second, .unset] [] := by first | (simp [entryFrame, mkF, argsToLocals, Value.category, maxLocals]; done) | rfl
theorem pn_a0 : plainFor (⟨"com/example/occupancy/occupancy/hash/internal/CellBatch", "add", "(JJ)V"⟩ : MethodName) = true := by first | exact plainFor_of_name (by first | (simp [plainName, overriddenIn]; done) | decide +kernel) | decide +kernel
set_option maxRecDepth 65536 in
set_option maxHeartbeats 40000000 in
theorem rm_a0 (l : Launch) (Z : State) (a0 : Array Value) (hw : ∀ d ∈ tables_1, d.before a0 Z = true) (a1 : Addr) (p2 : Int64) (p4 : Int64) (ar sa ta ca pa fa : Addr) (m wl x0 x1 y0 y1 : Int64) (h0 : Heap) (E_a1 : Exa Z h0 a1 "com/example/occupancy/occupancy/hash/internal/CellBatch") (F_rule_a1 : Fld Z h0 a1 "com/example/occupancy/occupancy/hash/internal/CellBatch" "rule" "Lcom/example/occupancy/occupancy/hash/internal/CellRule;" (.ref ar)) (F_cellCount_a1 : Fld Z h0 a1 "com/example/occupancy/occupancy/hash/internal/CellBatch" "cellCount" "J" (.long m)) (F_wrapLoss_a1 : Fld Z h0 a1 "com/example/occupancy/occupancy/hash/internal/CellBatch" "wrapLoss" "J" (.long wl)) (F_sums_a1 : Fld Z h0 a1 "com/example/occupancy/occupancy/hash/internal/CellBatch" "sums" "[J" (.ref sa)) (F_steps_a1 : Fld Z h0 a1 "com/example/occupancy/occupancy/hash/internal/CellBatch" "steps" "[J" (.ref ta)) (F_cells_a1 : Fld Z h0 a1 "com/example/occupancy/occupancy/hash/internal/CellBatch" "cells" "[J" (.ref ca)) (F_plainSteps_a1 : Fld Z h0 a1 "com/example/occupancy/occupancy/hash/internal/CellBatch" "plainSteps" "[J" (.ref pa)) (F_wrapFlips_a1 : Fld Z h0 a1 "com/example/occupancy/occupancy/hash/internal/CellBatch" "wrapFlips" "[J" (.ref fa)) (F_size_a1 : Fld Z h0 a1 "com/example/occupancy/occupancy/hash/internal/CellBatch" "size" "I" (.int (0 : Int32))) (V_sa : Ar Z h0 sa .long 2 (lf [.long x0, .long x1])) (V_ta : Ar Z h0 ta .long 2 (lf [.long y0, .long y1])) (n1s : a1 ≠ sa) (n1t : a1 ≠ ta) (nst : sa ≠ ta) :
    Met l Z (⟨"com/example/occupancy/occupancy/hash/internal/CellBatch", "add", "(JJ)V"⟩ : MethodName) prog_29_method_14_code 6 none [] ({ frames := 1, cells := 0, slots := 0, locals := 12 } : Room) #[(.ref a1), (.long p2), (.long p4)] [a1, sa, ta] h0 (fun v h => v = none ∧ Fld Z h a1 "com/example/occupancy/occupancy/hash/internal/CellBatch" "rule" "Lcom/example/occupancy/occupancy/hash/internal/CellRule;" (.ref ar) ∧ Fld Z h a1 "com/example/occupancy/occupancy/hash/internal/CellBatch" "cellCount" "J" (.long m) ∧ Fld Z h a1 "com/example/occupancy/occupancy/hash/internal/CellBatch" "wrapLoss" "J" (.long wl) ∧ Fld Z h a1 "com/example/occupancy/occupancy/hash/internal/CellBatch" "sums" "[J" (.ref sa) ∧ Fld Z h a1 "com/example/occupancy/occupancy/hash/internal/CellBatch" "steps" "[J" (.ref ta) ∧ Fld Z h a1 "com/example/occupancy/occupancy/hash/internal/CellBatch" "cells" "[J" (.ref ca) ∧ Fld Z h a1 "com/example/occupancy/occupancy/hash/internal/CellBatch" "plainSteps" "[J" (.ref pa) ∧ Fld Z h a1 "com/example/occupancy/occupancy/hash/internal/CellBatch" "wrapFlips" "[J" (.ref fa) ∧ Fld Z h a1 "com/example/occupancy/occupancy/hash/internal/CellBatch" "size" "I" (.int (1 : Int32)) ∧ Ar Z h sa .long 2 (lf [.long p2, .long x1]) ∧ Ar Z h ta .long 2 (lf [.long p4, .long y1])) := by
  refine Met.mk pn_a0 (ef_a0 a1 p2 p4 ar sa ta ca pa fa m wl x0 x1 y0 y1) ?_
  intro C T hs0 O
  show Go C [a1, sa, ta] (fun v h => v = none ∧ Fld Z h a1 "com/example/occupancy/occupancy/hash/internal/CellBatch" "rule" "Lcom/example/occupancy/occupancy/hash/internal/CellRule;" (.ref ar) ∧ Fld Z h a1 "com/example/occupancy/occupancy/hash/internal/CellBatch" "cellCount" "J" (.long m) ∧ Fld Z h a1 "com/example/occupancy/occupancy/hash/internal/CellBatch" "wrapLoss" "J" (.long wl) ∧ Fld Z h a1 "com/example/occupancy/occupancy/hash/internal/CellBatch" "sums" "[J" (.ref sa) ∧ Fld Z h a1 "com/example/occupancy/occupancy/hash/internal/CellBatch" "steps" "[J" (.ref ta) ∧ Fld Z h a1 "com/example/occupancy/occupancy/hash/internal/CellBatch" "cells" "[J" (.ref ca) ∧ Fld Z h a1 "com/example/occupancy/occupancy/hash/internal/CellBatch" "plainSteps" "[J" (.ref pa) ∧ Fld Z h a1 "com/example/occupancy/occupancy/hash/internal/CellBatch" "wrapFlips" "[J" (.ref fa) ∧ Fld Z h a1 "com/example/occupancy/occupancy/hash/internal/CellBatch" "size" "I" (.int (1 : Int32)) ∧ Ar Z h sa .long 2 (lf [.long p2, .long x1]) ∧ Ar Z h ta .long 2 (lf [.long p4, .long y1])) 0 0 (T.setTop (mkF C.m 0 #[.val (.ref a1), .val (.long p2), .second, .val (.long p4), .second, .unset] []))
  refine Jvm.OwnW.aloadN O da0_0 rfl rfl (q := 1) rfl ?_
  refine Jvm.OwnW.callV0 O (y := (⟨"com/example/occupancy/occupancy/hash/internal/CellBatch", "isFull", "()Z"⟩ : MethodName)) (z := (⟨"com/example/occupancy/occupancy/hash/internal/CellBatch", "isFull", "()Z"⟩ : MethodName)) (a := a1) (argsL := []) (rest := []) da0_1 (hw _ (List.mem_of_getElem? (i := 82) rfl)) (hw _ (List.mem_of_getElem? (i := 83) rfl)) (hw _ (List.mem_of_getElem? (i := 85) rfl)) rfl (hw _ (List.mem_of_getElem? (i := 84) rfl)) (hw _ (List.mem_of_getElem? (i := 25) rfl)) (hw _ (List.mem_of_getElem? (i := 86) rfl)) (by decide) (rm_f0 l Z a0 hw a1 sa x0 x1 h0 E_a1 F_sums_a1 F_size_a1 V_sa) E_a1 rfl pd_7 rfl (hst := rfl) (W := 0) (Nat.le_of_eq rfl) (by decide) (by decide) (c2 := 0) (s2 := 0) rfl rfl (by decide) (by decide) rfl rfl (q := 4) rfl ?_
  intro v1 T1 O1 q1
  obtain rfl := q1
  show Go C _ _ _ _ (T1.setTop (mkF C.m 4 #[.val (.ref a1), .val (.long p2), .second, .val (.long p4), .second, .unset] [(.int (0 : Int32))]))
  refine Jvm.OwnW.ifYes O1 da0_4 (teq0 (show (0 : Int32) = (0 : Int32) from (by decide))).1 (by decide) (q := 24) rfl ?_
  refine Jvm.OwnW.aloadN O1 da0_24 rfl rfl (q := 25) rfl ?_
  refine Jvm.OwnW.getF O1 da0_25 (host := "") (Or.inl (hw _ (List.mem_of_getElem? (i := 87) rfl))) Via.refl F_size_a1 (q := 28) rfl ?_
  intro T2 O2
  refine Jvm.OwnW.istore O2 da0_28 (L' := #[.val (.ref a1), .val (.long p2), .second, .val (.long p4), .second, .val (.int (0 : Int32))]) rfl (q := 30) rfl ?_
  refine Jvm.OwnW.aloadN O2 da0_30 rfl rfl (q := 31) rfl ?_
  refine Jvm.OwnW.getF O2 da0_31 (host := "") (Or.inl (hw _ (List.mem_of_getElem? (i := 67) rfl))) Via.refl F_sums_a1 (q := 34) rfl ?_
  intro T3 O3
  refine Jvm.OwnW.iload O3 da0_34 rfl (q := 36) rfl ?_
  refine Jvm.OwnW.lloadN O3 da0_36 rfl (q := 37) rfl ?_
  refine Jvm.OwnW.lasA O3 da0_37 V_sa (i := 0) rfl (by decide) (Or.inl (List.mem_cons_of_mem _ (List.mem_cons_self ..))) (q := 38) rfl ?_
  intro T4 h4 O4 W4
  have V_sa : Ar Z h4 sa .long 2 (lf [(.long p2), (.long x1)]) := V_sa.setL W4 (by decide) (Nat.le_of_ble_eq_true rfl)
  have E_a1 := E_a1.wr W4
  have F_rule_a1 := F_rule_a1.other W4 (Or.inl n1s)
  have F_cellCount_a1 := F_cellCount_a1.other W4 (Or.inl n1s)
  have F_wrapLoss_a1 := F_wrapLoss_a1.other W4 (Or.inl n1s)
  have F_sums_a1 := F_sums_a1.other W4 (Or.inl n1s)
  have F_steps_a1 := F_steps_a1.other W4 (Or.inl n1s)
  have F_cells_a1 := F_cells_a1.other W4 (Or.inl n1s)
  have F_plainSteps_a1 := F_plainSteps_a1.other W4 (Or.inl n1s)
  have F_wrapFlips_a1 := F_wrapFlips_a1.other W4 (Or.inl n1s)
  have F_size_a1 := F_size_a1.other W4 (Or.inl n1s)
  have V_ta := V_ta.other W4 (Ne.symm nst)
  refine Jvm.OwnW.aloadN O4 da0_38 rfl rfl (q := 39) rfl ?_
  refine Jvm.OwnW.getF O4 da0_39 (host := "") (Or.inl (hw _ (List.mem_of_getElem? (i := 69) rfl))) Via.refl F_steps_a1 (q := 42) rfl ?_
  intro T5 O5
  refine Jvm.OwnW.iload O5 da0_42 rfl (q := 44) rfl ?_
  refine Jvm.OwnW.lloadN O5 da0_44 rfl (q := 45) rfl ?_
  refine Jvm.OwnW.lasA O5 da0_45 V_ta (i := 0) rfl (by decide) (Or.inl (List.mem_cons_of_mem _ (List.mem_cons_of_mem _ (List.mem_cons_self ..)))) (q := 46) rfl ?_
  intro T6 h6 O6 W6
  have V_ta : Ar Z h6 ta .long 2 (lf [(.long p4), (.long y1)]) := V_ta.setL W6 (by decide) (Nat.le_of_ble_eq_true rfl)
  have E_a1 := E_a1.wr W6
  have F_rule_a1 := F_rule_a1.other W6 (Or.inl n1t)
  have F_cellCount_a1 := F_cellCount_a1.other W6 (Or.inl n1t)
  have F_wrapLoss_a1 := F_wrapLoss_a1.other W6 (Or.inl n1t)
  have F_sums_a1 := F_sums_a1.other W6 (Or.inl n1t)
  have F_steps_a1 := F_steps_a1.other W6 (Or.inl n1t)
  have F_cells_a1 := F_cells_a1.other W6 (Or.inl n1t)
  have F_plainSteps_a1 := F_plainSteps_a1.other W6 (Or.inl n1t)
  have F_wrapFlips_a1 := F_wrapFlips_a1.other W6 (Or.inl n1t)
  have F_size_a1 := F_size_a1.other W6 (Or.inl n1t)
  have V_sa := V_sa.other W6 nst
  refine Jvm.OwnW.aloadN O6 da0_46 rfl rfl (q := 47) rfl ?_
  refine Jvm.OwnW.iload O6 da0_47 rfl (q := 49) rfl ?_
  refine Jvm.OwnW.iconst O6 da0_49 (r := (1 : Int32)) rfl (q := 50) rfl ?_
  refine Jvm.OwnW.iadd O6 da0_50 (r := (1 : Int32)) (by decide) (q := 51) rfl ?_
  refine Jvm.OwnW.putF O6 da0_51 (host := "") (Or.inl (hw _ (List.mem_of_getElem? (i := 87) rfl))) Via.refl F_size_a1 E_a1 (Or.inl (hw _ (List.mem_of_getElem? (i := 88) rfl))) (hw _ (List.mem_of_getElem? (i := 24) rfl)) (ty := .int) (by decide) rfl rfl (Or.inl (List.mem_cons_self ..)) (q := 54) rfl ?_
  intro T7 h7 O7 W7
  have E_a1 := E_a1.wr W7
  have F_rule_a1 := F_rule_a1.other W7 (Or.inr (slot_ne (Or.inr (hw _ (List.mem_of_getElem? (i := 45) rfl))) (Or.inl (hw _ (List.mem_of_getElem? (i := 88) rfl))) (by decide) (t := (.object "com/example/occupancy/occupancy/hash/internal/CellRule")) (t' := .int) (by decide) (by decide)))
  have F_cellCount_a1 := F_cellCount_a1.other W7 (Or.inr (slot_ne (Or.inr (hw _ (List.mem_of_getElem? (i := 52) rfl))) (Or.inl (hw _ (List.mem_of_getElem? (i := 88) rfl))) (by decide) (t := .long) (t' := .int) (by decide) (by decide)))
  have F_wrapLoss_a1 := F_wrapLoss_a1.other W7 (Or.inr (slot_ne (Or.inr (hw _ (List.mem_of_getElem? (i := 65) rfl))) (Or.inl (hw _ (List.mem_of_getElem? (i := 88) rfl))) (by decide) (t := .long) (t' := .int) (by decide) (by decide)))
  have F_sums_a1 := F_sums_a1.other W7 (Or.inr (slot_ne (Or.inr (hw _ (List.mem_of_getElem? (i := 68) rfl))) (Or.inl (hw _ (List.mem_of_getElem? (i := 88) rfl))) (by decide) (t := (.array .long)) (t' := .int) (by decide) (by decide)))
  have F_steps_a1 := F_steps_a1.other W7 (Or.inr (slot_ne (Or.inr (hw _ (List.mem_of_getElem? (i := 70) rfl))) (Or.inl (hw _ (List.mem_of_getElem? (i := 88) rfl))) (by decide) (t := (.array .long)) (t' := .int) (by decide) (by decide)))
  have F_cells_a1 := F_cells_a1.other W7 (Or.inr (slot_ne (Or.inr (hw _ (List.mem_of_getElem? (i := 72) rfl))) (Or.inl (hw _ (List.mem_of_getElem? (i := 88) rfl))) (by decide) (t := (.array .long)) (t' := .int) (by decide) (by decide)))
  have F_plainSteps_a1 := F_plainSteps_a1.other W7 (Or.inr (slot_ne (Or.inr (hw _ (List.mem_of_getElem? (i := 74) rfl))) (Or.inl (hw _ (List.mem_of_getElem? (i := 88) rfl))) (by decide) (t := (.array .long)) (t' := .int) (by decide) (by decide)))
  have F_wrapFlips_a1 := F_wrapFlips_a1.other W7 (Or.inr (slot_ne (Or.inr (hw _ (List.mem_of_getElem? (i := 76) rfl))) (Or.inl (hw _ (List.mem_of_getElem? (i := 88) rfl))) (by decide) (t := (.array .long)) (t' := .int) (by decide) (by decide)))
  have F_size_a1 := F_size_a1.same W7
  have V_sa := V_sa.other W7 (Ne.symm n1s)
  have V_ta := V_ta.other W7 (Ne.symm n1t)
  exact Jvm.OwnW.ret0 O7 da0_54 (by decide) (by decide) ⟨rfl, F_rule_a1, F_cellCount_a1, F_wrapLoss_a1, F_sums_a1, F_steps_a1, F_cells_a1, F_plainSteps_a1, F_wrapFlips_a1, F_size_a1, V_sa, V_ta⟩
theorem df1_0 : decode prog_29_method_4_code 0 = .ok (.aload_n 0, 1) := by decide +kernel
theorem df1_1 : decode prog_29_method_4_code 1 = .ok (.getfield 72, 3) := by decide +kernel
theorem df1_4 : decode prog_29_method_4_code 4 = .ok (.aload_n 0, 1) := by decide +kernel
theorem df1_5 : decode prog_29_method_4_code 5 = .ok (.getfield 47, 3) := by decide +kernel
theorem df1_8 : decode prog_29_method_4_code 8 = .ok (.arraylength, 1) := by decide +kernel
theorem df1_9 : decode prog_29_method_4_code 9 = .ok (.if_icmp .ne 7, 3) := by decide +kernel
theorem df1_16 : decode prog_29_method_4_code 16 = .ok (.iconst 0, 1) := by decide +kernel
theorem df1_17 : decode prog_29_method_4_code 17 = .ok (.ireturn, 1) := by decide +kernel
theorem ef_f1 (a1 : Addr) (sa : Addr) (x0 x1 : Int64) (m : MethodId) : entryFrame m #[(.ref a1)] 1 = mkF m 0 #[.val (.ref a1)] [] := by first | (simp [entryFrame, mkF, argsToLocals, Value.category, maxLocals]; done) | rfl
theorem pn_f1 : plainFor (⟨"com/example/occupancy/occupancy/hash/internal/CellBatch", "isFull", "()Z"⟩ : MethodName) = true := by first | exact plainFor_of_name (by first | (simp [plainName, overriddenIn]; done) | decide +kernel) | decide +kernel
set_option maxRecDepth 65536 in
set_option maxHeartbeats 40000000 in
theorem rm_f1 (l : Launch) (Z : State) (a0 : Array Value) (hw : ∀ d ∈ tables_1, d.before a0 Z = true) (a1 : Addr) (sa : Addr) (x0 x1 : Int64) (h0 : Heap) (E_a1 : Exa Z h0 a1 "com/example/occupancy/occupancy/hash/internal/CellBatch") (F_sums_a1 : Fld Z h0 a1 "com/example/occupancy/occupancy/hash/internal/CellBatch" "sums" "[J" (.ref sa)) (F_size_a1 : Fld Z h0 a1 "com/example/occupancy/occupancy/hash/internal/CellBatch" "size" "I" (.int (1 : Int32))) (V_sa : Ar Z h0 sa .long 2 (lf [.long x0, .long x1])) :
    Met l Z (⟨"com/example/occupancy/occupancy/hash/internal/CellBatch", "isFull", "()Z"⟩ : MethodName) prog_29_method_4_code 1 (some .boolean) [] ({ frames := 0, cells := 0, slots := 0, locals := 0 } : Room) #[(.ref a1)] [] h0 (fun v h => v = some (.int 0)) := by
  refine Met.mk pn_f1 (ef_f1 a1 sa x0 x1) ?_
  intro C T hs0 O
  show Go C [] (fun v h => v = some (.int 0)) 0 0 (T.setTop (mkF C.m 0 #[.val (.ref a1)] []))
  refine Jvm.OwnW.aloadN O df1_0 rfl rfl (q := 1) rfl ?_
  refine Jvm.OwnW.getF O df1_1 (host := "") (Or.inl (hw _ (List.mem_of_getElem? (i := 87) rfl))) Via.refl F_size_a1 (q := 4) rfl ?_
  intro T1 O1
  refine Jvm.OwnW.aloadN O1 df1_4 rfl rfl (q := 5) rfl ?_
  refine Jvm.OwnW.getF O1 df1_5 (host := "") (Or.inl (hw _ (List.mem_of_getElem? (i := 67) rfl))) Via.refl F_sums_a1 (q := 8) rfl ?_
  intro T2 O2
  refine Jvm.OwnW.lenA O2 df1_8 V_sa (z := (2 : Int32)) rfl (q := 9) rfl ?_
  refine Jvm.OwnW.icmpYes O2 df1_9 (feq (show ¬ ((1 : Int32) = (2 : Int32)) from (by decide))).2 (by decide) (q := 16) rfl ?_
  refine Jvm.OwnW.iconst O2 df1_16 (r := (0 : Int32)) rfl (q := 17) rfl ?_
  exact Jvm.OwnW.retB O2 df1_17 rfl (Or.inl rfl) (by decide) (by decide) rfl
theorem da1_0 : decode prog_29_method_14_code 0 = .ok (.aload_n 0, 1) := by decide +kernel
theorem da1_1 : decode prog_29_method_14_code 1 = .ok (.invokevirtual 131, 3) := by decide +kernel
theorem da1_4 : decode prog_29_method_14_code 4 = .ok (.ifCond .eq 20, 3) := by decide +kernel
theorem da1_24 : decode prog_29_method_14_code 24 = .ok (.aload_n 0, 1) := by decide +kernel
theorem da1_25 : decode prog_29_method_14_code 25 = .ok (.getfield 72, 3) := by decide +kernel
theorem da1_28 : decode prog_29_method_14_code 28 = .ok (.istore 5, 2) := by decide +kernel
theorem da1_30 : decode prog_29_method_14_code 30 = .ok (.aload_n 0, 1) := by decide +kernel
theorem da1_31 : decode prog_29_method_14_code 31 = .ok (.getfield 47, 3) := by decide +kernel
theorem da1_34 : decode prog_29_method_14_code 34 = .ok (.iload 5, 2) := by decide +kernel
theorem da1_36 : decode prog_29_method_14_code 36 = .ok (.lload_n 1, 1) := by decide +kernel
theorem da1_37 : decode prog_29_method_14_code 37 = .ok (.lastore, 1) := by decide +kernel
theorem da1_38 : decode prog_29_method_14_code 38 = .ok (.aload_n 0, 1) := by decide +kernel
theorem da1_39 : decode prog_29_method_14_code 39 = .ok (.getfield 51, 3) := by decide +kernel
theorem da1_42 : decode prog_29_method_14_code 42 = .ok (.iload 5, 2) := by decide +kernel
theorem da1_44 : decode prog_29_method_14_code 44 = .ok (.lload_n 3, 1) := by decide +kernel
theorem da1_45 : decode prog_29_method_14_code 45 = .ok (.lastore, 1) := by decide +kernel
theorem da1_46 : decode prog_29_method_14_code 46 = .ok (.aload_n 0, 1) := by decide +kernel
theorem da1_47 : decode prog_29_method_14_code 47 = .ok (.iload 5, 2) := by decide +kernel
theorem da1_49 : decode prog_29_method_14_code 49 = .ok (.iconst 1, 1) := by decide +kernel
theorem da1_50 : decode prog_29_method_14_code 50 = .ok (.iadd, 1) := by decide +kernel
theorem da1_51 : decode prog_29_method_14_code 51 = .ok (.putfield 72, 3) := by decide +kernel
theorem da1_54 : decode prog_29_method_14_code 54 = .ok (.return_, 1) := by decide +kernel
theorem ef_a1 (a1 : Addr) (p2 : Int64) (p4 : Int64) (ar sa ta ca pa fa : Addr) (m wl x0 x1 y0 y1 : Int64) (m : MethodId) : entryFrame m #[(.ref a1), (.long p2), (.long p4)] 6 = mkF m 0 #[.val (.ref a1), .val (.long p2), .second, .val (.long p4), .second, .unset] [] := by first | (simp [entryFrame, mkF, argsToLocals, Value.category, maxLocals]; done) | rfl
theorem pn_a1 : plainFor (⟨"com/example/occupancy/occupancy/hash/internal/CellBatch", "add", "(JJ)V"⟩ : MethodName) = true := by first | exact plainFor_of_name (by first | (simp [plainName, overriddenIn]; done) | decide +kernel) | decide +kernel
set_option maxRecDepth 65536 in
set_option maxHeartbeats 40000000 in
theorem rm_a1 (l : Launch) (Z : State) (a0 : Array Value) (hw : ∀ d ∈ tables_1, d.before a0 Z = true) (a1 : Addr) (p2 : Int64) (p4 : Int64) (ar sa ta ca pa fa : Addr) (m wl x0 x1 y0 y1 : Int64) (h0 : Heap) (E_a1 : Exa Z h0 a1 "com/example/occupancy/occupancy/hash/internal/CellBatch") (F_rule_a1 : Fld Z h0 a1 "com/example/occupancy/occupancy/hash/internal/CellBatch" "rule" "Lcom/example/occupancy/occupancy/hash/internal/CellRule;" (.ref ar)) (F_cellCount_a1 : Fld Z h0 a1 "com/example/occupancy/occupancy/hash/internal/CellBatch" "cellCount" "J" (.long m)) (F_wrapLoss_a1 : Fld Z h0 a1 "com/example/occupancy/occupancy/hash/internal/CellBatch" "wrapLoss" "J" (.long wl)) (F_sums_a1 : Fld Z h0 a1 "com/example/occupancy/occupancy/hash/internal/CellBatch" "sums" "[J" (.ref sa)) (F_steps_a1 : Fld Z h0 a1 "com/example/occupancy/occupancy/hash/internal/CellBatch" "steps" "[J" (.ref ta)) (F_cells_a1 : Fld Z h0 a1 "com/example/occupancy/occupancy/hash/internal/CellBatch" "cells" "[J" (.ref ca)) (F_plainSteps_a1 : Fld Z h0 a1 "com/example/occupancy/occupancy/hash/internal/CellBatch" "plainSteps" "[J" (.ref pa)) (F_wrapFlips_a1 : Fld Z h0 a1 "com/example/occupancy/occupancy/hash/internal/CellBatch" "wrapFlips" "[J" (.ref fa)) (F_size_a1 : Fld Z h0 a1 "com/example/occupancy/occupancy/hash/internal/CellBatch" "size" "I" (.int (1 : Int32))) (V_sa : Ar Z h0 sa .long 2 (lf [.long x0, .long x1])) (V_ta : Ar Z h0 ta .long 2 (lf [.long y0, .long y1])) (n1s : a1 ≠ sa) (n1t : a1 ≠ ta) (nst : sa ≠ ta) :
    Met l Z (⟨"com/example/occupancy/occupancy/hash/internal/CellBatch", "add", "(JJ)V"⟩ : MethodName) prog_29_method_14_code 6 none [] ({ frames := 1, cells := 0, slots := 0, locals := 12 } : Room) #[(.ref a1), (.long p2), (.long p4)] [a1, sa, ta] h0 (fun v h => v = none ∧ Fld Z h a1 "com/example/occupancy/occupancy/hash/internal/CellBatch" "rule" "Lcom/example/occupancy/occupancy/hash/internal/CellRule;" (.ref ar) ∧ Fld Z h a1 "com/example/occupancy/occupancy/hash/internal/CellBatch" "cellCount" "J" (.long m) ∧ Fld Z h a1 "com/example/occupancy/occupancy/hash/internal/CellBatch" "wrapLoss" "J" (.long wl) ∧ Fld Z h a1 "com/example/occupancy/occupancy/hash/internal/CellBatch" "sums" "[J" (.ref sa) ∧ Fld Z h a1 "com/example/occupancy/occupancy/hash/internal/CellBatch" "steps" "[J" (.ref ta) ∧ Fld Z h a1 "com/example/occupancy/occupancy/hash/internal/CellBatch" "cells" "[J" (.ref ca) ∧ Fld Z h a1 "com/example/occupancy/occupancy/hash/internal/CellBatch" "plainSteps" "[J" (.ref pa) ∧ Fld Z h a1 "com/example/occupancy/occupancy/hash/internal/CellBatch" "wrapFlips" "[J" (.ref fa) ∧ Fld Z h a1 "com/example/occupancy/occupancy/hash/internal/CellBatch" "size" "I" (.int (2 : Int32)) ∧ Ar Z h sa .long 2 (lf [.long x0, .long p2]) ∧ Ar Z h ta .long 2 (lf [.long y0, .long p4])) := by
  refine Met.mk pn_a1 (ef_a1 a1 p2 p4 ar sa ta ca pa fa m wl x0 x1 y0 y1) ?_
  intro C T hs0 O
  show Go C [a1, sa, ta] (fun v h => v = none ∧ Fld Z h a1 "com/example/occupancy/occupancy/hash/internal/CellBatch" "rule" "Lcom/example/occupancy/occupancy/hash/internal/CellRule;" (.ref ar) ∧ Fld Z h a1 "com/example/occupancy/occupancy/hash/internal/CellBatch" "cellCount" "J" (.long m) ∧ Fld Z h a1 "com/example/occupancy/occupancy/hash/internal/CellBatch" "wrapLoss" "J" (.long wl) ∧ Fld Z h a1 "com/example/occupancy/occupancy/hash/internal/CellBatch" "sums" "[J" (.ref sa) ∧ Fld Z h a1 "com/example/occupancy/occupancy/hash/internal/CellBatch" "steps" "[J" (.ref ta) ∧ Fld Z h a1 "com/example/occupancy/occupancy/hash/internal/CellBatch" "cells" "[J" (.ref ca) ∧ Fld Z h a1 "com/example/occupancy/occupancy/hash/internal/CellBatch" "plainSteps" "[J" (.ref pa) ∧ Fld Z h a1 "com/example/occupancy/occupancy/hash/internal/CellBatch" "wrapFlips" "[J" (.ref fa) ∧ Fld Z h a1 "com/example/occupancy/occupancy/hash/internal/CellBatch" "size" "I" (.int (2 : Int32)) ∧ Ar Z h sa .long 2 (lf [.long x0, .long p2]) ∧ Ar Z h ta .long 2 (lf [.long y0, .long p4])) 0 0 (T.setTop (mkF C.m 0 #[.val (.ref a1), .val (.long p2), .second, .val (.long p4), .second, .unset] []))
  refine Jvm.OwnW.aloadN O da1_0 rfl rfl (q := 1) rfl ?_
  refine Jvm.OwnW.callV0 O (y := (⟨"com/example/occupancy/occupancy/hash/internal/CellBatch", "isFull", "()Z"⟩ : MethodName)) (z := (⟨"com/example/occupancy/occupancy/hash/internal/CellBatch", "isFull", "()Z"⟩ : MethodName)) (a := a1) (argsL := []) (rest := []) da1_1 (hw _ (List.mem_of_getElem? (i := 82) rfl)) (hw _ (List.mem_of_getElem? (i := 83) rfl)) (hw _ (List.mem_of_getElem? (i := 85) rfl)) rfl (hw _ (List.mem_of_getElem? (i := 84) rfl)) (hw _ (List.mem_of_getElem? (i := 25) rfl)) (hw _ (List.mem_of_getElem? (i := 86) rfl)) (by decide) (rm_f1 l Z a0 hw a1 sa x0 x1 h0 E_a1 F_sums_a1 F_size_a1 V_sa) E_a1 rfl pd_7 rfl (hst := rfl) (W := 0) (Nat.le_of_eq rfl) (by decide) (by decide) (c2 := 0) (s2 := 0) rfl rfl (by decide) (by decide) rfl rfl (q := 4) rfl ?_
  intro v1 T1 O1 q1
  obtain rfl := q1
  show Go C _ _ _ _ (T1.setTop (mkF C.m 4 #[.val (.ref a1), .val (.long p2), .second, .val (.long p4), .second, .unset] [(.int (0 : Int32))]))
  refine Jvm.OwnW.ifYes O1 da1_4 (teq0 (show (0 : Int32) = (0 : Int32) from (by decide))).1 (by decide) (q := 24) rfl ?_
  refine Jvm.OwnW.aloadN O1 da1_24 rfl rfl (q := 25) rfl ?_
  refine Jvm.OwnW.getF O1 da1_25 (host := "") (Or.inl (hw _ (List.mem_of_getElem? (i := 87) rfl))) Via.refl F_size_a1 (q := 28) rfl ?_
  intro T2 O2
  refine Jvm.OwnW.istore O2 da1_28 (L' := #[.val (.ref a1), .val (.long p2), .second, .val (.long p4), .second, .val (.int (1 : Int32))]) rfl (q := 30) rfl ?_
  refine Jvm.OwnW.aloadN O2 da1_30 rfl rfl (q := 31) rfl ?_
  refine Jvm.OwnW.getF O2 da1_31 (host := "") (Or.inl (hw _ (List.mem_of_getElem? (i := 67) rfl))) Via.refl F_sums_a1 (q := 34) rfl ?_
  intro T3 O3
  refine Jvm.OwnW.iload O3 da1_34 rfl (q := 36) rfl ?_
  refine Jvm.OwnW.lloadN O3 da1_36 rfl (q := 37) rfl ?_
  refine Jvm.OwnW.lasA O3 da1_37 V_sa (i := 1) rfl (by decide) (Or.inl (List.mem_cons_of_mem _ (List.mem_cons_self ..))) (q := 38) rfl ?_
  intro T4 h4 O4 W4
  have V_sa : Ar Z h4 sa .long 2 (lf [(.long x0), (.long p2)]) := V_sa.setL W4 (by decide) (Nat.le_of_ble_eq_true rfl)
  have E_a1 := E_a1.wr W4
  have F_rule_a1 := F_rule_a1.other W4 (Or.inl n1s)
  have F_cellCount_a1 := F_cellCount_a1.other W4 (Or.inl n1s)
  have F_wrapLoss_a1 := F_wrapLoss_a1.other W4 (Or.inl n1s)
  have F_sums_a1 := F_sums_a1.other W4 (Or.inl n1s)
  have F_steps_a1 := F_steps_a1.other W4 (Or.inl n1s)
  have F_cells_a1 := F_cells_a1.other W4 (Or.inl n1s)
  have F_plainSteps_a1 := F_plainSteps_a1.other W4 (Or.inl n1s)
  have F_wrapFlips_a1 := F_wrapFlips_a1.other W4 (Or.inl n1s)
  have F_size_a1 := F_size_a1.other W4 (Or.inl n1s)
  have V_ta := V_ta.other W4 (Ne.symm nst)
  refine Jvm.OwnW.aloadN O4 da1_38 rfl rfl (q := 39) rfl ?_
  refine Jvm.OwnW.getF O4 da1_39 (host := "") (Or.inl (hw _ (List.mem_of_getElem? (i := 69) rfl))) Via.refl F_steps_a1 (q := 42) rfl ?_
  intro T5 O5
  refine Jvm.OwnW.iload O5 da1_42 rfl (q := 44) rfl ?_
  refine Jvm.OwnW.lloadN O5 da1_44 rfl (q := 45) rfl ?_
  refine Jvm.OwnW.lasA O5 da1_45 V_ta (i := 1) rfl (by decide) (Or.inl (List.mem_cons_of_mem _ (List.mem_cons_of_mem _ (List.mem_cons_self ..)))) (q := 46) rfl ?_
  intro T6 h6 O6 W6
  have V_ta : Ar Z h6 ta .long 2 (lf [(.long y0), (.long p4)]) := V_ta.setL W6 (by decide) (Nat.le_of_ble_eq_true rfl)
  have E_a1 := E_a1.wr W6
  have F_rule_a1 := F_rule_a1.other W6 (Or.inl n1t)
  have F_cellCount_a1 := F_cellCount_a1.other W6 (Or.inl n1t)
  have F_wrapLoss_a1 := F_wrapLoss_a1.other W6 (Or.inl n1t)
  have F_sums_a1 := F_sums_a1.other W6 (Or.inl n1t)
  have F_steps_a1 := F_steps_a1.other W6 (Or.inl n1t)
  have F_cells_a1 := F_cells_a1.other W6 (Or.inl n1t)
  have F_plainSteps_a1 := F_plainSteps_a1.other W6 (Or.inl n1t)
  have F_wrapFlips_a1 := F_wrapFlips_a1.other W6 (Or.inl n1t)
  have F_size_a1 := F_size_a1.other W6 (Or.inl n1t)
  have V_sa := V_sa.other W6 nst
  refine Jvm.OwnW.aloadN O6 da1_46 rfl rfl (q := 47) rfl ?_
  refine Jvm.OwnW.iload O6 da1_47 rfl (q := 49) rfl ?_
  refine Jvm.OwnW.iconst O6 da1_49 (r := (1 : Int32)) rfl (q := 50) rfl ?_
  refine Jvm.OwnW.iadd O6 da1_50 (r := (2 : Int32)) (by decide) (q := 51) rfl ?_
  refine Jvm.OwnW.putF O6 da1_51 (host := "") (Or.inl (hw _ (List.mem_of_getElem? (i := 87) rfl))) Via.refl F_size_a1 E_a1 (Or.inl (hw _ (List.mem_of_getElem? (i := 88) rfl))) (hw _ (List.mem_of_getElem? (i := 24) rfl)) (ty := .int) (by decide) rfl rfl (Or.inl (List.mem_cons_self ..)) (q := 54) rfl ?_
  intro T7 h7 O7 W7
  have E_a1 := E_a1.wr W7
  have F_rule_a1 := F_rule_a1.other W7 (Or.inr (slot_ne (Or.inr (hw _ (List.mem_of_getElem? (i := 45) rfl))) (Or.inl (hw _ (List.mem_of_getElem? (i := 88) rfl))) (by decide) (t := (.object "com/example/occupancy/occupancy/hash/internal/CellRule")) (t' := .int) (by decide) (by decide)))
  have F_cellCount_a1 := F_cellCount_a1.other W7 (Or.inr (slot_ne (Or.inr (hw _ (List.mem_of_getElem? (i := 52) rfl))) (Or.inl (hw _ (List.mem_of_getElem? (i := 88) rfl))) (by decide) (t := .long) (t' := .int) (by decide) (by decide)))
  have F_wrapLoss_a1 := F_wrapLoss_a1.other W7 (Or.inr (slot_ne (Or.inr (hw _ (List.mem_of_getElem? (i := 65) rfl))) (Or.inl (hw _ (List.mem_of_getElem? (i := 88) rfl))) (by decide) (t := .long) (t' := .int) (by decide) (by decide)))
  have F_sums_a1 := F_sums_a1.other W7 (Or.inr (slot_ne (Or.inr (hw _ (List.mem_of_getElem? (i := 68) rfl))) (Or.inl (hw _ (List.mem_of_getElem? (i := 88) rfl))) (by decide) (t := (.array .long)) (t' := .int) (by decide) (by decide)))
  have F_steps_a1 := F_steps_a1.other W7 (Or.inr (slot_ne (Or.inr (hw _ (List.mem_of_getElem? (i := 70) rfl))) (Or.inl (hw _ (List.mem_of_getElem? (i := 88) rfl))) (by decide) (t := (.array .long)) (t' := .int) (by decide) (by decide)))
  have F_cells_a1 := F_cells_a1.other W7 (Or.inr (slot_ne (Or.inr (hw _ (List.mem_of_getElem? (i := 72) rfl))) (Or.inl (hw _ (List.mem_of_getElem? (i := 88) rfl))) (by decide) (t := (.array .long)) (t' := .int) (by decide) (by decide)))
  have F_plainSteps_a1 := F_plainSteps_a1.other W7 (Or.inr (slot_ne (Or.inr (hw _ (List.mem_of_getElem? (i := 74) rfl))) (Or.inl (hw _ (List.mem_of_getElem? (i := 88) rfl))) (by decide) (t := (.array .long)) (t' := .int) (by decide) (by decide)))
  have F_wrapFlips_a1 := F_wrapFlips_a1.other W7 (Or.inr (slot_ne (Or.inr (hw _ (List.mem_of_getElem? (i := 76) rfl))) (Or.inl (hw _ (List.mem_of_getElem? (i := 88) rfl))) (by decide) (t := (.array .long)) (t' := .int) (by decide) (by decide)))
  have F_size_a1 := F_size_a1.same W7
  have V_sa := V_sa.other W7 (Ne.symm n1s)
  have V_ta := V_ta.other W7 (Ne.symm n1t)
  exact Jvm.OwnW.ret0 O7 da1_54 (by decide) (by decide) ⟨rfl, F_rule_a1, F_cellCount_a1, F_wrapLoss_a1, F_sums_a1, F_steps_a1, F_cells_a1, F_plainSteps_a1, F_wrapFlips_a1, F_size_a1, V_sa, V_ta⟩
theorem pd_8 : parseMethodDescriptor "([J[JI)V" = some ⟨[(.array .long), (.array .long), .int], none⟩ := by decide +kernel
theorem dt_0 : decode prog_29_method_10_code 0 = .ok (.aload_n 0, 1) := by decide +kernel
theorem dt_1 : decode prog_29_method_10_code 1 = .ok (.getfield 72, 3) := by decide +kernel
theorem dt_4 : decode prog_29_method_10_code 4 = .ok (.istore_n 1, 1) := by decide +kernel
theorem dt_5 : decode prog_29_method_10_code 5 = .ok (.aload_n 0, 1) := by decide +kernel
theorem dt_6 : decode prog_29_method_10_code 6 = .ok (.getfield 35, 3) := by decide +kernel
theorem dt_9 : decode prog_29_method_10_code 9 = .ok (.lstore_n 2, 1) := by decide +kernel
theorem dt_10 : decode prog_29_method_10_code 10 = .ok (.aload_n 0, 1) := by decide +kernel
theorem dt_11 : decode prog_29_method_10_code 11 = .ok (.getfield 44, 3) := by decide +kernel
theorem dt_14 : decode prog_29_method_10_code 14 = .ok (.lstore 4, 2) := by decide +kernel
theorem dt_16 : decode prog_29_method_10_code 16 = .ok (.aload_n 0, 1) := by decide +kernel
theorem dt_17 : decode prog_29_method_10_code 17 = .ok (.getfield 57, 3) := by decide +kernel
theorem dt_20 : decode prog_29_method_10_code 20 = .ok (.astore 6, 2) := by decide +kernel
theorem dt_22 : decode prog_29_method_10_code 22 = .ok (.aload_n 0, 1) := by decide +kernel
theorem dt_23 : decode prog_29_method_10_code 23 = .ok (.getfield 60, 3) := by decide +kernel
theorem dt_26 : decode prog_29_method_10_code 26 = .ok (.astore 7, 2) := by decide +kernel
theorem dt_28 : decode prog_29_method_10_code 28 = .ok (.aload_n 0, 1) := by decide +kernel
theorem dt_29 : decode prog_29_method_10_code 29 = .ok (.getfield 26, 3) := by decide +kernel
theorem dt_32 : decode prog_29_method_10_code 32 = .ok (.aload_n 0, 1) := by decide +kernel
theorem dt_33 : decode prog_29_method_10_code 33 = .ok (.getfield 47, 3) := by decide +kernel
theorem dt_36 : decode prog_29_method_10_code 36 = .ok (.aload_n 0, 1) := by decide +kernel
theorem dt_37 : decode prog_29_method_10_code 37 = .ok (.getfield 54, 3) := by decide +kernel
theorem dt_40 : decode prog_29_method_10_code 40 = .ok (.iload_n 1, 1) := by decide +kernel
theorem dt_41 : decode prog_29_method_10_code 41 = .ok (.invokevirtual 127, 3) := by decide +kernel
theorem dt_44 : decode prog_29_method_10_code 44 = .ok (.aload_n 0, 1) := by decide +kernel
theorem dt_45 : decode prog_29_method_10_code 45 = .ok (.getfield 26, 3) := by decide +kernel
theorem dt_48 : decode prog_29_method_10_code 48 = .ok (.aload_n 0, 1) := by decide +kernel
theorem dt_49 : decode prog_29_method_10_code 49 = .ok (.getfield 51, 3) := by decide +kernel
theorem dt_52 : decode prog_29_method_10_code 52 = .ok (.aload 6, 2) := by decide +kernel
theorem dt_54 : decode prog_29_method_10_code 54 = .ok (.iload_n 1, 1) := by decide +kernel
theorem dt_55 : decode prog_29_method_10_code 55 = .ok (.invokevirtual 127, 3) := by decide +kernel
theorem dt_58 : decode prog_29_method_10_code 58 = .ok (.iconst 0, 1) := by decide +kernel
theorem dt_59 : decode prog_29_method_10_code 59 = .ok (.istore 8, 2) := by decide +kernel
theorem dt_61 : decode prog_29_method_10_code 61 = .ok (.iload 8, 2) := by decide +kernel
theorem dt_63 : decode prog_29_method_10_code 63 = .ok (.iload_n 1, 1) := by decide +kernel
theorem dt_64 : decode prog_29_method_10_code 64 = .ok (.if_icmp .ge 57, 3) := by decide +kernel
theorem dt_67 : decode prog_29_method_10_code 67 = .ok (.aload 6, 2) := by decide +kernel
theorem dt_69 : decode prog_29_method_10_code 69 = .ok (.iload 8, 2) := by decide +kernel
theorem dt_71 : decode prog_29_method_10_code 71 = .ok (.laload, 1) := by decide +kernel
theorem dt_72 : decode prog_29_method_10_code 72 = .ok (.lload_n 2, 1) := by decide +kernel
theorem dt_73 : decode prog_29_method_10_code 73 = .ok (.lsub, 1) := by decide +kernel
theorem dt_74 : decode prog_29_method_10_code 74 = .ok (.lstore 9, 2) := by decide +kernel
theorem dt_76 : decode prog_29_method_10_code 76 = .ok (.lload 9, 2) := by decide +kernel
theorem dt_78 : decode prog_29_method_10_code 78 = .ok (.lload 4, 2) := by decide +kernel
theorem dt_80 : decode prog_29_method_10_code 80 = .ok (.lsub, 1) := by decide +kernel
theorem dt_81 : decode prog_29_method_10_code 81 = .ok (.lstore 11, 2) := by decide +kernel
theorem dt_83 : decode prog_29_method_10_code 83 = .ok (.lload 11, 2) := by decide +kernel
theorem dt_85 : decode prog_29_method_10_code 85 = .ok (.lload 11, 2) := by decide +kernel
theorem dt_87 : decode prog_29_method_10_code 87 = .ok (.lload_n 2, 1) := by decide +kernel
theorem dt_88 : decode prog_29_method_10_code 88 = .ok (.ladd, 1) := by decide +kernel
theorem dt_89 : decode prog_29_method_10_code 89 = .ok (.bipush 63, 2) := by decide +kernel
theorem dt_91 : decode prog_29_method_10_code 91 = .ok (.lushr, 1) := by decide +kernel
theorem dt_92 : decode prog_29_method_10_code 92 = .ok (.lneg, 1) := by decide +kernel
theorem dt_93 : decode prog_29_method_10_code 93 = .ok (.lload_n 2, 1) := by decide +kernel
theorem dt_94 : decode prog_29_method_10_code 94 = .ok (.land, 1) := by decide +kernel
theorem dt_95 : decode prog_29_method_10_code 95 = .ok (.ladd, 1) := by decide +kernel
theorem dt_96 : decode prog_29_method_10_code 96 = .ok (.lstore 13, 2) := by decide +kernel
theorem dt_98 : decode prog_29_method_10_code 98 = .ok (.aload 6, 2) := by decide +kernel
theorem dt_100 : decode prog_29_method_10_code 100 = .ok (.iload 8, 2) := by decide +kernel
theorem dt_102 : decode prog_29_method_10_code 102 = .ok (.lload 9, 2) := by decide +kernel
theorem dt_104 : decode prog_29_method_10_code 104 = .ok (.lastore, 1) := by decide +kernel
theorem dt_105 : decode prog_29_method_10_code 105 = .ok (.aload 7, 2) := by decide +kernel
theorem dt_107 : decode prog_29_method_10_code 107 = .ok (.iload 8, 2) := by decide +kernel
theorem dt_109 : decode prog_29_method_10_code 109 = .ok (.lload 9, 2) := by decide +kernel
theorem dt_111 : decode prog_29_method_10_code 111 = .ok (.lload 13, 2) := by decide +kernel
theorem dt_113 : decode prog_29_method_10_code 113 = .ok (.lxor, 1) := by decide +kernel
theorem dt_114 : decode prog_29_method_10_code 114 = .ok (.lastore, 1) := by decide +kernel
theorem dt_115 : decode prog_29_method_10_code 115 = .ok (.iinc 8 1, 3) := by decide +kernel
theorem dt_118 : decode prog_29_method_10_code 118 = .ok (.goto (-57), 3) := by decide +kernel
theorem dt_121 : decode prog_29_method_10_code 121 = .ok (.return_, 1) := by decide +kernel
theorem ef_t (a1 : Addr) (ar sa ta ca pa fa : Addr) (wl : Int64) (m rc : Int64) (d sh : Int32) (x0 x1 y0 y1 u0 u1 u2 u3 u4 u5 : Int64) (m : MethodId) : entryFrame m #[(.ref a1)] 15 = mkF m 0 #[.val (.ref a1), .unset, .unset, .unset, .unset, .unset, .unset, .unset, .unset, .unset, .unset, .unset, .unset, .unset, .unset] [] := by first | (simp [entryFrame, mkF, argsToLocals, Value.category, maxLocals]; done) | rfl
theorem pn_t : plainFor (⟨"com/example/occupancy/occupancy/hash/internal/CellBatch", "start", "()V"⟩ : MethodName) = true := by first | exact plainFor_of_name (by first | (simp [plainName, overriddenIn]; done) | decide +kernel) | decide +kernel
set_option maxRecDepth 65536 in
set_option maxHeartbeats 40000000 in
theorem rm_t (l : Launch) (Z : State) (a0 : Array Value) (hw : ∀ d ∈ tables_1, d.before a0 Z = true) (a1 : Addr) (ar sa ta ca pa fa : Addr) (wl : Int64) (m rc : Int64) (d sh : Int32) (x0 x1 y0 y1 u0 u1 u2 u3 u4 u5 : Int64) (M : Nat) (h0 : Heap) (E_a1 : Exa Z h0 a1 "com/example/occupancy/occupancy/hash/internal/CellBatch") (F_rule_a1 : Fld Z h0 a1 "com/example/occupancy/occupancy/hash/internal/CellBatch" "rule" "Lcom/example/occupancy/occupancy/hash/internal/CellRule;" (.ref ar)) (F_cellCount_a1 : Fld Z h0 a1 "com/example/occupancy/occupancy/hash/internal/CellBatch" "cellCount" "J" (.long m)) (F_wrapLoss_a1 : Fld Z h0 a1 "com/example/occupancy/occupancy/hash/internal/CellBatch" "wrapLoss" "J" (.long wl)) (F_sums_a1 : Fld Z h0 a1 "com/example/occupancy/occupancy/hash/internal/CellBatch" "sums" "[J" (.ref sa)) (F_steps_a1 : Fld Z h0 a1 "com/example/occupancy/occupancy/hash/internal/CellBatch" "steps" "[J" (.ref ta)) (F_cells_a1 : Fld Z h0 a1 "com/example/occupancy/occupancy/hash/internal/CellBatch" "cells" "[J" (.ref ca)) (F_plainSteps_a1 : Fld Z h0 a1 "com/example/occupancy/occupancy/hash/internal/CellBatch" "plainSteps" "[J" (.ref pa)) (F_wrapFlips_a1 : Fld Z h0 a1 "com/example/occupancy/occupancy/hash/internal/CellBatch" "wrapFlips" "[J" (.ref fa)) (F_size_a1 : Fld Z h0 a1 "com/example/occupancy/occupancy/hash/internal/CellBatch" "size" "I" (.int (2 : Int32))) (E_ar : Exa Z h0 ar "com/example/occupancy/occupancy/hash/internal/CellRule") (F_cellCount_ar : Fld Z h0 ar "com/example/occupancy/occupancy/hash/internal/CellRule" "cellCount" "J" (.long m)) (F_dividesOutright_ar : Fld Z h0 ar "com/example/occupancy/occupancy/hash/internal/CellRule" "dividesOutright" "Z" (.int d)) (F_reciprocal_ar : Fld Z h0 ar "com/example/occupancy/occupancy/hash/internal/CellRule" "reciprocal" "J" (.long rc)) (F_shift_ar : Fld Z h0 ar "com/example/occupancy/occupancy/hash/internal/CellRule" "shift" "I" (.int sh)) (n_sa_ta : sa ≠ ta) (n_sa_ca : sa ≠ ca) (n_sa_pa : sa ≠ pa) (n_sa_fa : sa ≠ fa) (n_ta_ca : ta ≠ ca) (n_ta_pa : ta ≠ pa) (n_ta_fa : ta ≠ fa) (n_ca_pa : ca ≠ pa) (n_ca_fa : ca ≠ fa) (n_pa_fa : pa ≠ fa) (n_a1_sa : a1 ≠ sa) (n_a1_ta : a1 ≠ ta) (n_a1_ca : a1 ≠ ca) (n_a1_pa : a1 ≠ pa) (n_a1_fa : a1 ≠ fa) (n_ar_sa : ar ≠ sa) (n_ar_ta : ar ≠ ta) (n_ar_ca : ar ≠ ca) (n_ar_pa : ar ≠ pa) (n_ar_fa : ar ≠ fa) (V_sa : Ar Z h0 sa .long 2 (lf [.long x0, .long x1])) (V_ta : Ar Z h0 ta .long 2 (lf [.long y0, .long y1])) (V_ca : Ar Z h0 ca .long 2 (lf [.long u0, .long u1])) (V_pa : Ar Z h0 pa .long 2 (lf [.long u2, .long u3])) (V_fa : Ar Z h0 fa .long 2 (lf [.long u4, .long u5])) (hrule : own_rule m d rc sh) (hwl : own_c m (-1) + 1 = wl) (hm : m.toInt = (M : Int)) (hM : 0 < M) :
    Met l Z (⟨"com/example/occupancy/occupancy/hash/internal/CellBatch", "start", "()V"⟩ : MethodName) prog_29_method_10_code 15 none [] ({ frames := 3, cells := 0, slots := 0, locals := 84 } : Room) #[(.ref a1)] [ca, pa, fa] h0 (fun v h => v = none ∧ ∃ p0 w0 p1 w1 : Int64, own_SW m y0 p0 w0 M ∧ own_SW m y1 p1 w1 M ∧ Ar Z h ca .long 2 (lf [.long (own_c m x0), .long (own_c m x1)]) ∧ Ar Z h pa .long 2 (lf [.long p0, .long p1]) ∧ Ar Z h fa .long 2 (lf [.long (p0 ^^^ w0), .long (p1 ^^^ w1)])) := by
  refine Met.mk pn_t (ef_t a1 ar sa ta ca pa fa wl m rc d sh x0 x1 y0 y1 u0 u1 u2 u3 u4 u5) ?_
  intro C T hs0 O
  show Go C [ca, pa, fa] (fun v h => v = none ∧ ∃ p0 w0 p1 w1 : Int64, own_SW m y0 p0 w0 M ∧ own_SW m y1 p1 w1 M ∧ Ar Z h ca .long 2 (lf [.long (own_c m x0), .long (own_c m x1)]) ∧ Ar Z h pa .long 2 (lf [.long p0, .long p1]) ∧ Ar Z h fa .long 2 (lf [.long (p0 ^^^ w0), .long (p1 ^^^ w1)])) 0 0 (T.setTop (mkF C.m 0 #[.val (.ref a1), .unset, .unset, .unset, .unset, .unset, .unset, .unset, .unset, .unset, .unset, .unset, .unset, .unset, .unset] []))
  refine Jvm.OwnW.aloadN O dt_0 rfl rfl (q := 1) rfl ?_
  refine Jvm.OwnW.getF O dt_1 (host := "") (Or.inl (hw _ (List.mem_of_getElem? (i := 87) rfl))) Via.refl F_size_a1 (q := 4) rfl ?_
  intro T1 O1
  refine Jvm.OwnW.istoreN O1 dt_4 (L' := #[.val (.ref a1), .val (.int (2 : Int32)), .unset, .unset, .unset, .unset, .unset, .unset, .unset, .unset, .unset, .unset, .unset, .unset, .unset]) rfl (q := 5) rfl ?_
  refine Jvm.OwnW.aloadN O1 dt_5 rfl rfl (q := 6) rfl ?_
  refine Jvm.OwnW.getF O1 dt_6 (host := "") (Or.inl (hw _ (List.mem_of_getElem? (i := 51) rfl))) Via.refl F_cellCount_a1 (q := 9) rfl ?_
  intro T2 O2
  refine Jvm.OwnW.lstoreN O2 dt_9 (L' := #[.val (.ref a1), .val (.int (2 : Int32)), .val (.long m), .second, .unset, .unset, .unset, .unset, .unset, .unset, .unset, .unset, .unset, .unset, .unset]) rfl (q := 10) rfl ?_
  refine Jvm.OwnW.aloadN O2 dt_10 rfl rfl (q := 11) rfl ?_
  refine Jvm.OwnW.getF O2 dt_11 (host := "") (Or.inl (hw _ (List.mem_of_getElem? (i := 64) rfl))) Via.refl F_wrapLoss_a1 (q := 14) rfl ?_
  intro T3 O3
  refine Jvm.OwnW.lstore O3 dt_14 (L' := #[.val (.ref a1), .val (.int (2 : Int32)), .val (.long m), .second, .val (.long wl), .second, .unset, .unset, .unset, .unset, .unset, .unset, .unset, .unset, .unset]) rfl (q := 16) rfl ?_
  refine Jvm.OwnW.aloadN O3 dt_16 rfl rfl (q := 17) rfl ?_
  refine Jvm.OwnW.getF O3 dt_17 (host := "") (Or.inl (hw _ (List.mem_of_getElem? (i := 73) rfl))) Via.refl F_plainSteps_a1 (q := 20) rfl ?_
  intro T4 O4
  refine Jvm.OwnW.astore O4 dt_20 rfl (L' := #[.val (.ref a1), .val (.int (2 : Int32)), .val (.long m), .second, .val (.long wl), .second, .val (.ref pa), .unset, .unset, .unset, .unset, .unset, .unset, .unset, .unset]) rfl (q := 22) rfl ?_
  refine Jvm.OwnW.aloadN O4 dt_22 rfl rfl (q := 23) rfl ?_
  refine Jvm.OwnW.getF O4 dt_23 (host := "") (Or.inl (hw _ (List.mem_of_getElem? (i := 75) rfl))) Via.refl F_wrapFlips_a1 (q := 26) rfl ?_
  intro T5 O5
  refine Jvm.OwnW.astore O5 dt_26 rfl (L' := #[.val (.ref a1), .val (.int (2 : Int32)), .val (.long m), .second, .val (.long wl), .second, .val (.ref pa), .val (.ref fa), .unset, .unset, .unset, .unset, .unset, .unset, .unset]) rfl (q := 28) rfl ?_
  refine Jvm.OwnW.aloadN O5 dt_28 rfl rfl (q := 29) rfl ?_
  refine Jvm.OwnW.getF O5 dt_29 (host := "") (Or.inl (hw _ (List.mem_of_getElem? (i := 44) rfl))) Via.refl F_rule_a1 (q := 32) rfl ?_
  intro T6 O6
  refine Jvm.OwnW.aloadN O6 dt_32 rfl rfl (q := 33) rfl ?_
  refine Jvm.OwnW.getF O6 dt_33 (host := "") (Or.inl (hw _ (List.mem_of_getElem? (i := 67) rfl))) Via.refl F_sums_a1 (q := 36) rfl ?_
  intro T7 O7
  refine Jvm.OwnW.aloadN O7 dt_36 rfl rfl (q := 37) rfl ?_
  refine Jvm.OwnW.getF O7 dt_37 (host := "") (Or.inl (hw _ (List.mem_of_getElem? (i := 71) rfl))) Via.refl F_cells_a1 (q := 40) rfl ?_
  intro T8 O8
  refine Jvm.OwnW.iloadN O8 dt_40 rfl (q := 41) rfl ?_
  refine Jvm.OwnW.callV O8 (y := (⟨"com/example/occupancy/occupancy/hash/internal/CellRule", "cellsOf", "([J[JI)V"⟩ : MethodName)) (z := (⟨"com/example/occupancy/occupancy/hash/internal/CellRule", "cellsOf", "([J[JI)V"⟩ : MethodName)) (a := ar) (argsL := [(.ref sa), (.ref ca), (.int (2 : Int32))]) (rest := []) dt_41 (hw _ (List.mem_of_getElem? (i := 94) rfl)) (hw _ (List.mem_of_getElem? (i := 95) rfl)) (hw _ (List.mem_of_getElem? (i := 97) rfl)) rfl (hw _ (List.mem_of_getElem? (i := 96) rfl)) (hw _ (List.mem_of_getElem? (i := 7) rfl)) (hw _ (List.mem_of_getElem? (i := 98) rfl)) (by decide) (rm_s l Z a0 hw ar sa ca m rc d sh x0 x1 u0 u1 h0 E_ar F_cellCount_ar F_dividesOutright_ar F_reciprocal_ar F_shift_ar V_sa V_ca n_sa_ca n_ar_ca hrule) E_ar rfl pd_8 rfl (hst := rfl) (W := 0) (Nat.le_of_eq rfl) (by decide) (by decide) (c2 := 0) (s2 := 0) rfl rfl (by decide) (by decide) (allS (Or.inl (List.mem_cons_self ..)) all0) (q := 44) rfl ?_
  intro v9 T9 h9 O9 K9 q9
  obtain ⟨rfl, V_ca⟩ := q9
  have E_a1 := E_a1.keep K9
  have F_rule_a1 := F_rule_a1.keep K9 (ninS n_a1_ca nin0)
  have F_cellCount_a1 := F_cellCount_a1.keep K9 (ninS n_a1_ca nin0)
  have F_wrapLoss_a1 := F_wrapLoss_a1.keep K9 (ninS n_a1_ca nin0)
  have F_sums_a1 := F_sums_a1.keep K9 (ninS n_a1_ca nin0)
  have F_steps_a1 := F_steps_a1.keep K9 (ninS n_a1_ca nin0)
  have F_cells_a1 := F_cells_a1.keep K9 (ninS n_a1_ca nin0)
  have F_plainSteps_a1 := F_plainSteps_a1.keep K9 (ninS n_a1_ca nin0)
  have F_wrapFlips_a1 := F_wrapFlips_a1.keep K9 (ninS n_a1_ca nin0)
  have F_size_a1 := F_size_a1.keep K9 (ninS n_a1_ca nin0)
  have E_ar := E_ar.keep K9
  have F_cellCount_ar := F_cellCount_ar.keep K9 (ninS n_ar_ca nin0)
  have F_dividesOutright_ar := F_dividesOutright_ar.keep K9 (ninS n_ar_ca nin0)
  have F_reciprocal_ar := F_reciprocal_ar.keep K9 (ninS n_ar_ca nin0)
  have F_shift_ar := F_shift_ar.keep K9 (ninS n_ar_ca nin0)
  have V_sa := V_sa.keep K9 (ninS n_sa_ca nin0)
  have V_ta := V_ta.keep K9 (ninS n_ta_ca nin0)
  have V_pa := V_pa.keep K9 (ninS (Ne.symm n_ca_pa) nin0)
  have V_fa := V_fa.keep K9 (ninS (Ne.symm n_ca_fa) nin0)
  show Go C _ _ _ _ (T9.setTop (mkF C.m 44 #[.val (.ref a1), .val (.int (2 : Int32)), .val (.long m), .second, .val (.long wl), .second, .val (.ref pa), .val (.ref fa), .unset, .unset, .unset, .unset, .unset, .unset, .unset] []))
  refine Jvm.OwnW.aloadN O9 dt_44 rfl rfl (q := 45) rfl ?_
  refine Jvm.OwnW.getF O9 dt_45 (host := "") (Or.inl (hw _ (List.mem_of_getElem? (i := 44) rfl))) Via.refl F_rule_a1 (q := 48) rfl ?_
  intro T10 O10
  refine Jvm.OwnW.aloadN O10 dt_48 rfl rfl (q := 49) rfl ?_
  refine Jvm.OwnW.getF O10 dt_49 (host := "") (Or.inl (hw _ (List.mem_of_getElem? (i := 69) rfl))) Via.refl F_steps_a1 (q := 52) rfl ?_
  intro T11 O11
  refine Jvm.OwnW.aload O11 dt_52 rfl rfl (q := 54) rfl ?_
  refine Jvm.OwnW.iloadN O11 dt_54 rfl (q := 55) rfl ?_
  refine Jvm.OwnW.callV O11 (y := (⟨"com/example/occupancy/occupancy/hash/internal/CellRule", "cellsOf", "([J[JI)V"⟩ : MethodName)) (z := (⟨"com/example/occupancy/occupancy/hash/internal/CellRule", "cellsOf", "([J[JI)V"⟩ : MethodName)) (a := ar) (argsL := [(.ref ta), (.ref pa), (.int (2 : Int32))]) (rest := []) dt_55 (hw _ (List.mem_of_getElem? (i := 94) rfl)) (hw _ (List.mem_of_getElem? (i := 95) rfl)) (hw _ (List.mem_of_getElem? (i := 97) rfl)) rfl (hw _ (List.mem_of_getElem? (i := 96) rfl)) (hw _ (List.mem_of_getElem? (i := 7) rfl)) (hw _ (List.mem_of_getElem? (i := 98) rfl)) (by decide) (rm_s l Z a0 hw ar ta pa m rc d sh y0 y1 u2 u3 h9 E_ar F_cellCount_ar F_dividesOutright_ar F_reciprocal_ar F_shift_ar V_ta V_pa n_ta_pa n_ar_pa hrule) E_ar rfl pd_8 rfl (hst := rfl) (W := 0) (Nat.le_of_eq rfl) (by decide) (by decide) (c2 := 0) (s2 := 0) rfl rfl (by decide) (by decide) (allS (Or.inl (List.mem_cons_of_mem _ (List.mem_cons_self ..))) all0) (q := 58) rfl ?_
  intro v12 T12 h12 O12 K12 q12
  obtain ⟨rfl, V_pa⟩ := q12
  have E_a1 := E_a1.keep K12
  have F_rule_a1 := F_rule_a1.keep K12 (ninS n_a1_pa nin0)
  have F_cellCount_a1 := F_cellCount_a1.keep K12 (ninS n_a1_pa nin0)
  have F_wrapLoss_a1 := F_wrapLoss_a1.keep K12 (ninS n_a1_pa nin0)
  have F_sums_a1 := F_sums_a1.keep K12 (ninS n_a1_pa nin0)
  have F_steps_a1 := F_steps_a1.keep K12 (ninS n_a1_pa nin0)
  have F_cells_a1 := F_cells_a1.keep K12 (ninS n_a1_pa nin0)
  have F_plainSteps_a1 := F_plainSteps_a1.keep K12 (ninS n_a1_pa nin0)
  have F_wrapFlips_a1 := F_wrapFlips_a1.keep K12 (ninS n_a1_pa nin0)
  have F_size_a1 := F_size_a1.keep K12 (ninS n_a1_pa nin0)
  have E_ar := E_ar.keep K12
  have F_cellCount_ar := F_cellCount_ar.keep K12 (ninS n_ar_pa nin0)
  have F_dividesOutright_ar := F_dividesOutright_ar.keep K12 (ninS n_ar_pa nin0)
  have F_reciprocal_ar := F_reciprocal_ar.keep K12 (ninS n_ar_pa nin0)
  have F_shift_ar := F_shift_ar.keep K12 (ninS n_ar_pa nin0)
  have V_sa := V_sa.keep K12 (ninS n_sa_pa nin0)
  have V_ta := V_ta.keep K12 (ninS n_ta_pa nin0)
  have V_fa := V_fa.keep K12 (ninS (Ne.symm n_pa_fa) nin0)
  have V_ca := V_ca.keep K12 (ninS n_ca_pa nin0)
  show Go C _ _ _ _ (T12.setTop (mkF C.m 58 #[.val (.ref a1), .val (.int (2 : Int32)), .val (.long m), .second, .val (.long wl), .second, .val (.ref pa), .val (.ref fa), .unset, .unset, .unset, .unset, .unset, .unset, .unset] []))
  refine Jvm.OwnW.iconst O12 dt_58 (r := (0 : Int32)) rfl (q := 59) rfl ?_
  refine Jvm.OwnW.istore O12 dt_59 (L' := #[.val (.ref a1), .val (.int (2 : Int32)), .val (.long m), .second, .val (.long wl), .second, .val (.ref pa), .val (.ref fa), .val (.int (0 : Int32)), .unset, .unset, .unset, .unset, .unset, .unset]) rfl (q := 61) rfl ?_
  refine Jvm.OwnW.iload O12 dt_61 rfl (q := 63) rfl ?_
  refine Jvm.OwnW.iloadN O12 dt_63 rfl (q := 64) rfl ?_
  refine Jvm.OwnW.icmpNo O12 dt_64 (tlt (show (0 : Int32) < (2 : Int32) from (by decide))).2.1 (q := 67) rfl ?_
  refine Jvm.OwnW.aload O12 dt_67 rfl rfl (q := 69) rfl ?_
  refine Jvm.OwnW.iload O12 dt_69 rfl (q := 71) rfl ?_
  refine Jvm.OwnW.lalA O12 dt_71 V_pa (i := 0) rfl (by decide) (v := (.long (own_c m y0))) rfl (q := 72) rfl ?_
  refine Jvm.OwnW.lloadN O12 dt_72 rfl (q := 73) rfl ?_
  obtain ⟨p0, hp0⟩ : ∃ zz_, ((own_c m y0) - m) = zz_ := ⟨_, rfl⟩
  refine Jvm.OwnW.lsub O12 dt_73 hp0 (q := 74) rfl ?_
  refine Jvm.OwnW.lstore O12 dt_74 (L' := #[.val (.ref a1), .val (.int (2 : Int32)), .val (.long m), .second, .val (.long wl), .second, .val (.ref pa), .val (.ref fa), .val (.int (0 : Int32)), .val (.long p0), .second, .unset, .unset, .unset, .unset]) rfl (q := 76) rfl ?_
  refine Jvm.OwnW.lload O12 dt_76 rfl (q := 78) rfl ?_
  refine Jvm.OwnW.lload O12 dt_78 rfl (q := 80) rfl ?_
  obtain ⟨xe0, hxe0⟩ : ∃ zz_, (p0 - wl) = zz_ := ⟨_, rfl⟩
  refine Jvm.OwnW.lsub O12 dt_80 hxe0 (q := 81) rfl ?_
  refine Jvm.OwnW.lstore O12 dt_81 (L' := #[.val (.ref a1), .val (.int (2 : Int32)), .val (.long m), .second, .val (.long wl), .second, .val (.ref pa), .val (.ref fa), .val (.int (0 : Int32)), .val (.long p0), .second, .val (.long xe0), .second, .unset, .unset]) rfl (q := 83) rfl ?_
  refine Jvm.OwnW.lload O12 dt_83 rfl (q := 85) rfl ?_
  refine Jvm.OwnW.lload O12 dt_85 rfl (q := 87) rfl ?_
  refine Jvm.OwnW.lloadN O12 dt_87 rfl (q := 88) rfl ?_
  refine Jvm.OwnW.ladd O12 dt_88 rfl (q := 89) rfl ?_
  refine Jvm.OwnW.bipush O12 dt_89 (r := (63 : Int32)) rfl (q := 91) rfl ?_
  refine Jvm.OwnW.lushr O12 dt_91 rfl (q := 92) rfl ?_
  refine Jvm.OwnW.lneg O12 dt_92 rfl (q := 93) rfl ?_
  refine Jvm.OwnW.lloadN O12 dt_93 rfl (q := 94) rfl ?_
  refine Jvm.OwnW.land O12 dt_94 rfl (q := 95) rfl ?_
  obtain ⟨w0, hw0⟩ : ∃ zz_, (xe0 + ((-(((xe0 + m).toUInt64 >>> ((63 : Int32) &&& 0x3f).toInt64.toUInt64).toInt64)) &&& m)) = zz_ := ⟨_, rfl⟩
  refine Jvm.OwnW.ladd O12 dt_95 hw0 (q := 96) rfl ?_
  refine Jvm.OwnW.lstore O12 dt_96 (L' := #[.val (.ref a1), .val (.int (2 : Int32)), .val (.long m), .second, .val (.long wl), .second, .val (.ref pa), .val (.ref fa), .val (.int (0 : Int32)), .val (.long p0), .second, .val (.long xe0), .second, .val (.long w0), .second]) rfl (q := 98) rfl ?_
  refine Jvm.OwnW.aload O12 dt_98 rfl rfl (q := 100) rfl ?_
  refine Jvm.OwnW.iload O12 dt_100 rfl (q := 102) rfl ?_
  refine Jvm.OwnW.lload O12 dt_102 rfl (q := 104) rfl ?_
  refine Jvm.OwnW.lasA O12 dt_104 V_pa (i := 0) rfl (by decide) (Or.inl (List.mem_cons_of_mem _ (List.mem_cons_self ..))) (q := 105) rfl ?_
  intro T13 h13 O13 W13
  have V_pa : Ar Z h13 pa .long 2 (lf [(.long p0), (.long (own_c m y1))]) := V_pa.setL W13 (by decide) (Nat.le_of_ble_eq_true rfl)
  have E_a1 := E_a1.wr W13
  have F_rule_a1 := F_rule_a1.other W13 (Or.inl n_a1_pa)
  have F_cellCount_a1 := F_cellCount_a1.other W13 (Or.inl n_a1_pa)
  have F_wrapLoss_a1 := F_wrapLoss_a1.other W13 (Or.inl n_a1_pa)
  have F_sums_a1 := F_sums_a1.other W13 (Or.inl n_a1_pa)
  have F_steps_a1 := F_steps_a1.other W13 (Or.inl n_a1_pa)
  have F_cells_a1 := F_cells_a1.other W13 (Or.inl n_a1_pa)
  have F_plainSteps_a1 := F_plainSteps_a1.other W13 (Or.inl n_a1_pa)
  have F_wrapFlips_a1 := F_wrapFlips_a1.other W13 (Or.inl n_a1_pa)
  have F_size_a1 := F_size_a1.other W13 (Or.inl n_a1_pa)
  have E_ar := E_ar.wr W13
  have F_cellCount_ar := F_cellCount_ar.other W13 (Or.inl n_ar_pa)
  have F_dividesOutright_ar := F_dividesOutright_ar.other W13 (Or.inl n_ar_pa)
  have F_reciprocal_ar := F_reciprocal_ar.other W13 (Or.inl n_ar_pa)
  have F_shift_ar := F_shift_ar.other W13 (Or.inl n_ar_pa)
  have V_sa := V_sa.other W13 n_sa_pa
  have V_ta := V_ta.other W13 n_ta_pa
  have V_fa := V_fa.other W13 (Ne.symm n_pa_fa)
  have V_ca := V_ca.other W13 n_ca_pa
  have SW0 := own_start hm hM rfl hwl hp0 hxe0 hw0
  refine Jvm.OwnW.aload O13 dt_105 rfl rfl (q := 107) rfl ?_
  refine Jvm.OwnW.iload O13 dt_107 rfl (q := 109) rfl ?_
  refine Jvm.OwnW.lload O13 dt_109 rfl (q := 111) rfl ?_
  refine Jvm.OwnW.lload O13 dt_111 rfl (q := 113) rfl ?_
  refine Jvm.OwnW.lxor O13 dt_113 rfl (q := 114) rfl ?_
  refine Jvm.OwnW.lasA O13 dt_114 V_fa (i := 0) rfl (by decide) (Or.inl (List.mem_cons_of_mem _ (List.mem_cons_of_mem _ (List.mem_cons_self ..)))) (q := 115) rfl ?_
  intro T14 h14 O14 W14
  have V_fa : Ar Z h14 fa .long 2 (lf [(.long (p0 ^^^ w0)), (.long u5)]) := V_fa.setL W14 (by decide) (Nat.le_of_ble_eq_true rfl)
  have E_a1 := E_a1.wr W14
  have F_rule_a1 := F_rule_a1.other W14 (Or.inl n_a1_fa)
  have F_cellCount_a1 := F_cellCount_a1.other W14 (Or.inl n_a1_fa)
  have F_wrapLoss_a1 := F_wrapLoss_a1.other W14 (Or.inl n_a1_fa)
  have F_sums_a1 := F_sums_a1.other W14 (Or.inl n_a1_fa)
  have F_steps_a1 := F_steps_a1.other W14 (Or.inl n_a1_fa)
  have F_cells_a1 := F_cells_a1.other W14 (Or.inl n_a1_fa)
  have F_plainSteps_a1 := F_plainSteps_a1.other W14 (Or.inl n_a1_fa)
  have F_wrapFlips_a1 := F_wrapFlips_a1.other W14 (Or.inl n_a1_fa)
  have F_size_a1 := F_size_a1.other W14 (Or.inl n_a1_fa)
  have E_ar := E_ar.wr W14
  have F_cellCount_ar := F_cellCount_ar.other W14 (Or.inl n_ar_fa)
  have F_dividesOutright_ar := F_dividesOutright_ar.other W14 (Or.inl n_ar_fa)
  have F_reciprocal_ar := F_reciprocal_ar.other W14 (Or.inl n_ar_fa)
  have F_shift_ar := F_shift_ar.other W14 (Or.inl n_ar_fa)
  have V_sa := V_sa.other W14 n_sa_fa
  have V_ta := V_ta.other W14 n_ta_fa
  have V_ca := V_ca.other W14 n_ca_fa
  have V_pa := V_pa.other W14 n_pa_fa
  refine Jvm.OwnW.iinc O14 dt_115 rfl (L' := #[.val (.ref a1), .val (.int (2 : Int32)), .val (.long m), .second, .val (.long wl), .second, .val (.ref pa), .val (.ref fa), .val (.int (1 : Int32)), .val (.long p0), .second, .val (.long xe0), .second, .val (.long w0), .second]) rfl (q := 118) rfl ?_
  refine Jvm.OwnW.goto O14 dt_118 (by decide) (q := 61) rfl ?_
  refine Jvm.OwnW.iload O14 dt_61 rfl (q := 63) rfl ?_
  refine Jvm.OwnW.iloadN O14 dt_63 rfl (q := 64) rfl ?_
  refine Jvm.OwnW.icmpNo O14 dt_64 (tlt (show (1 : Int32) < (2 : Int32) from (by decide))).2.1 (q := 67) rfl ?_
  refine Jvm.OwnW.aload O14 dt_67 rfl rfl (q := 69) rfl ?_
  refine Jvm.OwnW.iload O14 dt_69 rfl (q := 71) rfl ?_
  refine Jvm.OwnW.lalA O14 dt_71 V_pa (i := 1) rfl (by decide) (v := (.long (own_c m y1))) rfl (q := 72) rfl ?_
  refine Jvm.OwnW.lloadN O14 dt_72 rfl (q := 73) rfl ?_
  obtain ⟨p1, hp1⟩ : ∃ zz_, ((own_c m y1) - m) = zz_ := ⟨_, rfl⟩
  refine Jvm.OwnW.lsub O14 dt_73 hp1 (q := 74) rfl ?_
  refine Jvm.OwnW.lstore O14 dt_74 (L' := #[.val (.ref a1), .val (.int (2 : Int32)), .val (.long m), .second, .val (.long wl), .second, .val (.ref pa), .val (.ref fa), .val (.int (1 : Int32)), .val (.long p1), .second, .val (.long xe0), .second, .val (.long w0), .second]) rfl (q := 76) rfl ?_
  refine Jvm.OwnW.lload O14 dt_76 rfl (q := 78) rfl ?_
  refine Jvm.OwnW.lload O14 dt_78 rfl (q := 80) rfl ?_
  obtain ⟨xe1, hxe1⟩ : ∃ zz_, (p1 - wl) = zz_ := ⟨_, rfl⟩
  refine Jvm.OwnW.lsub O14 dt_80 hxe1 (q := 81) rfl ?_
  refine Jvm.OwnW.lstore O14 dt_81 (L' := #[.val (.ref a1), .val (.int (2 : Int32)), .val (.long m), .second, .val (.long wl), .second, .val (.ref pa), .val (.ref fa), .val (.int (1 : Int32)), .val (.long p1), .second, .val (.long xe1), .second, .val (.long w0), .second]) rfl (q := 83) rfl ?_
  refine Jvm.OwnW.lload O14 dt_83 rfl (q := 85) rfl ?_
  refine Jvm.OwnW.lload O14 dt_85 rfl (q := 87) rfl ?_
  refine Jvm.OwnW.lloadN O14 dt_87 rfl (q := 88) rfl ?_
  refine Jvm.OwnW.ladd O14 dt_88 rfl (q := 89) rfl ?_
  refine Jvm.OwnW.bipush O14 dt_89 (r := (63 : Int32)) rfl (q := 91) rfl ?_
  refine Jvm.OwnW.lushr O14 dt_91 rfl (q := 92) rfl ?_
  refine Jvm.OwnW.lneg O14 dt_92 rfl (q := 93) rfl ?_
  refine Jvm.OwnW.lloadN O14 dt_93 rfl (q := 94) rfl ?_
  refine Jvm.OwnW.land O14 dt_94 rfl (q := 95) rfl ?_
  obtain ⟨w1, hw1⟩ : ∃ zz_, (xe1 + ((-(((xe1 + m).toUInt64 >>> ((63 : Int32) &&& 0x3f).toInt64.toUInt64).toInt64)) &&& m)) = zz_ := ⟨_, rfl⟩
  refine Jvm.OwnW.ladd O14 dt_95 hw1 (q := 96) rfl ?_
  refine Jvm.OwnW.lstore O14 dt_96 (L' := #[.val (.ref a1), .val (.int (2 : Int32)), .val (.long m), .second, .val (.long wl), .second, .val (.ref pa), .val (.ref fa), .val (.int (1 : Int32)), .val (.long p1), .second, .val (.long xe1), .second, .val (.long w1), .second]) rfl (q := 98) rfl ?_
  refine Jvm.OwnW.aload O14 dt_98 rfl rfl (q := 100) rfl ?_
  refine Jvm.OwnW.iload O14 dt_100 rfl (q := 102) rfl ?_
  refine Jvm.OwnW.lload O14 dt_102 rfl (q := 104) rfl ?_
  refine Jvm.OwnW.lasA O14 dt_104 V_pa (i := 1) rfl (by decide) (Or.inl (List.mem_cons_of_mem _ (List.mem_cons_self ..))) (q := 105) rfl ?_
  intro T15 h15 O15 W15
  have V_pa : Ar Z h15 pa .long 2 (lf [(.long p0), (.long p1)]) := V_pa.setL W15 (by decide) (Nat.le_of_ble_eq_true rfl)
  have E_a1 := E_a1.wr W15
  have F_rule_a1 := F_rule_a1.other W15 (Or.inl n_a1_pa)
  have F_cellCount_a1 := F_cellCount_a1.other W15 (Or.inl n_a1_pa)
  have F_wrapLoss_a1 := F_wrapLoss_a1.other W15 (Or.inl n_a1_pa)
  have F_sums_a1 := F_sums_a1.other W15 (Or.inl n_a1_pa)
  have F_steps_a1 := F_steps_a1.other W15 (Or.inl n_a1_pa)
  have F_cells_a1 := F_cells_a1.other W15 (Or.inl n_a1_pa)
  have F_plainSteps_a1 := F_plainSteps_a1.other W15 (Or.inl n_a1_pa)
  have F_wrapFlips_a1 := F_wrapFlips_a1.other W15 (Or.inl n_a1_pa)
  have F_size_a1 := F_size_a1.other W15 (Or.inl n_a1_pa)
  have E_ar := E_ar.wr W15
  have F_cellCount_ar := F_cellCount_ar.other W15 (Or.inl n_ar_pa)
  have F_dividesOutright_ar := F_dividesOutright_ar.other W15 (Or.inl n_ar_pa)
  have F_reciprocal_ar := F_reciprocal_ar.other W15 (Or.inl n_ar_pa)
  have F_shift_ar := F_shift_ar.other W15 (Or.inl n_ar_pa)
  have V_sa := V_sa.other W15 n_sa_pa
  have V_ta := V_ta.other W15 n_ta_pa
  have V_fa := V_fa.other W15 (Ne.symm n_pa_fa)
  have V_ca := V_ca.other W15 n_ca_pa
  have SW1 := own_start hm hM rfl hwl hp1 hxe1 hw1
  refine Jvm.OwnW.aload O15 dt_105 rfl rfl (q := 107) rfl ?_
  refine Jvm.OwnW.iload O15 dt_107 rfl (q := 109) rfl ?_
  refine Jvm.OwnW.lload O15 dt_109 rfl (q := 111) rfl ?_
  refine Jvm.OwnW.lload O15 dt_111 rfl (q := 113) rfl ?_
  refine Jvm.OwnW.lxor O15 dt_113 rfl (q := 114) rfl ?_
  refine Jvm.OwnW.lasA O15 dt_114 V_fa (i := 1) rfl (by decide) (Or.inl (List.mem_cons_of_mem _ (List.mem_cons_of_mem _ (List.mem_cons_self ..)))) (q := 115) rfl ?_
  intro T16 h16 O16 W16
  have V_fa : Ar Z h16 fa .long 2 (lf [(.long (p0 ^^^ w0)), (.long (p1 ^^^ w1))]) := V_fa.setL W16 (by decide) (Nat.le_of_ble_eq_true rfl)
  have E_a1 := E_a1.wr W16
  have F_rule_a1 := F_rule_a1.other W16 (Or.inl n_a1_fa)
  have F_cellCount_a1 := F_cellCount_a1.other W16 (Or.inl n_a1_fa)
  have F_wrapLoss_a1 := F_wrapLoss_a1.other W16 (Or.inl n_a1_fa)
  have F_sums_a1 := F_sums_a1.other W16 (Or.inl n_a1_fa)
  have F_steps_a1 := F_steps_a1.other W16 (Or.inl n_a1_fa)
  have F_cells_a1 := F_cells_a1.other W16 (Or.inl n_a1_fa)
  have F_plainSteps_a1 := F_plainSteps_a1.other W16 (Or.inl n_a1_fa)
  have F_wrapFlips_a1 := F_wrapFlips_a1.other W16 (Or.inl n_a1_fa)
  have F_size_a1 := F_size_a1.other W16 (Or.inl n_a1_fa)
  have E_ar := E_ar.wr W16
  have F_cellCount_ar := F_cellCount_ar.other W16 (Or.inl n_ar_fa)
  have F_dividesOutright_ar := F_dividesOutright_ar.other W16 (Or.inl n_ar_fa)
  have F_reciprocal_ar := F_reciprocal_ar.other W16 (Or.inl n_ar_fa)
  have F_shift_ar := F_shift_ar.other W16 (Or.inl n_ar_fa)
  have V_sa := V_sa.other W16 n_sa_fa
  have V_ta := V_ta.other W16 n_ta_fa
  have V_ca := V_ca.other W16 n_ca_fa
  have V_pa := V_pa.other W16 n_pa_fa
  refine Jvm.OwnW.iinc O16 dt_115 rfl (L' := #[.val (.ref a1), .val (.int (2 : Int32)), .val (.long m), .second, .val (.long wl), .second, .val (.ref pa), .val (.ref fa), .val (.int (2 : Int32)), .val (.long p1), .second, .val (.long xe1), .second, .val (.long w1), .second]) rfl (q := 118) rfl ?_
  refine Jvm.OwnW.goto O16 dt_118 (by decide) (q := 61) rfl ?_
  refine Jvm.OwnW.iload O16 dt_61 rfl (q := 63) rfl ?_
  refine Jvm.OwnW.iloadN O16 dt_63 rfl (q := 64) rfl ?_
  refine Jvm.OwnW.icmpYes O16 dt_64 (flt (show ¬ ((2 : Int32) < (2 : Int32)) from (by decide))).2.1 (by decide) (q := 121) rfl ?_
  exact Jvm.OwnW.ret0 O16 dt_121 (by decide) (by decide) ⟨rfl, p0, w0, p1, w1, SW0, SW1, V_ca, V_pa, V_fa⟩
theorem dg_0 : decode prog_29_method_11_code 0 = .ok (.aload_n 0, 1) := by decide +kernel
theorem dg_1 : decode prog_29_method_11_code 1 = .ok (.getfield 54, 3) := by decide +kernel
theorem dg_4 : decode prog_29_method_11_code 4 = .ok (.areturn, 1) := by decide +kernel
theorem ef_g (a1 : Addr) (ca : Addr) (m : MethodId) : entryFrame m #[(.ref a1)] 1 = mkF m 0 #[.val (.ref a1)] [] := by first | (simp [entryFrame, mkF, argsToLocals, Value.category, maxLocals]; done) | rfl
theorem pn_g : plainFor (⟨"com/example/occupancy/occupancy/hash/internal/CellBatch", "cells", "()[J"⟩ : MethodName) = true := by first | exact plainFor_of_name (by first | (simp [plainName, overriddenIn]; done) | decide +kernel) | decide +kernel
set_option maxRecDepth 65536 in
set_option maxHeartbeats 40000000 in
theorem rm_g (l : Launch) (Z : State) (a0 : Array Value) (hw : ∀ d ∈ tables_1, d.before a0 Z = true) (a1 : Addr) (ca : Addr) (h0 : Heap) (E_a1 : Exa Z h0 a1 "com/example/occupancy/occupancy/hash/internal/CellBatch") (F_cells_a1 : Fld Z h0 a1 "com/example/occupancy/occupancy/hash/internal/CellBatch" "cells" "[J" (.ref ca)) :
    Met l Z (⟨"com/example/occupancy/occupancy/hash/internal/CellBatch", "cells", "()[J"⟩ : MethodName) prog_29_method_11_code 1 (some (.array .long)) [] ({ frames := 0, cells := 0, slots := 0, locals := 0 } : Room) #[(.ref a1)] [] h0 (fun v h => v = some (.ref ca)) := by
  refine Met.mk pn_g (ef_g a1 ca) ?_
  intro C T hs0 O
  show Go C [] (fun v h => v = some (.ref ca)) 0 0 (T.setTop (mkF C.m 0 #[.val (.ref a1)] []))
  refine Jvm.OwnW.aloadN O dg_0 rfl rfl (q := 1) rfl ?_
  refine Jvm.OwnW.getF O dg_1 (host := "") (Or.inl (hw _ (List.mem_of_getElem? (i := 71) rfl))) Via.refl F_cells_a1 (q := 4) rfl ?_
  intro T1 O1
  exact Jvm.OwnW.retA O1 dg_4 rfl rfl (by first | rfl | (cases ((.ref ca)) <;> rfl)) (by decide) (by decide) rfl
theorem dp_0 : decode prog_29_method_12_code 0 = .ok (.aload_n 0, 1) := by decide +kernel
theorem dp_1 : decode prog_29_method_12_code 1 = .ok (.getfield 72, 3) := by decide +kernel
theorem dp_4 : decode prog_29_method_12_code 4 = .ok (.istore_n 1, 1) := by decide +kernel
theorem dp_5 : decode prog_29_method_12_code 5 = .ok (.aload_n 0, 1) := by decide +kernel
theorem dp_6 : decode prog_29_method_12_code 6 = .ok (.getfield 35, 3) := by decide +kernel
theorem dp_9 : decode prog_29_method_12_code 9 = .ok (.lstore_n 2, 1) := by decide +kernel
theorem dp_10 : decode prog_29_method_12_code 10 = .ok (.aload_n 0, 1) := by decide +kernel
theorem dp_11 : decode prog_29_method_12_code 11 = .ok (.getfield 47, 3) := by decide +kernel
theorem dp_14 : decode prog_29_method_12_code 14 = .ok (.astore 4, 2) := by decide +kernel
theorem dp_16 : decode prog_29_method_12_code 16 = .ok (.aload_n 0, 1) := by decide +kernel
theorem dp_17 : decode prog_29_method_12_code 17 = .ok (.getfield 51, 3) := by decide +kernel
theorem dp_20 : decode prog_29_method_12_code 20 = .ok (.astore 5, 2) := by decide +kernel
theorem dp_22 : decode prog_29_method_12_code 22 = .ok (.aload_n 0, 1) := by decide +kernel
theorem dp_23 : decode prog_29_method_12_code 23 = .ok (.getfield 54, 3) := by decide +kernel
theorem dp_26 : decode prog_29_method_12_code 26 = .ok (.astore 6, 2) := by decide +kernel
theorem dp_28 : decode prog_29_method_12_code 28 = .ok (.aload_n 0, 1) := by decide +kernel
theorem dp_29 : decode prog_29_method_12_code 29 = .ok (.getfield 57, 3) := by decide +kernel
theorem dp_32 : decode prog_29_method_12_code 32 = .ok (.astore 7, 2) := by decide +kernel
theorem dp_34 : decode prog_29_method_12_code 34 = .ok (.aload_n 0, 1) := by decide +kernel
theorem dp_35 : decode prog_29_method_12_code 35 = .ok (.getfield 60, 3) := by decide +kernel
theorem dp_38 : decode prog_29_method_12_code 38 = .ok (.astore 8, 2) := by decide +kernel
theorem dp_40 : decode prog_29_method_12_code 40 = .ok (.iconst 0, 1) := by decide +kernel
theorem dp_41 : decode prog_29_method_12_code 41 = .ok (.istore 9, 2) := by decide +kernel
theorem dp_43 : decode prog_29_method_12_code 43 = .ok (.iload 9, 2) := by decide +kernel
theorem dp_45 : decode prog_29_method_12_code 45 = .ok (.iload_n 1, 1) := by decide +kernel
theorem dp_46 : decode prog_29_method_12_code 46 = .ok (.if_icmp .ge 99, 3) := by decide +kernel
theorem dp_49 : decode prog_29_method_12_code 49 = .ok (.aload 4, 2) := by decide +kernel
theorem dp_51 : decode prog_29_method_12_code 51 = .ok (.iload 9, 2) := by decide +kernel
theorem dp_53 : decode prog_29_method_12_code 53 = .ok (.laload, 1) := by decide +kernel
theorem dp_54 : decode prog_29_method_12_code 54 = .ok (.lstore 10, 2) := by decide +kernel
theorem dp_56 : decode prog_29_method_12_code 56 = .ok (.aload 5, 2) := by decide +kernel
theorem dp_58 : decode prog_29_method_12_code 58 = .ok (.iload 9, 2) := by decide +kernel
theorem dp_60 : decode prog_29_method_12_code 60 = .ok (.laload, 1) := by decide +kernel
theorem dp_61 : decode prog_29_method_12_code 61 = .ok (.lstore 12, 2) := by decide +kernel
theorem dp_63 : decode prog_29_method_12_code 63 = .ok (.lload 10, 2) := by decide +kernel
theorem dp_65 : decode prog_29_method_12_code 65 = .ok (.lload 12, 2) := by decide +kernel
theorem dp_67 : decode prog_29_method_12_code 67 = .ok (.ladd, 1) := by decide +kernel
theorem dp_68 : decode prog_29_method_12_code 68 = .ok (.lstore 14, 2) := by decide +kernel
theorem dp_70 : decode prog_29_method_12_code 70 = .ok (.aload 4, 2) := by decide +kernel
theorem dp_72 : decode prog_29_method_12_code 72 = .ok (.iload 9, 2) := by decide +kernel
theorem dp_74 : decode prog_29_method_12_code 74 = .ok (.lload 14, 2) := by decide +kernel
theorem dp_76 : decode prog_29_method_12_code 76 = .ok (.lastore, 1) := by decide +kernel
theorem dp_77 : decode prog_29_method_12_code 77 = .ok (.lload 10, 2) := by decide +kernel
theorem dp_79 : decode prog_29_method_12_code 79 = .ok (.lload 12, 2) := by decide +kernel
theorem dp_81 : decode prog_29_method_12_code 81 = .ok (.land, 1) := by decide +kernel
theorem dp_82 : decode prog_29_method_12_code 82 = .ok (.lload 10, 2) := by decide +kernel
theorem dp_84 : decode prog_29_method_12_code 84 = .ok (.lload 12, 2) := by decide +kernel
theorem dp_86 : decode prog_29_method_12_code 86 = .ok (.lor, 1) := by decide +kernel
theorem dp_87 : decode prog_29_method_12_code 87 = .ok (.lload 14, 2) := by decide +kernel
theorem dp_89 : decode prog_29_method_12_code 89 = .ok (.ldc2_w 38, 3) := by decide +kernel
theorem dp_92 : decode prog_29_method_12_code 92 = .ok (.lxor, 1) := by decide +kernel
theorem dp_93 : decode prog_29_method_12_code 93 = .ok (.land, 1) := by decide +kernel
theorem dp_94 : decode prog_29_method_12_code 94 = .ok (.lor, 1) := by decide +kernel
theorem dp_95 : decode prog_29_method_12_code 95 = .ok (.bipush 63, 2) := by decide +kernel
theorem dp_97 : decode prog_29_method_12_code 97 = .ok (.lushr, 1) := by decide +kernel
theorem dp_98 : decode prog_29_method_12_code 98 = .ok (.lneg, 1) := by decide +kernel
theorem dp_99 : decode prog_29_method_12_code 99 = .ok (.lstore 16, 2) := by decide +kernel
theorem dp_101 : decode prog_29_method_12_code 101 = .ok (.aload 6, 2) := by decide +kernel
theorem dp_103 : decode prog_29_method_12_code 103 = .ok (.iload 9, 2) := by decide +kernel
theorem dp_105 : decode prog_29_method_12_code 105 = .ok (.laload, 1) := by decide +kernel
theorem dp_106 : decode prog_29_method_12_code 106 = .ok (.aload 7, 2) := by decide +kernel
theorem dp_108 : decode prog_29_method_12_code 108 = .ok (.iload 9, 2) := by decide +kernel
theorem dp_110 : decode prog_29_method_12_code 110 = .ok (.laload, 1) := by decide +kernel
theorem dp_111 : decode prog_29_method_12_code 111 = .ok (.aload 8, 2) := by decide +kernel
theorem dp_113 : decode prog_29_method_12_code 113 = .ok (.iload 9, 2) := by decide +kernel
theorem dp_115 : decode prog_29_method_12_code 115 = .ok (.laload, 1) := by decide +kernel
theorem dp_116 : decode prog_29_method_12_code 116 = .ok (.lload 16, 2) := by decide +kernel
theorem dp_118 : decode prog_29_method_12_code 118 = .ok (.land, 1) := by decide +kernel
theorem dp_119 : decode prog_29_method_12_code 119 = .ok (.lxor, 1) := by decide +kernel
theorem dp_120 : decode prog_29_method_12_code 120 = .ok (.ladd, 1) := by decide +kernel
theorem dp_121 : decode prog_29_method_12_code 121 = .ok (.lstore 18, 2) := by decide +kernel
theorem dp_123 : decode prog_29_method_12_code 123 = .ok (.aload 6, 2) := by decide +kernel
theorem dp_125 : decode prog_29_method_12_code 125 = .ok (.iload 9, 2) := by decide +kernel
theorem dp_127 : decode prog_29_method_12_code 127 = .ok (.lload 18, 2) := by decide +kernel
theorem dp_129 : decode prog_29_method_12_code 129 = .ok (.lload 18, 2) := by decide +kernel
theorem dp_131 : decode prog_29_method_12_code 131 = .ok (.bipush 63, 2) := by decide +kernel
theorem dp_133 : decode prog_29_method_12_code 133 = .ok (.lushr, 1) := by decide +kernel
theorem dp_134 : decode prog_29_method_12_code 134 = .ok (.lneg, 1) := by decide +kernel
theorem dp_135 : decode prog_29_method_12_code 135 = .ok (.lload_n 2, 1) := by decide +kernel
theorem dp_136 : decode prog_29_method_12_code 136 = .ok (.land, 1) := by decide +kernel
theorem dp_137 : decode prog_29_method_12_code 137 = .ok (.ladd, 1) := by decide +kernel
theorem dp_138 : decode prog_29_method_12_code 138 = .ok (.lastore, 1) := by decide +kernel
theorem dp_139 : decode prog_29_method_12_code 139 = .ok (.iinc 9 1, 3) := by decide +kernel
theorem dp_142 : decode prog_29_method_12_code 142 = .ok (.goto (-99), 3) := by decide +kernel
theorem dp_145 : decode prog_29_method_12_code 145 = .ok (.return_, 1) := by decide +kernel
theorem ef_p (a1 : Addr) (ar sa ta ca pa fa : Addr) (wl : Int64) (m rc : Int64) (d sh : Int32) (x0 x1 y0 y1 p0 w0 p1 w1 : Int64) (m : MethodId) : entryFrame m #[(.ref a1)] 20 = mkF m 0 #[.val (.ref a1), .unset, .unset, .unset, .unset, .unset, .unset, .unset, .unset, .unset, .unset, .unset, .unset, .unset, .unset, .unset, .unset, .unset, .unset, .unset] [] := by first | (simp [entryFrame, mkF, argsToLocals, Value.category, maxLocals]; done) | rfl
theorem pn_p : plainFor (⟨"com/example/occupancy/occupancy/hash/internal/CellBatch", "step", "()V"⟩ : MethodName) = true := by first | exact plainFor_of_name (by first | (simp [plainName, overriddenIn]; done) | decide +kernel) | decide +kernel
set_option maxRecDepth 65536 in
set_option maxHeartbeats 40000000 in
theorem rm_p (l : Launch) (Z : State) (a0 : Array Value) (hw : ∀ d ∈ tables_1, d.before a0 Z = true) (a1 : Addr) (ar sa ta ca pa fa : Addr) (wl : Int64) (m rc : Int64) (d sh : Int32) (x0 x1 y0 y1 p0 w0 p1 w1 : Int64) (M : Nat) (h0 : Heap) (E_a1 : Exa Z h0 a1 "com/example/occupancy/occupancy/hash/internal/CellBatch") (F_rule_a1 : Fld Z h0 a1 "com/example/occupancy/occupancy/hash/internal/CellBatch" "rule" "Lcom/example/occupancy/occupancy/hash/internal/CellRule;" (.ref ar)) (F_cellCount_a1 : Fld Z h0 a1 "com/example/occupancy/occupancy/hash/internal/CellBatch" "cellCount" "J" (.long m)) (F_wrapLoss_a1 : Fld Z h0 a1 "com/example/occupancy/occupancy/hash/internal/CellBatch" "wrapLoss" "J" (.long wl)) (F_sums_a1 : Fld Z h0 a1 "com/example/occupancy/occupancy/hash/internal/CellBatch" "sums" "[J" (.ref sa)) (F_steps_a1 : Fld Z h0 a1 "com/example/occupancy/occupancy/hash/internal/CellBatch" "steps" "[J" (.ref ta)) (F_cells_a1 : Fld Z h0 a1 "com/example/occupancy/occupancy/hash/internal/CellBatch" "cells" "[J" (.ref ca)) (F_plainSteps_a1 : Fld Z h0 a1 "com/example/occupancy/occupancy/hash/internal/CellBatch" "plainSteps" "[J" (.ref pa)) (F_wrapFlips_a1 : Fld Z h0 a1 "com/example/occupancy/occupancy/hash/internal/CellBatch" "wrapFlips" "[J" (.ref fa)) (F_size_a1 : Fld Z h0 a1 "com/example/occupancy/occupancy/hash/internal/CellBatch" "size" "I" (.int (2 : Int32))) (E_ar : Exa Z h0 ar "com/example/occupancy/occupancy/hash/internal/CellRule") (F_cellCount_ar : Fld Z h0 ar "com/example/occupancy/occupancy/hash/internal/CellRule" "cellCount" "J" (.long m)) (F_dividesOutright_ar : Fld Z h0 ar "com/example/occupancy/occupancy/hash/internal/CellRule" "dividesOutright" "Z" (.int d)) (F_reciprocal_ar : Fld Z h0 ar "com/example/occupancy/occupancy/hash/internal/CellRule" "reciprocal" "J" (.long rc)) (F_shift_ar : Fld Z h0 ar "com/example/occupancy/occupancy/hash/internal/CellRule" "shift" "I" (.int sh)) (n_sa_ta : sa ≠ ta) (n_sa_ca : sa ≠ ca) (n_sa_pa : sa ≠ pa) (n_sa_fa : sa ≠ fa) (n_ta_ca : ta ≠ ca) (n_ta_pa : ta ≠ pa) (n_ta_fa : ta ≠ fa) (n_ca_pa : ca ≠ pa) (n_ca_fa : ca ≠ fa) (n_pa_fa : pa ≠ fa) (n_a1_sa : a1 ≠ sa) (n_a1_ta : a1 ≠ ta) (n_a1_ca : a1 ≠ ca) (n_a1_pa : a1 ≠ pa) (n_a1_fa : a1 ≠ fa) (n_ar_sa : ar ≠ sa) (n_ar_ta : ar ≠ ta) (n_ar_ca : ar ≠ ca) (n_ar_pa : ar ≠ pa) (n_ar_fa : ar ≠ fa) (V_sa : Ar Z h0 sa .long 2 (lf [.long x0, .long x1])) (V_ta : Ar Z h0 ta .long 2 (lf [.long y0, .long y1])) (V_ca : Ar Z h0 ca .long 2 (lf [.long (own_c m x0), .long (own_c m x1)])) (V_pa : Ar Z h0 pa .long 2 (lf [.long p0, .long p1])) (V_fa : Ar Z h0 fa .long 2 (lf [.long (p0 ^^^ w0), .long (p1 ^^^ w1)])) (SW0 : own_SW m y0 p0 w0 M) (SW1 : own_SW m y1 p1 w1 M) (hm : m.toInt = (M : Int)) (hM : 0 < M) :
    Met l Z (⟨"com/example/occupancy/occupancy/hash/internal/CellBatch", "step", "()V"⟩ : MethodName) prog_29_method_12_code 20 none [] ({ frames := 0, cells := 0, slots := 0, locals := 0 } : Room) #[(.ref a1)] [sa, ca] h0 (fun v h => v = none ∧ Ar Z h sa .long 2 (lf [.long (x0 + y0), .long (x1 + y1)]) ∧ Ar Z h ca .long 2 (lf [.long (own_c m (x0 + y0)), .long (own_c m (x1 + y1))])) := by
  refine Met.mk pn_p (ef_p a1 ar sa ta ca pa fa wl m rc d sh x0 x1 y0 y1 p0 w0 p1 w1) ?_
  intro C T hs0 O
  show Go C [sa, ca] (fun v h => v = none ∧ Ar Z h sa .long 2 (lf [.long (x0 + y0), .long (x1 + y1)]) ∧ Ar Z h ca .long 2 (lf [.long (own_c m (x0 + y0)), .long (own_c m (x1 + y1))])) 0 0 (T.setTop (mkF C.m 0 #[.val (.ref a1), .unset, .unset, .unset, .unset, .unset, .unset, .unset, .unset, .unset, .unset, .unset, .unset, .unset, .unset, .unset, .unset, .unset, .unset, .unset] []))
  refine Jvm.OwnW.aloadN O dp_0 rfl rfl (q := 1) rfl ?_
  refine Jvm.OwnW.getF O dp_1 (host := "") (Or.inl (hw _ (List.mem_of_getElem? (i := 87) rfl))) Via.refl F_size_a1 (q := 4) rfl ?_
  intro T1 O1
  refine Jvm.OwnW.istoreN O1 dp_4 (L' := #[.val (.ref a1), .val (.int (2 : Int32)), .unset, .unset, .unset, .unset, .unset, .unset, .unset, .unset, .unset, .unset, .unset, .unset, .unset, .unset, .unset, .unset, .unset, .unset]) rfl (q := 5) rfl ?_
  refine Jvm.OwnW.aloadN O1 dp_5 rfl rfl (q := 6) rfl ?_
  refine Jvm.OwnW.getF O1 dp_6 (host := "") (Or.inl (hw _ (List.mem_of_getElem? (i := 51) rfl))) Via.refl F_cellCount_a1 (q := 9) rfl ?_
  intro T2 O2
  refine Jvm.OwnW.lstoreN O2 dp_9 (L' := #[.val (.ref a1), .val (.int (2 : Int32)), .val (.long m), .second, .unset, .unset, .unset, .unset, .unset, .unset, .unset, .unset, .unset, .unset, .unset, .unset, .unset, .unset, .unset, .unset]) rfl (q := 10) rfl ?_
  refine Jvm.OwnW.aloadN O2 dp_10 rfl rfl (q := 11) rfl ?_
  refine Jvm.OwnW.getF O2 dp_11 (host := "") (Or.inl (hw _ (List.mem_of_getElem? (i := 67) rfl))) Via.refl F_sums_a1 (q := 14) rfl ?_
  intro T3 O3
  refine Jvm.OwnW.astore O3 dp_14 rfl (L' := #[.val (.ref a1), .val (.int (2 : Int32)), .val (.long m), .second, .val (.ref sa), .unset, .unset, .unset, .unset, .unset, .unset, .unset, .unset, .unset, .unset, .unset, .unset, .unset, .unset, .unset]) rfl (q := 16) rfl ?_
  refine Jvm.OwnW.aloadN O3 dp_16 rfl rfl (q := 17) rfl ?_
  refine Jvm.OwnW.getF O3 dp_17 (host := "") (Or.inl (hw _ (List.mem_of_getElem? (i := 69) rfl))) Via.refl F_steps_a1 (q := 20) rfl ?_
  intro T4 O4
  refine Jvm.OwnW.astore O4 dp_20 rfl (L' := #[.val (.ref a1), .val (.int (2 : Int32)), .val (.long m), .second, .val (.ref sa), .val (.ref ta), .unset, .unset, .unset, .unset, .unset, .unset, .unset, .unset, .unset, .unset, .unset, .unset, .unset, .unset]) rfl (q := 22) rfl ?_
  refine Jvm.OwnW.aloadN O4 dp_22 rfl rfl (q := 23) rfl ?_
  refine Jvm.OwnW.getF O4 dp_23 (host := "") (Or.inl (hw _ (List.mem_of_getElem? (i := 71) rfl))) Via.refl F_cells_a1 (q := 26) rfl ?_
  intro T5 O5
  refine Jvm.OwnW.astore O5 dp_26 rfl (L' := #[.val (.ref a1), .val (.int (2 : Int32)), .val (.long m), .second, .val (.ref sa), .val (.ref ta), .val (.ref ca), .unset, .unset, .unset, .unset, .unset, .unset, .unset, .unset, .unset, .unset, .unset, .unset, .unset]) rfl (q := 28) rfl ?_
  refine Jvm.OwnW.aloadN O5 dp_28 rfl rfl (q := 29) rfl ?_
  refine Jvm.OwnW.getF O5 dp_29 (host := "") (Or.inl (hw _ (List.mem_of_getElem? (i := 73) rfl))) Via.refl F_plainSteps_a1 (q := 32) rfl ?_
  intro T6 O6
  refine Jvm.OwnW.astore O6 dp_32 rfl (L' := #[.val (.ref a1), .val (.int (2 : Int32)), .val (.long m), .second, .val (.ref sa), .val (.ref ta), .val (.ref ca), .val (.ref pa), .unset, .unset, .unset, .unset, .unset, .unset, .unset, .unset, .unset, .unset, .unset, .unset]) rfl (q := 34) rfl ?_
  refine Jvm.OwnW.aloadN O6 dp_34 rfl rfl (q := 35) rfl ?_
  refine Jvm.OwnW.getF O6 dp_35 (host := "") (Or.inl (hw _ (List.mem_of_getElem? (i := 75) rfl))) Via.refl F_wrapFlips_a1 (q := 38) rfl ?_
  intro T7 O7
  refine Jvm.OwnW.astore O7 dp_38 rfl (L' := #[.val (.ref a1), .val (.int (2 : Int32)), .val (.long m), .second, .val (.ref sa), .val (.ref ta), .val (.ref ca), .val (.ref pa), .val (.ref fa), .unset, .unset, .unset, .unset, .unset, .unset, .unset, .unset, .unset, .unset, .unset]) rfl (q := 40) rfl ?_
  refine Jvm.OwnW.iconst O7 dp_40 (r := (0 : Int32)) rfl (q := 41) rfl ?_
  refine Jvm.OwnW.istore O7 dp_41 (L' := #[.val (.ref a1), .val (.int (2 : Int32)), .val (.long m), .second, .val (.ref sa), .val (.ref ta), .val (.ref ca), .val (.ref pa), .val (.ref fa), .val (.int (0 : Int32)), .unset, .unset, .unset, .unset, .unset, .unset, .unset, .unset, .unset, .unset]) rfl (q := 43) rfl ?_
  refine Jvm.OwnW.iload O7 dp_43 rfl (q := 45) rfl ?_
  refine Jvm.OwnW.iloadN O7 dp_45 rfl (q := 46) rfl ?_
  refine Jvm.OwnW.icmpNo O7 dp_46 (tlt (show (0 : Int32) < (2 : Int32) from (by decide))).2.1 (q := 49) rfl ?_
  refine Jvm.OwnW.aload O7 dp_49 rfl rfl (q := 51) rfl ?_
  refine Jvm.OwnW.iload O7 dp_51 rfl (q := 53) rfl ?_
  refine Jvm.OwnW.lalA O7 dp_53 V_sa (i := 0) rfl (by decide) (v := (.long x0)) rfl (q := 54) rfl ?_
  refine Jvm.OwnW.lstore O7 dp_54 (L' := #[.val (.ref a1), .val (.int (2 : Int32)), .val (.long m), .second, .val (.ref sa), .val (.ref ta), .val (.ref ca), .val (.ref pa), .val (.ref fa), .val (.int (0 : Int32)), .val (.long x0), .second, .unset, .unset, .unset, .unset, .unset, .unset, .unset, .unset]) rfl (q := 56) rfl ?_
  refine Jvm.OwnW.aload O7 dp_56 rfl rfl (q := 58) rfl ?_
  refine Jvm.OwnW.iload O7 dp_58 rfl (q := 60) rfl ?_
  refine Jvm.OwnW.lalA O7 dp_60 V_ta (i := 0) rfl (by decide) (v := (.long y0)) rfl (q := 61) rfl ?_
  refine Jvm.OwnW.lstore O7 dp_61 (L' := #[.val (.ref a1), .val (.int (2 : Int32)), .val (.long m), .second, .val (.ref sa), .val (.ref ta), .val (.ref ca), .val (.ref pa), .val (.ref fa), .val (.int (0 : Int32)), .val (.long x0), .second, .val (.long y0), .second, .unset, .unset, .unset, .unset, .unset, .unset]) rfl (q := 63) rfl ?_
  refine Jvm.OwnW.lload O7 dp_63 rfl (q := 65) rfl ?_
  refine Jvm.OwnW.lload O7 dp_65 rfl (q := 67) rfl ?_
  refine Jvm.OwnW.ladd O7 dp_67 rfl (q := 68) rfl ?_
  refine Jvm.OwnW.lstore O7 dp_68 (L' := #[.val (.ref a1), .val (.int (2 : Int32)), .val (.long m), .second, .val (.ref sa), .val (.ref ta), .val (.ref ca), .val (.ref pa), .val (.ref fa), .val (.int (0 : Int32)), .val (.long x0), .second, .val (.long y0), .second, .val (.long (x0 + y0)), .second, .unset, .unset, .unset, .unset]) rfl (q := 70) rfl ?_
  refine Jvm.OwnW.aload O7 dp_70 rfl rfl (q := 72) rfl ?_
  refine Jvm.OwnW.iload O7 dp_72 rfl (q := 74) rfl ?_
  refine Jvm.OwnW.lload O7 dp_74 rfl (q := 76) rfl ?_
  refine Jvm.OwnW.lasA O7 dp_76 V_sa (i := 0) rfl (by decide) (Or.inl (List.mem_cons_self ..)) (q := 77) rfl ?_
  intro T8 h8 O8 W8
  have V_sa : Ar Z h8 sa .long 2 (lf [(.long (x0 + y0)), (.long x1)]) := V_sa.setL W8 (by decide) (Nat.le_of_ble_eq_true rfl)
  have E_a1 := E_a1.wr W8
  have F_rule_a1 := F_rule_a1.other W8 (Or.inl n_a1_sa)
  have F_cellCount_a1 := F_cellCount_a1.other W8 (Or.inl n_a1_sa)
  have F_wrapLoss_a1 := F_wrapLoss_a1.other W8 (Or.inl n_a1_sa)
  have F_sums_a1 := F_sums_a1.other W8 (Or.inl n_a1_sa)
  have F_steps_a1 := F_steps_a1.other W8 (Or.inl n_a1_sa)
  have F_cells_a1 := F_cells_a1.other W8 (Or.inl n_a1_sa)
  have F_plainSteps_a1 := F_plainSteps_a1.other W8 (Or.inl n_a1_sa)
  have F_wrapFlips_a1 := F_wrapFlips_a1.other W8 (Or.inl n_a1_sa)
  have F_size_a1 := F_size_a1.other W8 (Or.inl n_a1_sa)
  have E_ar := E_ar.wr W8
  have F_cellCount_ar := F_cellCount_ar.other W8 (Or.inl n_ar_sa)
  have F_dividesOutright_ar := F_dividesOutright_ar.other W8 (Or.inl n_ar_sa)
  have F_reciprocal_ar := F_reciprocal_ar.other W8 (Or.inl n_ar_sa)
  have F_shift_ar := F_shift_ar.other W8 (Or.inl n_ar_sa)
  have V_ta := V_ta.other W8 (Ne.symm n_sa_ta)
  have V_ca := V_ca.other W8 (Ne.symm n_sa_ca)
  have V_pa := V_pa.other W8 (Ne.symm n_sa_pa)
  have V_fa := V_fa.other W8 (Ne.symm n_sa_fa)
  refine Jvm.OwnW.lload O8 dp_77 rfl (q := 79) rfl ?_
  refine Jvm.OwnW.lload O8 dp_79 rfl (q := 81) rfl ?_
  refine Jvm.OwnW.land O8 dp_81 rfl (q := 82) rfl ?_
  refine Jvm.OwnW.lload O8 dp_82 rfl (q := 84) rfl ?_
  refine Jvm.OwnW.lload O8 dp_84 rfl (q := 86) rfl ?_
  refine Jvm.OwnW.lor O8 dp_86 rfl (q := 87) rfl ?_
  refine Jvm.OwnW.lload O8 dp_87 rfl (q := 89) rfl ?_
  refine Jvm.OwnW.ldcL O8 dp_89 (hw _ (List.mem_of_getElem? (i := 53) rfl)) (q := 92) rfl ?_
  refine Jvm.OwnW.lxor O8 dp_92 rfl (q := 93) rfl ?_
  refine Jvm.OwnW.land O8 dp_93 rfl (q := 94) rfl ?_
  refine Jvm.OwnW.lor O8 dp_94 rfl (q := 95) rfl ?_
  refine Jvm.OwnW.bipush O8 dp_95 (r := (63 : Int32)) rfl (q := 97) rfl ?_
  refine Jvm.OwnW.lushr O8 dp_97 rfl (q := 98) rfl ?_
  obtain ⟨k0, hk0⟩ : ∃ zz_, (-((((x0 &&& y0) ||| ((x0 ||| y0) &&& ((x0 + y0) ^^^ (-1 : Int64)))).toUInt64 >>> ((63 : Int32) &&& 0x3f).toInt64.toUInt64).toInt64)) = zz_ := ⟨_, rfl⟩
  refine Jvm.OwnW.lneg O8 dp_98 hk0 (q := 99) rfl ?_
  refine Jvm.OwnW.lstore O8 dp_99 (L' := #[.val (.ref a1), .val (.int (2 : Int32)), .val (.long m), .second, .val (.ref sa), .val (.ref ta), .val (.ref ca), .val (.ref pa), .val (.ref fa), .val (.int (0 : Int32)), .val (.long x0), .second, .val (.long y0), .second, .val (.long (x0 + y0)), .second, .val (.long k0), .second, .unset, .unset]) rfl (q := 101) rfl ?_
  refine Jvm.OwnW.aload O8 dp_101 rfl rfl (q := 103) rfl ?_
  refine Jvm.OwnW.iload O8 dp_103 rfl (q := 105) rfl ?_
  refine Jvm.OwnW.lalA O8 dp_105 V_ca (i := 0) rfl (by decide) (v := (.long (own_c m x0))) rfl (q := 106) rfl ?_
  refine Jvm.OwnW.aload O8 dp_106 rfl rfl (q := 108) rfl ?_
  refine Jvm.OwnW.iload O8 dp_108 rfl (q := 110) rfl ?_
  refine Jvm.OwnW.lalA O8 dp_110 V_pa (i := 0) rfl (by decide) (v := (.long p0)) rfl (q := 111) rfl ?_
  refine Jvm.OwnW.aload O8 dp_111 rfl rfl (q := 113) rfl ?_
  refine Jvm.OwnW.iload O8 dp_113 rfl (q := 115) rfl ?_
  refine Jvm.OwnW.lalA O8 dp_115 V_fa (i := 0) rfl (by decide) (v := (.long (p0 ^^^ w0))) rfl (q := 116) rfl ?_
  refine Jvm.OwnW.lload O8 dp_116 rfl (q := 118) rfl ?_
  refine Jvm.OwnW.land O8 dp_118 rfl (q := 119) rfl ?_
  refine Jvm.OwnW.lxor O8 dp_119 rfl (q := 120) rfl ?_
  obtain ⟨e0, he0⟩ : ∃ zz_, ((own_c m x0) + (p0 ^^^ ((p0 ^^^ w0) &&& k0))) = zz_ := ⟨_, rfl⟩
  refine Jvm.OwnW.ladd O8 dp_120 he0 (q := 121) rfl ?_
  refine Jvm.OwnW.lstore O8 dp_121 (L' := #[.val (.ref a1), .val (.int (2 : Int32)), .val (.long m), .second, .val (.ref sa), .val (.ref ta), .val (.ref ca), .val (.ref pa), .val (.ref fa), .val (.int (0 : Int32)), .val (.long x0), .second, .val (.long y0), .second, .val (.long (x0 + y0)), .second, .val (.long k0), .second, .val (.long e0), .second]) rfl (q := 123) rfl ?_
  refine Jvm.OwnW.aload O8 dp_123 rfl rfl (q := 125) rfl ?_
  refine Jvm.OwnW.iload O8 dp_125 rfl (q := 127) rfl ?_
  refine Jvm.OwnW.lload O8 dp_127 rfl (q := 129) rfl ?_
  refine Jvm.OwnW.lload O8 dp_129 rfl (q := 131) rfl ?_
  refine Jvm.OwnW.bipush O8 dp_131 (r := (63 : Int32)) rfl (q := 133) rfl ?_
  refine Jvm.OwnW.lushr O8 dp_133 rfl (q := 134) rfl ?_
  refine Jvm.OwnW.lneg O8 dp_134 rfl (q := 135) rfl ?_
  refine Jvm.OwnW.lloadN O8 dp_135 rfl (q := 136) rfl ?_
  refine Jvm.OwnW.land O8 dp_136 rfl (q := 137) rfl ?_
  obtain ⟨c0, hc0⟩ : ∃ zz_, (e0 + ((-((e0.toUInt64 >>> ((63 : Int32) &&& 0x3f).toInt64.toUInt64).toInt64)) &&& m)) = zz_ := ⟨_, rfl⟩
  refine Jvm.OwnW.ladd O8 dp_137 hc0 (q := 138) rfl ?_
  obtain rfl : c0 = own_c m (x0 + y0) := hc0.symm.trans (own_step hm hM rfl SW0.1 SW0.2.1 SW0.2.2.1 SW0.2.2.2 rfl hk0 he0)
  refine Jvm.OwnW.lasA O8 dp_138 V_ca (i := 0) rfl (by decide) (Or.inl (List.mem_cons_of_mem _ (List.mem_cons_self ..))) (q := 139) rfl ?_
  intro T9 h9 O9 W9
  have V_ca : Ar Z h9 ca .long 2 (lf [(.long (own_c m (x0 + y0))), (.long (own_c m x1))]) := V_ca.setL W9 (by decide) (Nat.le_of_ble_eq_true rfl)
  have E_a1 := E_a1.wr W9
  have F_rule_a1 := F_rule_a1.other W9 (Or.inl n_a1_ca)
  have F_cellCount_a1 := F_cellCount_a1.other W9 (Or.inl n_a1_ca)
  have F_wrapLoss_a1 := F_wrapLoss_a1.other W9 (Or.inl n_a1_ca)
  have F_sums_a1 := F_sums_a1.other W9 (Or.inl n_a1_ca)
  have F_steps_a1 := F_steps_a1.other W9 (Or.inl n_a1_ca)
  have F_cells_a1 := F_cells_a1.other W9 (Or.inl n_a1_ca)
  have F_plainSteps_a1 := F_plainSteps_a1.other W9 (Or.inl n_a1_ca)
  have F_wrapFlips_a1 := F_wrapFlips_a1.other W9 (Or.inl n_a1_ca)
  have F_size_a1 := F_size_a1.other W9 (Or.inl n_a1_ca)
  have E_ar := E_ar.wr W9
  have F_cellCount_ar := F_cellCount_ar.other W9 (Or.inl n_ar_ca)
  have F_dividesOutright_ar := F_dividesOutright_ar.other W9 (Or.inl n_ar_ca)
  have F_reciprocal_ar := F_reciprocal_ar.other W9 (Or.inl n_ar_ca)
  have F_shift_ar := F_shift_ar.other W9 (Or.inl n_ar_ca)
  have V_sa := V_sa.other W9 n_sa_ca
  have V_ta := V_ta.other W9 n_ta_ca
  have V_pa := V_pa.other W9 (Ne.symm n_ca_pa)
  have V_fa := V_fa.other W9 (Ne.symm n_ca_fa)
  refine Jvm.OwnW.iinc O9 dp_139 rfl (L' := #[.val (.ref a1), .val (.int (2 : Int32)), .val (.long m), .second, .val (.ref sa), .val (.ref ta), .val (.ref ca), .val (.ref pa), .val (.ref fa), .val (.int (1 : Int32)), .val (.long x0), .second, .val (.long y0), .second, .val (.long (x0 + y0)), .second, .val (.long k0), .second, .val (.long e0), .second]) rfl (q := 142) rfl ?_
  refine Jvm.OwnW.goto O9 dp_142 (by decide) (q := 43) rfl ?_
  refine Jvm.OwnW.iload O9 dp_43 rfl (q := 45) rfl ?_
  refine Jvm.OwnW.iloadN O9 dp_45 rfl (q := 46) rfl ?_
  refine Jvm.OwnW.icmpNo O9 dp_46 (tlt (show (1 : Int32) < (2 : Int32) from (by decide))).2.1 (q := 49) rfl ?_
  refine Jvm.OwnW.aload O9 dp_49 rfl rfl (q := 51) rfl ?_
  refine Jvm.OwnW.iload O9 dp_51 rfl (q := 53) rfl ?_
  refine Jvm.OwnW.lalA O9 dp_53 V_sa (i := 1) rfl (by decide) (v := (.long x1)) rfl (q := 54) rfl ?_
  refine Jvm.OwnW.lstore O9 dp_54 (L' := #[.val (.ref a1), .val (.int (2 : Int32)), .val (.long m), .second, .val (.ref sa), .val (.ref ta), .val (.ref ca), .val (.ref pa), .val (.ref fa), .val (.int (1 : Int32)), .val (.long x1), .second, .val (.long y0), .second, .val (.long (x0 + y0)), .second, .val (.long k0), .second, .val (.long e0), .second]) rfl (q := 56) rfl ?_
  refine Jvm.OwnW.aload O9 dp_56 rfl rfl (q := 58) rfl ?_
  refine Jvm.OwnW.iload O9 dp_58 rfl (q := 60) rfl ?_
  refine Jvm.OwnW.lalA O9 dp_60 V_ta (i := 1) rfl (by decide) (v := (.long y1)) rfl (q := 61) rfl ?_
  refine Jvm.OwnW.lstore O9 dp_61 (L' := #[.val (.ref a1), .val (.int (2 : Int32)), .val (.long m), .second, .val (.ref sa), .val (.ref ta), .val (.ref ca), .val (.ref pa), .val (.ref fa), .val (.int (1 : Int32)), .val (.long x1), .second, .val (.long y1), .second, .val (.long (x0 + y0)), .second, .val (.long k0), .second, .val (.long e0), .second]) rfl (q := 63) rfl ?_
  refine Jvm.OwnW.lload O9 dp_63 rfl (q := 65) rfl ?_
  refine Jvm.OwnW.lload O9 dp_65 rfl (q := 67) rfl ?_
  refine Jvm.OwnW.ladd O9 dp_67 rfl (q := 68) rfl ?_
  refine Jvm.OwnW.lstore O9 dp_68 (L' := #[.val (.ref a1), .val (.int (2 : Int32)), .val (.long m), .second, .val (.ref sa), .val (.ref ta), .val (.ref ca), .val (.ref pa), .val (.ref fa), .val (.int (1 : Int32)), .val (.long x1), .second, .val (.long y1), .second, .val (.long (x1 + y1)), .second, .val (.long k0), .second, .val (.long e0), .second]) rfl (q := 70) rfl ?_
  refine Jvm.OwnW.aload O9 dp_70 rfl rfl (q := 72) rfl ?_
  refine Jvm.OwnW.iload O9 dp_72 rfl (q := 74) rfl ?_
  refine Jvm.OwnW.lload O9 dp_74 rfl (q := 76) rfl ?_
  refine Jvm.OwnW.lasA O9 dp_76 V_sa (i := 1) rfl (by decide) (Or.inl (List.mem_cons_self ..)) (q := 77) rfl ?_
  intro T10 h10 O10 W10
  have V_sa : Ar Z h10 sa .long 2 (lf [(.long (x0 + y0)), (.long (x1 + y1))]) := V_sa.setL W10 (by decide) (Nat.le_of_ble_eq_true rfl)
  have E_a1 := E_a1.wr W10
  have F_rule_a1 := F_rule_a1.other W10 (Or.inl n_a1_sa)
  have F_cellCount_a1 := F_cellCount_a1.other W10 (Or.inl n_a1_sa)
  have F_wrapLoss_a1 := F_wrapLoss_a1.other W10 (Or.inl n_a1_sa)
  have F_sums_a1 := F_sums_a1.other W10 (Or.inl n_a1_sa)
  have F_steps_a1 := F_steps_a1.other W10 (Or.inl n_a1_sa)
  have F_cells_a1 := F_cells_a1.other W10 (Or.inl n_a1_sa)
  have F_plainSteps_a1 := F_plainSteps_a1.other W10 (Or.inl n_a1_sa)
  have F_wrapFlips_a1 := F_wrapFlips_a1.other W10 (Or.inl n_a1_sa)
  have F_size_a1 := F_size_a1.other W10 (Or.inl n_a1_sa)
  have E_ar := E_ar.wr W10
  have F_cellCount_ar := F_cellCount_ar.other W10 (Or.inl n_ar_sa)
  have F_dividesOutright_ar := F_dividesOutright_ar.other W10 (Or.inl n_ar_sa)
  have F_reciprocal_ar := F_reciprocal_ar.other W10 (Or.inl n_ar_sa)
  have F_shift_ar := F_shift_ar.other W10 (Or.inl n_ar_sa)
  have V_ta := V_ta.other W10 (Ne.symm n_sa_ta)
  have V_ca := V_ca.other W10 (Ne.symm n_sa_ca)
  have V_pa := V_pa.other W10 (Ne.symm n_sa_pa)
  have V_fa := V_fa.other W10 (Ne.symm n_sa_fa)
  refine Jvm.OwnW.lload O10 dp_77 rfl (q := 79) rfl ?_
  refine Jvm.OwnW.lload O10 dp_79 rfl (q := 81) rfl ?_
  refine Jvm.OwnW.land O10 dp_81 rfl (q := 82) rfl ?_
  refine Jvm.OwnW.lload O10 dp_82 rfl (q := 84) rfl ?_
  refine Jvm.OwnW.lload O10 dp_84 rfl (q := 86) rfl ?_
  refine Jvm.OwnW.lor O10 dp_86 rfl (q := 87) rfl ?_
  refine Jvm.OwnW.lload O10 dp_87 rfl (q := 89) rfl ?_
  refine Jvm.OwnW.ldcL O10 dp_89 (hw _ (List.mem_of_getElem? (i := 53) rfl)) (q := 92) rfl ?_
  refine Jvm.OwnW.lxor O10 dp_92 rfl (q := 93) rfl ?_
  refine Jvm.OwnW.land O10 dp_93 rfl (q := 94) rfl ?_
  refine Jvm.OwnW.lor O10 dp_94 rfl (q := 95) rfl ?_
  refine Jvm.OwnW.bipush O10 dp_95 (r := (63 : Int32)) rfl (q := 97) rfl ?_
  refine Jvm.OwnW.lushr O10 dp_97 rfl (q := 98) rfl ?_
  obtain ⟨k1, hk1⟩ : ∃ zz_, (-((((x1 &&& y1) ||| ((x1 ||| y1) &&& ((x1 + y1) ^^^ (-1 : Int64)))).toUInt64 >>> ((63 : Int32) &&& 0x3f).toInt64.toUInt64).toInt64)) = zz_ := ⟨_, rfl⟩
  refine Jvm.OwnW.lneg O10 dp_98 hk1 (q := 99) rfl ?_
  refine Jvm.OwnW.lstore O10 dp_99 (L' := #[.val (.ref a1), .val (.int (2 : Int32)), .val (.long m), .second, .val (.ref sa), .val (.ref ta), .val (.ref ca), .val (.ref pa), .val (.ref fa), .val (.int (1 : Int32)), .val (.long x1), .second, .val (.long y1), .second, .val (.long (x1 + y1)), .second, .val (.long k1), .second, .val (.long e0), .second]) rfl (q := 101) rfl ?_
  refine Jvm.OwnW.aload O10 dp_101 rfl rfl (q := 103) rfl ?_
  refine Jvm.OwnW.iload O10 dp_103 rfl (q := 105) rfl ?_
  refine Jvm.OwnW.lalA O10 dp_105 V_ca (i := 1) rfl (by decide) (v := (.long (own_c m x1))) rfl (q := 106) rfl ?_
  refine Jvm.OwnW.aload O10 dp_106 rfl rfl (q := 108) rfl ?_
  refine Jvm.OwnW.iload O10 dp_108 rfl (q := 110) rfl ?_
  refine Jvm.OwnW.lalA O10 dp_110 V_pa (i := 1) rfl (by decide) (v := (.long p1)) rfl (q := 111) rfl ?_
  refine Jvm.OwnW.aload O10 dp_111 rfl rfl (q := 113) rfl ?_
  refine Jvm.OwnW.iload O10 dp_113 rfl (q := 115) rfl ?_
  refine Jvm.OwnW.lalA O10 dp_115 V_fa (i := 1) rfl (by decide) (v := (.long (p1 ^^^ w1))) rfl (q := 116) rfl ?_
  refine Jvm.OwnW.lload O10 dp_116 rfl (q := 118) rfl ?_
  refine Jvm.OwnW.land O10 dp_118 rfl (q := 119) rfl ?_
  refine Jvm.OwnW.lxor O10 dp_119 rfl (q := 120) rfl ?_
  obtain ⟨e1, he1⟩ : ∃ zz_, ((own_c m x1) + (p1 ^^^ ((p1 ^^^ w1) &&& k1))) = zz_ := ⟨_, rfl⟩
  refine Jvm.OwnW.ladd O10 dp_120 he1 (q := 121) rfl ?_
  refine Jvm.OwnW.lstore O10 dp_121 (L' := #[.val (.ref a1), .val (.int (2 : Int32)), .val (.long m), .second, .val (.ref sa), .val (.ref ta), .val (.ref ca), .val (.ref pa), .val (.ref fa), .val (.int (1 : Int32)), .val (.long x1), .second, .val (.long y1), .second, .val (.long (x1 + y1)), .second, .val (.long k1), .second, .val (.long e1), .second]) rfl (q := 123) rfl ?_
  refine Jvm.OwnW.aload O10 dp_123 rfl rfl (q := 125) rfl ?_
  refine Jvm.OwnW.iload O10 dp_125 rfl (q := 127) rfl ?_
  refine Jvm.OwnW.lload O10 dp_127 rfl (q := 129) rfl ?_
  refine Jvm.OwnW.lload O10 dp_129 rfl (q := 131) rfl ?_
  refine Jvm.OwnW.bipush O10 dp_131 (r := (63 : Int32)) rfl (q := 133) rfl ?_
  refine Jvm.OwnW.lushr O10 dp_133 rfl (q := 134) rfl ?_
  refine Jvm.OwnW.lneg O10 dp_134 rfl (q := 135) rfl ?_
  refine Jvm.OwnW.lloadN O10 dp_135 rfl (q := 136) rfl ?_
  refine Jvm.OwnW.land O10 dp_136 rfl (q := 137) rfl ?_
  obtain ⟨c1, hc1⟩ : ∃ zz_, (e1 + ((-((e1.toUInt64 >>> ((63 : Int32) &&& 0x3f).toInt64.toUInt64).toInt64)) &&& m)) = zz_ := ⟨_, rfl⟩
  refine Jvm.OwnW.ladd O10 dp_137 hc1 (q := 138) rfl ?_
  obtain rfl : c1 = own_c m (x1 + y1) := hc1.symm.trans (own_step hm hM rfl SW1.1 SW1.2.1 SW1.2.2.1 SW1.2.2.2 rfl hk1 he1)
  refine Jvm.OwnW.lasA O10 dp_138 V_ca (i := 1) rfl (by decide) (Or.inl (List.mem_cons_of_mem _ (List.mem_cons_self ..))) (q := 139) rfl ?_
  intro T11 h11 O11 W11
  have V_ca : Ar Z h11 ca .long 2 (lf [(.long (own_c m (x0 + y0))), (.long (own_c m (x1 + y1)))]) := V_ca.setL W11 (by decide) (Nat.le_of_ble_eq_true rfl)
  have E_a1 := E_a1.wr W11
  have F_rule_a1 := F_rule_a1.other W11 (Or.inl n_a1_ca)
  have F_cellCount_a1 := F_cellCount_a1.other W11 (Or.inl n_a1_ca)
  have F_wrapLoss_a1 := F_wrapLoss_a1.other W11 (Or.inl n_a1_ca)
  have F_sums_a1 := F_sums_a1.other W11 (Or.inl n_a1_ca)
  have F_steps_a1 := F_steps_a1.other W11 (Or.inl n_a1_ca)
  have F_cells_a1 := F_cells_a1.other W11 (Or.inl n_a1_ca)
  have F_plainSteps_a1 := F_plainSteps_a1.other W11 (Or.inl n_a1_ca)
  have F_wrapFlips_a1 := F_wrapFlips_a1.other W11 (Or.inl n_a1_ca)
  have F_size_a1 := F_size_a1.other W11 (Or.inl n_a1_ca)
  have E_ar := E_ar.wr W11
  have F_cellCount_ar := F_cellCount_ar.other W11 (Or.inl n_ar_ca)
  have F_dividesOutright_ar := F_dividesOutright_ar.other W11 (Or.inl n_ar_ca)
  have F_reciprocal_ar := F_reciprocal_ar.other W11 (Or.inl n_ar_ca)
  have F_shift_ar := F_shift_ar.other W11 (Or.inl n_ar_ca)
  have V_sa := V_sa.other W11 n_sa_ca
  have V_ta := V_ta.other W11 n_ta_ca
  have V_pa := V_pa.other W11 (Ne.symm n_ca_pa)
  have V_fa := V_fa.other W11 (Ne.symm n_ca_fa)
  refine Jvm.OwnW.iinc O11 dp_139 rfl (L' := #[.val (.ref a1), .val (.int (2 : Int32)), .val (.long m), .second, .val (.ref sa), .val (.ref ta), .val (.ref ca), .val (.ref pa), .val (.ref fa), .val (.int (2 : Int32)), .val (.long x1), .second, .val (.long y1), .second, .val (.long (x1 + y1)), .second, .val (.long k1), .second, .val (.long e1), .second]) rfl (q := 142) rfl ?_
  refine Jvm.OwnW.goto O11 dp_142 (by decide) (q := 43) rfl ?_
  refine Jvm.OwnW.iload O11 dp_43 rfl (q := 45) rfl ?_
  refine Jvm.OwnW.iloadN O11 dp_45 rfl (q := 46) rfl ?_
  refine Jvm.OwnW.icmpYes O11 dp_46 (flt (show ¬ ((2 : Int32) < (2 : Int32)) from (by decide))).2.1 (by decide) (q := 145) rfl ?_
  exact Jvm.OwnW.ret0 O11 dp_145 (by decide) (by decide) ⟨rfl, V_sa, V_ca⟩
theorem pd_9 : parseMethodDescriptor "(J)V" = some ⟨[.long], none⟩ := by decide +kernel
theorem pd_10 : parseMethodDescriptor "(Lcom/example/occupancy/occupancy/hash/internal/CellRule;I)V" = some ⟨[(.object "com/example/occupancy/occupancy/hash/internal/CellRule"), .int], none⟩ := by decide +kernel
theorem pd_11 : parseMethodDescriptor "(JJ)V" = some ⟨[.long, .long], none⟩ := by decide +kernel
theorem pd_12 : parseMethodDescriptor "()V" = some ⟨[], none⟩ := by decide +kernel
theorem pd_13 : parseMethodDescriptor "()[J" = some ⟨[], some (.array .long)⟩ := by decide +kernel
theorem ef_0 (p0 : Int64) (p2 : Int64) (p4 : Int64) (p6 : Int64) (p8 : Int64) (m : MethodId) : entryFrame m #[(.long p0), (.long p2), (.long p4), (.long p6), (.long p8)] maxLocals = mkF m 0 #[.val (.long p0), .second, .val (.long p2), .second, .val (.long p4), .second, .val (.long p6), .second, .val (.long p8), .second, .unset, .unset, .unset, .unset, .unset, .unset, .unset] [] := by first | (simp [entryFrame, mkF, argsToLocals, Value.category, maxLocals]; done) | rfl
theorem pn_0 : plainFor x = true := by first | exact plainFor_of_name (by first | (simp [plainName, overriddenIn]; done) | decide +kernel) | decide +kernel
set_option maxRecDepth 65536 in
set_option maxHeartbeats 40000000 in
theorem rm_0 (l : Launch) (Z : State) (a0 : Array Value) (hw : ∀ d ∈ tables_1, d.before a0 Z = true) (wds : List Jvm.Cond) (p0 : Int64) (p2 : Int64) (p4 : Int64) (p6 : Int64) (p8 : Int64) (h0 : Heap)  :
    Met l Z x code maxLocals ret wds room_1 #[(.long p0), (.long p2), (.long p4), (.long p6), (.long p8)] [] h0 (fun v h => v = some (.int 1)) := by
  refine Met.mk pn_0 (ef_0 p0 p2 p4 p6 p8) ?_
  intro C T hs0 O
  show Go C [] (fun v h => v = some (.int 1)) 24 1152 (T.setTop (mkF C.m 0 #[.val (.long p0), .second, .val (.long p2), .second, .val (.long p4), .second, .val (.long p6), .second, .val (.long p8), .second, .unset, .unset, .unset, .unset, .unset, .unset, .unset] []))
  refine Jvm.OwnW.lconst O at_0 (r := (1 : Int64)) rfl (q := 1) rfl ?_
  refine Jvm.OwnW.lloadN O at_1 rfl (q := 2) rfl ?_
  refine Jvm.OwnW.ldcL O at_2 (hw _ (List.mem_of_getElem? (i := 0) rfl)) (q := 5) rfl ?_
  refine Jvm.OwnW.land O at_5 rfl (q := 6) rfl ?_
  refine Jvm.OwnW.callS0 O (y := (⟨"java/lang/Math", "max", "(JJ)J"⟩ : MethodName)) (argsL := [(.long (1 : Int64)), (.long (p0 &&& (9223372036854775807 : Int64)))]) (rest := []) at_6 (hw _ (List.mem_of_getElem? (i := 1) rfl)) (hw _ (List.mem_of_getElem? (i := 2) rfl)) (hw _ (List.mem_of_getElem? (i := 3) rfl)) (hw _ (List.mem_of_getElem? (i := 4) rfl)) (by decide) (rm_x l Z a0 hw (1 : Int64) (p0 &&& (9223372036854775807 : Int64)) h0) rfl pd_1 rfl (hst := rfl) (W := 0) (Nat.le_of_eq rfl) (by decide) (by decide) (c2 := 0) (s2 := 0) rfl rfl (by decide) (by decide) rfl rfl (q := 9) rfl ?_
  intro v1 T1 O1 q1
  obtain rfl := q1
  obtain ⟨M, hm, hM⟩ := own_max p0
  obtain ⟨m, hmm⟩ : ∃ z, (fn_x (1 : Int64) (p0 &&& (9223372036854775807 : Int64))) = z := ⟨_, rfl⟩
  rw [hmm] at hm ⊢
  show Go C _ _ _ _ (T1.setTop (mkF C.m 9 #[.val (.long p0), .second, .val (.long p2), .second, .val (.long p4), .second, .val (.long p6), .second, .val (.long p8), .second, .unset, .unset, .unset, .unset, .unset, .unset, .unset] [(.long m)]))
  refine Jvm.OwnW.lstore O1 at_9 (L' := #[.val (.long p0), .second, .val (.long p2), .second, .val (.long p4), .second, .val (.long p6), .second, .val (.long p8), .second, .val (.long m), .second, .unset, .unset, .unset, .unset, .unset]) rfl (q := 11) rfl ?_
  refine Jvm.OwnW.newO O1 at_11 (hw _ (List.mem_of_getElem? (i := 5) rfl)) (hw _ (List.mem_of_getElem? (i := 6) rfl)) (hw _ (List.mem_of_getElem? (i := 7) rfl)) (c2 := 1) (s2 := 4) rfl rfl (by decide) (by decide) (q := 14) rfl ?_
  intro a2 T2 h2 g2 N2 O2 X2 E_a2 D2
  have F_cellCount_a2 : Fld Z h2 a2 "com/example/occupancy/occupancy/hash/internal/CellRule" "cellCount" "J" (.long (0 : Int64)) := D2 (Or.inr (hw _ (List.mem_of_getElem? (i := 15) rfl))) (ty := .long) (by decide)
  have F_dividesOutright_a2 : Fld Z h2 a2 "com/example/occupancy/occupancy/hash/internal/CellRule" "dividesOutright" "Z" (.int (0 : Int32)) := D2 (Or.inr (hw _ (List.mem_of_getElem? (i := 18) rfl))) (ty := .boolean) (by decide)
  have F_reciprocal_a2 : Fld Z h2 a2 "com/example/occupancy/occupancy/hash/internal/CellRule" "reciprocal" "J" (.long (0 : Int64)) := D2 (Or.inr (hw _ (List.mem_of_getElem? (i := 20) rfl))) (ty := .long) (by decide)
  have F_shift_a2 : Fld Z h2 a2 "com/example/occupancy/occupancy/hash/internal/CellRule" "shift" "I" (.int (0 : Int32)) := D2 (Or.inr (hw _ (List.mem_of_getElem? (i := 22) rfl))) (ty := .int) (by decide)
  refine Jvm.OwnW.dup O2 at_14 rfl (q := 15) rfl ?_
  refine Jvm.OwnW.lload O2 at_15 rfl (q := 17) rfl ?_
  refine Jvm.OwnW.callI O2 (y := (⟨"com/example/occupancy/occupancy/hash/internal/CellRule", "<init>", "(J)V"⟩ : MethodName)) (a := a2) (argsL := [(.long m)]) (rest := [(.ref a2)]) at_17 rfl (hw _ (List.mem_of_getElem? (i := 8) rfl)) (hw _ (List.mem_of_getElem? (i := 9) rfl)) (hw _ (List.mem_of_getElem? (i := 7) rfl)) (hw _ (List.mem_of_getElem? (i := 10) rfl)) (by decide) (rm_r l Z a0 hw a2 m M h2 E_a2 F_cellCount_a2 F_dividesOutright_a2 F_reciprocal_a2 F_shift_a2 hm hM) rfl pd_9 rfl (hst := rfl) (W := 1) (Nat.le_of_eq rfl) (by decide) (by decide) (c2 := 1) (s2 := 4) rfl rfl (by decide) (by decide) (allS (Or.inr N2) all0) (q := 20) rfl ?_
  intro v3 T3 h3 O3 K3 q3
  obtain ⟨rfl, d, rc, sh, F_cellCount_a2, F_dividesOutright_a2, F_reciprocal_a2, F_shift_a2, hrule⟩ := q3
  have E_a2 := E_a2.keep K3
  show Go C _ _ _ _ (T3.setTop (mkF C.m 20 #[.val (.long p0), .second, .val (.long p2), .second, .val (.long p4), .second, .val (.long p6), .second, .val (.long p8), .second, .val (.long m), .second, .unset, .unset, .unset, .unset, .unset] [(.ref a2)]))
  refine Jvm.OwnW.astore O3 at_20 rfl (L' := #[.val (.long p0), .second, .val (.long p2), .second, .val (.long p4), .second, .val (.long p6), .second, .val (.long p8), .second, .val (.long m), .second, .val (.ref a2), .unset, .unset, .unset, .unset]) rfl (q := 22) rfl ?_
  refine Jvm.OwnW.newO O3 at_22 (hw _ (List.mem_of_getElem? (i := 23) rfl)) (hw _ (List.mem_of_getElem? (i := 24) rfl)) (hw _ (List.mem_of_getElem? (i := 25) rfl)) (c2 := 2) (s2 := 13) rfl rfl (by decide) (by decide) (q := 25) rfl ?_
  intro a4 T4 h4 g4 N4 O4 X4 E_a4 D4
  have ne_a2_a4 : a2 ≠ a4 := Nat.ne_of_lt (Nat.lt_of_lt_of_le E_a2.lt (Nat.le_of_eq g4.symm))
  have E_a2 := E_a2.ext X4
  have F_cellCount_a2 := F_cellCount_a2.ext X4
  have F_dividesOutright_a2 := F_dividesOutright_a2.ext X4
  have F_reciprocal_a2 := F_reciprocal_a2.ext X4
  have F_shift_a2 := F_shift_a2.ext X4
  have F_rule_a4 : Fld Z h4 a4 "com/example/occupancy/occupancy/hash/internal/CellBatch" "rule" "Lcom/example/occupancy/occupancy/hash/internal/CellRule;" .null := D4 (Or.inr (hw _ (List.mem_of_getElem? (i := 45) rfl))) (ty := (.object "com/example/occupancy/occupancy/hash/internal/CellRule")) (by decide)
  have F_cellCount_a4 : Fld Z h4 a4 "com/example/occupancy/occupancy/hash/internal/CellBatch" "cellCount" "J" (.long (0 : Int64)) := D4 (Or.inr (hw _ (List.mem_of_getElem? (i := 52) rfl))) (ty := .long) (by decide)
  have F_wrapLoss_a4 : Fld Z h4 a4 "com/example/occupancy/occupancy/hash/internal/CellBatch" "wrapLoss" "J" (.long (0 : Int64)) := D4 (Or.inr (hw _ (List.mem_of_getElem? (i := 65) rfl))) (ty := .long) (by decide)
  have F_sums_a4 : Fld Z h4 a4 "com/example/occupancy/occupancy/hash/internal/CellBatch" "sums" "[J" .null := D4 (Or.inr (hw _ (List.mem_of_getElem? (i := 68) rfl))) (ty := (.array .long)) (by decide)
  have F_steps_a4 : Fld Z h4 a4 "com/example/occupancy/occupancy/hash/internal/CellBatch" "steps" "[J" .null := D4 (Or.inr (hw _ (List.mem_of_getElem? (i := 70) rfl))) (ty := (.array .long)) (by decide)
  have F_cells_a4 : Fld Z h4 a4 "com/example/occupancy/occupancy/hash/internal/CellBatch" "cells" "[J" .null := D4 (Or.inr (hw _ (List.mem_of_getElem? (i := 72) rfl))) (ty := (.array .long)) (by decide)
  have F_plainSteps_a4 : Fld Z h4 a4 "com/example/occupancy/occupancy/hash/internal/CellBatch" "plainSteps" "[J" .null := D4 (Or.inr (hw _ (List.mem_of_getElem? (i := 74) rfl))) (ty := (.array .long)) (by decide)
  have F_wrapFlips_a4 : Fld Z h4 a4 "com/example/occupancy/occupancy/hash/internal/CellBatch" "wrapFlips" "[J" .null := D4 (Or.inr (hw _ (List.mem_of_getElem? (i := 76) rfl))) (ty := (.array .long)) (by decide)
  have F_size_a4 : Fld Z h4 a4 "com/example/occupancy/occupancy/hash/internal/CellBatch" "size" "I" (.int (0 : Int32)) := D4 (Or.inl (hw _ (List.mem_of_getElem? (i := 88) rfl))) (ty := .int) (by decide)
  refine Jvm.OwnW.dup O4 at_25 rfl (q := 26) rfl ?_
  refine Jvm.OwnW.aload O4 at_26 rfl rfl (q := 28) rfl ?_
  refine Jvm.OwnW.iconst O4 at_28 (r := (2 : Int32)) rfl (q := 29) rfl ?_
  have lt_a2 := E_a2.lt
  have lt_a4 := E_a4.lt
  refine Jvm.OwnW.callI O4 (y := (⟨"com/example/occupancy/occupancy/hash/internal/CellBatch", "<init>", "(Lcom/example/occupancy/occupancy/hash/internal/CellRule;I)V"⟩ : MethodName)) (a := a4) (argsL := [(.ref a2), (.int (2 : Int32))]) (rest := [(.ref a4)]) at_29 rfl (hw _ (List.mem_of_getElem? (i := 26) rfl)) (hw _ (List.mem_of_getElem? (i := 27) rfl)) (hw _ (List.mem_of_getElem? (i := 25) rfl)) (hw _ (List.mem_of_getElem? (i := 28) rfl)) (by decide) (rm_b l Z a0 hw a4 a2 m rc d sh h4 E_a4 F_rule_a4 F_cellCount_a4 F_wrapLoss_a4 F_sums_a4 F_steps_a4 F_cells_a4 F_plainSteps_a4 F_wrapFlips_a4 F_size_a4 E_a2 F_cellCount_a2 F_dividesOutright_a2 F_reciprocal_a2 F_shift_a2 (Ne.symm ne_a2_a4) hrule) rfl pd_10 rfl (hst := rfl) (W := 1) (Nat.le_of_eq rfl) (by decide) (by decide) (c2 := 9) (s2 := 43) rfl rfl (by decide) (by decide) (allS (Or.inr N4) all0) (q := 32) rfl ?_
  intro v5 T5 h5 O5 K5 q5
  obtain ⟨rfl, sa, ta, ca, pa, fa, m_sa, m_ta, m_ca, m_pa, m_fa, n_sa_ta, n_sa_ca, n_sa_pa, n_sa_fa, n_ta_ca, n_ta_pa, n_ta_fa, n_ca_pa, n_ca_fa, n_pa_fa, F_rule_a4, F_cellCount_a4, F_wrapLoss_a4, F_sums_a4, F_steps_a4, F_cells_a4, F_plainSteps_a4, F_wrapFlips_a4, F_size_a4, V_sa, V_ta, V_ca, V_pa, V_fa⟩ := q5
  have E_a2 := E_a2.keep K5
  have F_cellCount_a2 := F_cellCount_a2.keep K5 (ninS ne_a2_a4 nin0)
  have F_dividesOutright_a2 := F_dividesOutright_a2.keep K5 (ninS ne_a2_a4 nin0)
  have F_reciprocal_a2 := F_reciprocal_a2.keep K5 (ninS ne_a2_a4 nin0)
  have F_shift_a2 := F_shift_a2.keep K5 (ninS ne_a2_a4 nin0)
  have E_a4 := E_a4.keep K5
  obtain ⟨wl, hwl⟩ : ∃ z, (own_c m (-1 : Int64) + (1 : Int64)) = z := ⟨_, rfl⟩
  rw [hwl] at F_wrapLoss_a4
  have N_sa : C.s.heap.size ≤ sa := Nat.le_trans O4.size m_sa
  have ne_a2_sa : a2 ≠ sa := Nat.ne_of_lt (Nat.lt_of_lt_of_le lt_a2 m_sa)
  have ne_a4_sa : a4 ≠ sa := Nat.ne_of_lt (Nat.lt_of_lt_of_le lt_a4 m_sa)
  have N_ta : C.s.heap.size ≤ ta := Nat.le_trans O4.size m_ta
  have ne_a2_ta : a2 ≠ ta := Nat.ne_of_lt (Nat.lt_of_lt_of_le lt_a2 m_ta)
  have ne_a4_ta : a4 ≠ ta := Nat.ne_of_lt (Nat.lt_of_lt_of_le lt_a4 m_ta)
  have N_ca : C.s.heap.size ≤ ca := Nat.le_trans O4.size m_ca
  have ne_a2_ca : a2 ≠ ca := Nat.ne_of_lt (Nat.lt_of_lt_of_le lt_a2 m_ca)
  have ne_a4_ca : a4 ≠ ca := Nat.ne_of_lt (Nat.lt_of_lt_of_le lt_a4 m_ca)
  have N_pa : C.s.heap.size ≤ pa := Nat.le_trans O4.size m_pa
  have ne_a2_pa : a2 ≠ pa := Nat.ne_of_lt (Nat.lt_of_lt_of_le lt_a2 m_pa)
  have ne_a4_pa : a4 ≠ pa := Nat.ne_of_lt (Nat.lt_of_lt_of_le lt_a4 m_pa)
  have N_fa : C.s.heap.size ≤ fa := Nat.le_trans O4.size m_fa
  have ne_a2_fa : a2 ≠ fa := Nat.ne_of_lt (Nat.lt_of_lt_of_le lt_a2 m_fa)
  have ne_a4_fa : a4 ≠ fa := Nat.ne_of_lt (Nat.lt_of_lt_of_le lt_a4 m_fa)
  show Go C _ _ _ _ (T5.setTop (mkF C.m 32 #[.val (.long p0), .second, .val (.long p2), .second, .val (.long p4), .second, .val (.long p6), .second, .val (.long p8), .second, .val (.long m), .second, .val (.ref a2), .unset, .unset, .unset, .unset] [(.ref a4)]))
  refine Jvm.OwnW.astore O5 at_32 rfl (L' := #[.val (.long p0), .second, .val (.long p2), .second, .val (.long p4), .second, .val (.long p6), .second, .val (.long p8), .second, .val (.long m), .second, .val (.ref a2), .val (.ref a4), .unset, .unset, .unset]) rfl (q := 34) rfl ?_
  refine Jvm.OwnW.aload O5 at_34 rfl rfl (q := 36) rfl ?_
  refine Jvm.OwnW.lloadN O5 at_36 rfl (q := 37) rfl ?_
  refine Jvm.OwnW.lload O5 at_37 rfl (q := 39) rfl ?_
  refine Jvm.OwnW.callV O5 (y := (⟨"com/example/occupancy/occupancy/hash/internal/CellBatch", "add", "(JJ)V"⟩ : MethodName)) (z := (⟨"com/example/occupancy/occupancy/hash/internal/CellBatch", "add", "(JJ)V"⟩ : MethodName)) (a := a4) (argsL := [(.long p2), (.long p4)]) (rest := []) at_39 (hw _ (List.mem_of_getElem? (i := 77) rfl)) (hw _ (List.mem_of_getElem? (i := 78) rfl)) (hw _ (List.mem_of_getElem? (i := 80) rfl)) rfl (hw _ (List.mem_of_getElem? (i := 79) rfl)) (hw _ (List.mem_of_getElem? (i := 25) rfl)) (hw _ (List.mem_of_getElem? (i := 81) rfl)) (by decide) (rm_a0 l Z a0 hw a4 p2 p4 a2 sa ta ca pa fa m wl (0 : Int64) (0 : Int64) (0 : Int64) (0 : Int64) h5 E_a4 F_rule_a4 F_cellCount_a4 F_wrapLoss_a4 F_sums_a4 F_steps_a4 F_cells_a4 F_plainSteps_a4 F_wrapFlips_a4 F_size_a4 V_sa V_ta ne_a4_sa ne_a4_ta n_sa_ta) E_a4 rfl pd_11 rfl (hst := rfl) (W := 0) (Nat.le_of_eq rfl) (by decide) (by decide) (c2 := 9) (s2 := 43) rfl rfl (by decide) (by decide) (allS (Or.inr N4) (allS (Or.inr N_sa) (allS (Or.inr N_ta) all0))) (q := 42) rfl ?_
  intro v6 T6 h6 O6 K6 q6
  obtain ⟨rfl, F_rule_a4, F_cellCount_a4, F_wrapLoss_a4, F_sums_a4, F_steps_a4, F_cells_a4, F_plainSteps_a4, F_wrapFlips_a4, F_size_a4, V_sa, V_ta⟩ := q6
  have E_a2 := E_a2.keep K6
  have F_cellCount_a2 := F_cellCount_a2.keep K6 (ninS ne_a2_a4 (ninS ne_a2_sa (ninS ne_a2_ta nin0)))
  have F_dividesOutright_a2 := F_dividesOutright_a2.keep K6 (ninS ne_a2_a4 (ninS ne_a2_sa (ninS ne_a2_ta nin0)))
  have F_reciprocal_a2 := F_reciprocal_a2.keep K6 (ninS ne_a2_a4 (ninS ne_a2_sa (ninS ne_a2_ta nin0)))
  have F_shift_a2 := F_shift_a2.keep K6 (ninS ne_a2_a4 (ninS ne_a2_sa (ninS ne_a2_ta nin0)))
  have E_a4 := E_a4.keep K6
  have V_ca := V_ca.keep K6 (ninS (Ne.symm ne_a4_ca) (ninS (Ne.symm n_sa_ca) (ninS (Ne.symm n_ta_ca) nin0)))
  have V_pa := V_pa.keep K6 (ninS (Ne.symm ne_a4_pa) (ninS (Ne.symm n_sa_pa) (ninS (Ne.symm n_ta_pa) nin0)))
  have V_fa := V_fa.keep K6 (ninS (Ne.symm ne_a4_fa) (ninS (Ne.symm n_sa_fa) (ninS (Ne.symm n_ta_fa) nin0)))
  show Go C _ _ _ _ (T6.setTop (mkF C.m 42 #[.val (.long p0), .second, .val (.long p2), .second, .val (.long p4), .second, .val (.long p6), .second, .val (.long p8), .second, .val (.long m), .second, .val (.ref a2), .val (.ref a4), .unset, .unset, .unset] []))
  refine Jvm.OwnW.aload O6 at_42 rfl rfl (q := 44) rfl ?_
  refine Jvm.OwnW.lload O6 at_44 rfl (q := 46) rfl ?_
  refine Jvm.OwnW.lload O6 at_46 rfl (q := 48) rfl ?_
  refine Jvm.OwnW.callV O6 (y := (⟨"com/example/occupancy/occupancy/hash/internal/CellBatch", "add", "(JJ)V"⟩ : MethodName)) (z := (⟨"com/example/occupancy/occupancy/hash/internal/CellBatch", "add", "(JJ)V"⟩ : MethodName)) (a := a4) (argsL := [(.long p6), (.long p8)]) (rest := []) at_48 (hw _ (List.mem_of_getElem? (i := 77) rfl)) (hw _ (List.mem_of_getElem? (i := 78) rfl)) (hw _ (List.mem_of_getElem? (i := 80) rfl)) rfl (hw _ (List.mem_of_getElem? (i := 79) rfl)) (hw _ (List.mem_of_getElem? (i := 25) rfl)) (hw _ (List.mem_of_getElem? (i := 81) rfl)) (by decide) (rm_a1 l Z a0 hw a4 p6 p8 a2 sa ta ca pa fa m wl p2 (0 : Int64) p4 (0 : Int64) h6 E_a4 F_rule_a4 F_cellCount_a4 F_wrapLoss_a4 F_sums_a4 F_steps_a4 F_cells_a4 F_plainSteps_a4 F_wrapFlips_a4 F_size_a4 V_sa V_ta ne_a4_sa ne_a4_ta n_sa_ta) E_a4 rfl pd_11 rfl (hst := rfl) (W := 0) (Nat.le_of_eq rfl) (by decide) (by decide) (c2 := 9) (s2 := 43) rfl rfl (by decide) (by decide) (allS (Or.inr N4) (allS (Or.inr N_sa) (allS (Or.inr N_ta) all0))) (q := 51) rfl ?_
  intro v7 T7 h7 O7 K7 q7
  obtain ⟨rfl, F_rule_a4, F_cellCount_a4, F_wrapLoss_a4, F_sums_a4, F_steps_a4, F_cells_a4, F_plainSteps_a4, F_wrapFlips_a4, F_size_a4, V_sa, V_ta⟩ := q7
  have E_a2 := E_a2.keep K7
  have F_cellCount_a2 := F_cellCount_a2.keep K7 (ninS ne_a2_a4 (ninS ne_a2_sa (ninS ne_a2_ta nin0)))
  have F_dividesOutright_a2 := F_dividesOutright_a2.keep K7 (ninS ne_a2_a4 (ninS ne_a2_sa (ninS ne_a2_ta nin0)))
  have F_reciprocal_a2 := F_reciprocal_a2.keep K7 (ninS ne_a2_a4 (ninS ne_a2_sa (ninS ne_a2_ta nin0)))
  have F_shift_a2 := F_shift_a2.keep K7 (ninS ne_a2_a4 (ninS ne_a2_sa (ninS ne_a2_ta nin0)))
  have E_a4 := E_a4.keep K7
  have V_ca := V_ca.keep K7 (ninS (Ne.symm ne_a4_ca) (ninS (Ne.symm n_sa_ca) (ninS (Ne.symm n_ta_ca) nin0)))
  have V_pa := V_pa.keep K7 (ninS (Ne.symm ne_a4_pa) (ninS (Ne.symm n_sa_pa) (ninS (Ne.symm n_ta_pa) nin0)))
  have V_fa := V_fa.keep K7 (ninS (Ne.symm ne_a4_fa) (ninS (Ne.symm n_sa_fa) (ninS (Ne.symm n_ta_fa) nin0)))
  show Go C _ _ _ _ (T7.setTop (mkF C.m 51 #[.val (.long p0), .second, .val (.long p2), .second, .val (.long p4), .second, .val (.long p6), .second, .val (.long p8), .second, .val (.long m), .second, .val (.ref a2), .val (.ref a4), .unset, .unset, .unset] []))
  refine Jvm.OwnW.aload O7 at_51 rfl rfl (q := 53) rfl ?_
  refine Jvm.OwnW.callV O7 (y := (⟨"com/example/occupancy/occupancy/hash/internal/CellBatch", "start", "()V"⟩ : MethodName)) (z := (⟨"com/example/occupancy/occupancy/hash/internal/CellBatch", "start", "()V"⟩ : MethodName)) (a := a4) (argsL := []) (rest := []) at_53 (hw _ (List.mem_of_getElem? (i := 89) rfl)) (hw _ (List.mem_of_getElem? (i := 90) rfl)) (hw _ (List.mem_of_getElem? (i := 92) rfl)) rfl (hw _ (List.mem_of_getElem? (i := 91) rfl)) (hw _ (List.mem_of_getElem? (i := 25) rfl)) (hw _ (List.mem_of_getElem? (i := 93) rfl)) (by decide) (rm_t l Z a0 hw a4 a2 sa ta ca pa fa wl m rc d sh p2 p6 p4 p8 (0 : Int64) (0 : Int64) (0 : Int64) (0 : Int64) (0 : Int64) (0 : Int64) M h7 E_a4 F_rule_a4 F_cellCount_a4 F_wrapLoss_a4 F_sums_a4 F_steps_a4 F_cells_a4 F_plainSteps_a4 F_wrapFlips_a4 F_size_a4 E_a2 F_cellCount_a2 F_dividesOutright_a2 F_reciprocal_a2 F_shift_a2 n_sa_ta n_sa_ca n_sa_pa n_sa_fa n_ta_ca n_ta_pa n_ta_fa n_ca_pa n_ca_fa n_pa_fa ne_a4_sa ne_a4_ta ne_a4_ca ne_a4_pa ne_a4_fa ne_a2_sa ne_a2_ta ne_a2_ca ne_a2_pa ne_a2_fa V_sa V_ta V_ca V_pa V_fa hrule hwl hm hM) E_a4 rfl pd_12 rfl (hst := rfl) (W := 0) (Nat.le_of_eq rfl) (by decide) (by decide) (c2 := 9) (s2 := 43) rfl rfl (by decide) (by decide) (allS (Or.inr N_ca) (allS (Or.inr N_pa) (allS (Or.inr N_fa) all0))) (q := 56) rfl ?_
  intro v8 T8 h8 O8 K8 q8
  obtain ⟨rfl, p0_, w0_, p1_, w1_, SW0, SW1, V_ca, V_pa, V_fa⟩ := q8
  have E_a2 := E_a2.keep K8
  have F_cellCount_a2 := F_cellCount_a2.keep K8 (ninS ne_a2_ca (ninS ne_a2_pa (ninS ne_a2_fa nin0)))
  have F_dividesOutright_a2 := F_dividesOutright_a2.keep K8 (ninS ne_a2_ca (ninS ne_a2_pa (ninS ne_a2_fa nin0)))
  have F_reciprocal_a2 := F_reciprocal_a2.keep K8 (ninS ne_a2_ca (ninS ne_a2_pa (ninS ne_a2_fa nin0)))
  have F_shift_a2 := F_shift_a2.keep K8 (ninS ne_a2_ca (ninS ne_a2_pa (ninS ne_a2_fa nin0)))
  have E_a4 := E_a4.keep K8
  have F_rule_a4 := F_rule_a4.keep K8 (ninS ne_a4_ca (ninS ne_a4_pa (ninS ne_a4_fa nin0)))
  have F_cellCount_a4 := F_cellCount_a4.keep K8 (ninS ne_a4_ca (ninS ne_a4_pa (ninS ne_a4_fa nin0)))
  have F_wrapLoss_a4 := F_wrapLoss_a4.keep K8 (ninS ne_a4_ca (ninS ne_a4_pa (ninS ne_a4_fa nin0)))
  have F_sums_a4 := F_sums_a4.keep K8 (ninS ne_a4_ca (ninS ne_a4_pa (ninS ne_a4_fa nin0)))
  have F_steps_a4 := F_steps_a4.keep K8 (ninS ne_a4_ca (ninS ne_a4_pa (ninS ne_a4_fa nin0)))
  have F_cells_a4 := F_cells_a4.keep K8 (ninS ne_a4_ca (ninS ne_a4_pa (ninS ne_a4_fa nin0)))
  have F_plainSteps_a4 := F_plainSteps_a4.keep K8 (ninS ne_a4_ca (ninS ne_a4_pa (ninS ne_a4_fa nin0)))
  have F_wrapFlips_a4 := F_wrapFlips_a4.keep K8 (ninS ne_a4_ca (ninS ne_a4_pa (ninS ne_a4_fa nin0)))
  have F_size_a4 := F_size_a4.keep K8 (ninS ne_a4_ca (ninS ne_a4_pa (ninS ne_a4_fa nin0)))
  have V_sa := V_sa.keep K8 (ninS n_sa_ca (ninS n_sa_pa (ninS n_sa_fa nin0)))
  have V_ta := V_ta.keep K8 (ninS n_ta_ca (ninS n_ta_pa (ninS n_ta_fa nin0)))
  show Go C _ _ _ _ (T8.setTop (mkF C.m 56 #[.val (.long p0), .second, .val (.long p2), .second, .val (.long p4), .second, .val (.long p6), .second, .val (.long p8), .second, .val (.long m), .second, .val (.ref a2), .val (.ref a4), .unset, .unset, .unset] []))
  refine Jvm.OwnW.aload O8 at_56 rfl rfl (q := 58) rfl ?_
  refine Jvm.OwnW.callV0 O8 (y := (⟨"com/example/occupancy/occupancy/hash/internal/CellBatch", "cells", "()[J"⟩ : MethodName)) (z := (⟨"com/example/occupancy/occupancy/hash/internal/CellBatch", "cells", "()[J"⟩ : MethodName)) (a := a4) (argsL := []) (rest := []) at_58 (hw _ (List.mem_of_getElem? (i := 100) rfl)) (hw _ (List.mem_of_getElem? (i := 101) rfl)) (hw _ (List.mem_of_getElem? (i := 103) rfl)) rfl (hw _ (List.mem_of_getElem? (i := 102) rfl)) (hw _ (List.mem_of_getElem? (i := 25) rfl)) (hw _ (List.mem_of_getElem? (i := 104) rfl)) (by decide) (rm_g l Z a0 hw a4 ca h8 E_a4 F_cells_a4) E_a4 rfl pd_13 rfl (hst := rfl) (W := 0) (Nat.le_of_eq rfl) (by decide) (by decide) (c2 := 9) (s2 := 43) rfl rfl (by decide) (by decide) rfl rfl (q := 61) rfl ?_
  intro v9 T9 O9 q9
  obtain rfl := q9
  show Go C _ _ _ _ (T9.setTop (mkF C.m 61 #[.val (.long p0), .second, .val (.long p2), .second, .val (.long p4), .second, .val (.long p6), .second, .val (.long p8), .second, .val (.long m), .second, .val (.ref a2), .val (.ref a4), .unset, .unset, .unset] [(.ref ca)]))
  refine Jvm.OwnW.astore O9 at_61 rfl (L' := #[.val (.long p0), .second, .val (.long p2), .second, .val (.long p4), .second, .val (.long p6), .second, .val (.long p8), .second, .val (.long m), .second, .val (.ref a2), .val (.ref a4), .val (.ref ca), .unset, .unset]) rfl (q := 63) rfl ?_
  refine Jvm.OwnW.aload O9 at_63 rfl rfl (q := 65) rfl ?_
  refine Jvm.OwnW.callV O9 (y := (⟨"com/example/occupancy/occupancy/hash/internal/CellBatch", "step", "()V"⟩ : MethodName)) (z := (⟨"com/example/occupancy/occupancy/hash/internal/CellBatch", "step", "()V"⟩ : MethodName)) (a := a4) (argsL := []) (rest := []) at_65 (hw _ (List.mem_of_getElem? (i := 105) rfl)) (hw _ (List.mem_of_getElem? (i := 106) rfl)) (hw _ (List.mem_of_getElem? (i := 108) rfl)) rfl (hw _ (List.mem_of_getElem? (i := 107) rfl)) (hw _ (List.mem_of_getElem? (i := 25) rfl)) (hw _ (List.mem_of_getElem? (i := 109) rfl)) (by decide) (rm_p l Z a0 hw a4 a2 sa ta ca pa fa wl m rc d sh p2 p6 p4 p8 p0_ w0_ p1_ w1_ M h8 E_a4 F_rule_a4 F_cellCount_a4 F_wrapLoss_a4 F_sums_a4 F_steps_a4 F_cells_a4 F_plainSteps_a4 F_wrapFlips_a4 F_size_a4 E_a2 F_cellCount_a2 F_dividesOutright_a2 F_reciprocal_a2 F_shift_a2 n_sa_ta n_sa_ca n_sa_pa n_sa_fa n_ta_ca n_ta_pa n_ta_fa n_ca_pa n_ca_fa n_pa_fa ne_a4_sa ne_a4_ta ne_a4_ca ne_a4_pa ne_a4_fa ne_a2_sa ne_a2_ta ne_a2_ca ne_a2_pa ne_a2_fa V_sa V_ta V_ca V_pa V_fa SW0 SW1 hm hM) E_a4 rfl pd_12 rfl (hst := rfl) (W := 0) (Nat.le_of_eq rfl) (by decide) (by decide) (c2 := 9) (s2 := 43) rfl rfl (by decide) (by decide) (allS (Or.inr N_sa) (allS (Or.inr N_ca) all0)) (q := 68) rfl ?_
  intro v10 T10 h10 O10 K10 q10
  obtain ⟨rfl, V_sa, V_ca⟩ := q10
  have E_a2 := E_a2.keep K10
  have F_cellCount_a2 := F_cellCount_a2.keep K10 (ninS ne_a2_sa (ninS ne_a2_ca nin0))
  have F_dividesOutright_a2 := F_dividesOutright_a2.keep K10 (ninS ne_a2_sa (ninS ne_a2_ca nin0))
  have F_reciprocal_a2 := F_reciprocal_a2.keep K10 (ninS ne_a2_sa (ninS ne_a2_ca nin0))
  have F_shift_a2 := F_shift_a2.keep K10 (ninS ne_a2_sa (ninS ne_a2_ca nin0))
  have E_a4 := E_a4.keep K10
  have F_rule_a4 := F_rule_a4.keep K10 (ninS ne_a4_sa (ninS ne_a4_ca nin0))
  have F_cellCount_a4 := F_cellCount_a4.keep K10 (ninS ne_a4_sa (ninS ne_a4_ca nin0))
  have F_wrapLoss_a4 := F_wrapLoss_a4.keep K10 (ninS ne_a4_sa (ninS ne_a4_ca nin0))
  have F_sums_a4 := F_sums_a4.keep K10 (ninS ne_a4_sa (ninS ne_a4_ca nin0))
  have F_steps_a4 := F_steps_a4.keep K10 (ninS ne_a4_sa (ninS ne_a4_ca nin0))
  have F_cells_a4 := F_cells_a4.keep K10 (ninS ne_a4_sa (ninS ne_a4_ca nin0))
  have F_plainSteps_a4 := F_plainSteps_a4.keep K10 (ninS ne_a4_sa (ninS ne_a4_ca nin0))
  have F_wrapFlips_a4 := F_wrapFlips_a4.keep K10 (ninS ne_a4_sa (ninS ne_a4_ca nin0))
  have F_size_a4 := F_size_a4.keep K10 (ninS ne_a4_sa (ninS ne_a4_ca nin0))
  have V_ta := V_ta.keep K10 (ninS (Ne.symm n_sa_ta) (ninS n_ta_ca nin0))
  have V_pa := V_pa.keep K10 (ninS (Ne.symm n_sa_pa) (ninS (Ne.symm n_ca_pa) nin0))
  have V_fa := V_fa.keep K10 (ninS (Ne.symm n_sa_fa) (ninS (Ne.symm n_ca_fa) nin0))
  show Go C _ _ _ _ (T10.setTop (mkF C.m 68 #[.val (.long p0), .second, .val (.long p2), .second, .val (.long p4), .second, .val (.long p6), .second, .val (.long p8), .second, .val (.long m), .second, .val (.ref a2), .val (.ref a4), .val (.ref ca), .unset, .unset] []))
  refine Jvm.OwnW.aload O10 at_68 rfl rfl (q := 70) rfl ?_
  refine Jvm.OwnW.iconst O10 at_70 (r := (0 : Int32)) rfl (q := 71) rfl ?_
  refine Jvm.OwnW.lalA O10 at_71 V_ca (i := 0) rfl (by decide) (v := (.long (own_c m (p2 + p4)))) rfl (q := 72) rfl ?_
  refine Jvm.OwnW.aload O10 at_72 rfl rfl (q := 74) rfl ?_
  refine Jvm.OwnW.lloadN O10 at_74 rfl (q := 75) rfl ?_
  refine Jvm.OwnW.lload O10 at_75 rfl (q := 77) rfl ?_
  refine Jvm.OwnW.ladd O10 at_77 rfl (q := 78) rfl ?_
  refine Jvm.OwnW.callV0 O10 (y := (⟨"com/example/occupancy/occupancy/hash/internal/CellRule", "cellOf", "(J)J"⟩ : MethodName)) (z := (⟨"com/example/occupancy/occupancy/hash/internal/CellRule", "cellOf", "(J)J"⟩ : MethodName)) (a := a2) (argsL := [(.long (p2 + p4))]) (rest := [(.long (own_c m (p2 + p4)))]) at_78 (hw _ (List.mem_of_getElem? (i := 110) rfl)) (hw _ (List.mem_of_getElem? (i := 55) rfl)) (hw _ (List.mem_of_getElem? (i := 57) rfl)) rfl (hw _ (List.mem_of_getElem? (i := 56) rfl)) (hw _ (List.mem_of_getElem? (i := 7) rfl)) (hw _ (List.mem_of_getElem? (i := 58) rfl)) (by decide) (rm_o l Z a0 hw a2 (p2 + p4) m rc d sh h10 E_a2 F_cellCount_a2 F_dividesOutright_a2 F_reciprocal_a2 F_shift_a2 hrule) E_a2 rfl pd_4 rfl (hst := rfl) (W := 2) (Nat.le_of_eq rfl) (by decide) (by decide) (c2 := 9) (s2 := 43) rfl rfl (by decide) (by decide) rfl rfl (q := 81) rfl ?_
  intro v11 T11 O11 q11
  obtain rfl := q11
  show Go C _ _ _ _ (T11.setTop (mkF C.m 81 #[.val (.long p0), .second, .val (.long p2), .second, .val (.long p4), .second, .val (.long p6), .second, .val (.long p8), .second, .val (.long m), .second, .val (.ref a2), .val (.ref a4), .val (.ref ca), .unset, .unset] [(.long (own_c m (p2 + p4))), (.long (own_c m (p2 + p4)))]))
  refine Jvm.OwnW.lcmp O11 at_81 rfl (q := 82) rfl ?_
  refine Jvm.OwnW.ifNo O11 at_82 (teqL (show (own_c m (p2 + p4)) = (own_c m (p2 + p4)) from rfl)).2 (q := 85) rfl ?_
  refine Jvm.OwnW.aload O11 at_85 rfl rfl (q := 87) rfl ?_
  refine Jvm.OwnW.iconst O11 at_87 (r := (1 : Int32)) rfl (q := 88) rfl ?_
  refine Jvm.OwnW.lalA O11 at_88 V_ca (i := 1) rfl (by decide) (v := (.long (own_c m (p6 + p8)))) rfl (q := 89) rfl ?_
  refine Jvm.OwnW.aload O11 at_89 rfl rfl (q := 91) rfl ?_
  refine Jvm.OwnW.lload O11 at_91 rfl (q := 93) rfl ?_
  refine Jvm.OwnW.lload O11 at_93 rfl (q := 95) rfl ?_
  refine Jvm.OwnW.ladd O11 at_95 rfl (q := 96) rfl ?_
  refine Jvm.OwnW.callV0 O11 (y := (⟨"com/example/occupancy/occupancy/hash/internal/CellRule", "cellOf", "(J)J"⟩ : MethodName)) (z := (⟨"com/example/occupancy/occupancy/hash/internal/CellRule", "cellOf", "(J)J"⟩ : MethodName)) (a := a2) (argsL := [(.long (p6 + p8))]) (rest := [(.long (own_c m (p6 + p8)))]) at_96 (hw _ (List.mem_of_getElem? (i := 110) rfl)) (hw _ (List.mem_of_getElem? (i := 55) rfl)) (hw _ (List.mem_of_getElem? (i := 57) rfl)) rfl (hw _ (List.mem_of_getElem? (i := 56) rfl)) (hw _ (List.mem_of_getElem? (i := 7) rfl)) (hw _ (List.mem_of_getElem? (i := 58) rfl)) (by decide) (rm_o l Z a0 hw a2 (p6 + p8) m rc d sh h10 E_a2 F_cellCount_a2 F_dividesOutright_a2 F_reciprocal_a2 F_shift_a2 hrule) E_a2 rfl pd_4 rfl (hst := rfl) (W := 2) (Nat.le_of_eq rfl) (by decide) (by decide) (c2 := 9) (s2 := 43) rfl rfl (by decide) (by decide) rfl rfl (q := 99) rfl ?_
  intro v12 T12 O12 q12
  obtain rfl := q12
  show Go C _ _ _ _ (T12.setTop (mkF C.m 99 #[.val (.long p0), .second, .val (.long p2), .second, .val (.long p4), .second, .val (.long p6), .second, .val (.long p8), .second, .val (.long m), .second, .val (.ref a2), .val (.ref a4), .val (.ref ca), .unset, .unset] [(.long (own_c m (p6 + p8))), (.long (own_c m (p6 + p8)))]))
  refine Jvm.OwnW.lcmp O12 at_99 rfl (q := 100) rfl ?_
  refine Jvm.OwnW.ifNo O12 at_100 (teqL (show (own_c m (p6 + p8)) = (own_c m (p6 + p8)) from rfl)).2 (q := 103) rfl ?_
  refine Jvm.OwnW.iconst O12 at_103 (r := (1 : Int32)) rfl (q := 104) rfl ?_
  refine Jvm.OwnW.goto O12 at_104 (by decide) (q := 108) rfl ?_
  refine Jvm.OwnW.istore O12 at_108 (L' := #[.val (.long p0), .second, .val (.long p2), .second, .val (.long p4), .second, .val (.long p6), .second, .val (.long p8), .second, .val (.long m), .second, .val (.ref a2), .val (.ref a4), .val (.ref ca), .val (.int (1 : Int32)), .unset]) rfl (q := 110) rfl ?_
  refine Jvm.OwnW.aload O12 at_110 rfl rfl (q := 112) rfl ?_
  refine Jvm.OwnW.callV O12 (y := (⟨"com/example/occupancy/occupancy/hash/internal/CellBatch", "step", "()V"⟩ : MethodName)) (z := (⟨"com/example/occupancy/occupancy/hash/internal/CellBatch", "step", "()V"⟩ : MethodName)) (a := a4) (argsL := []) (rest := []) at_112 (hw _ (List.mem_of_getElem? (i := 105) rfl)) (hw _ (List.mem_of_getElem? (i := 106) rfl)) (hw _ (List.mem_of_getElem? (i := 108) rfl)) rfl (hw _ (List.mem_of_getElem? (i := 107) rfl)) (hw _ (List.mem_of_getElem? (i := 25) rfl)) (hw _ (List.mem_of_getElem? (i := 109) rfl)) (by decide) (rm_p l Z a0 hw a4 a2 sa ta ca pa fa wl m rc d sh (p2 + p4) (p6 + p8) p4 p8 p0_ w0_ p1_ w1_ M h10 E_a4 F_rule_a4 F_cellCount_a4 F_wrapLoss_a4 F_sums_a4 F_steps_a4 F_cells_a4 F_plainSteps_a4 F_wrapFlips_a4 F_size_a4 E_a2 F_cellCount_a2 F_dividesOutright_a2 F_reciprocal_a2 F_shift_a2 n_sa_ta n_sa_ca n_sa_pa n_sa_fa n_ta_ca n_ta_pa n_ta_fa n_ca_pa n_ca_fa n_pa_fa ne_a4_sa ne_a4_ta ne_a4_ca ne_a4_pa ne_a4_fa ne_a2_sa ne_a2_ta ne_a2_ca ne_a2_pa ne_a2_fa V_sa V_ta V_ca V_pa V_fa SW0 SW1 hm hM) E_a4 rfl pd_12 rfl (hst := rfl) (W := 0) (Nat.le_of_eq rfl) (by decide) (by decide) (c2 := 9) (s2 := 43) rfl rfl (by decide) (by decide) (allS (Or.inr N_sa) (allS (Or.inr N_ca) all0)) (q := 115) rfl ?_
  intro v13 T13 h13 O13 K13 q13
  obtain ⟨rfl, V_sa, V_ca⟩ := q13
  have E_a2 := E_a2.keep K13
  have F_cellCount_a2 := F_cellCount_a2.keep K13 (ninS ne_a2_sa (ninS ne_a2_ca nin0))
  have F_dividesOutright_a2 := F_dividesOutright_a2.keep K13 (ninS ne_a2_sa (ninS ne_a2_ca nin0))
  have F_reciprocal_a2 := F_reciprocal_a2.keep K13 (ninS ne_a2_sa (ninS ne_a2_ca nin0))
  have F_shift_a2 := F_shift_a2.keep K13 (ninS ne_a2_sa (ninS ne_a2_ca nin0))
  have E_a4 := E_a4.keep K13
  have F_rule_a4 := F_rule_a4.keep K13 (ninS ne_a4_sa (ninS ne_a4_ca nin0))
  have F_cellCount_a4 := F_cellCount_a4.keep K13 (ninS ne_a4_sa (ninS ne_a4_ca nin0))
  have F_wrapLoss_a4 := F_wrapLoss_a4.keep K13 (ninS ne_a4_sa (ninS ne_a4_ca nin0))
  have F_sums_a4 := F_sums_a4.keep K13 (ninS ne_a4_sa (ninS ne_a4_ca nin0))
  have F_steps_a4 := F_steps_a4.keep K13 (ninS ne_a4_sa (ninS ne_a4_ca nin0))
  have F_cells_a4 := F_cells_a4.keep K13 (ninS ne_a4_sa (ninS ne_a4_ca nin0))
  have F_plainSteps_a4 := F_plainSteps_a4.keep K13 (ninS ne_a4_sa (ninS ne_a4_ca nin0))
  have F_wrapFlips_a4 := F_wrapFlips_a4.keep K13 (ninS ne_a4_sa (ninS ne_a4_ca nin0))
  have F_size_a4 := F_size_a4.keep K13 (ninS ne_a4_sa (ninS ne_a4_ca nin0))
  have V_ta := V_ta.keep K13 (ninS (Ne.symm n_sa_ta) (ninS n_ta_ca nin0))
  have V_pa := V_pa.keep K13 (ninS (Ne.symm n_sa_pa) (ninS (Ne.symm n_ca_pa) nin0))
  have V_fa := V_fa.keep K13 (ninS (Ne.symm n_sa_fa) (ninS (Ne.symm n_ca_fa) nin0))
  show Go C _ _ _ _ (T13.setTop (mkF C.m 115 #[.val (.long p0), .second, .val (.long p2), .second, .val (.long p4), .second, .val (.long p6), .second, .val (.long p8), .second, .val (.long m), .second, .val (.ref a2), .val (.ref a4), .val (.ref ca), .val (.int (1 : Int32)), .unset] []))
  refine Jvm.OwnW.aload O13 at_115 rfl rfl (q := 117) rfl ?_
  refine Jvm.OwnW.iconst O13 at_117 (r := (0 : Int32)) rfl (q := 118) rfl ?_
  refine Jvm.OwnW.lalA O13 at_118 V_ca (i := 0) rfl (by decide) (v := (.long (own_c m ((p2 + p4) + p4)))) rfl (q := 119) rfl ?_
  refine Jvm.OwnW.aload O13 at_119 rfl rfl (q := 121) rfl ?_
  refine Jvm.OwnW.lloadN O13 at_121 rfl (q := 122) rfl ?_
  refine Jvm.OwnW.ldcL O13 at_122 (hw _ (List.mem_of_getElem? (i := 111) rfl)) (q := 125) rfl ?_
  refine Jvm.OwnW.lload O13 at_125 rfl (q := 127) rfl ?_
  refine Jvm.OwnW.lmul O13 at_127 rfl (q := 128) rfl ?_
  refine Jvm.OwnW.ladd O13 at_128 rfl (q := 129) rfl ?_
  refine Jvm.OwnW.callV0 O13 (y := (⟨"com/example/occupancy/occupancy/hash/internal/CellRule", "cellOf", "(J)J"⟩ : MethodName)) (z := (⟨"com/example/occupancy/occupancy/hash/internal/CellRule", "cellOf", "(J)J"⟩ : MethodName)) (a := a2) (argsL := [(.long (p2 + ((2 : Int64) * p4)))]) (rest := [(.long (own_c m ((p2 + p4) + p4)))]) at_129 (hw _ (List.mem_of_getElem? (i := 110) rfl)) (hw _ (List.mem_of_getElem? (i := 55) rfl)) (hw _ (List.mem_of_getElem? (i := 57) rfl)) rfl (hw _ (List.mem_of_getElem? (i := 56) rfl)) (hw _ (List.mem_of_getElem? (i := 7) rfl)) (hw _ (List.mem_of_getElem? (i := 58) rfl)) (by decide) (rm_o l Z a0 hw a2 (p2 + ((2 : Int64) * p4)) m rc d sh h13 E_a2 F_cellCount_a2 F_dividesOutright_a2 F_reciprocal_a2 F_shift_a2 hrule) E_a2 rfl pd_4 rfl (hst := rfl) (W := 2) (Nat.le_of_eq rfl) (by decide) (by decide) (c2 := 9) (s2 := 43) rfl rfl (by decide) (by decide) rfl rfl (q := 132) rfl ?_
  intro v14 T14 O14 q14
  obtain rfl := q14
  show Go C _ _ _ _ (T14.setTop (mkF C.m 132 #[.val (.long p0), .second, .val (.long p2), .second, .val (.long p4), .second, .val (.long p6), .second, .val (.long p8), .second, .val (.long m), .second, .val (.ref a2), .val (.ref a4), .val (.ref ca), .val (.int (1 : Int32)), .unset] [(.long (own_c m (p2 + ((2 : Int64) * p4)))), (.long (own_c m ((p2 + p4) + p4)))]))
  refine Jvm.OwnW.lcmp O14 at_132 rfl (q := 133) rfl ?_
  refine Jvm.OwnW.ifNo O14 at_133 (teqL (show (own_c m ((p2 + p4) + p4)) = (own_c m (p2 + ((2 : Int64) * p4))) from (by rw [own_2]))).2 (q := 136) rfl ?_
  refine Jvm.OwnW.aload O14 at_136 rfl rfl (q := 138) rfl ?_
  refine Jvm.OwnW.iconst O14 at_138 (r := (1 : Int32)) rfl (q := 139) rfl ?_
  refine Jvm.OwnW.lalA O14 at_139 V_ca (i := 1) rfl (by decide) (v := (.long (own_c m ((p6 + p8) + p8)))) rfl (q := 140) rfl ?_
  refine Jvm.OwnW.aload O14 at_140 rfl rfl (q := 142) rfl ?_
  refine Jvm.OwnW.lload O14 at_142 rfl (q := 144) rfl ?_
  refine Jvm.OwnW.ldcL O14 at_144 (hw _ (List.mem_of_getElem? (i := 111) rfl)) (q := 147) rfl ?_
  refine Jvm.OwnW.lload O14 at_147 rfl (q := 149) rfl ?_
  refine Jvm.OwnW.lmul O14 at_149 rfl (q := 150) rfl ?_
  refine Jvm.OwnW.ladd O14 at_150 rfl (q := 151) rfl ?_
  refine Jvm.OwnW.callV0 O14 (y := (⟨"com/example/occupancy/occupancy/hash/internal/CellRule", "cellOf", "(J)J"⟩ : MethodName)) (z := (⟨"com/example/occupancy/occupancy/hash/internal/CellRule", "cellOf", "(J)J"⟩ : MethodName)) (a := a2) (argsL := [(.long (p6 + ((2 : Int64) * p8)))]) (rest := [(.long (own_c m ((p6 + p8) + p8)))]) at_151 (hw _ (List.mem_of_getElem? (i := 110) rfl)) (hw _ (List.mem_of_getElem? (i := 55) rfl)) (hw _ (List.mem_of_getElem? (i := 57) rfl)) rfl (hw _ (List.mem_of_getElem? (i := 56) rfl)) (hw _ (List.mem_of_getElem? (i := 7) rfl)) (hw _ (List.mem_of_getElem? (i := 58) rfl)) (by decide) (rm_o l Z a0 hw a2 (p6 + ((2 : Int64) * p8)) m rc d sh h13 E_a2 F_cellCount_a2 F_dividesOutright_a2 F_reciprocal_a2 F_shift_a2 hrule) E_a2 rfl pd_4 rfl (hst := rfl) (W := 2) (Nat.le_of_eq rfl) (by decide) (by decide) (c2 := 9) (s2 := 43) rfl rfl (by decide) (by decide) rfl rfl (q := 154) rfl ?_
  intro v15 T15 O15 q15
  obtain rfl := q15
  show Go C _ _ _ _ (T15.setTop (mkF C.m 154 #[.val (.long p0), .second, .val (.long p2), .second, .val (.long p4), .second, .val (.long p6), .second, .val (.long p8), .second, .val (.long m), .second, .val (.ref a2), .val (.ref a4), .val (.ref ca), .val (.int (1 : Int32)), .unset] [(.long (own_c m (p6 + ((2 : Int64) * p8)))), (.long (own_c m ((p6 + p8) + p8)))]))
  refine Jvm.OwnW.lcmp O15 at_154 rfl (q := 155) rfl ?_
  refine Jvm.OwnW.ifNo O15 at_155 (teqL (show (own_c m ((p6 + p8) + p8)) = (own_c m (p6 + ((2 : Int64) * p8))) from (by rw [own_2]))).2 (q := 158) rfl ?_
  refine Jvm.OwnW.iconst O15 at_158 (r := (1 : Int32)) rfl (q := 159) rfl ?_
  refine Jvm.OwnW.goto O15 at_159 (by decide) (q := 163) rfl ?_
  refine Jvm.OwnW.istore O15 at_163 (L' := #[.val (.long p0), .second, .val (.long p2), .second, .val (.long p4), .second, .val (.long p6), .second, .val (.long p8), .second, .val (.long m), .second, .val (.ref a2), .val (.ref a4), .val (.ref ca), .val (.int (1 : Int32)), .val (.int (1 : Int32))]) rfl (q := 165) rfl ?_
  refine Jvm.OwnW.iload O15 at_165 rfl (q := 167) rfl ?_
  refine Jvm.OwnW.ifNo O15 at_167 (feq0 (show ¬ ((1 : Int32) = (0 : Int32)) from (by decide))).1 (q := 170) rfl ?_
  refine Jvm.OwnW.iload O15 at_170 rfl (q := 172) rfl ?_
  refine Jvm.OwnW.ifNo O15 at_172 (feq0 (show ¬ ((1 : Int32) = (0 : Int32)) from (by decide))).1 (q := 175) rfl ?_
  refine Jvm.OwnW.iconst O15 at_175 (r := (1 : Int32)) rfl (q := 176) rfl ?_
  refine Jvm.OwnW.goto O15 at_176 (by decide) (q := 180) rfl ?_
  exact Jvm.OwnW.retB O15 at_180 rfl (Or.inr rfl) (by decide) (by decide) rfl
set_option maxRecDepth 65536 in
set_option maxHeartbeats 40000000 in
theorem comes_1 {Post : Tables → Env → Array Value → State → Outcome → State → Prop} (hpost : ∀ tb e args s v u, (limb_1_1.after args s (.returned v) u = true ∧ limb_1_2.after args s (.returned v) u = true ∧ True) → FramedW s (.returned v) u (Jvm.fieldLocs frame_1_writes args s ++ Jvm.arrayLocs frame_1_arrays args s ++ Jvm.staticLocs frame_1_statics s) 24 1152 → Post tb e args s (.returned v) u) :
    ArmFor flags0 classFile x code maxLocals ret World_1 tables_1 room_1 Calls_1 rest_1 Pre_1 Post := by
  intro l hfl _ _ p e ha hc hk s m args below hf hA hF happ hP
  obtain ⟨hcalls, hrest, hpre⟩ := hP
  obtain ⟨-, -, -, hnamed, -, -, -, hat⟩ := (Spec.applies_iff hf).mp happ
  obtain ⟨hg, hn⟩ := and_e (Cond.before_iff.mp (show (Jvm.Cond.and given_1 narrow_1).before args s = true from hpre))
  obtain ⟨hn1, hg⟩ := and_e hg
  obtain ⟨w0, w1, w2, w3, w4, rfl⟩ : ∃ w0 w1 w2 w3 w4 : Value, args = #[w0, w1, w2, w3, w4] := by
    have hs : args.size = 5 := by simpa [Cond.value, given_1] using hn1
    obtain ⟨L⟩ := args
    match L, hs with
    | [w0, w1, w2, w3, w4], _ => exact ⟨w0, w1, w2, w3, w4, rfl⟩
  have hw := fun d (hd : d ∈ tables_1) => atoms_spec (ws := Jvm.Cond.code x code maxLocals ret :: tables_1) hat d (List.mem_cons_of_mem _ hd)
  obtain ⟨hg0, hg⟩ := and_e hg
  obtain ⟨i0, e0⟩ := isL_v hg0
  obtain rfl : w0 = (.long i0) := Option.some.inj e0
  obtain ⟨hg1, hg⟩ := and_e hg
  obtain ⟨i1, e1⟩ := isL_v hg1
  obtain rfl : w1 = (.long i1) := Option.some.inj e1
  obtain ⟨hg2, hg⟩ := and_e hg
  obtain ⟨i2, e2⟩ := isL_v hg2
  obtain rfl : w2 = (.long i2) := Option.some.inj e2
  obtain ⟨hg3, hg⟩ := and_e hg
  obtain ⟨i3, e3⟩ := isL_v hg3
  obtain rfl : w3 = (.long i3) := Option.some.inj e3
  obtain ⟨i4, e4⟩ := isL_v hg
  obtain rfl : w4 = (.long i4) := Option.some.inj e4

  obtain ⟨n, o, h1, h2, h3, _, L, rfl, ⟨N, -, -, rfl⟩, hq⟩ := rm_0 l s _ hw tables_1 i0 i1 i2 i3 i4 s.heap  p e ha hc hk s m _ below hf ((Spec.applies_iff_loose hf).mp happ).1 ⟨rfl, State.Warmed39.refl s, rfl⟩ trivial
  refine ⟨n, _, h1, h2, h3, hpost _ _ _ _ _ _ ⟨Cond.after_iff.mpr rfl, Cond.after_iff.mpr (eq_i res_at (Term.int_eval (1)) rfl), trivial⟩ ⟨hq.1, hq.2.1, hq.2.2.1, (hq.2.2.2.sift fun y hy => Or.inr ((N y hy).elim (fun z => nomatch z) id)).mono (by decide) (by decide)⟩⟩
theorem main_1_1 : Claimed_1_1 := comes_1 fun _ _ _ _ _ _ h hF => ⟨h.1, hF⟩
theorem main_1_2 : Claimed_1_2 := comes_1 fun _ _ _ _ _ _ h hF => ⟨h.2.1, hF⟩
end Jvm.Pilot.@@N@@
namespace Jvm.Pilot.@@N@@
open Jvm Jvm.ClassFile Sem Op Lib Jvm.Free Jvm.Stand Jvm.Pilot.@@N@@.Jvm.D
/-! MADE BY PROGRAM (witnessworld.py) out of the Statement's table words and the real class files: 22 classes; the members and pool entries that the words name. The judged class is class 1, her method 1. -/
namespace start1
open Jvm.ClassFile
def u (s : String) : CpInfo := .utf8 (stringToUtf16 s)
/-- a pool by its gaps: so many unusable entries, then the entry; so many at the end -/
def gap : Nat → List CpInfo → List CpInfo
  | 0, r => r
  | n + 1, r => .unusable :: gap n r
def poolList (es : List (Nat × CpInfo)) (last : Nat) : List CpInfo := es.foldr (fun e r => gap e.1 (e.2 :: r)) (gap last [])
def pool (es : List (Nat × CpInfo)) (last : Nat) : Array CpInfo := ⟨poolList es last⟩
def fileOf (pool : Array CpInfo) (this : Nat) (attrs : Array Attribute := #[]) (ms : Array MethodInfo := #[]) (fl : Nat := 33) (sup : Nat := 0) (ifs : Array Nat := #[]) (fds : Array FieldInfo := #[]) : ClassFile where
  minorVersion := 0
  majorVersion := 65
  constantPool := pool
  accessFlags := fl
  thisClass := this
  superClass := sup
  interfaces := ifs
  fields := fds
  methods := ms
  attributes := attrs
def plain (name : String) (sup : Option ClassId) : Class where
  name := name
  kind := .ordinary
  loader := none
  accessFlags := 33
  super := sup
  interfaces := #[]
  cf := none
  fields := #[]
  methods := #[]
  instanceTypes := #[]
  staticTypes := #[]
  resolved := #[]
  callSites := []
  init := .initialized
  statics := none
  mirror := none

def pool0 : Array CpInfo := pool [(5, u "<init>"), (0, u "()V"), (1, .class_ 10), (1, u "java/lang/Object")] 113

def k0c0 : Code := { maxStack := 0, maxLocals := 1, code := object_method_1_code, exceptionTable := #[], attributes := #[] }
def k0m0 : Method := { name := "<init>", desc := "()V", sig := { parameters := [], returnType := none }, accessFlags := 1, code := some k0c0 }
/-- java/lang/Object -/
def k0 : Class := { plain "java/lang/Object" none with
  accessFlags := 33
  interfaces := #[]
  cf := some (fileOf pool0 8 #[] #[{ accessFlags := 1, nameIndex := 5, descriptorIndex := 6, attributes := #[] }] 33 0 #[] #[])
  fields := #[]
  methods := #[k0m0]
  instanceTypes := #[]
  staticTypes := #[]
  resolved := Array.replicate 124 none
  statics := none }

def pool1 : Array CpInfo := pool [(2, .class_ 4), (1, u "java/lang/Object"), (0, u "<init>"), (0, u "()V"), (2, .long 9223372036854775807), (1, .methodref 12 13), (0, .class_ 14), (0, .nameAndType 15 16), (0, u "java/lang/Math"), (0, u "max"), (0, u "(JJ)J"), (0, .class_ 18), (0, u "com/example/occupancy/occupancy/hash/internal/CellRule"), (0, .methodref 17 20), (0, .nameAndType 5 21), (0, u "(J)V"), (0, .class_ 23), (0, u "com/example/occupancy/occupancy/hash/internal/CellBatch"), (0, .methodref 22 25), (0, .nameAndType 5 26), (0, u "(Lcom/example/occupancy/occupancy/hash/internal/CellRule;I)V"), (0, .methodref 22 28), (0, .nameAndType 29 30), (0, u "add"), (0, u "(JJ)V"), (0, .methodref 22 32), (0, .nameAndType 33 6), (0, u "start"), (0, .methodref 22 35), (0, .nameAndType 36 37), (0, u "cells"), (0, u "()[J"), (0, .methodref 22 39), (0, .nameAndType 40 6), (0, u "step"), (0, .methodref 17 42), (0, .nameAndType 43 44), (0, u "cellOf"), (0, u "(J)J"), (0, .long 2), (1, .class_ 48), (0, u "com/example/occupancy/occupancy/hash/internal/CellBatchStepPinLaw"), (2, u "law"), (0, u "(JJJJJ)Z")] 5

def k1m0 : Method := { name := "<init>", desc := "()V", sig := { parameters := [], returnType := none }, accessFlags := 1, code := none }
def k1c1 : Code := { maxStack := 9, maxLocals := 17, code := code, exceptionTable := #[], attributes := #[] }
def k1m1 : Method := { name := "law", desc := "(JJJJJ)Z", sig := { parameters := [.long, .long, .long, .long, .long], returnType := some .boolean }, accessFlags := 9, code := some k1c1 }
/-- com/example/occupancy/occupancy/hash/internal/CellBatchStepPinLaw -/
def k1 : Class := { plain "com/example/occupancy/occupancy/hash/internal/CellBatchStepPinLaw" (some 0) with
  accessFlags := 49
  interfaces := #[]
  cf := some (fileOf pool1 47 #[] #[{ accessFlags := 1, nameIndex := 5, descriptorIndex := 6, attributes := #[] }, { accessFlags := 9, nameIndex := 51, descriptorIndex := 52, attributes := #[] }] 49 2 #[] #[])
  fields := #[]
  methods := #[k1m0, k1m1]
  instanceTypes := #[]
  staticTypes := #[]
  resolved := Array.replicate 58 none
  statics := none }

def pool2 : Array CpInfo := pool [(1, .class_ 2), (0, u "java/lang/Math"), (1, .class_ 6), (1, u "java/lang/Object"), (0, u "<init>"), (0, u "()V"), (89, .class_ 100), (1, u "java/lang/Math$RandomNumberGeneratorHolder"), (20, u "(JJ)J"), (16, .long 4294967295), (3, u "multiplyHigh"), (29, u "negativeZeroFloatBits"), (0, u "J"), (2, u "negativeZeroDoubleBits"), (21, u "max"), (46, u "$assertionsDisabled"), (0, u "Z"), (91, u "twoToTheDoubleScaleDown"), (0, u "D"), (4, u "twoToTheDoubleScaleUp"), (9, u "E"), (3, u "PI"), (2, u "TAU"), (2, u "DEGREES_TO_RADIANS"), (0, u "RADIANS_TO_DEGREES")] 94

def k2m0 : Method := { name := "<init>", desc := "()V", sig := { parameters := [], returnType := none }, accessFlags := 2, code := none }
def k2c1 : Code := { maxStack := 6, maxLocals := 20, code := jdk_29_method_45_code, exceptionTable := #[], attributes := #[] }
def k2m1 : Method := { name := "multiplyHigh", desc := "(JJ)J", sig := { parameters := [.long, .long], returnType := some .long }, accessFlags := 9, code := some k2c1 }
def k2c2 : Code := { maxStack := 4, maxLocals := 4, code := jdk_29_method_66_code, exceptionTable := #[], attributes := #[] }
def k2m2 : Method := { name := "max", desc := "(JJ)J", sig := { parameters := [.long, .long], returnType := some .long }, accessFlags := 9, code := some k2c2 }
/-- java/lang/Math -/
def k2 : Class := { plain "java/lang/Math" (some 0) with
  accessFlags := 49
  interfaces := #[]
  cf := some (fileOf pool2 1 #[.nestMembers #[98]] #[{ accessFlags := 2, nameIndex := 7, descriptorIndex := 8, attributes := #[] }, { accessFlags := 9, nameIndex := 142, descriptorIndex := 121, attributes := #[] }, { accessFlags := 9, nameIndex := 198, descriptorIndex := 121, attributes := #[] }] 49 4 #[] #[{ accessFlags := 25, nameIndex := 354, descriptorIndex := 339, attributes := #[] }, { accessFlags := 25, nameIndex := 358, descriptorIndex := 339, attributes := #[] }, { accessFlags := 25, nameIndex := 361, descriptorIndex := 339, attributes := #[] }, { accessFlags := 26, nameIndex := 364, descriptorIndex := 339, attributes := #[] }, { accessFlags := 26, nameIndex := 365, descriptorIndex := 339, attributes := #[] }, { accessFlags := 26, nameIndex := 172, descriptorIndex := 173, attributes := #[] }, { accessFlags := 26, nameIndex := 176, descriptorIndex := 173, attributes := #[] }, { accessFlags := 8, nameIndex := 344, descriptorIndex := 339, attributes := #[] }, { accessFlags := 8, nameIndex := 338, descriptorIndex := 339, attributes := #[] }, { accessFlags := 4120, nameIndex := 245, descriptorIndex := 246, attributes := #[] }])
  fields := #[{ name := "E", type := .double, accessFlags := 25, slot := 0, constantValue := 0 }, { name := "PI", type := .double, accessFlags := 25, slot := 1, constantValue := 0 }, { name := "TAU", type := .double, accessFlags := 25, slot := 2, constantValue := 0 }, { name := "DEGREES_TO_RADIANS", type := .double, accessFlags := 26, slot := 3, constantValue := 0 }, { name := "RADIANS_TO_DEGREES", type := .double, accessFlags := 26, slot := 4, constantValue := 0 }, { name := "negativeZeroFloatBits", type := .long, accessFlags := 26, slot := 5, constantValue := 0 }, { name := "negativeZeroDoubleBits", type := .long, accessFlags := 26, slot := 6, constantValue := 0 }, { name := "twoToTheDoubleScaleUp", type := .double, accessFlags := 8, slot := 7, constantValue := 0 }, { name := "twoToTheDoubleScaleDown", type := .double, accessFlags := 8, slot := 8, constantValue := 0 }, { name := "$assertionsDisabled", type := .boolean, accessFlags := 4120, slot := 9, constantValue := 0 }]
  methods := #[k2m0, k2m1, k2m2]
  instanceTypes := #[]
  staticTypes := #[.double, .double, .double, .double, .double, .long, .long, .double, .double, .boolean]
  resolved := Array.replicate 460 none
  statics := none }

def pool3 : Array CpInfo := pool [(1, .methodref 2 3), (0, .class_ 4), (0, .nameAndType 5 6), (0, u "java/lang/Object"), (0, u "<init>"), (0, u "()V"), (9, .fieldref 17 18), (0, .class_ 19), (0, .nameAndType 20 21), (0, u "com/example/occupancy/occupancy/hash/internal/CellRule"), (0, u "cellCount"), (0, u "J"), (0, .long 4), (1, .long 4611686018427387904), (1, .fieldref 17 27), (0, .nameAndType 28 29), (0, u "dividesOutright"), (0, u "Z"), (0, .fieldref 17 31), (0, .nameAndType 32 21), (0, u "reciprocal"), (0, .fieldref 17 34), (0, .nameAndType 35 36), (0, u "shift"), (0, u "I"), (0, .class_ 38), (0, u "java/lang/Long"), (0, .methodref 37 40), (0, .nameAndType 41 42), (0, u "numberOfLeadingZeros"), (0, u "(J)I"), (0, .methodref 17 44), (0, .nameAndType 45 46), (0, u "onesOver"), (0, u "(IJ)J"), (5, u "()J"), (3, .methodref 17 57), (0, .nameAndType 58 59), (0, u "cellOf"), (0, u "(J)J"), (10, .methodref 37 71), (0, .nameAndType 72 73), (0, u "remainderUnsigned"), (0, u "(JJ)J"), (0, .methodref 75 76), (0, .class_ 77), (0, .nameAndType 78 73), (0, u "java/lang/Math"), (0, u "multiplyHigh"), (0, .long 4294967295), (3, .long 18446744073709551615), (1, .methodref 37 86), (0, .nameAndType 87 73), (0, u "divideUnsigned"), (0, .long 2), (1, u "LEAST_RECIPROCAL_CELLS"), (1, u "MOST_RECIPROCAL_CELLS"), (0, u "LOW_HALF"), (0, u "(J)V"), (7, u "cellsOf"), (0, u "([J[JI)V")] 21

def k3c0 : Code := { maxStack := 5, maxLocals := 4, code := prog_32_method_1_code, exceptionTable := #[], attributes := #[] }
def k3m0 : Method := { name := "<init>", desc := "(J)V", sig := { parameters := [.long], returnType := none }, accessFlags := 1, code := some k3c0 }
def k3c1 : Code := { maxStack := 2, maxLocals := 1, code := prog_32_method_2_code, exceptionTable := #[], attributes := #[] }
def k3m1 : Method := { name := "cellCount", desc := "()J", sig := { parameters := [], returnType := some .long }, accessFlags := 1, code := some k3c1 }
def k3c2 : Code := { maxStack := 6, maxLocals := 9, code := prog_32_method_7_code, exceptionTable := #[], attributes := #[] }
def k3m2 : Method := { name := "cellOf", desc := "(J)J", sig := { parameters := [.long], returnType := some .long }, accessFlags := 1, code := some k3c2 }
def k3c3 : Code := { maxStack := 8, maxLocals := 20, code := prog_32_method_8_code, exceptionTable := #[], attributes := #[] }
def k3m3 : Method := { name := "cellsOf", desc := "([J[JI)V", sig := { parameters := [(.array .long), (.array .long), .int], returnType := none }, accessFlags := 0, code := some k3c3 }
def k3c4 : Code := { maxStack := 4, maxLocals := 8, code := prog_32_method_9_code, exceptionTable := #[], attributes := #[] }
def k3m4 : Method := { name := "onesOver", desc := "(IJ)J", sig := { parameters := [.int, .long], returnType := some .long }, accessFlags := 10, code := some k3c4 }
/-- com/example/occupancy/occupancy/hash/internal/CellRule -/
def k3 : Class := { plain "com/example/occupancy/occupancy/hash/internal/CellRule" (some 0) with
  accessFlags := 33
  interfaces := #[]
  cf := some (fileOf pool3 17 #[] #[{ accessFlags := 1, nameIndex := 5, descriptorIndex := 94, attributes := #[] }, { accessFlags := 1, nameIndex := 20, descriptorIndex := 52, attributes := #[] }, { accessFlags := 1, nameIndex := 58, descriptorIndex := 59, attributes := #[] }, { accessFlags := 0, nameIndex := 102, descriptorIndex := 103, attributes := #[] }, { accessFlags := 10, nameIndex := 45, descriptorIndex := 46, attributes := #[] }] 33 2 #[] #[{ accessFlags := 26, nameIndex := 90, descriptorIndex := 21, attributes := #[] }, { accessFlags := 26, nameIndex := 92, descriptorIndex := 21, attributes := #[] }, { accessFlags := 26, nameIndex := 93, descriptorIndex := 21, attributes := #[] }, { accessFlags := 18, nameIndex := 20, descriptorIndex := 21, attributes := #[] }, { accessFlags := 18, nameIndex := 28, descriptorIndex := 29, attributes := #[] }, { accessFlags := 18, nameIndex := 32, descriptorIndex := 21, attributes := #[] }, { accessFlags := 18, nameIndex := 35, descriptorIndex := 36, attributes := #[] }])
  fields := #[{ name := "LEAST_RECIPROCAL_CELLS", type := .long, accessFlags := 26, slot := 0, constantValue := 0 }, { name := "MOST_RECIPROCAL_CELLS", type := .long, accessFlags := 26, slot := 1, constantValue := 0 }, { name := "LOW_HALF", type := .long, accessFlags := 26, slot := 2, constantValue := 0 }, { name := "cellCount", type := .long, accessFlags := 18, slot := 0, constantValue := 0 }, { name := "dividesOutright", type := .boolean, accessFlags := 18, slot := 1, constantValue := 0 }, { name := "reciprocal", type := .long, accessFlags := 18, slot := 2, constantValue := 0 }, { name := "shift", type := .int, accessFlags := 18, slot := 3, constantValue := 0 }]
  methods := #[k3m0, k3m1, k3m2, k3m3, k3m4]
  instanceTypes := #[.long, .boolean, .long, .int]
  staticTypes := #[.long, .long, .long]
  resolved := Array.replicate 125 none
  statics := none }

def pool4 : Array CpInfo := pool [(1, .methodref 2 3), (0, .class_ 4), (0, .nameAndType 5 6), (0, u "java/lang/Object"), (0, u "<init>"), (0, u "()V"), (9, .string 17), (0, u "rule"), (0, .methodref 19 20), (0, .class_ 21), (0, .nameAndType 22 23), (0, u "java/util/Objects"), (0, u "requireNonNull"), (0, u "(Ljava/lang/Object;Ljava/lang/String;)Ljava/lang/Object;"), (0, .class_ 25), (0, u "com/example/occupancy/occupancy/hash/internal/CellRule"), (0, .fieldref 27 28), (0, .class_ 29), (0, .nameAndType 17 30), (0, u "com/example/occupancy/occupancy/hash/internal/CellBatch"), (0, u "Lcom/example/occupancy/occupancy/hash/internal/CellRule;"), (0, .methodref 24 32), (0, .nameAndType 33 34), (0, u "cellCount"), (0, u "()J"), (0, .fieldref 27 36), (0, .nameAndType 33 37), (0, u "J"), (0, .long 18446744073709551615), (1, .methodref 24 41), (0, .nameAndType 42 43), (0, u "cellOf"), (0, u "(J)J"), (0, .fieldref 27 45), (0, .nameAndType 46 37), (0, u "wrapLoss"), (0, .fieldref 27 48), (0, .nameAndType 49 50), (0, u "sums"), (0, u "[J"), (0, .fieldref 27 52), (0, .nameAndType 53 50), (0, u "steps"), (0, .fieldref 27 55), (0, .nameAndType 56 50), (0, u "cells"), (0, .fieldref 27 58), (0, .nameAndType 59 50), (0, u "plainSteps"), (0, .fieldref 27 61), (0, .nameAndType 62 50), (0, u "wrapFlips"), (8, u "(Lcom/example/occupancy/occupancy/hash/internal/CellRule;I)V"), (0, .fieldref 27 73), (0, .nameAndType 74 75), (0, u "size"), (0, u "I"), (10, u "add"), (0, u "(JJ)V"), (14, u "start"), (1, .class_ 106), (1, u "com/example/occupancy/occupancy/hash/internal/CellBatch$Taker"), (3, u "step"), (16, .methodref 24 128), (0, .nameAndType 129 130), (0, u "cellsOf"), (0, u "([J[JI)V"), (0, .methodref 27 132), (0, .nameAndType 133 134), (0, u "isFull"), (0, u "()Z"), (18, u "()[J")] 41

def k4c0 : Code := { maxStack := 5, maxLocals := 3, code := prog_29_method_1_code, exceptionTable := #[], attributes := #[] }
def k4m0 : Method := { name := "<init>", desc := "(Lcom/example/occupancy/occupancy/hash/internal/CellRule;I)V", sig := { parameters := [(.object "com/example/occupancy/occupancy/hash/internal/CellRule"), .int], returnType := none }, accessFlags := 1, code := some k4c0 }
def k4c1 : Code := { maxStack := 2, maxLocals := 1, code := prog_29_method_4_code, exceptionTable := #[], attributes := #[] }
def k4m1 : Method := { name := "isFull", desc := "()Z", sig := { parameters := [], returnType := some .boolean }, accessFlags := 1, code := some k4c1 }
def k4c2 : Code := { maxStack := 6, maxLocals := 15, code := prog_29_method_10_code, exceptionTable := #[], attributes := #[] }
def k4m2 : Method := { name := "start", desc := "()V", sig := { parameters := [], returnType := none }, accessFlags := 0, code := some k4c2 }
def k4c3 : Code := { maxStack := 1, maxLocals := 1, code := prog_29_method_11_code, exceptionTable := #[], attributes := #[] }
def k4m3 : Method := { name := "cells", desc := "()[J", sig := { parameters := [], returnType := some (.array .long) }, accessFlags := 0, code := some k4c3 }
def k4c4 : Code := { maxStack := 8, maxLocals := 20, code := prog_29_method_12_code, exceptionTable := #[], attributes := #[] }
def k4m4 : Method := { name := "step", desc := "()V", sig := { parameters := [], returnType := none }, accessFlags := 0, code := some k4c4 }
def k4c5 : Code := { maxStack := 4, maxLocals := 6, code := prog_29_method_14_code, exceptionTable := #[], attributes := #[] }
def k4m5 : Method := { name := "add", desc := "(JJ)V", sig := { parameters := [.long, .long], returnType := none }, accessFlags := 0, code := some k4c5 }
/-- com/example/occupancy/occupancy/hash/internal/CellBatch -/
def k4 : Class := { plain "com/example/occupancy/occupancy/hash/internal/CellBatch" (some 0) with
  accessFlags := 33
  interfaces := #[]
  cf := some (fileOf pool4 27 #[.nestMembers #[104]] #[{ accessFlags := 1, nameIndex := 5, descriptorIndex := 71, attributes := #[] }, { accessFlags := 1, nameIndex := 133, descriptorIndex := 134, attributes := #[] }, { accessFlags := 0, nameIndex := 102, descriptorIndex := 6, attributes := #[] }, { accessFlags := 0, nameIndex := 56, descriptorIndex := 153, attributes := #[] }, { accessFlags := 0, nameIndex := 110, descriptorIndex := 6, attributes := #[] }, { accessFlags := 0, nameIndex := 86, descriptorIndex := 87, attributes := #[] }] 33 2 #[] #[{ accessFlags := 18, nameIndex := 17, descriptorIndex := 30, attributes := #[] }, { accessFlags := 18, nameIndex := 33, descriptorIndex := 37, attributes := #[] }, { accessFlags := 18, nameIndex := 46, descriptorIndex := 37, attributes := #[] }, { accessFlags := 18, nameIndex := 49, descriptorIndex := 50, attributes := #[] }, { accessFlags := 18, nameIndex := 53, descriptorIndex := 50, attributes := #[] }, { accessFlags := 18, nameIndex := 56, descriptorIndex := 50, attributes := #[] }, { accessFlags := 18, nameIndex := 59, descriptorIndex := 50, attributes := #[] }, { accessFlags := 18, nameIndex := 62, descriptorIndex := 50, attributes := #[] }, { accessFlags := 2, nameIndex := 74, descriptorIndex := 75, attributes := #[] }])
  fields := #[{ name := "rule", type := (.object "com/example/occupancy/occupancy/hash/internal/CellRule"), accessFlags := 18, slot := 0, constantValue := 0 }, { name := "cellCount", type := .long, accessFlags := 18, slot := 1, constantValue := 0 }, { name := "wrapLoss", type := .long, accessFlags := 18, slot := 2, constantValue := 0 }, { name := "sums", type := (.array .long), accessFlags := 18, slot := 3, constantValue := 0 }, { name := "steps", type := (.array .long), accessFlags := 18, slot := 4, constantValue := 0 }, { name := "cells", type := (.array .long), accessFlags := 18, slot := 5, constantValue := 0 }, { name := "plainSteps", type := (.array .long), accessFlags := 18, slot := 6, constantValue := 0 }, { name := "wrapFlips", type := (.array .long), accessFlags := 18, slot := 7, constantValue := 0 }, { name := "size", type := .int, accessFlags := 2, slot := 8, constantValue := 0 }]
  methods := #[k4m0, k4m1, k4m2, k4m3, k4m4, k4m5]
  instanceTypes := #[(.object "com/example/occupancy/occupancy/hash/internal/CellRule"), .long, .long, (.array .long), (.array .long), (.array .long), (.array .long), (.array .long), .int]
  staticTypes := #[]
  resolved := Array.replicate 195 none
  statics := none }

def pool5 : Array CpInfo := pool [(1, .class_ 2), (0, u "java/io/Serializable"), (0, .class_ 4), (0, u "java/lang/Object")] 2

/-- java/io/Serializable -/
def k5 : Class := { plain "java/io/Serializable" (some 0) with
  accessFlags := 1537
  interfaces := #[]
  cf := some (fileOf pool5 1 #[] #[] 1537 3 #[] #[])
  fields := #[]
  methods := #[]
  instanceTypes := #[]
  staticTypes := #[]
  resolved := Array.replicate 7 none
  statics := none }

def pool6 : Array CpInfo := pool [(1, .class_ 2), (0, u "java/lang/Comparable"), (0, .class_ 4), (0, u "java/lang/Object")] 7

/-- java/lang/Comparable -/
def k6 : Class := { plain "java/lang/Comparable" (some 0) with
  accessFlags := 1537
  interfaces := #[]
  cf := some (fileOf pool6 1 #[] #[] 1537 3 #[] #[])
  fields := #[]
  methods := #[]
  instanceTypes := #[]
  staticTypes := #[]
  resolved := Array.replicate 12 none
  statics := none }

def pool7 : Array CpInfo := pool [(2, .class_ 4), (1, u "java/lang/CharSequence"), (42, .class_ 48), (0, u "java/lang/CharSequence$1CodePointIterator"), (10, .class_ 60), (0, u "java/lang/CharSequence$1CharIterator"), (5, .class_ 67), (0, u "java/lang/Object")] 63

/-- java/lang/CharSequence -/
def k7 : Class := { plain "java/lang/CharSequence" (some 0) with
  accessFlags := 1537
  interfaces := #[]
  cf := some (fileOf pool7 2 #[.nestMembers #[47, 59]] #[] 1537 66 #[] #[])
  fields := #[]
  methods := #[]
  instanceTypes := #[]
  staticTypes := #[]
  resolved := Array.replicate 131 none
  statics := none }

def pool8 : Array CpInfo := pool [(1, .class_ 2), (0, u "java/lang/constant/Constable"), (0, .class_ 4), (0, u "java/lang/Object")] 6

/-- java/lang/constant/Constable -/
def k8 : Class := { plain "java/lang/constant/Constable" (some 0) with
  accessFlags := 1537
  interfaces := #[]
  cf := some (fileOf pool8 1 #[] #[] 1537 3 #[] #[])
  fields := #[]
  methods := #[]
  instanceTypes := #[]
  staticTypes := #[]
  resolved := Array.replicate 11 none
  statics := none }

def pool9 : Array CpInfo := pool [(1, .class_ 2), (0, u "java/lang/constant/ConstantDesc"), (0, .class_ 4), (0, u "java/lang/Object")] 32

/-- java/lang/constant/ConstantDesc -/
def k9 : Class := { plain "java/lang/constant/ConstantDesc" (some 0) with
  accessFlags := 1537
  interfaces := #[]
  cf := some (fileOf pool9 1 #[] #[] 1537 3 #[] #[])
  fields := #[]
  methods := #[]
  instanceTypes := #[]
  staticTypes := #[]
  resolved := Array.replicate 37 none
  statics := none }

def pool10 : Array CpInfo := pool [(2, .class_ 4), (1, u "java/lang/Object"), (0, u "<init>"), (0, u "()V"), (3, .class_ 12), (1, u "java/lang/String"), (0, u "value"), (0, u "[B"), (2, u "coder"), (0, u "B"), (2, u "hash"), (0, u "I"), (2, u "hashIsZero"), (0, u "Z"), (13, u "COMPACT_STRINGS"), (534, .class_ 576), (0, u "java/lang/CharSequence"), (22, u "CASE_INSENSITIVE_ORDER"), (0, u "Ljava/util/Comparator;"), (500, u "serialPersistentFields"), (0, u "[Ljava/io/ObjectStreamField;"), (0, .class_ 1104), (0, u "java/lang/String$CaseInsensitiveComparator"), (1, .class_ 1107), (0, u "java/io/Serializable"), (0, .class_ 1109), (0, u "java/lang/Comparable"), (0, .class_ 1111), (0, u "java/lang/constant/Constable"), (0, .class_ 1113), (0, u "java/lang/constant/ConstantDesc"), (2, u "serialVersionUID"), (0, u "J"), (3, u "REPL"), (0, u "C"), (2, u "LATIN1"), (1, u "UTF16")] 323

def k10m0 : Method := { name := "<init>", desc := "()V", sig := { parameters := [], returnType := none }, accessFlags := 1, code := none }
/-- java/lang/String -/
def k10 : Class := { plain "java/lang/String" (some 0) with
  accessFlags := 49
  interfaces := #[5, 6, 7, 8, 9]
  cf := some (fileOf pool10 10 #[.nestMembers #[1103]] #[{ accessFlags := 1, nameIndex := 5, descriptorIndex := 6, attributes := #[] }] 49 2 #[1106, 1108, 575, 1110, 1112] #[{ accessFlags := 18, nameIndex := 13, descriptorIndex := 14, attributes := #[] }, { accessFlags := 18, nameIndex := 17, descriptorIndex := 18, attributes := #[] }, { accessFlags := 2, nameIndex := 21, descriptorIndex := 22, attributes := #[] }, { accessFlags := 2, nameIndex := 25, descriptorIndex := 26, attributes := #[] }, { accessFlags := 26, nameIndex := 1116, descriptorIndex := 1117, attributes := #[] }, { accessFlags := 24, nameIndex := 40, descriptorIndex := 26, attributes := #[] }, { accessFlags := 26, nameIndex := 1101, descriptorIndex := 1102, attributes := #[] }, { accessFlags := 26, nameIndex := 1121, descriptorIndex := 1122, attributes := #[] }, { accessFlags := 25, nameIndex := 599, descriptorIndex := 600, attributes := #[] }, { accessFlags := 24, nameIndex := 1125, descriptorIndex := 18, attributes := #[] }, { accessFlags := 24, nameIndex := 1127, descriptorIndex := 18, attributes := #[] }])
  fields := #[{ name := "value", type := (.array .byte), accessFlags := 18, slot := 0, constantValue := 0 }, { name := "coder", type := .byte, accessFlags := 18, slot := 1, constantValue := 0 }, { name := "hash", type := .int, accessFlags := 2, slot := 2, constantValue := 0 }, { name := "hashIsZero", type := .boolean, accessFlags := 2, slot := 3, constantValue := 0 }, { name := "serialVersionUID", type := .long, accessFlags := 26, slot := 0, constantValue := 0 }, { name := "COMPACT_STRINGS", type := .boolean, accessFlags := 24, slot := 1, constantValue := 0 }, { name := "serialPersistentFields", type := (.array (.object "java/io/ObjectStreamField")), accessFlags := 26, slot := 2, constantValue := 0 }, { name := "REPL", type := .char, accessFlags := 26, slot := 3, constantValue := 0 }, { name := "CASE_INSENSITIVE_ORDER", type := (.object "java/util/Comparator"), accessFlags := 25, slot := 4, constantValue := 0 }, { name := "LATIN1", type := .byte, accessFlags := 24, slot := 5, constantValue := 0 }, { name := "UTF16", type := .byte, accessFlags := 24, slot := 6, constantValue := 0 }]
  methods := #[k10m0]
  instanceTypes := #[(.array .byte), .byte, .int, .boolean]
  staticTypes := #[.long, .boolean, (.array (.object "java/io/ObjectStreamField")), .char, (.object "java/util/Comparator"), .byte, .byte]
  resolved := Array.replicate 1451 none
  statics := none }

def pool11 : Array CpInfo := pool [(2, .class_ 4), (1, u "java/lang/Object"), (0, u "<init>"), (0, u "()V"), (35, .class_ 44), (1, u "java/util/Objects"), (0, u "requireNonNull"), (48, u "(Ljava/lang/Object;Ljava/lang/String;)Ljava/lang/Object;")] 89

def k11m0 : Method := { name := "<init>", desc := "()V", sig := { parameters := [], returnType := none }, accessFlags := 2, code := none }
def k11c1 : Code := { maxStack := 3, maxLocals := 2, code := jdk_31_method_11_code, exceptionTable := #[], attributes := #[] }
def k11m1 : Method := { name := "requireNonNull", desc := "(Ljava/lang/Object;Ljava/lang/String;)Ljava/lang/Object;", sig := { parameters := [(.object "java/lang/Object"), (.object "java/lang/String")], returnType := some (.object "java/lang/Object") }, accessFlags := 9, code := some k11c1 }
/-- java/util/Objects -/
def k11 : Class := { plain "java/util/Objects" (some 0) with
  accessFlags := 49
  interfaces := #[]
  cf := some (fileOf pool11 42 #[] #[{ accessFlags := 2, nameIndex := 5, descriptorIndex := 6, attributes := #[] }, { accessFlags := 9, nameIndex := 45, descriptorIndex := 94, attributes := #[] }] 49 2 #[] #[])
  fields := #[]
  methods := #[k11m0, k11m1]
  instanceTypes := #[]
  staticTypes := #[]
  resolved := Array.replicate 184 none
  statics := none }

def pool12 : Array CpInfo := pool [(2, .class_ 4), (1, u "java/lang/Object"), (0, u "<init>"), (0, u "()V"), (1, .class_ 10), (1, u "java/lang/Number"), (2, .class_ 14), (0, u "java/io/Serializable"), (0, u "serialVersionUID"), (0, u "J")] 20

def k12m0 : Method := { name := "<init>", desc := "()V", sig := { parameters := [], returnType := none }, accessFlags := 1, code := none }
/-- java/lang/Number -/
def k12 : Class := { plain "java/lang/Number" (some 0) with
  accessFlags := 1057
  interfaces := #[5]
  cf := some (fileOf pool12 8 #[] #[{ accessFlags := 1, nameIndex := 5, descriptorIndex := 6, attributes := #[] }] 1057 2 #[13] #[{ accessFlags := 26, nameIndex := 15, descriptorIndex := 16, attributes := #[] }])
  fields := #[{ name := "serialVersionUID", type := .long, accessFlags := 26, slot := 0, constantValue := 0 }]
  methods := #[k12m0]
  instanceTypes := #[]
  staticTypes := #[.long]
  resolved := Array.replicate 37 none
  statics := none }

def pool13 : Array CpInfo := pool [(1, .class_ 2), (0, u "java/lang/Long"), (15, .class_ 20), (1, u "java/lang/Integer"), (79, u "numberOfLeadingZeros"), (0, u "(J)I"), (133, .class_ 237), (1, u "java/lang/Long$LongCache"), (33, .class_ 272), (0, u "java/lang/Number"), (2, u "value"), (0, u "J"), (29, .long 18446744073709551615), (1, .methodref 18 309), (0, .nameAndType 100 310), (0, u "(I)I"), (22, u "(JJ)J"), (27, u "TYPE"), (0, u "Ljava/lang/Class;"), (0, .class_ 364), (0, u "java/lang/Comparable"), (0, .class_ 366), (0, u "java/lang/constant/Constable"), (0, .class_ 368), (0, u "java/lang/constant/ConstantDesc"), (0, u "MIN_VALUE"), (1, u "MAX_VALUE"), (4, u "SIZE"), (0, u "I"), (1, u "BYTES"), (1, u "serialVersionUID"), (88, u "divideUnsigned"), (2, u "remainderUnsigned")] 50

def k13c0 : Code := { maxStack := 8, maxLocals := 8, code := jdk_35_method_44_code, exceptionTable := #[], attributes := #[] }
def k13m0 : Method := { name := "divideUnsigned", desc := "(JJ)J", sig := { parameters := [.long, .long], returnType := some .long }, accessFlags := 9, code := some k13c0 }
def k13c1 : Code := { maxStack := 8, maxLocals := 8, code := jdk_35_method_45_code, exceptionTable := #[], attributes := #[] }
def k13m1 : Method := { name := "remainderUnsigned", desc := "(JJ)J", sig := { parameters := [.long, .long], returnType := some .long }, accessFlags := 9, code := some k13c1 }
def k13c2 : Code := { maxStack := 3, maxLocals := 3, code := jdk_35_method_48_code, exceptionTable := #[], attributes := #[] }
def k13m2 : Method := { name := "numberOfLeadingZeros", desc := "(J)I", sig := { parameters := [.long], returnType := some .int }, accessFlags := 9, code := some k13c2 }
/-- java/lang/Long -/
def k13 : Class := { plain "java/lang/Long" (some 12) with
  accessFlags := 49
  interfaces := #[6, 8, 9]
  cf := some (fileOf pool13 1 #[.nestMembers #[235]] #[{ accessFlags := 9, nameIndex := 470, descriptorIndex := 333, attributes := #[] }, { accessFlags := 9, nameIndex := 473, descriptorIndex := 333, attributes := #[] }, { accessFlags := 9, nameIndex := 100, descriptorIndex := 101, attributes := #[] }] 49 271 #[363, 365, 367] #[{ accessFlags := 25, nameIndex := 369, descriptorIndex := 276, attributes := #[] }, { accessFlags := 25, nameIndex := 371, descriptorIndex := 276, attributes := #[] }, { accessFlags := 25, nameIndex := 361, descriptorIndex := 362, attributes := #[] }, { accessFlags := 18, nameIndex := 275, descriptorIndex := 276, attributes := #[] }, { accessFlags := 25, nameIndex := 376, descriptorIndex := 377, attributes := #[] }, { accessFlags := 25, nameIndex := 379, descriptorIndex := 377, attributes := #[] }, { accessFlags := 26, nameIndex := 381, descriptorIndex := 276, attributes := #[] }])
  fields := #[{ name := "MIN_VALUE", type := .long, accessFlags := 25, slot := 0, constantValue := 0 }, { name := "MAX_VALUE", type := .long, accessFlags := 25, slot := 1, constantValue := 0 }, { name := "TYPE", type := (.object "java/lang/Class"), accessFlags := 25, slot := 2, constantValue := 0 }, { name := "value", type := .long, accessFlags := 18, slot := 0, constantValue := 0 }, { name := "SIZE", type := .int, accessFlags := 25, slot := 3, constantValue := 0 }, { name := "BYTES", type := .int, accessFlags := 25, slot := 4, constantValue := 0 }, { name := "serialVersionUID", type := .long, accessFlags := 26, slot := 5, constantValue := 0 }]
  methods := #[k13m0, k13m1, k13m2]
  instanceTypes := #[.long]
  staticTypes := #[.long, .long, (.object "java/lang/Class"), .int, .int, .long]
  resolved := Array.replicate 524 none
  statics := none }

def pool14 : Array CpInfo := pool [(1, .class_ 2), (0, u "java/lang/Integer"), (16, u "digits"), (0, u "[C"), (32, u "numberOfLeadingZeros"), (0, u "(I)I"), (30, u "DigitOnes"), (0, u "[B"), (2, u "DigitTens"), (99, .class_ 190), (0, u "java/lang/Integer$IntegerCache"), (3, u "I"), (8, .class_ 204), (0, u "java/lang/Number"), (2, u "value"), (56, .integer 65536), (37, u "TYPE"), (0, u "Ljava/lang/Class;"), (0, .class_ 305), (0, u "java/lang/Comparable"), (0, .class_ 307), (0, u "java/lang/constant/Constable"), (0, .class_ 309), (0, u "java/lang/constant/ConstantDesc"), (0, u "MIN_VALUE"), (1, u "MAX_VALUE"), (3, u "SIZE"), (1, u "BYTES"), (1, u "serialVersionUID"), (0, u "J")] 131

def k14c0 : Code := { maxStack := 3, maxLocals := 2, code := jdk_33_method_47_code, exceptionTable := #[], attributes := #[] }
def k14m0 : Method := { name := "numberOfLeadingZeros", desc := "(I)I", sig := { parameters := [.int], returnType := some .int }, accessFlags := 9, code := some k14c0 }
/-- java/lang/Integer -/
def k14 : Class := { plain "java/lang/Integer" (some 12) with
  accessFlags := 49
  interfaces := #[6, 8, 9]
  cf := some (fileOf pool14 1 #[.nestMembers #[189]] #[{ accessFlags := 9, nameIndex := 53, descriptorIndex := 54, attributes := #[] }] 49 203 #[304, 306, 308] #[{ accessFlags := 25, nameIndex := 310, descriptorIndex := 194, attributes := #[] }, { accessFlags := 25, nameIndex := 312, descriptorIndex := 194, attributes := #[] }, { accessFlags := 25, nameIndex := 302, descriptorIndex := 303, attributes := #[] }, { accessFlags := 24, nameIndex := 19, descriptorIndex := 20, attributes := #[] }, { accessFlags := 24, nameIndex := 89, descriptorIndex := 86, attributes := #[] }, { accessFlags := 24, nameIndex := 85, descriptorIndex := 86, attributes := #[] }, { accessFlags := 18, nameIndex := 207, descriptorIndex := 194, attributes := #[] }, { accessFlags := 25, nameIndex := 316, descriptorIndex := 194, attributes := #[] }, { accessFlags := 25, nameIndex := 318, descriptorIndex := 194, attributes := #[] }, { accessFlags := 26, nameIndex := 320, descriptorIndex := 321, attributes := #[] }])
  fields := #[{ name := "MIN_VALUE", type := .int, accessFlags := 25, slot := 0, constantValue := 0 }, { name := "MAX_VALUE", type := .int, accessFlags := 25, slot := 1, constantValue := 0 }, { name := "TYPE", type := (.object "java/lang/Class"), accessFlags := 25, slot := 2, constantValue := 0 }, { name := "digits", type := (.array .char), accessFlags := 24, slot := 3, constantValue := 0 }, { name := "DigitTens", type := (.array .byte), accessFlags := 24, slot := 4, constantValue := 0 }, { name := "DigitOnes", type := (.array .byte), accessFlags := 24, slot := 5, constantValue := 0 }, { name := "value", type := .int, accessFlags := 18, slot := 0, constantValue := 0 }, { name := "SIZE", type := .int, accessFlags := 25, slot := 6, constantValue := 0 }, { name := "BYTES", type := .int, accessFlags := 25, slot := 7, constantValue := 0 }, { name := "serialVersionUID", type := .long, accessFlags := 26, slot := 8, constantValue := 0 }]
  methods := #[k14m0]
  instanceTypes := #[.int]
  staticTypes := #[.int, .int, (.object "java/lang/Class"), (.array .char), (.array .byte), (.array .byte), .int, .int, .long]
  resolved := Array.replicate 453 none
  statics := none }

def pool15 : Array CpInfo := pool [(1, u "java/lang/Cloneable"), (0, .class_ 1), (0, u "java/lang/Object"), (0, .class_ 3)] 3

/-- java/lang/Cloneable -/
def k15 : Class := { plain "java/lang/Cloneable" (some 0) with
  accessFlags := 1537
  interfaces := #[]
  cf := some (fileOf pool15 2 #[] #[] 1537 4 #[] #[])
  fields := #[]
  methods := #[]
  instanceTypes := #[]
  staticTypes := #[]
  resolved := Array.replicate 8 none
  statics := none }

/-- the primitive byte -/
def k16 : Class := { plain "byte" none with kind := .primitive 'B', accessFlags := 0x411 }
/-- [B -/
def k17 : Class := { plain "[B" (some 0) with kind := .array 16 .byte, interfaces := #[15, 5], accessFlags := 1041 }

/-- the primitive int -/
def k18 : Class := { plain "int" none with kind := .primitive 'I', accessFlags := 0x411 }
/-- [I -/
def k19 : Class := { plain "[I" (some 0) with kind := .array 18 .int, interfaces := #[15, 5], accessFlags := 1041 }

/-- the primitive long -/
def k20 : Class := { plain "long" none with kind := .primitive 'J', accessFlags := 0x411 }
/-- [J -/
def k21 : Class := { plain "[J" (some 0) with kind := .array 20 .long, interfaces := #[15, 5], accessFlags := 1041 }

def heap : Heap := #[]
def classes : Array Class := #[k0, k1, k2, k3, k4, k5, k6, k7, k8, k9, k10, k11, k12, k13, k14, k15, k16, k17, k18, k19, k20, k21]
def interned : List (Array UInt16 × Addr) := []
def slotsUsed : Nat := 0
def theMethod : MethodId := ⟨1, 1⟩
def args0 : Array Value := #[.long 5, .long 7, .long 3, .long 4, .long 6]
def aboutOver (below : List Frame) : State where
  vm := { classes := classes, interned := interned.toArray }
  heap := heap
  slotsUsed := slotsUsed
  threads := #[{ frames := .invoking theMethod args0 :: below }]
def below0 : List Frame := [.native { method := ⟨0, 0⟩, args := #[] }]
def about1 : State := aboutOver below0
def p0 : Program := .bare "" "" ""
def e0 : Env := launch0.env 0 0 0
theorem w_frames : about1.frames = Frame.invoking theMethod args0 :: below0 := rfl
set_option maxRecDepth 65536 in
theorem w_args : argsFit about1.vm theMethod args0 = true := by decide +kernel
set_option maxRecDepth 65536 in
theorem w_heap : heapFits about1 = true := by decide +kernel
set_option maxRecDepth 65536 in
theorem w_runnable : about1.curStatus? = some .runnable := by decide +kernel
set_option maxRecDepth 65536 in
theorem w_alone : about1.alone = true := by decide +kernel
set_option maxRecDepth 65536 in
theorem w_named : about1.methodNamed? x = some theMethod := by decide +kernel
set_option maxRecDepth 65536 in
theorem w_hears : about1.hears theMethod below0 = true := by decide +kernel
set_option maxRecDepth 65536 in
theorem w_ripe : about1.ripe theMethod args0 below0 = true := by decide +kernel
theorem w_running : about1.status = .running := rfl
set_option maxRecDepth 65536 in
theorem w_room : about1.hasRoom e0.platform room_1 = true :=
  launch0.hasRoom_least _ room_1 (by decide +kernel) (by decide +kernel) (by decide +kernel) (by decide +kernel) (by decide +kernel) (by decide +kernel)
theorem allAtoms_all (ts : List Jvm.Cond) (a : Array Jvm.Value) (st : Jvm.State) : (allAtoms ts).before a st = ts.all (fun c => c.before a st) := by
  induction ts with
  | nil => rfl
  | cons c t ih =>
    show (Jvm.Cond.and c (allAtoms t)).before a st = _
    rw [Jvm.Cond.before_and, ih, List.all_cons]
def words1 : List Jvm.Cond := Jvm.Cond.code x code maxLocals ret :: tables_1
/-- a 'code' word, met by the world's own term for the bytes: nothing is compared byte by byte -/
theorem code_word {y : MethodName} {bytes : ByteArray} {mx : Nat} {rt : Option FieldType} {a : Array Value} {s : State} {m : MethodId} {meth : Method} {c : Code} (h1 : s.methodNamed? y = some m) (h2 : s.vm.method? m = some meth) (h3 : meth.code = some c) (h4 : c.code = bytes)
    (h5 : (c.maxLocals == mx && c.exceptionTable.isEmpty && decide (c.maxStack ≤ mostOperands) && decide (meth.sig.returnType = rt) && !meth.locks && decide (parseMethodDescriptor y.desc = some meth.sig)) = true) : (Jvm.Cond.code y bytes mx rt).before a s = true := by
  simp only [Bool.and_eq_true, beq_iff_eq, Bool.not_eq_true', decide_eq_true_eq] at h5
  obtain ⟨⟨⟨⟨⟨g1, g2⟩, g3⟩, g4⟩, g5⟩, g6⟩ := h5
  simp [Cond.before, Cond.holds, Cond.value, h1, h2, h3, h4, g1, g2, g3, g4, g5, g6]
def isCode : Jvm.Cond → Bool
  | .code _ _ _ _ => true
  | _ => false
theorem all_split {L : List Jvm.Cond} {P : Jvm.Cond → Bool} (h1 : L.all (fun c => isCode c || P c) = true) (h2 : ∀ c ∈ L.filter isCode, P c = true) : L.all P = true := by
  refine List.all_eq_true.mpr fun c hc => ?_
  have h := List.all_eq_true.mp h1 c hc
  rcases Bool.eq_false_or_eq_true (isCode c) with hi | hi
  · exact h2 c (List.mem_filter.mpr ⟨hc, hi⟩)
  · simpa [hi] using h
set_option maxRecDepth 65536 in
theorem w_c0 : (Jvm.Cond.code x code maxLocals ret).before args0 about1 = true := code_word (m := ⟨1, 1⟩) (meth := k1m1) (c := k1c1) (by decide +kernel) rfl rfl rfl (by decide +kernel)
set_option maxRecDepth 65536 in
theorem w_c1 : (Jvm.Cond.code ({ cls := "java/lang/Math", name := "max", desc := "(JJ)J" } : Jvm.MethodName) jdk_29_method_66_code (4 : Nat) (Option.some Jvm.ClassFile.FieldType.long)).before args0 about1 = true := code_word (m := ⟨2, 2⟩) (meth := k2m2) (c := k2c2) (by decide +kernel) rfl rfl rfl (by decide +kernel)
set_option maxRecDepth 65536 in
theorem w_c2 : (Jvm.Cond.code ({ cls := "com/example/occupancy/occupancy/hash/internal/CellRule", name := "<init>", desc := "(J)V" } : Jvm.MethodName) prog_32_method_1_code (4 : Nat) (Option.none : Option Jvm.ClassFile.FieldType)).before args0 about1 = true := code_word (m := ⟨3, 0⟩) (meth := k3m0) (c := k3c0) (by decide +kernel) rfl rfl rfl (by decide +kernel)
set_option maxRecDepth 65536 in
theorem w_c3 : (Jvm.Cond.code ({ cls := "java/lang/Object", name := "<init>", desc := "()V" } : Jvm.MethodName) object_method_1_code (1 : Nat) (Option.none : Option Jvm.ClassFile.FieldType)).before args0 about1 = true := code_word (m := ⟨0, 0⟩) (meth := k0m0) (c := k0c0) (by decide +kernel) rfl rfl rfl (by decide +kernel)
set_option maxRecDepth 65536 in
theorem w_c4 : (Jvm.Cond.code ({ cls := "com/example/occupancy/occupancy/hash/internal/CellBatch", name := "<init>", desc := "(Lcom/example/occupancy/occupancy/hash/internal/CellRule;I)V" } : Jvm.MethodName) prog_29_method_1_code (3 : Nat) (Option.none : Option Jvm.ClassFile.FieldType)).before args0 about1 = true := code_word (m := ⟨4, 0⟩) (meth := k4m0) (c := k4c0) (by decide +kernel) rfl rfl rfl (by decide +kernel)
set_option maxRecDepth 65536 in
theorem w_c5 : (Jvm.Cond.code ({ cls := "java/util/Objects", name := "requireNonNull", desc := "(Ljava/lang/Object;Ljava/lang/String;)Ljava/lang/Object;" } : Jvm.MethodName) jdk_31_method_11_code (2 : Nat) (Option.some (Jvm.ClassFile.FieldType.object "java/lang/Object"))).before args0 about1 = true := code_word (m := ⟨11, 1⟩) (meth := k11m1) (c := k11c1) (by decide +kernel) rfl rfl rfl (by decide +kernel)
set_option maxRecDepth 65536 in
theorem w_c6 : (Jvm.Cond.code ({ cls := "com/example/occupancy/occupancy/hash/internal/CellRule", name := "cellCount", desc := "()J" } : Jvm.MethodName) prog_32_method_2_code (1 : Nat) (Option.some Jvm.ClassFile.FieldType.long)).before args0 about1 = true := code_word (m := ⟨3, 1⟩) (meth := k3m1) (c := k3c1) (by decide +kernel) rfl rfl rfl (by decide +kernel)
set_option maxRecDepth 65536 in
theorem w_c7 : (Jvm.Cond.code ({ cls := "com/example/occupancy/occupancy/hash/internal/CellRule", name := "cellOf", desc := "(J)J" } : Jvm.MethodName) prog_32_method_7_code (9 : Nat) (Option.some Jvm.ClassFile.FieldType.long)).before args0 about1 = true := code_word (m := ⟨3, 2⟩) (meth := k3m2) (c := k3c2) (by decide +kernel) rfl rfl rfl (by decide +kernel)
set_option maxRecDepth 65536 in
theorem w_c8 : (Jvm.Cond.code ({ cls := "java/lang/Long", name := "remainderUnsigned", desc := "(JJ)J" } : Jvm.MethodName) jdk_35_method_45_code (8 : Nat) (Option.some Jvm.ClassFile.FieldType.long)).before args0 about1 = true := code_word (m := ⟨13, 1⟩) (meth := k13m1) (c := k13c1) (by decide +kernel) rfl rfl rfl (by decide +kernel)
set_option maxRecDepth 65536 in
theorem w_c9 : (Jvm.Cond.code ({ cls := "com/example/occupancy/occupancy/hash/internal/CellBatch", name := "add", desc := "(JJ)V" } : Jvm.MethodName) prog_29_method_14_code (6 : Nat) (Option.none : Option Jvm.ClassFile.FieldType)).before args0 about1 = true := code_word (m := ⟨4, 5⟩) (meth := k4m5) (c := k4c5) (by decide +kernel) rfl rfl rfl (by decide +kernel)
set_option maxRecDepth 65536 in
theorem w_c10 : (Jvm.Cond.code ({ cls := "com/example/occupancy/occupancy/hash/internal/CellBatch", name := "isFull", desc := "()Z" } : Jvm.MethodName) prog_29_method_4_code (1 : Nat) (Option.some Jvm.ClassFile.FieldType.boolean)).before args0 about1 = true := code_word (m := ⟨4, 1⟩) (meth := k4m1) (c := k4c1) (by decide +kernel) rfl rfl rfl (by decide +kernel)
set_option maxRecDepth 65536 in
theorem w_c11 : (Jvm.Cond.code ({ cls := "com/example/occupancy/occupancy/hash/internal/CellBatch", name := "start", desc := "()V" } : Jvm.MethodName) prog_29_method_10_code (15 : Nat) (Option.none : Option Jvm.ClassFile.FieldType)).before args0 about1 = true := code_word (m := ⟨4, 2⟩) (meth := k4m2) (c := k4c2) (by decide +kernel) rfl rfl rfl (by decide +kernel)
set_option maxRecDepth 65536 in
theorem w_c12 : (Jvm.Cond.code ({ cls := "com/example/occupancy/occupancy/hash/internal/CellRule", name := "cellsOf", desc := "([J[JI)V" } : Jvm.MethodName) prog_32_method_8_code (20 : Nat) (Option.none : Option Jvm.ClassFile.FieldType)).before args0 about1 = true := code_word (m := ⟨3, 3⟩) (meth := k3m3) (c := k3c3) (by decide +kernel) rfl rfl rfl (by decide +kernel)
set_option maxRecDepth 65536 in
theorem w_c13 : (Jvm.Cond.code ({ cls := "com/example/occupancy/occupancy/hash/internal/CellBatch", name := "cells", desc := "()[J" } : Jvm.MethodName) prog_29_method_11_code (1 : Nat) (Option.some (Jvm.ClassFile.FieldType.array Jvm.ClassFile.FieldType.long))).before args0 about1 = true := code_word (m := ⟨4, 3⟩) (meth := k4m3) (c := k4c3) (by decide +kernel) rfl rfl rfl (by decide +kernel)
set_option maxRecDepth 65536 in
theorem w_c14 : (Jvm.Cond.code ({ cls := "com/example/occupancy/occupancy/hash/internal/CellBatch", name := "step", desc := "()V" } : Jvm.MethodName) prog_29_method_12_code (20 : Nat) (Option.none : Option Jvm.ClassFile.FieldType)).before args0 about1 = true := code_word (m := ⟨4, 4⟩) (meth := k4m4) (c := k4c4) (by decide +kernel) rfl rfl rfl (by decide +kernel)
set_option maxRecDepth 65536 in
theorem w_c15 : (Jvm.Cond.code ({ cls := "java/lang/Long", name := "numberOfLeadingZeros", desc := "(J)I" } : Jvm.MethodName) jdk_35_method_48_code (3 : Nat) (Option.some Jvm.ClassFile.FieldType.int)).before args0 about1 = true := code_word (m := ⟨13, 2⟩) (meth := k13m2) (c := k13c2) (by decide +kernel) rfl rfl rfl (by decide +kernel)
set_option maxRecDepth 65536 in
theorem w_c16 : (Jvm.Cond.code ({ cls := "java/lang/Integer", name := "numberOfLeadingZeros", desc := "(I)I" } : Jvm.MethodName) jdk_33_method_47_code (2 : Nat) (Option.some Jvm.ClassFile.FieldType.int)).before args0 about1 = true := code_word (m := ⟨14, 0⟩) (meth := k14m0) (c := k14c0) (by decide +kernel) rfl rfl rfl (by decide +kernel)
set_option maxRecDepth 65536 in
theorem w_c17 : (Jvm.Cond.code ({ cls := "com/example/occupancy/occupancy/hash/internal/CellRule", name := "onesOver", desc := "(IJ)J" } : Jvm.MethodName) prog_32_method_9_code (8 : Nat) (Option.some Jvm.ClassFile.FieldType.long)).before args0 about1 = true := code_word (m := ⟨3, 4⟩) (meth := k3m4) (c := k3c4) (by decide +kernel) rfl rfl rfl (by decide +kernel)
set_option maxRecDepth 65536 in
theorem w_c18 : (Jvm.Cond.code ({ cls := "java/lang/Long", name := "divideUnsigned", desc := "(JJ)J" } : Jvm.MethodName) jdk_35_method_44_code (8 : Nat) (Option.some Jvm.ClassFile.FieldType.long)).before args0 about1 = true := code_word (m := ⟨13, 0⟩) (meth := k13m0) (c := k13c0) (by decide +kernel) rfl rfl rfl (by decide +kernel)
set_option maxRecDepth 65536 in
theorem w_c19 : (Jvm.Cond.code ({ cls := "java/lang/Math", name := "multiplyHigh", desc := "(JJ)J" } : Jvm.MethodName) jdk_29_method_45_code (20 : Nat) (Option.some Jvm.ClassFile.FieldType.long)).before args0 about1 = true := code_word (m := ⟨2, 1⟩) (meth := k2m1) (c := k2c1) (by decide +kernel) rfl rfl rfl (by decide +kernel)
def codes1 : List Jvm.Cond := [Jvm.Cond.code x code maxLocals ret, Jvm.Cond.code ({ cls := "java/lang/Math", name := "max", desc := "(JJ)J" } : Jvm.MethodName) jdk_29_method_66_code (4 : Nat) (Option.some Jvm.ClassFile.FieldType.long), Jvm.Cond.code ({ cls := "com/example/occupancy/occupancy/hash/internal/CellRule", name := "<init>", desc := "(J)V" } : Jvm.MethodName) prog_32_method_1_code (4 : Nat) (Option.none : Option Jvm.ClassFile.FieldType), Jvm.Cond.code ({ cls := "java/lang/Object", name := "<init>", desc := "()V" } : Jvm.MethodName) object_method_1_code (1 : Nat) (Option.none : Option Jvm.ClassFile.FieldType), Jvm.Cond.code ({ cls := "com/example/occupancy/occupancy/hash/internal/CellBatch", name := "<init>", desc := "(Lcom/example/occupancy/occupancy/hash/internal/CellRule;I)V" } : Jvm.MethodName) prog_29_method_1_code (3 : Nat) (Option.none : Option Jvm.ClassFile.FieldType), Jvm.Cond.code ({ cls := "java/util/Objects", name := "requireNonNull", desc := "(Ljava/lang/Object;Ljava/lang/String;)Ljava/lang/Object;" } : Jvm.MethodName) jdk_31_method_11_code (2 : Nat) (Option.some (Jvm.ClassFile.FieldType.object "java/lang/Object")), Jvm.Cond.code ({ cls := "com/example/occupancy/occupancy/hash/internal/CellRule", name := "cellCount", desc := "()J" } : Jvm.MethodName) prog_32_method_2_code (1 : Nat) (Option.some Jvm.ClassFile.FieldType.long), Jvm.Cond.code ({ cls := "com/example/occupancy/occupancy/hash/internal/CellRule", name := "cellOf", desc := "(J)J" } : Jvm.MethodName) prog_32_method_7_code (9 : Nat) (Option.some Jvm.ClassFile.FieldType.long), Jvm.Cond.code ({ cls := "java/lang/Long", name := "remainderUnsigned", desc := "(JJ)J" } : Jvm.MethodName) jdk_35_method_45_code (8 : Nat) (Option.some Jvm.ClassFile.FieldType.long), Jvm.Cond.code ({ cls := "com/example/occupancy/occupancy/hash/internal/CellBatch", name := "add", desc := "(JJ)V" } : Jvm.MethodName) prog_29_method_14_code (6 : Nat) (Option.none : Option Jvm.ClassFile.FieldType), Jvm.Cond.code ({ cls := "com/example/occupancy/occupancy/hash/internal/CellBatch", name := "isFull", desc := "()Z" } : Jvm.MethodName) prog_29_method_4_code (1 : Nat) (Option.some Jvm.ClassFile.FieldType.boolean), Jvm.Cond.code ({ cls := "com/example/occupancy/occupancy/hash/internal/CellBatch", name := "start", desc := "()V" } : Jvm.MethodName) prog_29_method_10_code (15 : Nat) (Option.none : Option Jvm.ClassFile.FieldType), Jvm.Cond.code ({ cls := "com/example/occupancy/occupancy/hash/internal/CellRule", name := "cellsOf", desc := "([J[JI)V" } : Jvm.MethodName) prog_32_method_8_code (20 : Nat) (Option.none : Option Jvm.ClassFile.FieldType), Jvm.Cond.code ({ cls := "com/example/occupancy/occupancy/hash/internal/CellBatch", name := "cells", desc := "()[J" } : Jvm.MethodName) prog_29_method_11_code (1 : Nat) (Option.some (Jvm.ClassFile.FieldType.array Jvm.ClassFile.FieldType.long)), Jvm.Cond.code ({ cls := "com/example/occupancy/occupancy/hash/internal/CellBatch", name := "step", desc := "()V" } : Jvm.MethodName) prog_29_method_12_code (20 : Nat) (Option.none : Option Jvm.ClassFile.FieldType), Jvm.Cond.code ({ cls := "java/lang/Long", name := "numberOfLeadingZeros", desc := "(J)I" } : Jvm.MethodName) jdk_35_method_48_code (3 : Nat) (Option.some Jvm.ClassFile.FieldType.int), Jvm.Cond.code ({ cls := "java/lang/Integer", name := "numberOfLeadingZeros", desc := "(I)I" } : Jvm.MethodName) jdk_33_method_47_code (2 : Nat) (Option.some Jvm.ClassFile.FieldType.int), Jvm.Cond.code ({ cls := "com/example/occupancy/occupancy/hash/internal/CellRule", name := "onesOver", desc := "(IJ)J" } : Jvm.MethodName) prog_32_method_9_code (8 : Nat) (Option.some Jvm.ClassFile.FieldType.long), Jvm.Cond.code ({ cls := "java/lang/Long", name := "divideUnsigned", desc := "(JJ)J" } : Jvm.MethodName) jdk_35_method_44_code (8 : Nat) (Option.some Jvm.ClassFile.FieldType.long), Jvm.Cond.code ({ cls := "java/lang/Math", name := "multiplyHigh", desc := "(JJ)J" } : Jvm.MethodName) jdk_29_method_45_code (20 : Nat) (Option.some Jvm.ClassFile.FieldType.long)]
set_option maxRecDepth 65536 in
theorem codes_eq : words1.filter isCode = codes1 := rfl
theorem w_codes : ∀ c ∈ words1.filter isCode, c.before args0 about1 = true := by
  rw [codes_eq]
  intro c hc
  simp only [codes1, List.mem_cons, List.not_mem_nil, or_false] at hc
  rcases hc with rfl | rfl | rfl | rfl | rfl | rfl | rfl | rfl | rfl | rfl | rfl | rfl | rfl | rfl | rfl | rfl | rfl | rfl | rfl | rfl
  · exact w_c0
  · exact w_c1
  · exact w_c2
  · exact w_c3
  · exact w_c4
  · exact w_c5
  · exact w_c6
  · exact w_c7
  · exact w_c8
  · exact w_c9
  · exact w_c10
  · exact w_c11
  · exact w_c12
  · exact w_c13
  · exact w_c14
  · exact w_c15
  · exact w_c16
  · exact w_c17
  · exact w_c18
  · exact w_c19
set_option maxRecDepth 65536 in
theorem w_t1 : (words1.take 24).all (fun c => isCode c || c.before args0 about1) = true := by decide +kernel
set_option maxRecDepth 65536 in
theorem w_t2 : ((words1.drop 24).take 24).all (fun c => isCode c || c.before args0 about1) = true := by decide +kernel
set_option maxRecDepth 65536 in
theorem w_t3 : (((words1.drop 24).drop 24).take 24).all (fun c => isCode c || c.before args0 about1) = true := by decide +kernel
set_option maxRecDepth 65536 in
theorem w_t4 : ((((words1.drop 24).drop 24).drop 24).take 24).all (fun c => isCode c || c.before args0 about1) = true := by decide +kernel
set_option maxRecDepth 65536 in
theorem w_t5 : (((((words1.drop 24).drop 24).drop 24).drop 24).take 24).all (fun c => isCode c || c.before args0 about1) = true := by decide +kernel
set_option maxRecDepth 65536 in
theorem w_t6 : (((((words1.drop 24).drop 24).drop 24).drop 24).drop 24).all (fun c => isCode c || c.before args0 about1) = true := by decide +kernel
theorem w_tables : (allAtoms (Jvm.Cond.code x code maxLocals ret :: tables_1)).before args0 about1 = true := by
  rw [allAtoms_all]
  show words1.all (fun c => c.before args0 about1) = true
  refine all_split ?_ w_codes
  rw [← List.take_append_drop 24 words1, List.all_append, w_t1, ← List.take_append_drop 24 (words1.drop 24), List.all_append, w_t2, ← List.take_append_drop 24 ((words1.drop 24).drop 24), List.all_append, w_t3, ← List.take_append_drop 24 (((words1.drop 24).drop 24).drop 24), List.all_append, w_t4, ← List.take_append_drop 24 ((((words1.drop 24).drop 24).drop 24).drop 24), List.all_append, w_t5, w_t6]
  rfl
set_option maxRecDepth 65536 in
theorem w_case : (Jvm.Cond.and given_1 narrow_1).before args0 about1 = true := by decide +kernel
theorem w_applies : (headSpec (Jvm.Cond.code x code maxLocals ret :: tables_1) room_1).applies x e0.platform about1 = true :=
  (Spec.applies_iff w_frames).mpr ⟨w_running, w_runnable, w_alone, w_named, w_hears, w_ripe, w_room, w_tables⟩
theorem atStart : AtStart classFile x code maxLocals ret World_1 tables_1 room_1 Calls_1 rest_1 Pre_1 launch0 p0 e0 about1 theMethod args0 below0 :=
  ⟨lists_1, trivial, launch0.admits_env _ _ _, launch0.least_env, fairChoices_fair.cas, fairChoices_fair.clock, w_frames, w_args, w_heap, w_applies, trivial, trivial, w_case⟩
end start1
theorem witness_1 : WitnessClaimed_1 := ⟨start1.p0, start1.e0, start1.about1, start1.theMethod, start1.args0, start1.below0, start1.atStart⟩
end Jvm.Pilot.@@N@@
