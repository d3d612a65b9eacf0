import JvmDerived
import JvmDerived.Pilot.@@N@@Statement
import JvmDerived.Pilot.@@N@@Code
set_option linter.unusedVariables false
set_option linter.unusedSimpArgs false
namespace Jvm.Own
open Sem ClassFile Op Lib Jvm.Stand Jvm.Free Jvm.LawKit Jvm.RoadKit
/-! ### what is left to walk, and one law a step -/
def Go (p : Program) (e : Env) (below : List Frame) (P : Outcome → State → Prop) (S : State) : Prop :=
  ∃ s₂ o, Steps p.tables e below S s₂ ∧ s₂.status = .running ∧ Ended s₂ below o ∧ P o s₂
def Fini (s : State) (Q : Option Value → Heap → List Loc → Prop) (k n : Nat) (o : Outcome) (U : State) : Prop :=
  ∃ v L, o = .returned v ∧ Q v U.heap L ∧ FrameEnd s o U L k n
def Ct (l : Launch) (y : MethodName) (bytes : ByteArray) (maxL : Nat) (ret : Option FieldType) (ws : List Jvm.Cond) (rm : Room) (Z : State) (as : Array Value) (h : Heap) (Q : Option Value → Heap → List Loc → Prop) : Prop :=
  MetFree l y (head1 (Jvm.Cond.code y bytes maxL ret :: ws) rm) (fun a U => a = as ∧ Z.Warmed39 U.vm ∧ U.heap = h) (fun _ _ _ _ _ => True) (fun _ U o U' => ∃ v L, o = .returned v ∧ Q v U'.heap L ∧ FrameEnd U o U' L rm.cells rm.slots)
section Walk
variable {p : Program} {l : Launch} {e : Env} {R : Room} {s : State} {m : MethodId} {args : Array Value} {below : List Frame} {meth : Method} {c : Code} {T : State} {locs : List Loc} {cells slots : Nat} {P : Outcome → State → Prop} {Z : State} {a0 : Array Value} {h : Heap}
variable {pc : Nat} {L : Array Slot} {rest st : List Value}
theorem Go.via {A B : State} (q : ∀ t, Steps p.tables e below B t → Steps p.tables e below A t) (k : Go p e below P B) : Go p e below P A := by
  obtain ⟨s2, o, h1, h2⟩ := k
  exact ⟨s2, o, q _ h1, h2⟩
theorem Go.tr {A B : State} (q : Steps p.tables e below A B) (k : Go p e below P B) : Go p e below P A := Go.via (fun _ r => q.trans r) k
theorem enter {y : MethodName} {bytes : ByteArray} {maxL : Nat} {ret : Option FieldType} {ws : List Jvm.Cond} {rm : Room} {as : Array Value} {Q : Option Value → Heap → List Loc → Prop} (hy : plainFor y = true)
    (body : ∀ p e s m below meth c s₁, p.tables.exec = Jvm.exec → c.code = bytes → c.maxLocals = maxL → s.vm.findClass y.cls = some m.cls → meth.name = y.name → meth.sig.returnType = ret → meth.locks = false → Z.Warmed39 s.vm →
      Stand p l e rm s m as below meth c s₁ [] 0 0 → s₁.heap = h → Go p e below (Fini s Q rm.cells rm.slots) (s₁.setTop (entryFrame m as maxL))) : Ct l y bytes maxL ret ws rm Z as h Q := by
  refine MetFree.of_bodySF hy hisR ?_
  intro p e s m args below meth c s₁ Bd hml hP hK
  obtain ⟨rfl, hZ, hh⟩ := hP
  exact body p e s m below meth c s₁ Bd.exec Bd.bytes hml (findClass_of_methodNamed Bd.named) (name_of_methodNamed Bd.named Bd.method).1 Bd.returns Bd.notSynchronized hZ (Stand.of_body Bd) (by rw [← hh, Bd.state]; rfl)
theorem start {g g' : JFrame} (q : g = g') (k : Go p e below P (T.setTop g')) : Go p e below P (T.setTop g) := q ▸ k
theorem induct {α : Type} (S : α → State) (I : Nat → α → Prop) (base : ∀ a, I 0 a → Go p e below P (S a)) (step : ∀ k a, I (k + 1) a → (∀ a', I k a' → Go p e below P (S a')) → Go p e below P (S a)) {n : Nat} {a : α} (w : I n a) : Go p e below P (S a) := by
  induction n generalizing a with
  | zero => exact base a w
  | succ k ih => exact step k a w (fun a' w' => ih w')
/-! plain steps -/
theorem aloadN (X : Stand p l e R s m args below meth c T locs cells slots) (hx : p.tables.exec = Jvm.exec) {i : Fin 4} {v : Value} (hd : decode c.code pc = .ok (.aload_n i, 1)) (hl : L[i.val]? = some (.val v)) (hv : v.isRef = true) (k : Go p e below P (T.setTop (mkF m (pc + 1) L (v :: st)))) : Go p e below P (T.setTop (mkF m pc L st)) := Go.via (fun _ q => XS.aloadN X.here hx rfl hd hl hv q) k
theorem aload (X : Stand p l e R s m args below meth c T locs cells slots) (hx : p.tables.exec = Jvm.exec) {i : Nat} {v : Value} (hd : decode c.code pc = .ok (.aload i, 2)) (hl : L[i]? = some (.val v)) (hv : v.isRef = true) (k : Go p e below P (T.setTop (mkF m (pc + 2) L (v :: st)))) : Go p e below P (T.setTop (mkF m pc L st)) := Go.via (fun _ q => XS.aload X.here hx rfl hd hl hv q) k
theorem iloadN (X : Stand p l e R s m args below meth c T locs cells slots) (hx : p.tables.exec = Jvm.exec) {i : Fin 4} {v : Int32} (hd : decode c.code pc = .ok (.iload_n i, 1)) (hl : L[i.val]? = some (.val (.int v))) (k : Go p e below P (T.setTop (mkF m (pc + 1) L (.int v :: st)))) : Go p e below P (T.setTop (mkF m pc L st)) := Go.via (fun _ q => XS.iloadN X.here hx rfl hd hl q) k
theorem iload (X : Stand p l e R s m args below meth c T locs cells slots) (hx : p.tables.exec = Jvm.exec) {i : Nat} {v : Int32} (hd : decode c.code pc = .ok (.iload i, 2)) (hl : L[i]? = some (.val (.int v))) (k : Go p e below P (T.setTop (mkF m (pc + 2) L (.int v :: st)))) : Go p e below P (T.setTop (mkF m pc L st)) := Go.via (fun _ q => XS.iload X.here hx rfl hd hl q) k
theorem lloadN (X : Stand p l e R s m args below meth c T locs cells slots) (hx : p.tables.exec = Jvm.exec) {i : Fin 4} {v : Int64} (hd : decode c.code pc = .ok (.lload_n i, 1)) (hl : L[i.val]? = some (.val (.long v))) (k : Go p e below P (T.setTop (mkF m (pc + 1) L (.long v :: st)))) : Go p e below P (T.setTop (mkF m pc L st)) := Go.via (fun _ q => XT.lloadN X.here hx rfl hd hl q) k
theorem lload (X : Stand p l e R s m args below meth c T locs cells slots) (hx : p.tables.exec = Jvm.exec) {i : Nat} {v : Int64} (hd : decode c.code pc = .ok (.lload i, 2)) (hl : L[i]? = some (.val (.long v))) (k : Go p e below P (T.setTop (mkF m (pc + 2) L (.long v :: st)))) : Go p e below P (T.setTop (mkF m pc L st)) := Go.via (fun _ q => XT.lload X.here hx rfl hd hl q) k
theorem istoreN (X : Stand p l e R s m args below meth c T locs cells slots) (hx : p.tables.exec = Jvm.exec) {i : Fin 4} {v : Int32} (L' : Array Slot) (hd : decode c.code pc = .ok (.istore_n i, 1)) (hl : storeLocals L i.val (.int v) = some L') (k : Go p e below P (T.setTop (mkF m (pc + 1) L' st))) : Go p e below P (T.setTop (mkF m pc L (.int v :: st))) := Go.via (fun _ q => XS.istoreN X.here hx rfl hd rfl hl q) k
theorem istore (X : Stand p l e R s m args below meth c T locs cells slots) (hx : p.tables.exec = Jvm.exec) {i : Nat} {v : Int32} (L' : Array Slot) (hd : decode c.code pc = .ok (.istore i, 2)) (hl : storeLocals L i (.int v) = some L') (k : Go p e below P (T.setTop (mkF m (pc + 2) L' st))) : Go p e below P (T.setTop (mkF m pc L (.int v :: st))) := Go.via (fun _ q => XS.istore X.here hx rfl hd rfl hl q) k
theorem lstoreN (X : Stand p l e R s m args below meth c T locs cells slots) (hx : p.tables.exec = Jvm.exec) {i : Fin 4} {v : Int64} (L' : Array Slot) (hd : decode c.code pc = .ok (.lstore_n i, 1)) (hl : storeLocals L i.val (.long v) = some L') (k : Go p e below P (T.setTop (mkF m (pc + 1) L' st))) : Go p e below P (T.setTop (mkF m pc L (.long v :: st))) := Go.via (fun _ q => XT.lstoreN X.here hx rfl hd rfl hl q) k
theorem lstore (X : Stand p l e R s m args below meth c T locs cells slots) (hx : p.tables.exec = Jvm.exec) {i : Nat} {v : Int64} (L' : Array Slot) (hd : decode c.code pc = .ok (.lstore i, 2)) (hl : storeLocals L i (.long v) = some L') (k : Go p e below P (T.setTop (mkF m (pc + 2) L' st))) : Go p e below P (T.setTop (mkF m pc L (.long v :: st))) := Go.via (fun _ q => XT.lstore X.here hx rfl hd rfl hl q) k
theorem astoreN (X : Stand p l e R s m args below meth c T locs cells slots) (hx : p.tables.exec = Jvm.exec) {i : Fin 4} {v : Value} (L' : Array Slot) (hd : decode c.code pc = .ok (.astore_n i, 1)) (hv : v.isRef = true) (hl : storeLocals L i.val v = some L') (k : Go p e below P (T.setTop (mkF m (pc + 1) L' st))) : Go p e below P (T.setTop (mkF m pc L (v :: st))) := Go.via (fun _ q => XS.astoreN X.here hx rfl hd rfl hv hl q) k
theorem astore (X : Stand p l e R s m args below meth c T locs cells slots) (hx : p.tables.exec = Jvm.exec) {i : Nat} {v : Value} (L' : Array Slot) (hd : decode c.code pc = .ok (.astore i, 2)) (hv : v.isRef = true) (hl : storeLocals L i v = some L') (k : Go p e below P (T.setTop (mkF m (pc + 2) L' st))) : Go p e below P (T.setTop (mkF m pc L (v :: st))) := Go.via (fun _ q => XS.astore X.here hx rfl hd rfl hv hl q) k
theorem iconst (X : Stand p l e R s m args below meth c T locs cells slots) (hx : p.tables.exec = Jvm.exec) {i : Int} (v : Int32) (hd : decode c.code pc = .ok (.iconst i, 1)) (hv : Int32.ofInt i = v) (k : Go p e below P (T.setTop (mkF m (pc + 1) L (.int v :: st)))) : Go p e below P (T.setTop (mkF m pc L st)) := Go.via (fun _ q => XS.iconst X.here hx rfl hd (hv ▸ q)) k
theorem bipush (X : Stand p l e R s m args below meth c T locs cells slots) (hx : p.tables.exec = Jvm.exec) {i : Int} (v : Int32) (hd : decode c.code pc = .ok (.bipush i, 2)) (hv : (Int8.ofInt i).toInt32 = v) (k : Go p e below P (T.setTop (mkF m (pc + 2) L (.int v :: st)))) : Go p e below P (T.setTop (mkF m pc L st)) := Go.via (fun _ q => XS.bipush X.here hx rfl hd (hv ▸ q)) k
theorem sipush (X : Stand p l e R s m args below meth c T locs cells slots) (hx : p.tables.exec = Jvm.exec) {i : Int} (v : Int32) (hd : decode c.code pc = .ok (.sipush i, 3)) (hv : (Int16.ofInt i).toInt32 = v) (k : Go p e below P (T.setTop (mkF m (pc + 3) L (.int v :: st)))) : Go p e below P (T.setTop (mkF m pc L st)) := Go.via (fun _ q => XS.sipush X.here hx rfl hd (hv ▸ q)) k
theorem lconst (X : Stand p l e R s m args below meth c T locs cells slots) (hx : p.tables.exec = Jvm.exec) {i : Fin 2} (v : Int64) (hd : decode c.code pc = .ok (.lconst i, 1)) (hv : Int64.ofNat i = v) (k : Go p e below P (T.setTop (mkF m (pc + 1) L (.long v :: st)))) : Go p e below P (T.setTop (mkF m pc L st)) := Go.via (fun _ q => XT.lconst X.here hx rfl hd (hv ▸ q)) k
theorem aconstNull (X : Stand p l e R s m args below meth c T locs cells slots) (hx : p.tables.exec = Jvm.exec) (hd : decode c.code pc = .ok (.aconst_null, 1)) (k : Go p e below P (T.setTop (mkF m (pc + 1) L (.null :: st)))) : Go p e below P (T.setTop (mkF m pc L st)) := Go.via (fun _ q => XS.aconstNull X.here hx rfl hd q) k
theorem ldcI (X : Stand p l e R s m args below meth c T locs cells slots) (hx : p.tables.exec = Jvm.exec) (hZ : Z.Warmed39 s.vm) {own : String} {i : Nat} {v : Int32} (hown : s.vm.findClass own = some m.cls) (w : (Cond.constant own i v).before a0 Z = true) (hd : decode c.code pc = .ok (.ldc i, 2)) (k : Go p e below P (T.setTop (mkF m (pc + 2) L (.int v :: st)))) : Go p e below P (T.setTop (mkF m pc L st)) := Go.via (fun _ q => X.ldcI hx hown (mvT hZ w) rfl hd q) k
theorem ldcWI (X : Stand p l e R s m args below meth c T locs cells slots) (hx : p.tables.exec = Jvm.exec) (hZ : Z.Warmed39 s.vm) {own : String} {i : Nat} {v : Int32} (hown : s.vm.findClass own = some m.cls) (w : (Cond.constant own i v).before a0 Z = true) (hd : decode c.code pc = .ok (.ldc_w i, 3)) (k : Go p e below P (T.setTop (mkF m (pc + 3) L (.int v :: st)))) : Go p e below P (T.setTop (mkF m pc L st)) := Go.via (fun _ q => X.ldcWI hx hown (mvT hZ w) rfl hd q) k
theorem ldc2J (X : Stand p l e R s m args below meth c T locs cells slots) (hx : p.tables.exec = Jvm.exec) (hZ : Z.Warmed39 s.vm) {own : String} {i : Nat} {v : Int64} (hown : s.vm.findClass own = some m.cls) (w : (Cond.constantLong own i v).before a0 Z = true) (hd : decode c.code pc = .ok (.ldc2_w i, 3)) (k : Go p e below P (T.setTop (mkF m (pc + 3) L (.long v :: st)))) : Go p e below P (T.setTop (mkF m pc L st)) := Go.via (fun _ q => X.ldc2J hx hown (mvT hZ w) rfl hd q) k
theorem iinc (X : Stand p l e R s m args below meth c T locs cells slots) (hx : p.tables.exec = Jvm.exec) {i : Nat} {d : Int} {x : Int32} (v : Int32) (L' : Array Slot) (hd : decode c.code pc = .ok (.iinc i d, 3)) (hv : Int32.ofInt d = v) (hl : L[i]? = some (.val (.int x))) (hl' : storeLocals L i (.int (x + v)) = some L') (k : Go p e below P (T.setTop (mkF m (pc + 3) L' st))) : Go p e below P (T.setTop (mkF m pc L st)) := Go.via (fun _ q => XS.iinc X.here hx rfl hd hl (hv ▸ hl') q) k
theorem goto (X : Stand p l e R s m args below meth c T locs cells slots) (hx : p.tables.exec = Jvm.exec) {o : Int} (pc' : Nat) (hd : decode c.code pc = .ok (.goto o, 3)) (ho : 0 ≤ (pc : Int) + o) (hp : ((pc : Int) + o).toNat = pc') (k : Go p e below P (T.setTop (mkF m pc' L st))) : Go p e below P (T.setTop (mkF m pc L st)) := Go.via (fun _ q => XS.goto X.here hx rfl rfl hd ho hp q) k
theorem ifYes (X : Stand p l e R s m args below meth c T locs cells slots) (hx : p.tables.exec = Jvm.exec) {cd : ClassFile.Cond} {x : Int32} {o : Int} (pc' : Nat) (hd : decode c.code pc = .ok (.ifCond cd o, 3)) (hc : ifCond.holds cd x = true) (ho : 0 ≤ (pc : Int) + o) (hp : ((pc : Int) + o).toNat = pc') (k : Go p e below P (T.setTop (mkF m pc' L st))) : Go p e below P (T.setTop (mkF m pc L (.int x :: st))) := Go.via (fun _ q => XS.ifYes X.here hx rfl rfl hd rfl hc ho hp q) k
theorem ifNo (X : Stand p l e R s m args below meth c T locs cells slots) (hx : p.tables.exec = Jvm.exec) {cd : ClassFile.Cond} {x : Int32} {o : Int} (hd : decode c.code pc = .ok (.ifCond cd o, 3)) (hc : ifCond.holds cd x = false) (k : Go p e below P (T.setTop (mkF m (pc + 3) L st))) : Go p e below P (T.setTop (mkF m pc L (.int x :: st))) := Go.via (fun _ q => XS.ifNo X.here hx rfl hd rfl hc q) k
theorem icmpYes (X : Stand p l e R s m args below meth c T locs cells slots) (hx : p.tables.exec = Jvm.exec) {cd : ClassFile.Cond} {x y : Int32} {o : Int} (pc' : Nat) (hd : decode c.code pc = .ok (.if_icmp cd o, 3)) (hc : if_icmp.holds cd x y = true) (ho : 0 ≤ (pc : Int) + o) (hp : ((pc : Int) + o).toNat = pc') (k : Go p e below P (T.setTop (mkF m pc' L st))) : Go p e below P (T.setTop (mkF m pc L (.int y :: .int x :: st))) := Go.via (fun _ q => XS.icmpYes X.here hx rfl rfl hd rfl hc ho hp q) k
theorem icmpNo (X : Stand p l e R s m args below meth c T locs cells slots) (hx : p.tables.exec = Jvm.exec) {cd : ClassFile.Cond} {x y : Int32} {o : Int} (hd : decode c.code pc = .ok (.if_icmp cd o, 3)) (hc : if_icmp.holds cd x y = false) (k : Go p e below P (T.setTop (mkF m (pc + 3) L st))) : Go p e below P (T.setTop (mkF m pc L (.int y :: .int x :: st))) := Go.via (fun _ q => XS.icmpNo X.here hx rfl hd rfl hc q) k
theorem ifnullYes (X : Stand p l e R s m args below meth c T locs cells slots) (hx : p.tables.exec = Jvm.exec) {o : Int} (pc' : Nat) (hd : decode c.code pc = .ok (.ifnull o, 3)) (ho : 0 ≤ (pc : Int) + o) (hp : ((pc : Int) + o).toNat = pc') (k : Go p e below P (T.setTop (mkF m pc' L st))) : Go p e below P (T.setTop (mkF m pc L (.null :: st))) := Go.via (fun _ q => XS.ifnullYes X.here hx rfl rfl hd rfl ho hp q) k
theorem ifnullNo (X : Stand p l e R s m args below meth c T locs cells slots) (hx : p.tables.exec = Jvm.exec) {o : Int} {b : Addr} (hd : decode c.code pc = .ok (.ifnull o, 3)) (k : Go p e below P (T.setTop (mkF m (pc + 3) L st))) : Go p e below P (T.setTop (mkF m pc L (.ref b :: st))) := Go.via (fun _ q => XS.ifnullNo X.here hx rfl hd rfl q) k
theorem ifnonnullYes (X : Stand p l e R s m args below meth c T locs cells slots) (hx : p.tables.exec = Jvm.exec) {o : Int} {b : Addr} (pc' : Nat) (hd : decode c.code pc = .ok (.ifnonnull o, 3)) (ho : 0 ≤ (pc : Int) + o) (hp : ((pc : Int) + o).toNat = pc') (k : Go p e below P (T.setTop (mkF m pc' L st))) : Go p e below P (T.setTop (mkF m pc L (.ref b :: st))) := Go.via (fun _ q => XT.ifnonnullYes X.here hx rfl rfl hd rfl ho hp q) k
theorem ifnonnullNo (X : Stand p l e R s m args below meth c T locs cells slots) (hx : p.tables.exec = Jvm.exec) {o : Int} (hd : decode c.code pc = .ok (.ifnonnull o, 3)) (k : Go p e below P (T.setTop (mkF m (pc + 3) L st))) : Go p e below P (T.setTop (mkF m pc L (.null :: st))) := Go.via (fun _ q => XT.ifnonnullNo X.here hx rfl hd rfl q) k
theorem dup (X : Stand p l e R s m args below meth c T locs cells slots) (hx : p.tables.exec = Jvm.exec) {v : Value} (hd : decode c.code pc = .ok (.dup, 1)) (hc : v.category = 1) (k : Go p e below P (T.setTop (mkF m (pc + 1) L (v :: v :: st)))) : Go p e below P (T.setTop (mkF m pc L (v :: st))) := Go.via (fun _ q => XS.dup X.here hx rfl hd rfl hc q) k
theorem dup2 (X : Stand p l e R s m args below meth c T locs cells slots) (hx : p.tables.exec = Jvm.exec) {v w : Value} (hd : decode c.code pc = .ok (.dup2, 1)) (hc : v.category = 1) (hc' : w.category = 1) (k : Go p e below P (T.setTop (mkF m (pc + 1) L (v :: w :: v :: w :: st)))) : Go p e below P (T.setTop (mkF m pc L (v :: w :: st))) := Go.via (fun _ q => XT.dup2 X.here hx rfl hd rfl hc hc' q) k
theorem dup2L (X : Stand p l e R s m args below meth c T locs cells slots) (hx : p.tables.exec = Jvm.exec) {v : Int64} (hd : decode c.code pc = .ok (.dup2, 1)) (k : Go p e below P (T.setTop (mkF m (pc + 1) L (.long v :: .long v :: st)))) : Go p e below P (T.setTop (mkF m pc L (.long v :: st))) := Go.via (fun _ q => XT.dup2L X.here hx rfl hd rfl q) k
theorem dupX1 (X : Stand p l e R s m args below meth c T locs cells slots) (hx : p.tables.exec = Jvm.exec) {v w : Value} (hd : decode c.code pc = .ok (.dup_x1, 1)) (hc : v.category = 1) (hc' : w.category = 1) (k : Go p e below P (T.setTop (mkF m (pc + 1) L (v :: w :: v :: st)))) : Go p e below P (T.setTop (mkF m pc L (v :: w :: st))) := Go.via (fun _ q => XT.dupX1 X.here hx rfl hd rfl hc hc' q) k
theorem pop (X : Stand p l e R s m args below meth c T locs cells slots) (hx : p.tables.exec = Jvm.exec) {v : Value} (hd : decode c.code pc = .ok (.pop, 1)) (hc : v.category = 1) (k : Go p e below P (T.setTop (mkF m (pc + 1) L st))) : Go p e below P (T.setTop (mkF m pc L (v :: st))) := Go.via (fun _ q => XT.pop X.here hx rfl hd rfl hc q) k
theorem xdupX2 {e : Env} {below : List Frame} {T target : State} {m : MethodId} {c : Code} {g : JFrame} (h : At T m c below) (hx : p.tables.exec = Jvm.exec) (hg : g.method = m) {x y z : Value} {rest : List Value} (hd : decode c.code g.pc = .ok (.dup_x2, 1)) (hs : g.stack = x :: y :: z :: rest) (hc : x.category = 1) (hc' : y.category = 1) (hc2 : z.category = 1)
    (hr : Steps p.tables e below (T.setTop { g with pc := g.pc + 1, stack := x :: y :: z :: x :: rest }) target) : Steps p.tables e below (T.setTop g) target := by
  subst hg
  jvm_step h [h.top, hx, hd, hs, hc, hc', hc2]
  exact hr
theorem dupX2 (X : Stand p l e R s m args below meth c T locs cells slots) (hx : p.tables.exec = Jvm.exec) {v w u : Value} (hd : decode c.code pc = .ok (.dup_x2, 1)) (hc : v.category = 1) (hc' : w.category = 1) (hc2 : u.category = 1) (k : Go p e below P (T.setTop (mkF m (pc + 1) L (v :: w :: u :: v :: st)))) : Go p e below P (T.setTop (mkF m pc L (v :: w :: u :: st))) := Go.via (fun _ q => xdupX2 X.here hx rfl hd rfl hc hc' hc2 q) k
theorem xdup2X2 {e : Env} {below : List Frame} {T target : State} {m : MethodId} {c : Code} {g : JFrame} (h : At T m c below) (hx : p.tables.exec = Jvm.exec) (hg : g.method = m) {x : Int64} {y z : Value} {rest : List Value} (hd : decode c.code g.pc = .ok (.dup2_x2, 1)) (hs : g.stack = .long x :: y :: z :: rest) (hc' : y.category = 1) (hc2 : z.category = 1)
    (hr : Steps p.tables e below (T.setTop { g with pc := g.pc + 1, stack := .long x :: y :: z :: .long x :: rest }) target) : Steps p.tables e below (T.setTop g) target := by
  subst hg
  jvm_step h [h.top, hx, hd, hs, hc', hc2]
  exact hr
theorem dup2X2 (X : Stand p l e R s m args below meth c T locs cells slots) (hx : p.tables.exec = Jvm.exec) {v : Int64} {w u : Value} (hd : decode c.code pc = .ok (.dup2_x2, 1)) (hc' : w.category = 1) (hc2 : u.category = 1) (k : Go p e below P (T.setTop (mkF m (pc + 1) L (.long v :: w :: u :: .long v :: st)))) : Go p e below P (T.setTop (mkF m pc L (.long v :: w :: u :: st))) := Go.via (fun _ q => xdup2X2 X.here hx rfl hd rfl hc' hc2 q) k
theorem iadd (X : Stand p l e R s m args below meth c T locs cells slots) (hx : p.tables.exec = Jvm.exec) {x y : Int32} (hd : decode c.code pc = .ok (.iadd, 1)) (k : Go p e below P (T.setTop (mkF m (pc + 1) L (.int (x + y) :: st)))) : Go p e below P (T.setTop (mkF m pc L (.int y :: .int x :: st))) := Go.via (fun _ q => XS.iadd X.here hx rfl hd rfl q) k
theorem isub (X : Stand p l e R s m args below meth c T locs cells slots) (hx : p.tables.exec = Jvm.exec) {x y : Int32} (hd : decode c.code pc = .ok (.isub, 1)) (k : Go p e below P (T.setTop (mkF m (pc + 1) L (.int (x - y) :: st)))) : Go p e below P (T.setTop (mkF m pc L (.int y :: .int x :: st))) := Go.via (fun _ q => XS.isub X.here hx rfl hd rfl q) k
theorem imul (X : Stand p l e R s m args below meth c T locs cells slots) (hx : p.tables.exec = Jvm.exec) {x y : Int32} (hd : decode c.code pc = .ok (.imul, 1)) (k : Go p e below P (T.setTop (mkF m (pc + 1) L (.int (x * y) :: st)))) : Go p e below P (T.setTop (mkF m pc L (.int y :: .int x :: st))) := Go.via (fun _ q => XS.imul X.here hx rfl hd rfl q) k
theorem iand (X : Stand p l e R s m args below meth c T locs cells slots) (hx : p.tables.exec = Jvm.exec) {x y : Int32} (hd : decode c.code pc = .ok (.iand, 1)) (k : Go p e below P (T.setTop (mkF m (pc + 1) L (.int (x &&& y) :: st)))) : Go p e below P (T.setTop (mkF m pc L (.int y :: .int x :: st))) := Go.via (fun _ q => XS.iand X.here hx rfl hd rfl q) k
theorem ior (X : Stand p l e R s m args below meth c T locs cells slots) (hx : p.tables.exec = Jvm.exec) {x y : Int32} (hd : decode c.code pc = .ok (.ior, 1)) (k : Go p e below P (T.setTop (mkF m (pc + 1) L (.int (x ||| y) :: st)))) : Go p e below P (T.setTop (mkF m pc L (.int y :: .int x :: st))) := Go.via (fun _ q => XT.ior X.here hx rfl hd rfl q) k
theorem ixor (X : Stand p l e R s m args below meth c T locs cells slots) (hx : p.tables.exec = Jvm.exec) {x y : Int32} (hd : decode c.code pc = .ok (.ixor, 1)) (k : Go p e below P (T.setTop (mkF m (pc + 1) L (.int (x ^^^ y) :: st)))) : Go p e below P (T.setTop (mkF m pc L (.int y :: .int x :: st))) := Go.via (fun _ q => XT.ixor X.here hx rfl hd rfl q) k
theorem ishl (X : Stand p l e R s m args below meth c T locs cells slots) (hx : p.tables.exec = Jvm.exec) {x y : Int32} (hd : decode c.code pc = .ok (.ishl, 1)) (k : Go p e below P (T.setTop (mkF m (pc + 1) L (.int (x <<< (y &&& 31)) :: st)))) : Go p e below P (T.setTop (mkF m pc L (.int y :: .int x :: st))) := Go.via (fun _ q => XT.ishl X.here hx rfl hd rfl q) k
theorem ishr (X : Stand p l e R s m args below meth c T locs cells slots) (hx : p.tables.exec = Jvm.exec) {x y : Int32} (hd : decode c.code pc = .ok (.ishr, 1)) (k : Go p e below P (T.setTop (mkF m (pc + 1) L (.int (x >>> (y &&& 31)) :: st)))) : Go p e below P (T.setTop (mkF m pc L (.int y :: .int x :: st))) := Go.via (fun _ q => XT.ishr X.here hx rfl hd rfl q) k
theorem iushr (X : Stand p l e R s m args below meth c T locs cells slots) (hx : p.tables.exec = Jvm.exec) {x y : Int32} (hd : decode c.code pc = .ok (.iushr, 1)) (k : Go p e below P (T.setTop (mkF m (pc + 1) L (.int (XT.ushr x y) :: st)))) : Go p e below P (T.setTop (mkF m pc L (.int y :: .int x :: st))) := Go.via (fun _ q => XT.iushr X.here hx rfl hd rfl q) k
theorem idiv (X : Stand p l e R s m args below meth c T locs cells slots) (hx : p.tables.exec = Jvm.exec) {x y : Int32} (hd : decode c.code pc = .ok (.idiv, 1)) (hy : y ≠ 0) (k : Go p e below P (T.setTop (mkF m (pc + 1) L (.int (x / y) :: st)))) : Go p e below P (T.setTop (mkF m pc L (.int y :: .int x :: st))) := Go.via (fun _ q => XS.idiv X.here hx rfl hd rfl hy q) k
theorem irem (X : Stand p l e R s m args below meth c T locs cells slots) (hx : p.tables.exec = Jvm.exec) {x y : Int32} (hd : decode c.code pc = .ok (.irem, 1)) (hy : y ≠ 0) (k : Go p e below P (T.setTop (mkF m (pc + 1) L (.int (x % y) :: st)))) : Go p e below P (T.setTop (mkF m pc L (.int y :: .int x :: st))) := Go.via (fun _ q => iremM X hx (g := mkF m pc L (.int y :: .int x :: st)) rfl hd rfl hy q) k
theorem ladd (X : Stand p l e R s m args below meth c T locs cells slots) (hx : p.tables.exec = Jvm.exec) {x y : Int64} (hd : decode c.code pc = .ok (.ladd, 1)) (k : Go p e below P (T.setTop (mkF m (pc + 1) L (.long (x + y) :: st)))) : Go p e below P (T.setTop (mkF m pc L (.long y :: .long x :: st))) := Go.via (fun _ q => XT.ladd X.here hx rfl hd rfl q) k
theorem lsub (X : Stand p l e R s m args below meth c T locs cells slots) (hx : p.tables.exec = Jvm.exec) {x y : Int64} (hd : decode c.code pc = .ok (.lsub, 1)) (k : Go p e below P (T.setTop (mkF m (pc + 1) L (.long (x - y) :: st)))) : Go p e below P (T.setTop (mkF m pc L (.long y :: .long x :: st))) := Go.via (fun _ q => XT.lsub X.here hx rfl hd rfl q) k
theorem lmul (X : Stand p l e R s m args below meth c T locs cells slots) (hx : p.tables.exec = Jvm.exec) {x y : Int64} (hd : decode c.code pc = .ok (.lmul, 1)) (k : Go p e below P (T.setTop (mkF m (pc + 1) L (.long (x * y) :: st)))) : Go p e below P (T.setTop (mkF m pc L (.long y :: .long x :: st))) := Go.via (fun _ q => XT.lmul X.here hx rfl hd rfl q) k
theorem land (X : Stand p l e R s m args below meth c T locs cells slots) (hx : p.tables.exec = Jvm.exec) {x y : Int64} (hd : decode c.code pc = .ok (.land, 1)) (k : Go p e below P (T.setTop (mkF m (pc + 1) L (.long (x &&& y) :: st)))) : Go p e below P (T.setTop (mkF m pc L (.long y :: .long x :: st))) := Go.via (fun _ q => XT.land X.here hx rfl hd rfl q) k
theorem lor (X : Stand p l e R s m args below meth c T locs cells slots) (hx : p.tables.exec = Jvm.exec) {x y : Int64} (hd : decode c.code pc = .ok (.lor, 1)) (k : Go p e below P (T.setTop (mkF m (pc + 1) L (.long (x ||| y) :: st)))) : Go p e below P (T.setTop (mkF m pc L (.long y :: .long x :: st))) := Go.via (fun _ q => XT.lor X.here hx rfl hd rfl q) k
theorem lxor (X : Stand p l e R s m args below meth c T locs cells slots) (hx : p.tables.exec = Jvm.exec) {x y : Int64} (hd : decode c.code pc = .ok (.lxor, 1)) (k : Go p e below P (T.setTop (mkF m (pc + 1) L (.long (x ^^^ y) :: st)))) : Go p e below P (T.setTop (mkF m pc L (.long y :: .long x :: st))) := Go.via (fun _ q => XT.lxor X.here hx rfl hd rfl q) k
theorem lshl (X : Stand p l e R s m args below meth c T locs cells slots) (hx : p.tables.exec = Jvm.exec) {x : Int64} {y : Int32} (hd : decode c.code pc = .ok (.lshl, 1)) (k : Go p e below P (T.setTop (mkF m (pc + 1) L (.long (x <<< (y.toInt64 &&& 63)) :: st)))) : Go p e below P (T.setTop (mkF m pc L (.int y :: .long x :: st))) := Go.via (fun _ q => XT.lshl X.here hx rfl hd rfl q) k
theorem lshr (X : Stand p l e R s m args below meth c T locs cells slots) (hx : p.tables.exec = Jvm.exec) {x : Int64} {y : Int32} (hd : decode c.code pc = .ok (.lshr, 1)) (k : Go p e below P (T.setTop (mkF m (pc + 1) L (.long (x >>> (y.toInt64 &&& 63)) :: st)))) : Go p e below P (T.setTop (mkF m pc L (.int y :: .long x :: st))) := Go.via (fun _ q => XT.lshr X.here hx rfl hd rfl q) k
theorem lushr (X : Stand p l e R s m args below meth c T locs cells slots) (hx : p.tables.exec = Jvm.exec) {x : Int64} {y : Int32} (hd : decode c.code pc = .ok (.lushr, 1)) (k : Go p e below P (T.setTop (mkF m (pc + 1) L (.long (XT.ushrL x y) :: st)))) : Go p e below P (T.setTop (mkF m pc L (.int y :: .long x :: st))) := Go.via (fun _ q => XT.lushr X.here hx rfl hd rfl q) k
theorem ldiv (X : Stand p l e R s m args below meth c T locs cells slots) (hx : p.tables.exec = Jvm.exec) {x y : Int64} (hd : decode c.code pc = .ok (.ldiv, 1)) (hy : y ≠ 0) (k : Go p e below P (T.setTop (mkF m (pc + 1) L (.long (x / y) :: st)))) : Go p e below P (T.setTop (mkF m pc L (.long y :: .long x :: st))) := Go.via (fun _ q => XT.ldiv X.here hx rfl hd rfl hy q) k
theorem lrem (X : Stand p l e R s m args below meth c T locs cells slots) (hx : p.tables.exec = Jvm.exec) {x y : Int64} (hd : decode c.code pc = .ok (.lrem, 1)) (hy : y ≠ 0) (k : Go p e below P (T.setTop (mkF m (pc + 1) L (.long (x % y) :: st)))) : Go p e below P (T.setTop (mkF m pc L (.long y :: .long x :: st))) := Go.via (fun _ q => XT.lrem X.here hx rfl hd rfl hy (by rw [lrem_mod]; exact q)) k
theorem ineg (X : Stand p l e R s m args below meth c T locs cells slots) (hx : p.tables.exec = Jvm.exec) {x : Int32} (hd : decode c.code pc = .ok (.ineg, 1)) (k : Go p e below P (T.setTop (mkF m (pc + 1) L (.int ((-x)) :: st)))) : Go p e below P (T.setTop (mkF m pc L (.int x :: st))) := Go.via (fun _ q => XS.ineg X.here hx rfl hd rfl q) k
theorem lneg (X : Stand p l e R s m args below meth c T locs cells slots) (hx : p.tables.exec = Jvm.exec) {x : Int64} (hd : decode c.code pc = .ok (.lneg, 1)) (k : Go p e below P (T.setTop (mkF m (pc + 1) L (.long ((-x)) :: st)))) : Go p e below P (T.setTop (mkF m pc L (.long x :: st))) := Go.via (fun _ q => XT.lneg X.here hx rfl hd rfl q) k
theorem i2l (X : Stand p l e R s m args below meth c T locs cells slots) (hx : p.tables.exec = Jvm.exec) {x : Int32} (hd : decode c.code pc = .ok (.i2l, 1)) (k : Go p e below P (T.setTop (mkF m (pc + 1) L (.long (x.toInt64) :: st)))) : Go p e below P (T.setTop (mkF m pc L (.int x :: st))) := Go.via (fun _ q => XT.i2l X.here hx rfl hd rfl q) k
theorem l2i (X : Stand p l e R s m args below meth c T locs cells slots) (hx : p.tables.exec = Jvm.exec) {x : Int64} (hd : decode c.code pc = .ok (.l2i, 1)) (k : Go p e below P (T.setTop (mkF m (pc + 1) L (.int (x.toInt32) :: st)))) : Go p e below P (T.setTop (mkF m pc L (.long x :: st))) := Go.via (fun _ q => XT.l2i X.here hx rfl hd rfl q) k
theorem i2b (X : Stand p l e R s m args below meth c T locs cells slots) (hx : p.tables.exec = Jvm.exec) {x : Int32} (hd : decode c.code pc = .ok (.i2b, 1)) (k : Go p e below P (T.setTop (mkF m (pc + 1) L (.int (x.toInt8.toInt32) :: st)))) : Go p e below P (T.setTop (mkF m pc L (.int x :: st))) := Go.via (fun _ q => XT.i2b X.here hx rfl hd rfl q) k
theorem i2c (X : Stand p l e R s m args below meth c T locs cells slots) (hx : p.tables.exec = Jvm.exec) {x : Int32} (hd : decode c.code pc = .ok (.i2c, 1)) (k : Go p e below P (T.setTop (mkF m (pc + 1) L (.int (x.toUInt32.toUInt16.toUInt32.toInt32) :: st)))) : Go p e below P (T.setTop (mkF m pc L (.int x :: st))) := Go.via (fun _ q => XT.i2c X.here hx rfl hd rfl q) k
theorem i2s (X : Stand p l e R s m args below meth c T locs cells slots) (hx : p.tables.exec = Jvm.exec) {x : Int32} (hd : decode c.code pc = .ok (.i2s, 1)) (k : Go p e below P (T.setTop (mkF m (pc + 1) L (.int (x.toInt16.toInt32) :: st)))) : Go p e below P (T.setTop (mkF m pc L (.int x :: st))) := Go.via (fun _ q => XT.i2s X.here hx rfl hd rfl q) k
theorem lcmp (X : Stand p l e R s m args below meth c T locs cells slots) (hx : p.tables.exec = Jvm.exec) {x y : Int64} (hd : decode c.code pc = .ok (.lcmp, 1)) (k : Go p e below P (T.setTop (mkF m (pc + 1) L (.int (XT.cmpL x y) :: st)))) : Go p e below P (T.setTop (mkF m pc L (.long y :: .long x :: st))) := Go.via (fun _ q => XT.lcmp X.here hx rfl hd rfl q) k
theorem iincV (X : Stand p l e R s m args below meth c T locs cells slots) (hx : p.tables.exec = Jvm.exec) {i : Nat} {d : Int} {x : Int32} (v w : Int32) (L' : Array Slot) (hd : decode c.code pc = .ok (.iinc i d, 3)) (hv : Int32.ofInt d = v) (hl : L[i]? = some (.val (.int x))) (hw : x + v = w) (hl' : storeLocals L i (.int w) = some L') (k : Go p e below P (T.setTop (mkF m (pc + 3) L' st))) : Go p e below P (T.setTop (mkF m pc L st)) := Go.via (fun _ q => XS.iinc X.here hx rfl hd hl (hv ▸ hw ▸ hl') q) k
theorem topI {x y : Int32} (q : x = y) (k : Go p e below P (T.setTop (mkF m pc L (.int y :: st)))) : Go p e below P (T.setTop (mkF m pc L (.int x :: st))) := q ▸ k
theorem topJ {x y : Int64} (q : x = y) (k : Go p e below P (T.setTop (mkF m pc L (.long y :: st)))) : Go p e below P (T.setTop (mkF m pc L (.long x :: st))) := q ▸ k
/-! returns -/
theorem leaveR (X : Stand p l e R s m args below meth c T locs cells slots) (hk : meth.locks = false) {Q : Option Value → Heap → List Loc → Prop} {k n : Nat} {g : JFrame} {v : Option Value} (hv : meth.sig.returnType = none → v = none) (eT : T.heap = h) (hQ : Q v h locs) (hc : cells ≤ k) (hn : slots ≤ n)
    (st : ∀ fs, (∀ (f : JFrame) (acts : List Action), f.method = m → f.locked = none → f.entered = [] → (doReturn e (T.setTop f) acts v).1 = T.setFrames fs) → Steps p.tables e below (T.setTop g) (T.setFrames fs)) : Go p e below (Fini s Q k n) (T.setTop g) := by
  obtain ⟨fs, hr, hrun, hended, hW, hsame⟩ := X.leave (v := v) hv hk
  exact ⟨_, _, st fs hr, hrun, hended, _, _, rfl, by show Q v T.heap locs; rw [eT]; exact hQ, ⟨_, rfl⟩, hW, hsame.mono hc hn⟩
theorem ireturn (X : Stand p l e R s m args below meth c T locs cells slots) (hx : p.tables.exec = Jvm.exec) (hk : meth.locks = false) {Q : Option Value → Heap → List Loc → Prop} {k n : Nat} {t : FieldType} {z : Int32} (hret : meth.sig.returnType = some t) (ht : t = .int ∨ t = .boolean ∨ t = .byte ∨ t = .char ∨ t = .short) (hnr : narrow t (.int z) = .int z) (hd : decode c.code pc = .ok (.ireturn, 1)) (eT : T.heap = h) (hQ : Q (some (.int z)) h locs) (hc : cells ≤ k) (hn : slots ≤ n) : Go p e below (Fini s Q k n) (T.setTop (mkF m pc L (.int z :: rest))) :=
  leaveR X hk (v := some (.int z)) (fun q => by rw [hret] at q; cases q) eT hQ hc hn fun fs hr => retOut X hx hret hnr (Or.inl ⟨rfl, ht, z, rfl⟩) hd hr
theorem lreturn (X : Stand p l e R s m args below meth c T locs cells slots) (hx : p.tables.exec = Jvm.exec) (hk : meth.locks = false) {Q : Option Value → Heap → List Loc → Prop} {k n : Nat} {z : Int64} (hret : meth.sig.returnType = some .long) (hd : decode c.code pc = .ok (.lreturn, 1)) (eT : T.heap = h) (hQ : Q (some (.long z)) h locs) (hc : cells ≤ k) (hn : slots ≤ n) : Go p e below (Fini s Q k n) (T.setTop (mkF m pc L (.long z :: rest))) :=
  leaveR X hk (v := some (.long z)) (fun q => by rw [hret] at q; cases q) eT hQ hc hn fun fs hr => retOut X hx hret rfl (Or.inr (Or.inl ⟨rfl, rfl, z, rfl⟩)) hd hr
theorem areturn (X : Stand p l e R s m args below meth c T locs cells slots) (hx : p.tables.exec = Jvm.exec) (hk : meth.locks = false) {Q : Option Value → Heap → List Loc → Prop} {k n : Nat} {t : FieldType} {z : Value} (hret : meth.sig.returnType = some t) (ht : t.isReference = true) (hz : z.isRef = true) (hnr : narrow t z = z) (hd : decode c.code pc = .ok (.areturn, 1)) (eT : T.heap = h) (hQ : Q (some z) h locs) (hc : cells ≤ k) (hn : slots ≤ n) : Go p e below (Fini s Q k n) (T.setTop (mkF m pc L (z :: rest))) :=
  leaveR X hk (v := some z) (fun q => by rw [hret] at q; cases q) eT hQ hc hn fun fs hr => retOut X hx hret hnr (Or.inr (Or.inr (Or.inr (Or.inr ⟨rfl, ht, hz⟩)))) hd hr
theorem vreturn (X : Stand p l e R s m args below meth c T locs cells slots) (hx : p.tables.exec = Jvm.exec) (hk : meth.locks = false) {Q : Option Value → Heap → List Loc → Prop} {k n : Nat} (hret : meth.sig.returnType = none) (hd : decode c.code pc = .ok (.return_, 1)) (eT : T.heap = h) (hQ : Q none h locs) (hc : cells ≤ k) (hn : slots ≤ n) : Go p e below (Fini s Q k n) (T.setTop (mkF m pc L [])) :=
  leaveR X hk (v := none) (fun _ => rfl) eT hQ hc hn fun fs hr => X.returnOut hx hret hd hr
/-! String constants: the start with the tables at hand -/
def FiniW (s : State) (Q : Option Value → Heap → List Loc → Prop) (k n : Nat) (o : Outcome) (U : State) : Prop :=
  ∃ v L, o = .returned v ∧ Q v U.heap L ∧ ReturnedEndW s o U L k n
def CtW (l : Launch) (y : MethodName) (bytes : ByteArray) (maxL : Nat) (ret : Option FieldType) (ws : List Jvm.Cond) (rm : Room) (Z : State) (as : Array Value) (h : Heap) (Q : Option Value → Heap → List Loc → Prop) : Prop :=
  MetFree l y (head1 (Jvm.Cond.code y bytes maxL ret :: ws) rm) (fun a U => a = as ∧ Z.Warmed39 U.vm ∧ U.heap = h) (fun _ _ _ _ _ => True) (fun _ U o U' => ∃ v L, o = .returned v ∧ Q v U'.heap L ∧ ReturnedEndW U o U' L rm.cells rm.slots)
theorem enterW {y : MethodName} {bytes : ByteArray} {maxL : Nat} {ret : Option FieldType} {ws : List Jvm.Cond} {rm : Room} {as : Array Value} {Q : Option Value → Heap → List Loc → Prop} (hy : plainFor y = true)
    (body : ∀ p e s m below meth c s₁, p.tables.exec = Jvm.exec → c.code = bytes → c.maxLocals = maxL → s.vm.findClass y.cls = some m.cls → meth.name = y.name → meth.sig.returnType = ret → meth.locks = false → Z.Warmed39 s.vm →
      Stand p l e rm s m as below meth c s₁ [] 0 0 → s₁.heap = h → Go p e below (FiniW s Q rm.cells rm.slots) (s₁.setTop (entryFrame m as maxL))) : CtW l y bytes maxL ret ws rm Z as h Q := by
  refine MetFree.of_bodySF hy hisR ?_
  intro p e s m args below meth c s₁ Bd hml hP hK
  obtain ⟨rfl, hZ, hh⟩ := hP
  exact body p e s m below meth c s₁ Bd.exec Bd.bytes hml (findClass_of_methodNamed Bd.named) (name_of_methodNamed Bd.named Bd.method).1 Bd.returns Bd.notSynchronized hZ (Stand.of_body Bd) (by rw [← hh, Bd.state]; rfl)
theorem since0 (s : State) : s.Since s.vm 0 := State.WarmedH.since (State.WarmedH.refl s) 0
theorem ldcStr {vm0 : Vm} (X : Stand p l e R (s.setVm vm0) m args below meth c T locs cells slots) (hx : p.tables.exec = Jvm.exec) (hZ : Z.Warmed39 vm0) {own text : String} {i : Nat} (hown : vm0.findClass own = some m.cls) (w : (Cond.stringLink own i text).before a0 Z = true) (wS : ∀ a ∈ Bundle.stringAtoms, a.before a0 Z = true)
    (eT : T.heap = h) {k0 : Nat} (hS : s.Since vm0 k0) (hk : k0 ≤ h.size) (hd : decode c.code pc = .ok (.ldc i, 2)) (n : Nat) (hn : 4 * text.toList.length ≤ n) (hbig : n ≤ 536870912) (hc : cells + 2 ≤ R.cells) (hl : slots + (n + 4) ≤ R.slots)
    (k : ∀ (a : Addr) (T' : State) (h' : Heap) (k1 : Nat), Stand p l e R (s.setVm T'.vm) m args below meth c T' locs (cells + 2) (slots + (n + 4)) → T'.heap = h' → Ext h h' → s.Since T'.vm k1 → k1 ≤ h'.size → Z.Warmed39 (s.setVm T'.vm).vm → (s.setVm T'.vm).vm.findClass own = some m.cls → Go p e below P (T'.setTop (mkF m (pc + 2) L (.ref a :: st)))) : Go p e below P (T.setTop (mkF m pc L st)) := by
  obtain ⟨a, T', h', k1, X', e', E, hS', hk', hZ', hown', q⟩ := ldcS X hx hZ hown w wS eT hS hk (g := mkF m pc L st) rfl hd hn hbig hc hl
  exact Go.via q (k a T' h' k1 X' e' E hS' hk' hZ' hown')
theorem ireturnW {vm0 : Vm} (X : Stand p l e R (s.setVm vm0) m args below meth c T locs cells slots) (hx : p.tables.exec = Jvm.exec) (hk : meth.locks = false) {Q : Option Value → Heap → List Loc → Prop} {k n : Nat} {t : FieldType} {z : Int32} (hret : meth.sig.returnType = some t) (ht : t = .int ∨ t = .boolean ∨ t = .byte ∨ t = .char ∨ t = .short) (hnr : narrow t (.int z) = .int z) (hd : decode c.code pc = .ok (.ireturn, 1)) (eT : T.heap = h) {k0 : Nat} (hS : s.Since vm0 k0) (hk0 : k0 ≤ h.size) (hQ : Q (some (.int z)) h locs) (hc : cells ≤ k) (hn : slots ≤ n) : Go p e below (FiniW s Q k n) (T.setTop (mkF m pc L (.int z :: rest))) := by
  obtain ⟨fs, hr, hrun, hended, hW⟩ := X.leaveW hS (by rw [eT]; exact hk0) (v := some (.int z)) (fun q => by rw [hret] at q; cases q) hk
  exact ⟨_, _, retOut X hx hret hnr (Or.inl ⟨rfl, ht, z, rfl⟩) hd hr, hrun, hended, _, _, rfl, by show Q (some (.int z)) T.heap locs; rw [eT]; exact hQ, hW.1, hW.2.1, hW.2.2.1, hW.2.2.2.mono hc hn⟩
/-! fields, objects -/
theorem getfield (X : Stand p l e R s m args below meth c T locs cells slots) (hx : p.tables.exec = Jvm.exec) (hZ : Z.Warmed39 s.vm) {own R0 O n d host : String} {i : Nat} (hown : s.vm.findClass own = some m.cls) (w : (Cond.fieldLink own i R0 n d).before a0 Z = true ∨ (Cond.fieldLinkNest own i R0 n d host).before a0 Z = true) (via : Via Z R0 O n d)
    (eT : T.heap = h) {a : Addr} {v : Value} (F : Fld Z h a O n d v) (hd : decode c.code pc = .ok (.getfield i, 3)) (k : ∀ T', Stand p l e R s m args below meth c T' locs cells slots → T'.heap = h → Go p e below P (T'.setTop (mkF m (pc + 3) L (v :: st)))) : Go p e below P (T.setTop (mkF m pc L (.ref a :: st))) := by
  obtain ⟨T', X', e', q⟩ := getF X hx hZ hown w via eT F (g := mkF m pc L (.ref a :: st)) rfl rfl hd
  exact Go.via q (k T' X' e')
theorem putfield (X : Stand p l e R s m args below meth c T locs cells slots) (hx : p.tables.exec = Jvm.exec) (hZ : Z.Warmed39 s.vm) {own R0 O n d host C : String} {i kk : Nat} {ty : FieldType} (hown : s.vm.findClass own = some m.cls) (w : (Cond.fieldLink own i R0 n d).before a0 Z = true ∨ (Cond.fieldLinkNest own i R0 n d host).before a0 Z = true) (via : Via Z R0 O n d)
    (eT : T.heap = h) {a : Addr} {v old : Value} (F : Fld Z h a O n d old) (E : Exa Z h a C) (Ly : (Cond.lays C O n d).before a0 Z = true ∨ ((Cond.laysFinal C O n d).before a0 Z = true ∧ own = O ∧ meth.name = "<init>")) (wi : (Cond.instantiable C kk).before a0 Z = true)
    (hty : parseFieldDescriptor d = some ty) (hn : narrow ty v = v) (hf : fits ty v = true) {n0 : Nat} (N : Fr n0 locs) (ga : n0 ≤ a) (hd : decode c.code pc = .ok (.putfield i, 3))
    (k : ∀ T' h', Stand p l e R s m args below meth c T' (locs ++ [⟨a, Jvm.RoadKit.slotOf Z O n d⟩]) cells slots → T'.heap = h' → Wr h h' a (Jvm.RoadKit.slotOf Z O n d) v → Fr n0 (locs ++ [⟨a, Jvm.RoadKit.slotOf Z O n d⟩]) → Fld Z h' a O n d v → Go p e below P (T'.setTop (mkF m (pc + 3) L st))) : Go p e below P (T.setTop (mkF m pc L (v :: .ref a :: st))) := by
  obtain ⟨T', h', X', e', W, q⟩ := putF X hx hZ hown w via eT F E Ly wi hty hn hf (g := mkF m pc L (v :: .ref a :: st)) rfl rfl hd
  exact Go.via q (k T' h' X' e' W (Fr.snoc X' N ga) (F.same W))
theorem putfieldN (X : Stand p l e R s m args below meth c T locs cells slots) (hx : p.tables.exec = Jvm.exec) (hZ : Z.Warmed39 s.vm) {own R0 O n d C : String} {i kk : Nat} {ty : FieldType} (hown : s.vm.findClass own = some m.cls) (w : (Cond.fieldLink own i R0 n d).before a0 Z = true) (via : Via Z R0 O n d)
    (eT : T.heap = h) {a : Addr} {v v' old : Value} (F : Fld Z h a O n d old) (E : Exa Z h a C) (Ly : (Cond.lays C O n d).before a0 Z = true ∨ ((Cond.laysFinal C O n d).before a0 Z = true ∧ own = O ∧ meth.name = "<init>")) (wi : (Cond.instantiable C kk).before a0 Z = true)
    (hty : parseFieldDescriptor d = some ty) (hn : narrow ty v = v') (hf : fits ty v' = true) {n0 : Nat} (N : Fr n0 locs) (ga : n0 ≤ a) (hd : decode c.code pc = .ok (.putfield i, 3))
    (k : ∀ T' h', Stand p l e R s m args below meth c T' (locs ++ [⟨a, Jvm.RoadKit.slotOf Z O n d⟩]) cells slots → T'.heap = h' → Wr h h' a (Jvm.RoadKit.slotOf Z O n d) v' → Fr n0 (locs ++ [⟨a, Jvm.RoadKit.slotOf Z O n d⟩]) → Fld Z h' a O n d v' → Go p e below P (T'.setTop (mkF m (pc + 3) L st))) : Go p e below P (T.setTop (mkF m pc L (v :: .ref a :: st))) := by
  obtain ⟨T', h', X', e', W, q⟩ := putFN X hx hZ hown w via eT F E Ly wi hty hn hf (g := mkF m pc L (v :: .ref a :: st)) rfl rfl hd
  exact Go.via q (k T' h' X' e' W (Fr.snoc X' N ga) (F.same W))
theorem newobj (X : Stand p l e R s m args below meth c T locs cells slots) (hx : p.tables.exec = Jvm.exec) (hZ : Z.Warmed39 s.vm) {own C : String} {i n : Nat} (hown : s.vm.findClass own = some m.cls) (w : (Cond.classLink own i C).before a0 Z = true) (wi : (Cond.instantiable C n).before a0 Z = true) (wz : (Cond.initialized C).before a0 Z = true) (eT : T.heap = h)
    (hd : decode c.code pc = .ok (.new i, 3)) (hc : cells + 1 ≤ R.cells) (hl : slots + n ≤ R.slots)
    (k : ∀ T' h' b, b = h.size → Stand p l e R s m args below meth c T' locs (cells + 1) (slots + n) → T'.heap = h' → Ext h h' → Exa Z h' b C → (∀ {O nm d : String} {ty : FieldType}, Laid Z a0 C O nm d → parseFieldDescriptor d = some ty → Fld Z h' b O nm d (defaultValue ty)) → Go p e below P (T'.setTop (mkF m (pc + 3) L (.ref b :: st)))) : Go p e below P (T.setTop (mkF m pc L st)) := by
  obtain ⟨T', h', X', e', E, A, D, -, q⟩ := newO X hx hZ hown w wi wz eT (g := mkF m pc L st) rfl hd hc hl
  exact Go.via q (k T' h' h.size rfl X' e' E A D)
theorem initObj (X : Stand p l e R s m args below meth c T locs cells slots) (hx : p.tables.exec = Jvm.exec) (hZ : Z.Warmed39 s.vm) {own : String} {i : Nat} (hown : s.vm.findClass own = some m.cls) (w1 : (Cond.methodLink own i Lib.objectInit).before a0 Z = true) (w2 : (Cond.instanceMethod Lib.objectInit).before a0 Z = true)
    (w3 : (Cond.code Lib.objectInit ⟨#[0xb1]⟩ 1 none).before a0 Z = true) (eT : T.heap = h) (hsize : L.size = c.maxLocals) {a : Addr} (hd : decode c.code pc = .ok (.invokespecial i, 3)) (hf : 1 ≤ R.frames) (W : Nat) (hW : (st.map fun v => v.category).sum ≤ W) (hl : W + 12 ≤ R.locals)
    (k : ∀ T', Stand p l e R s m args below meth c T' locs cells slots → T'.heap = h → Go p e below P (T'.setTop (mkF m (pc + 3) L st))) : Go p e below P (T.setTop (mkF m pc L (.ref a :: st))) := by
  obtain ⟨T', X', e', q⟩ := initO X hx hZ hown w1 w2 w3 eT (g := mkF m pc L (.ref a :: st)) rfl hsize rfl hd hf (W := W) (by show 2 * 0 + _ ≤ _; omega) hl
  exact Go.via q (k T' X' e')
/-! arrays -/
/-- the array at a holds just these values -/
def VArr (Z : State) (h : Heap) (a : Addr) (ty : FieldType) (vs : List Value) : Prop := ∃ c : Cell, Arr Z h a c ty ∧ c.slots = vs.toArray ∧ vs.length < 2 ^ 31
section VA
variable {h' : Heap} {a b : Addr} {ty : FieldType} {vs : List Value} {sl : Nat} {v : Value} {ws : List Addr}
theorem VArr.lt (F : VArr Z h a ty vs) : a < h.size := by obtain ⟨c, A, -⟩ := F; exact A.lt
theorem VArr.ext (F : VArr Z h a ty vs) (E : Ext h h') : VArr Z h' a ty vs := by obtain ⟨c, A, r⟩ := F; exact ⟨c, A.ext E, r⟩
theorem VArr.other (F : VArr Z h b ty vs) (W : Wr h h' a sl v) (q : b ≠ a) : VArr Z h' b ty vs := by obtain ⟨c, A, r⟩ := F; exact ⟨c, A.other W q, r⟩
theorem VArr.keep (F : VArr Z h a ty vs) (K : Keep h h' ws) (q : a ∉ ws) : VArr Z h' a ty vs := by obtain ⟨c, A, r⟩ := F; exact ⟨c, ⟨K.2.1 a c A.1 q, A.2⟩, r⟩
theorem VArr.same (F : VArr Z h a ty vs) (W : Wr h h' a sl v) : VArr Z h' a ty (vs.set sl v) := by
  obtain ⟨c, A, r1, r2⟩ := F
  refine ⟨c.setSlot sl v, A.same W, ?_, by simpa using r2⟩
  simp [Cell.setSlot, r1]
theorem neVE {C : String} {kk : Nat} (F : VArr Z h a ty vs) (E : Exa Z h b C) (wi : (Cond.instantiable C kk).before a0 Z = true) : a ≠ b := by
  obtain ⟨c, A, -⟩ := F
  exact (ne_arr E wi A).symm
end VA
theorem in_of {vs : List Value} {v : Value} {i : Nat} {j : Int32} {c : Cell} (hn : ¬ j < 0) (hi : j.toNatClampNeg = i) (hv : vs[i]? = some v) (r : c.slots = vs.toArray) : ¬ (j < 0 ∨ c.slots.size ≤ j.toNatClampNeg) ∧ c.slots[j.toNatClampNeg]? = some v := by
  have hlt : i < vs.length := by
    obtain ⟨q, -⟩ := List.getElem?_eq_some_iff.mp hv
    exact q
  refine ⟨fun q => ?_, ?_⟩
  · rcases q with q | q
    · exact hn q
    · rw [r, hi] at q; simp at q; omega
  · rw [hi, r]; simpa using hv
theorem in_of' {vs : List Value} {i : Nat} {j : Int32} {c : Cell} (hn : ¬ j < 0) (hi : j.toNatClampNeg = i) (hv : i < vs.length) (r : c.slots = vs.toArray) : ¬ (j < 0 ∨ c.slots.size ≤ j.toNatClampNeg) := by
  intro q
  rcases q with q | q
  · exact hn q
  · rw [r, hi] at q; simp at q; omega
theorem alen (X : Stand p l e R s m args below meth c T locs cells slots) (hx : p.tables.exec = Jvm.exec) (hZ : Z.Warmed39 s.vm) (eT : T.heap = h) {a : Addr} {ty : FieldType} {vs : List Value} (V : VArr Z h a ty vs) (n : Int32) (hn : vs.length.toInt32 = n) (hd : decode c.code pc = .ok (.arraylength, 1)) (k : Go p e below P (T.setTop (mkF m (pc + 1) L (.int n :: st)))) : Go p e below P (T.setTop (mkF m pc L (.ref a :: st))) := by
  obtain ⟨cl, A, r1, -⟩ := V
  have q : cl.slots.size.toInt32 = n := by rw [r1]; simpa using hn
  exact Go.via (fun t w => X.arraylength hx (cell := cl) (by rw [eT]; exact A.1) (State.isArrayOf_alike hZ.alike A.2.1) (g := mkF m pc L (.ref a :: st)) rfl rfl hd t (by rw [q]; exact w)) k
theorem iaload (X : Stand p l e R s m args below meth c T locs cells slots) (hx : p.tables.exec = Jvm.exec) (hZ : Z.Warmed39 s.vm) (eT : T.heap = h) {a : Addr} {vs : List Value} (V : VArr Z h a .int vs) {j : Int32} {v : Value} (i : Nat) (hn : ¬ j < 0) (hi : j.toNatClampNeg = i) (hv : vs[i]? = some v) (hd : decode c.code pc = .ok (.iaload, 1)) (k : Go p e below P (T.setTop (mkF m (pc + 1) L (v :: st)))) : Go p e below P (T.setTop (mkF m pc L (.int j :: .ref a :: st))) := by
  obtain ⟨cl, A, r1, -⟩ := V
  obtain ⟨q1, q2⟩ := in_of hn hi hv r1
  exact Go.via (fun t w => X.iaload hx (by rw [eT]; exact A.1) (State.isArrayOf_alike hZ.alike A.2.1) A.2.2 q1 q2 (g := mkF m pc L (.int j :: .ref a :: st)) rfl rfl hd t w) k
theorem laload (X : Stand p l e R s m args below meth c T locs cells slots) (hx : p.tables.exec = Jvm.exec) (hZ : Z.Warmed39 s.vm) (eT : T.heap = h) {a : Addr} {vs : List Value} (V : VArr Z h a .long vs) {j : Int32} {v : Value} (i : Nat) (hn : ¬ j < 0) (hi : j.toNatClampNeg = i) (hv : vs[i]? = some v) (hd : decode c.code pc = .ok (.laload, 1)) (k : Go p e below P (T.setTop (mkF m (pc + 1) L (v :: st)))) : Go p e below P (T.setTop (mkF m pc L (.int j :: .ref a :: st))) := by
  obtain ⟨cl, A, r1, -⟩ := V
  obtain ⟨q1, q2⟩ := in_of hn hi hv r1
  exact Go.via (fun t w => X.laload hx (by rw [eT]; exact A.1) (State.isArrayOf_alike hZ.alike A.2.1) A.2.2 q1 q2 (g := mkF m pc L (.int j :: .ref a :: st)) rfl rfl hd t w) k
theorem baload (X : Stand p l e R s m args below meth c T locs cells slots) (hx : p.tables.exec = Jvm.exec) (hZ : Z.Warmed39 s.vm) (eT : T.heap = h) {a : Addr} {vs : List Value} (V : VArr Z h a .byte vs) {j : Int32} {v : Value} (i : Nat) (hn : ¬ j < 0) (hi : j.toNatClampNeg = i) (hv : vs[i]? = some v) (hd : decode c.code pc = .ok (.baload, 1)) (k : Go p e below P (T.setTop (mkF m (pc + 1) L (v :: st)))) : Go p e below P (T.setTop (mkF m pc L (.int j :: .ref a :: st))) := by
  obtain ⟨cl, A, r1, -⟩ := V
  obtain ⟨q1, q2⟩ := in_of hn hi hv r1
  exact Go.via (fun t w => X.baloadBytes hx (by rw [eT]; exact A.1) (State.isArrayOf_alike hZ.alike A.2.1) A.2.2 q1 q2 (g := mkF m pc L (.int j :: .ref a :: st)) rfl rfl hd t w) k
theorem iastore (X : Stand p l e R s m args below meth c T locs cells slots) (hx : p.tables.exec = Jvm.exec) (hZ : Z.Warmed39 s.vm) (eT : T.heap = h) {a : Addr} {vs : List Value} (V : VArr Z h a .int vs) {j x : Int32} (i : Nat) (hn : ¬ j < 0) (hi : j.toNatClampNeg = i) (hv : i < vs.length) {n0 : Nat} (N : Fr n0 locs) (ga : n0 ≤ a) (hd : decode c.code pc = .ok (.iastore, 1))
    (k : ∀ T' h', Stand p l e R s m args below meth c T' (locs ++ [⟨a, i⟩]) cells slots → T'.heap = h' → Wr h h' a i (.int x) → Fr n0 (locs ++ [⟨a, i⟩]) → VArr Z h' a .int (vs.set i (.int x)) → Go p e below P (T'.setTop (mkF m (pc + 1) L st))) : Go p e below P (T.setTop (mkF m pc L (.int x :: .int j :: .ref a :: st))) := by
  have V0 := V
  obtain ⟨cl, A, r1, -⟩ := V
  obtain ⟨T', h', X', e', W, q⟩ := stI X hx hZ eT A (in_of' hn hi hv r1) (g := mkF m pc L (.int x :: .int j :: .ref a :: st)) rfl rfl hd
  rw [hi] at X' W
  exact Go.via q (k T' h' X' e' W (Fr.snoc X' N ga) (V0.same W))
theorem lastore (X : Stand p l e R s m args below meth c T locs cells slots) (hx : p.tables.exec = Jvm.exec) (hZ : Z.Warmed39 s.vm) (eT : T.heap = h) {a : Addr} {vs : List Value} (V : VArr Z h a .long vs) {j : Int32} {x : Int64} (i : Nat) (hn : ¬ j < 0) (hi : j.toNatClampNeg = i) (hv : i < vs.length) {n0 : Nat} (N : Fr n0 locs) (ga : n0 ≤ a) (hd : decode c.code pc = .ok (.lastore, 1))
    (k : ∀ T' h', Stand p l e R s m args below meth c T' (locs ++ [⟨a, i⟩]) cells slots → T'.heap = h' → Wr h h' a i (.long x) → Fr n0 (locs ++ [⟨a, i⟩]) → VArr Z h' a .long (vs.set i (.long x)) → Go p e below P (T'.setTop (mkF m (pc + 1) L st))) : Go p e below P (T.setTop (mkF m pc L (.long x :: .int j :: .ref a :: st))) := by
  have V0 := V
  obtain ⟨cl, A, r1, -⟩ := V
  obtain ⟨T', h', X', e', W, q⟩ := stJ X hx hZ eT A (in_of' hn hi hv r1) (g := mkF m pc L (.long x :: .int j :: .ref a :: st)) rfl rfl hd
  rw [hi] at X' W
  exact Go.via q (k T' h' X' e' W (Fr.snoc X' N ga) (V0.same W))
theorem bastore (X : Stand p l e R s m args below meth c T locs cells slots) (hx : p.tables.exec = Jvm.exec) (hZ : Z.Warmed39 s.vm) (eT : T.heap = h) {a : Addr} {vs : List Value} (V : VArr Z h a .byte vs) {j x : Int32} (i : Nat) (hn : ¬ j < 0) (hi : j.toNatClampNeg = i) (hv : i < vs.length) {n0 : Nat} (N : Fr n0 locs) (ga : n0 ≤ a) (hd : decode c.code pc = .ok (.bastore, 1))
    (k : ∀ T' h', Stand p l e R s m args below meth c T' (locs ++ [⟨a, i⟩]) cells slots → T'.heap = h' → Wr h h' a i (.int x.toInt8.toInt32) → Fr n0 (locs ++ [⟨a, i⟩]) → VArr Z h' a .byte (vs.set i (.int x.toInt8.toInt32)) → Go p e below P (T'.setTop (mkF m (pc + 1) L st))) : Go p e below P (T.setTop (mkF m pc L (.int x :: .int j :: .ref a :: st))) := by
  have V0 := V
  obtain ⟨cl, A, r1, -⟩ := V
  obtain ⟨T', h', X', e', W, q⟩ := stB X hx hZ eT A (in_of' hn hi hv r1) (g := mkF m pc L (.int x :: .int j :: .ref a :: st)) rfl rfl hd
  rw [hi] at X' W
  exact Go.via q (k T' h' X' e' W (Fr.snoc X' N ga) (V0.same W))
theorem newarr (X : Stand p l e R s m args below meth c T locs cells slots) (hx : p.tables.exec = Jvm.exec) (hZ : Z.Warmed39 s.vm) {aty : ArrayType} (w : (Cond.arrayClass (newarray.typeOf aty)).before a0 Z = true) (eT : T.heap = h) (hd : decode c.code pc = .ok (.newarray aty, 2)) {n : Int32} (hn : ¬ n < 0) (i cap : Nat) (hi : n.toNatClampNeg = i) (hcap : i ≤ cap) (hb : cap * 8 ≤ 536870912) (hc : cells + 1 ≤ R.cells) (hl : slots + cap ≤ R.slots)
    (k : ∀ T' h' b, b = h.size → Stand p l e R s m args below meth c T' locs (cells + 1) (slots + cap) → T'.heap = h' → Ext h h' → VArr Z h' b (newarray.typeOf aty) (List.replicate i (defaultValue (newarray.typeOf aty))) → Go p e below P (T'.setTop (mkF m (pc + 2) L (.ref b :: st)))) : Go p e below P (T.setTop (mkF m pc L (.int n :: st))) := by
  obtain ⟨T', h', cA, X', e', E, A, q⟩ := newP X hx hZ w eT (g := mkF m pc L (.int n :: st)) rfl hd rfl hn (cap := cap) (by rw [hi]; exact hcap) hb hc hl
  refine Go.via q (k T' h' h.size rfl X' e' E ⟨_, A, ?_, ?_⟩)
  · simp [newA, hi]
  · simp; omega
/-! calls -/
theorem callStatic (X : Stand p l e R s m args below meth c T locs cells slots) (hx : p.tables.exec = Jvm.exec) (hZ : Z.Warmed39 s.vm) {own : String} {i : Nat} {y : MethodName} {bytes : ByteArray} {maxL : Nat} {ret : Option FieldType} {rm : Room} {Q : Option Value → Heap → List Loc → Prop}
    (hown : s.vm.findClass own = some m.cls) (w1 : (Cond.methodLink own i y).before a0 Z = true) (w2 : (Cond.static y).before a0 Z = true) (w3 : (Cond.initialized y.cls).before a0 Z = true) (w4 : (Cond.code y bytes maxL ret).before a0 Z = true) (hy : y.cls ≠ "java/lang/invoke/MethodHandle" ∧ y.cls ≠ "java/lang/invoke/VarHandle")
    (W : Nat) (argsL rest : List Value) (hM : Ct l y bytes maxL ret [] rm Z argsL.toArray h Q) (hf : rm.frames + 1 ≤ R.frames) (hl : W + (maxL + 11) + rm.locals ≤ R.locals) (eT : T.heap = h) (hsize : L.size = c.maxLocals) {ps : List FieldType} {rt : Option FieldType} (pd : parseMethodDescriptor y.desc = some ⟨ps, rt⟩) (hlen : argsL.length = ps.length) (hst : st = argsL.reverse ++ rest) (hW : (rest.map fun v => v.category).sum ≤ W)
    (hd : decode c.code pc = .ok (.invokestatic i, 3)) (hc : cells + rm.cells ≤ R.cells) (hn : slots + rm.slots ≤ R.slots)
    (k : ∀ T' L' v, Stand p l e R s m args below meth c T' (locs ++ L') (cells + rm.cells) (slots + rm.slots) → Q v T'.heap L' → Go p e below P (T'.setTop (mkF m (pc + 3) L (v.toList ++ rest)))) : Go p e below P (T.setTop (mkF m pc L st)) := by
  obtain ⟨v, _, ⟨T', L', k', n'⟩, -, X', ⟨Lc, hQ, l1, y1, z1⟩, q⟩ := Jvm.LawKit.callS X hx (y := y) hown (mvT hZ w1) (mvT hZ w2) (mvT hZ w3) (mvT hZ w4) hy (backOf (W := W) hM hZ w4 w3 hf hl) (g := mkF m pc L st) rfl hsize (argsL := argsL) (rest := rest) (lenOf pd hlen) hst (by show 2 * 0 + _ ≤ _; omega) hd (fun _ _ => ⟨rfl, eT, hc, hn⟩)
  dsimp only [Pt.U, Pt.locs, Pt.cells, Pt.slots] at X' l1 y1 z1 q hQ
  subst l1 y1 z1
  exact Go.via q (k T' Lc v X' hQ)
theorem callSpecial (X : Stand p l e R s m args below meth c T locs cells slots) (hx : p.tables.exec = Jvm.exec) (hZ : Z.Warmed39 s.vm) {own : String} {i : Nat} {y : MethodName} {bytes : ByteArray} {maxL : Nat} {rm : Room} {Q : Option Value → Heap → List Loc → Prop} (hy1 : y.name = "<init>")
    (hown : s.vm.findClass own = some m.cls) (w1 : (Cond.methodLink own i y).before a0 Z = true) (w2 : (Cond.instanceMethod y).before a0 Z = true) (w3 : (Cond.initialized y.cls).before a0 Z = true) (w4 : (Cond.code y bytes maxL none).before a0 Z = true) (hy : y.cls ≠ "java/lang/invoke/MethodHandle" ∧ y.cls ≠ "java/lang/invoke/VarHandle")
    (W : Nat) (a : Addr) (argsL rest : List Value) (hM : Ct l y bytes maxL none [] rm Z (.ref a :: argsL).toArray h Q) (hf : rm.frames + 1 ≤ R.frames) (hl : W + (maxL + 11) + rm.locals ≤ R.locals) (eT : T.heap = h) (hsize : L.size = c.maxLocals) {ps : List FieldType} {rt : Option FieldType} (pd : parseMethodDescriptor y.desc = some ⟨ps, rt⟩) (hlen : argsL.length = ps.length) (hst : st = argsL.reverse ++ .ref a :: rest) (hW : (rest.map fun v => v.category).sum ≤ W)
    (hd : decode c.code pc = .ok (.invokespecial i, 3)) (hc : cells + rm.cells ≤ R.cells) (hn : slots + rm.slots ≤ R.slots)
    (k : ∀ T' L' v, Stand p l e R s m args below meth c T' (locs ++ L') (cells + rm.cells) (slots + rm.slots) → Q v T'.heap L' → Go p e below P (T'.setTop (mkF m (pc + 3) L (v.toList ++ rest)))) : Go p e below P (T.setTop (mkF m pc L st)) := by
  obtain ⟨v, _, ⟨T', L', k', n'⟩, -, X', ⟨Lc, hQ, l1, y1, z1⟩, q⟩ := X.specialBack hx (y := y) hy1 hown (mvT hZ w1) (mvT hZ w2) (mvT hZ w4) hy (backOf (W := W) hM hZ w4 w3 hf hl) (g := mkF m pc L st) rfl hsize (Steps.refl _) (a := a) (argsL := argsL) (rest := rest) (lenOf pd hlen) hst (by show 2 * 0 + _ ≤ _; omega) hd (fun _ _ => ⟨rfl, eT, hc, hn⟩)
  dsimp only [Pt.U, Pt.locs, Pt.cells, Pt.slots] at X' l1 y1 z1 q hQ
  subst l1 y1 z1
  exact Go.tr q (k T' Lc v X' hQ)
theorem callVirtual (X : Stand p l e R s m args below meth c T locs cells slots) (hx : p.tables.exec = Jvm.exec) (hZ : Z.Warmed39 s.vm) {own C : String} {i : Nat} {y z : MethodName} {bytes : ByteArray} {maxL : Nat} {ret : Option FieldType} {rm : Room} {Q : Option Value → Heap → List Loc → Prop}
    (hown : s.vm.findClass own = some m.cls) (w1 : (Cond.methodLink own i y).before a0 Z = true) (w2 : (Cond.declares y).before a0 Z = true) (w3 : (Cond.selects C y z).before a0 Z = true) (w5 : (Cond.instanceMethod z).before a0 Z = true) (w6 : (Cond.initialized z.cls).before a0 Z = true) (w4 : (Cond.code z bytes maxL ret).before a0 Z = true) (w7 : (Cond.selects y.cls y y).before a0 Z = true) (hy : y.cls ≠ "java/lang/invoke/MethodHandle" ∧ y.cls ≠ "java/lang/invoke/VarHandle")
    (W : Nat) (a : Addr) (argsL rest : List Value) (E : Exa Z h a C) (hM : Ct l z bytes maxL ret [] rm Z (.ref a :: argsL).toArray h Q) (hf : rm.frames + 1 ≤ R.frames) (hl : W + (maxL + 11) + rm.locals ≤ R.locals) (eT : T.heap = h) (hsize : L.size = c.maxLocals) {ps : List FieldType} {rt : Option FieldType} (pd : parseMethodDescriptor y.desc = some ⟨ps, rt⟩) (hlen : argsL.length = ps.length) (hst : st = argsL.reverse ++ .ref a :: rest) (hW : (rest.map fun v => v.category).sum ≤ W)
    (hd : decode c.code pc = .ok (.invokevirtual i, 3)) (hc : cells + rm.cells ≤ R.cells) (hn : slots + rm.slots ≤ R.slots)
    (k : ∀ T' L' v, Stand p l e R s m args below meth c T' (locs ++ L') (cells + rm.cells) (slots + rm.slots) → Q v T'.heap L' → Go p e below P (T'.setTop (mkF m (pc + 3) L (v.toList ++ rest)))) : Go p e below P (T.setTop (mkF m pc L st)) := by
  obtain ⟨cq, kq, qa, qb, qc⟩ := isOf hZ eT E
  obtain ⟨v, _, ⟨T', L', k', n'⟩, -, X', ⟨Lc, hQ, l1, y1, z1⟩, q⟩ := X.virtualBack hx (y := y) (z := z) hown (mvT hZ w1) (mvT hZ w2) (notFace_of_selects (args := #[]) (mvT hZ w7)) (mvT hZ w3) (mvT hZ w5) hy (backOf (W := W) hM hZ w4 w6 hf hl) qa qc (g := mkF m pc L st) rfl hsize (Steps.refl _) (argsL := argsL) (rest := rest) (lenOf pd hlen) hst (by show 2 * 0 + _ ≤ _; omega) hd (fun _ _ => ⟨rfl, eT, hc, hn⟩)
  dsimp only [Pt.U, Pt.locs, Pt.cells, Pt.slots] at X' l1 y1 z1 q hQ
  subst l1 y1 z1
  exact Go.tr q (k T' Lc v X' hQ)
theorem callPrivate (X : Stand p l e R s m args below meth c T locs cells slots) (hx : p.tables.exec = Jvm.exec) (hZ : Z.Warmed39 s.vm) {own C : String} {i kk : Nat} {y : MethodName} {bytes : ByteArray} {maxL : Nat} {ret : Option FieldType} {rm : Room} {Q : Option Value → Heap → List Loc → Prop}
    (hown : s.vm.findClass own = some m.cls) (w1 : (Cond.methodLink own i y).before a0 Z = true) (w2 : (Cond.instanceMethod y).before a0 Z = true) (w3 : (Cond.privateMethod y).before a0 Z = true) (w5 : (Cond.instantiable y.cls kk).before a0 Z = true) (w6 : (Cond.initialized y.cls).before a0 Z = true) (w4 : (Cond.code y bytes maxL ret).before a0 Z = true) (hy : y.cls ≠ "java/lang/invoke/MethodHandle" ∧ y.cls ≠ "java/lang/invoke/VarHandle")
    (W : Nat) (a : Addr) (argsL rest : List Value) (E : Exa Z h a C) (hM : Ct l y bytes maxL ret [] rm Z (.ref a :: argsL).toArray h Q) (hf : rm.frames + 1 ≤ R.frames) (hl : W + (maxL + 11) + rm.locals ≤ R.locals) (eT : T.heap = h) (hsize : L.size = c.maxLocals) {ps : List FieldType} {rt : Option FieldType} (pd : parseMethodDescriptor y.desc = some ⟨ps, rt⟩) (hlen : argsL.length = ps.length) (hst : st = argsL.reverse ++ .ref a :: rest) (hW : (rest.map fun v => v.category).sum ≤ W)
    (hd : decode c.code pc = .ok (.invokevirtual i, 3)) (hc : cells + rm.cells ≤ R.cells) (hn : slots + rm.slots ≤ R.slots)
    (k : ∀ T' L' v, Stand p l e R s m args below meth c T' (locs ++ L') (cells + rm.cells) (slots + rm.slots) → Q v T'.heap L' → Go p e below P (T'.setTop (mkF m (pc + 3) L (v.toList ++ rest)))) : Go p e below P (T.setTop (mkF m pc L st)) := by
  have hP : s.PrivateAt y := Cond.privateMethod_at (args := #[]) (mvP hZ w3)
  have hsel : (Cond.selects y.cls y y).before args s = true := by
    have q : (Cond.instantiable y.cls kk).before args s = true := mvT hZ w5
    obtain ⟨c2, k2, i1, i2, -, i4, -⟩ := Cond.instantiable_spec q
    rw [Bool.or_eq_false_iff] at i4
    exact selects_self_of_private i1 i2 i4.1 hP (mvT hZ w2) hy
  obtain ⟨ce, he1, he2⟩ := E.cell
  obtain ⟨v, _, ⟨T', L', k', n'⟩, -, X', ⟨Lc, hQ, l1, y1, z1⟩, q⟩ := X.privateBack hx (y := y) hown (mvT hZ w1) (mvT hZ w2) hsel hP (mvT hZ w4) hy (backOf (W := W) hM hZ w4 w6 hf hl) (g := mkF m pc L st) rfl hsize (Steps.refl _) (a := a) (cell := ce) (by rw [eT]; exact he1) he2 (argsL := argsL) (rest := rest) (lenOf pd hlen) hst (by show 2 * 0 + _ ≤ _; omega) hd (fun _ _ => ⟨rfl, eT, hc, hn⟩)
  dsimp only [Pt.U, Pt.locs, Pt.cells, Pt.slots] at X' l1 y1 z1 q hQ
  subst l1 y1 z1
  exact Go.tr q (k T' Lc v X' hQ)
theorem getstatic (X : Stand p l e R s m args below meth c T locs cells slots) (hx : p.tables.exec = Jvm.exec) (hZ : Z.Warmed39 s.vm) {own R0 O n d : String} {i : Nat} (hown : s.vm.findClass own = some m.cls) (w : (Cond.fieldLink own i R0 n d).before a0 Z = true) (via : Via Z R0 O n d)
    (eT : T.heap = h) {v : Value} (F : Sta Z h O n d v) (hd : decode c.code pc = .ok (.getstatic i, 3)) (k : ∀ T', Stand p l e R s m args below meth c T' locs cells slots → T'.heap = h → Go p e below P (T'.setTop (mkF m (pc + 3) L (v :: st)))) : Go p e below P (T.setTop (mkF m pc L st)) := by
  obtain ⟨T', X', e', q⟩ := getS X hx hZ (host := "") hown w via eT F (g := mkF m pc L st) rfl hd
  exact Go.via q (k T' X' e')
theorem ldcFloat (X : Stand p l e R s m args below meth c T locs cells slots) (hx : p.tables.exec = Jvm.exec) (hZ : Z.Warmed39 s.vm) {own : String} {i : Nat} {b : UInt32} (hown : s.vm.findClass own = some m.cls) (w : (Cond.constantFloat own i b).before a0 Z = true) (hd : decode c.code pc = .ok (.ldc i, 2)) (k : Go p e below P (T.setTop (mkF m (pc + 2) L (.float b :: st)))) : Go p e below P (T.setTop (mkF m pc L st)) := Go.via (fun t q => X.ldcFloatC hx hown (mvT hZ w) (g := mkF m pc L st) rfl hd t q) k
theorem staKeep {O n d C : String} {v : Value} {h' : Heap} {a : Addr} (F : Sta Z h O n d v) (K : Keep h h' [a]) (E : Exa Z h a C) : Sta Z h' O n d v := by
  obtain ⟨cf, i, k, f, st, cell, h1, h2, h3, h4, h5, h6, h7⟩ := F
  obtain ⟨c2, k2, e1, -, -, e4, -⟩ := E
  have ne : st ∉ [a] := fun q => by
    cases List.mem_singleton.mp q
    cases h5.symm.trans e1
    rw [h6] at e4; cases e4
  exact ⟨cf, i, k, f, st, cell, h1, h2, h3, h4, K.2.1 _ _ h5 ne, h6, h7⟩
end Walk
end Jvm.Own
namespace Jvm.Pilot.@@N@@
open Jvm Jvm.ClassFile Sem Op Lib Jvm.Free Jvm.Stand Jvm.LawKit Jvm.RoadKit Bundle Jvm.Pilot.@@N@@.Jvm.D
theorem Wd {a0 : Array Value} {Z : State} (hw : ∀ d ∈ tables_1, d.before a0 Z = true) (i : Nat) {d : Jvm.Cond} (h : tables_1[i]? = some d) : d.before a0 Z = true := hw _ (List.mem_of_getElem? h)

def own_tl : List Value := List.replicate 60 (.int (0 : Int32))
theorem own_nn {x : Int32} (h : 0 ≤ x.toInt) : ¬ x < 0 := fun q => by
  have := Int32.lt_iff_toInt_lt.mp q
  have h0 : (0 : Int32).toInt = 0 := by decide
  omega
theorem own_rem (x d : Int32) (D : Int) (h : d.toInt = D) (hD : 0 < D) : 0 ≤ ((x &&& (2147483647 : Int32)) % d).toInt ∧ ((x &&& (2147483647 : Int32)) % d).toInt < D := by
  have b := (c_and x (2147483647 : Int32) (by decide)).1
  have c := (c_iremV (x &&& (2147483647 : Int32)) d).1 b (by omega)
  omega
theorem own_c1 (a : Int32) {x : Int32} (e : (a &&& (2147483647 : Int32)) % (1 : Int32) = x) : x = 0 := by
  have h := own_rem a 1 1 (by decide) (by decide)
  rw [e] at h
  exact Int32.toInt_inj.mp (show x.toInt = 0 by omega)
theorem own_c2 (a : Int32) {x : Int32} (e : (a &&& (2147483647 : Int32)) % (2 : Int32) = x) : x = 0 ∨ x = 1 := by
  have h := own_rem a 2 2 (by decide) (by decide)
  rw [e] at h
  simp only [← Int32.toInt_inj]
  exact (show x.toInt = 0 ∨ x.toInt = 1 by omega)
theorem own_c3 (a : Int32) {x : Int32} (e : (a &&& (2147483647 : Int32)) % (3 : Int32) = x) : x = 0 ∨ x = 1 ∨ x = 2 := by
  have h := own_rem a 3 3 (by decide) (by decide)
  rw [e] at h
  simp only [← Int32.toInt_inj]
  exact (show x.toInt = 0 ∨ x.toInt = 1 ∨ x.toInt = 2 by omega)
theorem own_c4 (a : Int32) {x : Int32} (e : (a &&& (2147483647 : Int32)) % (4 : Int32) = x) : x = 0 ∨ x = 1 ∨ x = 2 ∨ x = 3 := by
  have h := own_rem a 4 4 (by decide) (by decide)
  rw [e] at h
  simp only [← Int32.toInt_inj]
  exact (show x.toInt = 0 ∨ x.toInt = 1 ∨ x.toInt = 2 ∨ x.toInt = 3 by omega)
theorem own_n (a : Int32) {x : Int32} (e : (1 : Int32) + ((a &&& (2147483647 : Int32)) % (3 : Int32)) = x) : x = 1 ∨ x = 2 ∨ x = 3 := by
  rcases own_c3 a rfl with q | q | q <;> rw [q] at e <;> subst e <;> decide
theorem d5_0 : decode jdk_22_method_1_code 0 = .ok (.aload_n 0, 1) := by decide +kernel
theorem d5_1 : decode jdk_22_method_1_code 1 = .ok (.invokespecial 1, 3) := by decide +kernel
theorem d5_4 : decode jdk_22_method_1_code 4 = .ok (.return_, 1) := by decide +kernel
theorem ef_rm5 (m : MethodId) (o : Addr) : entryFrame m #[(.ref o)] 1 = mkF m 0 #[.val (.ref o)] [] := by first | (simp [entryFrame, mkF, argsToLocals, Value.category]; done) | rfl
theorem pn0 : plainName "java/util/AbstractCollection" = true := by first | (simp [plainName, overriddenIn]; done) | decide +kernel
set_option maxRecDepth 65536 in
set_option maxHeartbeats 40000000 in
theorem rm5 (l : Launch) (Z : State) (a0 : Array Value) (hw : ∀ d ∈ tables_1, d.before a0 Z = true) (o : Addr) (h0 : Heap) (n0 : Nat) (Z0 : n0 ≤ h0.size) :
    Own.Ct l (⟨"java/util/AbstractCollection", "<init>", "()V"⟩ : MethodName) jdk_22_method_1_code 1 none [] ({ frames := 1, cells := 0, slots := 0, locals := 12 } : Room) Z #[(.ref o)] h0 (fun rV hP lC => rV = none ∧ Fr n0 lC ∧ hP = h0) := by
  refine Own.enter (plainFor_of_name pn0) ?_
  intro p e s m below meth cc s₁ hx hby hml hown hnm hret hk hZ X0 e0
  have N0 := Fr.nil n0
  refine Own.start (ef_rm5 m o) ?_
  refine Own.aloadN X0 hx (pc := 0) (hb hby d5_0) rfl rfl ?_
  refine Own.initObj X0 hx hZ (pc := 1) hown (Wd hw 27 rfl) (Wd hw 7 rfl) (Wd hw 8 rfl) e0 (by rw [hml]; rfl) (hb hby d5_1) (by decide) 0 (Nat.le_of_eq rfl) (by decide) ?_
  intro T1 X1 e1
  exact Own.vreturn X1 hx hk hret (hb hby d5_4) e1 ⟨rfl, N0, rfl⟩ (by decide) (by decide)
theorem d7_0 : decode jdk_71_method_1_code 0 = .ok (.aload_n 0, 1) := by decide +kernel
theorem d7_1 : decode jdk_71_method_1_code 1 = .ok (.invokespecial 1, 3) := by decide +kernel
theorem d7_4 : decode jdk_71_method_1_code 4 = .ok (.return_, 1) := by decide +kernel
theorem ef_rm7 (m : MethodId) (o : Addr) : entryFrame m #[(.ref o)] 1 = mkF m 0 #[.val (.ref o)] [] := by first | (simp [entryFrame, mkF, argsToLocals, Value.category]; done) | rfl
theorem pn1 : plainName "java/util/AbstractMap" = true := by first | (simp [plainName, overriddenIn]; done) | decide +kernel
set_option maxRecDepth 65536 in
set_option maxHeartbeats 40000000 in
theorem rm7 (l : Launch) (Z : State) (a0 : Array Value) (hw : ∀ d ∈ tables_1, d.before a0 Z = true) (o : Addr) (h0 : Heap) (n0 : Nat) (Z0 : n0 ≤ h0.size) :
    Own.Ct l (⟨"java/util/AbstractMap", "<init>", "()V"⟩ : MethodName) jdk_71_method_1_code 1 none [] ({ frames := 1, cells := 0, slots := 0, locals := 12 } : Room) Z #[(.ref o)] h0 (fun rV hP lC => rV = none ∧ Fr n0 lC ∧ hP = h0) := by
  refine Own.enter (plainFor_of_name pn1) ?_
  intro p e s m below meth cc s₁ hx hby hml hown hnm hret hk hZ X0 e0
  have N0 := Fr.nil n0
  refine Own.start (ef_rm7 m o) ?_
  refine Own.aloadN X0 hx (pc := 0) (hb hby d7_0) rfl rfl ?_
  refine Own.initObj X0 hx hZ (pc := 1) hown (Wd hw 47 rfl) (Wd hw 7 rfl) (Wd hw 8 rfl) e0 (by rw [hml]; rfl) (hb hby d7_1) (by decide) 0 (Nat.le_of_eq rfl) (by decide) ?_
  intro T1 X1 e1
  exact Own.vreturn X1 hx hk hret (hb hby d7_4) e1 ⟨rfl, N0, rfl⟩ (by decide) (by decide)
theorem d4_0 : decode jdk_39_method_1_code 0 = .ok (.aload_n 0, 1) := by decide +kernel
theorem pd2 : parseMethodDescriptor "()V" = some ⟨[], none⟩ := by decide +kernel
theorem d4_1 : decode jdk_39_method_1_code 1 = .ok (.invokespecial 1, 3) := by decide +kernel
theorem d4_4 : decode jdk_39_method_1_code 4 = .ok (.aload_n 0, 1) := by decide +kernel
theorem d4_5 : decode jdk_39_method_1_code 5 = .ok (.iconst 0, 1) := by decide +kernel
theorem d4_6 : decode jdk_39_method_1_code 6 = .ok (.putfield 7, 3) := by decide +kernel
theorem d4_9 : decode jdk_39_method_1_code 9 = .ok (.return_, 1) := by decide +kernel
theorem ef_rm4 (m : MethodId) (o : Addr) : entryFrame m #[(.ref o)] 1 = mkF m 0 #[.val (.ref o)] [] := by first | (simp [entryFrame, mkF, argsToLocals, Value.category]; done) | rfl
theorem pn3 : plainName "java/util/AbstractList" = true := by first | (simp [plainName, overriddenIn]; done) | decide +kernel
set_option maxRecDepth 65536 in
set_option maxHeartbeats 40000000 in
theorem rm4 (l : Launch) (Z : State) (a0 : Array Value) (hw : ∀ d ∈ tables_1, d.before a0 Z = true) (o : Addr) (h0 : Heap) (n0 : Nat) (Z0 : n0 ≤ h0.size) (E_o : Exa Z h0 o "java/util/ArrayList") (F_o_modCount : Fld Z h0 o "java/util/AbstractList" "modCount" "I" (.int (0 : Int32))) (F_o_elementData : Fld Z h0 o "java/util/ArrayList" "elementData" "[Ljava/lang/Object;" .null) (ge_o : n0 ≤ o) :
    Own.Ct l (⟨"java/util/AbstractList", "<init>", "()V"⟩ : MethodName) jdk_39_method_1_code 1 none [] ({ frames := 2, cells := 0, slots := 0, locals := 24 } : Room) Z #[(.ref o)] h0 (fun rV hP lC => rV = none ∧ Fr n0 lC ∧ Keep h0 hP [o] ∧ Fld Z hP o "java/util/ArrayList" "elementData" "[Ljava/lang/Object;" .null) := by
  refine Own.enter (plainFor_of_name pn3) ?_
  intro p e s m below meth cc s₁ hx hby hml hown hnm hret hk hZ X0 e0
  have N0 := Fr.nil n0
  refine Own.start (ef_rm4 m o) ?_
  have K : Keep h0 h0 [o] := Keep.refl _ _
  refine Own.aloadN X0 hx (pc := 0) (hb hby d4_0) rfl rfl ?_
  refine Own.callSpecial X0 hx hZ (pc := 1) (y := (⟨"java/util/AbstractCollection", "<init>", "()V"⟩ : MethodName)) rfl hown (Wd hw 21 rfl) (Wd hw 22 rfl) (Wd hw 25 rfl) (Wd hw 26 rfl) (by decide) 0 o [] [] (rm5 l Z a0 hw o h0 n0 Z0 ) (by decide) (by decide) e0 (by rw [hml]; rfl) pd2 rfl rfl (Nat.le_of_eq rfl) (hb hby d4_1) (by decide) (by decide) ?_
  intro T1 L1 v1 X1 hQ1
  obtain ⟨rfl, Nq1, e1⟩ := hQ1
  have N1 := Fr.app N0 Nq1
  show Own.Go p e below _ (T1.setTop (mkF m 4 #[.val (.ref o)] []))
  refine Own.aloadN X1 hx (pc := 4) (hb hby d4_4) rfl rfl ?_
  refine Own.iconst X1 hx (pc := 5) (0 : Int32) (hb hby d4_5) (by decide) ?_
  refine Own.putfield X1 hx hZ (pc := 6) hown (host := "") (Or.inl (Wd hw 28 rfl)) Via.refl e1 F_o_modCount E_o (Or.inl (Wd hw 29 rfl)) (Wd hw 10 rfl) (ty := .int) (by decide) rfl rfl N1 ge_o (hb hby d4_6) ?_
  intro T2 h2 X2 e2 W2 N2 F_o_modCount
  have sz2 : n0 ≤ h2.size := Nat.le_trans Z0 (Nat.le_of_eq (Wr.size W2).symm)
  have E_o := Exa.wr W2 E_o
  have F_o_elementData := Fld.other W2 F_o_elementData (Or.inr (slot_ne (Or.inl (Wd hw 32 rfl)) (Or.inl (Wd hw 29 rfl)) (by decide) (ht := (by decide : parseFieldDescriptor "[Ljava/lang/Object;" = some (.array (.object "java/lang/Object")))) (ht' := (by decide : parseFieldDescriptor "I" = some .int))))
  have K := K.wr W2 (Or.inl (by simp))
  exact Own.vreturn X2 hx hk hret (hb hby d4_9) e2 ⟨rfl, N2, K, F_o_elementData⟩ (by decide) (by decide)
theorem d3_0 : decode jdk_38_method_2_code 0 = .ok (.aload_n 0, 1) := by decide +kernel
theorem d3_1 : decode jdk_38_method_2_code 1 = .ok (.invokespecial 1, 3) := by decide +kernel
theorem d3_4 : decode jdk_38_method_2_code 4 = .ok (.aload_n 0, 1) := by decide +kernel
theorem d3_5 : decode jdk_38_method_2_code 5 = .ok (.getstatic 39, 3) := by decide +kernel
theorem d3_8 : decode jdk_38_method_2_code 8 = .ok (.putfield 9, 3) := by decide +kernel
theorem d3_11 : decode jdk_38_method_2_code 11 = .ok (.return_, 1) := by decide +kernel
theorem ef_rm3 (m : MethodId) (o : Addr) : entryFrame m #[(.ref o)] 1 = mkF m 0 #[.val (.ref o)] [] := by first | (simp [entryFrame, mkF, argsToLocals, Value.category]; done) | rfl
theorem pn4 : plainName "java/util/ArrayList" = true := by first | (simp [plainName, overriddenIn]; done) | decide +kernel
set_option maxRecDepth 65536 in
set_option maxHeartbeats 40000000 in
theorem rm3 (l : Launch) (Z : State) (a0 : Array Value) (hw : ∀ d ∈ tables_1, d.before a0 Z = true) (o : Addr) (sa : Addr) (h0 : Heap) (n0 : Nat) (Z0 : n0 ≤ h0.size) (E_o : Exa Z h0 o "java/util/ArrayList") (F_o_modCount : Fld Z h0 o "java/util/AbstractList" "modCount" "I" (.int (0 : Int32))) (F_o_elementData : Fld Z h0 o "java/util/ArrayList" "elementData" "[Ljava/lang/Object;" .null) (S_dce : Sta Z h0 "java/util/ArrayList" "DEFAULTCAPACITY_EMPTY_ELEMENTDATA" "[Ljava/lang/Object;" (.ref sa)) (ge_o : n0 ≤ o) :
    Own.Ct l (⟨"java/util/ArrayList", "<init>", "()V"⟩ : MethodName) jdk_38_method_2_code 1 none [] ({ frames := 3, cells := 0, slots := 0, locals := 36 } : Room) Z #[(.ref o)] h0 (fun rV hP lC => rV = none ∧ Fr n0 lC ∧ Keep h0 hP [o]) := by
  refine Own.enter (plainFor_of_name pn4) ?_
  intro p e s m below meth cc s₁ hx hby hml hown hnm hret hk hZ X0 e0
  have N0 := Fr.nil n0
  refine Own.start (ef_rm3 m o) ?_
  have K : Keep h0 h0 [o] := Keep.refl _ _
  refine Own.aloadN X0 hx (pc := 0) (hb hby d3_0) rfl rfl ?_
  refine Own.callSpecial X0 hx hZ (pc := 1) (y := (⟨"java/util/AbstractList", "<init>", "()V"⟩ : MethodName)) rfl hown (Wd hw 15 rfl) (Wd hw 16 rfl) (Wd hw 19 rfl) (Wd hw 20 rfl) (by decide) 0 o [] [] (rm4 l Z a0 hw o h0 n0 Z0 E_o F_o_modCount F_o_elementData ge_o) (by decide) (by decide) e0 (by rw [hml]; rfl) pd2 rfl rfl (Nat.le_of_eq rfl) (hb hby d3_1) (by decide) (by decide) ?_
  intro T1 L1 v1 X1 hQ1
  obtain ⟨rfl, Nq1, K1, F_o_elementData'⟩ := hQ1
  have e1 : T1.heap = T1.heap := rfl
  have S_dce := Own.staKeep S_dce K1 E_o
  have E_o := E_o.keep K1
  have sz1 : n0 ≤ T1.heap.size := Nat.le_trans Z0 K1.1
  have K := K.trans K1 (allS (Or.inl (by simp)) all0)
  have F_o_elementData := F_o_elementData'
  have N1 := Fr.app N0 Nq1
  show Own.Go p e below _ (T1.setTop (mkF m 4 #[.val (.ref o)] []))
  refine Own.aloadN X1 hx (pc := 4) (hb hby d3_4) rfl rfl ?_
  refine Own.getstatic X1 hx hZ (pc := 5) hown (Wd hw 30 rfl) Via.refl e1 S_dce (hb hby d3_5) ?_
  intro T2 X2 e2
  refine Own.putfield X2 hx hZ (pc := 8) hown (host := "") (Or.inl (Wd hw 31 rfl)) Via.refl e2 F_o_elementData E_o (Or.inl (Wd hw 32 rfl)) (Wd hw 10 rfl) (ty := (.array (.object "java/lang/Object"))) (by decide) rfl rfl N1 ge_o (hb hby d3_8) ?_
  intro T3 h3 X3 e3 W3 N3 F_o_elementData
  have sz3 : n0 ≤ h3.size := Nat.le_trans sz1 (Nat.le_of_eq (Wr.size W3).symm)
  have E_o := Exa.wr W3 E_o
  have S_dce := Sta.wr W3 S_dce
  have K := K.wr W3 (Or.inl (by simp))
  exact Own.vreturn X3 hx hk hret (hb hby d3_11) e3 ⟨rfl, N3, K⟩ (by decide) (by decide)
theorem d6_0 : decode jdk_69_method_7_code 0 = .ok (.aload_n 0, 1) := by decide +kernel
theorem d6_1 : decode jdk_69_method_7_code 1 = .ok (.invokespecial 43, 3) := by decide +kernel
theorem d6_4 : decode jdk_69_method_7_code 4 = .ok (.aload_n 0, 1) := by decide +kernel
theorem d6_5 : decode jdk_69_method_7_code 5 = .ok (.ldc 92, 2) := by decide +kernel
theorem d6_7 : decode jdk_69_method_7_code 7 = .ok (.putfield 81, 3) := by decide +kernel
theorem d6_10 : decode jdk_69_method_7_code 10 = .ok (.return_, 1) := by decide +kernel
theorem ef_rm6 (m : MethodId) (o : Addr) : entryFrame m #[(.ref o)] 1 = mkF m 0 #[.val (.ref o)] [] := by first | (simp [entryFrame, mkF, argsToLocals, Value.category]; done) | rfl
theorem pn5 : plainName "java/util/HashMap" = true := by first | (simp [plainName, overriddenIn]; done) | decide +kernel
set_option maxRecDepth 65536 in
set_option maxHeartbeats 40000000 in
theorem rm6 (l : Launch) (Z : State) (a0 : Array Value) (hw : ∀ d ∈ tables_1, d.before a0 Z = true) (o : Addr) (h0 : Heap) (n0 : Nat) (Z0 : n0 ≤ h0.size) (E_o : Exa Z h0 o "java/util/HashMap") (F_o_loadFactor : Fld Z h0 o "java/util/HashMap" "loadFactor" "F" (.float (0 : UInt32))) (ge_o : n0 ≤ o) :
    Own.Ct l (⟨"java/util/HashMap", "<init>", "()V"⟩ : MethodName) jdk_69_method_7_code 1 none [] ({ frames := 2, cells := 0, slots := 0, locals := 24 } : Room) Z #[(.ref o)] h0 (fun rV hP lC => rV = none ∧ Fr n0 lC ∧ Keep h0 hP [o]) := by
  refine Own.enter (plainFor_of_name pn5) ?_
  intro p e s m below meth cc s₁ hx hby hml hown hnm hret hk hZ X0 e0
  have N0 := Fr.nil n0
  refine Own.start (ef_rm6 m o) ?_
  have K : Keep h0 h0 [o] := Keep.refl _ _
  refine Own.aloadN X0 hx (pc := 0) (hb hby d6_0) rfl rfl ?_
  refine Own.callSpecial X0 hx hZ (pc := 1) (y := (⟨"java/util/AbstractMap", "<init>", "()V"⟩ : MethodName)) rfl hown (Wd hw 41 rfl) (Wd hw 42 rfl) (Wd hw 45 rfl) (Wd hw 46 rfl) (by decide) 0 o [] [] (rm7 l Z a0 hw o h0 n0 Z0 ) (by decide) (by decide) e0 (by rw [hml]; rfl) pd2 rfl rfl (Nat.le_of_eq rfl) (hb hby d6_1) (by decide) (by decide) ?_
  intro T1 L1 v1 X1 hQ1
  obtain ⟨rfl, Nq1, e1⟩ := hQ1
  have N1 := Fr.app N0 Nq1
  show Own.Go p e below _ (T1.setTop (mkF m 4 #[.val (.ref o)] []))
  refine Own.aloadN X1 hx (pc := 4) (hb hby d6_4) rfl rfl ?_
  refine Own.ldcFloat X1 hx hZ (pc := 5) hown (Wd hw 48 rfl) (hb hby d6_5) ?_
  refine Own.putfield X1 hx hZ (pc := 7) hown (host := "") (Or.inl (Wd hw 49 rfl)) Via.refl e1 F_o_loadFactor E_o (Or.inr ⟨(Wd hw 50 rfl), rfl, hnm⟩) (Wd hw 36 rfl) (ty := .float) (by decide) rfl rfl N1 ge_o (hb hby d6_7) ?_
  intro T2 h2 X2 e2 W2 N2 F_o_loadFactor
  have sz2 : n0 ≤ h2.size := Nat.le_trans Z0 (Nat.le_of_eq (Wr.size W2).symm)
  have E_o := Exa.wr W2 E_o
  have K := K.wr W2 (Or.inl (by simp))
  exact Own.vreturn X2 hx hk hret (hb hby d6_10) e2 ⟨rfl, N2, K⟩ (by decide) (by decide)
theorem d8_0 : decode jdk_29_method_65_code 0 = .ok (.iload_n 0, 1) := by decide +kernel
theorem d8_1 : decode jdk_29_method_65_code 1 = .ok (.iload_n 1, 1) := by decide +kernel
theorem d8_2 : decode jdk_29_method_65_code 2 = .ok (.if_icmp .lt 7, 3) := by decide +kernel
theorem d8_9 : decode jdk_29_method_65_code 9 = .ok (.iload_n 1, 1) := by decide +kernel
theorem d8_10 : decode jdk_29_method_65_code 10 = .ok (.ireturn, 1) := by decide +kernel
theorem d8_5 : decode jdk_29_method_65_code 5 = .ok (.iload_n 0, 1) := by decide +kernel
theorem d8_6 : decode jdk_29_method_65_code 6 = .ok (.goto 4, 3) := by decide +kernel
theorem ef_rm8 (m : MethodId) (x : Int32) (y : Int32) : entryFrame m #[(.int x), (.int y)] 2 = mkF m 0 #[.val (.int x), .val (.int y)] [] := by first | (simp [entryFrame, mkF, argsToLocals, Value.category]; done) | rfl
theorem pf8 : plainFor (⟨"java/lang/Math", "max", "(II)I"⟩ : MethodName) = true := by decide +kernel
set_option maxRecDepth 65536 in
set_option maxHeartbeats 40000000 in
theorem rm8 (l : Launch) (Z : State) (a0 : Array Value) (hw : ∀ d ∈ tables_1, d.before a0 Z = true) (x : Int32) (y : Int32) (h0 : Heap) (n0 : Nat) (Z0 : n0 ≤ h0.size) :
    Own.Ct l (⟨"java/lang/Math", "max", "(II)I"⟩ : MethodName) jdk_29_method_65_code 2 (some .int) [] ({ frames := 0, cells := 0, slots := 0, locals := 0 } : Room) Z #[(.int x), (.int y)] h0 (fun rV hP lC => rV = some (.int (if x < y then y else x)) ∧ Fr n0 lC ∧ hP = h0) := by
  refine Own.enter pf8 ?_
  intro p e s m below meth cc s₁ hx hby hml hown hnm hret hk hZ X0 e0
  have N0 := Fr.nil n0
  refine Own.start (ef_rm8 m x y) ?_
  refine Own.iloadN X0 hx (pc := 0) (hb hby d8_0) rfl ?_
  refine Own.iloadN X0 hx (pc := 1) (hb hby d8_1) rfl ?_
  by_cases c1 : x < y
  · refine Own.icmpYes X0 hx (pc := 2) 9 (hb hby d8_2) (XT.ii_lt_t c1) (by decide) (by decide) ?_
    refine Own.iloadN X0 hx (pc := 9) (hb hby d8_9) rfl ?_
    exact Own.ireturn X0 hx hk hret (by simp) rfl (hb hby d8_10) e0 ⟨by simp [c1], N0, rfl⟩ (by decide) (by decide)
  · refine Own.icmpNo X0 hx (pc := 2) (hb hby d8_2) (XT.ii_lt_f c1) ?_
    refine Own.iloadN X0 hx (pc := 5) (hb hby d8_5) rfl ?_
    refine Own.goto X0 hx (pc := 6) 10 (hb hby d8_6) (by decide) (by decide) ?_
    exact Own.ireturn X0 hx hk hret (by simp) rfl (hb hby d8_10) e0 ⟨by simp [c1], N0, rfl⟩ (by decide) (by decide)
theorem d9_0 : decode prog_122_method_23_code 0 = .ok (.aload_n 0, 1) := by decide +kernel
theorem d9_1 : decode prog_122_method_23_code 1 = .ok (.aload_n 0, 1) := by decide +kernel
theorem d9_2 : decode prog_122_method_23_code 2 = .ok (.getfield 96, 3) := by decide +kernel
theorem d9_5 : decode prog_122_method_23_code 5 = .ok (.ifnonnull 9, 3) := by decide +kernel
theorem d9_8 : decode prog_122_method_23_code 8 = .ok (.iload_n 1, 1) := by decide +kernel
theorem d9_9 : decode prog_122_method_23_code 9 = .ok (.newarray .int, 2) := by decide +kernel
theorem d9_11 : decode prog_122_method_23_code 11 = .ok (.goto 11, 3) := by decide +kernel
theorem d9_22 : decode prog_122_method_23_code 22 = .ok (.putfield 96, 3) := by decide +kernel
theorem d9_25 : decode prog_122_method_23_code 25 = .ok (.aload_n 0, 1) := by decide +kernel
theorem d9_26 : decode prog_122_method_23_code 26 = .ok (.aload_n 0, 1) := by decide +kernel
theorem d9_27 : decode prog_122_method_23_code 27 = .ok (.getfield 102, 3) := by decide +kernel
theorem d9_30 : decode prog_122_method_23_code 30 = .ok (.ifnonnull 9, 3) := by decide +kernel
theorem d9_33 : decode prog_122_method_23_code 33 = .ok (.iload_n 1, 1) := by decide +kernel
theorem d9_34 : decode prog_122_method_23_code 34 = .ok (.newarray .int, 2) := by decide +kernel
theorem d9_36 : decode prog_122_method_23_code 36 = .ok (.goto 11, 3) := by decide +kernel
theorem d9_47 : decode prog_122_method_23_code 47 = .ok (.putfield 102, 3) := by decide +kernel
theorem d9_50 : decode prog_122_method_23_code 50 = .ok (.aload_n 0, 1) := by decide +kernel
theorem d9_51 : decode prog_122_method_23_code 51 = .ok (.aload_n 0, 1) := by decide +kernel
theorem d9_52 : decode prog_122_method_23_code 52 = .ok (.getfield 90, 3) := by decide +kernel
theorem d9_55 : decode prog_122_method_23_code 55 = .ok (.ifnonnull 9, 3) := by decide +kernel
theorem d9_58 : decode prog_122_method_23_code 58 = .ok (.iload_n 1, 1) := by decide +kernel
theorem d9_59 : decode prog_122_method_23_code 59 = .ok (.newarray .int, 2) := by decide +kernel
theorem d9_61 : decode prog_122_method_23_code 61 = .ok (.goto 11, 3) := by decide +kernel
theorem d9_72 : decode prog_122_method_23_code 72 = .ok (.putfield 90, 3) := by decide +kernel
theorem d9_75 : decode prog_122_method_23_code 75 = .ok (.aload_n 0, 1) := by decide +kernel
theorem d9_76 : decode prog_122_method_23_code 76 = .ok (.aload_n 0, 1) := by decide +kernel
theorem d9_77 : decode prog_122_method_23_code 77 = .ok (.getfield 93, 3) := by decide +kernel
theorem d9_80 : decode prog_122_method_23_code 80 = .ok (.ifnonnull 9, 3) := by decide +kernel
theorem d9_83 : decode prog_122_method_23_code 83 = .ok (.iload_n 1, 1) := by decide +kernel
theorem d9_84 : decode prog_122_method_23_code 84 = .ok (.newarray .int, 2) := by decide +kernel
theorem d9_86 : decode prog_122_method_23_code 86 = .ok (.goto 11, 3) := by decide +kernel
theorem d9_97 : decode prog_122_method_23_code 97 = .ok (.putfield 93, 3) := by decide +kernel
theorem d9_100 : decode prog_122_method_23_code 100 = .ok (.aload_n 0, 1) := by decide +kernel
theorem d9_101 : decode prog_122_method_23_code 101 = .ok (.aload_n 0, 1) := by decide +kernel
theorem d9_102 : decode prog_122_method_23_code 102 = .ok (.getfield 99, 3) := by decide +kernel
theorem d9_105 : decode prog_122_method_23_code 105 = .ok (.ifnonnull 9, 3) := by decide +kernel
theorem d9_108 : decode prog_122_method_23_code 108 = .ok (.iload_n 1, 1) := by decide +kernel
theorem d9_109 : decode prog_122_method_23_code 109 = .ok (.newarray .int, 2) := by decide +kernel
theorem d9_111 : decode prog_122_method_23_code 111 = .ok (.goto 11, 3) := by decide +kernel
theorem d9_122 : decode prog_122_method_23_code 122 = .ok (.putfield 99, 3) := by decide +kernel
theorem d9_125 : decode prog_122_method_23_code 125 = .ok (.aload_n 0, 1) := by decide +kernel
theorem d9_126 : decode prog_122_method_23_code 126 = .ok (.aload_n 0, 1) := by decide +kernel
theorem d9_127 : decode prog_122_method_23_code 127 = .ok (.getfield 84, 3) := by decide +kernel
theorem d9_130 : decode prog_122_method_23_code 130 = .ok (.ifnonnull 9, 3) := by decide +kernel
theorem d9_133 : decode prog_122_method_23_code 133 = .ok (.iload_n 1, 1) := by decide +kernel
theorem d9_134 : decode prog_122_method_23_code 134 = .ok (.newarray .int, 2) := by decide +kernel
theorem d9_136 : decode prog_122_method_23_code 136 = .ok (.goto 11, 3) := by decide +kernel
theorem d9_147 : decode prog_122_method_23_code 147 = .ok (.putfield 84, 3) := by decide +kernel
theorem d9_150 : decode prog_122_method_23_code 150 = .ok (.aload_n 0, 1) := by decide +kernel
theorem d9_151 : decode prog_122_method_23_code 151 = .ok (.aload_n 0, 1) := by decide +kernel
theorem d9_152 : decode prog_122_method_23_code 152 = .ok (.getfield 80, 3) := by decide +kernel
theorem d9_155 : decode prog_122_method_23_code 155 = .ok (.ifnonnull 9, 3) := by decide +kernel
theorem d9_158 : decode prog_122_method_23_code 158 = .ok (.iload_n 1, 1) := by decide +kernel
theorem d9_159 : decode prog_122_method_23_code 159 = .ok (.newarray .int, 2) := by decide +kernel
theorem d9_161 : decode prog_122_method_23_code 161 = .ok (.goto 11, 3) := by decide +kernel
theorem d9_172 : decode prog_122_method_23_code 172 = .ok (.putfield 80, 3) := by decide +kernel
theorem d9_175 : decode prog_122_method_23_code 175 = .ok (.aload_n 0, 1) := by decide +kernel
theorem d9_176 : decode prog_122_method_23_code 176 = .ok (.aload_n 0, 1) := by decide +kernel
theorem d9_177 : decode prog_122_method_23_code 177 = .ok (.getfield 109, 3) := by decide +kernel
theorem d9_180 : decode prog_122_method_23_code 180 = .ok (.ifnonnull 9, 3) := by decide +kernel
theorem d9_183 : decode prog_122_method_23_code 183 = .ok (.iload_n 1, 1) := by decide +kernel
theorem d9_184 : decode prog_122_method_23_code 184 = .ok (.newarray .int, 2) := by decide +kernel
theorem d9_186 : decode prog_122_method_23_code 186 = .ok (.goto 11, 3) := by decide +kernel
theorem d9_197 : decode prog_122_method_23_code 197 = .ok (.putfield 109, 3) := by decide +kernel
theorem d9_200 : decode prog_122_method_23_code 200 = .ok (.return_, 1) := by decide +kernel
theorem ef_rm9 (m : MethodId) (o : Addr) : entryFrame m #[(.ref o), (.int (64 : Int32))] 2 = mkF m 0 #[.val (.ref o), .val (.int (64 : Int32))] [] := by first | (simp [entryFrame, mkF, argsToLocals, Value.category]; done) | rfl
theorem pn6 : plainName "com/example/sprigdex/sprigdex/index/html/HtmlTree" = true := by first | (simp [plainName, overriddenIn]; done) | decide +kernel
set_option maxRecDepth 65536 in
set_option maxHeartbeats 40000000 in
theorem rm9 (l : Launch) (Z : State) (a0 : Array Value) (hw : ∀ d ∈ tables_1, d.before a0 Z = true) (o : Addr) (h0 : Heap) (n0 : Nat) (Z0 : n0 ≤ h0.size) (E_o : Exa Z h0 o "com/example/sprigdex/sprigdex/index/html/HtmlTree") (F_o_parent : Fld Z h0 o "com/example/sprigdex/sprigdex/index/html/HtmlTree" "parent" "[I" .null) (F_o_firstChild : Fld Z h0 o "com/example/sprigdex/sprigdex/index/html/HtmlTree" "firstChild" "[I" .null) (F_o_lastChild : Fld Z h0 o "com/example/sprigdex/sprigdex/index/html/HtmlTree" "lastChild" "[I" .null) (F_o_previousSibling : Fld Z h0 o "com/example/sprigdex/sprigdex/index/html/HtmlTree" "previousSibling" "[I" .null) (F_o_nextSibling : Fld Z h0 o "com/example/sprigdex/sprigdex/index/html/HtmlTree" "nextSibling" "[I" .null) (F_o_name : Fld Z h0 o "com/example/sprigdex/sprigdex/index/html/HtmlTree" "name" "[I" .null) (F_o_start : Fld Z h0 o "com/example/sprigdex/sprigdex/index/html/HtmlTree" "start" "[I" .null) (F_o_length : Fld Z h0 o "com/example/sprigdex/sprigdex/index/html/HtmlTree" "length" "[I" .null) (F_o_nodes : Fld Z h0 o "com/example/sprigdex/sprigdex/index/html/HtmlTree" "nodes" "I" (.int (0 : Int32))) (ge_o : n0 ≤ o) :
    Own.Ct l (⟨"com/example/sprigdex/sprigdex/index/html/HtmlTree", "grow", "(I)V"⟩ : MethodName) prog_122_method_23_code 2 none [] ({ frames := 0, cells := 8, slots := 512, locals := 0 } : Room) Z #[(.ref o), (.int (64 : Int32))] h0 (fun rV hP lC => ∃ pa : Addr, ∃ fc : Addr, ∃ la : Addr, ∃ pv : Addr, ∃ nx : Addr, ∃ nm : Addr, ∃ sr : Addr, ∃ ln : Addr, rV = none ∧ Fr n0 lC ∧ Keep h0 hP [o] ∧ n0 ≤ pa ∧ n0 ≤ fc ∧ n0 ≤ la ∧ n0 ≤ pv ∧ n0 ≤ nx ∧ n0 ≤ nm ∧ n0 ≤ sr ∧ n0 ≤ ln ∧ h0.size ≤ pa ∧ h0.size ≤ fc ∧ h0.size ≤ la ∧ h0.size ≤ pv ∧ h0.size ≤ nx ∧ h0.size ≤ nm ∧ h0.size ≤ sr ∧ h0.size ≤ ln ∧ pa ≠ fc ∧ pa ≠ la ∧ pa ≠ pv ∧ pa ≠ nx ∧ pa ≠ nm ∧ pa ≠ sr ∧ pa ≠ ln ∧ fc ≠ la ∧ fc ≠ pv ∧ fc ≠ nx ∧ fc ≠ nm ∧ fc ≠ sr ∧ fc ≠ ln ∧ la ≠ pv ∧ la ≠ nx ∧ la ≠ nm ∧ la ≠ sr ∧ la ≠ ln ∧ pv ≠ nx ∧ pv ≠ nm ∧ pv ≠ sr ∧ pv ≠ ln ∧ nx ≠ nm ∧ nx ≠ sr ∧ nx ≠ ln ∧ nm ≠ sr ∧ nm ≠ ln ∧ sr ≠ ln ∧ Fld Z hP o "com/example/sprigdex/sprigdex/index/html/HtmlTree" "parent" "[I" (.ref pa) ∧ Fld Z hP o "com/example/sprigdex/sprigdex/index/html/HtmlTree" "firstChild" "[I" (.ref fc) ∧ Fld Z hP o "com/example/sprigdex/sprigdex/index/html/HtmlTree" "lastChild" "[I" (.ref la) ∧ Fld Z hP o "com/example/sprigdex/sprigdex/index/html/HtmlTree" "previousSibling" "[I" (.ref pv) ∧ Fld Z hP o "com/example/sprigdex/sprigdex/index/html/HtmlTree" "nextSibling" "[I" (.ref nx) ∧ Fld Z hP o "com/example/sprigdex/sprigdex/index/html/HtmlTree" "name" "[I" (.ref nm) ∧ Fld Z hP o "com/example/sprigdex/sprigdex/index/html/HtmlTree" "start" "[I" (.ref sr) ∧ Fld Z hP o "com/example/sprigdex/sprigdex/index/html/HtmlTree" "length" "[I" (.ref ln) ∧ Fld Z hP o "com/example/sprigdex/sprigdex/index/html/HtmlTree" "nodes" "I" (.int (0 : Int32)) ∧ Own.VArr Z hP pa .int ((.int (0 : Int32)) :: (.int (0 : Int32)) :: (.int (0 : Int32)) :: (.int (0 : Int32)) :: own_tl) ∧ Own.VArr Z hP fc .int ((.int (0 : Int32)) :: (.int (0 : Int32)) :: (.int (0 : Int32)) :: (.int (0 : Int32)) :: own_tl) ∧ Own.VArr Z hP la .int ((.int (0 : Int32)) :: (.int (0 : Int32)) :: (.int (0 : Int32)) :: (.int (0 : Int32)) :: own_tl) ∧ Own.VArr Z hP pv .int ((.int (0 : Int32)) :: (.int (0 : Int32)) :: (.int (0 : Int32)) :: (.int (0 : Int32)) :: own_tl) ∧ Own.VArr Z hP nx .int ((.int (0 : Int32)) :: (.int (0 : Int32)) :: (.int (0 : Int32)) :: (.int (0 : Int32)) :: own_tl) ∧ Own.VArr Z hP nm .int ((.int (0 : Int32)) :: (.int (0 : Int32)) :: (.int (0 : Int32)) :: (.int (0 : Int32)) :: own_tl) ∧ Own.VArr Z hP sr .int ((.int (0 : Int32)) :: (.int (0 : Int32)) :: (.int (0 : Int32)) :: (.int (0 : Int32)) :: own_tl) ∧ Own.VArr Z hP ln .int ((.int (0 : Int32)) :: (.int (0 : Int32)) :: (.int (0 : Int32)) :: (.int (0 : Int32)) :: own_tl)) := by
  refine Own.enter (plainFor_of_name pn6) ?_
  intro p e s m below meth cc s₁ hx hby hml hown hnm hret hk hZ X0 e0
  have N0 := Fr.nil n0
  refine Own.start (ef_rm9 m o) ?_
  have K : Keep h0 h0 [o] := Keep.refl _ _
  refine Own.aloadN X0 hx (pc := 0) (hb hby d9_0) rfl rfl ?_
  refine Own.aloadN X0 hx (pc := 1) (hb hby d9_1) rfl rfl ?_
  refine Own.getfield X0 hx hZ (pc := 2) hown (host := "") (Or.inl (Wd hw 64 rfl)) Via.refl e0 F_o_parent (hb hby d9_2) ?_
  intro T1 X1 e1
  refine Own.ifnonnullNo X1 hx (pc := 5) (hb hby d9_5) ?_
  refine Own.iloadN X1 hx (pc := 8) (hb hby d9_8) rfl ?_
  refine Own.newarr X1 hx hZ (pc := 9) (aty := .int) (Wd hw 66 rfl) e1 (hb hby d9_9) (by decide) 64 64 (by decide) (by decide) (by decide) (by decide) (by decide) ?_
  intro T2 h2 b2 g2 X2 e2 Ex2 V_b2
  have ne_o_b2 : o ≠ b2 := Nat.ne_of_lt (g2 ▸ E_o.lt)
  have E_o := Exa.ext Ex2 E_o
  have F_o_parent := Fld.ext Ex2 F_o_parent
  have F_o_firstChild := Fld.ext Ex2 F_o_firstChild
  have F_o_lastChild := Fld.ext Ex2 F_o_lastChild
  have F_o_previousSibling := Fld.ext Ex2 F_o_previousSibling
  have F_o_nextSibling := Fld.ext Ex2 F_o_nextSibling
  have F_o_name := Fld.ext Ex2 F_o_name
  have F_o_start := Fld.ext Ex2 F_o_start
  have F_o_length := Fld.ext Ex2 F_o_length
  have F_o_nodes := Fld.ext Ex2 F_o_nodes
  have ge_b2 : n0 ≤ b2 := g2 ▸ Z0
  have sz2 : n0 ≤ h2.size := Nat.le_trans Z0 Ex2.1
  have szo_b2 : h0.size ≤ b2 := g2 ▸ K.1
  have K := K.ext Ex2
  replace V_b2 : Own.VArr Z h2 b2 .int ((.int (0 : Int32)) :: (.int (0 : Int32)) :: (.int (0 : Int32)) :: (.int (0 : Int32)) :: own_tl) := V_b2
  refine Own.goto X2 hx (pc := 11) 22 (hb hby d9_11) (by decide) (by decide) ?_
  refine Own.putfield X2 hx hZ (pc := 22) hown (host := "") (Or.inl (Wd hw 64 rfl)) Via.refl e2 F_o_parent E_o (Or.inl (Wd hw 65 rfl)) (Wd hw 1 rfl) (ty := (.array .int)) (by decide) rfl rfl N0 ge_o (hb hby d9_22) ?_
  intro T3 h3 X3 e3 W3 N3 F_o_parent
  have sz3 : n0 ≤ h3.size := Nat.le_trans sz2 (Nat.le_of_eq (Wr.size W3).symm)
  have E_o := Exa.wr W3 E_o
  have F_o_firstChild := Fld.other W3 F_o_firstChild (Or.inr (slot_ne (Or.inl (Wd hw 68 rfl)) (Or.inl (Wd hw 65 rfl)) (by decide) (ht := (by decide : parseFieldDescriptor "[I" = some (.array .int))) (ht' := (by decide : parseFieldDescriptor "[I" = some (.array .int)))))
  have F_o_lastChild := Fld.other W3 F_o_lastChild (Or.inr (slot_ne (Or.inl (Wd hw 70 rfl)) (Or.inl (Wd hw 65 rfl)) (by decide) (ht := (by decide : parseFieldDescriptor "[I" = some (.array .int))) (ht' := (by decide : parseFieldDescriptor "[I" = some (.array .int)))))
  have F_o_previousSibling := Fld.other W3 F_o_previousSibling (Or.inr (slot_ne (Or.inl (Wd hw 72 rfl)) (Or.inl (Wd hw 65 rfl)) (by decide) (ht := (by decide : parseFieldDescriptor "[I" = some (.array .int))) (ht' := (by decide : parseFieldDescriptor "[I" = some (.array .int)))))
  have F_o_nextSibling := Fld.other W3 F_o_nextSibling (Or.inr (slot_ne (Or.inl (Wd hw 74 rfl)) (Or.inl (Wd hw 65 rfl)) (by decide) (ht := (by decide : parseFieldDescriptor "[I" = some (.array .int))) (ht' := (by decide : parseFieldDescriptor "[I" = some (.array .int)))))
  have F_o_name := Fld.other W3 F_o_name (Or.inr (slot_ne (Or.inl (Wd hw 76 rfl)) (Or.inl (Wd hw 65 rfl)) (by decide) (ht := (by decide : parseFieldDescriptor "[I" = some (.array .int))) (ht' := (by decide : parseFieldDescriptor "[I" = some (.array .int)))))
  have F_o_start := Fld.other W3 F_o_start (Or.inr (slot_ne (Or.inl (Wd hw 78 rfl)) (Or.inl (Wd hw 65 rfl)) (by decide) (ht := (by decide : parseFieldDescriptor "[I" = some (.array .int))) (ht' := (by decide : parseFieldDescriptor "[I" = some (.array .int)))))
  have F_o_length := Fld.other W3 F_o_length (Or.inr (slot_ne (Or.inl (Wd hw 80 rfl)) (Or.inl (Wd hw 65 rfl)) (by decide) (ht := (by decide : parseFieldDescriptor "[I" = some (.array .int))) (ht' := (by decide : parseFieldDescriptor "[I" = some (.array .int)))))
  have F_o_nodes := Fld.other W3 F_o_nodes (Or.inr (slot_ne (Or.inl (Wd hw 86 rfl)) (Or.inl (Wd hw 65 rfl)) (by decide) (ht := (by decide : parseFieldDescriptor "I" = some .int)) (ht' := (by decide : parseFieldDescriptor "[I" = some (.array .int)))))
  have V_b2 := V_b2.other W3 (Ne.symm ne_o_b2)
  have K := K.wr W3 (Or.inl (by simp))
  refine Own.aloadN X3 hx (pc := 25) (hb hby d9_25) rfl rfl ?_
  refine Own.aloadN X3 hx (pc := 26) (hb hby d9_26) rfl rfl ?_
  refine Own.getfield X3 hx hZ (pc := 27) hown (host := "") (Or.inl (Wd hw 67 rfl)) Via.refl e3 F_o_firstChild (hb hby d9_27) ?_
  intro T4 X4 e4
  refine Own.ifnonnullNo X4 hx (pc := 30) (hb hby d9_30) ?_
  refine Own.iloadN X4 hx (pc := 33) (hb hby d9_33) rfl ?_
  refine Own.newarr X4 hx hZ (pc := 34) (aty := .int) (Wd hw 66 rfl) e4 (hb hby d9_34) (by decide) 64 64 (by decide) (by decide) (by decide) (by decide) (by decide) ?_
  intro T5 h5 b5 g5 X5 e5 Ex5 V_b5
  have ne_o_b5 : o ≠ b5 := Nat.ne_of_lt (g5 ▸ E_o.lt)
  have ne_b2_b5 : b2 ≠ b5 := Nat.ne_of_lt (g5 ▸ V_b2.lt)
  have E_o := Exa.ext Ex5 E_o
  have F_o_parent := Fld.ext Ex5 F_o_parent
  have F_o_firstChild := Fld.ext Ex5 F_o_firstChild
  have F_o_lastChild := Fld.ext Ex5 F_o_lastChild
  have F_o_previousSibling := Fld.ext Ex5 F_o_previousSibling
  have F_o_nextSibling := Fld.ext Ex5 F_o_nextSibling
  have F_o_name := Fld.ext Ex5 F_o_name
  have F_o_start := Fld.ext Ex5 F_o_start
  have F_o_length := Fld.ext Ex5 F_o_length
  have F_o_nodes := Fld.ext Ex5 F_o_nodes
  have V_b2 := V_b2.ext Ex5
  have ge_b5 : n0 ≤ b5 := g5 ▸ sz3
  have sz5 : n0 ≤ h5.size := Nat.le_trans sz3 Ex5.1
  have szo_b5 : h0.size ≤ b5 := g5 ▸ K.1
  have K := K.ext Ex5
  replace V_b5 : Own.VArr Z h5 b5 .int ((.int (0 : Int32)) :: (.int (0 : Int32)) :: (.int (0 : Int32)) :: (.int (0 : Int32)) :: own_tl) := V_b5
  refine Own.goto X5 hx (pc := 36) 47 (hb hby d9_36) (by decide) (by decide) ?_
  refine Own.putfield X5 hx hZ (pc := 47) hown (host := "") (Or.inl (Wd hw 67 rfl)) Via.refl e5 F_o_firstChild E_o (Or.inl (Wd hw 68 rfl)) (Wd hw 1 rfl) (ty := (.array .int)) (by decide) rfl rfl N3 ge_o (hb hby d9_47) ?_
  intro T6 h6 X6 e6 W6 N6 F_o_firstChild
  have sz6 : n0 ≤ h6.size := Nat.le_trans sz5 (Nat.le_of_eq (Wr.size W6).symm)
  have E_o := Exa.wr W6 E_o
  have F_o_parent := Fld.other W6 F_o_parent (Or.inr (slot_ne (Or.inl (Wd hw 65 rfl)) (Or.inl (Wd hw 68 rfl)) (by decide) (ht := (by decide : parseFieldDescriptor "[I" = some (.array .int))) (ht' := (by decide : parseFieldDescriptor "[I" = some (.array .int)))))
  have F_o_lastChild := Fld.other W6 F_o_lastChild (Or.inr (slot_ne (Or.inl (Wd hw 70 rfl)) (Or.inl (Wd hw 68 rfl)) (by decide) (ht := (by decide : parseFieldDescriptor "[I" = some (.array .int))) (ht' := (by decide : parseFieldDescriptor "[I" = some (.array .int)))))
  have F_o_previousSibling := Fld.other W6 F_o_previousSibling (Or.inr (slot_ne (Or.inl (Wd hw 72 rfl)) (Or.inl (Wd hw 68 rfl)) (by decide) (ht := (by decide : parseFieldDescriptor "[I" = some (.array .int))) (ht' := (by decide : parseFieldDescriptor "[I" = some (.array .int)))))
  have F_o_nextSibling := Fld.other W6 F_o_nextSibling (Or.inr (slot_ne (Or.inl (Wd hw 74 rfl)) (Or.inl (Wd hw 68 rfl)) (by decide) (ht := (by decide : parseFieldDescriptor "[I" = some (.array .int))) (ht' := (by decide : parseFieldDescriptor "[I" = some (.array .int)))))
  have F_o_name := Fld.other W6 F_o_name (Or.inr (slot_ne (Or.inl (Wd hw 76 rfl)) (Or.inl (Wd hw 68 rfl)) (by decide) (ht := (by decide : parseFieldDescriptor "[I" = some (.array .int))) (ht' := (by decide : parseFieldDescriptor "[I" = some (.array .int)))))
  have F_o_start := Fld.other W6 F_o_start (Or.inr (slot_ne (Or.inl (Wd hw 78 rfl)) (Or.inl (Wd hw 68 rfl)) (by decide) (ht := (by decide : parseFieldDescriptor "[I" = some (.array .int))) (ht' := (by decide : parseFieldDescriptor "[I" = some (.array .int)))))
  have F_o_length := Fld.other W6 F_o_length (Or.inr (slot_ne (Or.inl (Wd hw 80 rfl)) (Or.inl (Wd hw 68 rfl)) (by decide) (ht := (by decide : parseFieldDescriptor "[I" = some (.array .int))) (ht' := (by decide : parseFieldDescriptor "[I" = some (.array .int)))))
  have F_o_nodes := Fld.other W6 F_o_nodes (Or.inr (slot_ne (Or.inl (Wd hw 86 rfl)) (Or.inl (Wd hw 68 rfl)) (by decide) (ht := (by decide : parseFieldDescriptor "I" = some .int)) (ht' := (by decide : parseFieldDescriptor "[I" = some (.array .int)))))
  have V_b2 := V_b2.other W6 (Ne.symm ne_o_b2)
  have V_b5 := V_b5.other W6 (Ne.symm ne_o_b5)
  have K := K.wr W6 (Or.inl (by simp))
  refine Own.aloadN X6 hx (pc := 50) (hb hby d9_50) rfl rfl ?_
  refine Own.aloadN X6 hx (pc := 51) (hb hby d9_51) rfl rfl ?_
  refine Own.getfield X6 hx hZ (pc := 52) hown (host := "") (Or.inl (Wd hw 69 rfl)) Via.refl e6 F_o_lastChild (hb hby d9_52) ?_
  intro T7 X7 e7
  refine Own.ifnonnullNo X7 hx (pc := 55) (hb hby d9_55) ?_
  refine Own.iloadN X7 hx (pc := 58) (hb hby d9_58) rfl ?_
  refine Own.newarr X7 hx hZ (pc := 59) (aty := .int) (Wd hw 66 rfl) e7 (hb hby d9_59) (by decide) 64 64 (by decide) (by decide) (by decide) (by decide) (by decide) ?_
  intro T8 h8 b8 g8 X8 e8 Ex8 V_b8
  have ne_o_b8 : o ≠ b8 := Nat.ne_of_lt (g8 ▸ E_o.lt)
  have ne_b2_b8 : b2 ≠ b8 := Nat.ne_of_lt (g8 ▸ V_b2.lt)
  have ne_b5_b8 : b5 ≠ b8 := Nat.ne_of_lt (g8 ▸ V_b5.lt)
  have E_o := Exa.ext Ex8 E_o
  have F_o_parent := Fld.ext Ex8 F_o_parent
  have F_o_firstChild := Fld.ext Ex8 F_o_firstChild
  have F_o_lastChild := Fld.ext Ex8 F_o_lastChild
  have F_o_previousSibling := Fld.ext Ex8 F_o_previousSibling
  have F_o_nextSibling := Fld.ext Ex8 F_o_nextSibling
  have F_o_name := Fld.ext Ex8 F_o_name
  have F_o_start := Fld.ext Ex8 F_o_start
  have F_o_length := Fld.ext Ex8 F_o_length
  have F_o_nodes := Fld.ext Ex8 F_o_nodes
  have V_b2 := V_b2.ext Ex8
  have V_b5 := V_b5.ext Ex8
  have ge_b8 : n0 ≤ b8 := g8 ▸ sz6
  have sz8 : n0 ≤ h8.size := Nat.le_trans sz6 Ex8.1
  have szo_b8 : h0.size ≤ b8 := g8 ▸ K.1
  have K := K.ext Ex8
  replace V_b8 : Own.VArr Z h8 b8 .int ((.int (0 : Int32)) :: (.int (0 : Int32)) :: (.int (0 : Int32)) :: (.int (0 : Int32)) :: own_tl) := V_b8
  refine Own.goto X8 hx (pc := 61) 72 (hb hby d9_61) (by decide) (by decide) ?_
  refine Own.putfield X8 hx hZ (pc := 72) hown (host := "") (Or.inl (Wd hw 69 rfl)) Via.refl e8 F_o_lastChild E_o (Or.inl (Wd hw 70 rfl)) (Wd hw 1 rfl) (ty := (.array .int)) (by decide) rfl rfl N6 ge_o (hb hby d9_72) ?_
  intro T9 h9 X9 e9 W9 N9 F_o_lastChild
  have sz9 : n0 ≤ h9.size := Nat.le_trans sz8 (Nat.le_of_eq (Wr.size W9).symm)
  have E_o := Exa.wr W9 E_o
  have F_o_parent := Fld.other W9 F_o_parent (Or.inr (slot_ne (Or.inl (Wd hw 65 rfl)) (Or.inl (Wd hw 70 rfl)) (by decide) (ht := (by decide : parseFieldDescriptor "[I" = some (.array .int))) (ht' := (by decide : parseFieldDescriptor "[I" = some (.array .int)))))
  have F_o_firstChild := Fld.other W9 F_o_firstChild (Or.inr (slot_ne (Or.inl (Wd hw 68 rfl)) (Or.inl (Wd hw 70 rfl)) (by decide) (ht := (by decide : parseFieldDescriptor "[I" = some (.array .int))) (ht' := (by decide : parseFieldDescriptor "[I" = some (.array .int)))))
  have F_o_previousSibling := Fld.other W9 F_o_previousSibling (Or.inr (slot_ne (Or.inl (Wd hw 72 rfl)) (Or.inl (Wd hw 70 rfl)) (by decide) (ht := (by decide : parseFieldDescriptor "[I" = some (.array .int))) (ht' := (by decide : parseFieldDescriptor "[I" = some (.array .int)))))
  have F_o_nextSibling := Fld.other W9 F_o_nextSibling (Or.inr (slot_ne (Or.inl (Wd hw 74 rfl)) (Or.inl (Wd hw 70 rfl)) (by decide) (ht := (by decide : parseFieldDescriptor "[I" = some (.array .int))) (ht' := (by decide : parseFieldDescriptor "[I" = some (.array .int)))))
  have F_o_name := Fld.other W9 F_o_name (Or.inr (slot_ne (Or.inl (Wd hw 76 rfl)) (Or.inl (Wd hw 70 rfl)) (by decide) (ht := (by decide : parseFieldDescriptor "[I" = some (.array .int))) (ht' := (by decide : parseFieldDescriptor "[I" = some (.array .int)))))
  have F_o_start := Fld.other W9 F_o_start (Or.inr (slot_ne (Or.inl (Wd hw 78 rfl)) (Or.inl (Wd hw 70 rfl)) (by decide) (ht := (by decide : parseFieldDescriptor "[I" = some (.array .int))) (ht' := (by decide : parseFieldDescriptor "[I" = some (.array .int)))))
  have F_o_length := Fld.other W9 F_o_length (Or.inr (slot_ne (Or.inl (Wd hw 80 rfl)) (Or.inl (Wd hw 70 rfl)) (by decide) (ht := (by decide : parseFieldDescriptor "[I" = some (.array .int))) (ht' := (by decide : parseFieldDescriptor "[I" = some (.array .int)))))
  have F_o_nodes := Fld.other W9 F_o_nodes (Or.inr (slot_ne (Or.inl (Wd hw 86 rfl)) (Or.inl (Wd hw 70 rfl)) (by decide) (ht := (by decide : parseFieldDescriptor "I" = some .int)) (ht' := (by decide : parseFieldDescriptor "[I" = some (.array .int)))))
  have V_b2 := V_b2.other W9 (Ne.symm ne_o_b2)
  have V_b5 := V_b5.other W9 (Ne.symm ne_o_b5)
  have V_b8 := V_b8.other W9 (Ne.symm ne_o_b8)
  have K := K.wr W9 (Or.inl (by simp))
  refine Own.aloadN X9 hx (pc := 75) (hb hby d9_75) rfl rfl ?_
  refine Own.aloadN X9 hx (pc := 76) (hb hby d9_76) rfl rfl ?_
  refine Own.getfield X9 hx hZ (pc := 77) hown (host := "") (Or.inl (Wd hw 71 rfl)) Via.refl e9 F_o_previousSibling (hb hby d9_77) ?_
  intro T10 X10 e10
  refine Own.ifnonnullNo X10 hx (pc := 80) (hb hby d9_80) ?_
  refine Own.iloadN X10 hx (pc := 83) (hb hby d9_83) rfl ?_
  refine Own.newarr X10 hx hZ (pc := 84) (aty := .int) (Wd hw 66 rfl) e10 (hb hby d9_84) (by decide) 64 64 (by decide) (by decide) (by decide) (by decide) (by decide) ?_
  intro T11 h11 b11 g11 X11 e11 Ex11 V_b11
  have ne_o_b11 : o ≠ b11 := Nat.ne_of_lt (g11 ▸ E_o.lt)
  have ne_b2_b11 : b2 ≠ b11 := Nat.ne_of_lt (g11 ▸ V_b2.lt)
  have ne_b5_b11 : b5 ≠ b11 := Nat.ne_of_lt (g11 ▸ V_b5.lt)
  have ne_b8_b11 : b8 ≠ b11 := Nat.ne_of_lt (g11 ▸ V_b8.lt)
  have E_o := Exa.ext Ex11 E_o
  have F_o_parent := Fld.ext Ex11 F_o_parent
  have F_o_firstChild := Fld.ext Ex11 F_o_firstChild
  have F_o_lastChild := Fld.ext Ex11 F_o_lastChild
  have F_o_previousSibling := Fld.ext Ex11 F_o_previousSibling
  have F_o_nextSibling := Fld.ext Ex11 F_o_nextSibling
  have F_o_name := Fld.ext Ex11 F_o_name
  have F_o_start := Fld.ext Ex11 F_o_start
  have F_o_length := Fld.ext Ex11 F_o_length
  have F_o_nodes := Fld.ext Ex11 F_o_nodes
  have V_b2 := V_b2.ext Ex11
  have V_b5 := V_b5.ext Ex11
  have V_b8 := V_b8.ext Ex11
  have ge_b11 : n0 ≤ b11 := g11 ▸ sz9
  have sz11 : n0 ≤ h11.size := Nat.le_trans sz9 Ex11.1
  have szo_b11 : h0.size ≤ b11 := g11 ▸ K.1
  have K := K.ext Ex11
  replace V_b11 : Own.VArr Z h11 b11 .int ((.int (0 : Int32)) :: (.int (0 : Int32)) :: (.int (0 : Int32)) :: (.int (0 : Int32)) :: own_tl) := V_b11
  refine Own.goto X11 hx (pc := 86) 97 (hb hby d9_86) (by decide) (by decide) ?_
  refine Own.putfield X11 hx hZ (pc := 97) hown (host := "") (Or.inl (Wd hw 71 rfl)) Via.refl e11 F_o_previousSibling E_o (Or.inl (Wd hw 72 rfl)) (Wd hw 1 rfl) (ty := (.array .int)) (by decide) rfl rfl N9 ge_o (hb hby d9_97) ?_
  intro T12 h12 X12 e12 W12 N12 F_o_previousSibling
  have sz12 : n0 ≤ h12.size := Nat.le_trans sz11 (Nat.le_of_eq (Wr.size W12).symm)
  have E_o := Exa.wr W12 E_o
  have F_o_parent := Fld.other W12 F_o_parent (Or.inr (slot_ne (Or.inl (Wd hw 65 rfl)) (Or.inl (Wd hw 72 rfl)) (by decide) (ht := (by decide : parseFieldDescriptor "[I" = some (.array .int))) (ht' := (by decide : parseFieldDescriptor "[I" = some (.array .int)))))
  have F_o_firstChild := Fld.other W12 F_o_firstChild (Or.inr (slot_ne (Or.inl (Wd hw 68 rfl)) (Or.inl (Wd hw 72 rfl)) (by decide) (ht := (by decide : parseFieldDescriptor "[I" = some (.array .int))) (ht' := (by decide : parseFieldDescriptor "[I" = some (.array .int)))))
  have F_o_lastChild := Fld.other W12 F_o_lastChild (Or.inr (slot_ne (Or.inl (Wd hw 70 rfl)) (Or.inl (Wd hw 72 rfl)) (by decide) (ht := (by decide : parseFieldDescriptor "[I" = some (.array .int))) (ht' := (by decide : parseFieldDescriptor "[I" = some (.array .int)))))
  have F_o_nextSibling := Fld.other W12 F_o_nextSibling (Or.inr (slot_ne (Or.inl (Wd hw 74 rfl)) (Or.inl (Wd hw 72 rfl)) (by decide) (ht := (by decide : parseFieldDescriptor "[I" = some (.array .int))) (ht' := (by decide : parseFieldDescriptor "[I" = some (.array .int)))))
  have F_o_name := Fld.other W12 F_o_name (Or.inr (slot_ne (Or.inl (Wd hw 76 rfl)) (Or.inl (Wd hw 72 rfl)) (by decide) (ht := (by decide : parseFieldDescriptor "[I" = some (.array .int))) (ht' := (by decide : parseFieldDescriptor "[I" = some (.array .int)))))
  have F_o_start := Fld.other W12 F_o_start (Or.inr (slot_ne (Or.inl (Wd hw 78 rfl)) (Or.inl (Wd hw 72 rfl)) (by decide) (ht := (by decide : parseFieldDescriptor "[I" = some (.array .int))) (ht' := (by decide : parseFieldDescriptor "[I" = some (.array .int)))))
  have F_o_length := Fld.other W12 F_o_length (Or.inr (slot_ne (Or.inl (Wd hw 80 rfl)) (Or.inl (Wd hw 72 rfl)) (by decide) (ht := (by decide : parseFieldDescriptor "[I" = some (.array .int))) (ht' := (by decide : parseFieldDescriptor "[I" = some (.array .int)))))
  have F_o_nodes := Fld.other W12 F_o_nodes (Or.inr (slot_ne (Or.inl (Wd hw 86 rfl)) (Or.inl (Wd hw 72 rfl)) (by decide) (ht := (by decide : parseFieldDescriptor "I" = some .int)) (ht' := (by decide : parseFieldDescriptor "[I" = some (.array .int)))))
  have V_b2 := V_b2.other W12 (Ne.symm ne_o_b2)
  have V_b5 := V_b5.other W12 (Ne.symm ne_o_b5)
  have V_b8 := V_b8.other W12 (Ne.symm ne_o_b8)
  have V_b11 := V_b11.other W12 (Ne.symm ne_o_b11)
  have K := K.wr W12 (Or.inl (by simp))
  refine Own.aloadN X12 hx (pc := 100) (hb hby d9_100) rfl rfl ?_
  refine Own.aloadN X12 hx (pc := 101) (hb hby d9_101) rfl rfl ?_
  refine Own.getfield X12 hx hZ (pc := 102) hown (host := "") (Or.inl (Wd hw 73 rfl)) Via.refl e12 F_o_nextSibling (hb hby d9_102) ?_
  intro T13 X13 e13
  refine Own.ifnonnullNo X13 hx (pc := 105) (hb hby d9_105) ?_
  refine Own.iloadN X13 hx (pc := 108) (hb hby d9_108) rfl ?_
  refine Own.newarr X13 hx hZ (pc := 109) (aty := .int) (Wd hw 66 rfl) e13 (hb hby d9_109) (by decide) 64 64 (by decide) (by decide) (by decide) (by decide) (by decide) ?_
  intro T14 h14 b14 g14 X14 e14 Ex14 V_b14
  have ne_o_b14 : o ≠ b14 := Nat.ne_of_lt (g14 ▸ E_o.lt)
  have ne_b2_b14 : b2 ≠ b14 := Nat.ne_of_lt (g14 ▸ V_b2.lt)
  have ne_b5_b14 : b5 ≠ b14 := Nat.ne_of_lt (g14 ▸ V_b5.lt)
  have ne_b8_b14 : b8 ≠ b14 := Nat.ne_of_lt (g14 ▸ V_b8.lt)
  have ne_b11_b14 : b11 ≠ b14 := Nat.ne_of_lt (g14 ▸ V_b11.lt)
  have E_o := Exa.ext Ex14 E_o
  have F_o_parent := Fld.ext Ex14 F_o_parent
  have F_o_firstChild := Fld.ext Ex14 F_o_firstChild
  have F_o_lastChild := Fld.ext Ex14 F_o_lastChild
  have F_o_previousSibling := Fld.ext Ex14 F_o_previousSibling
  have F_o_nextSibling := Fld.ext Ex14 F_o_nextSibling
  have F_o_name := Fld.ext Ex14 F_o_name
  have F_o_start := Fld.ext Ex14 F_o_start
  have F_o_length := Fld.ext Ex14 F_o_length
  have F_o_nodes := Fld.ext Ex14 F_o_nodes
  have V_b2 := V_b2.ext Ex14
  have V_b5 := V_b5.ext Ex14
  have V_b8 := V_b8.ext Ex14
  have V_b11 := V_b11.ext Ex14
  have ge_b14 : n0 ≤ b14 := g14 ▸ sz12
  have sz14 : n0 ≤ h14.size := Nat.le_trans sz12 Ex14.1
  have szo_b14 : h0.size ≤ b14 := g14 ▸ K.1
  have K := K.ext Ex14
  replace V_b14 : Own.VArr Z h14 b14 .int ((.int (0 : Int32)) :: (.int (0 : Int32)) :: (.int (0 : Int32)) :: (.int (0 : Int32)) :: own_tl) := V_b14
  refine Own.goto X14 hx (pc := 111) 122 (hb hby d9_111) (by decide) (by decide) ?_
  refine Own.putfield X14 hx hZ (pc := 122) hown (host := "") (Or.inl (Wd hw 73 rfl)) Via.refl e14 F_o_nextSibling E_o (Or.inl (Wd hw 74 rfl)) (Wd hw 1 rfl) (ty := (.array .int)) (by decide) rfl rfl N12 ge_o (hb hby d9_122) ?_
  intro T15 h15 X15 e15 W15 N15 F_o_nextSibling
  have sz15 : n0 ≤ h15.size := Nat.le_trans sz14 (Nat.le_of_eq (Wr.size W15).symm)
  have E_o := Exa.wr W15 E_o
  have F_o_parent := Fld.other W15 F_o_parent (Or.inr (slot_ne (Or.inl (Wd hw 65 rfl)) (Or.inl (Wd hw 74 rfl)) (by decide) (ht := (by decide : parseFieldDescriptor "[I" = some (.array .int))) (ht' := (by decide : parseFieldDescriptor "[I" = some (.array .int)))))
  have F_o_firstChild := Fld.other W15 F_o_firstChild (Or.inr (slot_ne (Or.inl (Wd hw 68 rfl)) (Or.inl (Wd hw 74 rfl)) (by decide) (ht := (by decide : parseFieldDescriptor "[I" = some (.array .int))) (ht' := (by decide : parseFieldDescriptor "[I" = some (.array .int)))))
  have F_o_lastChild := Fld.other W15 F_o_lastChild (Or.inr (slot_ne (Or.inl (Wd hw 70 rfl)) (Or.inl (Wd hw 74 rfl)) (by decide) (ht := (by decide : parseFieldDescriptor "[I" = some (.array .int))) (ht' := (by decide : parseFieldDescriptor "[I" = some (.array .int)))))
  have F_o_previousSibling := Fld.other W15 F_o_previousSibling (Or.inr (slot_ne (Or.inl (Wd hw 72 rfl)) (Or.inl (Wd hw 74 rfl)) (by decide) (ht := (by decide : parseFieldDescriptor "[I" = some (.array .int))) (ht' := (by decide : parseFieldDescriptor "[I" = some (.array .int)))))
  have F_o_name := Fld.other W15 F_o_name (Or.inr (slot_ne (Or.inl (Wd hw 76 rfl)) (Or.inl (Wd hw 74 rfl)) (by decide) (ht := (by decide : parseFieldDescriptor "[I" = some (.array .int))) (ht' := (by decide : parseFieldDescriptor "[I" = some (.array .int)))))
  have F_o_start := Fld.other W15 F_o_start (Or.inr (slot_ne (Or.inl (Wd hw 78 rfl)) (Or.inl (Wd hw 74 rfl)) (by decide) (ht := (by decide : parseFieldDescriptor "[I" = some (.array .int))) (ht' := (by decide : parseFieldDescriptor "[I" = some (.array .int)))))
  have F_o_length := Fld.other W15 F_o_length (Or.inr (slot_ne (Or.inl (Wd hw 80 rfl)) (Or.inl (Wd hw 74 rfl)) (by decide) (ht := (by decide : parseFieldDescriptor "[I" = some (.array .int))) (ht' := (by decide : parseFieldDescriptor "[I" = some (.array .int)))))
  have F_o_nodes := Fld.other W15 F_o_nodes (Or.inr (slot_ne (Or.inl (Wd hw 86 rfl)) (Or.inl (Wd hw 74 rfl)) (by decide) (ht := (by decide : parseFieldDescriptor "I" = some .int)) (ht' := (by decide : parseFieldDescriptor "[I" = some (.array .int)))))
  have V_b2 := V_b2.other W15 (Ne.symm ne_o_b2)
  have V_b5 := V_b5.other W15 (Ne.symm ne_o_b5)
  have V_b8 := V_b8.other W15 (Ne.symm ne_o_b8)
  have V_b11 := V_b11.other W15 (Ne.symm ne_o_b11)
  have V_b14 := V_b14.other W15 (Ne.symm ne_o_b14)
  have K := K.wr W15 (Or.inl (by simp))
  refine Own.aloadN X15 hx (pc := 125) (hb hby d9_125) rfl rfl ?_
  refine Own.aloadN X15 hx (pc := 126) (hb hby d9_126) rfl rfl ?_
  refine Own.getfield X15 hx hZ (pc := 127) hown (host := "") (Or.inl (Wd hw 75 rfl)) Via.refl e15 F_o_name (hb hby d9_127) ?_
  intro T16 X16 e16
  refine Own.ifnonnullNo X16 hx (pc := 130) (hb hby d9_130) ?_
  refine Own.iloadN X16 hx (pc := 133) (hb hby d9_133) rfl ?_
  refine Own.newarr X16 hx hZ (pc := 134) (aty := .int) (Wd hw 66 rfl) e16 (hb hby d9_134) (by decide) 64 64 (by decide) (by decide) (by decide) (by decide) (by decide) ?_
  intro T17 h17 b17 g17 X17 e17 Ex17 V_b17
  have ne_o_b17 : o ≠ b17 := Nat.ne_of_lt (g17 ▸ E_o.lt)
  have ne_b2_b17 : b2 ≠ b17 := Nat.ne_of_lt (g17 ▸ V_b2.lt)
  have ne_b5_b17 : b5 ≠ b17 := Nat.ne_of_lt (g17 ▸ V_b5.lt)
  have ne_b8_b17 : b8 ≠ b17 := Nat.ne_of_lt (g17 ▸ V_b8.lt)
  have ne_b11_b17 : b11 ≠ b17 := Nat.ne_of_lt (g17 ▸ V_b11.lt)
  have ne_b14_b17 : b14 ≠ b17 := Nat.ne_of_lt (g17 ▸ V_b14.lt)
  have E_o := Exa.ext Ex17 E_o
  have F_o_parent := Fld.ext Ex17 F_o_parent
  have F_o_firstChild := Fld.ext Ex17 F_o_firstChild
  have F_o_lastChild := Fld.ext Ex17 F_o_lastChild
  have F_o_previousSibling := Fld.ext Ex17 F_o_previousSibling
  have F_o_nextSibling := Fld.ext Ex17 F_o_nextSibling
  have F_o_name := Fld.ext Ex17 F_o_name
  have F_o_start := Fld.ext Ex17 F_o_start
  have F_o_length := Fld.ext Ex17 F_o_length
  have F_o_nodes := Fld.ext Ex17 F_o_nodes
  have V_b2 := V_b2.ext Ex17
  have V_b5 := V_b5.ext Ex17
  have V_b8 := V_b8.ext Ex17
  have V_b11 := V_b11.ext Ex17
  have V_b14 := V_b14.ext Ex17
  have ge_b17 : n0 ≤ b17 := g17 ▸ sz15
  have sz17 : n0 ≤ h17.size := Nat.le_trans sz15 Ex17.1
  have szo_b17 : h0.size ≤ b17 := g17 ▸ K.1
  have K := K.ext Ex17
  replace V_b17 : Own.VArr Z h17 b17 .int ((.int (0 : Int32)) :: (.int (0 : Int32)) :: (.int (0 : Int32)) :: (.int (0 : Int32)) :: own_tl) := V_b17
  refine Own.goto X17 hx (pc := 136) 147 (hb hby d9_136) (by decide) (by decide) ?_
  refine Own.putfield X17 hx hZ (pc := 147) hown (host := "") (Or.inl (Wd hw 75 rfl)) Via.refl e17 F_o_name E_o (Or.inl (Wd hw 76 rfl)) (Wd hw 1 rfl) (ty := (.array .int)) (by decide) rfl rfl N15 ge_o (hb hby d9_147) ?_
  intro T18 h18 X18 e18 W18 N18 F_o_name
  have sz18 : n0 ≤ h18.size := Nat.le_trans sz17 (Nat.le_of_eq (Wr.size W18).symm)
  have E_o := Exa.wr W18 E_o
  have F_o_parent := Fld.other W18 F_o_parent (Or.inr (slot_ne (Or.inl (Wd hw 65 rfl)) (Or.inl (Wd hw 76 rfl)) (by decide) (ht := (by decide : parseFieldDescriptor "[I" = some (.array .int))) (ht' := (by decide : parseFieldDescriptor "[I" = some (.array .int)))))
  have F_o_firstChild := Fld.other W18 F_o_firstChild (Or.inr (slot_ne (Or.inl (Wd hw 68 rfl)) (Or.inl (Wd hw 76 rfl)) (by decide) (ht := (by decide : parseFieldDescriptor "[I" = some (.array .int))) (ht' := (by decide : parseFieldDescriptor "[I" = some (.array .int)))))
  have F_o_lastChild := Fld.other W18 F_o_lastChild (Or.inr (slot_ne (Or.inl (Wd hw 70 rfl)) (Or.inl (Wd hw 76 rfl)) (by decide) (ht := (by decide : parseFieldDescriptor "[I" = some (.array .int))) (ht' := (by decide : parseFieldDescriptor "[I" = some (.array .int)))))
  have F_o_previousSibling := Fld.other W18 F_o_previousSibling (Or.inr (slot_ne (Or.inl (Wd hw 72 rfl)) (Or.inl (Wd hw 76 rfl)) (by decide) (ht := (by decide : parseFieldDescriptor "[I" = some (.array .int))) (ht' := (by decide : parseFieldDescriptor "[I" = some (.array .int)))))
  have F_o_nextSibling := Fld.other W18 F_o_nextSibling (Or.inr (slot_ne (Or.inl (Wd hw 74 rfl)) (Or.inl (Wd hw 76 rfl)) (by decide) (ht := (by decide : parseFieldDescriptor "[I" = some (.array .int))) (ht' := (by decide : parseFieldDescriptor "[I" = some (.array .int)))))
  have F_o_start := Fld.other W18 F_o_start (Or.inr (slot_ne (Or.inl (Wd hw 78 rfl)) (Or.inl (Wd hw 76 rfl)) (by decide) (ht := (by decide : parseFieldDescriptor "[I" = some (.array .int))) (ht' := (by decide : parseFieldDescriptor "[I" = some (.array .int)))))
  have F_o_length := Fld.other W18 F_o_length (Or.inr (slot_ne (Or.inl (Wd hw 80 rfl)) (Or.inl (Wd hw 76 rfl)) (by decide) (ht := (by decide : parseFieldDescriptor "[I" = some (.array .int))) (ht' := (by decide : parseFieldDescriptor "[I" = some (.array .int)))))
  have F_o_nodes := Fld.other W18 F_o_nodes (Or.inr (slot_ne (Or.inl (Wd hw 86 rfl)) (Or.inl (Wd hw 76 rfl)) (by decide) (ht := (by decide : parseFieldDescriptor "I" = some .int)) (ht' := (by decide : parseFieldDescriptor "[I" = some (.array .int)))))
  have V_b2 := V_b2.other W18 (Ne.symm ne_o_b2)
  have V_b5 := V_b5.other W18 (Ne.symm ne_o_b5)
  have V_b8 := V_b8.other W18 (Ne.symm ne_o_b8)
  have V_b11 := V_b11.other W18 (Ne.symm ne_o_b11)
  have V_b14 := V_b14.other W18 (Ne.symm ne_o_b14)
  have V_b17 := V_b17.other W18 (Ne.symm ne_o_b17)
  have K := K.wr W18 (Or.inl (by simp))
  refine Own.aloadN X18 hx (pc := 150) (hb hby d9_150) rfl rfl ?_
  refine Own.aloadN X18 hx (pc := 151) (hb hby d9_151) rfl rfl ?_
  refine Own.getfield X18 hx hZ (pc := 152) hown (host := "") (Or.inl (Wd hw 77 rfl)) Via.refl e18 F_o_start (hb hby d9_152) ?_
  intro T19 X19 e19
  refine Own.ifnonnullNo X19 hx (pc := 155) (hb hby d9_155) ?_
  refine Own.iloadN X19 hx (pc := 158) (hb hby d9_158) rfl ?_
  refine Own.newarr X19 hx hZ (pc := 159) (aty := .int) (Wd hw 66 rfl) e19 (hb hby d9_159) (by decide) 64 64 (by decide) (by decide) (by decide) (by decide) (by decide) ?_
  intro T20 h20 b20 g20 X20 e20 Ex20 V_b20
  have ne_o_b20 : o ≠ b20 := Nat.ne_of_lt (g20 ▸ E_o.lt)
  have ne_b2_b20 : b2 ≠ b20 := Nat.ne_of_lt (g20 ▸ V_b2.lt)
  have ne_b5_b20 : b5 ≠ b20 := Nat.ne_of_lt (g20 ▸ V_b5.lt)
  have ne_b8_b20 : b8 ≠ b20 := Nat.ne_of_lt (g20 ▸ V_b8.lt)
  have ne_b11_b20 : b11 ≠ b20 := Nat.ne_of_lt (g20 ▸ V_b11.lt)
  have ne_b14_b20 : b14 ≠ b20 := Nat.ne_of_lt (g20 ▸ V_b14.lt)
  have ne_b17_b20 : b17 ≠ b20 := Nat.ne_of_lt (g20 ▸ V_b17.lt)
  have E_o := Exa.ext Ex20 E_o
  have F_o_parent := Fld.ext Ex20 F_o_parent
  have F_o_firstChild := Fld.ext Ex20 F_o_firstChild
  have F_o_lastChild := Fld.ext Ex20 F_o_lastChild
  have F_o_previousSibling := Fld.ext Ex20 F_o_previousSibling
  have F_o_nextSibling := Fld.ext Ex20 F_o_nextSibling
  have F_o_name := Fld.ext Ex20 F_o_name
  have F_o_start := Fld.ext Ex20 F_o_start
  have F_o_length := Fld.ext Ex20 F_o_length
  have F_o_nodes := Fld.ext Ex20 F_o_nodes
  have V_b2 := V_b2.ext Ex20
  have V_b5 := V_b5.ext Ex20
  have V_b8 := V_b8.ext Ex20
  have V_b11 := V_b11.ext Ex20
  have V_b14 := V_b14.ext Ex20
  have V_b17 := V_b17.ext Ex20
  have ge_b20 : n0 ≤ b20 := g20 ▸ sz18
  have sz20 : n0 ≤ h20.size := Nat.le_trans sz18 Ex20.1
  have szo_b20 : h0.size ≤ b20 := g20 ▸ K.1
  have K := K.ext Ex20
  replace V_b20 : Own.VArr Z h20 b20 .int ((.int (0 : Int32)) :: (.int (0 : Int32)) :: (.int (0 : Int32)) :: (.int (0 : Int32)) :: own_tl) := V_b20
  refine Own.goto X20 hx (pc := 161) 172 (hb hby d9_161) (by decide) (by decide) ?_
  refine Own.putfield X20 hx hZ (pc := 172) hown (host := "") (Or.inl (Wd hw 77 rfl)) Via.refl e20 F_o_start E_o (Or.inl (Wd hw 78 rfl)) (Wd hw 1 rfl) (ty := (.array .int)) (by decide) rfl rfl N18 ge_o (hb hby d9_172) ?_
  intro T21 h21 X21 e21 W21 N21 F_o_start
  have sz21 : n0 ≤ h21.size := Nat.le_trans sz20 (Nat.le_of_eq (Wr.size W21).symm)
  have E_o := Exa.wr W21 E_o
  have F_o_parent := Fld.other W21 F_o_parent (Or.inr (slot_ne (Or.inl (Wd hw 65 rfl)) (Or.inl (Wd hw 78 rfl)) (by decide) (ht := (by decide : parseFieldDescriptor "[I" = some (.array .int))) (ht' := (by decide : parseFieldDescriptor "[I" = some (.array .int)))))
  have F_o_firstChild := Fld.other W21 F_o_firstChild (Or.inr (slot_ne (Or.inl (Wd hw 68 rfl)) (Or.inl (Wd hw 78 rfl)) (by decide) (ht := (by decide : parseFieldDescriptor "[I" = some (.array .int))) (ht' := (by decide : parseFieldDescriptor "[I" = some (.array .int)))))
  have F_o_lastChild := Fld.other W21 F_o_lastChild (Or.inr (slot_ne (Or.inl (Wd hw 70 rfl)) (Or.inl (Wd hw 78 rfl)) (by decide) (ht := (by decide : parseFieldDescriptor "[I" = some (.array .int))) (ht' := (by decide : parseFieldDescriptor "[I" = some (.array .int)))))
  have F_o_previousSibling := Fld.other W21 F_o_previousSibling (Or.inr (slot_ne (Or.inl (Wd hw 72 rfl)) (Or.inl (Wd hw 78 rfl)) (by decide) (ht := (by decide : parseFieldDescriptor "[I" = some (.array .int))) (ht' := (by decide : parseFieldDescriptor "[I" = some (.array .int)))))
  have F_o_nextSibling := Fld.other W21 F_o_nextSibling (Or.inr (slot_ne (Or.inl (Wd hw 74 rfl)) (Or.inl (Wd hw 78 rfl)) (by decide) (ht := (by decide : parseFieldDescriptor "[I" = some (.array .int))) (ht' := (by decide : parseFieldDescriptor "[I" = some (.array .int)))))
  have F_o_name := Fld.other W21 F_o_name (Or.inr (slot_ne (Or.inl (Wd hw 76 rfl)) (Or.inl (Wd hw 78 rfl)) (by decide) (ht := (by decide : parseFieldDescriptor "[I" = some (.array .int))) (ht' := (by decide : parseFieldDescriptor "[I" = some (.array .int)))))
  have F_o_length := Fld.other W21 F_o_length (Or.inr (slot_ne (Or.inl (Wd hw 80 rfl)) (Or.inl (Wd hw 78 rfl)) (by decide) (ht := (by decide : parseFieldDescriptor "[I" = some (.array .int))) (ht' := (by decide : parseFieldDescriptor "[I" = some (.array .int)))))
  have F_o_nodes := Fld.other W21 F_o_nodes (Or.inr (slot_ne (Or.inl (Wd hw 86 rfl)) (Or.inl (Wd hw 78 rfl)) (by decide) (ht := (by decide : parseFieldDescriptor "I" = some .int)) (ht' := (by decide : parseFieldDescriptor "[I" = some (.array .int)))))
  have V_b2 := V_b2.other W21 (Ne.symm ne_o_b2)
  have V_b5 := V_b5.other W21 (Ne.symm ne_o_b5)
  have V_b8 := V_b8.other W21 (Ne.symm ne_o_b8)
  have V_b11 := V_b11.other W21 (Ne.symm ne_o_b11)
  have V_b14 := V_b14.other W21 (Ne.symm ne_o_b14)
  have V_b17 := V_b17.other W21 (Ne.symm ne_o_b17)
  have V_b20 := V_b20.other W21 (Ne.symm ne_o_b20)
  have K := K.wr W21 (Or.inl (by simp))
  refine Own.aloadN X21 hx (pc := 175) (hb hby d9_175) rfl rfl ?_
  refine Own.aloadN X21 hx (pc := 176) (hb hby d9_176) rfl rfl ?_
  refine Own.getfield X21 hx hZ (pc := 177) hown (host := "") (Or.inl (Wd hw 79 rfl)) Via.refl e21 F_o_length (hb hby d9_177) ?_
  intro T22 X22 e22
  refine Own.ifnonnullNo X22 hx (pc := 180) (hb hby d9_180) ?_
  refine Own.iloadN X22 hx (pc := 183) (hb hby d9_183) rfl ?_
  refine Own.newarr X22 hx hZ (pc := 184) (aty := .int) (Wd hw 66 rfl) e22 (hb hby d9_184) (by decide) 64 64 (by decide) (by decide) (by decide) (by decide) (by decide) ?_
  intro T23 h23 b23 g23 X23 e23 Ex23 V_b23
  have ne_o_b23 : o ≠ b23 := Nat.ne_of_lt (g23 ▸ E_o.lt)
  have ne_b2_b23 : b2 ≠ b23 := Nat.ne_of_lt (g23 ▸ V_b2.lt)
  have ne_b5_b23 : b5 ≠ b23 := Nat.ne_of_lt (g23 ▸ V_b5.lt)
  have ne_b8_b23 : b8 ≠ b23 := Nat.ne_of_lt (g23 ▸ V_b8.lt)
  have ne_b11_b23 : b11 ≠ b23 := Nat.ne_of_lt (g23 ▸ V_b11.lt)
  have ne_b14_b23 : b14 ≠ b23 := Nat.ne_of_lt (g23 ▸ V_b14.lt)
  have ne_b17_b23 : b17 ≠ b23 := Nat.ne_of_lt (g23 ▸ V_b17.lt)
  have ne_b20_b23 : b20 ≠ b23 := Nat.ne_of_lt (g23 ▸ V_b20.lt)
  have E_o := Exa.ext Ex23 E_o
  have F_o_parent := Fld.ext Ex23 F_o_parent
  have F_o_firstChild := Fld.ext Ex23 F_o_firstChild
  have F_o_lastChild := Fld.ext Ex23 F_o_lastChild
  have F_o_previousSibling := Fld.ext Ex23 F_o_previousSibling
  have F_o_nextSibling := Fld.ext Ex23 F_o_nextSibling
  have F_o_name := Fld.ext Ex23 F_o_name
  have F_o_start := Fld.ext Ex23 F_o_start
  have F_o_length := Fld.ext Ex23 F_o_length
  have F_o_nodes := Fld.ext Ex23 F_o_nodes
  have V_b2 := V_b2.ext Ex23
  have V_b5 := V_b5.ext Ex23
  have V_b8 := V_b8.ext Ex23
  have V_b11 := V_b11.ext Ex23
  have V_b14 := V_b14.ext Ex23
  have V_b17 := V_b17.ext Ex23
  have V_b20 := V_b20.ext Ex23
  have ge_b23 : n0 ≤ b23 := g23 ▸ sz21
  have sz23 : n0 ≤ h23.size := Nat.le_trans sz21 Ex23.1
  have szo_b23 : h0.size ≤ b23 := g23 ▸ K.1
  have K := K.ext Ex23
  replace V_b23 : Own.VArr Z h23 b23 .int ((.int (0 : Int32)) :: (.int (0 : Int32)) :: (.int (0 : Int32)) :: (.int (0 : Int32)) :: own_tl) := V_b23
  refine Own.goto X23 hx (pc := 186) 197 (hb hby d9_186) (by decide) (by decide) ?_
  refine Own.putfield X23 hx hZ (pc := 197) hown (host := "") (Or.inl (Wd hw 79 rfl)) Via.refl e23 F_o_length E_o (Or.inl (Wd hw 80 rfl)) (Wd hw 1 rfl) (ty := (.array .int)) (by decide) rfl rfl N21 ge_o (hb hby d9_197) ?_
  intro T24 h24 X24 e24 W24 N24 F_o_length
  have sz24 : n0 ≤ h24.size := Nat.le_trans sz23 (Nat.le_of_eq (Wr.size W24).symm)
  have E_o := Exa.wr W24 E_o
  have F_o_parent := Fld.other W24 F_o_parent (Or.inr (slot_ne (Or.inl (Wd hw 65 rfl)) (Or.inl (Wd hw 80 rfl)) (by decide) (ht := (by decide : parseFieldDescriptor "[I" = some (.array .int))) (ht' := (by decide : parseFieldDescriptor "[I" = some (.array .int)))))
  have F_o_firstChild := Fld.other W24 F_o_firstChild (Or.inr (slot_ne (Or.inl (Wd hw 68 rfl)) (Or.inl (Wd hw 80 rfl)) (by decide) (ht := (by decide : parseFieldDescriptor "[I" = some (.array .int))) (ht' := (by decide : parseFieldDescriptor "[I" = some (.array .int)))))
  have F_o_lastChild := Fld.other W24 F_o_lastChild (Or.inr (slot_ne (Or.inl (Wd hw 70 rfl)) (Or.inl (Wd hw 80 rfl)) (by decide) (ht := (by decide : parseFieldDescriptor "[I" = some (.array .int))) (ht' := (by decide : parseFieldDescriptor "[I" = some (.array .int)))))
  have F_o_previousSibling := Fld.other W24 F_o_previousSibling (Or.inr (slot_ne (Or.inl (Wd hw 72 rfl)) (Or.inl (Wd hw 80 rfl)) (by decide) (ht := (by decide : parseFieldDescriptor "[I" = some (.array .int))) (ht' := (by decide : parseFieldDescriptor "[I" = some (.array .int)))))
  have F_o_nextSibling := Fld.other W24 F_o_nextSibling (Or.inr (slot_ne (Or.inl (Wd hw 74 rfl)) (Or.inl (Wd hw 80 rfl)) (by decide) (ht := (by decide : parseFieldDescriptor "[I" = some (.array .int))) (ht' := (by decide : parseFieldDescriptor "[I" = some (.array .int)))))
  have F_o_name := Fld.other W24 F_o_name (Or.inr (slot_ne (Or.inl (Wd hw 76 rfl)) (Or.inl (Wd hw 80 rfl)) (by decide) (ht := (by decide : parseFieldDescriptor "[I" = some (.array .int))) (ht' := (by decide : parseFieldDescriptor "[I" = some (.array .int)))))
  have F_o_start := Fld.other W24 F_o_start (Or.inr (slot_ne (Or.inl (Wd hw 78 rfl)) (Or.inl (Wd hw 80 rfl)) (by decide) (ht := (by decide : parseFieldDescriptor "[I" = some (.array .int))) (ht' := (by decide : parseFieldDescriptor "[I" = some (.array .int)))))
  have F_o_nodes := Fld.other W24 F_o_nodes (Or.inr (slot_ne (Or.inl (Wd hw 86 rfl)) (Or.inl (Wd hw 80 rfl)) (by decide) (ht := (by decide : parseFieldDescriptor "I" = some .int)) (ht' := (by decide : parseFieldDescriptor "[I" = some (.array .int)))))
  have V_b2 := V_b2.other W24 (Ne.symm ne_o_b2)
  have V_b5 := V_b5.other W24 (Ne.symm ne_o_b5)
  have V_b8 := V_b8.other W24 (Ne.symm ne_o_b8)
  have V_b11 := V_b11.other W24 (Ne.symm ne_o_b11)
  have V_b14 := V_b14.other W24 (Ne.symm ne_o_b14)
  have V_b17 := V_b17.other W24 (Ne.symm ne_o_b17)
  have V_b20 := V_b20.other W24 (Ne.symm ne_o_b20)
  have V_b23 := V_b23.other W24 (Ne.symm ne_o_b23)
  have K := K.wr W24 (Or.inl (by simp))
  exact Own.vreturn X24 hx hk hret (hb hby d9_200) e24 ⟨b2, b5, b8, b11, b14, b17, b20, b23, rfl, N24, K, ge_b2, ge_b5, ge_b8, ge_b11, ge_b14, ge_b17, ge_b20, ge_b23, szo_b2, szo_b5, szo_b8, szo_b11, szo_b14, szo_b17, szo_b20, szo_b23, ne_b2_b5, ne_b2_b8, ne_b2_b11, ne_b2_b14, ne_b2_b17, ne_b2_b20, ne_b2_b23, ne_b5_b8, ne_b5_b11, ne_b5_b14, ne_b5_b17, ne_b5_b20, ne_b5_b23, ne_b8_b11, ne_b8_b14, ne_b8_b17, ne_b8_b20, ne_b8_b23, ne_b11_b14, ne_b11_b17, ne_b11_b20, ne_b11_b23, ne_b14_b17, ne_b14_b20, ne_b14_b23, ne_b17_b20, ne_b17_b23, ne_b20_b23, F_o_parent, F_o_firstChild, F_o_lastChild, F_o_previousSibling, F_o_nextSibling, F_o_name, F_o_start, F_o_length, F_o_nodes, V_b2, V_b5, V_b8, V_b11, V_b14, V_b17, V_b20, V_b23⟩ (by decide) (by decide)
theorem d10_0 : decode prog_122_method_22_code 0 = .ok (.aload_n 0, 1) := by decide +kernel
theorem d10_1 : decode prog_122_method_22_code 1 = .ok (.getfield 145, 3) := by decide +kernel
theorem d10_4 : decode prog_122_method_22_code 4 = .ok (.aload_n 0, 1) := by decide +kernel
theorem d10_5 : decode prog_122_method_22_code 5 = .ok (.getfield 96, 3) := by decide +kernel
theorem d10_8 : decode prog_122_method_22_code 8 = .ok (.arraylength, 1) := by decide +kernel
theorem d10_9 : decode prog_122_method_22_code 9 = .ok (.if_icmp .ne 18, 3) := by decide +kernel
theorem d10_27 : decode prog_122_method_22_code 27 = .ok (.aload_n 0, 1) := by decide +kernel
theorem d10_28 : decode prog_122_method_22_code 28 = .ok (.dup, 1) := by decide +kernel
theorem d10_29 : decode prog_122_method_22_code 29 = .ok (.getfield 145, 3) := by decide +kernel
theorem d10_32 : decode prog_122_method_22_code 32 = .ok (.dup_x1, 1) := by decide +kernel
theorem d10_33 : decode prog_122_method_22_code 33 = .ok (.iconst 1, 1) := by decide +kernel
theorem d10_34 : decode prog_122_method_22_code 34 = .ok (.iadd, 1) := by decide +kernel
theorem d10_35 : decode prog_122_method_22_code 35 = .ok (.putfield 145, 3) := by decide +kernel
theorem d10_38 : decode prog_122_method_22_code 38 = .ok (.istore_n 2, 1) := by decide +kernel
theorem d10_39 : decode prog_122_method_22_code 39 = .ok (.aload_n 0, 1) := by decide +kernel
theorem d10_40 : decode prog_122_method_22_code 40 = .ok (.getfield 96, 3) := by decide +kernel
theorem d10_43 : decode prog_122_method_22_code 43 = .ok (.iload_n 2, 1) := by decide +kernel
theorem d10_44 : decode prog_122_method_22_code 44 = .ok (.iconst (-1), 1) := by decide +kernel
theorem d10_45 : decode prog_122_method_22_code 45 = .ok (.iastore, 1) := by decide +kernel
theorem d10_46 : decode prog_122_method_22_code 46 = .ok (.aload_n 0, 1) := by decide +kernel
theorem d10_47 : decode prog_122_method_22_code 47 = .ok (.getfield 102, 3) := by decide +kernel
theorem d10_50 : decode prog_122_method_22_code 50 = .ok (.iload_n 2, 1) := by decide +kernel
theorem d10_51 : decode prog_122_method_22_code 51 = .ok (.iconst (-1), 1) := by decide +kernel
theorem d10_52 : decode prog_122_method_22_code 52 = .ok (.iastore, 1) := by decide +kernel
theorem d10_53 : decode prog_122_method_22_code 53 = .ok (.aload_n 0, 1) := by decide +kernel
theorem d10_54 : decode prog_122_method_22_code 54 = .ok (.getfield 90, 3) := by decide +kernel
theorem d10_57 : decode prog_122_method_22_code 57 = .ok (.iload_n 2, 1) := by decide +kernel
theorem d10_58 : decode prog_122_method_22_code 58 = .ok (.iconst (-1), 1) := by decide +kernel
theorem d10_59 : decode prog_122_method_22_code 59 = .ok (.iastore, 1) := by decide +kernel
theorem d10_60 : decode prog_122_method_22_code 60 = .ok (.aload_n 0, 1) := by decide +kernel
theorem d10_61 : decode prog_122_method_22_code 61 = .ok (.getfield 93, 3) := by decide +kernel
theorem d10_64 : decode prog_122_method_22_code 64 = .ok (.iload_n 2, 1) := by decide +kernel
theorem d10_65 : decode prog_122_method_22_code 65 = .ok (.iconst (-1), 1) := by decide +kernel
theorem d10_66 : decode prog_122_method_22_code 66 = .ok (.iastore, 1) := by decide +kernel
theorem d10_67 : decode prog_122_method_22_code 67 = .ok (.aload_n 0, 1) := by decide +kernel
theorem d10_68 : decode prog_122_method_22_code 68 = .ok (.getfield 99, 3) := by decide +kernel
theorem d10_71 : decode prog_122_method_22_code 71 = .ok (.iload_n 2, 1) := by decide +kernel
theorem d10_72 : decode prog_122_method_22_code 72 = .ok (.iconst (-1), 1) := by decide +kernel
theorem d10_73 : decode prog_122_method_22_code 73 = .ok (.iastore, 1) := by decide +kernel
theorem d10_74 : decode prog_122_method_22_code 74 = .ok (.aload_n 0, 1) := by decide +kernel
theorem d10_75 : decode prog_122_method_22_code 75 = .ok (.getfield 84, 3) := by decide +kernel
theorem d10_78 : decode prog_122_method_22_code 78 = .ok (.iload_n 2, 1) := by decide +kernel
theorem d10_79 : decode prog_122_method_22_code 79 = .ok (.iload_n 1, 1) := by decide +kernel
theorem d10_80 : decode prog_122_method_22_code 80 = .ok (.iastore, 1) := by decide +kernel
theorem d10_81 : decode prog_122_method_22_code 81 = .ok (.aload_n 0, 1) := by decide +kernel
theorem d10_82 : decode prog_122_method_22_code 82 = .ok (.getfield 80, 3) := by decide +kernel
theorem d10_85 : decode prog_122_method_22_code 85 = .ok (.iload_n 2, 1) := by decide +kernel
theorem d10_86 : decode prog_122_method_22_code 86 = .ok (.iconst (-1), 1) := by decide +kernel
theorem d10_87 : decode prog_122_method_22_code 87 = .ok (.iastore, 1) := by decide +kernel
theorem d10_88 : decode prog_122_method_22_code 88 = .ok (.iload_n 2, 1) := by decide +kernel
theorem d10_89 : decode prog_122_method_22_code 89 = .ok (.ireturn, 1) := by decide +kernel
theorem ef_rm10 (m : MethodId) (o : Addr) (nd : Int32) : entryFrame m #[(.ref o), (.int nd)] 3 = mkF m 0 #[.val (.ref o), .val (.int nd), .unset] [] := by first | (simp [entryFrame, mkF, argsToLocals, Value.category]; done) | rfl
set_option maxRecDepth 65536 in
set_option maxHeartbeats 40000000 in
theorem rm10 (l : Launch) (Z : State) (a0 : Array Value) (hw : ∀ d ∈ tables_1, d.before a0 Z = true) (o : Addr) (nd : Int32) (pa : Addr) (fc : Addr) (la : Addr) (pv : Addr) (nx : Addr) (nm : Addr) (sr : Addr) (vpa : List Value) (vfc : List Value) (vla : List Value) (vpv : List Value) (vnx : List Value) (vnm : List Value) (vsr : List Value) (ln : Addr) (k : Int32) (h0 : Heap) (n0 : Nat) (Z0 : n0 ≤ h0.size) (E_o : Exa Z h0 o "com/example/sprigdex/sprigdex/index/html/HtmlTree") (F_o_nodes : Fld Z h0 o "com/example/sprigdex/sprigdex/index/html/HtmlTree" "nodes" "I" (.int k)) (F_o_parent : Fld Z h0 o "com/example/sprigdex/sprigdex/index/html/HtmlTree" "parent" "[I" (.ref pa)) (F_o_firstChild : Fld Z h0 o "com/example/sprigdex/sprigdex/index/html/HtmlTree" "firstChild" "[I" (.ref fc)) (F_o_lastChild : Fld Z h0 o "com/example/sprigdex/sprigdex/index/html/HtmlTree" "lastChild" "[I" (.ref la)) (F_o_previousSibling : Fld Z h0 o "com/example/sprigdex/sprigdex/index/html/HtmlTree" "previousSibling" "[I" (.ref pv)) (F_o_nextSibling : Fld Z h0 o "com/example/sprigdex/sprigdex/index/html/HtmlTree" "nextSibling" "[I" (.ref nx)) (F_o_name : Fld Z h0 o "com/example/sprigdex/sprigdex/index/html/HtmlTree" "name" "[I" (.ref nm)) (F_o_start : Fld Z h0 o "com/example/sprigdex/sprigdex/index/html/HtmlTree" "start" "[I" (.ref sr)) (F_o_length : Fld Z h0 o "com/example/sprigdex/sprigdex/index/html/HtmlTree" "length" "[I" (.ref ln)) (V_pa : Own.VArr Z h0 pa .int vpa) (V_fc : Own.VArr Z h0 fc .int vfc) (V_la : Own.VArr Z h0 la .int vla) (V_pv : Own.VArr Z h0 pv .int vpv) (V_nx : Own.VArr Z h0 nx .int vnx) (V_nm : Own.VArr Z h0 nm .int vnm) (V_sr : Own.VArr Z h0 sr .int vsr) (ge_o : n0 ≤ o) (ge_pa : n0 ≤ pa) (ge_fc : n0 ≤ fc) (ge_la : n0 ≤ la) (ge_pv : n0 ≤ pv) (ge_nx : n0 ≤ nx) (ge_nm : n0 ≤ nm) (ge_sr : n0 ≤ sr) (ne_o_pa : o ≠ pa) (ne_o_fc : o ≠ fc) (ne_o_la : o ≠ la) (ne_o_pv : o ≠ pv) (ne_o_nx : o ≠ nx) (ne_o_nm : o ≠ nm) (ne_o_sr : o ≠ sr) (ne_pa_fc : pa ≠ fc) (ne_pa_la : pa ≠ la) (ne_pa_pv : pa ≠ pv) (ne_pa_nx : pa ≠ nx) (ne_pa_nm : pa ≠ nm) (ne_pa_sr : pa ≠ sr) (ne_fc_la : fc ≠ la) (ne_fc_pv : fc ≠ pv) (ne_fc_nx : fc ≠ nx) (ne_fc_nm : fc ≠ nm) (ne_fc_sr : fc ≠ sr) (ne_la_pv : la ≠ pv) (ne_la_nx : la ≠ nx) (ne_la_nm : la ≠ nm) (ne_la_sr : la ≠ sr) (ne_pv_nx : pv ≠ nx) (ne_pv_nm : pv ≠ nm) (ne_pv_sr : pv ≠ sr) (ne_nx_nm : nx ≠ nm) (ne_nx_sr : nx ≠ sr) (ne_nm_sr : nm ≠ sr) (hl_pa : vpa.length = 64) (hl_fc : vfc.length = 64) (hl_la : vla.length = 64) (hl_pv : vpv.length = 64) (hl_nx : vnx.length = 64) (hl_nm : vnm.length = 64) (hl_sr : vsr.length = 64) (hn_k : ¬ k < 0) (hb_k : k.toNatClampNeg < 64) (hk64 : ¬ k = (64 : Int32)) :
    Own.Ct l (⟨"com/example/sprigdex/sprigdex/index/html/HtmlTree", "node", "(I)I"⟩ : MethodName) prog_122_method_22_code 3 (some .int) [] ({ frames := 0, cells := 0, slots := 0, locals := 0 } : Room) Z #[(.ref o), (.int nd)] h0 (fun rV hP lC => rV = some (.int k) ∧ Fr n0 lC ∧ Keep h0 hP [o, pa, fc, la, pv, nx, nm, sr] ∧ Fld Z hP o "com/example/sprigdex/sprigdex/index/html/HtmlTree" "parent" "[I" (.ref pa) ∧ Fld Z hP o "com/example/sprigdex/sprigdex/index/html/HtmlTree" "firstChild" "[I" (.ref fc) ∧ Fld Z hP o "com/example/sprigdex/sprigdex/index/html/HtmlTree" "lastChild" "[I" (.ref la) ∧ Fld Z hP o "com/example/sprigdex/sprigdex/index/html/HtmlTree" "previousSibling" "[I" (.ref pv) ∧ Fld Z hP o "com/example/sprigdex/sprigdex/index/html/HtmlTree" "nextSibling" "[I" (.ref nx) ∧ Fld Z hP o "com/example/sprigdex/sprigdex/index/html/HtmlTree" "name" "[I" (.ref nm) ∧ Fld Z hP o "com/example/sprigdex/sprigdex/index/html/HtmlTree" "start" "[I" (.ref sr) ∧ Fld Z hP o "com/example/sprigdex/sprigdex/index/html/HtmlTree" "length" "[I" (.ref ln) ∧ Fld Z hP o "com/example/sprigdex/sprigdex/index/html/HtmlTree" "nodes" "I" (.int (k + (1 : Int32))) ∧ Own.VArr Z hP pa .int (vpa.set k.toNatClampNeg (.int (-1 : Int32))) ∧ Own.VArr Z hP fc .int (vfc.set k.toNatClampNeg (.int (-1 : Int32))) ∧ Own.VArr Z hP la .int (vla.set k.toNatClampNeg (.int (-1 : Int32))) ∧ Own.VArr Z hP pv .int (vpv.set k.toNatClampNeg (.int (-1 : Int32))) ∧ Own.VArr Z hP nx .int (vnx.set k.toNatClampNeg (.int (-1 : Int32))) ∧ Own.VArr Z hP nm .int (vnm.set k.toNatClampNeg (.int nd)) ∧ Own.VArr Z hP sr .int (vsr.set k.toNatClampNeg (.int (-1 : Int32)))) := by
  refine Own.enter (plainFor_of_name pn6) ?_
  intro p e s m below meth cc s₁ hx hby hml hown hnm hret hk hZ X0 e0
  have N0 := Fr.nil n0
  refine Own.start (ef_rm10 m o nd) ?_
  have K : Keep h0 h0 [o, pa, fc, la, pv, nx, nm, sr] := Keep.refl _ _
  refine Own.aloadN X0 hx (pc := 0) (hb hby d10_0) rfl rfl ?_
  refine Own.getfield X0 hx hZ (pc := 1) hown (host := "") (Or.inl (Wd hw 85 rfl)) Via.refl e0 F_o_nodes (hb hby d10_1) ?_
  intro T1 X1 e1
  refine Own.aloadN X1 hx (pc := 4) (hb hby d10_4) rfl rfl ?_
  refine Own.getfield X1 hx hZ (pc := 5) hown (host := "") (Or.inl (Wd hw 64 rfl)) Via.refl e1 F_o_parent (hb hby d10_5) ?_
  intro T2 X2 e2
  refine Own.alen X2 hx hZ (pc := 8) e2 V_pa (64 : Int32) (by rw [hl_pa]; rfl) (hb hby d10_8) ?_
  refine Own.icmpYes X2 hx (pc := 9) 27 (hb hby d10_9) (XT.ii_ne_t hk64) (by decide) (by decide) ?_
  refine Own.aloadN X2 hx (pc := 27) (hb hby d10_27) rfl rfl ?_
  refine Own.dup X2 hx (pc := 28) (hb hby d10_28) rfl ?_
  refine Own.getfield X2 hx hZ (pc := 29) hown (host := "") (Or.inl (Wd hw 85 rfl)) Via.refl e2 F_o_nodes (hb hby d10_29) ?_
  intro T3 X3 e3
  refine Own.dupX1 X3 hx (pc := 32) (hb hby d10_32) rfl rfl ?_
  refine Own.iconst X3 hx (pc := 33) (1 : Int32) (hb hby d10_33) (by decide) ?_
  refine Own.iadd X3 hx (pc := 34) (hb hby d10_34) ?_
  refine Own.putfield X3 hx hZ (pc := 35) hown (host := "") (Or.inl (Wd hw 85 rfl)) Via.refl e3 F_o_nodes E_o (Or.inl (Wd hw 86 rfl)) (Wd hw 1 rfl) (ty := .int) (by decide) rfl rfl N0 ge_o (hb hby d10_35) ?_
  intro T4 h4 X4 e4 W4 N4 F_o_nodes
  have sz4 : n0 ≤ h4.size := Nat.le_trans Z0 (Nat.le_of_eq (Wr.size W4).symm)
  have E_o := Exa.wr W4 E_o
  have F_o_parent := Fld.other W4 F_o_parent (Or.inr (slot_ne (Or.inl (Wd hw 65 rfl)) (Or.inl (Wd hw 86 rfl)) (by decide) (ht := (by decide : parseFieldDescriptor "[I" = some (.array .int))) (ht' := (by decide : parseFieldDescriptor "I" = some .int))))
  have F_o_firstChild := Fld.other W4 F_o_firstChild (Or.inr (slot_ne (Or.inl (Wd hw 68 rfl)) (Or.inl (Wd hw 86 rfl)) (by decide) (ht := (by decide : parseFieldDescriptor "[I" = some (.array .int))) (ht' := (by decide : parseFieldDescriptor "I" = some .int))))
  have F_o_lastChild := Fld.other W4 F_o_lastChild (Or.inr (slot_ne (Or.inl (Wd hw 70 rfl)) (Or.inl (Wd hw 86 rfl)) (by decide) (ht := (by decide : parseFieldDescriptor "[I" = some (.array .int))) (ht' := (by decide : parseFieldDescriptor "I" = some .int))))
  have F_o_previousSibling := Fld.other W4 F_o_previousSibling (Or.inr (slot_ne (Or.inl (Wd hw 72 rfl)) (Or.inl (Wd hw 86 rfl)) (by decide) (ht := (by decide : parseFieldDescriptor "[I" = some (.array .int))) (ht' := (by decide : parseFieldDescriptor "I" = some .int))))
  have F_o_nextSibling := Fld.other W4 F_o_nextSibling (Or.inr (slot_ne (Or.inl (Wd hw 74 rfl)) (Or.inl (Wd hw 86 rfl)) (by decide) (ht := (by decide : parseFieldDescriptor "[I" = some (.array .int))) (ht' := (by decide : parseFieldDescriptor "I" = some .int))))
  have F_o_name := Fld.other W4 F_o_name (Or.inr (slot_ne (Or.inl (Wd hw 76 rfl)) (Or.inl (Wd hw 86 rfl)) (by decide) (ht := (by decide : parseFieldDescriptor "[I" = some (.array .int))) (ht' := (by decide : parseFieldDescriptor "I" = some .int))))
  have F_o_start := Fld.other W4 F_o_start (Or.inr (slot_ne (Or.inl (Wd hw 78 rfl)) (Or.inl (Wd hw 86 rfl)) (by decide) (ht := (by decide : parseFieldDescriptor "[I" = some (.array .int))) (ht' := (by decide : parseFieldDescriptor "I" = some .int))))
  have F_o_length := Fld.other W4 F_o_length (Or.inr (slot_ne (Or.inl (Wd hw 80 rfl)) (Or.inl (Wd hw 86 rfl)) (by decide) (ht := (by decide : parseFieldDescriptor "[I" = some (.array .int))) (ht' := (by decide : parseFieldDescriptor "I" = some .int))))
  have V_pa := V_pa.other W4 (Ne.symm ne_o_pa)
  have V_fc := V_fc.other W4 (Ne.symm ne_o_fc)
  have V_la := V_la.other W4 (Ne.symm ne_o_la)
  have V_pv := V_pv.other W4 (Ne.symm ne_o_pv)
  have V_nx := V_nx.other W4 (Ne.symm ne_o_nx)
  have V_nm := V_nm.other W4 (Ne.symm ne_o_nm)
  have V_sr := V_sr.other W4 (Ne.symm ne_o_sr)
  have K := K.wr W4 (Or.inl (by simp))
  refine Own.istoreN X4 hx (pc := 38) #[.val (.ref o), .val (.int nd), .val (.int k)] (hb hby d10_38) rfl ?_
  refine Own.aloadN X4 hx (pc := 39) (hb hby d10_39) rfl rfl ?_
  refine Own.getfield X4 hx hZ (pc := 40) hown (host := "") (Or.inl (Wd hw 64 rfl)) Via.refl e4 F_o_parent (hb hby d10_40) ?_
  intro T5 X5 e5
  refine Own.iloadN X5 hx (pc := 43) (hb hby d10_43) rfl ?_
  refine Own.iconst X5 hx (pc := 44) (-1 : Int32) (hb hby d10_44) (by decide) ?_
  refine Own.iastore X5 hx hZ (pc := 45) e5 V_pa k.toNatClampNeg hn_k rfl (by simpa [hl_pa] using hb_k) N4 ge_pa (hb hby d10_45) ?_
  intro T6 h6 X6 e6 W6 N6 V_pa
  have sz6 : n0 ≤ h6.size := Nat.le_trans sz4 (Nat.le_of_eq (Wr.size W6).symm)
  have E_o := Exa.wr W6 E_o
  have F_o_nodes := Fld.other W6 F_o_nodes (Or.inl ne_o_pa)
  have F_o_parent := Fld.other W6 F_o_parent (Or.inl ne_o_pa)
  have F_o_firstChild := Fld.other W6 F_o_firstChild (Or.inl ne_o_pa)
  have F_o_lastChild := Fld.other W6 F_o_lastChild (Or.inl ne_o_pa)
  have F_o_previousSibling := Fld.other W6 F_o_previousSibling (Or.inl ne_o_pa)
  have F_o_nextSibling := Fld.other W6 F_o_nextSibling (Or.inl ne_o_pa)
  have F_o_name := Fld.other W6 F_o_name (Or.inl ne_o_pa)
  have F_o_start := Fld.other W6 F_o_start (Or.inl ne_o_pa)
  have F_o_length := Fld.other W6 F_o_length (Or.inl ne_o_pa)
  have V_fc := V_fc.other W6 (Ne.symm ne_pa_fc)
  have V_la := V_la.other W6 (Ne.symm ne_pa_la)
  have V_pv := V_pv.other W6 (Ne.symm ne_pa_pv)
  have V_nx := V_nx.other W6 (Ne.symm ne_pa_nx)
  have V_nm := V_nm.other W6 (Ne.symm ne_pa_nm)
  have V_sr := V_sr.other W6 (Ne.symm ne_pa_sr)
  have K := K.wr W6 (Or.inl (by simp))
  refine Own.aloadN X6 hx (pc := 46) (hb hby d10_46) rfl rfl ?_
  refine Own.getfield X6 hx hZ (pc := 47) hown (host := "") (Or.inl (Wd hw 67 rfl)) Via.refl e6 F_o_firstChild (hb hby d10_47) ?_
  intro T7 X7 e7
  refine Own.iloadN X7 hx (pc := 50) (hb hby d10_50) rfl ?_
  refine Own.iconst X7 hx (pc := 51) (-1 : Int32) (hb hby d10_51) (by decide) ?_
  refine Own.iastore X7 hx hZ (pc := 52) e7 V_fc k.toNatClampNeg hn_k rfl (by simpa [hl_fc] using hb_k) N6 ge_fc (hb hby d10_52) ?_
  intro T8 h8 X8 e8 W8 N8 V_fc
  have sz8 : n0 ≤ h8.size := Nat.le_trans sz6 (Nat.le_of_eq (Wr.size W8).symm)
  have E_o := Exa.wr W8 E_o
  have F_o_nodes := Fld.other W8 F_o_nodes (Or.inl ne_o_fc)
  have F_o_parent := Fld.other W8 F_o_parent (Or.inl ne_o_fc)
  have F_o_firstChild := Fld.other W8 F_o_firstChild (Or.inl ne_o_fc)
  have F_o_lastChild := Fld.other W8 F_o_lastChild (Or.inl ne_o_fc)
  have F_o_previousSibling := Fld.other W8 F_o_previousSibling (Or.inl ne_o_fc)
  have F_o_nextSibling := Fld.other W8 F_o_nextSibling (Or.inl ne_o_fc)
  have F_o_name := Fld.other W8 F_o_name (Or.inl ne_o_fc)
  have F_o_start := Fld.other W8 F_o_start (Or.inl ne_o_fc)
  have F_o_length := Fld.other W8 F_o_length (Or.inl ne_o_fc)
  have V_pa := V_pa.other W8 ne_pa_fc
  have V_la := V_la.other W8 (Ne.symm ne_fc_la)
  have V_pv := V_pv.other W8 (Ne.symm ne_fc_pv)
  have V_nx := V_nx.other W8 (Ne.symm ne_fc_nx)
  have V_nm := V_nm.other W8 (Ne.symm ne_fc_nm)
  have V_sr := V_sr.other W8 (Ne.symm ne_fc_sr)
  have K := K.wr W8 (Or.inl (by simp))
  refine Own.aloadN X8 hx (pc := 53) (hb hby d10_53) rfl rfl ?_
  refine Own.getfield X8 hx hZ (pc := 54) hown (host := "") (Or.inl (Wd hw 69 rfl)) Via.refl e8 F_o_lastChild (hb hby d10_54) ?_
  intro T9 X9 e9
  refine Own.iloadN X9 hx (pc := 57) (hb hby d10_57) rfl ?_
  refine Own.iconst X9 hx (pc := 58) (-1 : Int32) (hb hby d10_58) (by decide) ?_
  refine Own.iastore X9 hx hZ (pc := 59) e9 V_la k.toNatClampNeg hn_k rfl (by simpa [hl_la] using hb_k) N8 ge_la (hb hby d10_59) ?_
  intro T10 h10 X10 e10 W10 N10 V_la
  have sz10 : n0 ≤ h10.size := Nat.le_trans sz8 (Nat.le_of_eq (Wr.size W10).symm)
  have E_o := Exa.wr W10 E_o
  have F_o_nodes := Fld.other W10 F_o_nodes (Or.inl ne_o_la)
  have F_o_parent := Fld.other W10 F_o_parent (Or.inl ne_o_la)
  have F_o_firstChild := Fld.other W10 F_o_firstChild (Or.inl ne_o_la)
  have F_o_lastChild := Fld.other W10 F_o_lastChild (Or.inl ne_o_la)
  have F_o_previousSibling := Fld.other W10 F_o_previousSibling (Or.inl ne_o_la)
  have F_o_nextSibling := Fld.other W10 F_o_nextSibling (Or.inl ne_o_la)
  have F_o_name := Fld.other W10 F_o_name (Or.inl ne_o_la)
  have F_o_start := Fld.other W10 F_o_start (Or.inl ne_o_la)
  have F_o_length := Fld.other W10 F_o_length (Or.inl ne_o_la)
  have V_pa := V_pa.other W10 ne_pa_la
  have V_fc := V_fc.other W10 ne_fc_la
  have V_pv := V_pv.other W10 (Ne.symm ne_la_pv)
  have V_nx := V_nx.other W10 (Ne.symm ne_la_nx)
  have V_nm := V_nm.other W10 (Ne.symm ne_la_nm)
  have V_sr := V_sr.other W10 (Ne.symm ne_la_sr)
  have K := K.wr W10 (Or.inl (by simp))
  refine Own.aloadN X10 hx (pc := 60) (hb hby d10_60) rfl rfl ?_
  refine Own.getfield X10 hx hZ (pc := 61) hown (host := "") (Or.inl (Wd hw 71 rfl)) Via.refl e10 F_o_previousSibling (hb hby d10_61) ?_
  intro T11 X11 e11
  refine Own.iloadN X11 hx (pc := 64) (hb hby d10_64) rfl ?_
  refine Own.iconst X11 hx (pc := 65) (-1 : Int32) (hb hby d10_65) (by decide) ?_
  refine Own.iastore X11 hx hZ (pc := 66) e11 V_pv k.toNatClampNeg hn_k rfl (by simpa [hl_pv] using hb_k) N10 ge_pv (hb hby d10_66) ?_
  intro T12 h12 X12 e12 W12 N12 V_pv
  have sz12 : n0 ≤ h12.size := Nat.le_trans sz10 (Nat.le_of_eq (Wr.size W12).symm)
  have E_o := Exa.wr W12 E_o
  have F_o_nodes := Fld.other W12 F_o_nodes (Or.inl ne_o_pv)
  have F_o_parent := Fld.other W12 F_o_parent (Or.inl ne_o_pv)
  have F_o_firstChild := Fld.other W12 F_o_firstChild (Or.inl ne_o_pv)
  have F_o_lastChild := Fld.other W12 F_o_lastChild (Or.inl ne_o_pv)
  have F_o_previousSibling := Fld.other W12 F_o_previousSibling (Or.inl ne_o_pv)
  have F_o_nextSibling := Fld.other W12 F_o_nextSibling (Or.inl ne_o_pv)
  have F_o_name := Fld.other W12 F_o_name (Or.inl ne_o_pv)
  have F_o_start := Fld.other W12 F_o_start (Or.inl ne_o_pv)
  have F_o_length := Fld.other W12 F_o_length (Or.inl ne_o_pv)
  have V_pa := V_pa.other W12 ne_pa_pv
  have V_fc := V_fc.other W12 ne_fc_pv
  have V_la := V_la.other W12 ne_la_pv
  have V_nx := V_nx.other W12 (Ne.symm ne_pv_nx)
  have V_nm := V_nm.other W12 (Ne.symm ne_pv_nm)
  have V_sr := V_sr.other W12 (Ne.symm ne_pv_sr)
  have K := K.wr W12 (Or.inl (by simp))
  refine Own.aloadN X12 hx (pc := 67) (hb hby d10_67) rfl rfl ?_
  refine Own.getfield X12 hx hZ (pc := 68) hown (host := "") (Or.inl (Wd hw 73 rfl)) Via.refl e12 F_o_nextSibling (hb hby d10_68) ?_
  intro T13 X13 e13
  refine Own.iloadN X13 hx (pc := 71) (hb hby d10_71) rfl ?_
  refine Own.iconst X13 hx (pc := 72) (-1 : Int32) (hb hby d10_72) (by decide) ?_
  refine Own.iastore X13 hx hZ (pc := 73) e13 V_nx k.toNatClampNeg hn_k rfl (by simpa [hl_nx] using hb_k) N12 ge_nx (hb hby d10_73) ?_
  intro T14 h14 X14 e14 W14 N14 V_nx
  have sz14 : n0 ≤ h14.size := Nat.le_trans sz12 (Nat.le_of_eq (Wr.size W14).symm)
  have E_o := Exa.wr W14 E_o
  have F_o_nodes := Fld.other W14 F_o_nodes (Or.inl ne_o_nx)
  have F_o_parent := Fld.other W14 F_o_parent (Or.inl ne_o_nx)
  have F_o_firstChild := Fld.other W14 F_o_firstChild (Or.inl ne_o_nx)
  have F_o_lastChild := Fld.other W14 F_o_lastChild (Or.inl ne_o_nx)
  have F_o_previousSibling := Fld.other W14 F_o_previousSibling (Or.inl ne_o_nx)
  have F_o_nextSibling := Fld.other W14 F_o_nextSibling (Or.inl ne_o_nx)
  have F_o_name := Fld.other W14 F_o_name (Or.inl ne_o_nx)
  have F_o_start := Fld.other W14 F_o_start (Or.inl ne_o_nx)
  have F_o_length := Fld.other W14 F_o_length (Or.inl ne_o_nx)
  have V_pa := V_pa.other W14 ne_pa_nx
  have V_fc := V_fc.other W14 ne_fc_nx
  have V_la := V_la.other W14 ne_la_nx
  have V_pv := V_pv.other W14 ne_pv_nx
  have V_nm := V_nm.other W14 (Ne.symm ne_nx_nm)
  have V_sr := V_sr.other W14 (Ne.symm ne_nx_sr)
  have K := K.wr W14 (Or.inl (by simp))
  refine Own.aloadN X14 hx (pc := 74) (hb hby d10_74) rfl rfl ?_
  refine Own.getfield X14 hx hZ (pc := 75) hown (host := "") (Or.inl (Wd hw 75 rfl)) Via.refl e14 F_o_name (hb hby d10_75) ?_
  intro T15 X15 e15
  refine Own.iloadN X15 hx (pc := 78) (hb hby d10_78) rfl ?_
  refine Own.iloadN X15 hx (pc := 79) (hb hby d10_79) rfl ?_
  refine Own.iastore X15 hx hZ (pc := 80) e15 V_nm k.toNatClampNeg hn_k rfl (by simpa [hl_nm] using hb_k) N14 ge_nm (hb hby d10_80) ?_
  intro T16 h16 X16 e16 W16 N16 V_nm
  have sz16 : n0 ≤ h16.size := Nat.le_trans sz14 (Nat.le_of_eq (Wr.size W16).symm)
  have E_o := Exa.wr W16 E_o
  have F_o_nodes := Fld.other W16 F_o_nodes (Or.inl ne_o_nm)
  have F_o_parent := Fld.other W16 F_o_parent (Or.inl ne_o_nm)
  have F_o_firstChild := Fld.other W16 F_o_firstChild (Or.inl ne_o_nm)
  have F_o_lastChild := Fld.other W16 F_o_lastChild (Or.inl ne_o_nm)
  have F_o_previousSibling := Fld.other W16 F_o_previousSibling (Or.inl ne_o_nm)
  have F_o_nextSibling := Fld.other W16 F_o_nextSibling (Or.inl ne_o_nm)
  have F_o_name := Fld.other W16 F_o_name (Or.inl ne_o_nm)
  have F_o_start := Fld.other W16 F_o_start (Or.inl ne_o_nm)
  have F_o_length := Fld.other W16 F_o_length (Or.inl ne_o_nm)
  have V_pa := V_pa.other W16 ne_pa_nm
  have V_fc := V_fc.other W16 ne_fc_nm
  have V_la := V_la.other W16 ne_la_nm
  have V_pv := V_pv.other W16 ne_pv_nm
  have V_nx := V_nx.other W16 ne_nx_nm
  have V_sr := V_sr.other W16 (Ne.symm ne_nm_sr)
  have K := K.wr W16 (Or.inl (by simp))
  refine Own.aloadN X16 hx (pc := 81) (hb hby d10_81) rfl rfl ?_
  refine Own.getfield X16 hx hZ (pc := 82) hown (host := "") (Or.inl (Wd hw 77 rfl)) Via.refl e16 F_o_start (hb hby d10_82) ?_
  intro T17 X17 e17
  refine Own.iloadN X17 hx (pc := 85) (hb hby d10_85) rfl ?_
  refine Own.iconst X17 hx (pc := 86) (-1 : Int32) (hb hby d10_86) (by decide) ?_
  refine Own.iastore X17 hx hZ (pc := 87) e17 V_sr k.toNatClampNeg hn_k rfl (by simpa [hl_sr] using hb_k) N16 ge_sr (hb hby d10_87) ?_
  intro T18 h18 X18 e18 W18 N18 V_sr
  have sz18 : n0 ≤ h18.size := Nat.le_trans sz16 (Nat.le_of_eq (Wr.size W18).symm)
  have E_o := Exa.wr W18 E_o
  have F_o_nodes := Fld.other W18 F_o_nodes (Or.inl ne_o_sr)
  have F_o_parent := Fld.other W18 F_o_parent (Or.inl ne_o_sr)
  have F_o_firstChild := Fld.other W18 F_o_firstChild (Or.inl ne_o_sr)
  have F_o_lastChild := Fld.other W18 F_o_lastChild (Or.inl ne_o_sr)
  have F_o_previousSibling := Fld.other W18 F_o_previousSibling (Or.inl ne_o_sr)
  have F_o_nextSibling := Fld.other W18 F_o_nextSibling (Or.inl ne_o_sr)
  have F_o_name := Fld.other W18 F_o_name (Or.inl ne_o_sr)
  have F_o_start := Fld.other W18 F_o_start (Or.inl ne_o_sr)
  have F_o_length := Fld.other W18 F_o_length (Or.inl ne_o_sr)
  have V_pa := V_pa.other W18 ne_pa_sr
  have V_fc := V_fc.other W18 ne_fc_sr
  have V_la := V_la.other W18 ne_la_sr
  have V_pv := V_pv.other W18 ne_pv_sr
  have V_nx := V_nx.other W18 ne_nx_sr
  have V_nm := V_nm.other W18 ne_nm_sr
  have K := K.wr W18 (Or.inl (by simp))
  refine Own.iloadN X18 hx (pc := 88) (hb hby d10_88) rfl ?_
  exact Own.ireturn X18 hx hk hret (by simp) rfl (hb hby d10_89) e18 ⟨rfl, N18, K, F_o_parent, F_o_firstChild, F_o_lastChild, F_o_previousSibling, F_o_nextSibling, F_o_name, F_o_start, F_o_length, F_o_nodes, V_pa, V_fc, V_la, V_pv, V_nx, V_nm, V_sr⟩ (by decide) (by decide)
theorem d11_0 : decode prog_122_method_10_code 0 = .ok (.aload_n 0, 1) := by decide +kernel
theorem d11_1 : decode prog_122_method_10_code 1 = .ok (.iconst (-1), 1) := by decide +kernel
theorem pd7 : parseMethodDescriptor "(I)I" = some ⟨[.int], some .int⟩ := by decide +kernel
theorem d11_2 : decode prog_122_method_10_code 2 = .ok (.invokevirtual 37, 3) := by decide +kernel
theorem d11_5 : decode prog_122_method_10_code 5 = .ok (.istore_n 2, 1) := by decide +kernel
theorem d11_6 : decode prog_122_method_10_code 6 = .ok (.aload_n 0, 1) := by decide +kernel
theorem d11_7 : decode prog_122_method_10_code 7 = .ok (.getfield 80, 3) := by decide +kernel
theorem d11_10 : decode prog_122_method_10_code 10 = .ok (.iload_n 2, 1) := by decide +kernel
theorem d11_11 : decode prog_122_method_10_code 11 = .ok (.aload_n 0, 1) := by decide +kernel
theorem d11_12 : decode prog_122_method_10_code 12 = .ok (.getfield 80, 3) := by decide +kernel
theorem d11_15 : decode prog_122_method_10_code 15 = .ok (.iload_n 1, 1) := by decide +kernel
theorem d11_16 : decode prog_122_method_10_code 16 = .ok (.iaload, 1) := by decide +kernel
theorem d11_17 : decode prog_122_method_10_code 17 = .ok (.iastore, 1) := by decide +kernel
theorem d11_18 : decode prog_122_method_10_code 18 = .ok (.aload_n 0, 1) := by decide +kernel
theorem d11_19 : decode prog_122_method_10_code 19 = .ok (.getfield 109, 3) := by decide +kernel
theorem d11_22 : decode prog_122_method_10_code 22 = .ok (.iload_n 2, 1) := by decide +kernel
theorem d11_23 : decode prog_122_method_10_code 23 = .ok (.aload_n 0, 1) := by decide +kernel
theorem d11_24 : decode prog_122_method_10_code 24 = .ok (.getfield 109, 3) := by decide +kernel
theorem d11_27 : decode prog_122_method_10_code 27 = .ok (.iload_n 1, 1) := by decide +kernel
theorem d11_28 : decode prog_122_method_10_code 28 = .ok (.iaload, 1) := by decide +kernel
theorem d11_29 : decode prog_122_method_10_code 29 = .ok (.iastore, 1) := by decide +kernel
theorem d11_30 : decode prog_122_method_10_code 30 = .ok (.iload_n 2, 1) := by decide +kernel
theorem d11_31 : decode prog_122_method_10_code 31 = .ok (.ireturn, 1) := by decide +kernel
theorem ef_rm11 (m : MethodId) (o : Addr) (tx : Int32) : entryFrame m #[(.ref o), (.int tx)] 3 = mkF m 0 #[.val (.ref o), .val (.int tx), .unset] [] := by first | (simp [entryFrame, mkF, argsToLocals, Value.category]; done) | rfl
set_option maxRecDepth 65536 in
set_option maxHeartbeats 40000000 in
theorem rm11 (l : Launch) (Z : State) (a0 : Array Value) (hw : ∀ d ∈ tables_1, d.before a0 Z = true) (o : Addr) (tx : Int32) (pa : Addr) (fc : Addr) (la : Addr) (pv : Addr) (nx : Addr) (nm : Addr) (sr : Addr) (ln : Addr) (vpa : List Value) (vfc : List Value) (vla : List Value) (vpv : List Value) (vnx : List Value) (vnm : List Value) (vsr : List Value) (vln : List Value) (k : Int32) (sv : Int32) (lv : Int32) (h0 : Heap) (n0 : Nat) (Z0 : n0 ≤ h0.size) (E_o : Exa Z h0 o "com/example/sprigdex/sprigdex/index/html/HtmlTree") (F_o_nodes : Fld Z h0 o "com/example/sprigdex/sprigdex/index/html/HtmlTree" "nodes" "I" (.int k)) (F_o_parent : Fld Z h0 o "com/example/sprigdex/sprigdex/index/html/HtmlTree" "parent" "[I" (.ref pa)) (F_o_firstChild : Fld Z h0 o "com/example/sprigdex/sprigdex/index/html/HtmlTree" "firstChild" "[I" (.ref fc)) (F_o_lastChild : Fld Z h0 o "com/example/sprigdex/sprigdex/index/html/HtmlTree" "lastChild" "[I" (.ref la)) (F_o_previousSibling : Fld Z h0 o "com/example/sprigdex/sprigdex/index/html/HtmlTree" "previousSibling" "[I" (.ref pv)) (F_o_nextSibling : Fld Z h0 o "com/example/sprigdex/sprigdex/index/html/HtmlTree" "nextSibling" "[I" (.ref nx)) (F_o_name : Fld Z h0 o "com/example/sprigdex/sprigdex/index/html/HtmlTree" "name" "[I" (.ref nm)) (F_o_start : Fld Z h0 o "com/example/sprigdex/sprigdex/index/html/HtmlTree" "start" "[I" (.ref sr)) (F_o_length : Fld Z h0 o "com/example/sprigdex/sprigdex/index/html/HtmlTree" "length" "[I" (.ref ln)) (V_pa : Own.VArr Z h0 pa .int vpa) (V_fc : Own.VArr Z h0 fc .int vfc) (V_la : Own.VArr Z h0 la .int vla) (V_pv : Own.VArr Z h0 pv .int vpv) (V_nx : Own.VArr Z h0 nx .int vnx) (V_nm : Own.VArr Z h0 nm .int vnm) (V_sr : Own.VArr Z h0 sr .int vsr) (V_ln : Own.VArr Z h0 ln .int vln) (ge_o : n0 ≤ o) (ge_pa : n0 ≤ pa) (ge_fc : n0 ≤ fc) (ge_la : n0 ≤ la) (ge_pv : n0 ≤ pv) (ge_nx : n0 ≤ nx) (ge_nm : n0 ≤ nm) (ge_sr : n0 ≤ sr) (ge_ln : n0 ≤ ln) (ne_o_pa : o ≠ pa) (ne_o_fc : o ≠ fc) (ne_o_la : o ≠ la) (ne_o_pv : o ≠ pv) (ne_o_nx : o ≠ nx) (ne_o_nm : o ≠ nm) (ne_o_sr : o ≠ sr) (ne_o_ln : o ≠ ln) (ne_pa_fc : pa ≠ fc) (ne_pa_la : pa ≠ la) (ne_pa_pv : pa ≠ pv) (ne_pa_nx : pa ≠ nx) (ne_pa_nm : pa ≠ nm) (ne_pa_sr : pa ≠ sr) (ne_pa_ln : pa ≠ ln) (ne_fc_la : fc ≠ la) (ne_fc_pv : fc ≠ pv) (ne_fc_nx : fc ≠ nx) (ne_fc_nm : fc ≠ nm) (ne_fc_sr : fc ≠ sr) (ne_fc_ln : fc ≠ ln) (ne_la_pv : la ≠ pv) (ne_la_nx : la ≠ nx) (ne_la_nm : la ≠ nm) (ne_la_sr : la ≠ sr) (ne_la_ln : la ≠ ln) (ne_pv_nx : pv ≠ nx) (ne_pv_nm : pv ≠ nm) (ne_pv_sr : pv ≠ sr) (ne_pv_ln : pv ≠ ln) (ne_nx_nm : nx ≠ nm) (ne_nx_sr : nx ≠ sr) (ne_nx_ln : nx ≠ ln) (ne_nm_sr : nm ≠ sr) (ne_nm_ln : nm ≠ ln) (ne_sr_ln : sr ≠ ln) (hl_pa : vpa.length = 64) (hl_fc : vfc.length = 64) (hl_la : vla.length = 64) (hl_pv : vpv.length = 64) (hl_nx : vnx.length = 64) (hl_nm : vnm.length = 64) (hl_sr : vsr.length = 64) (hl_ln : vln.length = 64) (hn_k : ¬ k < 0) (hb_k : k.toNatClampNeg < 64) (hn_tx : ¬ tx < 0) (hb_tx : tx.toNatClampNeg < 64) (hsv : ((vsr.set k.toNatClampNeg (.int (-1 : Int32))) : List Value)[tx.toNatClampNeg]? = some (.int sv)) (hlv : (vln : List Value)[tx.toNatClampNeg]? = some (.int lv)) (hk64 : ¬ k = (64 : Int32)) :
    Own.Ct l (⟨"com/example/sprigdex/sprigdex/index/html/HtmlTree", "copyText", "(I)I"⟩ : MethodName) prog_122_method_10_code 3 (some .int) [] ({ frames := 1, cells := 0, slots := 0, locals := 14 } : Room) Z #[(.ref o), (.int tx)] h0 (fun rV hP lC => rV = some (.int k) ∧ Fr n0 lC ∧ Keep h0 hP [o, pa, fc, la, pv, nx, nm, sr, ln] ∧ Fld Z hP o "com/example/sprigdex/sprigdex/index/html/HtmlTree" "parent" "[I" (.ref pa) ∧ Fld Z hP o "com/example/sprigdex/sprigdex/index/html/HtmlTree" "firstChild" "[I" (.ref fc) ∧ Fld Z hP o "com/example/sprigdex/sprigdex/index/html/HtmlTree" "lastChild" "[I" (.ref la) ∧ Fld Z hP o "com/example/sprigdex/sprigdex/index/html/HtmlTree" "previousSibling" "[I" (.ref pv) ∧ Fld Z hP o "com/example/sprigdex/sprigdex/index/html/HtmlTree" "nextSibling" "[I" (.ref nx) ∧ Fld Z hP o "com/example/sprigdex/sprigdex/index/html/HtmlTree" "name" "[I" (.ref nm) ∧ Fld Z hP o "com/example/sprigdex/sprigdex/index/html/HtmlTree" "start" "[I" (.ref sr) ∧ Fld Z hP o "com/example/sprigdex/sprigdex/index/html/HtmlTree" "length" "[I" (.ref ln) ∧ Fld Z hP o "com/example/sprigdex/sprigdex/index/html/HtmlTree" "nodes" "I" (.int (k + (1 : Int32))) ∧ Own.VArr Z hP pa .int (vpa.set k.toNatClampNeg (.int (-1 : Int32))) ∧ Own.VArr Z hP fc .int (vfc.set k.toNatClampNeg (.int (-1 : Int32))) ∧ Own.VArr Z hP la .int (vla.set k.toNatClampNeg (.int (-1 : Int32))) ∧ Own.VArr Z hP pv .int (vpv.set k.toNatClampNeg (.int (-1 : Int32))) ∧ Own.VArr Z hP nx .int (vnx.set k.toNatClampNeg (.int (-1 : Int32))) ∧ Own.VArr Z hP nm .int (vnm.set k.toNatClampNeg (.int (-1 : Int32))) ∧ Own.VArr Z hP sr .int ((vsr.set k.toNatClampNeg (.int (-1 : Int32))).set k.toNatClampNeg (.int sv)) ∧ Own.VArr Z hP ln .int (vln.set k.toNatClampNeg (.int lv))) := by
  refine Own.enter (plainFor_of_name pn6) ?_
  intro p e s m below meth cc s₁ hx hby hml hown hnm hret hk hZ X0 e0
  have N0 := Fr.nil n0
  refine Own.start (ef_rm11 m o tx) ?_
  have K : Keep h0 h0 [o, pa, fc, la, pv, nx, nm, sr, ln] := Keep.refl _ _
  refine Own.aloadN X0 hx (pc := 0) (hb hby d11_0) rfl rfl ?_
  refine Own.iconst X0 hx (pc := 1) (-1 : Int32) (hb hby d11_1) (by decide) ?_
  refine Own.callPrivate X0 hx hZ (pc := 2) (y := (⟨"com/example/sprigdex/sprigdex/index/html/HtmlTree", "node", "(I)I"⟩ : MethodName)) hown (Wd hw 81 rfl) (Wd hw 82 rfl) (Wd hw 83 rfl) (Wd hw 1 rfl) (Wd hw 2 rfl) (Wd hw 84 rfl) (by decide) 0 o [(.int (-1 : Int32))] [] E_o (rm10 l Z a0 hw o (-1 : Int32) pa fc la pv nx nm sr vpa vfc vla vpv vnx vnm vsr ln k h0 n0 Z0 E_o F_o_nodes F_o_parent F_o_firstChild F_o_lastChild F_o_previousSibling F_o_nextSibling F_o_name F_o_start F_o_length V_pa V_fc V_la V_pv V_nx V_nm V_sr ge_o ge_pa ge_fc ge_la ge_pv ge_nx ge_nm ge_sr ne_o_pa ne_o_fc ne_o_la ne_o_pv ne_o_nx ne_o_nm ne_o_sr ne_pa_fc ne_pa_la ne_pa_pv ne_pa_nx ne_pa_nm ne_pa_sr ne_fc_la ne_fc_pv ne_fc_nx ne_fc_nm ne_fc_sr ne_la_pv ne_la_nx ne_la_nm ne_la_sr ne_pv_nx ne_pv_nm ne_pv_sr ne_nx_nm ne_nx_sr ne_nm_sr hl_pa hl_fc hl_la hl_pv hl_nx hl_nm hl_sr hn_k hb_k hk64) (by decide) (by decide) e0 (by rw [hml]; rfl) pd7 rfl rfl (Nat.le_of_eq rfl) (hb hby d11_2) (by decide) (by decide) ?_
  intro T1 L1 v1 X1 hQ1
  obtain ⟨rfl, Nq1, K1, F_o_parent', F_o_firstChild', F_o_lastChild', F_o_previousSibling', F_o_nextSibling', F_o_name', F_o_start', F_o_length', F_o_nodes', V_pa', V_fc', V_la', V_pv', V_nx', V_nm', V_sr'⟩ := hQ1
  have e1 : T1.heap = T1.heap := rfl
  have E_o := E_o.keep K1
  have V_ln := V_ln.keep K1 (ninS (Ne.symm ne_o_ln) (ninS (Ne.symm ne_pa_ln) (ninS (Ne.symm ne_fc_ln) (ninS (Ne.symm ne_la_ln) (ninS (Ne.symm ne_pv_ln) (ninS (Ne.symm ne_nx_ln) (ninS (Ne.symm ne_nm_ln) (ninS (Ne.symm ne_sr_ln) nin0))))))))
  have sz1 : n0 ≤ T1.heap.size := Nat.le_trans Z0 K1.1
  have K := K.trans K1 (allS (Or.inl (by simp)) (allS (Or.inl (by simp)) (allS (Or.inl (by simp)) (allS (Or.inl (by simp)) (allS (Or.inl (by simp)) (allS (Or.inl (by simp)) (allS (Or.inl (by simp)) (allS (Or.inl (by simp)) all0))))))))
  have F_o_parent := F_o_parent'
  have F_o_firstChild := F_o_firstChild'
  have F_o_lastChild := F_o_lastChild'
  have F_o_previousSibling := F_o_previousSibling'
  have F_o_nextSibling := F_o_nextSibling'
  have F_o_name := F_o_name'
  have F_o_start := F_o_start'
  have F_o_length := F_o_length'
  have F_o_nodes := F_o_nodes'
  have V_pa := V_pa'
  have V_fc := V_fc'
  have V_la := V_la'
  have V_pv := V_pv'
  have V_nx := V_nx'
  have V_nm := V_nm'
  have V_sr := V_sr'
  have N1 := Fr.app N0 Nq1
  show Own.Go p e below _ (T1.setTop (mkF m 5 #[.val (.ref o), .val (.int tx), .unset] [(.int k)]))
  refine Own.istoreN X1 hx (pc := 5) #[.val (.ref o), .val (.int tx), .val (.int k)] (hb hby d11_5) rfl ?_
  refine Own.aloadN X1 hx (pc := 6) (hb hby d11_6) rfl rfl ?_
  refine Own.getfield X1 hx hZ (pc := 7) hown (host := "") (Or.inl (Wd hw 77 rfl)) Via.refl e1 F_o_start (hb hby d11_7) ?_
  intro T2 X2 e2
  refine Own.iloadN X2 hx (pc := 10) (hb hby d11_10) rfl ?_
  refine Own.aloadN X2 hx (pc := 11) (hb hby d11_11) rfl rfl ?_
  refine Own.getfield X2 hx hZ (pc := 12) hown (host := "") (Or.inl (Wd hw 77 rfl)) Via.refl e2 F_o_start (hb hby d11_12) ?_
  intro T3 X3 e3
  refine Own.iloadN X3 hx (pc := 15) (hb hby d11_15) rfl ?_
  refine Own.iaload X3 hx hZ (pc := 16) e3 V_sr (v := (.int sv)) tx.toNatClampNeg hn_tx rfl hsv (hb hby d11_16) ?_
  refine Own.iastore X3 hx hZ (pc := 17) e3 V_sr k.toNatClampNeg hn_k rfl (by simpa [hl_sr] using hb_k) N1 ge_sr (hb hby d11_17) ?_
  intro T4 h4 X4 e4 W4 N4 V_sr
  have sz4 : n0 ≤ h4.size := Nat.le_trans sz1 (Nat.le_of_eq (Wr.size W4).symm)
  have E_o := Exa.wr W4 E_o
  have V_ln := V_ln.other W4 (Ne.symm ne_sr_ln)
  have F_o_parent := Fld.other W4 F_o_parent (Or.inl ne_o_sr)
  have F_o_firstChild := Fld.other W4 F_o_firstChild (Or.inl ne_o_sr)
  have F_o_lastChild := Fld.other W4 F_o_lastChild (Or.inl ne_o_sr)
  have F_o_previousSibling := Fld.other W4 F_o_previousSibling (Or.inl ne_o_sr)
  have F_o_nextSibling := Fld.other W4 F_o_nextSibling (Or.inl ne_o_sr)
  have F_o_name := Fld.other W4 F_o_name (Or.inl ne_o_sr)
  have F_o_start := Fld.other W4 F_o_start (Or.inl ne_o_sr)
  have F_o_length := Fld.other W4 F_o_length (Or.inl ne_o_sr)
  have F_o_nodes := Fld.other W4 F_o_nodes (Or.inl ne_o_sr)
  have V_pa := V_pa.other W4 ne_pa_sr
  have V_fc := V_fc.other W4 ne_fc_sr
  have V_la := V_la.other W4 ne_la_sr
  have V_pv := V_pv.other W4 ne_pv_sr
  have V_nx := V_nx.other W4 ne_nx_sr
  have V_nm := V_nm.other W4 ne_nm_sr
  have K := K.wr W4 (Or.inl (by simp))
  refine Own.aloadN X4 hx (pc := 18) (hb hby d11_18) rfl rfl ?_
  refine Own.getfield X4 hx hZ (pc := 19) hown (host := "") (Or.inl (Wd hw 79 rfl)) Via.refl e4 F_o_length (hb hby d11_19) ?_
  intro T5 X5 e5
  refine Own.iloadN X5 hx (pc := 22) (hb hby d11_22) rfl ?_
  refine Own.aloadN X5 hx (pc := 23) (hb hby d11_23) rfl rfl ?_
  refine Own.getfield X5 hx hZ (pc := 24) hown (host := "") (Or.inl (Wd hw 79 rfl)) Via.refl e5 F_o_length (hb hby d11_24) ?_
  intro T6 X6 e6
  refine Own.iloadN X6 hx (pc := 27) (hb hby d11_27) rfl ?_
  refine Own.iaload X6 hx hZ (pc := 28) e6 V_ln (v := (.int lv)) tx.toNatClampNeg hn_tx rfl hlv (hb hby d11_28) ?_
  refine Own.iastore X6 hx hZ (pc := 29) e6 V_ln k.toNatClampNeg hn_k rfl (by simpa [hl_ln] using hb_k) N4 ge_ln (hb hby d11_29) ?_
  intro T7 h7 X7 e7 W7 N7 V_ln
  have sz7 : n0 ≤ h7.size := Nat.le_trans sz4 (Nat.le_of_eq (Wr.size W7).symm)
  have E_o := Exa.wr W7 E_o
  have F_o_parent := Fld.other W7 F_o_parent (Or.inl ne_o_ln)
  have F_o_firstChild := Fld.other W7 F_o_firstChild (Or.inl ne_o_ln)
  have F_o_lastChild := Fld.other W7 F_o_lastChild (Or.inl ne_o_ln)
  have F_o_previousSibling := Fld.other W7 F_o_previousSibling (Or.inl ne_o_ln)
  have F_o_nextSibling := Fld.other W7 F_o_nextSibling (Or.inl ne_o_ln)
  have F_o_name := Fld.other W7 F_o_name (Or.inl ne_o_ln)
  have F_o_start := Fld.other W7 F_o_start (Or.inl ne_o_ln)
  have F_o_length := Fld.other W7 F_o_length (Or.inl ne_o_ln)
  have F_o_nodes := Fld.other W7 F_o_nodes (Or.inl ne_o_ln)
  have V_pa := V_pa.other W7 ne_pa_ln
  have V_fc := V_fc.other W7 ne_fc_ln
  have V_la := V_la.other W7 ne_la_ln
  have V_pv := V_pv.other W7 ne_pv_ln
  have V_nx := V_nx.other W7 ne_nx_ln
  have V_nm := V_nm.other W7 ne_nm_ln
  have V_sr := V_sr.other W7 ne_sr_ln
  have K := K.wr W7 (Or.inl (by simp))
  refine Own.iloadN X7 hx (pc := 30) (hb hby d11_30) rfl ?_
  exact Own.ireturn X7 hx hk hret (by simp) rfl (hb hby d11_31) e7 ⟨rfl, N7, K, F_o_parent, F_o_firstChild, F_o_lastChild, F_o_previousSibling, F_o_nextSibling, F_o_name, F_o_start, F_o_length, F_o_nodes, V_pa, V_fc, V_la, V_pv, V_nx, V_nm, V_sr, V_ln⟩ (by decide) (by decide)
theorem d1_0 : decode prog_122_method_1_code 0 = .ok (.aload_n 0, 1) := by decide +kernel
theorem d1_1 : decode prog_122_method_1_code 1 = .ok (.invokespecial 1, 3) := by decide +kernel
theorem d1_4 : decode prog_122_method_1_code 4 = .ok (.aload_n 0, 1) := by decide +kernel
theorem d1_5 : decode prog_122_method_1_code 5 = .ok (.new 7, 3) := by decide +kernel
theorem d1_8 : decode prog_122_method_1_code 8 = .ok (.dup, 1) := by decide +kernel
theorem d1_9 : decode prog_122_method_1_code 9 = .ok (.invokespecial 9, 3) := by decide +kernel
theorem d1_12 : decode prog_122_method_1_code 12 = .ok (.putfield 10, 3) := by decide +kernel
theorem d1_15 : decode prog_122_method_1_code 15 = .ok (.aload_n 0, 1) := by decide +kernel
theorem d1_16 : decode prog_122_method_1_code 16 = .ok (.new 16, 3) := by decide +kernel
theorem d1_19 : decode prog_122_method_1_code 19 = .ok (.dup, 1) := by decide +kernel
theorem d1_20 : decode prog_122_method_1_code 20 = .ok (.invokespecial 18, 3) := by decide +kernel
theorem d1_23 : decode prog_122_method_1_code 23 = .ok (.putfield 19, 3) := by decide +kernel
theorem d1_26 : decode prog_122_method_1_code 26 = .ok (.aload_n 0, 1) := by decide +kernel
theorem d1_27 : decode prog_122_method_1_code 27 = .ok (.iload_n 1, 1) := by decide +kernel
theorem d1_28 : decode prog_122_method_1_code 28 = .ok (.newarray .char, 2) := by decide +kernel
theorem d1_30 : decode prog_122_method_1_code 30 = .ok (.putfield 23, 3) := by decide +kernel
theorem d1_33 : decode prog_122_method_1_code 33 = .ok (.aload_n 0, 1) := by decide +kernel
theorem d1_34 : decode prog_122_method_1_code 34 = .ok (.bipush 64, 2) := by decide +kernel
theorem d1_36 : decode prog_122_method_1_code 36 = .ok (.iload_n 1, 1) := by decide +kernel
theorem d1_37 : decode prog_122_method_1_code 37 = .ok (.bipush 16, 2) := by decide +kernel
theorem d1_39 : decode prog_122_method_1_code 39 = .ok (.idiv, 1) := by decide +kernel
theorem pd8 : parseMethodDescriptor "(II)I" = some ⟨[.int, .int], some .int⟩ := by decide +kernel
theorem d1_40 : decode prog_122_method_1_code 40 = .ok (.invokestatic 27, 3) := by decide +kernel
theorem pd9 : parseMethodDescriptor "(I)V" = some ⟨[.int], none⟩ := by decide +kernel
theorem d1_43 : decode prog_122_method_1_code 43 = .ok (.invokevirtual 33, 3) := by decide +kernel
theorem d1_46 : decode prog_122_method_1_code 46 = .ok (.aload_n 0, 1) := by decide +kernel
theorem d1_47 : decode prog_122_method_1_code 47 = .ok (.bipush (-2), 2) := by decide +kernel
theorem d1_49 : decode prog_122_method_1_code 49 = .ok (.invokevirtual 37, 3) := by decide +kernel
theorem d1_52 : decode prog_122_method_1_code 52 = .ok (.pop, 1) := by decide +kernel
theorem d1_53 : decode prog_122_method_1_code 53 = .ok (.return_, 1) := by decide +kernel
theorem ef_rm1 (m : MethodId) (o : Addr) : entryFrame m #[(.ref o), (.int (0 : Int32))] 2 = mkF m 0 #[.val (.ref o), .val (.int (0 : Int32))] [] := by first | (simp [entryFrame, mkF, argsToLocals, Value.category]; done) | rfl
set_option maxRecDepth 65536 in
set_option maxHeartbeats 40000000 in
theorem rm1 (l : Launch) (Z : State) (a0 : Array Value) (hw : ∀ d ∈ tables_1, d.before a0 Z = true) (o : Addr) (sa : Addr) (h0 : Heap) (n0 : Nat) (Z0 : n0 ≤ h0.size) (E_o : Exa Z h0 o "com/example/sprigdex/sprigdex/index/html/HtmlTree") (F_o_names : Fld Z h0 o "com/example/sprigdex/sprigdex/index/html/HtmlTree" "names" "Ljava/util/List;" .null) (F_o_nameNumbers : Fld Z h0 o "com/example/sprigdex/sprigdex/index/html/HtmlTree" "nameNumbers" "Ljava/util/Map;" .null) (F_o_text : Fld Z h0 o "com/example/sprigdex/sprigdex/index/html/HtmlTree" "text" "[C" .null) (F_o_parent : Fld Z h0 o "com/example/sprigdex/sprigdex/index/html/HtmlTree" "parent" "[I" .null) (F_o_firstChild : Fld Z h0 o "com/example/sprigdex/sprigdex/index/html/HtmlTree" "firstChild" "[I" .null) (F_o_lastChild : Fld Z h0 o "com/example/sprigdex/sprigdex/index/html/HtmlTree" "lastChild" "[I" .null) (F_o_previousSibling : Fld Z h0 o "com/example/sprigdex/sprigdex/index/html/HtmlTree" "previousSibling" "[I" .null) (F_o_nextSibling : Fld Z h0 o "com/example/sprigdex/sprigdex/index/html/HtmlTree" "nextSibling" "[I" .null) (F_o_name : Fld Z h0 o "com/example/sprigdex/sprigdex/index/html/HtmlTree" "name" "[I" .null) (F_o_start : Fld Z h0 o "com/example/sprigdex/sprigdex/index/html/HtmlTree" "start" "[I" .null) (F_o_length : Fld Z h0 o "com/example/sprigdex/sprigdex/index/html/HtmlTree" "length" "[I" .null) (F_o_nodes : Fld Z h0 o "com/example/sprigdex/sprigdex/index/html/HtmlTree" "nodes" "I" (.int (0 : Int32))) (S_dce : Sta Z h0 "java/util/ArrayList" "DEFAULTCAPACITY_EMPTY_ELEMENTDATA" "[Ljava/lang/Object;" (.ref sa)) (ge_o : n0 ≤ o) :
    Own.Ct l (⟨"com/example/sprigdex/sprigdex/index/html/HtmlTree", "<init>", "(I)V"⟩ : MethodName) prog_122_method_1_code 2 none [] ({ frames := 4, cells := 11, slots := 523, locals := 50 } : Room) Z #[(.ref o), (.int (0 : Int32))] h0 (fun rV hP lC => ∃ pa : Addr, ∃ fc : Addr, ∃ la : Addr, ∃ pv : Addr, ∃ nx : Addr, ∃ nm : Addr, ∃ sr : Addr, ∃ ln : Addr, rV = none ∧ Fr n0 lC ∧ Keep h0 hP [o] ∧ n0 ≤ pa ∧ n0 ≤ fc ∧ n0 ≤ la ∧ n0 ≤ pv ∧ n0 ≤ nx ∧ n0 ≤ nm ∧ n0 ≤ sr ∧ n0 ≤ ln ∧ h0.size ≤ pa ∧ h0.size ≤ fc ∧ h0.size ≤ la ∧ h0.size ≤ pv ∧ h0.size ≤ nx ∧ h0.size ≤ nm ∧ h0.size ≤ sr ∧ h0.size ≤ ln ∧ pa ≠ fc ∧ pa ≠ la ∧ pa ≠ pv ∧ pa ≠ nx ∧ pa ≠ nm ∧ pa ≠ sr ∧ pa ≠ ln ∧ fc ≠ la ∧ fc ≠ pv ∧ fc ≠ nx ∧ fc ≠ nm ∧ fc ≠ sr ∧ fc ≠ ln ∧ la ≠ pv ∧ la ≠ nx ∧ la ≠ nm ∧ la ≠ sr ∧ la ≠ ln ∧ pv ≠ nx ∧ pv ≠ nm ∧ pv ≠ sr ∧ pv ≠ ln ∧ nx ≠ nm ∧ nx ≠ sr ∧ nx ≠ ln ∧ nm ≠ sr ∧ nm ≠ ln ∧ sr ≠ ln ∧ Fld Z hP o "com/example/sprigdex/sprigdex/index/html/HtmlTree" "parent" "[I" (.ref pa) ∧ Fld Z hP o "com/example/sprigdex/sprigdex/index/html/HtmlTree" "firstChild" "[I" (.ref fc) ∧ Fld Z hP o "com/example/sprigdex/sprigdex/index/html/HtmlTree" "lastChild" "[I" (.ref la) ∧ Fld Z hP o "com/example/sprigdex/sprigdex/index/html/HtmlTree" "previousSibling" "[I" (.ref pv) ∧ Fld Z hP o "com/example/sprigdex/sprigdex/index/html/HtmlTree" "nextSibling" "[I" (.ref nx) ∧ Fld Z hP o "com/example/sprigdex/sprigdex/index/html/HtmlTree" "name" "[I" (.ref nm) ∧ Fld Z hP o "com/example/sprigdex/sprigdex/index/html/HtmlTree" "start" "[I" (.ref sr) ∧ Fld Z hP o "com/example/sprigdex/sprigdex/index/html/HtmlTree" "length" "[I" (.ref ln) ∧ Fld Z hP o "com/example/sprigdex/sprigdex/index/html/HtmlTree" "nodes" "I" (.int (1 : Int32)) ∧ Own.VArr Z hP pa .int ((.int (-1 : Int32)) :: (.int (0 : Int32)) :: (.int (0 : Int32)) :: (.int (0 : Int32)) :: own_tl) ∧ Own.VArr Z hP fc .int ((.int (-1 : Int32)) :: (.int (0 : Int32)) :: (.int (0 : Int32)) :: (.int (0 : Int32)) :: own_tl) ∧ Own.VArr Z hP la .int ((.int (-1 : Int32)) :: (.int (0 : Int32)) :: (.int (0 : Int32)) :: (.int (0 : Int32)) :: own_tl) ∧ Own.VArr Z hP pv .int ((.int (-1 : Int32)) :: (.int (0 : Int32)) :: (.int (0 : Int32)) :: (.int (0 : Int32)) :: own_tl) ∧ Own.VArr Z hP nx .int ((.int (-1 : Int32)) :: (.int (0 : Int32)) :: (.int (0 : Int32)) :: (.int (0 : Int32)) :: own_tl) ∧ Own.VArr Z hP nm .int ((.int (-2 : Int32)) :: (.int (0 : Int32)) :: (.int (0 : Int32)) :: (.int (0 : Int32)) :: own_tl) ∧ Own.VArr Z hP sr .int ((.int (-1 : Int32)) :: (.int (0 : Int32)) :: (.int (0 : Int32)) :: (.int (0 : Int32)) :: own_tl) ∧ Own.VArr Z hP ln .int ((.int (0 : Int32)) :: (.int (0 : Int32)) :: (.int (0 : Int32)) :: (.int (0 : Int32)) :: own_tl)) := by
  refine Own.enter (plainFor_of_name pn6) ?_
  intro p e s m below meth cc s₁ hx hby hml hown hnm hret hk hZ X0 e0
  have N0 := Fr.nil n0
  refine Own.start (ef_rm1 m o) ?_
  have K : Keep h0 h0 [o] := Keep.refl _ _
  refine Own.aloadN X0 hx (pc := 0) (hb hby d1_0) rfl rfl ?_
  refine Own.initObj X0 hx hZ (pc := 1) hown (Wd hw 6 rfl) (Wd hw 7 rfl) (Wd hw 8 rfl) e0 (by rw [hml]; rfl) (hb hby d1_1) (by decide) 0 (Nat.le_of_eq rfl) (by decide) ?_
  intro T1 X1 e1
  refine Own.aloadN X1 hx (pc := 4) (hb hby d1_4) rfl rfl ?_
  refine Own.newobj X1 hx hZ (pc := 5) hown (Wd hw 9 rfl) (Wd hw 10 rfl) (Wd hw 11 rfl) e1 (hb hby d1_5) (by decide) (by decide) ?_
  intro T2 h2 b2 g2 X2 e2 Ex2 E_b2 D2
  have ne_o_b2 : o ≠ b2 := Nat.ne_of_lt (g2 ▸ E_o.lt)
  have E_o := Exa.ext Ex2 E_o
  have F_o_names := Fld.ext Ex2 F_o_names
  have F_o_nameNumbers := Fld.ext Ex2 F_o_nameNumbers
  have F_o_text := Fld.ext Ex2 F_o_text
  have F_o_parent := Fld.ext Ex2 F_o_parent
  have F_o_firstChild := Fld.ext Ex2 F_o_firstChild
  have F_o_lastChild := Fld.ext Ex2 F_o_lastChild
  have F_o_previousSibling := Fld.ext Ex2 F_o_previousSibling
  have F_o_nextSibling := Fld.ext Ex2 F_o_nextSibling
  have F_o_name := Fld.ext Ex2 F_o_name
  have F_o_start := Fld.ext Ex2 F_o_start
  have F_o_length := Fld.ext Ex2 F_o_length
  have F_o_nodes := Fld.ext Ex2 F_o_nodes
  have S_dce := Sta.ext Ex2 S_dce
  have ge_b2 : n0 ≤ b2 := g2 ▸ Z0
  have sz2 : n0 ≤ h2.size := Nat.le_trans Z0 Ex2.1
  have szo_b2 : h0.size ≤ b2 := g2 ▸ K.1
  have K := K.ext Ex2
  have F_b2_modCount : Fld Z h2 b2 "java/util/AbstractList" "modCount" "I" (.int (0 : Int32)) := D2 (Or.inl (Wd hw 29 rfl)) (ty := .int) (by decide)
  have F_b2_elementData : Fld Z h2 b2 "java/util/ArrayList" "elementData" "[Ljava/lang/Object;" .null := D2 (Or.inl (Wd hw 32 rfl)) (ty := (.array (.object "java/lang/Object"))) (by decide)
  refine Own.dup X2 hx (pc := 8) (hb hby d1_8) rfl ?_
  refine Own.callSpecial X2 hx hZ (pc := 9) (y := (⟨"java/util/ArrayList", "<init>", "()V"⟩ : MethodName)) rfl hown (Wd hw 12 rfl) (Wd hw 13 rfl) (Wd hw 11 rfl) (Wd hw 14 rfl) (by decide) 2 b2 [] [(.ref b2), (.ref o)] (rm3 l Z a0 hw b2 sa h2 n0 sz2 E_b2 F_b2_modCount F_b2_elementData S_dce ge_b2) (by decide) (by decide) e2 (by rw [hml]; rfl) pd2 rfl rfl (Nat.le_of_eq rfl) (hb hby d1_9) (by decide) (by decide) ?_
  intro T3 L3 v3 X3 hQ3
  obtain ⟨rfl, Nq3, K3⟩ := hQ3
  have e3 : T3.heap = T3.heap := rfl
  have S_dce := Own.staKeep S_dce K3 E_b2
  have E_o := E_o.keep K3
  have F_o_names := F_o_names.keep K3 (ninS ne_o_b2 nin0)
  have F_o_nameNumbers := F_o_nameNumbers.keep K3 (ninS ne_o_b2 nin0)
  have F_o_text := F_o_text.keep K3 (ninS ne_o_b2 nin0)
  have F_o_parent := F_o_parent.keep K3 (ninS ne_o_b2 nin0)
  have F_o_firstChild := F_o_firstChild.keep K3 (ninS ne_o_b2 nin0)
  have F_o_lastChild := F_o_lastChild.keep K3 (ninS ne_o_b2 nin0)
  have F_o_previousSibling := F_o_previousSibling.keep K3 (ninS ne_o_b2 nin0)
  have F_o_nextSibling := F_o_nextSibling.keep K3 (ninS ne_o_b2 nin0)
  have F_o_name := F_o_name.keep K3 (ninS ne_o_b2 nin0)
  have F_o_start := F_o_start.keep K3 (ninS ne_o_b2 nin0)
  have F_o_length := F_o_length.keep K3 (ninS ne_o_b2 nin0)
  have F_o_nodes := F_o_nodes.keep K3 (ninS ne_o_b2 nin0)
  have E_b2 := E_b2.keep K3
  have sz3 : n0 ≤ T3.heap.size := Nat.le_trans sz2 K3.1
  have K := K.trans K3 (allS (Or.inr szo_b2) all0)
  have N3 := Fr.app N0 Nq3
  show Own.Go p e below _ (T3.setTop (mkF m 12 #[.val (.ref o), .val (.int (0 : Int32))] [(.ref b2), (.ref o)]))
  refine Own.putfield X3 hx hZ (pc := 12) hown (host := "") (Or.inl (Wd hw 33 rfl)) Via.refl e3 F_o_names E_o (Or.inr ⟨(Wd hw 34 rfl), rfl, hnm⟩) (Wd hw 1 rfl) (ty := (.object "java/util/List")) (by decide) rfl rfl N3 ge_o (hb hby d1_12) ?_
  intro T4 h4 X4 e4 W4 N4 F_o_names
  have sz4 : n0 ≤ h4.size := Nat.le_trans sz3 (Nat.le_of_eq (Wr.size W4).symm)
  have E_o := Exa.wr W4 E_o
  have F_o_nameNumbers := Fld.other W4 F_o_nameNumbers (Or.inr (slot_ne (Or.inr (Wd hw 52 rfl)) (Or.inr (Wd hw 34 rfl)) (by decide) (ht := (by decide : parseFieldDescriptor "Ljava/util/Map;" = some (.object "java/util/Map"))) (ht' := (by decide : parseFieldDescriptor "Ljava/util/List;" = some (.object "java/util/List")))))
  have F_o_text := Fld.other W4 F_o_text (Or.inr (slot_ne (Or.inl (Wd hw 55 rfl)) (Or.inr (Wd hw 34 rfl)) (by decide) (ht := (by decide : parseFieldDescriptor "[C" = some (.array .char))) (ht' := (by decide : parseFieldDescriptor "Ljava/util/List;" = some (.object "java/util/List")))))
  have F_o_parent := Fld.other W4 F_o_parent (Or.inr (slot_ne (Or.inl (Wd hw 65 rfl)) (Or.inr (Wd hw 34 rfl)) (by decide) (ht := (by decide : parseFieldDescriptor "[I" = some (.array .int))) (ht' := (by decide : parseFieldDescriptor "Ljava/util/List;" = some (.object "java/util/List")))))
  have F_o_firstChild := Fld.other W4 F_o_firstChild (Or.inr (slot_ne (Or.inl (Wd hw 68 rfl)) (Or.inr (Wd hw 34 rfl)) (by decide) (ht := (by decide : parseFieldDescriptor "[I" = some (.array .int))) (ht' := (by decide : parseFieldDescriptor "Ljava/util/List;" = some (.object "java/util/List")))))
  have F_o_lastChild := Fld.other W4 F_o_lastChild (Or.inr (slot_ne (Or.inl (Wd hw 70 rfl)) (Or.inr (Wd hw 34 rfl)) (by decide) (ht := (by decide : parseFieldDescriptor "[I" = some (.array .int))) (ht' := (by decide : parseFieldDescriptor "Ljava/util/List;" = some (.object "java/util/List")))))
  have F_o_previousSibling := Fld.other W4 F_o_previousSibling (Or.inr (slot_ne (Or.inl (Wd hw 72 rfl)) (Or.inr (Wd hw 34 rfl)) (by decide) (ht := (by decide : parseFieldDescriptor "[I" = some (.array .int))) (ht' := (by decide : parseFieldDescriptor "Ljava/util/List;" = some (.object "java/util/List")))))
  have F_o_nextSibling := Fld.other W4 F_o_nextSibling (Or.inr (slot_ne (Or.inl (Wd hw 74 rfl)) (Or.inr (Wd hw 34 rfl)) (by decide) (ht := (by decide : parseFieldDescriptor "[I" = some (.array .int))) (ht' := (by decide : parseFieldDescriptor "Ljava/util/List;" = some (.object "java/util/List")))))
  have F_o_name := Fld.other W4 F_o_name (Or.inr (slot_ne (Or.inl (Wd hw 76 rfl)) (Or.inr (Wd hw 34 rfl)) (by decide) (ht := (by decide : parseFieldDescriptor "[I" = some (.array .int))) (ht' := (by decide : parseFieldDescriptor "Ljava/util/List;" = some (.object "java/util/List")))))
  have F_o_start := Fld.other W4 F_o_start (Or.inr (slot_ne (Or.inl (Wd hw 78 rfl)) (Or.inr (Wd hw 34 rfl)) (by decide) (ht := (by decide : parseFieldDescriptor "[I" = some (.array .int))) (ht' := (by decide : parseFieldDescriptor "Ljava/util/List;" = some (.object "java/util/List")))))
  have F_o_length := Fld.other W4 F_o_length (Or.inr (slot_ne (Or.inl (Wd hw 80 rfl)) (Or.inr (Wd hw 34 rfl)) (by decide) (ht := (by decide : parseFieldDescriptor "[I" = some (.array .int))) (ht' := (by decide : parseFieldDescriptor "Ljava/util/List;" = some (.object "java/util/List")))))
  have F_o_nodes := Fld.other W4 F_o_nodes (Or.inr (slot_ne (Or.inl (Wd hw 86 rfl)) (Or.inr (Wd hw 34 rfl)) (by decide) (ht := (by decide : parseFieldDescriptor "I" = some .int)) (ht' := (by decide : parseFieldDescriptor "Ljava/util/List;" = some (.object "java/util/List")))))
  have S_dce := Sta.wr W4 S_dce
  have E_b2 := Exa.wr W4 E_b2
  have K := K.wr W4 (Or.inl (by simp))
  refine Own.aloadN X4 hx (pc := 15) (hb hby d1_15) rfl rfl ?_
  refine Own.newobj X4 hx hZ (pc := 16) hown (Wd hw 35 rfl) (Wd hw 36 rfl) (Wd hw 37 rfl) e4 (hb hby d1_16) (by decide) (by decide) ?_
  intro T5 h5 b5 g5 X5 e5 Ex5 E_b5 D5
  have ne_o_b5 : o ≠ b5 := Nat.ne_of_lt (g5 ▸ E_o.lt)
  have ne_b2_b5 : b2 ≠ b5 := Nat.ne_of_lt (g5 ▸ E_b2.lt)
  have E_o := Exa.ext Ex5 E_o
  have F_o_names := Fld.ext Ex5 F_o_names
  have F_o_nameNumbers := Fld.ext Ex5 F_o_nameNumbers
  have F_o_text := Fld.ext Ex5 F_o_text
  have F_o_parent := Fld.ext Ex5 F_o_parent
  have F_o_firstChild := Fld.ext Ex5 F_o_firstChild
  have F_o_lastChild := Fld.ext Ex5 F_o_lastChild
  have F_o_previousSibling := Fld.ext Ex5 F_o_previousSibling
  have F_o_nextSibling := Fld.ext Ex5 F_o_nextSibling
  have F_o_name := Fld.ext Ex5 F_o_name
  have F_o_start := Fld.ext Ex5 F_o_start
  have F_o_length := Fld.ext Ex5 F_o_length
  have F_o_nodes := Fld.ext Ex5 F_o_nodes
  have S_dce := Sta.ext Ex5 S_dce
  have E_b2 := Exa.ext Ex5 E_b2
  have ge_b5 : n0 ≤ b5 := g5 ▸ sz4
  have sz5 : n0 ≤ h5.size := Nat.le_trans sz4 Ex5.1
  have szo_b5 : h0.size ≤ b5 := g5 ▸ K.1
  have K := K.ext Ex5
  have F_b5_loadFactor : Fld Z h5 b5 "java/util/HashMap" "loadFactor" "F" (.float (0 : UInt32)) := D5 (Or.inr (Wd hw 50 rfl)) (ty := .float) (by decide)
  refine Own.dup X5 hx (pc := 19) (hb hby d1_19) rfl ?_
  refine Own.callSpecial X5 hx hZ (pc := 20) (y := (⟨"java/util/HashMap", "<init>", "()V"⟩ : MethodName)) rfl hown (Wd hw 38 rfl) (Wd hw 39 rfl) (Wd hw 37 rfl) (Wd hw 40 rfl) (by decide) 2 b5 [] [(.ref b5), (.ref o)] (rm6 l Z a0 hw b5 h5 n0 sz5 E_b5 F_b5_loadFactor ge_b5) (by decide) (by decide) e5 (by rw [hml]; rfl) pd2 rfl rfl (Nat.le_of_eq rfl) (hb hby d1_20) (by decide) (by decide) ?_
  intro T6 L6 v6 X6 hQ6
  obtain ⟨rfl, Nq6, K6⟩ := hQ6
  have e6 : T6.heap = T6.heap := rfl
  have S_dce := Own.staKeep S_dce K6 E_b5
  have E_o := E_o.keep K6
  have F_o_names := F_o_names.keep K6 (ninS ne_o_b5 nin0)
  have F_o_nameNumbers := F_o_nameNumbers.keep K6 (ninS ne_o_b5 nin0)
  have F_o_text := F_o_text.keep K6 (ninS ne_o_b5 nin0)
  have F_o_parent := F_o_parent.keep K6 (ninS ne_o_b5 nin0)
  have F_o_firstChild := F_o_firstChild.keep K6 (ninS ne_o_b5 nin0)
  have F_o_lastChild := F_o_lastChild.keep K6 (ninS ne_o_b5 nin0)
  have F_o_previousSibling := F_o_previousSibling.keep K6 (ninS ne_o_b5 nin0)
  have F_o_nextSibling := F_o_nextSibling.keep K6 (ninS ne_o_b5 nin0)
  have F_o_name := F_o_name.keep K6 (ninS ne_o_b5 nin0)
  have F_o_start := F_o_start.keep K6 (ninS ne_o_b5 nin0)
  have F_o_length := F_o_length.keep K6 (ninS ne_o_b5 nin0)
  have F_o_nodes := F_o_nodes.keep K6 (ninS ne_o_b5 nin0)
  have E_b2 := E_b2.keep K6
  have E_b5 := E_b5.keep K6
  have sz6 : n0 ≤ T6.heap.size := Nat.le_trans sz5 K6.1
  have K := K.trans K6 (allS (Or.inr szo_b5) all0)
  have N6 := Fr.app N4 Nq6
  show Own.Go p e below _ (T6.setTop (mkF m 23 #[.val (.ref o), .val (.int (0 : Int32))] [(.ref b5), (.ref o)]))
  refine Own.putfield X6 hx hZ (pc := 23) hown (host := "") (Or.inl (Wd hw 51 rfl)) Via.refl e6 F_o_nameNumbers E_o (Or.inr ⟨(Wd hw 52 rfl), rfl, hnm⟩) (Wd hw 1 rfl) (ty := (.object "java/util/Map")) (by decide) rfl rfl N6 ge_o (hb hby d1_23) ?_
  intro T7 h7 X7 e7 W7 N7 F_o_nameNumbers
  have sz7 : n0 ≤ h7.size := Nat.le_trans sz6 (Nat.le_of_eq (Wr.size W7).symm)
  have E_o := Exa.wr W7 E_o
  have F_o_names := Fld.other W7 F_o_names (Or.inr (slot_ne (Or.inr (Wd hw 34 rfl)) (Or.inr (Wd hw 52 rfl)) (by decide) (ht := (by decide : parseFieldDescriptor "Ljava/util/List;" = some (.object "java/util/List"))) (ht' := (by decide : parseFieldDescriptor "Ljava/util/Map;" = some (.object "java/util/Map")))))
  have F_o_text := Fld.other W7 F_o_text (Or.inr (slot_ne (Or.inl (Wd hw 55 rfl)) (Or.inr (Wd hw 52 rfl)) (by decide) (ht := (by decide : parseFieldDescriptor "[C" = some (.array .char))) (ht' := (by decide : parseFieldDescriptor "Ljava/util/Map;" = some (.object "java/util/Map")))))
  have F_o_parent := Fld.other W7 F_o_parent (Or.inr (slot_ne (Or.inl (Wd hw 65 rfl)) (Or.inr (Wd hw 52 rfl)) (by decide) (ht := (by decide : parseFieldDescriptor "[I" = some (.array .int))) (ht' := (by decide : parseFieldDescriptor "Ljava/util/Map;" = some (.object "java/util/Map")))))
  have F_o_firstChild := Fld.other W7 F_o_firstChild (Or.inr (slot_ne (Or.inl (Wd hw 68 rfl)) (Or.inr (Wd hw 52 rfl)) (by decide) (ht := (by decide : parseFieldDescriptor "[I" = some (.array .int))) (ht' := (by decide : parseFieldDescriptor "Ljava/util/Map;" = some (.object "java/util/Map")))))
  have F_o_lastChild := Fld.other W7 F_o_lastChild (Or.inr (slot_ne (Or.inl (Wd hw 70 rfl)) (Or.inr (Wd hw 52 rfl)) (by decide) (ht := (by decide : parseFieldDescriptor "[I" = some (.array .int))) (ht' := (by decide : parseFieldDescriptor "Ljava/util/Map;" = some (.object "java/util/Map")))))
  have F_o_previousSibling := Fld.other W7 F_o_previousSibling (Or.inr (slot_ne (Or.inl (Wd hw 72 rfl)) (Or.inr (Wd hw 52 rfl)) (by decide) (ht := (by decide : parseFieldDescriptor "[I" = some (.array .int))) (ht' := (by decide : parseFieldDescriptor "Ljava/util/Map;" = some (.object "java/util/Map")))))
  have F_o_nextSibling := Fld.other W7 F_o_nextSibling (Or.inr (slot_ne (Or.inl (Wd hw 74 rfl)) (Or.inr (Wd hw 52 rfl)) (by decide) (ht := (by decide : parseFieldDescriptor "[I" = some (.array .int))) (ht' := (by decide : parseFieldDescriptor "Ljava/util/Map;" = some (.object "java/util/Map")))))
  have F_o_name := Fld.other W7 F_o_name (Or.inr (slot_ne (Or.inl (Wd hw 76 rfl)) (Or.inr (Wd hw 52 rfl)) (by decide) (ht := (by decide : parseFieldDescriptor "[I" = some (.array .int))) (ht' := (by decide : parseFieldDescriptor "Ljava/util/Map;" = some (.object "java/util/Map")))))
  have F_o_start := Fld.other W7 F_o_start (Or.inr (slot_ne (Or.inl (Wd hw 78 rfl)) (Or.inr (Wd hw 52 rfl)) (by decide) (ht := (by decide : parseFieldDescriptor "[I" = some (.array .int))) (ht' := (by decide : parseFieldDescriptor "Ljava/util/Map;" = some (.object "java/util/Map")))))
  have F_o_length := Fld.other W7 F_o_length (Or.inr (slot_ne (Or.inl (Wd hw 80 rfl)) (Or.inr (Wd hw 52 rfl)) (by decide) (ht := (by decide : parseFieldDescriptor "[I" = some (.array .int))) (ht' := (by decide : parseFieldDescriptor "Ljava/util/Map;" = some (.object "java/util/Map")))))
  have F_o_nodes := Fld.other W7 F_o_nodes (Or.inr (slot_ne (Or.inl (Wd hw 86 rfl)) (Or.inr (Wd hw 52 rfl)) (by decide) (ht := (by decide : parseFieldDescriptor "I" = some .int)) (ht' := (by decide : parseFieldDescriptor "Ljava/util/Map;" = some (.object "java/util/Map")))))
  have S_dce := Sta.wr W7 S_dce
  have E_b2 := Exa.wr W7 E_b2
  have E_b5 := Exa.wr W7 E_b5
  have K := K.wr W7 (Or.inl (by simp))
  refine Own.aloadN X7 hx (pc := 26) (hb hby d1_26) rfl rfl ?_
  refine Own.iloadN X7 hx (pc := 27) (hb hby d1_27) rfl ?_
  refine Own.newarr X7 hx hZ (pc := 28) (aty := .char) (Wd hw 53 rfl) e7 (hb hby d1_28) (by decide) 0 0 (by decide) (by decide) (by decide) (by decide) (by decide) ?_
  intro T8 h8 b8 g8 X8 e8 Ex8 V_b8
  have ne_o_b8 : o ≠ b8 := Nat.ne_of_lt (g8 ▸ E_o.lt)
  have ne_b2_b8 : b2 ≠ b8 := Nat.ne_of_lt (g8 ▸ E_b2.lt)
  have ne_b5_b8 : b5 ≠ b8 := Nat.ne_of_lt (g8 ▸ E_b5.lt)
  have E_o := Exa.ext Ex8 E_o
  have F_o_names := Fld.ext Ex8 F_o_names
  have F_o_nameNumbers := Fld.ext Ex8 F_o_nameNumbers
  have F_o_text := Fld.ext Ex8 F_o_text
  have F_o_parent := Fld.ext Ex8 F_o_parent
  have F_o_firstChild := Fld.ext Ex8 F_o_firstChild
  have F_o_lastChild := Fld.ext Ex8 F_o_lastChild
  have F_o_previousSibling := Fld.ext Ex8 F_o_previousSibling
  have F_o_nextSibling := Fld.ext Ex8 F_o_nextSibling
  have F_o_name := Fld.ext Ex8 F_o_name
  have F_o_start := Fld.ext Ex8 F_o_start
  have F_o_length := Fld.ext Ex8 F_o_length
  have F_o_nodes := Fld.ext Ex8 F_o_nodes
  have S_dce := Sta.ext Ex8 S_dce
  have E_b2 := Exa.ext Ex8 E_b2
  have E_b5 := Exa.ext Ex8 E_b5
  have ge_b8 : n0 ≤ b8 := g8 ▸ sz7
  have sz8 : n0 ≤ h8.size := Nat.le_trans sz7 Ex8.1
  have szo_b8 : h0.size ≤ b8 := g8 ▸ K.1
  have K := K.ext Ex8
  replace V_b8 : Own.VArr Z h8 b8 .char ([] : List Value) := V_b8
  refine Own.putfield X8 hx hZ (pc := 30) hown (host := "") (Or.inl (Wd hw 54 rfl)) Via.refl e8 F_o_text E_o (Or.inl (Wd hw 55 rfl)) (Wd hw 1 rfl) (ty := (.array .char)) (by decide) rfl rfl N7 ge_o (hb hby d1_30) ?_
  intro T9 h9 X9 e9 W9 N9 F_o_text
  have sz9 : n0 ≤ h9.size := Nat.le_trans sz8 (Nat.le_of_eq (Wr.size W9).symm)
  have E_o := Exa.wr W9 E_o
  have F_o_names := Fld.other W9 F_o_names (Or.inr (slot_ne (Or.inr (Wd hw 34 rfl)) (Or.inl (Wd hw 55 rfl)) (by decide) (ht := (by decide : parseFieldDescriptor "Ljava/util/List;" = some (.object "java/util/List"))) (ht' := (by decide : parseFieldDescriptor "[C" = some (.array .char)))))
  have F_o_nameNumbers := Fld.other W9 F_o_nameNumbers (Or.inr (slot_ne (Or.inr (Wd hw 52 rfl)) (Or.inl (Wd hw 55 rfl)) (by decide) (ht := (by decide : parseFieldDescriptor "Ljava/util/Map;" = some (.object "java/util/Map"))) (ht' := (by decide : parseFieldDescriptor "[C" = some (.array .char)))))
  have F_o_parent := Fld.other W9 F_o_parent (Or.inr (slot_ne (Or.inl (Wd hw 65 rfl)) (Or.inl (Wd hw 55 rfl)) (by decide) (ht := (by decide : parseFieldDescriptor "[I" = some (.array .int))) (ht' := (by decide : parseFieldDescriptor "[C" = some (.array .char)))))
  have F_o_firstChild := Fld.other W9 F_o_firstChild (Or.inr (slot_ne (Or.inl (Wd hw 68 rfl)) (Or.inl (Wd hw 55 rfl)) (by decide) (ht := (by decide : parseFieldDescriptor "[I" = some (.array .int))) (ht' := (by decide : parseFieldDescriptor "[C" = some (.array .char)))))
  have F_o_lastChild := Fld.other W9 F_o_lastChild (Or.inr (slot_ne (Or.inl (Wd hw 70 rfl)) (Or.inl (Wd hw 55 rfl)) (by decide) (ht := (by decide : parseFieldDescriptor "[I" = some (.array .int))) (ht' := (by decide : parseFieldDescriptor "[C" = some (.array .char)))))
  have F_o_previousSibling := Fld.other W9 F_o_previousSibling (Or.inr (slot_ne (Or.inl (Wd hw 72 rfl)) (Or.inl (Wd hw 55 rfl)) (by decide) (ht := (by decide : parseFieldDescriptor "[I" = some (.array .int))) (ht' := (by decide : parseFieldDescriptor "[C" = some (.array .char)))))
  have F_o_nextSibling := Fld.other W9 F_o_nextSibling (Or.inr (slot_ne (Or.inl (Wd hw 74 rfl)) (Or.inl (Wd hw 55 rfl)) (by decide) (ht := (by decide : parseFieldDescriptor "[I" = some (.array .int))) (ht' := (by decide : parseFieldDescriptor "[C" = some (.array .char)))))
  have F_o_name := Fld.other W9 F_o_name (Or.inr (slot_ne (Or.inl (Wd hw 76 rfl)) (Or.inl (Wd hw 55 rfl)) (by decide) (ht := (by decide : parseFieldDescriptor "[I" = some (.array .int))) (ht' := (by decide : parseFieldDescriptor "[C" = some (.array .char)))))
  have F_o_start := Fld.other W9 F_o_start (Or.inr (slot_ne (Or.inl (Wd hw 78 rfl)) (Or.inl (Wd hw 55 rfl)) (by decide) (ht := (by decide : parseFieldDescriptor "[I" = some (.array .int))) (ht' := (by decide : parseFieldDescriptor "[C" = some (.array .char)))))
  have F_o_length := Fld.other W9 F_o_length (Or.inr (slot_ne (Or.inl (Wd hw 80 rfl)) (Or.inl (Wd hw 55 rfl)) (by decide) (ht := (by decide : parseFieldDescriptor "[I" = some (.array .int))) (ht' := (by decide : parseFieldDescriptor "[C" = some (.array .char)))))
  have F_o_nodes := Fld.other W9 F_o_nodes (Or.inr (slot_ne (Or.inl (Wd hw 86 rfl)) (Or.inl (Wd hw 55 rfl)) (by decide) (ht := (by decide : parseFieldDescriptor "I" = some .int)) (ht' := (by decide : parseFieldDescriptor "[C" = some (.array .char)))))
  have S_dce := Sta.wr W9 S_dce
  have E_b2 := Exa.wr W9 E_b2
  have E_b5 := Exa.wr W9 E_b5
  have V_b8 := V_b8.other W9 (Ne.symm ne_o_b8)
  have K := K.wr W9 (Or.inl (by simp))
  refine Own.aloadN X9 hx (pc := 33) (hb hby d1_33) rfl rfl ?_
  refine Own.bipush X9 hx (pc := 34) (64 : Int32) (hb hby d1_34) (by decide) ?_
  refine Own.iloadN X9 hx (pc := 36) (hb hby d1_36) rfl ?_
  refine Own.bipush X9 hx (pc := 37) (16 : Int32) (hb hby d1_37) (by decide) ?_
  refine Own.idiv X9 hx (pc := 39) (hb hby d1_39) (by decide) ?_
  refine Own.topI (show ((0 : Int32) / (16 : Int32)) = (0 : Int32) by decide) ?_
  refine Own.callStatic X9 hx hZ (pc := 40) (y := (⟨"java/lang/Math", "max", "(II)I"⟩ : MethodName)) hown (Wd hw 56 rfl) (Wd hw 57 rfl) (Wd hw 58 rfl) (Wd hw 59 rfl) (by decide) 1 [(.int (64 : Int32)), (.int (0 : Int32))] [(.ref o)] (rm8 l Z a0 hw (64 : Int32) (0 : Int32) h9 n0 sz9 ) (by decide) (by decide) e9 (by rw [hml]; rfl) pd8 rfl rfl (Nat.le_of_eq rfl) (hb hby d1_40) (by decide) (by decide) ?_
  intro T10 L10 v10 X10 hQ10
  obtain ⟨rfl, Nq10, e10⟩ := hQ10
  have N10 := Fr.app N9 Nq10
  show Own.Go p e below _ (T10.setTop (mkF m 43 #[.val (.ref o), .val (.int (0 : Int32))] [(.int (64 : Int32)), (.ref o)]))
  refine Own.callPrivate X10 hx hZ (pc := 43) (y := (⟨"com/example/sprigdex/sprigdex/index/html/HtmlTree", "grow", "(I)V"⟩ : MethodName)) hown (Wd hw 60 rfl) (Wd hw 61 rfl) (Wd hw 62 rfl) (Wd hw 1 rfl) (Wd hw 2 rfl) (Wd hw 63 rfl) (by decide) 0 o [(.int (64 : Int32))] [] E_o (rm9 l Z a0 hw o h9 n0 sz9 E_o F_o_parent F_o_firstChild F_o_lastChild F_o_previousSibling F_o_nextSibling F_o_name F_o_start F_o_length F_o_nodes ge_o) (by decide) (by decide) e10 (by rw [hml]; rfl) pd9 rfl rfl (Nat.le_of_eq rfl) (hb hby d1_43) (by decide) (by decide) ?_
  intro T11 L11 v11 X11 hQ11
  obtain ⟨pa_11, fc_11, la_11, pv_11, nx_11, nm_11, sr_11, ln_11, rfl, Nq11, K11, ge_pa_11, ge_fc_11, ge_la_11, ge_pv_11, ge_nx_11, ge_nm_11, ge_sr_11, ge_ln_11, szopa_11, szofc_11, szola_11, szopv_11, szonx_11, szonm_11, szosr_11, szoln_11, ne_pa_11_fc_11, ne_pa_11_la_11, ne_pa_11_pv_11, ne_pa_11_nx_11, ne_pa_11_nm_11, ne_pa_11_sr_11, ne_pa_11_ln_11, ne_fc_11_la_11, ne_fc_11_pv_11, ne_fc_11_nx_11, ne_fc_11_nm_11, ne_fc_11_sr_11, ne_fc_11_ln_11, ne_la_11_pv_11, ne_la_11_nx_11, ne_la_11_nm_11, ne_la_11_sr_11, ne_la_11_ln_11, ne_pv_11_nx_11, ne_pv_11_nm_11, ne_pv_11_sr_11, ne_pv_11_ln_11, ne_nx_11_nm_11, ne_nx_11_sr_11, ne_nx_11_ln_11, ne_nm_11_sr_11, ne_nm_11_ln_11, ne_sr_11_ln_11, F_o_parent', F_o_firstChild', F_o_lastChild', F_o_previousSibling', F_o_nextSibling', F_o_name', F_o_start', F_o_length', F_o_nodes', V_pa_11', V_fc_11', V_la_11', V_pv_11', V_nx_11', V_nm_11', V_sr_11', V_ln_11'⟩ := hQ11
  have e11 : T11.heap = T11.heap := rfl
  have ne_o_pa_11 : o ≠ pa_11 := Nat.ne_of_lt (Nat.lt_of_lt_of_le E_o.lt szopa_11)
  have ne_b2_pa_11 : b2 ≠ pa_11 := Nat.ne_of_lt (Nat.lt_of_lt_of_le E_b2.lt szopa_11)
  have ne_b5_pa_11 : b5 ≠ pa_11 := Nat.ne_of_lt (Nat.lt_of_lt_of_le E_b5.lt szopa_11)
  have ne_b8_pa_11 : b8 ≠ pa_11 := Nat.ne_of_lt (Nat.lt_of_lt_of_le V_b8.lt szopa_11)
  have szo_pa_11 : h0.size ≤ pa_11 := Nat.le_trans K.1 szopa_11
  have ne_o_fc_11 : o ≠ fc_11 := Nat.ne_of_lt (Nat.lt_of_lt_of_le E_o.lt szofc_11)
  have ne_b2_fc_11 : b2 ≠ fc_11 := Nat.ne_of_lt (Nat.lt_of_lt_of_le E_b2.lt szofc_11)
  have ne_b5_fc_11 : b5 ≠ fc_11 := Nat.ne_of_lt (Nat.lt_of_lt_of_le E_b5.lt szofc_11)
  have ne_b8_fc_11 : b8 ≠ fc_11 := Nat.ne_of_lt (Nat.lt_of_lt_of_le V_b8.lt szofc_11)
  have szo_fc_11 : h0.size ≤ fc_11 := Nat.le_trans K.1 szofc_11
  have ne_o_la_11 : o ≠ la_11 := Nat.ne_of_lt (Nat.lt_of_lt_of_le E_o.lt szola_11)
  have ne_b2_la_11 : b2 ≠ la_11 := Nat.ne_of_lt (Nat.lt_of_lt_of_le E_b2.lt szola_11)
  have ne_b5_la_11 : b5 ≠ la_11 := Nat.ne_of_lt (Nat.lt_of_lt_of_le E_b5.lt szola_11)
  have ne_b8_la_11 : b8 ≠ la_11 := Nat.ne_of_lt (Nat.lt_of_lt_of_le V_b8.lt szola_11)
  have szo_la_11 : h0.size ≤ la_11 := Nat.le_trans K.1 szola_11
  have ne_o_pv_11 : o ≠ pv_11 := Nat.ne_of_lt (Nat.lt_of_lt_of_le E_o.lt szopv_11)
  have ne_b2_pv_11 : b2 ≠ pv_11 := Nat.ne_of_lt (Nat.lt_of_lt_of_le E_b2.lt szopv_11)
  have ne_b5_pv_11 : b5 ≠ pv_11 := Nat.ne_of_lt (Nat.lt_of_lt_of_le E_b5.lt szopv_11)
  have ne_b8_pv_11 : b8 ≠ pv_11 := Nat.ne_of_lt (Nat.lt_of_lt_of_le V_b8.lt szopv_11)
  have szo_pv_11 : h0.size ≤ pv_11 := Nat.le_trans K.1 szopv_11
  have ne_o_nx_11 : o ≠ nx_11 := Nat.ne_of_lt (Nat.lt_of_lt_of_le E_o.lt szonx_11)
  have ne_b2_nx_11 : b2 ≠ nx_11 := Nat.ne_of_lt (Nat.lt_of_lt_of_le E_b2.lt szonx_11)
  have ne_b5_nx_11 : b5 ≠ nx_11 := Nat.ne_of_lt (Nat.lt_of_lt_of_le E_b5.lt szonx_11)
  have ne_b8_nx_11 : b8 ≠ nx_11 := Nat.ne_of_lt (Nat.lt_of_lt_of_le V_b8.lt szonx_11)
  have szo_nx_11 : h0.size ≤ nx_11 := Nat.le_trans K.1 szonx_11
  have ne_o_nm_11 : o ≠ nm_11 := Nat.ne_of_lt (Nat.lt_of_lt_of_le E_o.lt szonm_11)
  have ne_b2_nm_11 : b2 ≠ nm_11 := Nat.ne_of_lt (Nat.lt_of_lt_of_le E_b2.lt szonm_11)
  have ne_b5_nm_11 : b5 ≠ nm_11 := Nat.ne_of_lt (Nat.lt_of_lt_of_le E_b5.lt szonm_11)
  have ne_b8_nm_11 : b8 ≠ nm_11 := Nat.ne_of_lt (Nat.lt_of_lt_of_le V_b8.lt szonm_11)
  have szo_nm_11 : h0.size ≤ nm_11 := Nat.le_trans K.1 szonm_11
  have ne_o_sr_11 : o ≠ sr_11 := Nat.ne_of_lt (Nat.lt_of_lt_of_le E_o.lt szosr_11)
  have ne_b2_sr_11 : b2 ≠ sr_11 := Nat.ne_of_lt (Nat.lt_of_lt_of_le E_b2.lt szosr_11)
  have ne_b5_sr_11 : b5 ≠ sr_11 := Nat.ne_of_lt (Nat.lt_of_lt_of_le E_b5.lt szosr_11)
  have ne_b8_sr_11 : b8 ≠ sr_11 := Nat.ne_of_lt (Nat.lt_of_lt_of_le V_b8.lt szosr_11)
  have szo_sr_11 : h0.size ≤ sr_11 := Nat.le_trans K.1 szosr_11
  have ne_o_ln_11 : o ≠ ln_11 := Nat.ne_of_lt (Nat.lt_of_lt_of_le E_o.lt szoln_11)
  have ne_b2_ln_11 : b2 ≠ ln_11 := Nat.ne_of_lt (Nat.lt_of_lt_of_le E_b2.lt szoln_11)
  have ne_b5_ln_11 : b5 ≠ ln_11 := Nat.ne_of_lt (Nat.lt_of_lt_of_le E_b5.lt szoln_11)
  have ne_b8_ln_11 : b8 ≠ ln_11 := Nat.ne_of_lt (Nat.lt_of_lt_of_le V_b8.lt szoln_11)
  have szo_ln_11 : h0.size ≤ ln_11 := Nat.le_trans K.1 szoln_11
  have S_dce := Own.staKeep S_dce K11 E_o
  have E_o := E_o.keep K11
  have E_b2 := E_b2.keep K11
  have E_b5 := E_b5.keep K11
  have V_b8 := V_b8.keep K11 (ninS (Ne.symm ne_o_b8) nin0)
  have sz11 : n0 ≤ T11.heap.size := Nat.le_trans sz9 K11.1
  have K := K.trans K11 (allS (Or.inl (by simp)) all0)
  have F_o_parent := F_o_parent'
  have F_o_firstChild := F_o_firstChild'
  have F_o_lastChild := F_o_lastChild'
  have F_o_previousSibling := F_o_previousSibling'
  have F_o_nextSibling := F_o_nextSibling'
  have F_o_name := F_o_name'
  have F_o_start := F_o_start'
  have F_o_length := F_o_length'
  have F_o_nodes := F_o_nodes'
  have V_pa_11 : Own.VArr Z T11.heap pa_11 .int ((.int (0 : Int32)) :: (.int (0 : Int32)) :: (.int (0 : Int32)) :: (.int (0 : Int32)) :: own_tl) := V_pa_11'
  have V_fc_11 : Own.VArr Z T11.heap fc_11 .int ((.int (0 : Int32)) :: (.int (0 : Int32)) :: (.int (0 : Int32)) :: (.int (0 : Int32)) :: own_tl) := V_fc_11'
  have V_la_11 : Own.VArr Z T11.heap la_11 .int ((.int (0 : Int32)) :: (.int (0 : Int32)) :: (.int (0 : Int32)) :: (.int (0 : Int32)) :: own_tl) := V_la_11'
  have V_pv_11 : Own.VArr Z T11.heap pv_11 .int ((.int (0 : Int32)) :: (.int (0 : Int32)) :: (.int (0 : Int32)) :: (.int (0 : Int32)) :: own_tl) := V_pv_11'
  have V_nx_11 : Own.VArr Z T11.heap nx_11 .int ((.int (0 : Int32)) :: (.int (0 : Int32)) :: (.int (0 : Int32)) :: (.int (0 : Int32)) :: own_tl) := V_nx_11'
  have V_nm_11 : Own.VArr Z T11.heap nm_11 .int ((.int (0 : Int32)) :: (.int (0 : Int32)) :: (.int (0 : Int32)) :: (.int (0 : Int32)) :: own_tl) := V_nm_11'
  have V_sr_11 : Own.VArr Z T11.heap sr_11 .int ((.int (0 : Int32)) :: (.int (0 : Int32)) :: (.int (0 : Int32)) :: (.int (0 : Int32)) :: own_tl) := V_sr_11'
  have V_ln_11 : Own.VArr Z T11.heap ln_11 .int ((.int (0 : Int32)) :: (.int (0 : Int32)) :: (.int (0 : Int32)) :: (.int (0 : Int32)) :: own_tl) := V_ln_11'
  have N11 := Fr.app N10 Nq11
  show Own.Go p e below _ (T11.setTop (mkF m 46 #[.val (.ref o), .val (.int (0 : Int32))] []))
  refine Own.aloadN X11 hx (pc := 46) (hb hby d1_46) rfl rfl ?_
  refine Own.bipush X11 hx (pc := 47) (-2 : Int32) (hb hby d1_47) (by decide) ?_
  refine Own.callPrivate X11 hx hZ (pc := 49) (y := (⟨"com/example/sprigdex/sprigdex/index/html/HtmlTree", "node", "(I)I"⟩ : MethodName)) hown (Wd hw 81 rfl) (Wd hw 82 rfl) (Wd hw 83 rfl) (Wd hw 1 rfl) (Wd hw 2 rfl) (Wd hw 84 rfl) (by decide) 0 o [(.int (-2 : Int32))] [] E_o (rm10 l Z a0 hw o (-2 : Int32) pa_11 fc_11 la_11 pv_11 nx_11 nm_11 sr_11 ((.int (0 : Int32)) :: (.int (0 : Int32)) :: (.int (0 : Int32)) :: (.int (0 : Int32)) :: own_tl) ((.int (0 : Int32)) :: (.int (0 : Int32)) :: (.int (0 : Int32)) :: (.int (0 : Int32)) :: own_tl) ((.int (0 : Int32)) :: (.int (0 : Int32)) :: (.int (0 : Int32)) :: (.int (0 : Int32)) :: own_tl) ((.int (0 : Int32)) :: (.int (0 : Int32)) :: (.int (0 : Int32)) :: (.int (0 : Int32)) :: own_tl) ((.int (0 : Int32)) :: (.int (0 : Int32)) :: (.int (0 : Int32)) :: (.int (0 : Int32)) :: own_tl) ((.int (0 : Int32)) :: (.int (0 : Int32)) :: (.int (0 : Int32)) :: (.int (0 : Int32)) :: own_tl) ((.int (0 : Int32)) :: (.int (0 : Int32)) :: (.int (0 : Int32)) :: (.int (0 : Int32)) :: own_tl) ln_11 (0 : Int32) T11.heap n0 sz11 E_o F_o_nodes F_o_parent F_o_firstChild F_o_lastChild F_o_previousSibling F_o_nextSibling F_o_name F_o_start F_o_length V_pa_11 V_fc_11 V_la_11 V_pv_11 V_nx_11 V_nm_11 V_sr_11 ge_o ge_pa_11 ge_fc_11 ge_la_11 ge_pv_11 ge_nx_11 ge_nm_11 ge_sr_11 ne_o_pa_11 ne_o_fc_11 ne_o_la_11 ne_o_pv_11 ne_o_nx_11 ne_o_nm_11 ne_o_sr_11 ne_pa_11_fc_11 ne_pa_11_la_11 ne_pa_11_pv_11 ne_pa_11_nx_11 ne_pa_11_nm_11 ne_pa_11_sr_11 ne_fc_11_la_11 ne_fc_11_pv_11 ne_fc_11_nx_11 ne_fc_11_nm_11 ne_fc_11_sr_11 ne_la_11_pv_11 ne_la_11_nx_11 ne_la_11_nm_11 ne_la_11_sr_11 ne_pv_11_nx_11 ne_pv_11_nm_11 ne_pv_11_sr_11 ne_nx_11_nm_11 ne_nx_11_sr_11 ne_nm_11_sr_11 rfl rfl rfl rfl rfl rfl rfl (by decide) (by decide) (by decide)) (by decide) (by decide) e11 (by rw [hml]; rfl) pd7 rfl rfl (Nat.le_of_eq rfl) (hb hby d1_49) (by decide) (by decide) ?_
  intro T12 L12 v12 X12 hQ12
  obtain ⟨rfl, Nq12, K12, F_o_parent', F_o_firstChild', F_o_lastChild', F_o_previousSibling', F_o_nextSibling', F_o_name', F_o_start', F_o_length', F_o_nodes', V_pa_11', V_fc_11', V_la_11', V_pv_11', V_nx_11', V_nm_11', V_sr_11'⟩ := hQ12
  have e12 : T12.heap = T12.heap := rfl
  have E_o := E_o.keep K12
  have E_b2 := E_b2.keep K12
  have E_b5 := E_b5.keep K12
  have V_b8 := V_b8.keep K12 (ninS (Ne.symm ne_o_b8) (ninS ne_b8_pa_11 (ninS ne_b8_fc_11 (ninS ne_b8_la_11 (ninS ne_b8_pv_11 (ninS ne_b8_nx_11 (ninS ne_b8_nm_11 (ninS ne_b8_sr_11 nin0))))))))
  have V_ln_11 := V_ln_11.keep K12 (ninS (Ne.symm ne_o_ln_11) (ninS (Ne.symm ne_pa_11_ln_11) (ninS (Ne.symm ne_fc_11_ln_11) (ninS (Ne.symm ne_la_11_ln_11) (ninS (Ne.symm ne_pv_11_ln_11) (ninS (Ne.symm ne_nx_11_ln_11) (ninS (Ne.symm ne_nm_11_ln_11) (ninS (Ne.symm ne_sr_11_ln_11) nin0))))))))
  have sz12 : n0 ≤ T12.heap.size := Nat.le_trans sz11 K12.1
  have K := K.trans K12 (allS (Or.inl (by simp)) (allS (Or.inr szo_pa_11) (allS (Or.inr szo_fc_11) (allS (Or.inr szo_la_11) (allS (Or.inr szo_pv_11) (allS (Or.inr szo_nx_11) (allS (Or.inr szo_nm_11) (allS (Or.inr szo_sr_11) all0))))))))
  have F_o_parent := F_o_parent'
  have F_o_firstChild := F_o_firstChild'
  have F_o_lastChild := F_o_lastChild'
  have F_o_previousSibling := F_o_previousSibling'
  have F_o_nextSibling := F_o_nextSibling'
  have F_o_name := F_o_name'
  have F_o_start := F_o_start'
  have F_o_length := F_o_length'
  have F_o_nodes := F_o_nodes'
  have V_pa_11 : Own.VArr Z T12.heap pa_11 .int ((.int (-1 : Int32)) :: (.int (0 : Int32)) :: (.int (0 : Int32)) :: (.int (0 : Int32)) :: own_tl) := V_pa_11'
  have V_fc_11 : Own.VArr Z T12.heap fc_11 .int ((.int (-1 : Int32)) :: (.int (0 : Int32)) :: (.int (0 : Int32)) :: (.int (0 : Int32)) :: own_tl) := V_fc_11'
  have V_la_11 : Own.VArr Z T12.heap la_11 .int ((.int (-1 : Int32)) :: (.int (0 : Int32)) :: (.int (0 : Int32)) :: (.int (0 : Int32)) :: own_tl) := V_la_11'
  have V_pv_11 : Own.VArr Z T12.heap pv_11 .int ((.int (-1 : Int32)) :: (.int (0 : Int32)) :: (.int (0 : Int32)) :: (.int (0 : Int32)) :: own_tl) := V_pv_11'
  have V_nx_11 : Own.VArr Z T12.heap nx_11 .int ((.int (-1 : Int32)) :: (.int (0 : Int32)) :: (.int (0 : Int32)) :: (.int (0 : Int32)) :: own_tl) := V_nx_11'
  have V_nm_11 : Own.VArr Z T12.heap nm_11 .int ((.int (-2 : Int32)) :: (.int (0 : Int32)) :: (.int (0 : Int32)) :: (.int (0 : Int32)) :: own_tl) := V_nm_11'
  have V_sr_11 : Own.VArr Z T12.heap sr_11 .int ((.int (-1 : Int32)) :: (.int (0 : Int32)) :: (.int (0 : Int32)) :: (.int (0 : Int32)) :: own_tl) := V_sr_11'
  have N12 := Fr.app N11 Nq12
  show Own.Go p e below _ (T12.setTop (mkF m 52 #[.val (.ref o), .val (.int (0 : Int32))] [(.int (0 : Int32))]))
  refine Own.pop X12 hx (pc := 52) (hb hby d1_52) rfl ?_
  exact Own.vreturn X12 hx hk hret (hb hby d1_53) e12 ⟨pa_11, fc_11, la_11, pv_11, nx_11, nm_11, sr_11, ln_11, rfl, N12, K, ge_pa_11, ge_fc_11, ge_la_11, ge_pv_11, ge_nx_11, ge_nm_11, ge_sr_11, ge_ln_11, szo_pa_11, szo_fc_11, szo_la_11, szo_pv_11, szo_nx_11, szo_nm_11, szo_sr_11, szo_ln_11, ne_pa_11_fc_11, ne_pa_11_la_11, ne_pa_11_pv_11, ne_pa_11_nx_11, ne_pa_11_nm_11, ne_pa_11_sr_11, ne_pa_11_ln_11, ne_fc_11_la_11, ne_fc_11_pv_11, ne_fc_11_nx_11, ne_fc_11_nm_11, ne_fc_11_sr_11, ne_fc_11_ln_11, ne_la_11_pv_11, ne_la_11_nx_11, ne_la_11_nm_11, ne_la_11_sr_11, ne_la_11_ln_11, ne_pv_11_nx_11, ne_pv_11_nm_11, ne_pv_11_sr_11, ne_pv_11_ln_11, ne_nx_11_nm_11, ne_nx_11_sr_11, ne_nx_11_ln_11, ne_nm_11_sr_11, ne_nm_11_ln_11, ne_sr_11_ln_11, F_o_parent, F_o_firstChild, F_o_lastChild, F_o_previousSibling, F_o_nextSibling, F_o_name, F_o_start, F_o_length, F_o_nodes, V_pa_11, V_fc_11, V_la_11, V_pv_11, V_nx_11, V_nm_11, V_sr_11, V_ln_11⟩ (by decide) (by decide)
theorem d14_0 : decode prog_122_method_12_code 0 = .ok (.aload_n 0, 1) := by decide +kernel
theorem d14_1 : decode prog_122_method_12_code 1 = .ok (.getfield 96, 3) := by decide +kernel
theorem d14_4 : decode prog_122_method_12_code 4 = .ok (.iload_n 1, 1) := by decide +kernel
theorem d14_5 : decode prog_122_method_12_code 5 = .ok (.iaload, 1) := by decide +kernel
theorem d14_6 : decode prog_122_method_12_code 6 = .ok (.ireturn, 1) := by decide +kernel
theorem ef_rm14 (m : MethodId) (o : Addr) (nd : Int32) : entryFrame m #[(.ref o), (.int nd)] 2 = mkF m 0 #[.val (.ref o), .val (.int nd)] [] := by first | (simp [entryFrame, mkF, argsToLocals, Value.category]; done) | rfl
set_option maxRecDepth 65536 in
set_option maxHeartbeats 40000000 in
theorem rm14 (l : Launch) (Z : State) (a0 : Array Value) (hw : ∀ d ∈ tables_1, d.before a0 Z = true) (o : Addr) (nd : Int32) (pa : Addr) (vpa : List Value) (y : Int32) (h0 : Heap) (n0 : Nat) (Z0 : n0 ≤ h0.size) (F_o_parent : Fld Z h0 o "com/example/sprigdex/sprigdex/index/html/HtmlTree" "parent" "[I" (.ref pa)) (V_pa : Own.VArr Z h0 pa .int vpa) (hnd : ¬ nd < 0) (hy : vpa[nd.toNatClampNeg]? = some (.int y)) :
    Own.Ct l (⟨"com/example/sprigdex/sprigdex/index/html/HtmlTree", "parent", "(I)I"⟩ : MethodName) prog_122_method_12_code 2 (some .int) [] ({ frames := 0, cells := 0, slots := 0, locals := 0 } : Room) Z #[(.ref o), (.int nd)] h0 (fun rV hP lC => rV = some (.int y) ∧ Fr n0 lC ∧ hP = h0) := by
  refine Own.enter (plainFor_of_name pn6) ?_
  intro p e s m below meth cc s₁ hx hby hml hown hnm hret hk hZ X0 e0
  have N0 := Fr.nil n0
  refine Own.start (ef_rm14 m o nd) ?_
  refine Own.aloadN X0 hx (pc := 0) (hb hby d14_0) rfl rfl ?_
  refine Own.getfield X0 hx hZ (pc := 1) hown (host := "") (Or.inl (Wd hw 64 rfl)) Via.refl e0 F_o_parent (hb hby d14_1) ?_
  intro T1 X1 e1
  refine Own.iloadN X1 hx (pc := 4) (hb hby d14_4) rfl ?_
  refine Own.iaload X1 hx hZ (pc := 5) e1 V_pa (v := (.int y)) nd.toNatClampNeg hnd rfl hy (hb hby d14_5) ?_
  exact Own.ireturn X1 hx hk hret (by simp) rfl (hb hby d14_6) e1 ⟨rfl, N0, rfl⟩ (by decide) (by decide)
theorem d16_0 : decode prog_122_method_13_code 0 = .ok (.aload_n 0, 1) := by decide +kernel
theorem d16_1 : decode prog_122_method_13_code 1 = .ok (.getfield 102, 3) := by decide +kernel
theorem d16_4 : decode prog_122_method_13_code 4 = .ok (.iload_n 1, 1) := by decide +kernel
theorem d16_5 : decode prog_122_method_13_code 5 = .ok (.iaload, 1) := by decide +kernel
theorem d16_6 : decode prog_122_method_13_code 6 = .ok (.ireturn, 1) := by decide +kernel
theorem ef_rm16 (m : MethodId) (o : Addr) (nd : Int32) : entryFrame m #[(.ref o), (.int nd)] 2 = mkF m 0 #[.val (.ref o), .val (.int nd)] [] := by first | (simp [entryFrame, mkF, argsToLocals, Value.category]; done) | rfl
set_option maxRecDepth 65536 in
set_option maxHeartbeats 40000000 in
theorem rm16 (l : Launch) (Z : State) (a0 : Array Value) (hw : ∀ d ∈ tables_1, d.before a0 Z = true) (o : Addr) (nd : Int32) (fc : Addr) (vfc : List Value) (y : Int32) (h0 : Heap) (n0 : Nat) (Z0 : n0 ≤ h0.size) (F_o_firstChild : Fld Z h0 o "com/example/sprigdex/sprigdex/index/html/HtmlTree" "firstChild" "[I" (.ref fc)) (V_fc : Own.VArr Z h0 fc .int vfc) (hnd : ¬ nd < 0) (hy : vfc[nd.toNatClampNeg]? = some (.int y)) :
    Own.Ct l (⟨"com/example/sprigdex/sprigdex/index/html/HtmlTree", "firstChild", "(I)I"⟩ : MethodName) prog_122_method_13_code 2 (some .int) [] ({ frames := 0, cells := 0, slots := 0, locals := 0 } : Room) Z #[(.ref o), (.int nd)] h0 (fun rV hP lC => rV = some (.int y) ∧ Fr n0 lC ∧ hP = h0) := by
  refine Own.enter (plainFor_of_name pn6) ?_
  intro p e s m below meth cc s₁ hx hby hml hown hnm hret hk hZ X0 e0
  have N0 := Fr.nil n0
  refine Own.start (ef_rm16 m o nd) ?_
  refine Own.aloadN X0 hx (pc := 0) (hb hby d16_0) rfl rfl ?_
  refine Own.getfield X0 hx hZ (pc := 1) hown (host := "") (Or.inl (Wd hw 67 rfl)) Via.refl e0 F_o_firstChild (hb hby d16_1) ?_
  intro T1 X1 e1
  refine Own.iloadN X1 hx (pc := 4) (hb hby d16_4) rfl ?_
  refine Own.iaload X1 hx hZ (pc := 5) e1 V_fc (v := (.int y)) nd.toNatClampNeg hnd rfl hy (hb hby d16_5) ?_
  exact Own.ireturn X1 hx hk hret (by simp) rfl (hb hby d16_6) e1 ⟨rfl, N0, rfl⟩ (by decide) (by decide)
theorem d17_0 : decode prog_122_method_14_code 0 = .ok (.aload_n 0, 1) := by decide +kernel
theorem d17_1 : decode prog_122_method_14_code 1 = .ok (.getfield 99, 3) := by decide +kernel
theorem d17_4 : decode prog_122_method_14_code 4 = .ok (.iload_n 1, 1) := by decide +kernel
theorem d17_5 : decode prog_122_method_14_code 5 = .ok (.iaload, 1) := by decide +kernel
theorem d17_6 : decode prog_122_method_14_code 6 = .ok (.ireturn, 1) := by decide +kernel
theorem ef_rm17 (m : MethodId) (o : Addr) (nd : Int32) : entryFrame m #[(.ref o), (.int nd)] 2 = mkF m 0 #[.val (.ref o), .val (.int nd)] [] := by first | (simp [entryFrame, mkF, argsToLocals, Value.category]; done) | rfl
set_option maxRecDepth 65536 in
set_option maxHeartbeats 40000000 in
theorem rm17 (l : Launch) (Z : State) (a0 : Array Value) (hw : ∀ d ∈ tables_1, d.before a0 Z = true) (o : Addr) (nd : Int32) (nx : Addr) (vnx : List Value) (y : Int32) (h0 : Heap) (n0 : Nat) (Z0 : n0 ≤ h0.size) (F_o_nextSibling : Fld Z h0 o "com/example/sprigdex/sprigdex/index/html/HtmlTree" "nextSibling" "[I" (.ref nx)) (V_nx : Own.VArr Z h0 nx .int vnx) (hnd : ¬ nd < 0) (hy : vnx[nd.toNatClampNeg]? = some (.int y)) :
    Own.Ct l (⟨"com/example/sprigdex/sprigdex/index/html/HtmlTree", "nextSibling", "(I)I"⟩ : MethodName) prog_122_method_14_code 2 (some .int) [] ({ frames := 0, cells := 0, slots := 0, locals := 0 } : Room) Z #[(.ref o), (.int nd)] h0 (fun rV hP lC => rV = some (.int y) ∧ Fr n0 lC ∧ hP = h0) := by
  refine Own.enter (plainFor_of_name pn6) ?_
  intro p e s m below meth cc s₁ hx hby hml hown hnm hret hk hZ X0 e0
  have N0 := Fr.nil n0
  refine Own.start (ef_rm17 m o nd) ?_
  refine Own.aloadN X0 hx (pc := 0) (hb hby d17_0) rfl rfl ?_
  refine Own.getfield X0 hx hZ (pc := 1) hown (host := "") (Or.inl (Wd hw 73 rfl)) Via.refl e0 F_o_nextSibling (hb hby d17_1) ?_
  intro T1 X1 e1
  refine Own.iloadN X1 hx (pc := 4) (hb hby d17_4) rfl ?_
  refine Own.iaload X1 hx hZ (pc := 5) e1 V_nx (v := (.int y)) nd.toNatClampNeg hnd rfl hy (hb hby d17_5) ?_
  exact Own.ireturn X1 hx hk hret (by simp) rfl (hb hby d17_6) e1 ⟨rfl, N0, rfl⟩ (by decide) (by decide)
theorem d13_0 : decode prog_122_method_6_code 0 = .ok (.aload_n 0, 1) := by decide +kernel
theorem d13_1 : decode prog_122_method_6_code 1 = .ok (.getfield 96, 3) := by decide +kernel
theorem d13_4 : decode prog_122_method_6_code 4 = .ok (.iload_n 1, 1) := by decide +kernel
theorem d13_5 : decode prog_122_method_6_code 5 = .ok (.iaload, 1) := by decide +kernel
theorem d13_6 : decode prog_122_method_6_code 6 = .ok (.istore_n 2, 1) := by decide +kernel
theorem d13_7 : decode prog_122_method_6_code 7 = .ok (.iload_n 2, 1) := by decide +kernel
theorem d13_8 : decode prog_122_method_6_code 8 = .ok (.iconst (-1), 1) := by decide +kernel
theorem d13_9 : decode prog_122_method_6_code 9 = .ok (.if_icmp .ne 4, 3) := by decide +kernel
theorem d13_12 : decode prog_122_method_6_code 12 = .ok (.return_, 1) := by decide +kernel
theorem ef_rmD0 (m : MethodId) (o : Addr) (nd : Int32) : entryFrame m #[(.ref o), (.int nd)] 5 = mkF m 0 #[.val (.ref o), .val (.int nd), .unset, .unset, .unset] [] := by first | (simp [entryFrame, mkF, argsToLocals, Value.category]; done) | rfl
set_option maxRecDepth 65536 in
set_option maxHeartbeats 40000000 in
theorem rmD0 (l : Launch) (Z : State) (a0 : Array Value) (hw : ∀ d ∈ tables_1, d.before a0 Z = true) (o : Addr) (nd : Int32) (pa : Addr) (vpa : List Value) (h0 : Heap) (n0 : Nat) (Z0 : n0 ≤ h0.size) (F_o_parent : Fld Z h0 o "com/example/sprigdex/sprigdex/index/html/HtmlTree" "parent" "[I" (.ref pa)) (V_pa : Own.VArr Z h0 pa .int vpa) (hnd : ¬ nd < 0) (hy : vpa[nd.toNatClampNeg]? = some (.int (-1 : Int32))) :
    Own.Ct l (⟨"com/example/sprigdex/sprigdex/index/html/HtmlTree", "detach", "(I)V"⟩ : MethodName) prog_122_method_6_code 5 none [] ({ frames := 0, cells := 0, slots := 0, locals := 0 } : Room) Z #[(.ref o), (.int nd)] h0 (fun rV hP lC => rV = none ∧ Fr n0 lC ∧ hP = h0) := by
  refine Own.enter (plainFor_of_name pn6) ?_
  intro p e s m below meth cc s₁ hx hby hml hown hnm hret hk hZ X0 e0
  have N0 := Fr.nil n0
  refine Own.start (ef_rmD0 m o nd) ?_
  refine Own.aloadN X0 hx (pc := 0) (hb hby d13_0) rfl rfl ?_
  refine Own.getfield X0 hx hZ (pc := 1) hown (host := "") (Or.inl (Wd hw 64 rfl)) Via.refl e0 F_o_parent (hb hby d13_1) ?_
  intro T1 X1 e1
  refine Own.iloadN X1 hx (pc := 4) (hb hby d13_4) rfl ?_
  refine Own.iaload X1 hx hZ (pc := 5) e1 V_pa (v := (.int (-1 : Int32))) nd.toNatClampNeg hnd rfl hy (hb hby d13_5) ?_
  refine Own.istoreN X1 hx (pc := 6) #[.val (.ref o), .val (.int nd), .val (.int (-1 : Int32)), .unset, .unset] (hb hby d13_6) rfl ?_
  refine Own.iloadN X1 hx (pc := 7) (hb hby d13_7) rfl ?_
  refine Own.iconst X1 hx (pc := 8) (-1 : Int32) (hb hby d13_8) (by decide) ?_
  refine Own.icmpNo X1 hx (pc := 9) (hb hby d13_9) (by decide) ?_
  exact Own.vreturn X1 hx hk hret (hb hby d13_12) e1 ⟨rfl, N0, rfl⟩ (by decide) (by decide)
theorem d13_13 : decode prog_122_method_6_code 13 = .ok (.aload_n 0, 1) := by decide +kernel
theorem d13_14 : decode prog_122_method_6_code 14 = .ok (.getfield 93, 3) := by decide +kernel
theorem d13_17 : decode prog_122_method_6_code 17 = .ok (.iload_n 1, 1) := by decide +kernel
theorem d13_18 : decode prog_122_method_6_code 18 = .ok (.iaload, 1) := by decide +kernel
theorem d13_19 : decode prog_122_method_6_code 19 = .ok (.istore_n 3, 1) := by decide +kernel
theorem d13_20 : decode prog_122_method_6_code 20 = .ok (.aload_n 0, 1) := by decide +kernel
theorem d13_21 : decode prog_122_method_6_code 21 = .ok (.getfield 99, 3) := by decide +kernel
theorem d13_24 : decode prog_122_method_6_code 24 = .ok (.iload_n 1, 1) := by decide +kernel
theorem d13_25 : decode prog_122_method_6_code 25 = .ok (.iaload, 1) := by decide +kernel
theorem d13_26 : decode prog_122_method_6_code 26 = .ok (.istore 4, 2) := by decide +kernel
theorem d13_28 : decode prog_122_method_6_code 28 = .ok (.iload_n 3, 1) := by decide +kernel
theorem d13_29 : decode prog_122_method_6_code 29 = .ok (.iconst (-1), 1) := by decide +kernel
theorem d13_30 : decode prog_122_method_6_code 30 = .ok (.if_icmp .ne 14, 3) := by decide +kernel
theorem d13_33 : decode prog_122_method_6_code 33 = .ok (.aload_n 0, 1) := by decide +kernel
theorem d13_34 : decode prog_122_method_6_code 34 = .ok (.getfield 102, 3) := by decide +kernel
theorem d13_37 : decode prog_122_method_6_code 37 = .ok (.iload_n 2, 1) := by decide +kernel
theorem d13_38 : decode prog_122_method_6_code 38 = .ok (.iload 4, 2) := by decide +kernel
theorem d13_40 : decode prog_122_method_6_code 40 = .ok (.iastore, 1) := by decide +kernel
theorem d13_41 : decode prog_122_method_6_code 41 = .ok (.goto 11, 3) := by decide +kernel
theorem d13_52 : decode prog_122_method_6_code 52 = .ok (.iload 4, 2) := by decide +kernel
theorem d13_54 : decode prog_122_method_6_code 54 = .ok (.iconst (-1), 1) := by decide +kernel
theorem d13_55 : decode prog_122_method_6_code 55 = .ok (.if_icmp .ne 13, 3) := by decide +kernel
theorem d13_58 : decode prog_122_method_6_code 58 = .ok (.aload_n 0, 1) := by decide +kernel
theorem d13_59 : decode prog_122_method_6_code 59 = .ok (.getfield 90, 3) := by decide +kernel
theorem d13_62 : decode prog_122_method_6_code 62 = .ok (.iload_n 2, 1) := by decide +kernel
theorem d13_63 : decode prog_122_method_6_code 63 = .ok (.iload_n 3, 1) := by decide +kernel
theorem d13_64 : decode prog_122_method_6_code 64 = .ok (.iastore, 1) := by decide +kernel
theorem d13_65 : decode prog_122_method_6_code 65 = .ok (.goto 11, 3) := by decide +kernel
theorem d13_76 : decode prog_122_method_6_code 76 = .ok (.aload_n 0, 1) := by decide +kernel
theorem d13_77 : decode prog_122_method_6_code 77 = .ok (.getfield 96, 3) := by decide +kernel
theorem d13_80 : decode prog_122_method_6_code 80 = .ok (.iload_n 1, 1) := by decide +kernel
theorem d13_81 : decode prog_122_method_6_code 81 = .ok (.iconst (-1), 1) := by decide +kernel
theorem d13_82 : decode prog_122_method_6_code 82 = .ok (.iastore, 1) := by decide +kernel
theorem d13_83 : decode prog_122_method_6_code 83 = .ok (.aload_n 0, 1) := by decide +kernel
theorem d13_84 : decode prog_122_method_6_code 84 = .ok (.getfield 93, 3) := by decide +kernel
theorem d13_87 : decode prog_122_method_6_code 87 = .ok (.iload_n 1, 1) := by decide +kernel
theorem d13_88 : decode prog_122_method_6_code 88 = .ok (.iconst (-1), 1) := by decide +kernel
theorem d13_89 : decode prog_122_method_6_code 89 = .ok (.iastore, 1) := by decide +kernel
theorem d13_90 : decode prog_122_method_6_code 90 = .ok (.aload_n 0, 1) := by decide +kernel
theorem d13_91 : decode prog_122_method_6_code 91 = .ok (.getfield 99, 3) := by decide +kernel
theorem d13_94 : decode prog_122_method_6_code 94 = .ok (.iload_n 1, 1) := by decide +kernel
theorem d13_95 : decode prog_122_method_6_code 95 = .ok (.iconst (-1), 1) := by decide +kernel
theorem d13_96 : decode prog_122_method_6_code 96 = .ok (.iastore, 1) := by decide +kernel
theorem d13_97 : decode prog_122_method_6_code 97 = .ok (.return_, 1) := by decide +kernel
theorem ef_rmD00 (m : MethodId) (o : Addr) (nd : Int32) : entryFrame m #[(.ref o), (.int nd)] 5 = mkF m 0 #[.val (.ref o), .val (.int nd), .unset, .unset, .unset] [] := by first | (simp [entryFrame, mkF, argsToLocals, Value.category]; done) | rfl
set_option maxRecDepth 65536 in
set_option maxHeartbeats 40000000 in
theorem rmD00 (l : Launch) (Z : State) (a0 : Array Value) (hw : ∀ d ∈ tables_1, d.before a0 Z = true) (o : Addr) (nd : Int32) (pa : Addr) (fc : Addr) (la : Addr) (pv : Addr) (nx : Addr) (vpa : List Value) (vfc : List Value) (vla : List Value) (vpv : List Value) (vnx : List Value) (fr : Int32) (h0 : Heap) (n0 : Nat) (Z0 : n0 ≤ h0.size) (F_o_parent : Fld Z h0 o "com/example/sprigdex/sprigdex/index/html/HtmlTree" "parent" "[I" (.ref pa)) (F_o_firstChild : Fld Z h0 o "com/example/sprigdex/sprigdex/index/html/HtmlTree" "firstChild" "[I" (.ref fc)) (F_o_lastChild : Fld Z h0 o "com/example/sprigdex/sprigdex/index/html/HtmlTree" "lastChild" "[I" (.ref la)) (F_o_previousSibling : Fld Z h0 o "com/example/sprigdex/sprigdex/index/html/HtmlTree" "previousSibling" "[I" (.ref pv)) (F_o_nextSibling : Fld Z h0 o "com/example/sprigdex/sprigdex/index/html/HtmlTree" "nextSibling" "[I" (.ref nx)) (V_pa : Own.VArr Z h0 pa .int vpa) (V_fc : Own.VArr Z h0 fc .int vfc) (V_la : Own.VArr Z h0 la .int vla) (V_pv : Own.VArr Z h0 pv .int vpv) (V_nx : Own.VArr Z h0 nx .int vnx) (ge_pa : n0 ≤ pa) (ge_fc : n0 ≤ fc) (ge_la : n0 ≤ la) (ge_pv : n0 ≤ pv) (ge_nx : n0 ≤ nx) (ne_o_pa : o ≠ pa) (ne_o_fc : o ≠ fc) (ne_o_la : o ≠ la) (ne_o_pv : o ≠ pv) (ne_o_nx : o ≠ nx) (ne_pa_fc : pa ≠ fc) (ne_pa_la : pa ≠ la) (ne_pa_pv : pa ≠ pv) (ne_pa_nx : pa ≠ nx) (ne_fc_la : fc ≠ la) (ne_fc_pv : fc ≠ pv) (ne_fc_nx : fc ≠ nx) (ne_la_pv : la ≠ pv) (ne_la_nx : la ≠ nx) (ne_pv_nx : pv ≠ nx) (hl_pa : vpa.length = 64) (hl_fc : vfc.length = 64) (hl_la : vla.length = 64) (hl_pv : vpv.length = 64) (hl_nx : vnx.length = 64) (hn_nd : ¬ nd < 0) (hb_nd : nd.toNatClampNeg < 64) (hn_fr : ¬ fr < 0) (hb_fr : fr.toNatClampNeg < 64) (h1 : (vpa : List Value)[nd.toNatClampNeg]? = some (.int fr)) (h2 : (vpv : List Value)[nd.toNatClampNeg]? = some (.int (-1 : Int32))) (h3 : (vnx : List Value)[nd.toNatClampNeg]? = some (.int (-1 : Int32))) (hfr : ¬ fr = (-1 : Int32)) :
    Own.Ct l (⟨"com/example/sprigdex/sprigdex/index/html/HtmlTree", "detach", "(I)V"⟩ : MethodName) prog_122_method_6_code 5 none [] ({ frames := 0, cells := 0, slots := 0, locals := 0 } : Room) Z #[(.ref o), (.int nd)] h0 (fun rV hP lC => rV = none ∧ Fr n0 lC ∧ Keep h0 hP [pa, fc, la, pv, nx] ∧ Own.VArr Z hP pa .int (vpa.set nd.toNatClampNeg (.int (-1 : Int32))) ∧ Own.VArr Z hP fc .int (vfc.set fr.toNatClampNeg (.int (-1 : Int32))) ∧ Own.VArr Z hP la .int (vla.set fr.toNatClampNeg (.int (-1 : Int32))) ∧ Own.VArr Z hP pv .int (vpv.set nd.toNatClampNeg (.int (-1 : Int32))) ∧ Own.VArr Z hP nx .int (vnx.set nd.toNatClampNeg (.int (-1 : Int32)))) := by
  refine Own.enter (plainFor_of_name pn6) ?_
  intro p e s m below meth cc s₁ hx hby hml hown hnm hret hk hZ X0 e0
  have N0 := Fr.nil n0
  refine Own.start (ef_rmD00 m o nd) ?_
  have K : Keep h0 h0 [pa, fc, la, pv, nx] := Keep.refl _ _
  refine Own.aloadN X0 hx (pc := 0) (hb hby d13_0) rfl rfl ?_
  refine Own.getfield X0 hx hZ (pc := 1) hown (host := "") (Or.inl (Wd hw 64 rfl)) Via.refl e0 F_o_parent (hb hby d13_1) ?_
  intro T1 X1 e1
  refine Own.iloadN X1 hx (pc := 4) (hb hby d13_4) rfl ?_
  refine Own.iaload X1 hx hZ (pc := 5) e1 V_pa (v := (.int fr)) nd.toNatClampNeg hn_nd rfl h1 (hb hby d13_5) ?_
  refine Own.istoreN X1 hx (pc := 6) #[.val (.ref o), .val (.int nd), .val (.int fr), .unset, .unset] (hb hby d13_6) rfl ?_
  refine Own.iloadN X1 hx (pc := 7) (hb hby d13_7) rfl ?_
  refine Own.iconst X1 hx (pc := 8) (-1 : Int32) (hb hby d13_8) (by decide) ?_
  refine Own.icmpYes X1 hx (pc := 9) 13 (hb hby d13_9) (XT.ii_ne_t hfr) (by decide) (by decide) ?_
  refine Own.aloadN X1 hx (pc := 13) (hb hby d13_13) rfl rfl ?_
  refine Own.getfield X1 hx hZ (pc := 14) hown (host := "") (Or.inl (Wd hw 71 rfl)) Via.refl e1 F_o_previousSibling (hb hby d13_14) ?_
  intro T2 X2 e2
  refine Own.iloadN X2 hx (pc := 17) (hb hby d13_17) rfl ?_
  refine Own.iaload X2 hx hZ (pc := 18) e2 V_pv (v := (.int (-1 : Int32))) nd.toNatClampNeg hn_nd rfl h2 (hb hby d13_18) ?_
  refine Own.istoreN X2 hx (pc := 19) #[.val (.ref o), .val (.int nd), .val (.int fr), .val (.int (-1 : Int32)), .unset] (hb hby d13_19) rfl ?_
  refine Own.aloadN X2 hx (pc := 20) (hb hby d13_20) rfl rfl ?_
  refine Own.getfield X2 hx hZ (pc := 21) hown (host := "") (Or.inl (Wd hw 73 rfl)) Via.refl e2 F_o_nextSibling (hb hby d13_21) ?_
  intro T3 X3 e3
  refine Own.iloadN X3 hx (pc := 24) (hb hby d13_24) rfl ?_
  refine Own.iaload X3 hx hZ (pc := 25) e3 V_nx (v := (.int (-1 : Int32))) nd.toNatClampNeg hn_nd rfl h3 (hb hby d13_25) ?_
  refine Own.istore X3 hx (pc := 26) #[.val (.ref o), .val (.int nd), .val (.int fr), .val (.int (-1 : Int32)), .val (.int (-1 : Int32))] (hb hby d13_26) rfl ?_
  refine Own.iloadN X3 hx (pc := 28) (hb hby d13_28) rfl ?_
  refine Own.iconst X3 hx (pc := 29) (-1 : Int32) (hb hby d13_29) (by decide) ?_
  refine Own.icmpNo X3 hx (pc := 30) (hb hby d13_30) (by decide) ?_
  refine Own.aloadN X3 hx (pc := 33) (hb hby d13_33) rfl rfl ?_
  refine Own.getfield X3 hx hZ (pc := 34) hown (host := "") (Or.inl (Wd hw 67 rfl)) Via.refl e3 F_o_firstChild (hb hby d13_34) ?_
  intro T4 X4 e4
  refine Own.iloadN X4 hx (pc := 37) (hb hby d13_37) rfl ?_
  refine Own.iload X4 hx (pc := 38) (hb hby d13_38) rfl ?_
  refine Own.iastore X4 hx hZ (pc := 40) e4 V_fc fr.toNatClampNeg hn_fr rfl (by simpa [hl_fc] using hb_fr) N0 ge_fc (hb hby d13_40) ?_
  intro T5 h5 X5 e5 W5 N5 V_fc
  have sz5 : n0 ≤ h5.size := Nat.le_trans Z0 (Nat.le_of_eq (Wr.size W5).symm)
  have F_o_parent := Fld.other W5 F_o_parent (Or.inl ne_o_fc)
  have F_o_firstChild := Fld.other W5 F_o_firstChild (Or.inl ne_o_fc)
  have F_o_lastChild := Fld.other W5 F_o_lastChild (Or.inl ne_o_fc)
  have F_o_previousSibling := Fld.other W5 F_o_previousSibling (Or.inl ne_o_fc)
  have F_o_nextSibling := Fld.other W5 F_o_nextSibling (Or.inl ne_o_fc)
  have V_pa := V_pa.other W5 ne_pa_fc
  have V_la := V_la.other W5 (Ne.symm ne_fc_la)
  have V_pv := V_pv.other W5 (Ne.symm ne_fc_pv)
  have V_nx := V_nx.other W5 (Ne.symm ne_fc_nx)
  have K := K.wr W5 (Or.inl (by simp))
  refine Own.goto X5 hx (pc := 41) 52 (hb hby d13_41) (by decide) (by decide) ?_
  refine Own.iload X5 hx (pc := 52) (hb hby d13_52) rfl ?_
  refine Own.iconst X5 hx (pc := 54) (-1 : Int32) (hb hby d13_54) (by decide) ?_
  refine Own.icmpNo X5 hx (pc := 55) (hb hby d13_55) (by decide) ?_
  refine Own.aloadN X5 hx (pc := 58) (hb hby d13_58) rfl rfl ?_
  refine Own.getfield X5 hx hZ (pc := 59) hown (host := "") (Or.inl (Wd hw 69 rfl)) Via.refl e5 F_o_lastChild (hb hby d13_59) ?_
  intro T6 X6 e6
  refine Own.iloadN X6 hx (pc := 62) (hb hby d13_62) rfl ?_
  refine Own.iloadN X6 hx (pc := 63) (hb hby d13_63) rfl ?_
  refine Own.iastore X6 hx hZ (pc := 64) e6 V_la fr.toNatClampNeg hn_fr rfl (by simpa [hl_la] using hb_fr) N5 ge_la (hb hby d13_64) ?_
  intro T7 h7 X7 e7 W7 N7 V_la
  have sz7 : n0 ≤ h7.size := Nat.le_trans sz5 (Nat.le_of_eq (Wr.size W7).symm)
  have F_o_parent := Fld.other W7 F_o_parent (Or.inl ne_o_la)
  have F_o_firstChild := Fld.other W7 F_o_firstChild (Or.inl ne_o_la)
  have F_o_lastChild := Fld.other W7 F_o_lastChild (Or.inl ne_o_la)
  have F_o_previousSibling := Fld.other W7 F_o_previousSibling (Or.inl ne_o_la)
  have F_o_nextSibling := Fld.other W7 F_o_nextSibling (Or.inl ne_o_la)
  have V_pa := V_pa.other W7 ne_pa_la
  have V_fc := V_fc.other W7 ne_fc_la
  have V_pv := V_pv.other W7 (Ne.symm ne_la_pv)
  have V_nx := V_nx.other W7 (Ne.symm ne_la_nx)
  have K := K.wr W7 (Or.inl (by simp))
  refine Own.goto X7 hx (pc := 65) 76 (hb hby d13_65) (by decide) (by decide) ?_
  refine Own.aloadN X7 hx (pc := 76) (hb hby d13_76) rfl rfl ?_
  refine Own.getfield X7 hx hZ (pc := 77) hown (host := "") (Or.inl (Wd hw 64 rfl)) Via.refl e7 F_o_parent (hb hby d13_77) ?_
  intro T8 X8 e8
  refine Own.iloadN X8 hx (pc := 80) (hb hby d13_80) rfl ?_
  refine Own.iconst X8 hx (pc := 81) (-1 : Int32) (hb hby d13_81) (by decide) ?_
  refine Own.iastore X8 hx hZ (pc := 82) e8 V_pa nd.toNatClampNeg hn_nd rfl (by simpa [hl_pa] using hb_nd) N7 ge_pa (hb hby d13_82) ?_
  intro T9 h9 X9 e9 W9 N9 V_pa
  have sz9 : n0 ≤ h9.size := Nat.le_trans sz7 (Nat.le_of_eq (Wr.size W9).symm)
  have F_o_parent := Fld.other W9 F_o_parent (Or.inl ne_o_pa)
  have F_o_firstChild := Fld.other W9 F_o_firstChild (Or.inl ne_o_pa)
  have F_o_lastChild := Fld.other W9 F_o_lastChild (Or.inl ne_o_pa)
  have F_o_previousSibling := Fld.other W9 F_o_previousSibling (Or.inl ne_o_pa)
  have F_o_nextSibling := Fld.other W9 F_o_nextSibling (Or.inl ne_o_pa)
  have V_fc := V_fc.other W9 (Ne.symm ne_pa_fc)
  have V_la := V_la.other W9 (Ne.symm ne_pa_la)
  have V_pv := V_pv.other W9 (Ne.symm ne_pa_pv)
  have V_nx := V_nx.other W9 (Ne.symm ne_pa_nx)
  have K := K.wr W9 (Or.inl (by simp))
  refine Own.aloadN X9 hx (pc := 83) (hb hby d13_83) rfl rfl ?_
  refine Own.getfield X9 hx hZ (pc := 84) hown (host := "") (Or.inl (Wd hw 71 rfl)) Via.refl e9 F_o_previousSibling (hb hby d13_84) ?_
  intro T10 X10 e10
  refine Own.iloadN X10 hx (pc := 87) (hb hby d13_87) rfl ?_
  refine Own.iconst X10 hx (pc := 88) (-1 : Int32) (hb hby d13_88) (by decide) ?_
  refine Own.iastore X10 hx hZ (pc := 89) e10 V_pv nd.toNatClampNeg hn_nd rfl (by simpa [hl_pv] using hb_nd) N9 ge_pv (hb hby d13_89) ?_
  intro T11 h11 X11 e11 W11 N11 V_pv
  have sz11 : n0 ≤ h11.size := Nat.le_trans sz9 (Nat.le_of_eq (Wr.size W11).symm)
  have F_o_parent := Fld.other W11 F_o_parent (Or.inl ne_o_pv)
  have F_o_firstChild := Fld.other W11 F_o_firstChild (Or.inl ne_o_pv)
  have F_o_lastChild := Fld.other W11 F_o_lastChild (Or.inl ne_o_pv)
  have F_o_previousSibling := Fld.other W11 F_o_previousSibling (Or.inl ne_o_pv)
  have F_o_nextSibling := Fld.other W11 F_o_nextSibling (Or.inl ne_o_pv)
  have V_pa := V_pa.other W11 ne_pa_pv
  have V_fc := V_fc.other W11 ne_fc_pv
  have V_la := V_la.other W11 ne_la_pv
  have V_nx := V_nx.other W11 (Ne.symm ne_pv_nx)
  have K := K.wr W11 (Or.inl (by simp))
  refine Own.aloadN X11 hx (pc := 90) (hb hby d13_90) rfl rfl ?_
  refine Own.getfield X11 hx hZ (pc := 91) hown (host := "") (Or.inl (Wd hw 73 rfl)) Via.refl e11 F_o_nextSibling (hb hby d13_91) ?_
  intro T12 X12 e12
  refine Own.iloadN X12 hx (pc := 94) (hb hby d13_94) rfl ?_
  refine Own.iconst X12 hx (pc := 95) (-1 : Int32) (hb hby d13_95) (by decide) ?_
  refine Own.iastore X12 hx hZ (pc := 96) e12 V_nx nd.toNatClampNeg hn_nd rfl (by simpa [hl_nx] using hb_nd) N11 ge_nx (hb hby d13_96) ?_
  intro T13 h13 X13 e13 W13 N13 V_nx
  have sz13 : n0 ≤ h13.size := Nat.le_trans sz11 (Nat.le_of_eq (Wr.size W13).symm)
  have F_o_parent := Fld.other W13 F_o_parent (Or.inl ne_o_nx)
  have F_o_firstChild := Fld.other W13 F_o_firstChild (Or.inl ne_o_nx)
  have F_o_lastChild := Fld.other W13 F_o_lastChild (Or.inl ne_o_nx)
  have F_o_previousSibling := Fld.other W13 F_o_previousSibling (Or.inl ne_o_nx)
  have F_o_nextSibling := Fld.other W13 F_o_nextSibling (Or.inl ne_o_nx)
  have V_pa := V_pa.other W13 ne_pa_nx
  have V_fc := V_fc.other W13 ne_fc_nx
  have V_la := V_la.other W13 ne_la_nx
  have V_pv := V_pv.other W13 ne_pv_nx
  have K := K.wr W13 (Or.inl (by simp))
  exact Own.vreturn X13 hx hk hret (hb hby d13_97) e13 ⟨rfl, N13, K, V_pa, V_fc, V_la, V_pv, V_nx⟩ (by decide) (by decide)
theorem d13_68 : decode prog_122_method_6_code 68 = .ok (.aload_n 0, 1) := by decide +kernel
theorem d13_69 : decode prog_122_method_6_code 69 = .ok (.getfield 93, 3) := by decide +kernel
theorem d13_72 : decode prog_122_method_6_code 72 = .ok (.iload 4, 2) := by decide +kernel
theorem d13_74 : decode prog_122_method_6_code 74 = .ok (.iload_n 3, 1) := by decide +kernel
theorem d13_75 : decode prog_122_method_6_code 75 = .ok (.iastore, 1) := by decide +kernel
theorem ef_rmD01 (m : MethodId) (o : Addr) (nd : Int32) : entryFrame m #[(.ref o), (.int nd)] 5 = mkF m 0 #[.val (.ref o), .val (.int nd), .unset, .unset, .unset] [] := by first | (simp [entryFrame, mkF, argsToLocals, Value.category]; done) | rfl
set_option maxRecDepth 65536 in
set_option maxHeartbeats 40000000 in
theorem rmD01 (l : Launch) (Z : State) (a0 : Array Value) (hw : ∀ d ∈ tables_1, d.before a0 Z = true) (o : Addr) (nd : Int32) (pa : Addr) (fc : Addr) (la : Addr) (pv : Addr) (nx : Addr) (vpa : List Value) (vfc : List Value) (vla : List Value) (vpv : List Value) (vnx : List Value) (fr : Int32) (nq : Int32) (h0 : Heap) (n0 : Nat) (Z0 : n0 ≤ h0.size) (F_o_parent : Fld Z h0 o "com/example/sprigdex/sprigdex/index/html/HtmlTree" "parent" "[I" (.ref pa)) (F_o_firstChild : Fld Z h0 o "com/example/sprigdex/sprigdex/index/html/HtmlTree" "firstChild" "[I" (.ref fc)) (F_o_lastChild : Fld Z h0 o "com/example/sprigdex/sprigdex/index/html/HtmlTree" "lastChild" "[I" (.ref la)) (F_o_previousSibling : Fld Z h0 o "com/example/sprigdex/sprigdex/index/html/HtmlTree" "previousSibling" "[I" (.ref pv)) (F_o_nextSibling : Fld Z h0 o "com/example/sprigdex/sprigdex/index/html/HtmlTree" "nextSibling" "[I" (.ref nx)) (V_pa : Own.VArr Z h0 pa .int vpa) (V_fc : Own.VArr Z h0 fc .int vfc) (V_la : Own.VArr Z h0 la .int vla) (V_pv : Own.VArr Z h0 pv .int vpv) (V_nx : Own.VArr Z h0 nx .int vnx) (ge_pa : n0 ≤ pa) (ge_fc : n0 ≤ fc) (ge_la : n0 ≤ la) (ge_pv : n0 ≤ pv) (ge_nx : n0 ≤ nx) (ne_o_pa : o ≠ pa) (ne_o_fc : o ≠ fc) (ne_o_la : o ≠ la) (ne_o_pv : o ≠ pv) (ne_o_nx : o ≠ nx) (ne_pa_fc : pa ≠ fc) (ne_pa_la : pa ≠ la) (ne_pa_pv : pa ≠ pv) (ne_pa_nx : pa ≠ nx) (ne_fc_la : fc ≠ la) (ne_fc_pv : fc ≠ pv) (ne_fc_nx : fc ≠ nx) (ne_la_pv : la ≠ pv) (ne_la_nx : la ≠ nx) (ne_pv_nx : pv ≠ nx) (hl_pa : vpa.length = 64) (hl_fc : vfc.length = 64) (hl_la : vla.length = 64) (hl_pv : vpv.length = 64) (hl_nx : vnx.length = 64) (hn_nd : ¬ nd < 0) (hb_nd : nd.toNatClampNeg < 64) (hn_fr : ¬ fr < 0) (hb_fr : fr.toNatClampNeg < 64) (hn_nq : ¬ nq < 0) (hb_nq : nq.toNatClampNeg < 64) (h1 : (vpa : List Value)[nd.toNatClampNeg]? = some (.int fr)) (h2 : (vpv : List Value)[nd.toNatClampNeg]? = some (.int (-1 : Int32))) (h3 : (vnx : List Value)[nd.toNatClampNeg]? = some (.int nq)) (hfr : ¬ fr = (-1 : Int32)) (hnq : ¬ nq = (-1 : Int32)) :
    Own.Ct l (⟨"com/example/sprigdex/sprigdex/index/html/HtmlTree", "detach", "(I)V"⟩ : MethodName) prog_122_method_6_code 5 none [] ({ frames := 0, cells := 0, slots := 0, locals := 0 } : Room) Z #[(.ref o), (.int nd)] h0 (fun rV hP lC => rV = none ∧ Fr n0 lC ∧ Keep h0 hP [pa, fc, la, pv, nx] ∧ Own.VArr Z hP pa .int (vpa.set nd.toNatClampNeg (.int (-1 : Int32))) ∧ Own.VArr Z hP fc .int (vfc.set fr.toNatClampNeg (.int nq)) ∧ Own.VArr Z hP la .int vla ∧ Own.VArr Z hP pv .int ((vpv.set nq.toNatClampNeg (.int (-1 : Int32))).set nd.toNatClampNeg (.int (-1 : Int32))) ∧ Own.VArr Z hP nx .int (vnx.set nd.toNatClampNeg (.int (-1 : Int32)))) := by
  refine Own.enter (plainFor_of_name pn6) ?_
  intro p e s m below meth cc s₁ hx hby hml hown hnm hret hk hZ X0 e0
  have N0 := Fr.nil n0
  refine Own.start (ef_rmD01 m o nd) ?_
  have K : Keep h0 h0 [pa, fc, la, pv, nx] := Keep.refl _ _
  refine Own.aloadN X0 hx (pc := 0) (hb hby d13_0) rfl rfl ?_
  refine Own.getfield X0 hx hZ (pc := 1) hown (host := "") (Or.inl (Wd hw 64 rfl)) Via.refl e0 F_o_parent (hb hby d13_1) ?_
  intro T1 X1 e1
  refine Own.iloadN X1 hx (pc := 4) (hb hby d13_4) rfl ?_
  refine Own.iaload X1 hx hZ (pc := 5) e1 V_pa (v := (.int fr)) nd.toNatClampNeg hn_nd rfl h1 (hb hby d13_5) ?_
  refine Own.istoreN X1 hx (pc := 6) #[.val (.ref o), .val (.int nd), .val (.int fr), .unset, .unset] (hb hby d13_6) rfl ?_
  refine Own.iloadN X1 hx (pc := 7) (hb hby d13_7) rfl ?_
  refine Own.iconst X1 hx (pc := 8) (-1 : Int32) (hb hby d13_8) (by decide) ?_
  refine Own.icmpYes X1 hx (pc := 9) 13 (hb hby d13_9) (XT.ii_ne_t hfr) (by decide) (by decide) ?_
  refine Own.aloadN X1 hx (pc := 13) (hb hby d13_13) rfl rfl ?_
  refine Own.getfield X1 hx hZ (pc := 14) hown (host := "") (Or.inl (Wd hw 71 rfl)) Via.refl e1 F_o_previousSibling (hb hby d13_14) ?_
  intro T2 X2 e2
  refine Own.iloadN X2 hx (pc := 17) (hb hby d13_17) rfl ?_
  refine Own.iaload X2 hx hZ (pc := 18) e2 V_pv (v := (.int (-1 : Int32))) nd.toNatClampNeg hn_nd rfl h2 (hb hby d13_18) ?_
  refine Own.istoreN X2 hx (pc := 19) #[.val (.ref o), .val (.int nd), .val (.int fr), .val (.int (-1 : Int32)), .unset] (hb hby d13_19) rfl ?_
  refine Own.aloadN X2 hx (pc := 20) (hb hby d13_20) rfl rfl ?_
  refine Own.getfield X2 hx hZ (pc := 21) hown (host := "") (Or.inl (Wd hw 73 rfl)) Via.refl e2 F_o_nextSibling (hb hby d13_21) ?_
  intro T3 X3 e3
  refine Own.iloadN X3 hx (pc := 24) (hb hby d13_24) rfl ?_
  refine Own.iaload X3 hx hZ (pc := 25) e3 V_nx (v := (.int nq)) nd.toNatClampNeg hn_nd rfl h3 (hb hby d13_25) ?_
  refine Own.istore X3 hx (pc := 26) #[.val (.ref o), .val (.int nd), .val (.int fr), .val (.int (-1 : Int32)), .val (.int nq)] (hb hby d13_26) rfl ?_
  refine Own.iloadN X3 hx (pc := 28) (hb hby d13_28) rfl ?_
  refine Own.iconst X3 hx (pc := 29) (-1 : Int32) (hb hby d13_29) (by decide) ?_
  refine Own.icmpNo X3 hx (pc := 30) (hb hby d13_30) (by decide) ?_
  refine Own.aloadN X3 hx (pc := 33) (hb hby d13_33) rfl rfl ?_
  refine Own.getfield X3 hx hZ (pc := 34) hown (host := "") (Or.inl (Wd hw 67 rfl)) Via.refl e3 F_o_firstChild (hb hby d13_34) ?_
  intro T4 X4 e4
  refine Own.iloadN X4 hx (pc := 37) (hb hby d13_37) rfl ?_
  refine Own.iload X4 hx (pc := 38) (hb hby d13_38) rfl ?_
  refine Own.iastore X4 hx hZ (pc := 40) e4 V_fc fr.toNatClampNeg hn_fr rfl (by simpa [hl_fc] using hb_fr) N0 ge_fc (hb hby d13_40) ?_
  intro T5 h5 X5 e5 W5 N5 V_fc
  have sz5 : n0 ≤ h5.size := Nat.le_trans Z0 (Nat.le_of_eq (Wr.size W5).symm)
  have F_o_parent := Fld.other W5 F_o_parent (Or.inl ne_o_fc)
  have F_o_firstChild := Fld.other W5 F_o_firstChild (Or.inl ne_o_fc)
  have F_o_lastChild := Fld.other W5 F_o_lastChild (Or.inl ne_o_fc)
  have F_o_previousSibling := Fld.other W5 F_o_previousSibling (Or.inl ne_o_fc)
  have F_o_nextSibling := Fld.other W5 F_o_nextSibling (Or.inl ne_o_fc)
  have V_pa := V_pa.other W5 ne_pa_fc
  have V_la := V_la.other W5 (Ne.symm ne_fc_la)
  have V_pv := V_pv.other W5 (Ne.symm ne_fc_pv)
  have V_nx := V_nx.other W5 (Ne.symm ne_fc_nx)
  have K := K.wr W5 (Or.inl (by simp))
  refine Own.goto X5 hx (pc := 41) 52 (hb hby d13_41) (by decide) (by decide) ?_
  refine Own.iload X5 hx (pc := 52) (hb hby d13_52) rfl ?_
  refine Own.iconst X5 hx (pc := 54) (-1 : Int32) (hb hby d13_54) (by decide) ?_
  refine Own.icmpYes X5 hx (pc := 55) 68 (hb hby d13_55) (XT.ii_ne_t hnq) (by decide) (by decide) ?_
  refine Own.aloadN X5 hx (pc := 68) (hb hby d13_68) rfl rfl ?_
  refine Own.getfield X5 hx hZ (pc := 69) hown (host := "") (Or.inl (Wd hw 71 rfl)) Via.refl e5 F_o_previousSibling (hb hby d13_69) ?_
  intro T6 X6 e6
  refine Own.iload X6 hx (pc := 72) (hb hby d13_72) rfl ?_
  refine Own.iloadN X6 hx (pc := 74) (hb hby d13_74) rfl ?_
  refine Own.iastore X6 hx hZ (pc := 75) e6 V_pv nq.toNatClampNeg hn_nq rfl (by simpa [hl_pv] using hb_nq) N5 ge_pv (hb hby d13_75) ?_
  intro T7 h7 X7 e7 W7 N7 V_pv
  have sz7 : n0 ≤ h7.size := Nat.le_trans sz5 (Nat.le_of_eq (Wr.size W7).symm)
  have F_o_parent := Fld.other W7 F_o_parent (Or.inl ne_o_pv)
  have F_o_firstChild := Fld.other W7 F_o_firstChild (Or.inl ne_o_pv)
  have F_o_lastChild := Fld.other W7 F_o_lastChild (Or.inl ne_o_pv)
  have F_o_previousSibling := Fld.other W7 F_o_previousSibling (Or.inl ne_o_pv)
  have F_o_nextSibling := Fld.other W7 F_o_nextSibling (Or.inl ne_o_pv)
  have V_pa := V_pa.other W7 ne_pa_pv
  have V_fc := V_fc.other W7 ne_fc_pv
  have V_la := V_la.other W7 ne_la_pv
  have V_nx := V_nx.other W7 (Ne.symm ne_pv_nx)
  have K := K.wr W7 (Or.inl (by simp))
  refine Own.aloadN X7 hx (pc := 76) (hb hby d13_76) rfl rfl ?_
  refine Own.getfield X7 hx hZ (pc := 77) hown (host := "") (Or.inl (Wd hw 64 rfl)) Via.refl e7 F_o_parent (hb hby d13_77) ?_
  intro T8 X8 e8
  refine Own.iloadN X8 hx (pc := 80) (hb hby d13_80) rfl ?_
  refine Own.iconst X8 hx (pc := 81) (-1 : Int32) (hb hby d13_81) (by decide) ?_
  refine Own.iastore X8 hx hZ (pc := 82) e8 V_pa nd.toNatClampNeg hn_nd rfl (by simpa [hl_pa] using hb_nd) N7 ge_pa (hb hby d13_82) ?_
  intro T9 h9 X9 e9 W9 N9 V_pa
  have sz9 : n0 ≤ h9.size := Nat.le_trans sz7 (Nat.le_of_eq (Wr.size W9).symm)
  have F_o_parent := Fld.other W9 F_o_parent (Or.inl ne_o_pa)
  have F_o_firstChild := Fld.other W9 F_o_firstChild (Or.inl ne_o_pa)
  have F_o_lastChild := Fld.other W9 F_o_lastChild (Or.inl ne_o_pa)
  have F_o_previousSibling := Fld.other W9 F_o_previousSibling (Or.inl ne_o_pa)
  have F_o_nextSibling := Fld.other W9 F_o_nextSibling (Or.inl ne_o_pa)
  have V_fc := V_fc.other W9 (Ne.symm ne_pa_fc)
  have V_la := V_la.other W9 (Ne.symm ne_pa_la)
  have V_pv := V_pv.other W9 (Ne.symm ne_pa_pv)
  have V_nx := V_nx.other W9 (Ne.symm ne_pa_nx)
  have K := K.wr W9 (Or.inl (by simp))
  refine Own.aloadN X9 hx (pc := 83) (hb hby d13_83) rfl rfl ?_
  refine Own.getfield X9 hx hZ (pc := 84) hown (host := "") (Or.inl (Wd hw 71 rfl)) Via.refl e9 F_o_previousSibling (hb hby d13_84) ?_
  intro T10 X10 e10
  refine Own.iloadN X10 hx (pc := 87) (hb hby d13_87) rfl ?_
  refine Own.iconst X10 hx (pc := 88) (-1 : Int32) (hb hby d13_88) (by decide) ?_
  refine Own.iastore X10 hx hZ (pc := 89) e10 V_pv nd.toNatClampNeg hn_nd rfl (by simpa [hl_pv] using hb_nd) N9 ge_pv (hb hby d13_89) ?_
  intro T11 h11 X11 e11 W11 N11 V_pv
  have sz11 : n0 ≤ h11.size := Nat.le_trans sz9 (Nat.le_of_eq (Wr.size W11).symm)
  have F_o_parent := Fld.other W11 F_o_parent (Or.inl ne_o_pv)
  have F_o_firstChild := Fld.other W11 F_o_firstChild (Or.inl ne_o_pv)
  have F_o_lastChild := Fld.other W11 F_o_lastChild (Or.inl ne_o_pv)
  have F_o_previousSibling := Fld.other W11 F_o_previousSibling (Or.inl ne_o_pv)
  have F_o_nextSibling := Fld.other W11 F_o_nextSibling (Or.inl ne_o_pv)
  have V_pa := V_pa.other W11 ne_pa_pv
  have V_fc := V_fc.other W11 ne_fc_pv
  have V_la := V_la.other W11 ne_la_pv
  have V_nx := V_nx.other W11 (Ne.symm ne_pv_nx)
  have K := K.wr W11 (Or.inl (by simp))
  refine Own.aloadN X11 hx (pc := 90) (hb hby d13_90) rfl rfl ?_
  refine Own.getfield X11 hx hZ (pc := 91) hown (host := "") (Or.inl (Wd hw 73 rfl)) Via.refl e11 F_o_nextSibling (hb hby d13_91) ?_
  intro T12 X12 e12
  refine Own.iloadN X12 hx (pc := 94) (hb hby d13_94) rfl ?_
  refine Own.iconst X12 hx (pc := 95) (-1 : Int32) (hb hby d13_95) (by decide) ?_
  refine Own.iastore X12 hx hZ (pc := 96) e12 V_nx nd.toNatClampNeg hn_nd rfl (by simpa [hl_nx] using hb_nd) N11 ge_nx (hb hby d13_96) ?_
  intro T13 h13 X13 e13 W13 N13 V_nx
  have sz13 : n0 ≤ h13.size := Nat.le_trans sz11 (Nat.le_of_eq (Wr.size W13).symm)
  have F_o_parent := Fld.other W13 F_o_parent (Or.inl ne_o_nx)
  have F_o_firstChild := Fld.other W13 F_o_firstChild (Or.inl ne_o_nx)
  have F_o_lastChild := Fld.other W13 F_o_lastChild (Or.inl ne_o_nx)
  have F_o_previousSibling := Fld.other W13 F_o_previousSibling (Or.inl ne_o_nx)
  have F_o_nextSibling := Fld.other W13 F_o_nextSibling (Or.inl ne_o_nx)
  have V_pa := V_pa.other W13 ne_pa_nx
  have V_fc := V_fc.other W13 ne_fc_nx
  have V_la := V_la.other W13 ne_la_nx
  have V_pv := V_pv.other W13 ne_pv_nx
  have K := K.wr W13 (Or.inl (by simp))
  exact Own.vreturn X13 hx hk hret (hb hby d13_97) e13 ⟨rfl, N13, K, V_pa, V_fc, V_la, V_pv, V_nx⟩ (by decide) (by decide)
theorem d13_44 : decode prog_122_method_6_code 44 = .ok (.aload_n 0, 1) := by decide +kernel
theorem d13_45 : decode prog_122_method_6_code 45 = .ok (.getfield 99, 3) := by decide +kernel
theorem d13_48 : decode prog_122_method_6_code 48 = .ok (.iload_n 3, 1) := by decide +kernel
theorem d13_49 : decode prog_122_method_6_code 49 = .ok (.iload 4, 2) := by decide +kernel
theorem d13_51 : decode prog_122_method_6_code 51 = .ok (.iastore, 1) := by decide +kernel
theorem ef_rmD10 (m : MethodId) (o : Addr) (nd : Int32) : entryFrame m #[(.ref o), (.int nd)] 5 = mkF m 0 #[.val (.ref o), .val (.int nd), .unset, .unset, .unset] [] := by first | (simp [entryFrame, mkF, argsToLocals, Value.category]; done) | rfl
set_option maxRecDepth 65536 in
set_option maxHeartbeats 40000000 in
theorem rmD10 (l : Launch) (Z : State) (a0 : Array Value) (hw : ∀ d ∈ tables_1, d.before a0 Z = true) (o : Addr) (nd : Int32) (pa : Addr) (fc : Addr) (la : Addr) (pv : Addr) (nx : Addr) (vpa : List Value) (vfc : List Value) (vla : List Value) (vpv : List Value) (vnx : List Value) (fr : Int32) (pr : Int32) (h0 : Heap) (n0 : Nat) (Z0 : n0 ≤ h0.size) (F_o_parent : Fld Z h0 o "com/example/sprigdex/sprigdex/index/html/HtmlTree" "parent" "[I" (.ref pa)) (F_o_firstChild : Fld Z h0 o "com/example/sprigdex/sprigdex/index/html/HtmlTree" "firstChild" "[I" (.ref fc)) (F_o_lastChild : Fld Z h0 o "com/example/sprigdex/sprigdex/index/html/HtmlTree" "lastChild" "[I" (.ref la)) (F_o_previousSibling : Fld Z h0 o "com/example/sprigdex/sprigdex/index/html/HtmlTree" "previousSibling" "[I" (.ref pv)) (F_o_nextSibling : Fld Z h0 o "com/example/sprigdex/sprigdex/index/html/HtmlTree" "nextSibling" "[I" (.ref nx)) (V_pa : Own.VArr Z h0 pa .int vpa) (V_fc : Own.VArr Z h0 fc .int vfc) (V_la : Own.VArr Z h0 la .int vla) (V_pv : Own.VArr Z h0 pv .int vpv) (V_nx : Own.VArr Z h0 nx .int vnx) (ge_pa : n0 ≤ pa) (ge_fc : n0 ≤ fc) (ge_la : n0 ≤ la) (ge_pv : n0 ≤ pv) (ge_nx : n0 ≤ nx) (ne_o_pa : o ≠ pa) (ne_o_fc : o ≠ fc) (ne_o_la : o ≠ la) (ne_o_pv : o ≠ pv) (ne_o_nx : o ≠ nx) (ne_pa_fc : pa ≠ fc) (ne_pa_la : pa ≠ la) (ne_pa_pv : pa ≠ pv) (ne_pa_nx : pa ≠ nx) (ne_fc_la : fc ≠ la) (ne_fc_pv : fc ≠ pv) (ne_fc_nx : fc ≠ nx) (ne_la_pv : la ≠ pv) (ne_la_nx : la ≠ nx) (ne_pv_nx : pv ≠ nx) (hl_pa : vpa.length = 64) (hl_fc : vfc.length = 64) (hl_la : vla.length = 64) (hl_pv : vpv.length = 64) (hl_nx : vnx.length = 64) (hn_nd : ¬ nd < 0) (hb_nd : nd.toNatClampNeg < 64) (hn_fr : ¬ fr < 0) (hb_fr : fr.toNatClampNeg < 64) (hn_pr : ¬ pr < 0) (hb_pr : pr.toNatClampNeg < 64) (h1 : (vpa : List Value)[nd.toNatClampNeg]? = some (.int fr)) (h2 : (vpv : List Value)[nd.toNatClampNeg]? = some (.int pr)) (h3 : (vnx : List Value)[nd.toNatClampNeg]? = some (.int (-1 : Int32))) (hfr : ¬ fr = (-1 : Int32)) (hpr : ¬ pr = (-1 : Int32)) :
    Own.Ct l (⟨"com/example/sprigdex/sprigdex/index/html/HtmlTree", "detach", "(I)V"⟩ : MethodName) prog_122_method_6_code 5 none [] ({ frames := 0, cells := 0, slots := 0, locals := 0 } : Room) Z #[(.ref o), (.int nd)] h0 (fun rV hP lC => rV = none ∧ Fr n0 lC ∧ Keep h0 hP [pa, fc, la, pv, nx] ∧ Own.VArr Z hP pa .int (vpa.set nd.toNatClampNeg (.int (-1 : Int32))) ∧ Own.VArr Z hP fc .int vfc ∧ Own.VArr Z hP la .int (vla.set fr.toNatClampNeg (.int pr)) ∧ Own.VArr Z hP pv .int (vpv.set nd.toNatClampNeg (.int (-1 : Int32))) ∧ Own.VArr Z hP nx .int ((vnx.set pr.toNatClampNeg (.int (-1 : Int32))).set nd.toNatClampNeg (.int (-1 : Int32)))) := by
  refine Own.enter (plainFor_of_name pn6) ?_
  intro p e s m below meth cc s₁ hx hby hml hown hnm hret hk hZ X0 e0
  have N0 := Fr.nil n0
  refine Own.start (ef_rmD10 m o nd) ?_
  have K : Keep h0 h0 [pa, fc, la, pv, nx] := Keep.refl _ _
  refine Own.aloadN X0 hx (pc := 0) (hb hby d13_0) rfl rfl ?_
  refine Own.getfield X0 hx hZ (pc := 1) hown (host := "") (Or.inl (Wd hw 64 rfl)) Via.refl e0 F_o_parent (hb hby d13_1) ?_
  intro T1 X1 e1
  refine Own.iloadN X1 hx (pc := 4) (hb hby d13_4) rfl ?_
  refine Own.iaload X1 hx hZ (pc := 5) e1 V_pa (v := (.int fr)) nd.toNatClampNeg hn_nd rfl h1 (hb hby d13_5) ?_
  refine Own.istoreN X1 hx (pc := 6) #[.val (.ref o), .val (.int nd), .val (.int fr), .unset, .unset] (hb hby d13_6) rfl ?_
  refine Own.iloadN X1 hx (pc := 7) (hb hby d13_7) rfl ?_
  refine Own.iconst X1 hx (pc := 8) (-1 : Int32) (hb hby d13_8) (by decide) ?_
  refine Own.icmpYes X1 hx (pc := 9) 13 (hb hby d13_9) (XT.ii_ne_t hfr) (by decide) (by decide) ?_
  refine Own.aloadN X1 hx (pc := 13) (hb hby d13_13) rfl rfl ?_
  refine Own.getfield X1 hx hZ (pc := 14) hown (host := "") (Or.inl (Wd hw 71 rfl)) Via.refl e1 F_o_previousSibling (hb hby d13_14) ?_
  intro T2 X2 e2
  refine Own.iloadN X2 hx (pc := 17) (hb hby d13_17) rfl ?_
  refine Own.iaload X2 hx hZ (pc := 18) e2 V_pv (v := (.int pr)) nd.toNatClampNeg hn_nd rfl h2 (hb hby d13_18) ?_
  refine Own.istoreN X2 hx (pc := 19) #[.val (.ref o), .val (.int nd), .val (.int fr), .val (.int pr), .unset] (hb hby d13_19) rfl ?_
  refine Own.aloadN X2 hx (pc := 20) (hb hby d13_20) rfl rfl ?_
  refine Own.getfield X2 hx hZ (pc := 21) hown (host := "") (Or.inl (Wd hw 73 rfl)) Via.refl e2 F_o_nextSibling (hb hby d13_21) ?_
  intro T3 X3 e3
  refine Own.iloadN X3 hx (pc := 24) (hb hby d13_24) rfl ?_
  refine Own.iaload X3 hx hZ (pc := 25) e3 V_nx (v := (.int (-1 : Int32))) nd.toNatClampNeg hn_nd rfl h3 (hb hby d13_25) ?_
  refine Own.istore X3 hx (pc := 26) #[.val (.ref o), .val (.int nd), .val (.int fr), .val (.int pr), .val (.int (-1 : Int32))] (hb hby d13_26) rfl ?_
  refine Own.iloadN X3 hx (pc := 28) (hb hby d13_28) rfl ?_
  refine Own.iconst X3 hx (pc := 29) (-1 : Int32) (hb hby d13_29) (by decide) ?_
  refine Own.icmpYes X3 hx (pc := 30) 44 (hb hby d13_30) (XT.ii_ne_t hpr) (by decide) (by decide) ?_
  refine Own.aloadN X3 hx (pc := 44) (hb hby d13_44) rfl rfl ?_
  refine Own.getfield X3 hx hZ (pc := 45) hown (host := "") (Or.inl (Wd hw 73 rfl)) Via.refl e3 F_o_nextSibling (hb hby d13_45) ?_
  intro T4 X4 e4
  refine Own.iloadN X4 hx (pc := 48) (hb hby d13_48) rfl ?_
  refine Own.iload X4 hx (pc := 49) (hb hby d13_49) rfl ?_
  refine Own.iastore X4 hx hZ (pc := 51) e4 V_nx pr.toNatClampNeg hn_pr rfl (by simpa [hl_nx] using hb_pr) N0 ge_nx (hb hby d13_51) ?_
  intro T5 h5 X5 e5 W5 N5 V_nx
  have sz5 : n0 ≤ h5.size := Nat.le_trans Z0 (Nat.le_of_eq (Wr.size W5).symm)
  have F_o_parent := Fld.other W5 F_o_parent (Or.inl ne_o_nx)
  have F_o_firstChild := Fld.other W5 F_o_firstChild (Or.inl ne_o_nx)
  have F_o_lastChild := Fld.other W5 F_o_lastChild (Or.inl ne_o_nx)
  have F_o_previousSibling := Fld.other W5 F_o_previousSibling (Or.inl ne_o_nx)
  have F_o_nextSibling := Fld.other W5 F_o_nextSibling (Or.inl ne_o_nx)
  have V_pa := V_pa.other W5 ne_pa_nx
  have V_fc := V_fc.other W5 ne_fc_nx
  have V_la := V_la.other W5 ne_la_nx
  have V_pv := V_pv.other W5 ne_pv_nx
  have K := K.wr W5 (Or.inl (by simp))
  refine Own.iload X5 hx (pc := 52) (hb hby d13_52) rfl ?_
  refine Own.iconst X5 hx (pc := 54) (-1 : Int32) (hb hby d13_54) (by decide) ?_
  refine Own.icmpNo X5 hx (pc := 55) (hb hby d13_55) (by decide) ?_
  refine Own.aloadN X5 hx (pc := 58) (hb hby d13_58) rfl rfl ?_
  refine Own.getfield X5 hx hZ (pc := 59) hown (host := "") (Or.inl (Wd hw 69 rfl)) Via.refl e5 F_o_lastChild (hb hby d13_59) ?_
  intro T6 X6 e6
  refine Own.iloadN X6 hx (pc := 62) (hb hby d13_62) rfl ?_
  refine Own.iloadN X6 hx (pc := 63) (hb hby d13_63) rfl ?_
  refine Own.iastore X6 hx hZ (pc := 64) e6 V_la fr.toNatClampNeg hn_fr rfl (by simpa [hl_la] using hb_fr) N5 ge_la (hb hby d13_64) ?_
  intro T7 h7 X7 e7 W7 N7 V_la
  have sz7 : n0 ≤ h7.size := Nat.le_trans sz5 (Nat.le_of_eq (Wr.size W7).symm)
  have F_o_parent := Fld.other W7 F_o_parent (Or.inl ne_o_la)
  have F_o_firstChild := Fld.other W7 F_o_firstChild (Or.inl ne_o_la)
  have F_o_lastChild := Fld.other W7 F_o_lastChild (Or.inl ne_o_la)
  have F_o_previousSibling := Fld.other W7 F_o_previousSibling (Or.inl ne_o_la)
  have F_o_nextSibling := Fld.other W7 F_o_nextSibling (Or.inl ne_o_la)
  have V_pa := V_pa.other W7 ne_pa_la
  have V_fc := V_fc.other W7 ne_fc_la
  have V_pv := V_pv.other W7 (Ne.symm ne_la_pv)
  have V_nx := V_nx.other W7 (Ne.symm ne_la_nx)
  have K := K.wr W7 (Or.inl (by simp))
  refine Own.goto X7 hx (pc := 65) 76 (hb hby d13_65) (by decide) (by decide) ?_
  refine Own.aloadN X7 hx (pc := 76) (hb hby d13_76) rfl rfl ?_
  refine Own.getfield X7 hx hZ (pc := 77) hown (host := "") (Or.inl (Wd hw 64 rfl)) Via.refl e7 F_o_parent (hb hby d13_77) ?_
  intro T8 X8 e8
  refine Own.iloadN X8 hx (pc := 80) (hb hby d13_80) rfl ?_
  refine Own.iconst X8 hx (pc := 81) (-1 : Int32) (hb hby d13_81) (by decide) ?_
  refine Own.iastore X8 hx hZ (pc := 82) e8 V_pa nd.toNatClampNeg hn_nd rfl (by simpa [hl_pa] using hb_nd) N7 ge_pa (hb hby d13_82) ?_
  intro T9 h9 X9 e9 W9 N9 V_pa
  have sz9 : n0 ≤ h9.size := Nat.le_trans sz7 (Nat.le_of_eq (Wr.size W9).symm)
  have F_o_parent := Fld.other W9 F_o_parent (Or.inl ne_o_pa)
  have F_o_firstChild := Fld.other W9 F_o_firstChild (Or.inl ne_o_pa)
  have F_o_lastChild := Fld.other W9 F_o_lastChild (Or.inl ne_o_pa)
  have F_o_previousSibling := Fld.other W9 F_o_previousSibling (Or.inl ne_o_pa)
  have F_o_nextSibling := Fld.other W9 F_o_nextSibling (Or.inl ne_o_pa)
  have V_fc := V_fc.other W9 (Ne.symm ne_pa_fc)
  have V_la := V_la.other W9 (Ne.symm ne_pa_la)
  have V_pv := V_pv.other W9 (Ne.symm ne_pa_pv)
  have V_nx := V_nx.other W9 (Ne.symm ne_pa_nx)
  have K := K.wr W9 (Or.inl (by simp))
  refine Own.aloadN X9 hx (pc := 83) (hb hby d13_83) rfl rfl ?_
  refine Own.getfield X9 hx hZ (pc := 84) hown (host := "") (Or.inl (Wd hw 71 rfl)) Via.refl e9 F_o_previousSibling (hb hby d13_84) ?_
  intro T10 X10 e10
  refine Own.iloadN X10 hx (pc := 87) (hb hby d13_87) rfl ?_
  refine Own.iconst X10 hx (pc := 88) (-1 : Int32) (hb hby d13_88) (by decide) ?_
  refine Own.iastore X10 hx hZ (pc := 89) e10 V_pv nd.toNatClampNeg hn_nd rfl (by simpa [hl_pv] using hb_nd) N9 ge_pv (hb hby d13_89) ?_
  intro T11 h11 X11 e11 W11 N11 V_pv
  have sz11 : n0 ≤ h11.size := Nat.le_trans sz9 (Nat.le_of_eq (Wr.size W11).symm)
  have F_o_parent := Fld.other W11 F_o_parent (Or.inl ne_o_pv)
  have F_o_firstChild := Fld.other W11 F_o_firstChild (Or.inl ne_o_pv)
  have F_o_lastChild := Fld.other W11 F_o_lastChild (Or.inl ne_o_pv)
  have F_o_previousSibling := Fld.other W11 F_o_previousSibling (Or.inl ne_o_pv)
  have F_o_nextSibling := Fld.other W11 F_o_nextSibling (Or.inl ne_o_pv)
  have V_pa := V_pa.other W11 ne_pa_pv
  have V_fc := V_fc.other W11 ne_fc_pv
  have V_la := V_la.other W11 ne_la_pv
  have V_nx := V_nx.other W11 (Ne.symm ne_pv_nx)
  have K := K.wr W11 (Or.inl (by simp))
  refine Own.aloadN X11 hx (pc := 90) (hb hby d13_90) rfl rfl ?_
  refine Own.getfield X11 hx hZ (pc := 91) hown (host := "") (Or.inl (Wd hw 73 rfl)) Via.refl e11 F_o_nextSibling (hb hby d13_91) ?_
  intro T12 X12 e12
  refine Own.iloadN X12 hx (pc := 94) (hb hby d13_94) rfl ?_
  refine Own.iconst X12 hx (pc := 95) (-1 : Int32) (hb hby d13_95) (by decide) ?_
  refine Own.iastore X12 hx hZ (pc := 96) e12 V_nx nd.toNatClampNeg hn_nd rfl (by simpa [hl_nx] using hb_nd) N11 ge_nx (hb hby d13_96) ?_
  intro T13 h13 X13 e13 W13 N13 V_nx
  have sz13 : n0 ≤ h13.size := Nat.le_trans sz11 (Nat.le_of_eq (Wr.size W13).symm)
  have F_o_parent := Fld.other W13 F_o_parent (Or.inl ne_o_nx)
  have F_o_firstChild := Fld.other W13 F_o_firstChild (Or.inl ne_o_nx)
  have F_o_lastChild := Fld.other W13 F_o_lastChild (Or.inl ne_o_nx)
  have F_o_previousSibling := Fld.other W13 F_o_previousSibling (Or.inl ne_o_nx)
  have F_o_nextSibling := Fld.other W13 F_o_nextSibling (Or.inl ne_o_nx)
  have V_pa := V_pa.other W13 ne_pa_nx
  have V_fc := V_fc.other W13 ne_fc_nx
  have V_la := V_la.other W13 ne_la_nx
  have V_pv := V_pv.other W13 ne_pv_nx
  have K := K.wr W13 (Or.inl (by simp))
  exact Own.vreturn X13 hx hk hret (hb hby d13_97) e13 ⟨rfl, N13, K, V_pa, V_fc, V_la, V_pv, V_nx⟩ (by decide) (by decide)
theorem ef_rmD11 (m : MethodId) (o : Addr) (nd : Int32) : entryFrame m #[(.ref o), (.int nd)] 5 = mkF m 0 #[.val (.ref o), .val (.int nd), .unset, .unset, .unset] [] := by first | (simp [entryFrame, mkF, argsToLocals, Value.category]; done) | rfl
set_option maxRecDepth 65536 in
set_option maxHeartbeats 40000000 in
theorem rmD11 (l : Launch) (Z : State) (a0 : Array Value) (hw : ∀ d ∈ tables_1, d.before a0 Z = true) (o : Addr) (nd : Int32) (pa : Addr) (fc : Addr) (la : Addr) (pv : Addr) (nx : Addr) (vpa : List Value) (vfc : List Value) (vla : List Value) (vpv : List Value) (vnx : List Value) (fr : Int32) (pr : Int32) (nq : Int32) (h0 : Heap) (n0 : Nat) (Z0 : n0 ≤ h0.size) (F_o_parent : Fld Z h0 o "com/example/sprigdex/sprigdex/index/html/HtmlTree" "parent" "[I" (.ref pa)) (F_o_firstChild : Fld Z h0 o "com/example/sprigdex/sprigdex/index/html/HtmlTree" "firstChild" "[I" (.ref fc)) (F_o_lastChild : Fld Z h0 o "com/example/sprigdex/sprigdex/index/html/HtmlTree" "lastChild" "[I" (.ref la)) (F_o_previousSibling : Fld Z h0 o "com/example/sprigdex/sprigdex/index/html/HtmlTree" "previousSibling" "[I" (.ref pv)) (F_o_nextSibling : Fld Z h0 o "com/example/sprigdex/sprigdex/index/html/HtmlTree" "nextSibling" "[I" (.ref nx)) (V_pa : Own.VArr Z h0 pa .int vpa) (V_fc : Own.VArr Z h0 fc .int vfc) (V_la : Own.VArr Z h0 la .int vla) (V_pv : Own.VArr Z h0 pv .int vpv) (V_nx : Own.VArr Z h0 nx .int vnx) (ge_pa : n0 ≤ pa) (ge_fc : n0 ≤ fc) (ge_la : n0 ≤ la) (ge_pv : n0 ≤ pv) (ge_nx : n0 ≤ nx) (ne_o_pa : o ≠ pa) (ne_o_fc : o ≠ fc) (ne_o_la : o ≠ la) (ne_o_pv : o ≠ pv) (ne_o_nx : o ≠ nx) (ne_pa_fc : pa ≠ fc) (ne_pa_la : pa ≠ la) (ne_pa_pv : pa ≠ pv) (ne_pa_nx : pa ≠ nx) (ne_fc_la : fc ≠ la) (ne_fc_pv : fc ≠ pv) (ne_fc_nx : fc ≠ nx) (ne_la_pv : la ≠ pv) (ne_la_nx : la ≠ nx) (ne_pv_nx : pv ≠ nx) (hl_pa : vpa.length = 64) (hl_fc : vfc.length = 64) (hl_la : vla.length = 64) (hl_pv : vpv.length = 64) (hl_nx : vnx.length = 64) (hn_nd : ¬ nd < 0) (hb_nd : nd.toNatClampNeg < 64) (hn_fr : ¬ fr < 0) (hb_fr : fr.toNatClampNeg < 64) (hn_pr : ¬ pr < 0) (hb_pr : pr.toNatClampNeg < 64) (hn_nq : ¬ nq < 0) (hb_nq : nq.toNatClampNeg < 64) (h1 : (vpa : List Value)[nd.toNatClampNeg]? = some (.int fr)) (h2 : (vpv : List Value)[nd.toNatClampNeg]? = some (.int pr)) (h3 : (vnx : List Value)[nd.toNatClampNeg]? = some (.int nq)) (hfr : ¬ fr = (-1 : Int32)) (hpr : ¬ pr = (-1 : Int32)) (hnq : ¬ nq = (-1 : Int32)) :
    Own.Ct l (⟨"com/example/sprigdex/sprigdex/index/html/HtmlTree", "detach", "(I)V"⟩ : MethodName) prog_122_method_6_code 5 none [] ({ frames := 0, cells := 0, slots := 0, locals := 0 } : Room) Z #[(.ref o), (.int nd)] h0 (fun rV hP lC => rV = none ∧ Fr n0 lC ∧ Keep h0 hP [pa, fc, la, pv, nx] ∧ Own.VArr Z hP pa .int (vpa.set nd.toNatClampNeg (.int (-1 : Int32))) ∧ Own.VArr Z hP fc .int vfc ∧ Own.VArr Z hP la .int vla ∧ Own.VArr Z hP pv .int ((vpv.set nq.toNatClampNeg (.int pr)).set nd.toNatClampNeg (.int (-1 : Int32))) ∧ Own.VArr Z hP nx .int ((vnx.set pr.toNatClampNeg (.int nq)).set nd.toNatClampNeg (.int (-1 : Int32)))) := by
  refine Own.enter (plainFor_of_name pn6) ?_
  intro p e s m below meth cc s₁ hx hby hml hown hnm hret hk hZ X0 e0
  have N0 := Fr.nil n0
  refine Own.start (ef_rmD11 m o nd) ?_
  have K : Keep h0 h0 [pa, fc, la, pv, nx] := Keep.refl _ _
  refine Own.aloadN X0 hx (pc := 0) (hb hby d13_0) rfl rfl ?_
  refine Own.getfield X0 hx hZ (pc := 1) hown (host := "") (Or.inl (Wd hw 64 rfl)) Via.refl e0 F_o_parent (hb hby d13_1) ?_
  intro T1 X1 e1
  refine Own.iloadN X1 hx (pc := 4) (hb hby d13_4) rfl ?_
  refine Own.iaload X1 hx hZ (pc := 5) e1 V_pa (v := (.int fr)) nd.toNatClampNeg hn_nd rfl h1 (hb hby d13_5) ?_
  refine Own.istoreN X1 hx (pc := 6) #[.val (.ref o), .val (.int nd), .val (.int fr), .unset, .unset] (hb hby d13_6) rfl ?_
  refine Own.iloadN X1 hx (pc := 7) (hb hby d13_7) rfl ?_
  refine Own.iconst X1 hx (pc := 8) (-1 : Int32) (hb hby d13_8) (by decide) ?_
  refine Own.icmpYes X1 hx (pc := 9) 13 (hb hby d13_9) (XT.ii_ne_t hfr) (by decide) (by decide) ?_
  refine Own.aloadN X1 hx (pc := 13) (hb hby d13_13) rfl rfl ?_
  refine Own.getfield X1 hx hZ (pc := 14) hown (host := "") (Or.inl (Wd hw 71 rfl)) Via.refl e1 F_o_previousSibling (hb hby d13_14) ?_
  intro T2 X2 e2
  refine Own.iloadN X2 hx (pc := 17) (hb hby d13_17) rfl ?_
  refine Own.iaload X2 hx hZ (pc := 18) e2 V_pv (v := (.int pr)) nd.toNatClampNeg hn_nd rfl h2 (hb hby d13_18) ?_
  refine Own.istoreN X2 hx (pc := 19) #[.val (.ref o), .val (.int nd), .val (.int fr), .val (.int pr), .unset] (hb hby d13_19) rfl ?_
  refine Own.aloadN X2 hx (pc := 20) (hb hby d13_20) rfl rfl ?_
  refine Own.getfield X2 hx hZ (pc := 21) hown (host := "") (Or.inl (Wd hw 73 rfl)) Via.refl e2 F_o_nextSibling (hb hby d13_21) ?_
  intro T3 X3 e3
  refine Own.iloadN X3 hx (pc := 24) (hb hby d13_24) rfl ?_
  refine Own.iaload X3 hx hZ (pc := 25) e3 V_nx (v := (.int nq)) nd.toNatClampNeg hn_nd rfl h3 (hb hby d13_25) ?_
  refine Own.istore X3 hx (pc := 26) #[.val (.ref o), .val (.int nd), .val (.int fr), .val (.int pr), .val (.int nq)] (hb hby d13_26) rfl ?_
  refine Own.iloadN X3 hx (pc := 28) (hb hby d13_28) rfl ?_
  refine Own.iconst X3 hx (pc := 29) (-1 : Int32) (hb hby d13_29) (by decide) ?_
  refine Own.icmpYes X3 hx (pc := 30) 44 (hb hby d13_30) (XT.ii_ne_t hpr) (by decide) (by decide) ?_
  refine Own.aloadN X3 hx (pc := 44) (hb hby d13_44) rfl rfl ?_
  refine Own.getfield X3 hx hZ (pc := 45) hown (host := "") (Or.inl (Wd hw 73 rfl)) Via.refl e3 F_o_nextSibling (hb hby d13_45) ?_
  intro T4 X4 e4
  refine Own.iloadN X4 hx (pc := 48) (hb hby d13_48) rfl ?_
  refine Own.iload X4 hx (pc := 49) (hb hby d13_49) rfl ?_
  refine Own.iastore X4 hx hZ (pc := 51) e4 V_nx pr.toNatClampNeg hn_pr rfl (by simpa [hl_nx] using hb_pr) N0 ge_nx (hb hby d13_51) ?_
  intro T5 h5 X5 e5 W5 N5 V_nx
  have sz5 : n0 ≤ h5.size := Nat.le_trans Z0 (Nat.le_of_eq (Wr.size W5).symm)
  have F_o_parent := Fld.other W5 F_o_parent (Or.inl ne_o_nx)
  have F_o_firstChild := Fld.other W5 F_o_firstChild (Or.inl ne_o_nx)
  have F_o_lastChild := Fld.other W5 F_o_lastChild (Or.inl ne_o_nx)
  have F_o_previousSibling := Fld.other W5 F_o_previousSibling (Or.inl ne_o_nx)
  have F_o_nextSibling := Fld.other W5 F_o_nextSibling (Or.inl ne_o_nx)
  have V_pa := V_pa.other W5 ne_pa_nx
  have V_fc := V_fc.other W5 ne_fc_nx
  have V_la := V_la.other W5 ne_la_nx
  have V_pv := V_pv.other W5 ne_pv_nx
  have K := K.wr W5 (Or.inl (by simp))
  refine Own.iload X5 hx (pc := 52) (hb hby d13_52) rfl ?_
  refine Own.iconst X5 hx (pc := 54) (-1 : Int32) (hb hby d13_54) (by decide) ?_
  refine Own.icmpYes X5 hx (pc := 55) 68 (hb hby d13_55) (XT.ii_ne_t hnq) (by decide) (by decide) ?_
  refine Own.aloadN X5 hx (pc := 68) (hb hby d13_68) rfl rfl ?_
  refine Own.getfield X5 hx hZ (pc := 69) hown (host := "") (Or.inl (Wd hw 71 rfl)) Via.refl e5 F_o_previousSibling (hb hby d13_69) ?_
  intro T6 X6 e6
  refine Own.iload X6 hx (pc := 72) (hb hby d13_72) rfl ?_
  refine Own.iloadN X6 hx (pc := 74) (hb hby d13_74) rfl ?_
  refine Own.iastore X6 hx hZ (pc := 75) e6 V_pv nq.toNatClampNeg hn_nq rfl (by simpa [hl_pv] using hb_nq) N5 ge_pv (hb hby d13_75) ?_
  intro T7 h7 X7 e7 W7 N7 V_pv
  have sz7 : n0 ≤ h7.size := Nat.le_trans sz5 (Nat.le_of_eq (Wr.size W7).symm)
  have F_o_parent := Fld.other W7 F_o_parent (Or.inl ne_o_pv)
  have F_o_firstChild := Fld.other W7 F_o_firstChild (Or.inl ne_o_pv)
  have F_o_lastChild := Fld.other W7 F_o_lastChild (Or.inl ne_o_pv)
  have F_o_previousSibling := Fld.other W7 F_o_previousSibling (Or.inl ne_o_pv)
  have F_o_nextSibling := Fld.other W7 F_o_nextSibling (Or.inl ne_o_pv)
  have V_pa := V_pa.other W7 ne_pa_pv
  have V_fc := V_fc.other W7 ne_fc_pv
  have V_la := V_la.other W7 ne_la_pv
  have V_nx := V_nx.other W7 (Ne.symm ne_pv_nx)
  have K := K.wr W7 (Or.inl (by simp))
  refine Own.aloadN X7 hx (pc := 76) (hb hby d13_76) rfl rfl ?_
  refine Own.getfield X7 hx hZ (pc := 77) hown (host := "") (Or.inl (Wd hw 64 rfl)) Via.refl e7 F_o_parent (hb hby d13_77) ?_
  intro T8 X8 e8
  refine Own.iloadN X8 hx (pc := 80) (hb hby d13_80) rfl ?_
  refine Own.iconst X8 hx (pc := 81) (-1 : Int32) (hb hby d13_81) (by decide) ?_
  refine Own.iastore X8 hx hZ (pc := 82) e8 V_pa nd.toNatClampNeg hn_nd rfl (by simpa [hl_pa] using hb_nd) N7 ge_pa (hb hby d13_82) ?_
  intro T9 h9 X9 e9 W9 N9 V_pa
  have sz9 : n0 ≤ h9.size := Nat.le_trans sz7 (Nat.le_of_eq (Wr.size W9).symm)
  have F_o_parent := Fld.other W9 F_o_parent (Or.inl ne_o_pa)
  have F_o_firstChild := Fld.other W9 F_o_firstChild (Or.inl ne_o_pa)
  have F_o_lastChild := Fld.other W9 F_o_lastChild (Or.inl ne_o_pa)
  have F_o_previousSibling := Fld.other W9 F_o_previousSibling (Or.inl ne_o_pa)
  have F_o_nextSibling := Fld.other W9 F_o_nextSibling (Or.inl ne_o_pa)
  have V_fc := V_fc.other W9 (Ne.symm ne_pa_fc)
  have V_la := V_la.other W9 (Ne.symm ne_pa_la)
  have V_pv := V_pv.other W9 (Ne.symm ne_pa_pv)
  have V_nx := V_nx.other W9 (Ne.symm ne_pa_nx)
  have K := K.wr W9 (Or.inl (by simp))
  refine Own.aloadN X9 hx (pc := 83) (hb hby d13_83) rfl rfl ?_
  refine Own.getfield X9 hx hZ (pc := 84) hown (host := "") (Or.inl (Wd hw 71 rfl)) Via.refl e9 F_o_previousSibling (hb hby d13_84) ?_
  intro T10 X10 e10
  refine Own.iloadN X10 hx (pc := 87) (hb hby d13_87) rfl ?_
  refine Own.iconst X10 hx (pc := 88) (-1 : Int32) (hb hby d13_88) (by decide) ?_
  refine Own.iastore X10 hx hZ (pc := 89) e10 V_pv nd.toNatClampNeg hn_nd rfl (by simpa [hl_pv] using hb_nd) N9 ge_pv (hb hby d13_89) ?_
  intro T11 h11 X11 e11 W11 N11 V_pv
  have sz11 : n0 ≤ h11.size := Nat.le_trans sz9 (Nat.le_of_eq (Wr.size W11).symm)
  have F_o_parent := Fld.other W11 F_o_parent (Or.inl ne_o_pv)
  have F_o_firstChild := Fld.other W11 F_o_firstChild (Or.inl ne_o_pv)
  have F_o_lastChild := Fld.other W11 F_o_lastChild (Or.inl ne_o_pv)
  have F_o_previousSibling := Fld.other W11 F_o_previousSibling (Or.inl ne_o_pv)
  have F_o_nextSibling := Fld.other W11 F_o_nextSibling (Or.inl ne_o_pv)
  have V_pa := V_pa.other W11 ne_pa_pv
  have V_fc := V_fc.other W11 ne_fc_pv
  have V_la := V_la.other W11 ne_la_pv
  have V_nx := V_nx.other W11 (Ne.symm ne_pv_nx)
  have K := K.wr W11 (Or.inl (by simp))
  refine Own.aloadN X11 hx (pc := 90) (hb hby d13_90) rfl rfl ?_
  refine Own.getfield X11 hx hZ (pc := 91) hown (host := "") (Or.inl (Wd hw 73 rfl)) Via.refl e11 F_o_nextSibling (hb hby d13_91) ?_
  intro T12 X12 e12
  refine Own.iloadN X12 hx (pc := 94) (hb hby d13_94) rfl ?_
  refine Own.iconst X12 hx (pc := 95) (-1 : Int32) (hb hby d13_95) (by decide) ?_
  refine Own.iastore X12 hx hZ (pc := 96) e12 V_nx nd.toNatClampNeg hn_nd rfl (by simpa [hl_nx] using hb_nd) N11 ge_nx (hb hby d13_96) ?_
  intro T13 h13 X13 e13 W13 N13 V_nx
  have sz13 : n0 ≤ h13.size := Nat.le_trans sz11 (Nat.le_of_eq (Wr.size W13).symm)
  have F_o_parent := Fld.other W13 F_o_parent (Or.inl ne_o_nx)
  have F_o_firstChild := Fld.other W13 F_o_firstChild (Or.inl ne_o_nx)
  have F_o_lastChild := Fld.other W13 F_o_lastChild (Or.inl ne_o_nx)
  have F_o_previousSibling := Fld.other W13 F_o_previousSibling (Or.inl ne_o_nx)
  have F_o_nextSibling := Fld.other W13 F_o_nextSibling (Or.inl ne_o_nx)
  have V_pa := V_pa.other W13 ne_pa_nx
  have V_fc := V_fc.other W13 ne_fc_nx
  have V_la := V_la.other W13 ne_la_nx
  have V_pv := V_pv.other W13 ne_pv_nx
  have K := K.wr W13 (Or.inl (by simp))
  exact Own.vreturn X13 hx hk hret (hb hby d13_97) e13 ⟨rfl, N13, K, V_pa, V_fc, V_la, V_pv, V_nx⟩ (by decide) (by decide)
theorem d12_0 : decode prog_122_method_5_code 0 = .ok (.aload_n 0, 1) := by decide +kernel
theorem d12_1 : decode prog_122_method_5_code 1 = .ok (.iload_n 2, 1) := by decide +kernel
theorem d12_2 : decode prog_122_method_5_code 2 = .ok (.invokevirtual 87, 3) := by decide +kernel
theorem d12_5 : decode prog_122_method_5_code 5 = .ok (.iload_n 3, 1) := by decide +kernel
theorem d12_6 : decode prog_122_method_5_code 6 = .ok (.iconst (-1), 1) := by decide +kernel
theorem d12_7 : decode prog_122_method_5_code 7 = .ok (.if_icmp .ne 12, 3) := by decide +kernel
theorem d12_10 : decode prog_122_method_5_code 10 = .ok (.aload_n 0, 1) := by decide +kernel
theorem d12_11 : decode prog_122_method_5_code 11 = .ok (.getfield 90, 3) := by decide +kernel
theorem d12_14 : decode prog_122_method_5_code 14 = .ok (.iload_n 1, 1) := by decide +kernel
theorem d12_15 : decode prog_122_method_5_code 15 = .ok (.iaload, 1) := by decide +kernel
theorem d12_16 : decode prog_122_method_5_code 16 = .ok (.goto 9, 3) := by decide +kernel
theorem d12_25 : decode prog_122_method_5_code 25 = .ok (.istore 4, 2) := by decide +kernel
theorem d12_27 : decode prog_122_method_5_code 27 = .ok (.aload_n 0, 1) := by decide +kernel
theorem d12_28 : decode prog_122_method_5_code 28 = .ok (.getfield 96, 3) := by decide +kernel
theorem d12_31 : decode prog_122_method_5_code 31 = .ok (.iload_n 2, 1) := by decide +kernel
theorem d12_32 : decode prog_122_method_5_code 32 = .ok (.iload_n 1, 1) := by decide +kernel
theorem d12_33 : decode prog_122_method_5_code 33 = .ok (.iastore, 1) := by decide +kernel
theorem d12_34 : decode prog_122_method_5_code 34 = .ok (.aload_n 0, 1) := by decide +kernel
theorem d12_35 : decode prog_122_method_5_code 35 = .ok (.getfield 93, 3) := by decide +kernel
theorem d12_38 : decode prog_122_method_5_code 38 = .ok (.iload_n 2, 1) := by decide +kernel
theorem d12_39 : decode prog_122_method_5_code 39 = .ok (.iload 4, 2) := by decide +kernel
theorem d12_41 : decode prog_122_method_5_code 41 = .ok (.iastore, 1) := by decide +kernel
theorem d12_42 : decode prog_122_method_5_code 42 = .ok (.aload_n 0, 1) := by decide +kernel
theorem d12_43 : decode prog_122_method_5_code 43 = .ok (.getfield 99, 3) := by decide +kernel
theorem d12_46 : decode prog_122_method_5_code 46 = .ok (.iload_n 2, 1) := by decide +kernel
theorem d12_47 : decode prog_122_method_5_code 47 = .ok (.iload_n 3, 1) := by decide +kernel
theorem d12_48 : decode prog_122_method_5_code 48 = .ok (.iastore, 1) := by decide +kernel
theorem d12_49 : decode prog_122_method_5_code 49 = .ok (.iload 4, 2) := by decide +kernel
theorem d12_51 : decode prog_122_method_5_code 51 = .ok (.iconst (-1), 1) := by decide +kernel
theorem d12_52 : decode prog_122_method_5_code 52 = .ok (.if_icmp .ne 13, 3) := by decide +kernel
theorem d12_55 : decode prog_122_method_5_code 55 = .ok (.aload_n 0, 1) := by decide +kernel
theorem d12_56 : decode prog_122_method_5_code 56 = .ok (.getfield 102, 3) := by decide +kernel
theorem d12_59 : decode prog_122_method_5_code 59 = .ok (.iload_n 1, 1) := by decide +kernel
theorem d12_60 : decode prog_122_method_5_code 60 = .ok (.iload_n 2, 1) := by decide +kernel
theorem d12_61 : decode prog_122_method_5_code 61 = .ok (.iastore, 1) := by decide +kernel
theorem d12_62 : decode prog_122_method_5_code 62 = .ok (.goto 11, 3) := by decide +kernel
theorem d12_73 : decode prog_122_method_5_code 73 = .ok (.iload_n 3, 1) := by decide +kernel
theorem d12_74 : decode prog_122_method_5_code 74 = .ok (.iconst (-1), 1) := by decide +kernel
theorem d12_75 : decode prog_122_method_5_code 75 = .ok (.if_icmp .ne 13, 3) := by decide +kernel
theorem d12_78 : decode prog_122_method_5_code 78 = .ok (.aload_n 0, 1) := by decide +kernel
theorem d12_79 : decode prog_122_method_5_code 79 = .ok (.getfield 90, 3) := by decide +kernel
theorem d12_82 : decode prog_122_method_5_code 82 = .ok (.iload_n 1, 1) := by decide +kernel
theorem d12_83 : decode prog_122_method_5_code 83 = .ok (.iload_n 2, 1) := by decide +kernel
theorem d12_84 : decode prog_122_method_5_code 84 = .ok (.iastore, 1) := by decide +kernel
theorem d12_85 : decode prog_122_method_5_code 85 = .ok (.goto 10, 3) := by decide +kernel
theorem d12_95 : decode prog_122_method_5_code 95 = .ok (.return_, 1) := by decide +kernel
theorem ef_rmI00 (m : MethodId) (o : Addr) (it : Int32) (nd : Int32) : entryFrame m #[(.ref o), (.int it), (.int nd), (.int (-1 : Int32))] 5 = mkF m 0 #[.val (.ref o), .val (.int it), .val (.int nd), .val (.int (-1 : Int32)), .unset] [] := by first | (simp [entryFrame, mkF, argsToLocals, Value.category]; done) | rfl
set_option maxRecDepth 65536 in
set_option maxHeartbeats 40000000 in
theorem rmI00 (l : Launch) (Z : State) (a0 : Array Value) (hw : ∀ d ∈ tables_1, d.before a0 Z = true) (o : Addr) (it : Int32) (nd : Int32) (pa : Addr) (fc : Addr) (la : Addr) (pv : Addr) (nx : Addr) (vpa : List Value) (vfc : List Value) (vla : List Value) (vpv : List Value) (vnx : List Value) (h0 : Heap) (n0 : Nat) (Z0 : n0 ≤ h0.size) (E_o : Exa Z h0 o "com/example/sprigdex/sprigdex/index/html/HtmlTree") (F_o_parent : Fld Z h0 o "com/example/sprigdex/sprigdex/index/html/HtmlTree" "parent" "[I" (.ref pa)) (F_o_firstChild : Fld Z h0 o "com/example/sprigdex/sprigdex/index/html/HtmlTree" "firstChild" "[I" (.ref fc)) (F_o_lastChild : Fld Z h0 o "com/example/sprigdex/sprigdex/index/html/HtmlTree" "lastChild" "[I" (.ref la)) (F_o_previousSibling : Fld Z h0 o "com/example/sprigdex/sprigdex/index/html/HtmlTree" "previousSibling" "[I" (.ref pv)) (F_o_nextSibling : Fld Z h0 o "com/example/sprigdex/sprigdex/index/html/HtmlTree" "nextSibling" "[I" (.ref nx)) (V_pa : Own.VArr Z h0 pa .int vpa) (V_fc : Own.VArr Z h0 fc .int vfc) (V_la : Own.VArr Z h0 la .int vla) (V_pv : Own.VArr Z h0 pv .int vpv) (V_nx : Own.VArr Z h0 nx .int vnx) (ge_pa : n0 ≤ pa) (ge_fc : n0 ≤ fc) (ge_la : n0 ≤ la) (ge_pv : n0 ≤ pv) (ge_nx : n0 ≤ nx) (ne_o_pa : o ≠ pa) (ne_o_fc : o ≠ fc) (ne_o_la : o ≠ la) (ne_o_pv : o ≠ pv) (ne_o_nx : o ≠ nx) (ne_pa_fc : pa ≠ fc) (ne_pa_la : pa ≠ la) (ne_pa_pv : pa ≠ pv) (ne_pa_nx : pa ≠ nx) (ne_fc_la : fc ≠ la) (ne_fc_pv : fc ≠ pv) (ne_fc_nx : fc ≠ nx) (ne_la_pv : la ≠ pv) (ne_la_nx : la ≠ nx) (ne_pv_nx : pv ≠ nx) (hl_pa : vpa.length = 64) (hl_fc : vfc.length = 64) (hl_la : vla.length = 64) (hl_pv : vpv.length = 64) (hl_nx : vnx.length = 64) (hn_it : ¬ it < 0) (hb_it : it.toNatClampNeg < 64) (hn_nd : ¬ nd < 0) (hb_nd : nd.toNatClampNeg < 64) (h0_ : (vpa : List Value)[nd.toNatClampNeg]? = some (.int (-1 : Int32))) (h1 : (vla : List Value)[it.toNatClampNeg]? = some (.int (-1 : Int32))) :
    Own.Ct l (⟨"com/example/sprigdex/sprigdex/index/html/HtmlTree", "insert", "(III)V"⟩ : MethodName) prog_122_method_5_code 5 none [] ({ frames := 1, cells := 0, slots := 0, locals := 16 } : Room) Z #[(.ref o), (.int it), (.int nd), (.int (-1 : Int32))] h0 (fun rV hP lC => rV = none ∧ Fr n0 lC ∧ Keep h0 hP [pa, fc, la, pv, nx] ∧ Own.VArr Z hP pa .int (vpa.set nd.toNatClampNeg (.int it)) ∧ Own.VArr Z hP fc .int (vfc.set it.toNatClampNeg (.int nd)) ∧ Own.VArr Z hP la .int (vla.set it.toNatClampNeg (.int nd)) ∧ Own.VArr Z hP pv .int (vpv.set nd.toNatClampNeg (.int (-1 : Int32))) ∧ Own.VArr Z hP nx .int (vnx.set nd.toNatClampNeg (.int (-1 : Int32)))) := by
  refine Own.enter (plainFor_of_name pn6) ?_
  intro p e s m below meth cc s₁ hx hby hml hown hnm hret hk hZ X0 e0
  have N0 := Fr.nil n0
  refine Own.start (ef_rmI00 m o it nd) ?_
  have K : Keep h0 h0 [pa, fc, la, pv, nx] := Keep.refl _ _
  refine Own.aloadN X0 hx (pc := 0) (hb hby d12_0) rfl rfl ?_
  refine Own.iloadN X0 hx (pc := 1) (hb hby d12_1) rfl ?_
  refine Own.callVirtual X0 hx hZ (pc := 2) (y := (⟨"com/example/sprigdex/sprigdex/index/html/HtmlTree", "detach", "(I)V"⟩ : MethodName)) (z := (⟨"com/example/sprigdex/sprigdex/index/html/HtmlTree", "detach", "(I)V"⟩ : MethodName)) hown (Wd hw 98 rfl) (Wd hw 99 rfl) (Wd hw 101 rfl) (Wd hw 100 rfl) (Wd hw 2 rfl) (Wd hw 102 rfl) (Wd hw 101 rfl) (by decide) 0 o [(.int nd)] [] E_o (rmD0 l Z a0 hw o nd pa vpa h0 n0 Z0 F_o_parent V_pa hn_nd h0_) (by decide) (by decide) e0 (by rw [hml]; rfl) pd9 rfl rfl (Nat.le_of_eq rfl) (hb hby d12_2) (by decide) (by decide) ?_
  intro T1 L1 v1 X1 hQ1
  obtain ⟨rfl, Nq1, e1⟩ := hQ1
  have N1 := Fr.app N0 Nq1
  show Own.Go p e below _ (T1.setTop (mkF m 5 #[.val (.ref o), .val (.int it), .val (.int nd), .val (.int (-1 : Int32)), .unset] []))
  refine Own.iloadN X1 hx (pc := 5) (hb hby d12_5) rfl ?_
  refine Own.iconst X1 hx (pc := 6) (-1 : Int32) (hb hby d12_6) (by decide) ?_
  refine Own.icmpNo X1 hx (pc := 7) (hb hby d12_7) (by decide) ?_
  refine Own.aloadN X1 hx (pc := 10) (hb hby d12_10) rfl rfl ?_
  refine Own.getfield X1 hx hZ (pc := 11) hown (host := "") (Or.inl (Wd hw 69 rfl)) Via.refl e1 F_o_lastChild (hb hby d12_11) ?_
  intro T2 X2 e2
  refine Own.iloadN X2 hx (pc := 14) (hb hby d12_14) rfl ?_
  refine Own.iaload X2 hx hZ (pc := 15) e2 V_la (v := (.int (-1 : Int32))) it.toNatClampNeg hn_it rfl h1 (hb hby d12_15) ?_
  refine Own.goto X2 hx (pc := 16) 25 (hb hby d12_16) (by decide) (by decide) ?_
  refine Own.istore X2 hx (pc := 25) #[.val (.ref o), .val (.int it), .val (.int nd), .val (.int (-1 : Int32)), .val (.int (-1 : Int32))] (hb hby d12_25) rfl ?_
  refine Own.aloadN X2 hx (pc := 27) (hb hby d12_27) rfl rfl ?_
  refine Own.getfield X2 hx hZ (pc := 28) hown (host := "") (Or.inl (Wd hw 64 rfl)) Via.refl e2 F_o_parent (hb hby d12_28) ?_
  intro T3 X3 e3
  refine Own.iloadN X3 hx (pc := 31) (hb hby d12_31) rfl ?_
  refine Own.iloadN X3 hx (pc := 32) (hb hby d12_32) rfl ?_
  refine Own.iastore X3 hx hZ (pc := 33) e3 V_pa nd.toNatClampNeg hn_nd rfl (by simpa [hl_pa] using hb_nd) N1 ge_pa (hb hby d12_33) ?_
  intro T4 h4 X4 e4 W4 N4 V_pa
  have sz4 : n0 ≤ h4.size := Nat.le_trans Z0 (Nat.le_of_eq (Wr.size W4).symm)
  have E_o := Exa.wr W4 E_o
  have F_o_parent := Fld.other W4 F_o_parent (Or.inl ne_o_pa)
  have F_o_firstChild := Fld.other W4 F_o_firstChild (Or.inl ne_o_pa)
  have F_o_lastChild := Fld.other W4 F_o_lastChild (Or.inl ne_o_pa)
  have F_o_previousSibling := Fld.other W4 F_o_previousSibling (Or.inl ne_o_pa)
  have F_o_nextSibling := Fld.other W4 F_o_nextSibling (Or.inl ne_o_pa)
  have V_fc := V_fc.other W4 (Ne.symm ne_pa_fc)
  have V_la := V_la.other W4 (Ne.symm ne_pa_la)
  have V_pv := V_pv.other W4 (Ne.symm ne_pa_pv)
  have V_nx := V_nx.other W4 (Ne.symm ne_pa_nx)
  have K := K.wr W4 (Or.inl (by simp))
  refine Own.aloadN X4 hx (pc := 34) (hb hby d12_34) rfl rfl ?_
  refine Own.getfield X4 hx hZ (pc := 35) hown (host := "") (Or.inl (Wd hw 71 rfl)) Via.refl e4 F_o_previousSibling (hb hby d12_35) ?_
  intro T5 X5 e5
  refine Own.iloadN X5 hx (pc := 38) (hb hby d12_38) rfl ?_
  refine Own.iload X5 hx (pc := 39) (hb hby d12_39) rfl ?_
  refine Own.iastore X5 hx hZ (pc := 41) e5 V_pv nd.toNatClampNeg hn_nd rfl (by simpa [hl_pv] using hb_nd) N4 ge_pv (hb hby d12_41) ?_
  intro T6 h6 X6 e6 W6 N6 V_pv
  have sz6 : n0 ≤ h6.size := Nat.le_trans sz4 (Nat.le_of_eq (Wr.size W6).symm)
  have E_o := Exa.wr W6 E_o
  have F_o_parent := Fld.other W6 F_o_parent (Or.inl ne_o_pv)
  have F_o_firstChild := Fld.other W6 F_o_firstChild (Or.inl ne_o_pv)
  have F_o_lastChild := Fld.other W6 F_o_lastChild (Or.inl ne_o_pv)
  have F_o_previousSibling := Fld.other W6 F_o_previousSibling (Or.inl ne_o_pv)
  have F_o_nextSibling := Fld.other W6 F_o_nextSibling (Or.inl ne_o_pv)
  have V_pa := V_pa.other W6 ne_pa_pv
  have V_fc := V_fc.other W6 ne_fc_pv
  have V_la := V_la.other W6 ne_la_pv
  have V_nx := V_nx.other W6 (Ne.symm ne_pv_nx)
  have K := K.wr W6 (Or.inl (by simp))
  refine Own.aloadN X6 hx (pc := 42) (hb hby d12_42) rfl rfl ?_
  refine Own.getfield X6 hx hZ (pc := 43) hown (host := "") (Or.inl (Wd hw 73 rfl)) Via.refl e6 F_o_nextSibling (hb hby d12_43) ?_
  intro T7 X7 e7
  refine Own.iloadN X7 hx (pc := 46) (hb hby d12_46) rfl ?_
  refine Own.iloadN X7 hx (pc := 47) (hb hby d12_47) rfl ?_
  refine Own.iastore X7 hx hZ (pc := 48) e7 V_nx nd.toNatClampNeg hn_nd rfl (by simpa [hl_nx] using hb_nd) N6 ge_nx (hb hby d12_48) ?_
  intro T8 h8 X8 e8 W8 N8 V_nx
  have sz8 : n0 ≤ h8.size := Nat.le_trans sz6 (Nat.le_of_eq (Wr.size W8).symm)
  have E_o := Exa.wr W8 E_o
  have F_o_parent := Fld.other W8 F_o_parent (Or.inl ne_o_nx)
  have F_o_firstChild := Fld.other W8 F_o_firstChild (Or.inl ne_o_nx)
  have F_o_lastChild := Fld.other W8 F_o_lastChild (Or.inl ne_o_nx)
  have F_o_previousSibling := Fld.other W8 F_o_previousSibling (Or.inl ne_o_nx)
  have F_o_nextSibling := Fld.other W8 F_o_nextSibling (Or.inl ne_o_nx)
  have V_pa := V_pa.other W8 ne_pa_nx
  have V_fc := V_fc.other W8 ne_fc_nx
  have V_la := V_la.other W8 ne_la_nx
  have V_pv := V_pv.other W8 ne_pv_nx
  have K := K.wr W8 (Or.inl (by simp))
  refine Own.iload X8 hx (pc := 49) (hb hby d12_49) rfl ?_
  refine Own.iconst X8 hx (pc := 51) (-1 : Int32) (hb hby d12_51) (by decide) ?_
  refine Own.icmpNo X8 hx (pc := 52) (hb hby d12_52) (by decide) ?_
  refine Own.aloadN X8 hx (pc := 55) (hb hby d12_55) rfl rfl ?_
  refine Own.getfield X8 hx hZ (pc := 56) hown (host := "") (Or.inl (Wd hw 67 rfl)) Via.refl e8 F_o_firstChild (hb hby d12_56) ?_
  intro T9 X9 e9
  refine Own.iloadN X9 hx (pc := 59) (hb hby d12_59) rfl ?_
  refine Own.iloadN X9 hx (pc := 60) (hb hby d12_60) rfl ?_
  refine Own.iastore X9 hx hZ (pc := 61) e9 V_fc it.toNatClampNeg hn_it rfl (by simpa [hl_fc] using hb_it) N8 ge_fc (hb hby d12_61) ?_
  intro T10 h10 X10 e10 W10 N10 V_fc
  have sz10 : n0 ≤ h10.size := Nat.le_trans sz8 (Nat.le_of_eq (Wr.size W10).symm)
  have E_o := Exa.wr W10 E_o
  have F_o_parent := Fld.other W10 F_o_parent (Or.inl ne_o_fc)
  have F_o_firstChild := Fld.other W10 F_o_firstChild (Or.inl ne_o_fc)
  have F_o_lastChild := Fld.other W10 F_o_lastChild (Or.inl ne_o_fc)
  have F_o_previousSibling := Fld.other W10 F_o_previousSibling (Or.inl ne_o_fc)
  have F_o_nextSibling := Fld.other W10 F_o_nextSibling (Or.inl ne_o_fc)
  have V_pa := V_pa.other W10 ne_pa_fc
  have V_la := V_la.other W10 (Ne.symm ne_fc_la)
  have V_pv := V_pv.other W10 (Ne.symm ne_fc_pv)
  have V_nx := V_nx.other W10 (Ne.symm ne_fc_nx)
  have K := K.wr W10 (Or.inl (by simp))
  refine Own.goto X10 hx (pc := 62) 73 (hb hby d12_62) (by decide) (by decide) ?_
  refine Own.iloadN X10 hx (pc := 73) (hb hby d12_73) rfl ?_
  refine Own.iconst X10 hx (pc := 74) (-1 : Int32) (hb hby d12_74) (by decide) ?_
  refine Own.icmpNo X10 hx (pc := 75) (hb hby d12_75) (by decide) ?_
  refine Own.aloadN X10 hx (pc := 78) (hb hby d12_78) rfl rfl ?_
  refine Own.getfield X10 hx hZ (pc := 79) hown (host := "") (Or.inl (Wd hw 69 rfl)) Via.refl e10 F_o_lastChild (hb hby d12_79) ?_
  intro T11 X11 e11
  refine Own.iloadN X11 hx (pc := 82) (hb hby d12_82) rfl ?_
  refine Own.iloadN X11 hx (pc := 83) (hb hby d12_83) rfl ?_
  refine Own.iastore X11 hx hZ (pc := 84) e11 V_la it.toNatClampNeg hn_it rfl (by simpa [hl_la] using hb_it) N10 ge_la (hb hby d12_84) ?_
  intro T12 h12 X12 e12 W12 N12 V_la
  have sz12 : n0 ≤ h12.size := Nat.le_trans sz10 (Nat.le_of_eq (Wr.size W12).symm)
  have E_o := Exa.wr W12 E_o
  have F_o_parent := Fld.other W12 F_o_parent (Or.inl ne_o_la)
  have F_o_firstChild := Fld.other W12 F_o_firstChild (Or.inl ne_o_la)
  have F_o_lastChild := Fld.other W12 F_o_lastChild (Or.inl ne_o_la)
  have F_o_previousSibling := Fld.other W12 F_o_previousSibling (Or.inl ne_o_la)
  have F_o_nextSibling := Fld.other W12 F_o_nextSibling (Or.inl ne_o_la)
  have V_pa := V_pa.other W12 ne_pa_la
  have V_fc := V_fc.other W12 ne_fc_la
  have V_pv := V_pv.other W12 (Ne.symm ne_la_pv)
  have V_nx := V_nx.other W12 (Ne.symm ne_la_nx)
  have K := K.wr W12 (Or.inl (by simp))
  refine Own.goto X12 hx (pc := 85) 95 (hb hby d12_85) (by decide) (by decide) ?_
  exact Own.vreturn X12 hx hk hret (hb hby d12_95) e12 ⟨rfl, N12, K, V_pa, V_fc, V_la, V_pv, V_nx⟩ (by decide) (by decide)
theorem d12_65 : decode prog_122_method_5_code 65 = .ok (.aload_n 0, 1) := by decide +kernel
theorem d12_66 : decode prog_122_method_5_code 66 = .ok (.getfield 99, 3) := by decide +kernel
theorem d12_69 : decode prog_122_method_5_code 69 = .ok (.iload 4, 2) := by decide +kernel
theorem d12_71 : decode prog_122_method_5_code 71 = .ok (.iload_n 2, 1) := by decide +kernel
theorem d12_72 : decode prog_122_method_5_code 72 = .ok (.iastore, 1) := by decide +kernel
theorem ef_rmI01 (m : MethodId) (o : Addr) (it : Int32) (nd : Int32) : entryFrame m #[(.ref o), (.int it), (.int nd), (.int (-1 : Int32))] 5 = mkF m 0 #[.val (.ref o), .val (.int it), .val (.int nd), .val (.int (-1 : Int32)), .unset] [] := by first | (simp [entryFrame, mkF, argsToLocals, Value.category]; done) | rfl
set_option maxRecDepth 65536 in
set_option maxHeartbeats 40000000 in
theorem rmI01 (l : Launch) (Z : State) (a0 : Array Value) (hw : ∀ d ∈ tables_1, d.before a0 Z = true) (o : Addr) (it : Int32) (nd : Int32) (pa : Addr) (fc : Addr) (la : Addr) (pv : Addr) (nx : Addr) (vpa : List Value) (vfc : List Value) (vla : List Value) (vpv : List Value) (vnx : List Value) (pr : Int32) (h0 : Heap) (n0 : Nat) (Z0 : n0 ≤ h0.size) (E_o : Exa Z h0 o "com/example/sprigdex/sprigdex/index/html/HtmlTree") (F_o_parent : Fld Z h0 o "com/example/sprigdex/sprigdex/index/html/HtmlTree" "parent" "[I" (.ref pa)) (F_o_firstChild : Fld Z h0 o "com/example/sprigdex/sprigdex/index/html/HtmlTree" "firstChild" "[I" (.ref fc)) (F_o_lastChild : Fld Z h0 o "com/example/sprigdex/sprigdex/index/html/HtmlTree" "lastChild" "[I" (.ref la)) (F_o_previousSibling : Fld Z h0 o "com/example/sprigdex/sprigdex/index/html/HtmlTree" "previousSibling" "[I" (.ref pv)) (F_o_nextSibling : Fld Z h0 o "com/example/sprigdex/sprigdex/index/html/HtmlTree" "nextSibling" "[I" (.ref nx)) (V_pa : Own.VArr Z h0 pa .int vpa) (V_fc : Own.VArr Z h0 fc .int vfc) (V_la : Own.VArr Z h0 la .int vla) (V_pv : Own.VArr Z h0 pv .int vpv) (V_nx : Own.VArr Z h0 nx .int vnx) (ge_pa : n0 ≤ pa) (ge_fc : n0 ≤ fc) (ge_la : n0 ≤ la) (ge_pv : n0 ≤ pv) (ge_nx : n0 ≤ nx) (ne_o_pa : o ≠ pa) (ne_o_fc : o ≠ fc) (ne_o_la : o ≠ la) (ne_o_pv : o ≠ pv) (ne_o_nx : o ≠ nx) (ne_pa_fc : pa ≠ fc) (ne_pa_la : pa ≠ la) (ne_pa_pv : pa ≠ pv) (ne_pa_nx : pa ≠ nx) (ne_fc_la : fc ≠ la) (ne_fc_pv : fc ≠ pv) (ne_fc_nx : fc ≠ nx) (ne_la_pv : la ≠ pv) (ne_la_nx : la ≠ nx) (ne_pv_nx : pv ≠ nx) (hl_pa : vpa.length = 64) (hl_fc : vfc.length = 64) (hl_la : vla.length = 64) (hl_pv : vpv.length = 64) (hl_nx : vnx.length = 64) (hn_it : ¬ it < 0) (hb_it : it.toNatClampNeg < 64) (hn_nd : ¬ nd < 0) (hb_nd : nd.toNatClampNeg < 64) (hn_pr : ¬ pr < 0) (hb_pr : pr.toNatClampNeg < 64) (h0_ : (vpa : List Value)[nd.toNatClampNeg]? = some (.int (-1 : Int32))) (h1 : (vla : List Value)[it.toNatClampNeg]? = some (.int pr)) (hpr : ¬ pr = (-1 : Int32)) :
    Own.Ct l (⟨"com/example/sprigdex/sprigdex/index/html/HtmlTree", "insert", "(III)V"⟩ : MethodName) prog_122_method_5_code 5 none [] ({ frames := 1, cells := 0, slots := 0, locals := 16 } : Room) Z #[(.ref o), (.int it), (.int nd), (.int (-1 : Int32))] h0 (fun rV hP lC => rV = none ∧ Fr n0 lC ∧ Keep h0 hP [pa, fc, la, pv, nx] ∧ Own.VArr Z hP pa .int (vpa.set nd.toNatClampNeg (.int it)) ∧ Own.VArr Z hP fc .int vfc ∧ Own.VArr Z hP la .int (vla.set it.toNatClampNeg (.int nd)) ∧ Own.VArr Z hP pv .int (vpv.set nd.toNatClampNeg (.int pr)) ∧ Own.VArr Z hP nx .int ((vnx.set nd.toNatClampNeg (.int (-1 : Int32))).set pr.toNatClampNeg (.int nd))) := by
  refine Own.enter (plainFor_of_name pn6) ?_
  intro p e s m below meth cc s₁ hx hby hml hown hnm hret hk hZ X0 e0
  have N0 := Fr.nil n0
  refine Own.start (ef_rmI01 m o it nd) ?_
  have K : Keep h0 h0 [pa, fc, la, pv, nx] := Keep.refl _ _
  refine Own.aloadN X0 hx (pc := 0) (hb hby d12_0) rfl rfl ?_
  refine Own.iloadN X0 hx (pc := 1) (hb hby d12_1) rfl ?_
  refine Own.callVirtual X0 hx hZ (pc := 2) (y := (⟨"com/example/sprigdex/sprigdex/index/html/HtmlTree", "detach", "(I)V"⟩ : MethodName)) (z := (⟨"com/example/sprigdex/sprigdex/index/html/HtmlTree", "detach", "(I)V"⟩ : MethodName)) hown (Wd hw 98 rfl) (Wd hw 99 rfl) (Wd hw 101 rfl) (Wd hw 100 rfl) (Wd hw 2 rfl) (Wd hw 102 rfl) (Wd hw 101 rfl) (by decide) 0 o [(.int nd)] [] E_o (rmD0 l Z a0 hw o nd pa vpa h0 n0 Z0 F_o_parent V_pa hn_nd h0_) (by decide) (by decide) e0 (by rw [hml]; rfl) pd9 rfl rfl (Nat.le_of_eq rfl) (hb hby d12_2) (by decide) (by decide) ?_
  intro T1 L1 v1 X1 hQ1
  obtain ⟨rfl, Nq1, e1⟩ := hQ1
  have N1 := Fr.app N0 Nq1
  show Own.Go p e below _ (T1.setTop (mkF m 5 #[.val (.ref o), .val (.int it), .val (.int nd), .val (.int (-1 : Int32)), .unset] []))
  refine Own.iloadN X1 hx (pc := 5) (hb hby d12_5) rfl ?_
  refine Own.iconst X1 hx (pc := 6) (-1 : Int32) (hb hby d12_6) (by decide) ?_
  refine Own.icmpNo X1 hx (pc := 7) (hb hby d12_7) (by decide) ?_
  refine Own.aloadN X1 hx (pc := 10) (hb hby d12_10) rfl rfl ?_
  refine Own.getfield X1 hx hZ (pc := 11) hown (host := "") (Or.inl (Wd hw 69 rfl)) Via.refl e1 F_o_lastChild (hb hby d12_11) ?_
  intro T2 X2 e2
  refine Own.iloadN X2 hx (pc := 14) (hb hby d12_14) rfl ?_
  refine Own.iaload X2 hx hZ (pc := 15) e2 V_la (v := (.int pr)) it.toNatClampNeg hn_it rfl h1 (hb hby d12_15) ?_
  refine Own.goto X2 hx (pc := 16) 25 (hb hby d12_16) (by decide) (by decide) ?_
  refine Own.istore X2 hx (pc := 25) #[.val (.ref o), .val (.int it), .val (.int nd), .val (.int (-1 : Int32)), .val (.int pr)] (hb hby d12_25) rfl ?_
  refine Own.aloadN X2 hx (pc := 27) (hb hby d12_27) rfl rfl ?_
  refine Own.getfield X2 hx hZ (pc := 28) hown (host := "") (Or.inl (Wd hw 64 rfl)) Via.refl e2 F_o_parent (hb hby d12_28) ?_
  intro T3 X3 e3
  refine Own.iloadN X3 hx (pc := 31) (hb hby d12_31) rfl ?_
  refine Own.iloadN X3 hx (pc := 32) (hb hby d12_32) rfl ?_
  refine Own.iastore X3 hx hZ (pc := 33) e3 V_pa nd.toNatClampNeg hn_nd rfl (by simpa [hl_pa] using hb_nd) N1 ge_pa (hb hby d12_33) ?_
  intro T4 h4 X4 e4 W4 N4 V_pa
  have sz4 : n0 ≤ h4.size := Nat.le_trans Z0 (Nat.le_of_eq (Wr.size W4).symm)
  have E_o := Exa.wr W4 E_o
  have F_o_parent := Fld.other W4 F_o_parent (Or.inl ne_o_pa)
  have F_o_firstChild := Fld.other W4 F_o_firstChild (Or.inl ne_o_pa)
  have F_o_lastChild := Fld.other W4 F_o_lastChild (Or.inl ne_o_pa)
  have F_o_previousSibling := Fld.other W4 F_o_previousSibling (Or.inl ne_o_pa)
  have F_o_nextSibling := Fld.other W4 F_o_nextSibling (Or.inl ne_o_pa)
  have V_fc := V_fc.other W4 (Ne.symm ne_pa_fc)
  have V_la := V_la.other W4 (Ne.symm ne_pa_la)
  have V_pv := V_pv.other W4 (Ne.symm ne_pa_pv)
  have V_nx := V_nx.other W4 (Ne.symm ne_pa_nx)
  have K := K.wr W4 (Or.inl (by simp))
  refine Own.aloadN X4 hx (pc := 34) (hb hby d12_34) rfl rfl ?_
  refine Own.getfield X4 hx hZ (pc := 35) hown (host := "") (Or.inl (Wd hw 71 rfl)) Via.refl e4 F_o_previousSibling (hb hby d12_35) ?_
  intro T5 X5 e5
  refine Own.iloadN X5 hx (pc := 38) (hb hby d12_38) rfl ?_
  refine Own.iload X5 hx (pc := 39) (hb hby d12_39) rfl ?_
  refine Own.iastore X5 hx hZ (pc := 41) e5 V_pv nd.toNatClampNeg hn_nd rfl (by simpa [hl_pv] using hb_nd) N4 ge_pv (hb hby d12_41) ?_
  intro T6 h6 X6 e6 W6 N6 V_pv
  have sz6 : n0 ≤ h6.size := Nat.le_trans sz4 (Nat.le_of_eq (Wr.size W6).symm)
  have E_o := Exa.wr W6 E_o
  have F_o_parent := Fld.other W6 F_o_parent (Or.inl ne_o_pv)
  have F_o_firstChild := Fld.other W6 F_o_firstChild (Or.inl ne_o_pv)
  have F_o_lastChild := Fld.other W6 F_o_lastChild (Or.inl ne_o_pv)
  have F_o_previousSibling := Fld.other W6 F_o_previousSibling (Or.inl ne_o_pv)
  have F_o_nextSibling := Fld.other W6 F_o_nextSibling (Or.inl ne_o_pv)
  have V_pa := V_pa.other W6 ne_pa_pv
  have V_fc := V_fc.other W6 ne_fc_pv
  have V_la := V_la.other W6 ne_la_pv
  have V_nx := V_nx.other W6 (Ne.symm ne_pv_nx)
  have K := K.wr W6 (Or.inl (by simp))
  refine Own.aloadN X6 hx (pc := 42) (hb hby d12_42) rfl rfl ?_
  refine Own.getfield X6 hx hZ (pc := 43) hown (host := "") (Or.inl (Wd hw 73 rfl)) Via.refl e6 F_o_nextSibling (hb hby d12_43) ?_
  intro T7 X7 e7
  refine Own.iloadN X7 hx (pc := 46) (hb hby d12_46) rfl ?_
  refine Own.iloadN X7 hx (pc := 47) (hb hby d12_47) rfl ?_
  refine Own.iastore X7 hx hZ (pc := 48) e7 V_nx nd.toNatClampNeg hn_nd rfl (by simpa [hl_nx] using hb_nd) N6 ge_nx (hb hby d12_48) ?_
  intro T8 h8 X8 e8 W8 N8 V_nx
  have sz8 : n0 ≤ h8.size := Nat.le_trans sz6 (Nat.le_of_eq (Wr.size W8).symm)
  have E_o := Exa.wr W8 E_o
  have F_o_parent := Fld.other W8 F_o_parent (Or.inl ne_o_nx)
  have F_o_firstChild := Fld.other W8 F_o_firstChild (Or.inl ne_o_nx)
  have F_o_lastChild := Fld.other W8 F_o_lastChild (Or.inl ne_o_nx)
  have F_o_previousSibling := Fld.other W8 F_o_previousSibling (Or.inl ne_o_nx)
  have F_o_nextSibling := Fld.other W8 F_o_nextSibling (Or.inl ne_o_nx)
  have V_pa := V_pa.other W8 ne_pa_nx
  have V_fc := V_fc.other W8 ne_fc_nx
  have V_la := V_la.other W8 ne_la_nx
  have V_pv := V_pv.other W8 ne_pv_nx
  have K := K.wr W8 (Or.inl (by simp))
  refine Own.iload X8 hx (pc := 49) (hb hby d12_49) rfl ?_
  refine Own.iconst X8 hx (pc := 51) (-1 : Int32) (hb hby d12_51) (by decide) ?_
  refine Own.icmpYes X8 hx (pc := 52) 65 (hb hby d12_52) (XT.ii_ne_t hpr) (by decide) (by decide) ?_
  refine Own.aloadN X8 hx (pc := 65) (hb hby d12_65) rfl rfl ?_
  refine Own.getfield X8 hx hZ (pc := 66) hown (host := "") (Or.inl (Wd hw 73 rfl)) Via.refl e8 F_o_nextSibling (hb hby d12_66) ?_
  intro T9 X9 e9
  refine Own.iload X9 hx (pc := 69) (hb hby d12_69) rfl ?_
  refine Own.iloadN X9 hx (pc := 71) (hb hby d12_71) rfl ?_
  refine Own.iastore X9 hx hZ (pc := 72) e9 V_nx pr.toNatClampNeg hn_pr rfl (by simpa [hl_nx] using hb_pr) N8 ge_nx (hb hby d12_72) ?_
  intro T10 h10 X10 e10 W10 N10 V_nx
  have sz10 : n0 ≤ h10.size := Nat.le_trans sz8 (Nat.le_of_eq (Wr.size W10).symm)
  have E_o := Exa.wr W10 E_o
  have F_o_parent := Fld.other W10 F_o_parent (Or.inl ne_o_nx)
  have F_o_firstChild := Fld.other W10 F_o_firstChild (Or.inl ne_o_nx)
  have F_o_lastChild := Fld.other W10 F_o_lastChild (Or.inl ne_o_nx)
  have F_o_previousSibling := Fld.other W10 F_o_previousSibling (Or.inl ne_o_nx)
  have F_o_nextSibling := Fld.other W10 F_o_nextSibling (Or.inl ne_o_nx)
  have V_pa := V_pa.other W10 ne_pa_nx
  have V_fc := V_fc.other W10 ne_fc_nx
  have V_la := V_la.other W10 ne_la_nx
  have V_pv := V_pv.other W10 ne_pv_nx
  have K := K.wr W10 (Or.inl (by simp))
  refine Own.iloadN X10 hx (pc := 73) (hb hby d12_73) rfl ?_
  refine Own.iconst X10 hx (pc := 74) (-1 : Int32) (hb hby d12_74) (by decide) ?_
  refine Own.icmpNo X10 hx (pc := 75) (hb hby d12_75) (by decide) ?_
  refine Own.aloadN X10 hx (pc := 78) (hb hby d12_78) rfl rfl ?_
  refine Own.getfield X10 hx hZ (pc := 79) hown (host := "") (Or.inl (Wd hw 69 rfl)) Via.refl e10 F_o_lastChild (hb hby d12_79) ?_
  intro T11 X11 e11
  refine Own.iloadN X11 hx (pc := 82) (hb hby d12_82) rfl ?_
  refine Own.iloadN X11 hx (pc := 83) (hb hby d12_83) rfl ?_
  refine Own.iastore X11 hx hZ (pc := 84) e11 V_la it.toNatClampNeg hn_it rfl (by simpa [hl_la] using hb_it) N10 ge_la (hb hby d12_84) ?_
  intro T12 h12 X12 e12 W12 N12 V_la
  have sz12 : n0 ≤ h12.size := Nat.le_trans sz10 (Nat.le_of_eq (Wr.size W12).symm)
  have E_o := Exa.wr W12 E_o
  have F_o_parent := Fld.other W12 F_o_parent (Or.inl ne_o_la)
  have F_o_firstChild := Fld.other W12 F_o_firstChild (Or.inl ne_o_la)
  have F_o_lastChild := Fld.other W12 F_o_lastChild (Or.inl ne_o_la)
  have F_o_previousSibling := Fld.other W12 F_o_previousSibling (Or.inl ne_o_la)
  have F_o_nextSibling := Fld.other W12 F_o_nextSibling (Or.inl ne_o_la)
  have V_pa := V_pa.other W12 ne_pa_la
  have V_fc := V_fc.other W12 ne_fc_la
  have V_pv := V_pv.other W12 (Ne.symm ne_la_pv)
  have V_nx := V_nx.other W12 (Ne.symm ne_la_nx)
  have K := K.wr W12 (Or.inl (by simp))
  refine Own.goto X12 hx (pc := 85) 95 (hb hby d12_85) (by decide) (by decide) ?_
  exact Own.vreturn X12 hx hk hret (hb hby d12_95) e12 ⟨rfl, N12, K, V_pa, V_fc, V_la, V_pv, V_nx⟩ (by decide) (by decide)
theorem d12_19 : decode prog_122_method_5_code 19 = .ok (.aload_n 0, 1) := by decide +kernel
theorem d12_20 : decode prog_122_method_5_code 20 = .ok (.getfield 93, 3) := by decide +kernel
theorem d12_23 : decode prog_122_method_5_code 23 = .ok (.iload_n 3, 1) := by decide +kernel
theorem d12_24 : decode prog_122_method_5_code 24 = .ok (.iaload, 1) := by decide +kernel
theorem d12_88 : decode prog_122_method_5_code 88 = .ok (.aload_n 0, 1) := by decide +kernel
theorem d12_89 : decode prog_122_method_5_code 89 = .ok (.getfield 93, 3) := by decide +kernel
theorem d12_92 : decode prog_122_method_5_code 92 = .ok (.iload_n 3, 1) := by decide +kernel
theorem d12_93 : decode prog_122_method_5_code 93 = .ok (.iload_n 2, 1) := by decide +kernel
theorem d12_94 : decode prog_122_method_5_code 94 = .ok (.iastore, 1) := by decide +kernel
theorem ef_rmI10 (m : MethodId) (o : Addr) (it : Int32) (nd : Int32) (bf : Int32) : entryFrame m #[(.ref o), (.int it), (.int nd), (.int bf)] 5 = mkF m 0 #[.val (.ref o), .val (.int it), .val (.int nd), .val (.int bf), .unset] [] := by first | (simp [entryFrame, mkF, argsToLocals, Value.category]; done) | rfl
set_option maxRecDepth 65536 in
set_option maxHeartbeats 40000000 in
theorem rmI10 (l : Launch) (Z : State) (a0 : Array Value) (hw : ∀ d ∈ tables_1, d.before a0 Z = true) (o : Addr) (it : Int32) (nd : Int32) (bf : Int32) (pa : Addr) (fc : Addr) (la : Addr) (pv : Addr) (nx : Addr) (vpa : List Value) (vfc : List Value) (vla : List Value) (vpv : List Value) (vnx : List Value) (h0 : Heap) (n0 : Nat) (Z0 : n0 ≤ h0.size) (E_o : Exa Z h0 o "com/example/sprigdex/sprigdex/index/html/HtmlTree") (F_o_parent : Fld Z h0 o "com/example/sprigdex/sprigdex/index/html/HtmlTree" "parent" "[I" (.ref pa)) (F_o_firstChild : Fld Z h0 o "com/example/sprigdex/sprigdex/index/html/HtmlTree" "firstChild" "[I" (.ref fc)) (F_o_lastChild : Fld Z h0 o "com/example/sprigdex/sprigdex/index/html/HtmlTree" "lastChild" "[I" (.ref la)) (F_o_previousSibling : Fld Z h0 o "com/example/sprigdex/sprigdex/index/html/HtmlTree" "previousSibling" "[I" (.ref pv)) (F_o_nextSibling : Fld Z h0 o "com/example/sprigdex/sprigdex/index/html/HtmlTree" "nextSibling" "[I" (.ref nx)) (V_pa : Own.VArr Z h0 pa .int vpa) (V_fc : Own.VArr Z h0 fc .int vfc) (V_la : Own.VArr Z h0 la .int vla) (V_pv : Own.VArr Z h0 pv .int vpv) (V_nx : Own.VArr Z h0 nx .int vnx) (ge_pa : n0 ≤ pa) (ge_fc : n0 ≤ fc) (ge_la : n0 ≤ la) (ge_pv : n0 ≤ pv) (ge_nx : n0 ≤ nx) (ne_o_pa : o ≠ pa) (ne_o_fc : o ≠ fc) (ne_o_la : o ≠ la) (ne_o_pv : o ≠ pv) (ne_o_nx : o ≠ nx) (ne_pa_fc : pa ≠ fc) (ne_pa_la : pa ≠ la) (ne_pa_pv : pa ≠ pv) (ne_pa_nx : pa ≠ nx) (ne_fc_la : fc ≠ la) (ne_fc_pv : fc ≠ pv) (ne_fc_nx : fc ≠ nx) (ne_la_pv : la ≠ pv) (ne_la_nx : la ≠ nx) (ne_pv_nx : pv ≠ nx) (hl_pa : vpa.length = 64) (hl_fc : vfc.length = 64) (hl_la : vla.length = 64) (hl_pv : vpv.length = 64) (hl_nx : vnx.length = 64) (hn_it : ¬ it < 0) (hb_it : it.toNatClampNeg < 64) (hn_nd : ¬ nd < 0) (hb_nd : nd.toNatClampNeg < 64) (hn_bf : ¬ bf < 0) (hb_bf : bf.toNatClampNeg < 64) (h0_ : (vpa : List Value)[nd.toNatClampNeg]? = some (.int (-1 : Int32))) (h1 : (vpv : List Value)[bf.toNatClampNeg]? = some (.int (-1 : Int32))) (hbf : ¬ bf = (-1 : Int32)) :
    Own.Ct l (⟨"com/example/sprigdex/sprigdex/index/html/HtmlTree", "insert", "(III)V"⟩ : MethodName) prog_122_method_5_code 5 none [] ({ frames := 1, cells := 0, slots := 0, locals := 16 } : Room) Z #[(.ref o), (.int it), (.int nd), (.int bf)] h0 (fun rV hP lC => rV = none ∧ Fr n0 lC ∧ Keep h0 hP [pa, fc, la, pv, nx] ∧ Own.VArr Z hP pa .int (vpa.set nd.toNatClampNeg (.int it)) ∧ Own.VArr Z hP fc .int (vfc.set it.toNatClampNeg (.int nd)) ∧ Own.VArr Z hP la .int vla ∧ Own.VArr Z hP pv .int ((vpv.set nd.toNatClampNeg (.int (-1 : Int32))).set bf.toNatClampNeg (.int nd)) ∧ Own.VArr Z hP nx .int (vnx.set nd.toNatClampNeg (.int bf))) := by
  refine Own.enter (plainFor_of_name pn6) ?_
  intro p e s m below meth cc s₁ hx hby hml hown hnm hret hk hZ X0 e0
  have N0 := Fr.nil n0
  refine Own.start (ef_rmI10 m o it nd bf) ?_
  have K : Keep h0 h0 [pa, fc, la, pv, nx] := Keep.refl _ _
  refine Own.aloadN X0 hx (pc := 0) (hb hby d12_0) rfl rfl ?_
  refine Own.iloadN X0 hx (pc := 1) (hb hby d12_1) rfl ?_
  refine Own.callVirtual X0 hx hZ (pc := 2) (y := (⟨"com/example/sprigdex/sprigdex/index/html/HtmlTree", "detach", "(I)V"⟩ : MethodName)) (z := (⟨"com/example/sprigdex/sprigdex/index/html/HtmlTree", "detach", "(I)V"⟩ : MethodName)) hown (Wd hw 98 rfl) (Wd hw 99 rfl) (Wd hw 101 rfl) (Wd hw 100 rfl) (Wd hw 2 rfl) (Wd hw 102 rfl) (Wd hw 101 rfl) (by decide) 0 o [(.int nd)] [] E_o (rmD0 l Z a0 hw o nd pa vpa h0 n0 Z0 F_o_parent V_pa hn_nd h0_) (by decide) (by decide) e0 (by rw [hml]; rfl) pd9 rfl rfl (Nat.le_of_eq rfl) (hb hby d12_2) (by decide) (by decide) ?_
  intro T1 L1 v1 X1 hQ1
  obtain ⟨rfl, Nq1, e1⟩ := hQ1
  have N1 := Fr.app N0 Nq1
  show Own.Go p e below _ (T1.setTop (mkF m 5 #[.val (.ref o), .val (.int it), .val (.int nd), .val (.int bf), .unset] []))
  refine Own.iloadN X1 hx (pc := 5) (hb hby d12_5) rfl ?_
  refine Own.iconst X1 hx (pc := 6) (-1 : Int32) (hb hby d12_6) (by decide) ?_
  refine Own.icmpYes X1 hx (pc := 7) 19 (hb hby d12_7) (XT.ii_ne_t hbf) (by decide) (by decide) ?_
  refine Own.aloadN X1 hx (pc := 19) (hb hby d12_19) rfl rfl ?_
  refine Own.getfield X1 hx hZ (pc := 20) hown (host := "") (Or.inl (Wd hw 71 rfl)) Via.refl e1 F_o_previousSibling (hb hby d12_20) ?_
  intro T2 X2 e2
  refine Own.iloadN X2 hx (pc := 23) (hb hby d12_23) rfl ?_
  refine Own.iaload X2 hx hZ (pc := 24) e2 V_pv (v := (.int (-1 : Int32))) bf.toNatClampNeg hn_bf rfl h1 (hb hby d12_24) ?_
  refine Own.istore X2 hx (pc := 25) #[.val (.ref o), .val (.int it), .val (.int nd), .val (.int bf), .val (.int (-1 : Int32))] (hb hby d12_25) rfl ?_
  refine Own.aloadN X2 hx (pc := 27) (hb hby d12_27) rfl rfl ?_
  refine Own.getfield X2 hx hZ (pc := 28) hown (host := "") (Or.inl (Wd hw 64 rfl)) Via.refl e2 F_o_parent (hb hby d12_28) ?_
  intro T3 X3 e3
  refine Own.iloadN X3 hx (pc := 31) (hb hby d12_31) rfl ?_
  refine Own.iloadN X3 hx (pc := 32) (hb hby d12_32) rfl ?_
  refine Own.iastore X3 hx hZ (pc := 33) e3 V_pa nd.toNatClampNeg hn_nd rfl (by simpa [hl_pa] using hb_nd) N1 ge_pa (hb hby d12_33) ?_
  intro T4 h4 X4 e4 W4 N4 V_pa
  have sz4 : n0 ≤ h4.size := Nat.le_trans Z0 (Nat.le_of_eq (Wr.size W4).symm)
  have E_o := Exa.wr W4 E_o
  have F_o_parent := Fld.other W4 F_o_parent (Or.inl ne_o_pa)
  have F_o_firstChild := Fld.other W4 F_o_firstChild (Or.inl ne_o_pa)
  have F_o_lastChild := Fld.other W4 F_o_lastChild (Or.inl ne_o_pa)
  have F_o_previousSibling := Fld.other W4 F_o_previousSibling (Or.inl ne_o_pa)
  have F_o_nextSibling := Fld.other W4 F_o_nextSibling (Or.inl ne_o_pa)
  have V_fc := V_fc.other W4 (Ne.symm ne_pa_fc)
  have V_la := V_la.other W4 (Ne.symm ne_pa_la)
  have V_pv := V_pv.other W4 (Ne.symm ne_pa_pv)
  have V_nx := V_nx.other W4 (Ne.symm ne_pa_nx)
  have K := K.wr W4 (Or.inl (by simp))
  refine Own.aloadN X4 hx (pc := 34) (hb hby d12_34) rfl rfl ?_
  refine Own.getfield X4 hx hZ (pc := 35) hown (host := "") (Or.inl (Wd hw 71 rfl)) Via.refl e4 F_o_previousSibling (hb hby d12_35) ?_
  intro T5 X5 e5
  refine Own.iloadN X5 hx (pc := 38) (hb hby d12_38) rfl ?_
  refine Own.iload X5 hx (pc := 39) (hb hby d12_39) rfl ?_
  refine Own.iastore X5 hx hZ (pc := 41) e5 V_pv nd.toNatClampNeg hn_nd rfl (by simpa [hl_pv] using hb_nd) N4 ge_pv (hb hby d12_41) ?_
  intro T6 h6 X6 e6 W6 N6 V_pv
  have sz6 : n0 ≤ h6.size := Nat.le_trans sz4 (Nat.le_of_eq (Wr.size W6).symm)
  have E_o := Exa.wr W6 E_o
  have F_o_parent := Fld.other W6 F_o_parent (Or.inl ne_o_pv)
  have F_o_firstChild := Fld.other W6 F_o_firstChild (Or.inl ne_o_pv)
  have F_o_lastChild := Fld.other W6 F_o_lastChild (Or.inl ne_o_pv)
  have F_o_previousSibling := Fld.other W6 F_o_previousSibling (Or.inl ne_o_pv)
  have F_o_nextSibling := Fld.other W6 F_o_nextSibling (Or.inl ne_o_pv)
  have V_pa := V_pa.other W6 ne_pa_pv
  have V_fc := V_fc.other W6 ne_fc_pv
  have V_la := V_la.other W6 ne_la_pv
  have V_nx := V_nx.other W6 (Ne.symm ne_pv_nx)
  have K := K.wr W6 (Or.inl (by simp))
  refine Own.aloadN X6 hx (pc := 42) (hb hby d12_42) rfl rfl ?_
  refine Own.getfield X6 hx hZ (pc := 43) hown (host := "") (Or.inl (Wd hw 73 rfl)) Via.refl e6 F_o_nextSibling (hb hby d12_43) ?_
  intro T7 X7 e7
  refine Own.iloadN X7 hx (pc := 46) (hb hby d12_46) rfl ?_
  refine Own.iloadN X7 hx (pc := 47) (hb hby d12_47) rfl ?_
  refine Own.iastore X7 hx hZ (pc := 48) e7 V_nx nd.toNatClampNeg hn_nd rfl (by simpa [hl_nx] using hb_nd) N6 ge_nx (hb hby d12_48) ?_
  intro T8 h8 X8 e8 W8 N8 V_nx
  have sz8 : n0 ≤ h8.size := Nat.le_trans sz6 (Nat.le_of_eq (Wr.size W8).symm)
  have E_o := Exa.wr W8 E_o
  have F_o_parent := Fld.other W8 F_o_parent (Or.inl ne_o_nx)
  have F_o_firstChild := Fld.other W8 F_o_firstChild (Or.inl ne_o_nx)
  have F_o_lastChild := Fld.other W8 F_o_lastChild (Or.inl ne_o_nx)
  have F_o_previousSibling := Fld.other W8 F_o_previousSibling (Or.inl ne_o_nx)
  have F_o_nextSibling := Fld.other W8 F_o_nextSibling (Or.inl ne_o_nx)
  have V_pa := V_pa.other W8 ne_pa_nx
  have V_fc := V_fc.other W8 ne_fc_nx
  have V_la := V_la.other W8 ne_la_nx
  have V_pv := V_pv.other W8 ne_pv_nx
  have K := K.wr W8 (Or.inl (by simp))
  refine Own.iload X8 hx (pc := 49) (hb hby d12_49) rfl ?_
  refine Own.iconst X8 hx (pc := 51) (-1 : Int32) (hb hby d12_51) (by decide) ?_
  refine Own.icmpNo X8 hx (pc := 52) (hb hby d12_52) (by decide) ?_
  refine Own.aloadN X8 hx (pc := 55) (hb hby d12_55) rfl rfl ?_
  refine Own.getfield X8 hx hZ (pc := 56) hown (host := "") (Or.inl (Wd hw 67 rfl)) Via.refl e8 F_o_firstChild (hb hby d12_56) ?_
  intro T9 X9 e9
  refine Own.iloadN X9 hx (pc := 59) (hb hby d12_59) rfl ?_
  refine Own.iloadN X9 hx (pc := 60) (hb hby d12_60) rfl ?_
  refine Own.iastore X9 hx hZ (pc := 61) e9 V_fc it.toNatClampNeg hn_it rfl (by simpa [hl_fc] using hb_it) N8 ge_fc (hb hby d12_61) ?_
  intro T10 h10 X10 e10 W10 N10 V_fc
  have sz10 : n0 ≤ h10.size := Nat.le_trans sz8 (Nat.le_of_eq (Wr.size W10).symm)
  have E_o := Exa.wr W10 E_o
  have F_o_parent := Fld.other W10 F_o_parent (Or.inl ne_o_fc)
  have F_o_firstChild := Fld.other W10 F_o_firstChild (Or.inl ne_o_fc)
  have F_o_lastChild := Fld.other W10 F_o_lastChild (Or.inl ne_o_fc)
  have F_o_previousSibling := Fld.other W10 F_o_previousSibling (Or.inl ne_o_fc)
  have F_o_nextSibling := Fld.other W10 F_o_nextSibling (Or.inl ne_o_fc)
  have V_pa := V_pa.other W10 ne_pa_fc
  have V_la := V_la.other W10 (Ne.symm ne_fc_la)
  have V_pv := V_pv.other W10 (Ne.symm ne_fc_pv)
  have V_nx := V_nx.other W10 (Ne.symm ne_fc_nx)
  have K := K.wr W10 (Or.inl (by simp))
  refine Own.goto X10 hx (pc := 62) 73 (hb hby d12_62) (by decide) (by decide) ?_
  refine Own.iloadN X10 hx (pc := 73) (hb hby d12_73) rfl ?_
  refine Own.iconst X10 hx (pc := 74) (-1 : Int32) (hb hby d12_74) (by decide) ?_
  refine Own.icmpYes X10 hx (pc := 75) 88 (hb hby d12_75) (XT.ii_ne_t hbf) (by decide) (by decide) ?_
  refine Own.aloadN X10 hx (pc := 88) (hb hby d12_88) rfl rfl ?_
  refine Own.getfield X10 hx hZ (pc := 89) hown (host := "") (Or.inl (Wd hw 71 rfl)) Via.refl e10 F_o_previousSibling (hb hby d12_89) ?_
  intro T11 X11 e11
  refine Own.iloadN X11 hx (pc := 92) (hb hby d12_92) rfl ?_
  refine Own.iloadN X11 hx (pc := 93) (hb hby d12_93) rfl ?_
  refine Own.iastore X11 hx hZ (pc := 94) e11 V_pv bf.toNatClampNeg hn_bf rfl (by simpa [hl_pv] using hb_bf) N10 ge_pv (hb hby d12_94) ?_
  intro T12 h12 X12 e12 W12 N12 V_pv
  have sz12 : n0 ≤ h12.size := Nat.le_trans sz10 (Nat.le_of_eq (Wr.size W12).symm)
  have E_o := Exa.wr W12 E_o
  have F_o_parent := Fld.other W12 F_o_parent (Or.inl ne_o_pv)
  have F_o_firstChild := Fld.other W12 F_o_firstChild (Or.inl ne_o_pv)
  have F_o_lastChild := Fld.other W12 F_o_lastChild (Or.inl ne_o_pv)
  have F_o_previousSibling := Fld.other W12 F_o_previousSibling (Or.inl ne_o_pv)
  have F_o_nextSibling := Fld.other W12 F_o_nextSibling (Or.inl ne_o_pv)
  have V_pa := V_pa.other W12 ne_pa_pv
  have V_fc := V_fc.other W12 ne_fc_pv
  have V_la := V_la.other W12 ne_la_pv
  have V_nx := V_nx.other W12 (Ne.symm ne_pv_nx)
  have K := K.wr W12 (Or.inl (by simp))
  exact Own.vreturn X12 hx hk hret (hb hby d12_95) e12 ⟨rfl, N12, K, V_pa, V_fc, V_la, V_pv, V_nx⟩ (by decide) (by decide)
theorem ef_rmI11 (m : MethodId) (o : Addr) (it : Int32) (nd : Int32) (bf : Int32) : entryFrame m #[(.ref o), (.int it), (.int nd), (.int bf)] 5 = mkF m 0 #[.val (.ref o), .val (.int it), .val (.int nd), .val (.int bf), .unset] [] := by first | (simp [entryFrame, mkF, argsToLocals, Value.category]; done) | rfl
set_option maxRecDepth 65536 in
set_option maxHeartbeats 40000000 in
theorem rmI11 (l : Launch) (Z : State) (a0 : Array Value) (hw : ∀ d ∈ tables_1, d.before a0 Z = true) (o : Addr) (it : Int32) (nd : Int32) (bf : Int32) (pa : Addr) (fc : Addr) (la : Addr) (pv : Addr) (nx : Addr) (vpa : List Value) (vfc : List Value) (vla : List Value) (vpv : List Value) (vnx : List Value) (pr : Int32) (h0 : Heap) (n0 : Nat) (Z0 : n0 ≤ h0.size) (E_o : Exa Z h0 o "com/example/sprigdex/sprigdex/index/html/HtmlTree") (F_o_parent : Fld Z h0 o "com/example/sprigdex/sprigdex/index/html/HtmlTree" "parent" "[I" (.ref pa)) (F_o_firstChild : Fld Z h0 o "com/example/sprigdex/sprigdex/index/html/HtmlTree" "firstChild" "[I" (.ref fc)) (F_o_lastChild : Fld Z h0 o "com/example/sprigdex/sprigdex/index/html/HtmlTree" "lastChild" "[I" (.ref la)) (F_o_previousSibling : Fld Z h0 o "com/example/sprigdex/sprigdex/index/html/HtmlTree" "previousSibling" "[I" (.ref pv)) (F_o_nextSibling : Fld Z h0 o "com/example/sprigdex/sprigdex/index/html/HtmlTree" "nextSibling" "[I" (.ref nx)) (V_pa : Own.VArr Z h0 pa .int vpa) (V_fc : Own.VArr Z h0 fc .int vfc) (V_la : Own.VArr Z h0 la .int vla) (V_pv : Own.VArr Z h0 pv .int vpv) (V_nx : Own.VArr Z h0 nx .int vnx) (ge_pa : n0 ≤ pa) (ge_fc : n0 ≤ fc) (ge_la : n0 ≤ la) (ge_pv : n0 ≤ pv) (ge_nx : n0 ≤ nx) (ne_o_pa : o ≠ pa) (ne_o_fc : o ≠ fc) (ne_o_la : o ≠ la) (ne_o_pv : o ≠ pv) (ne_o_nx : o ≠ nx) (ne_pa_fc : pa ≠ fc) (ne_pa_la : pa ≠ la) (ne_pa_pv : pa ≠ pv) (ne_pa_nx : pa ≠ nx) (ne_fc_la : fc ≠ la) (ne_fc_pv : fc ≠ pv) (ne_fc_nx : fc ≠ nx) (ne_la_pv : la ≠ pv) (ne_la_nx : la ≠ nx) (ne_pv_nx : pv ≠ nx) (hl_pa : vpa.length = 64) (hl_fc : vfc.length = 64) (hl_la : vla.length = 64) (hl_pv : vpv.length = 64) (hl_nx : vnx.length = 64) (hn_it : ¬ it < 0) (hb_it : it.toNatClampNeg < 64) (hn_nd : ¬ nd < 0) (hb_nd : nd.toNatClampNeg < 64) (hn_bf : ¬ bf < 0) (hb_bf : bf.toNatClampNeg < 64) (hn_pr : ¬ pr < 0) (hb_pr : pr.toNatClampNeg < 64) (h0_ : (vpa : List Value)[nd.toNatClampNeg]? = some (.int (-1 : Int32))) (h1 : (vpv : List Value)[bf.toNatClampNeg]? = some (.int pr)) (hbf : ¬ bf = (-1 : Int32)) (hpr : ¬ pr = (-1 : Int32)) :
    Own.Ct l (⟨"com/example/sprigdex/sprigdex/index/html/HtmlTree", "insert", "(III)V"⟩ : MethodName) prog_122_method_5_code 5 none [] ({ frames := 1, cells := 0, slots := 0, locals := 16 } : Room) Z #[(.ref o), (.int it), (.int nd), (.int bf)] h0 (fun rV hP lC => rV = none ∧ Fr n0 lC ∧ Keep h0 hP [pa, fc, la, pv, nx] ∧ Own.VArr Z hP pa .int (vpa.set nd.toNatClampNeg (.int it)) ∧ Own.VArr Z hP fc .int vfc ∧ Own.VArr Z hP la .int vla ∧ Own.VArr Z hP pv .int ((vpv.set nd.toNatClampNeg (.int pr)).set bf.toNatClampNeg (.int nd)) ∧ Own.VArr Z hP nx .int ((vnx.set nd.toNatClampNeg (.int bf)).set pr.toNatClampNeg (.int nd))) := by
  refine Own.enter (plainFor_of_name pn6) ?_
  intro p e s m below meth cc s₁ hx hby hml hown hnm hret hk hZ X0 e0
  have N0 := Fr.nil n0
  refine Own.start (ef_rmI11 m o it nd bf) ?_
  have K : Keep h0 h0 [pa, fc, la, pv, nx] := Keep.refl _ _
  refine Own.aloadN X0 hx (pc := 0) (hb hby d12_0) rfl rfl ?_
  refine Own.iloadN X0 hx (pc := 1) (hb hby d12_1) rfl ?_
  refine Own.callVirtual X0 hx hZ (pc := 2) (y := (⟨"com/example/sprigdex/sprigdex/index/html/HtmlTree", "detach", "(I)V"⟩ : MethodName)) (z := (⟨"com/example/sprigdex/sprigdex/index/html/HtmlTree", "detach", "(I)V"⟩ : MethodName)) hown (Wd hw 98 rfl) (Wd hw 99 rfl) (Wd hw 101 rfl) (Wd hw 100 rfl) (Wd hw 2 rfl) (Wd hw 102 rfl) (Wd hw 101 rfl) (by decide) 0 o [(.int nd)] [] E_o (rmD0 l Z a0 hw o nd pa vpa h0 n0 Z0 F_o_parent V_pa hn_nd h0_) (by decide) (by decide) e0 (by rw [hml]; rfl) pd9 rfl rfl (Nat.le_of_eq rfl) (hb hby d12_2) (by decide) (by decide) ?_
  intro T1 L1 v1 X1 hQ1
  obtain ⟨rfl, Nq1, e1⟩ := hQ1
  have N1 := Fr.app N0 Nq1
  show Own.Go p e below _ (T1.setTop (mkF m 5 #[.val (.ref o), .val (.int it), .val (.int nd), .val (.int bf), .unset] []))
  refine Own.iloadN X1 hx (pc := 5) (hb hby d12_5) rfl ?_
  refine Own.iconst X1 hx (pc := 6) (-1 : Int32) (hb hby d12_6) (by decide) ?_
  refine Own.icmpYes X1 hx (pc := 7) 19 (hb hby d12_7) (XT.ii_ne_t hbf) (by decide) (by decide) ?_
  refine Own.aloadN X1 hx (pc := 19) (hb hby d12_19) rfl rfl ?_
  refine Own.getfield X1 hx hZ (pc := 20) hown (host := "") (Or.inl (Wd hw 71 rfl)) Via.refl e1 F_o_previousSibling (hb hby d12_20) ?_
  intro T2 X2 e2
  refine Own.iloadN X2 hx (pc := 23) (hb hby d12_23) rfl ?_
  refine Own.iaload X2 hx hZ (pc := 24) e2 V_pv (v := (.int pr)) bf.toNatClampNeg hn_bf rfl h1 (hb hby d12_24) ?_
  refine Own.istore X2 hx (pc := 25) #[.val (.ref o), .val (.int it), .val (.int nd), .val (.int bf), .val (.int pr)] (hb hby d12_25) rfl ?_
  refine Own.aloadN X2 hx (pc := 27) (hb hby d12_27) rfl rfl ?_
  refine Own.getfield X2 hx hZ (pc := 28) hown (host := "") (Or.inl (Wd hw 64 rfl)) Via.refl e2 F_o_parent (hb hby d12_28) ?_
  intro T3 X3 e3
  refine Own.iloadN X3 hx (pc := 31) (hb hby d12_31) rfl ?_
  refine Own.iloadN X3 hx (pc := 32) (hb hby d12_32) rfl ?_
  refine Own.iastore X3 hx hZ (pc := 33) e3 V_pa nd.toNatClampNeg hn_nd rfl (by simpa [hl_pa] using hb_nd) N1 ge_pa (hb hby d12_33) ?_
  intro T4 h4 X4 e4 W4 N4 V_pa
  have sz4 : n0 ≤ h4.size := Nat.le_trans Z0 (Nat.le_of_eq (Wr.size W4).symm)
  have E_o := Exa.wr W4 E_o
  have F_o_parent := Fld.other W4 F_o_parent (Or.inl ne_o_pa)
  have F_o_firstChild := Fld.other W4 F_o_firstChild (Or.inl ne_o_pa)
  have F_o_lastChild := Fld.other W4 F_o_lastChild (Or.inl ne_o_pa)
  have F_o_previousSibling := Fld.other W4 F_o_previousSibling (Or.inl ne_o_pa)
  have F_o_nextSibling := Fld.other W4 F_o_nextSibling (Or.inl ne_o_pa)
  have V_fc := V_fc.other W4 (Ne.symm ne_pa_fc)
  have V_la := V_la.other W4 (Ne.symm ne_pa_la)
  have V_pv := V_pv.other W4 (Ne.symm ne_pa_pv)
  have V_nx := V_nx.other W4 (Ne.symm ne_pa_nx)
  have K := K.wr W4 (Or.inl (by simp))
  refine Own.aloadN X4 hx (pc := 34) (hb hby d12_34) rfl rfl ?_
  refine Own.getfield X4 hx hZ (pc := 35) hown (host := "") (Or.inl (Wd hw 71 rfl)) Via.refl e4 F_o_previousSibling (hb hby d12_35) ?_
  intro T5 X5 e5
  refine Own.iloadN X5 hx (pc := 38) (hb hby d12_38) rfl ?_
  refine Own.iload X5 hx (pc := 39) (hb hby d12_39) rfl ?_
  refine Own.iastore X5 hx hZ (pc := 41) e5 V_pv nd.toNatClampNeg hn_nd rfl (by simpa [hl_pv] using hb_nd) N4 ge_pv (hb hby d12_41) ?_
  intro T6 h6 X6 e6 W6 N6 V_pv
  have sz6 : n0 ≤ h6.size := Nat.le_trans sz4 (Nat.le_of_eq (Wr.size W6).symm)
  have E_o := Exa.wr W6 E_o
  have F_o_parent := Fld.other W6 F_o_parent (Or.inl ne_o_pv)
  have F_o_firstChild := Fld.other W6 F_o_firstChild (Or.inl ne_o_pv)
  have F_o_lastChild := Fld.other W6 F_o_lastChild (Or.inl ne_o_pv)
  have F_o_previousSibling := Fld.other W6 F_o_previousSibling (Or.inl ne_o_pv)
  have F_o_nextSibling := Fld.other W6 F_o_nextSibling (Or.inl ne_o_pv)
  have V_pa := V_pa.other W6 ne_pa_pv
  have V_fc := V_fc.other W6 ne_fc_pv
  have V_la := V_la.other W6 ne_la_pv
  have V_nx := V_nx.other W6 (Ne.symm ne_pv_nx)
  have K := K.wr W6 (Or.inl (by simp))
  refine Own.aloadN X6 hx (pc := 42) (hb hby d12_42) rfl rfl ?_
  refine Own.getfield X6 hx hZ (pc := 43) hown (host := "") (Or.inl (Wd hw 73 rfl)) Via.refl e6 F_o_nextSibling (hb hby d12_43) ?_
  intro T7 X7 e7
  refine Own.iloadN X7 hx (pc := 46) (hb hby d12_46) rfl ?_
  refine Own.iloadN X7 hx (pc := 47) (hb hby d12_47) rfl ?_
  refine Own.iastore X7 hx hZ (pc := 48) e7 V_nx nd.toNatClampNeg hn_nd rfl (by simpa [hl_nx] using hb_nd) N6 ge_nx (hb hby d12_48) ?_
  intro T8 h8 X8 e8 W8 N8 V_nx
  have sz8 : n0 ≤ h8.size := Nat.le_trans sz6 (Nat.le_of_eq (Wr.size W8).symm)
  have E_o := Exa.wr W8 E_o
  have F_o_parent := Fld.other W8 F_o_parent (Or.inl ne_o_nx)
  have F_o_firstChild := Fld.other W8 F_o_firstChild (Or.inl ne_o_nx)
  have F_o_lastChild := Fld.other W8 F_o_lastChild (Or.inl ne_o_nx)
  have F_o_previousSibling := Fld.other W8 F_o_previousSibling (Or.inl ne_o_nx)
  have F_o_nextSibling := Fld.other W8 F_o_nextSibling (Or.inl ne_o_nx)
  have V_pa := V_pa.other W8 ne_pa_nx
  have V_fc := V_fc.other W8 ne_fc_nx
  have V_la := V_la.other W8 ne_la_nx
  have V_pv := V_pv.other W8 ne_pv_nx
  have K := K.wr W8 (Or.inl (by simp))
  refine Own.iload X8 hx (pc := 49) (hb hby d12_49) rfl ?_
  refine Own.iconst X8 hx (pc := 51) (-1 : Int32) (hb hby d12_51) (by decide) ?_
  refine Own.icmpYes X8 hx (pc := 52) 65 (hb hby d12_52) (XT.ii_ne_t hpr) (by decide) (by decide) ?_
  refine Own.aloadN X8 hx (pc := 65) (hb hby d12_65) rfl rfl ?_
  refine Own.getfield X8 hx hZ (pc := 66) hown (host := "") (Or.inl (Wd hw 73 rfl)) Via.refl e8 F_o_nextSibling (hb hby d12_66) ?_
  intro T9 X9 e9
  refine Own.iload X9 hx (pc := 69) (hb hby d12_69) rfl ?_
  refine Own.iloadN X9 hx (pc := 71) (hb hby d12_71) rfl ?_
  refine Own.iastore X9 hx hZ (pc := 72) e9 V_nx pr.toNatClampNeg hn_pr rfl (by simpa [hl_nx] using hb_pr) N8 ge_nx (hb hby d12_72) ?_
  intro T10 h10 X10 e10 W10 N10 V_nx
  have sz10 : n0 ≤ h10.size := Nat.le_trans sz8 (Nat.le_of_eq (Wr.size W10).symm)
  have E_o := Exa.wr W10 E_o
  have F_o_parent := Fld.other W10 F_o_parent (Or.inl ne_o_nx)
  have F_o_firstChild := Fld.other W10 F_o_firstChild (Or.inl ne_o_nx)
  have F_o_lastChild := Fld.other W10 F_o_lastChild (Or.inl ne_o_nx)
  have F_o_previousSibling := Fld.other W10 F_o_previousSibling (Or.inl ne_o_nx)
  have F_o_nextSibling := Fld.other W10 F_o_nextSibling (Or.inl ne_o_nx)
  have V_pa := V_pa.other W10 ne_pa_nx
  have V_fc := V_fc.other W10 ne_fc_nx
  have V_la := V_la.other W10 ne_la_nx
  have V_pv := V_pv.other W10 ne_pv_nx
  have K := K.wr W10 (Or.inl (by simp))
  refine Own.iloadN X10 hx (pc := 73) (hb hby d12_73) rfl ?_
  refine Own.iconst X10 hx (pc := 74) (-1 : Int32) (hb hby d12_74) (by decide) ?_
  refine Own.icmpYes X10 hx (pc := 75) 88 (hb hby d12_75) (XT.ii_ne_t hbf) (by decide) (by decide) ?_
  refine Own.aloadN X10 hx (pc := 88) (hb hby d12_88) rfl rfl ?_
  refine Own.getfield X10 hx hZ (pc := 89) hown (host := "") (Or.inl (Wd hw 71 rfl)) Via.refl e10 F_o_previousSibling (hb hby d12_89) ?_
  intro T11 X11 e11
  refine Own.iloadN X11 hx (pc := 92) (hb hby d12_92) rfl ?_
  refine Own.iloadN X11 hx (pc := 93) (hb hby d12_93) rfl ?_
  refine Own.iastore X11 hx hZ (pc := 94) e11 V_pv bf.toNatClampNeg hn_bf rfl (by simpa [hl_pv] using hb_bf) N10 ge_pv (hb hby d12_94) ?_
  intro T12 h12 X12 e12 W12 N12 V_pv
  have sz12 : n0 ≤ h12.size := Nat.le_trans sz10 (Nat.le_of_eq (Wr.size W12).symm)
  have E_o := Exa.wr W12 E_o
  have F_o_parent := Fld.other W12 F_o_parent (Or.inl ne_o_pv)
  have F_o_firstChild := Fld.other W12 F_o_firstChild (Or.inl ne_o_pv)
  have F_o_lastChild := Fld.other W12 F_o_lastChild (Or.inl ne_o_pv)
  have F_o_previousSibling := Fld.other W12 F_o_previousSibling (Or.inl ne_o_pv)
  have F_o_nextSibling := Fld.other W12 F_o_nextSibling (Or.inl ne_o_pv)
  have V_pa := V_pa.other W12 ne_pa_pv
  have V_fc := V_fc.other W12 ne_fc_pv
  have V_la := V_la.other W12 ne_la_pv
  have V_nx := V_nx.other W12 (Ne.symm ne_pv_nx)
  have K := K.wr W12 (Or.inl (by simp))
  exact Own.vreturn X12 hx hk hret (hb hby d12_95) e12 ⟨rfl, N12, K, V_pa, V_fc, V_la, V_pv, V_nx⟩ (by decide) (by decide)
theorem d18_0 : decode method_3_code 0 = .ok (.iload 4, 2) := by decide +kernel
theorem d18_2 : decode method_3_code 2 = .ok (.iload_n 3, 1) := by decide +kernel
theorem d18_3 : decode method_3_code 3 = .ok (.if_icmp .ge 14, 3) := by decide +kernel
theorem d18_6 : decode method_3_code 6 = .ok (.iload 4, 2) := by decide +kernel
theorem d18_8 : decode method_3_code 8 = .ok (.ifCond .ne 7, 3) := by decide +kernel
theorem d18_11 : decode method_3_code 11 = .ok (.iload_n 0, 1) := by decide +kernel
theorem d18_12 : decode method_3_code 12 = .ok (.goto 4, 3) := by decide +kernel
theorem d18_16 : decode method_3_code 16 = .ok (.ireturn, 1) := by decide +kernel
theorem d18_15 : decode method_3_code 15 = .ok (.iload_n 1, 1) := by decide +kernel
theorem d18_17 : decode method_3_code 17 = .ok (.iload 4, 2) := by decide +kernel
theorem d18_19 : decode method_3_code 19 = .ok (.iload_n 3, 1) := by decide +kernel
theorem d18_20 : decode method_3_code 20 = .ok (.if_icmp .ne 5, 3) := by decide +kernel
theorem d18_23 : decode method_3_code 23 = .ok (.iload_n 2, 1) := by decide +kernel
theorem d18_24 : decode method_3_code 24 = .ok (.ireturn, 1) := by decide +kernel
theorem d18_25 : decode method_3_code 25 = .ok (.iload 4, 2) := by decide +kernel
theorem d18_27 : decode method_3_code 27 = .ok (.iconst 1, 1) := by decide +kernel
theorem d18_28 : decode method_3_code 28 = .ok (.isub, 1) := by decide +kernel
theorem d18_29 : decode method_3_code 29 = .ok (.ifCond .ne 7, 3) := by decide +kernel
theorem d18_32 : decode method_3_code 32 = .ok (.iload_n 0, 1) := by decide +kernel
theorem d18_33 : decode method_3_code 33 = .ok (.goto 4, 3) := by decide +kernel
theorem d18_37 : decode method_3_code 37 = .ok (.ireturn, 1) := by decide +kernel
theorem d18_36 : decode method_3_code 36 = .ok (.iload_n 1, 1) := by decide +kernel
theorem ef_rm18 (m : MethodId) (r0 : Int32) (r1 : Int32) (t : Int32) (j : Int32) (i : Int32) : entryFrame m #[(.int r0), (.int r1), (.int t), (.int j), (.int i)] 5 = mkF m 0 #[.val (.int r0), .val (.int r1), .val (.int t), .val (.int j), .val (.int i)] [] := by first | (simp [entryFrame, mkF, argsToLocals, Value.category]; done) | rfl
theorem pn10 : plainName "com/example/sprigdex/sprigdex/index/html/HtmlTreeDetachPinLaw" = true := by first | (simp [plainName, overriddenIn]; done) | decide +kernel
set_option maxRecDepth 65536 in
set_option maxHeartbeats 40000000 in
theorem rm18 (l : Launch) (Z : State) (a0 : Array Value) (hw : ∀ d ∈ tables_1, d.before a0 Z = true) (r0 : Int32) (r1 : Int32) (t : Int32) (j : Int32) (i : Int32) (h0 : Heap) (n0 : Nat) (Z0 : n0 ≤ h0.size) :
    Own.Ct l (⟨"com/example/sprigdex/sprigdex/index/html/HtmlTreeDetachPinLaw", "at", "(IIIII)I"⟩ : MethodName) method_3_code 5 (some .int) [] ({ frames := 0, cells := 0, slots := 0, locals := 0 } : Room) Z #[(.int r0), (.int r1), (.int t), (.int j), (.int i)] h0 (fun rV hP lC => rV = some (.int (if i < j then (if i = 0 then r0 else r1) else if i = j then t else if i - (1 : Int32) = 0 then r0 else r1)) ∧ Fr n0 lC ∧ hP = h0) := by
  refine Own.enter (plainFor_of_name pn10) ?_
  intro p e s m below meth cc s₁ hx hby hml hown hnm hret hk hZ X0 e0
  have N0 := Fr.nil n0
  refine Own.start (ef_rm18 m r0 r1 t j i) ?_
  refine Own.iload X0 hx (pc := 0) (hb hby d18_0) rfl ?_
  refine Own.iloadN X0 hx (pc := 2) (hb hby d18_2) rfl ?_
  by_cases c1 : i < j
  · refine Own.icmpNo X0 hx (pc := 3) (hb hby d18_3) (XT.ii_ge_f c1) ?_
    refine Own.iload X0 hx (pc := 6) (hb hby d18_6) rfl ?_
    by_cases c2 : i = (0 : Int32)
    · refine Own.ifNo X0 hx (pc := 8) (hb hby d18_8) (XT.i0_ne_f c2) ?_
      refine Own.iloadN X0 hx (pc := 11) (hb hby d18_11) rfl ?_
      refine Own.goto X0 hx (pc := 12) 16 (hb hby d18_12) (by decide) (by decide) ?_
      exact Own.ireturn X0 hx hk hret (by simp) rfl (hb hby d18_16) e0 ⟨by first | rw [if_pos c1, if_pos c2] | rw [if_pos c1, if_neg c2] | rw [if_neg c1, if_pos c2], N0, rfl⟩ (by decide) (by decide)
    · refine Own.ifYes X0 hx (pc := 8) 15 (hb hby d18_8) (XT.i0_ne_t c2) (by decide) (by decide) ?_
      refine Own.iloadN X0 hx (pc := 15) (hb hby d18_15) rfl ?_
      exact Own.ireturn X0 hx hk hret (by simp) rfl (hb hby d18_16) e0 ⟨by first | rw [if_pos c1, if_pos c2] | rw [if_pos c1, if_neg c2] | rw [if_neg c1, if_pos c2], N0, rfl⟩ (by decide) (by decide)
  · refine Own.icmpYes X0 hx (pc := 3) 17 (hb hby d18_3) (XT.ii_ge_t c1) (by decide) (by decide) ?_
    refine Own.iload X0 hx (pc := 17) (hb hby d18_17) rfl ?_
    refine Own.iloadN X0 hx (pc := 19) (hb hby d18_19) rfl ?_
    by_cases c3 : i = j
    · refine Own.icmpNo X0 hx (pc := 20) (hb hby d18_20) (XT.ii_ne_f c3) ?_
      refine Own.iloadN X0 hx (pc := 23) (hb hby d18_23) rfl ?_
      exact Own.ireturn X0 hx hk hret (by simp) rfl (hb hby d18_24) e0 ⟨by first | rw [if_pos c1, if_pos c3] | rw [if_pos c1, if_neg c3] | rw [if_neg c1, if_pos c3], N0, rfl⟩ (by decide) (by decide)
    · refine Own.icmpYes X0 hx (pc := 20) 25 (hb hby d18_20) (XT.ii_ne_t c3) (by decide) (by decide) ?_
      refine Own.iload X0 hx (pc := 25) (hb hby d18_25) rfl ?_
      refine Own.iconst X0 hx (pc := 27) (1 : Int32) (hb hby d18_27) (by decide) ?_
      refine Own.isub X0 hx (pc := 28) (hb hby d18_28) ?_
      by_cases c4 : (i - (1 : Int32)) = (0 : Int32)
      · refine Own.ifNo X0 hx (pc := 29) (hb hby d18_29) (XT.i0_ne_f c4) ?_
        refine Own.iloadN X0 hx (pc := 32) (hb hby d18_32) rfl ?_
        refine Own.goto X0 hx (pc := 33) 37 (hb hby d18_33) (by decide) (by decide) ?_
        exact Own.ireturn X0 hx hk hret (by simp) rfl (hb hby d18_37) e0 ⟨by first | rw [if_neg c1, if_neg c3, if_pos c4] | rw [if_neg c1, if_neg c3, if_neg c4], N0, rfl⟩ (by decide) (by decide)
      · refine Own.ifYes X0 hx (pc := 29) 36 (hb hby d18_29) (XT.i0_ne_t c4) (by decide) (by decide) ?_
        refine Own.iloadN X0 hx (pc := 36) (hb hby d18_36) rfl ?_
        exact Own.ireturn X0 hx hk hret (by simp) rfl (hb hby d18_37) e0 ⟨by first | rw [if_neg c1, if_neg c3, if_pos c4] | rw [if_neg c1, if_neg c3, if_neg c4], N0, rfl⟩ (by decide) (by decide)
theorem d15_0 : decode method_4_code 0 = .ok (.aload_n 0, 1) := by decide +kernel
theorem d15_1 : decode method_4_code 1 = .ok (.iconst 0, 1) := by decide +kernel
theorem d15_2 : decode method_4_code 2 = .ok (.invokevirtual 36, 3) := by decide +kernel
theorem d15_5 : decode method_4_code 5 = .ok (.iload_n 1, 1) := by decide +kernel
theorem d15_6 : decode method_4_code 6 = .ok (.if_icmp .eq 5, 3) := by decide +kernel
theorem d15_11 : decode method_4_code 11 = .ok (.aload_n 0, 1) := by decide +kernel
theorem d15_12 : decode method_4_code 12 = .ok (.iload_n 1, 1) := by decide +kernel
theorem d15_13 : decode method_4_code 13 = .ok (.invokevirtual 24, 3) := by decide +kernel
theorem d15_16 : decode method_4_code 16 = .ok (.ifCond .eq 5, 3) := by decide +kernel
theorem d15_21 : decode method_4_code 21 = .ok (.iload 4, 2) := by decide +kernel
theorem d15_23 : decode method_4_code 23 = .ok (.iconst 1, 1) := by decide +kernel
theorem d15_24 : decode method_4_code 24 = .ok (.if_icmp .le 7, 3) := by decide +kernel
theorem d15_31 : decode method_4_code 31 = .ok (.iconst (-1), 1) := by decide +kernel
theorem d15_32 : decode method_4_code 32 = .ok (.istore 5, 2) := by decide +kernel
theorem d15_34 : decode method_4_code 34 = .ok (.aload_n 0, 1) := by decide +kernel
theorem d15_35 : decode method_4_code 35 = .ok (.iload_n 1, 1) := by decide +kernel
theorem d15_36 : decode method_4_code 36 = .ok (.invokevirtual 33, 3) := by decide +kernel
theorem d15_39 : decode method_4_code 39 = .ok (.iload 5, 2) := by decide +kernel
theorem d15_41 : decode method_4_code 41 = .ok (.if_icmp .eq 5, 3) := by decide +kernel
theorem d15_46 : decode method_4_code 46 = .ok (.iload 4, 2) := by decide +kernel
theorem d15_48 : decode method_4_code 48 = .ok (.iconst 2, 1) := by decide +kernel
theorem d15_49 : decode method_4_code 49 = .ok (.if_icmp .ge 5, 3) := by decide +kernel
theorem d15_52 : decode method_4_code 52 = .ok (.iconst 1, 1) := by decide +kernel
theorem d15_53 : decode method_4_code 53 = .ok (.ireturn, 1) := by decide +kernel
theorem ef_rmC1 (m : MethodId) (o : Addr) (f0 : Int32) (f1 : Int32) (f2 : Int32) : entryFrame m #[(.ref o), (.int f0), (.int f1), (.int f2), (.int (1 : Int32))] 7 = mkF m 0 #[.val (.ref o), .val (.int f0), .val (.int f1), .val (.int f2), .val (.int (1 : Int32)), .unset, .unset] [] := by first | (simp [entryFrame, mkF, argsToLocals, Value.category]; done) | rfl
set_option maxRecDepth 65536 in
set_option maxHeartbeats 40000000 in
theorem rmC1 (l : Launch) (Z : State) (a0 : Array Value) (hw : ∀ d ∈ tables_1, d.before a0 Z = true) (o : Addr) (f0 : Int32) (f1 : Int32) (f2 : Int32) (pa : Addr) (fc : Addr) (nx : Addr) (vpa : List Value) (vfc : List Value) (vnx : List Value) (h0 : Heap) (n0 : Nat) (Z0 : n0 ≤ h0.size) (E_o : Exa Z h0 o "com/example/sprigdex/sprigdex/index/html/HtmlTree") (F_o_parent : Fld Z h0 o "com/example/sprigdex/sprigdex/index/html/HtmlTree" "parent" "[I" (.ref pa)) (F_o_firstChild : Fld Z h0 o "com/example/sprigdex/sprigdex/index/html/HtmlTree" "firstChild" "[I" (.ref fc)) (F_o_nextSibling : Fld Z h0 o "com/example/sprigdex/sprigdex/index/html/HtmlTree" "nextSibling" "[I" (.ref nx)) (V_pa : Own.VArr Z h0 pa .int vpa) (V_fc : Own.VArr Z h0 fc .int vfc) (V_nx : Own.VArr Z h0 nx .int vnx) (hz0 : vfc[(0 : Int32).toNatClampNeg]? = some (.int f0)) (hn0 : ¬ f0 < 0) (hp0 : vpa[f0.toNatClampNeg]? = some (.int (0 : Int32))) (hx0 : vnx[f0.toNatClampNeg]? = some (.int (-1 : Int32))) :
    Own.Ct l (⟨"com/example/sprigdex/sprigdex/index/html/HtmlTreeDetachPinLaw", "chain", "(Lcom/example/sprigdex/sprigdex/index/html/HtmlTree;IIII)Z"⟩ : MethodName) method_4_code 7 (some .boolean) [] ({ frames := 1, cells := 0, slots := 0, locals := 13 } : Room) Z #[(.ref o), (.int f0), (.int f1), (.int f2), (.int (1 : Int32))] h0 (fun rV hP lC => rV = some (.int (1 : Int32)) ∧ Fr n0 lC ∧ hP = h0) := by
  refine Own.enter (plainFor_of_name pn10) ?_
  intro p e s m below meth cc s₁ hx hby hml hown hnm hret hk hZ X0 e0
  have N0 := Fr.nil n0
  refine Own.start (ef_rmC1 m o f0 f1 f2) ?_
  refine Own.aloadN X0 hx (pc := 0) (hb hby d15_0) rfl rfl ?_
  refine Own.iconst X0 hx (pc := 1) (0 : Int32) (hb hby d15_1) (by decide) ?_
  refine Own.callVirtual X0 hx hZ (pc := 2) (y := (⟨"com/example/sprigdex/sprigdex/index/html/HtmlTree", "firstChild", "(I)I"⟩ : MethodName)) (z := (⟨"com/example/sprigdex/sprigdex/index/html/HtmlTree", "firstChild", "(I)I"⟩ : MethodName)) hown (Wd hw 113 rfl) (Wd hw 114 rfl) (Wd hw 116 rfl) (Wd hw 115 rfl) (Wd hw 2 rfl) (Wd hw 117 rfl) (Wd hw 116 rfl) (by decide) 0 o [(.int (0 : Int32))] [] E_o (rm16 l Z a0 hw o (0 : Int32) fc vfc f0 h0 n0 Z0 F_o_firstChild V_fc (by decide) hz0) (by decide) (by decide) e0 (by rw [hml]; rfl) pd7 rfl rfl (Nat.le_of_eq rfl) (hb hby d15_2) (by decide) (by decide) ?_
  intro T1 L1 v1 X1 hQ1
  obtain ⟨rfl, Nq1, e1⟩ := hQ1
  have N1 := Fr.app N0 Nq1
  show Own.Go p e below _ (T1.setTop (mkF m 5 #[.val (.ref o), .val (.int f0), .val (.int f1), .val (.int f2), .val (.int (1 : Int32)), .unset, .unset] [(.int f0)]))
  refine Own.iloadN X1 hx (pc := 5) (hb hby d15_5) rfl ?_
  refine Own.icmpYes X1 hx (pc := 6) 11 (hb hby d15_6) (XT.ii_eq_t (rfl : f0 = f0)) (by decide) (by decide) ?_
  refine Own.aloadN X1 hx (pc := 11) (hb hby d15_11) rfl rfl ?_
  refine Own.iloadN X1 hx (pc := 12) (hb hby d15_12) rfl ?_
  refine Own.callVirtual X1 hx hZ (pc := 13) (y := (⟨"com/example/sprigdex/sprigdex/index/html/HtmlTree", "parent", "(I)I"⟩ : MethodName)) (z := (⟨"com/example/sprigdex/sprigdex/index/html/HtmlTree", "parent", "(I)I"⟩ : MethodName)) hown (Wd hw 104 rfl) (Wd hw 105 rfl) (Wd hw 107 rfl) (Wd hw 106 rfl) (Wd hw 2 rfl) (Wd hw 108 rfl) (Wd hw 107 rfl) (by decide) 0 o [(.int f0)] [] E_o (rm14 l Z a0 hw o f0 pa vpa (0 : Int32) h0 n0 Z0 F_o_parent V_pa hn0 hp0) (by decide) (by decide) e1 (by rw [hml]; rfl) pd7 rfl rfl (Nat.le_of_eq rfl) (hb hby d15_13) (by decide) (by decide) ?_
  intro T2 L2 v2 X2 hQ2
  obtain ⟨rfl, Nq2, e2⟩ := hQ2
  have N2 := Fr.app N1 Nq2
  show Own.Go p e below _ (T2.setTop (mkF m 16 #[.val (.ref o), .val (.int f0), .val (.int f1), .val (.int f2), .val (.int (1 : Int32)), .unset, .unset] [(.int (0 : Int32))]))
  refine Own.ifYes X2 hx (pc := 16) 21 (hb hby d15_16) (by decide) (by decide) (by decide) ?_
  refine Own.iload X2 hx (pc := 21) (hb hby d15_21) rfl ?_
  refine Own.iconst X2 hx (pc := 23) (1 : Int32) (hb hby d15_23) (by decide) ?_
  refine Own.icmpYes X2 hx (pc := 24) 31 (hb hby d15_24) (by decide) (by decide) (by decide) ?_
  refine Own.iconst X2 hx (pc := 31) (-1 : Int32) (hb hby d15_31) (by decide) ?_
  refine Own.istore X2 hx (pc := 32) #[.val (.ref o), .val (.int f0), .val (.int f1), .val (.int f2), .val (.int (1 : Int32)), .val (.int (-1 : Int32)), .unset] (hb hby d15_32) rfl ?_
  refine Own.aloadN X2 hx (pc := 34) (hb hby d15_34) rfl rfl ?_
  refine Own.iloadN X2 hx (pc := 35) (hb hby d15_35) rfl ?_
  refine Own.callVirtual X2 hx hZ (pc := 36) (y := (⟨"com/example/sprigdex/sprigdex/index/html/HtmlTree", "nextSibling", "(I)I"⟩ : MethodName)) (z := (⟨"com/example/sprigdex/sprigdex/index/html/HtmlTree", "nextSibling", "(I)I"⟩ : MethodName)) hown (Wd hw 118 rfl) (Wd hw 119 rfl) (Wd hw 121 rfl) (Wd hw 120 rfl) (Wd hw 2 rfl) (Wd hw 122 rfl) (Wd hw 121 rfl) (by decide) 0 o [(.int f0)] [] E_o (rm17 l Z a0 hw o f0 nx vnx (-1 : Int32) h0 n0 Z0 F_o_nextSibling V_nx hn0 hx0) (by decide) (by decide) e2 (by rw [hml]; rfl) pd7 rfl rfl (Nat.le_of_eq rfl) (hb hby d15_36) (by decide) (by decide) ?_
  intro T3 L3 v3 X3 hQ3
  obtain ⟨rfl, Nq3, e3⟩ := hQ3
  have N3 := Fr.app N2 Nq3
  show Own.Go p e below _ (T3.setTop (mkF m 39 #[.val (.ref o), .val (.int f0), .val (.int f1), .val (.int f2), .val (.int (1 : Int32)), .val (.int (-1 : Int32)), .unset] [(.int (-1 : Int32))]))
  refine Own.iload X3 hx (pc := 39) (hb hby d15_39) rfl ?_
  refine Own.icmpYes X3 hx (pc := 41) 46 (hb hby d15_41) (by decide) (by decide) (by decide) ?_
  refine Own.iload X3 hx (pc := 46) (hb hby d15_46) rfl ?_
  refine Own.iconst X3 hx (pc := 48) (2 : Int32) (hb hby d15_48) (by decide) ?_
  refine Own.icmpNo X3 hx (pc := 49) (hb hby d15_49) (by decide) ?_
  refine Own.iconst X3 hx (pc := 52) (1 : Int32) (hb hby d15_52) (by decide) ?_
  exact Own.ireturn X3 hx hk hret (by simp) rfl (hb hby d15_53) e3 ⟨rfl, N3, rfl⟩ (by decide) (by decide)
theorem d15_27 : decode method_4_code 27 = .ok (.iload_n 2, 1) := by decide +kernel
theorem d15_28 : decode method_4_code 28 = .ok (.goto 4, 3) := by decide +kernel
theorem d15_54 : decode method_4_code 54 = .ok (.aload_n 0, 1) := by decide +kernel
theorem d15_55 : decode method_4_code 55 = .ok (.iload_n 2, 1) := by decide +kernel
theorem d15_56 : decode method_4_code 56 = .ok (.invokevirtual 24, 3) := by decide +kernel
theorem d15_59 : decode method_4_code 59 = .ok (.ifCond .eq 5, 3) := by decide +kernel
theorem d15_64 : decode method_4_code 64 = .ok (.iload 4, 2) := by decide +kernel
theorem d15_66 : decode method_4_code 66 = .ok (.iconst 2, 1) := by decide +kernel
theorem d15_67 : decode method_4_code 67 = .ok (.if_icmp .le 7, 3) := by decide +kernel
theorem d15_74 : decode method_4_code 74 = .ok (.iconst (-1), 1) := by decide +kernel
theorem d15_75 : decode method_4_code 75 = .ok (.istore 6, 2) := by decide +kernel
theorem d15_77 : decode method_4_code 77 = .ok (.aload_n 0, 1) := by decide +kernel
theorem d15_78 : decode method_4_code 78 = .ok (.iload_n 2, 1) := by decide +kernel
theorem d15_79 : decode method_4_code 79 = .ok (.invokevirtual 33, 3) := by decide +kernel
theorem d15_82 : decode method_4_code 82 = .ok (.iload 6, 2) := by decide +kernel
theorem d15_84 : decode method_4_code 84 = .ok (.if_icmp .eq 5, 3) := by decide +kernel
theorem d15_89 : decode method_4_code 89 = .ok (.iload 4, 2) := by decide +kernel
theorem d15_91 : decode method_4_code 91 = .ok (.iconst 3, 1) := by decide +kernel
theorem d15_92 : decode method_4_code 92 = .ok (.if_icmp .ge 5, 3) := by decide +kernel
theorem d15_95 : decode method_4_code 95 = .ok (.iconst 1, 1) := by decide +kernel
theorem d15_96 : decode method_4_code 96 = .ok (.ireturn, 1) := by decide +kernel
theorem ef_rmC2 (m : MethodId) (o : Addr) (f0 : Int32) (f1 : Int32) (f2 : Int32) : entryFrame m #[(.ref o), (.int f0), (.int f1), (.int f2), (.int (2 : Int32))] 7 = mkF m 0 #[.val (.ref o), .val (.int f0), .val (.int f1), .val (.int f2), .val (.int (2 : Int32)), .unset, .unset] [] := by first | (simp [entryFrame, mkF, argsToLocals, Value.category]; done) | rfl
set_option maxRecDepth 65536 in
set_option maxHeartbeats 40000000 in
theorem rmC2 (l : Launch) (Z : State) (a0 : Array Value) (hw : ∀ d ∈ tables_1, d.before a0 Z = true) (o : Addr) (f0 : Int32) (f1 : Int32) (f2 : Int32) (pa : Addr) (fc : Addr) (nx : Addr) (vpa : List Value) (vfc : List Value) (vnx : List Value) (h0 : Heap) (n0 : Nat) (Z0 : n0 ≤ h0.size) (E_o : Exa Z h0 o "com/example/sprigdex/sprigdex/index/html/HtmlTree") (F_o_parent : Fld Z h0 o "com/example/sprigdex/sprigdex/index/html/HtmlTree" "parent" "[I" (.ref pa)) (F_o_firstChild : Fld Z h0 o "com/example/sprigdex/sprigdex/index/html/HtmlTree" "firstChild" "[I" (.ref fc)) (F_o_nextSibling : Fld Z h0 o "com/example/sprigdex/sprigdex/index/html/HtmlTree" "nextSibling" "[I" (.ref nx)) (V_pa : Own.VArr Z h0 pa .int vpa) (V_fc : Own.VArr Z h0 fc .int vfc) (V_nx : Own.VArr Z h0 nx .int vnx) (hz0 : vfc[(0 : Int32).toNatClampNeg]? = some (.int f0)) (hn0 : ¬ f0 < 0) (hp0 : vpa[f0.toNatClampNeg]? = some (.int (0 : Int32))) (hx0 : vnx[f0.toNatClampNeg]? = some (.int f1)) (hn1 : ¬ f1 < 0) (hp1 : vpa[f1.toNatClampNeg]? = some (.int (0 : Int32))) (hx1 : vnx[f1.toNatClampNeg]? = some (.int (-1 : Int32))) :
    Own.Ct l (⟨"com/example/sprigdex/sprigdex/index/html/HtmlTreeDetachPinLaw", "chain", "(Lcom/example/sprigdex/sprigdex/index/html/HtmlTree;IIII)Z"⟩ : MethodName) method_4_code 7 (some .boolean) [] ({ frames := 1, cells := 0, slots := 0, locals := 13 } : Room) Z #[(.ref o), (.int f0), (.int f1), (.int f2), (.int (2 : Int32))] h0 (fun rV hP lC => rV = some (.int (1 : Int32)) ∧ Fr n0 lC ∧ hP = h0) := by
  refine Own.enter (plainFor_of_name pn10) ?_
  intro p e s m below meth cc s₁ hx hby hml hown hnm hret hk hZ X0 e0
  have N0 := Fr.nil n0
  refine Own.start (ef_rmC2 m o f0 f1 f2) ?_
  refine Own.aloadN X0 hx (pc := 0) (hb hby d15_0) rfl rfl ?_
  refine Own.iconst X0 hx (pc := 1) (0 : Int32) (hb hby d15_1) (by decide) ?_
  refine Own.callVirtual X0 hx hZ (pc := 2) (y := (⟨"com/example/sprigdex/sprigdex/index/html/HtmlTree", "firstChild", "(I)I"⟩ : MethodName)) (z := (⟨"com/example/sprigdex/sprigdex/index/html/HtmlTree", "firstChild", "(I)I"⟩ : MethodName)) hown (Wd hw 113 rfl) (Wd hw 114 rfl) (Wd hw 116 rfl) (Wd hw 115 rfl) (Wd hw 2 rfl) (Wd hw 117 rfl) (Wd hw 116 rfl) (by decide) 0 o [(.int (0 : Int32))] [] E_o (rm16 l Z a0 hw o (0 : Int32) fc vfc f0 h0 n0 Z0 F_o_firstChild V_fc (by decide) hz0) (by decide) (by decide) e0 (by rw [hml]; rfl) pd7 rfl rfl (Nat.le_of_eq rfl) (hb hby d15_2) (by decide) (by decide) ?_
  intro T1 L1 v1 X1 hQ1
  obtain ⟨rfl, Nq1, e1⟩ := hQ1
  have N1 := Fr.app N0 Nq1
  show Own.Go p e below _ (T1.setTop (mkF m 5 #[.val (.ref o), .val (.int f0), .val (.int f1), .val (.int f2), .val (.int (2 : Int32)), .unset, .unset] [(.int f0)]))
  refine Own.iloadN X1 hx (pc := 5) (hb hby d15_5) rfl ?_
  refine Own.icmpYes X1 hx (pc := 6) 11 (hb hby d15_6) (XT.ii_eq_t (rfl : f0 = f0)) (by decide) (by decide) ?_
  refine Own.aloadN X1 hx (pc := 11) (hb hby d15_11) rfl rfl ?_
  refine Own.iloadN X1 hx (pc := 12) (hb hby d15_12) rfl ?_
  refine Own.callVirtual X1 hx hZ (pc := 13) (y := (⟨"com/example/sprigdex/sprigdex/index/html/HtmlTree", "parent", "(I)I"⟩ : MethodName)) (z := (⟨"com/example/sprigdex/sprigdex/index/html/HtmlTree", "parent", "(I)I"⟩ : MethodName)) hown (Wd hw 104 rfl) (Wd hw 105 rfl) (Wd hw 107 rfl) (Wd hw 106 rfl) (Wd hw 2 rfl) (Wd hw 108 rfl) (Wd hw 107 rfl) (by decide) 0 o [(.int f0)] [] E_o (rm14 l Z a0 hw o f0 pa vpa (0 : Int32) h0 n0 Z0 F_o_parent V_pa hn0 hp0) (by decide) (by decide) e1 (by rw [hml]; rfl) pd7 rfl rfl (Nat.le_of_eq rfl) (hb hby d15_13) (by decide) (by decide) ?_
  intro T2 L2 v2 X2 hQ2
  obtain ⟨rfl, Nq2, e2⟩ := hQ2
  have N2 := Fr.app N1 Nq2
  show Own.Go p e below _ (T2.setTop (mkF m 16 #[.val (.ref o), .val (.int f0), .val (.int f1), .val (.int f2), .val (.int (2 : Int32)), .unset, .unset] [(.int (0 : Int32))]))
  refine Own.ifYes X2 hx (pc := 16) 21 (hb hby d15_16) (by decide) (by decide) (by decide) ?_
  refine Own.iload X2 hx (pc := 21) (hb hby d15_21) rfl ?_
  refine Own.iconst X2 hx (pc := 23) (1 : Int32) (hb hby d15_23) (by decide) ?_
  refine Own.icmpNo X2 hx (pc := 24) (hb hby d15_24) (by decide) ?_
  refine Own.iloadN X2 hx (pc := 27) (hb hby d15_27) rfl ?_
  refine Own.goto X2 hx (pc := 28) 32 (hb hby d15_28) (by decide) (by decide) ?_
  refine Own.istore X2 hx (pc := 32) #[.val (.ref o), .val (.int f0), .val (.int f1), .val (.int f2), .val (.int (2 : Int32)), .val (.int f1), .unset] (hb hby d15_32) rfl ?_
  refine Own.aloadN X2 hx (pc := 34) (hb hby d15_34) rfl rfl ?_
  refine Own.iloadN X2 hx (pc := 35) (hb hby d15_35) rfl ?_
  refine Own.callVirtual X2 hx hZ (pc := 36) (y := (⟨"com/example/sprigdex/sprigdex/index/html/HtmlTree", "nextSibling", "(I)I"⟩ : MethodName)) (z := (⟨"com/example/sprigdex/sprigdex/index/html/HtmlTree", "nextSibling", "(I)I"⟩ : MethodName)) hown (Wd hw 118 rfl) (Wd hw 119 rfl) (Wd hw 121 rfl) (Wd hw 120 rfl) (Wd hw 2 rfl) (Wd hw 122 rfl) (Wd hw 121 rfl) (by decide) 0 o [(.int f0)] [] E_o (rm17 l Z a0 hw o f0 nx vnx f1 h0 n0 Z0 F_o_nextSibling V_nx hn0 hx0) (by decide) (by decide) e2 (by rw [hml]; rfl) pd7 rfl rfl (Nat.le_of_eq rfl) (hb hby d15_36) (by decide) (by decide) ?_
  intro T3 L3 v3 X3 hQ3
  obtain ⟨rfl, Nq3, e3⟩ := hQ3
  have N3 := Fr.app N2 Nq3
  show Own.Go p e below _ (T3.setTop (mkF m 39 #[.val (.ref o), .val (.int f0), .val (.int f1), .val (.int f2), .val (.int (2 : Int32)), .val (.int f1), .unset] [(.int f1)]))
  refine Own.iload X3 hx (pc := 39) (hb hby d15_39) rfl ?_
  refine Own.icmpYes X3 hx (pc := 41) 46 (hb hby d15_41) (XT.ii_eq_t (rfl : f1 = f1)) (by decide) (by decide) ?_
  refine Own.iload X3 hx (pc := 46) (hb hby d15_46) rfl ?_
  refine Own.iconst X3 hx (pc := 48) (2 : Int32) (hb hby d15_48) (by decide) ?_
  refine Own.icmpYes X3 hx (pc := 49) 54 (hb hby d15_49) (by decide) (by decide) (by decide) ?_
  refine Own.aloadN X3 hx (pc := 54) (hb hby d15_54) rfl rfl ?_
  refine Own.iloadN X3 hx (pc := 55) (hb hby d15_55) rfl ?_
  refine Own.callVirtual X3 hx hZ (pc := 56) (y := (⟨"com/example/sprigdex/sprigdex/index/html/HtmlTree", "parent", "(I)I"⟩ : MethodName)) (z := (⟨"com/example/sprigdex/sprigdex/index/html/HtmlTree", "parent", "(I)I"⟩ : MethodName)) hown (Wd hw 104 rfl) (Wd hw 105 rfl) (Wd hw 107 rfl) (Wd hw 106 rfl) (Wd hw 2 rfl) (Wd hw 108 rfl) (Wd hw 107 rfl) (by decide) 0 o [(.int f1)] [] E_o (rm14 l Z a0 hw o f1 pa vpa (0 : Int32) h0 n0 Z0 F_o_parent V_pa hn1 hp1) (by decide) (by decide) e3 (by rw [hml]; rfl) pd7 rfl rfl (Nat.le_of_eq rfl) (hb hby d15_56) (by decide) (by decide) ?_
  intro T4 L4 v4 X4 hQ4
  obtain ⟨rfl, Nq4, e4⟩ := hQ4
  have N4 := Fr.app N3 Nq4
  show Own.Go p e below _ (T4.setTop (mkF m 59 #[.val (.ref o), .val (.int f0), .val (.int f1), .val (.int f2), .val (.int (2 : Int32)), .val (.int f1), .unset] [(.int (0 : Int32))]))
  refine Own.ifYes X4 hx (pc := 59) 64 (hb hby d15_59) (by decide) (by decide) (by decide) ?_
  refine Own.iload X4 hx (pc := 64) (hb hby d15_64) rfl ?_
  refine Own.iconst X4 hx (pc := 66) (2 : Int32) (hb hby d15_66) (by decide) ?_
  refine Own.icmpYes X4 hx (pc := 67) 74 (hb hby d15_67) (by decide) (by decide) (by decide) ?_
  refine Own.iconst X4 hx (pc := 74) (-1 : Int32) (hb hby d15_74) (by decide) ?_
  refine Own.istore X4 hx (pc := 75) #[.val (.ref o), .val (.int f0), .val (.int f1), .val (.int f2), .val (.int (2 : Int32)), .val (.int f1), .val (.int (-1 : Int32))] (hb hby d15_75) rfl ?_
  refine Own.aloadN X4 hx (pc := 77) (hb hby d15_77) rfl rfl ?_
  refine Own.iloadN X4 hx (pc := 78) (hb hby d15_78) rfl ?_
  refine Own.callVirtual X4 hx hZ (pc := 79) (y := (⟨"com/example/sprigdex/sprigdex/index/html/HtmlTree", "nextSibling", "(I)I"⟩ : MethodName)) (z := (⟨"com/example/sprigdex/sprigdex/index/html/HtmlTree", "nextSibling", "(I)I"⟩ : MethodName)) hown (Wd hw 118 rfl) (Wd hw 119 rfl) (Wd hw 121 rfl) (Wd hw 120 rfl) (Wd hw 2 rfl) (Wd hw 122 rfl) (Wd hw 121 rfl) (by decide) 0 o [(.int f1)] [] E_o (rm17 l Z a0 hw o f1 nx vnx (-1 : Int32) h0 n0 Z0 F_o_nextSibling V_nx hn1 hx1) (by decide) (by decide) e4 (by rw [hml]; rfl) pd7 rfl rfl (Nat.le_of_eq rfl) (hb hby d15_79) (by decide) (by decide) ?_
  intro T5 L5 v5 X5 hQ5
  obtain ⟨rfl, Nq5, e5⟩ := hQ5
  have N5 := Fr.app N4 Nq5
  show Own.Go p e below _ (T5.setTop (mkF m 82 #[.val (.ref o), .val (.int f0), .val (.int f1), .val (.int f2), .val (.int (2 : Int32)), .val (.int f1), .val (.int (-1 : Int32))] [(.int (-1 : Int32))]))
  refine Own.iload X5 hx (pc := 82) (hb hby d15_82) rfl ?_
  refine Own.icmpYes X5 hx (pc := 84) 89 (hb hby d15_84) (by decide) (by decide) (by decide) ?_
  refine Own.iload X5 hx (pc := 89) (hb hby d15_89) rfl ?_
  refine Own.iconst X5 hx (pc := 91) (3 : Int32) (hb hby d15_91) (by decide) ?_
  refine Own.icmpNo X5 hx (pc := 92) (hb hby d15_92) (by decide) ?_
  refine Own.iconst X5 hx (pc := 95) (1 : Int32) (hb hby d15_95) (by decide) ?_
  exact Own.ireturn X5 hx hk hret (by simp) rfl (hb hby d15_96) e5 ⟨rfl, N5, rfl⟩ (by decide) (by decide)
theorem d15_70 : decode method_4_code 70 = .ok (.iload_n 3, 1) := by decide +kernel
theorem d15_71 : decode method_4_code 71 = .ok (.goto 4, 3) := by decide +kernel
theorem d15_97 : decode method_4_code 97 = .ok (.aload_n 0, 1) := by decide +kernel
theorem d15_98 : decode method_4_code 98 = .ok (.iload_n 3, 1) := by decide +kernel
theorem d15_99 : decode method_4_code 99 = .ok (.invokevirtual 24, 3) := by decide +kernel
theorem d15_102 : decode method_4_code 102 = .ok (.ifCond .ne 16, 3) := by decide +kernel
theorem d15_105 : decode method_4_code 105 = .ok (.aload_n 0, 1) := by decide +kernel
theorem d15_106 : decode method_4_code 106 = .ok (.iload_n 3, 1) := by decide +kernel
theorem d15_107 : decode method_4_code 107 = .ok (.invokevirtual 33, 3) := by decide +kernel
theorem d15_110 : decode method_4_code 110 = .ok (.iconst (-1), 1) := by decide +kernel
theorem d15_111 : decode method_4_code 111 = .ok (.if_icmp .ne 7, 3) := by decide +kernel
theorem d15_114 : decode method_4_code 114 = .ok (.iconst 1, 1) := by decide +kernel
theorem d15_115 : decode method_4_code 115 = .ok (.goto 4, 3) := by decide +kernel
theorem d15_119 : decode method_4_code 119 = .ok (.ireturn, 1) := by decide +kernel
theorem ef_rmC3 (m : MethodId) (o : Addr) (f0 : Int32) (f1 : Int32) (f2 : Int32) : entryFrame m #[(.ref o), (.int f0), (.int f1), (.int f2), (.int (3 : Int32))] 7 = mkF m 0 #[.val (.ref o), .val (.int f0), .val (.int f1), .val (.int f2), .val (.int (3 : Int32)), .unset, .unset] [] := by first | (simp [entryFrame, mkF, argsToLocals, Value.category]; done) | rfl
set_option maxRecDepth 65536 in
set_option maxHeartbeats 40000000 in
theorem rmC3 (l : Launch) (Z : State) (a0 : Array Value) (hw : ∀ d ∈ tables_1, d.before a0 Z = true) (o : Addr) (f0 : Int32) (f1 : Int32) (f2 : Int32) (pa : Addr) (fc : Addr) (nx : Addr) (vpa : List Value) (vfc : List Value) (vnx : List Value) (h0 : Heap) (n0 : Nat) (Z0 : n0 ≤ h0.size) (E_o : Exa Z h0 o "com/example/sprigdex/sprigdex/index/html/HtmlTree") (F_o_parent : Fld Z h0 o "com/example/sprigdex/sprigdex/index/html/HtmlTree" "parent" "[I" (.ref pa)) (F_o_firstChild : Fld Z h0 o "com/example/sprigdex/sprigdex/index/html/HtmlTree" "firstChild" "[I" (.ref fc)) (F_o_nextSibling : Fld Z h0 o "com/example/sprigdex/sprigdex/index/html/HtmlTree" "nextSibling" "[I" (.ref nx)) (V_pa : Own.VArr Z h0 pa .int vpa) (V_fc : Own.VArr Z h0 fc .int vfc) (V_nx : Own.VArr Z h0 nx .int vnx) (hz0 : vfc[(0 : Int32).toNatClampNeg]? = some (.int f0)) (hn0 : ¬ f0 < 0) (hp0 : vpa[f0.toNatClampNeg]? = some (.int (0 : Int32))) (hx0 : vnx[f0.toNatClampNeg]? = some (.int f1)) (hn1 : ¬ f1 < 0) (hp1 : vpa[f1.toNatClampNeg]? = some (.int (0 : Int32))) (hx1 : vnx[f1.toNatClampNeg]? = some (.int f2)) (hn2 : ¬ f2 < 0) (hp2 : vpa[f2.toNatClampNeg]? = some (.int (0 : Int32))) (hx2 : vnx[f2.toNatClampNeg]? = some (.int (-1 : Int32))) :
    Own.Ct l (⟨"com/example/sprigdex/sprigdex/index/html/HtmlTreeDetachPinLaw", "chain", "(Lcom/example/sprigdex/sprigdex/index/html/HtmlTree;IIII)Z"⟩ : MethodName) method_4_code 7 (some .boolean) [] ({ frames := 1, cells := 0, slots := 0, locals := 13 } : Room) Z #[(.ref o), (.int f0), (.int f1), (.int f2), (.int (3 : Int32))] h0 (fun rV hP lC => rV = some (.int (1 : Int32)) ∧ Fr n0 lC ∧ hP = h0) := by
  refine Own.enter (plainFor_of_name pn10) ?_
  intro p e s m below meth cc s₁ hx hby hml hown hnm hret hk hZ X0 e0
  have N0 := Fr.nil n0
  refine Own.start (ef_rmC3 m o f0 f1 f2) ?_
  refine Own.aloadN X0 hx (pc := 0) (hb hby d15_0) rfl rfl ?_
  refine Own.iconst X0 hx (pc := 1) (0 : Int32) (hb hby d15_1) (by decide) ?_
  refine Own.callVirtual X0 hx hZ (pc := 2) (y := (⟨"com/example/sprigdex/sprigdex/index/html/HtmlTree", "firstChild", "(I)I"⟩ : MethodName)) (z := (⟨"com/example/sprigdex/sprigdex/index/html/HtmlTree", "firstChild", "(I)I"⟩ : MethodName)) hown (Wd hw 113 rfl) (Wd hw 114 rfl) (Wd hw 116 rfl) (Wd hw 115 rfl) (Wd hw 2 rfl) (Wd hw 117 rfl) (Wd hw 116 rfl) (by decide) 0 o [(.int (0 : Int32))] [] E_o (rm16 l Z a0 hw o (0 : Int32) fc vfc f0 h0 n0 Z0 F_o_firstChild V_fc (by decide) hz0) (by decide) (by decide) e0 (by rw [hml]; rfl) pd7 rfl rfl (Nat.le_of_eq rfl) (hb hby d15_2) (by decide) (by decide) ?_
  intro T1 L1 v1 X1 hQ1
  obtain ⟨rfl, Nq1, e1⟩ := hQ1
  have N1 := Fr.app N0 Nq1
  show Own.Go p e below _ (T1.setTop (mkF m 5 #[.val (.ref o), .val (.int f0), .val (.int f1), .val (.int f2), .val (.int (3 : Int32)), .unset, .unset] [(.int f0)]))
  refine Own.iloadN X1 hx (pc := 5) (hb hby d15_5) rfl ?_
  refine Own.icmpYes X1 hx (pc := 6) 11 (hb hby d15_6) (XT.ii_eq_t (rfl : f0 = f0)) (by decide) (by decide) ?_
  refine Own.aloadN X1 hx (pc := 11) (hb hby d15_11) rfl rfl ?_
  refine Own.iloadN X1 hx (pc := 12) (hb hby d15_12) rfl ?_
  refine Own.callVirtual X1 hx hZ (pc := 13) (y := (⟨"com/example/sprigdex/sprigdex/index/html/HtmlTree", "parent", "(I)I"⟩ : MethodName)) (z := (⟨"com/example/sprigdex/sprigdex/index/html/HtmlTree", "parent", "(I)I"⟩ : MethodName)) hown (Wd hw 104 rfl) (Wd hw 105 rfl) (Wd hw 107 rfl) (Wd hw 106 rfl) (Wd hw 2 rfl) (Wd hw 108 rfl) (Wd hw 107 rfl) (by decide) 0 o [(.int f0)] [] E_o (rm14 l Z a0 hw o f0 pa vpa (0 : Int32) h0 n0 Z0 F_o_parent V_pa hn0 hp0) (by decide) (by decide) e1 (by rw [hml]; rfl) pd7 rfl rfl (Nat.le_of_eq rfl) (hb hby d15_13) (by decide) (by decide) ?_
  intro T2 L2 v2 X2 hQ2
  obtain ⟨rfl, Nq2, e2⟩ := hQ2
  have N2 := Fr.app N1 Nq2
  show Own.Go p e below _ (T2.setTop (mkF m 16 #[.val (.ref o), .val (.int f0), .val (.int f1), .val (.int f2), .val (.int (3 : Int32)), .unset, .unset] [(.int (0 : Int32))]))
  refine Own.ifYes X2 hx (pc := 16) 21 (hb hby d15_16) (by decide) (by decide) (by decide) ?_
  refine Own.iload X2 hx (pc := 21) (hb hby d15_21) rfl ?_
  refine Own.iconst X2 hx (pc := 23) (1 : Int32) (hb hby d15_23) (by decide) ?_
  refine Own.icmpNo X2 hx (pc := 24) (hb hby d15_24) (by decide) ?_
  refine Own.iloadN X2 hx (pc := 27) (hb hby d15_27) rfl ?_
  refine Own.goto X2 hx (pc := 28) 32 (hb hby d15_28) (by decide) (by decide) ?_
  refine Own.istore X2 hx (pc := 32) #[.val (.ref o), .val (.int f0), .val (.int f1), .val (.int f2), .val (.int (3 : Int32)), .val (.int f1), .unset] (hb hby d15_32) rfl ?_
  refine Own.aloadN X2 hx (pc := 34) (hb hby d15_34) rfl rfl ?_
  refine Own.iloadN X2 hx (pc := 35) (hb hby d15_35) rfl ?_
  refine Own.callVirtual X2 hx hZ (pc := 36) (y := (⟨"com/example/sprigdex/sprigdex/index/html/HtmlTree", "nextSibling", "(I)I"⟩ : MethodName)) (z := (⟨"com/example/sprigdex/sprigdex/index/html/HtmlTree", "nextSibling", "(I)I"⟩ : MethodName)) hown (Wd hw 118 rfl) (Wd hw 119 rfl) (Wd hw 121 rfl) (Wd hw 120 rfl) (Wd hw 2 rfl) (Wd hw 122 rfl) (Wd hw 121 rfl) (by decide) 0 o [(.int f0)] [] E_o (rm17 l Z a0 hw o f0 nx vnx f1 h0 n0 Z0 F_o_nextSibling V_nx hn0 hx0) (by decide) (by decide) e2 (by rw [hml]; rfl) pd7 rfl rfl (Nat.le_of_eq rfl) (hb hby d15_36) (by decide) (by decide) ?_
  intro T3 L3 v3 X3 hQ3
  obtain ⟨rfl, Nq3, e3⟩ := hQ3
  have N3 := Fr.app N2 Nq3
  show Own.Go p e below _ (T3.setTop (mkF m 39 #[.val (.ref o), .val (.int f0), .val (.int f1), .val (.int f2), .val (.int (3 : Int32)), .val (.int f1), .unset] [(.int f1)]))
  refine Own.iload X3 hx (pc := 39) (hb hby d15_39) rfl ?_
  refine Own.icmpYes X3 hx (pc := 41) 46 (hb hby d15_41) (XT.ii_eq_t (rfl : f1 = f1)) (by decide) (by decide) ?_
  refine Own.iload X3 hx (pc := 46) (hb hby d15_46) rfl ?_
  refine Own.iconst X3 hx (pc := 48) (2 : Int32) (hb hby d15_48) (by decide) ?_
  refine Own.icmpYes X3 hx (pc := 49) 54 (hb hby d15_49) (by decide) (by decide) (by decide) ?_
  refine Own.aloadN X3 hx (pc := 54) (hb hby d15_54) rfl rfl ?_
  refine Own.iloadN X3 hx (pc := 55) (hb hby d15_55) rfl ?_
  refine Own.callVirtual X3 hx hZ (pc := 56) (y := (⟨"com/example/sprigdex/sprigdex/index/html/HtmlTree", "parent", "(I)I"⟩ : MethodName)) (z := (⟨"com/example/sprigdex/sprigdex/index/html/HtmlTree", "parent", "(I)I"⟩ : MethodName)) hown (Wd hw 104 rfl) (Wd hw 105 rfl) (Wd hw 107 rfl) (Wd hw 106 rfl) (Wd hw 2 rfl) (Wd hw 108 rfl) (Wd hw 107 rfl) (by decide) 0 o [(.int f1)] [] E_o (rm14 l Z a0 hw o f1 pa vpa (0 : Int32) h0 n0 Z0 F_o_parent V_pa hn1 hp1) (by decide) (by decide) e3 (by rw [hml]; rfl) pd7 rfl rfl (Nat.le_of_eq rfl) (hb hby d15_56) (by decide) (by decide) ?_
  intro T4 L4 v4 X4 hQ4
  obtain ⟨rfl, Nq4, e4⟩ := hQ4
  have N4 := Fr.app N3 Nq4
  show Own.Go p e below _ (T4.setTop (mkF m 59 #[.val (.ref o), .val (.int f0), .val (.int f1), .val (.int f2), .val (.int (3 : Int32)), .val (.int f1), .unset] [(.int (0 : Int32))]))
  refine Own.ifYes X4 hx (pc := 59) 64 (hb hby d15_59) (by decide) (by decide) (by decide) ?_
  refine Own.iload X4 hx (pc := 64) (hb hby d15_64) rfl ?_
  refine Own.iconst X4 hx (pc := 66) (2 : Int32) (hb hby d15_66) (by decide) ?_
  refine Own.icmpNo X4 hx (pc := 67) (hb hby d15_67) (by decide) ?_
  refine Own.iloadN X4 hx (pc := 70) (hb hby d15_70) rfl ?_
  refine Own.goto X4 hx (pc := 71) 75 (hb hby d15_71) (by decide) (by decide) ?_
  refine Own.istore X4 hx (pc := 75) #[.val (.ref o), .val (.int f0), .val (.int f1), .val (.int f2), .val (.int (3 : Int32)), .val (.int f1), .val (.int f2)] (hb hby d15_75) rfl ?_
  refine Own.aloadN X4 hx (pc := 77) (hb hby d15_77) rfl rfl ?_
  refine Own.iloadN X4 hx (pc := 78) (hb hby d15_78) rfl ?_
  refine Own.callVirtual X4 hx hZ (pc := 79) (y := (⟨"com/example/sprigdex/sprigdex/index/html/HtmlTree", "nextSibling", "(I)I"⟩ : MethodName)) (z := (⟨"com/example/sprigdex/sprigdex/index/html/HtmlTree", "nextSibling", "(I)I"⟩ : MethodName)) hown (Wd hw 118 rfl) (Wd hw 119 rfl) (Wd hw 121 rfl) (Wd hw 120 rfl) (Wd hw 2 rfl) (Wd hw 122 rfl) (Wd hw 121 rfl) (by decide) 0 o [(.int f1)] [] E_o (rm17 l Z a0 hw o f1 nx vnx f2 h0 n0 Z0 F_o_nextSibling V_nx hn1 hx1) (by decide) (by decide) e4 (by rw [hml]; rfl) pd7 rfl rfl (Nat.le_of_eq rfl) (hb hby d15_79) (by decide) (by decide) ?_
  intro T5 L5 v5 X5 hQ5
  obtain ⟨rfl, Nq5, e5⟩ := hQ5
  have N5 := Fr.app N4 Nq5
  show Own.Go p e below _ (T5.setTop (mkF m 82 #[.val (.ref o), .val (.int f0), .val (.int f1), .val (.int f2), .val (.int (3 : Int32)), .val (.int f1), .val (.int f2)] [(.int f2)]))
  refine Own.iload X5 hx (pc := 82) (hb hby d15_82) rfl ?_
  refine Own.icmpYes X5 hx (pc := 84) 89 (hb hby d15_84) (XT.ii_eq_t (rfl : f2 = f2)) (by decide) (by decide) ?_
  refine Own.iload X5 hx (pc := 89) (hb hby d15_89) rfl ?_
  refine Own.iconst X5 hx (pc := 91) (3 : Int32) (hb hby d15_91) (by decide) ?_
  refine Own.icmpYes X5 hx (pc := 92) 97 (hb hby d15_92) (by decide) (by decide) (by decide) ?_
  refine Own.aloadN X5 hx (pc := 97) (hb hby d15_97) rfl rfl ?_
  refine Own.iloadN X5 hx (pc := 98) (hb hby d15_98) rfl ?_
  refine Own.callVirtual X5 hx hZ (pc := 99) (y := (⟨"com/example/sprigdex/sprigdex/index/html/HtmlTree", "parent", "(I)I"⟩ : MethodName)) (z := (⟨"com/example/sprigdex/sprigdex/index/html/HtmlTree", "parent", "(I)I"⟩ : MethodName)) hown (Wd hw 104 rfl) (Wd hw 105 rfl) (Wd hw 107 rfl) (Wd hw 106 rfl) (Wd hw 2 rfl) (Wd hw 108 rfl) (Wd hw 107 rfl) (by decide) 0 o [(.int f2)] [] E_o (rm14 l Z a0 hw o f2 pa vpa (0 : Int32) h0 n0 Z0 F_o_parent V_pa hn2 hp2) (by decide) (by decide) e5 (by rw [hml]; rfl) pd7 rfl rfl (Nat.le_of_eq rfl) (hb hby d15_99) (by decide) (by decide) ?_
  intro T6 L6 v6 X6 hQ6
  obtain ⟨rfl, Nq6, e6⟩ := hQ6
  have N6 := Fr.app N5 Nq6
  show Own.Go p e below _ (T6.setTop (mkF m 102 #[.val (.ref o), .val (.int f0), .val (.int f1), .val (.int f2), .val (.int (3 : Int32)), .val (.int f1), .val (.int f2)] [(.int (0 : Int32))]))
  refine Own.ifNo X6 hx (pc := 102) (hb hby d15_102) (by decide) ?_
  refine Own.aloadN X6 hx (pc := 105) (hb hby d15_105) rfl rfl ?_
  refine Own.iloadN X6 hx (pc := 106) (hb hby d15_106) rfl ?_
  refine Own.callVirtual X6 hx hZ (pc := 107) (y := (⟨"com/example/sprigdex/sprigdex/index/html/HtmlTree", "nextSibling", "(I)I"⟩ : MethodName)) (z := (⟨"com/example/sprigdex/sprigdex/index/html/HtmlTree", "nextSibling", "(I)I"⟩ : MethodName)) hown (Wd hw 118 rfl) (Wd hw 119 rfl) (Wd hw 121 rfl) (Wd hw 120 rfl) (Wd hw 2 rfl) (Wd hw 122 rfl) (Wd hw 121 rfl) (by decide) 0 o [(.int f2)] [] E_o (rm17 l Z a0 hw o f2 nx vnx (-1 : Int32) h0 n0 Z0 F_o_nextSibling V_nx hn2 hx2) (by decide) (by decide) e6 (by rw [hml]; rfl) pd7 rfl rfl (Nat.le_of_eq rfl) (hb hby d15_107) (by decide) (by decide) ?_
  intro T7 L7 v7 X7 hQ7
  obtain ⟨rfl, Nq7, e7⟩ := hQ7
  have N7 := Fr.app N6 Nq7
  show Own.Go p e below _ (T7.setTop (mkF m 110 #[.val (.ref o), .val (.int f0), .val (.int f1), .val (.int f2), .val (.int (3 : Int32)), .val (.int f1), .val (.int f2)] [(.int (-1 : Int32))]))
  refine Own.iconst X7 hx (pc := 110) (-1 : Int32) (hb hby d15_110) (by decide) ?_
  refine Own.icmpNo X7 hx (pc := 111) (hb hby d15_111) (by decide) ?_
  refine Own.iconst X7 hx (pc := 114) (1 : Int32) (hb hby d15_114) (by decide) ?_
  refine Own.goto X7 hx (pc := 115) 119 (hb hby d15_115) (by decide) (by decide) ?_
  exact Own.ireturn X7 hx hk hret (by simp) rfl (hb hby d15_119) e7 ⟨rfl, N7, rfl⟩ (by decide) (by decide)
theorem pd11 : parseMethodDescriptor "(III)V" = some ⟨[.int, .int, .int], none⟩ := by decide +kernel
theorem pd12 : parseMethodDescriptor "(IIIII)I" = some ⟨[.int, .int, .int, .int, .int], some .int⟩ := by decide +kernel
theorem pd13 : parseMethodDescriptor "(Lcom/example/sprigdex/sprigdex/index/html/HtmlTree;IIII)Z" = some ⟨[(.object "com/example/sprigdex/sprigdex/index/html/HtmlTree"), .int, .int, .int, .int], some .boolean⟩ := by decide +kernel
theorem ef_law (m : MethodId) (sh : Int32) (pk : Int32) (pl : Int32) : entryFrame m #[(.int sh), (.int pk), (.int pl)] maxLocals = mkF m 0 #[.val (.int sh), .val (.int pk), .val (.int pl), .unset, .unset, .unset, .unset, .unset, .unset, .unset, .unset, .unset, .unset, .unset, .unset, .unset, .unset, .unset, .unset, .unset] [] := by first | (simp [entryFrame, mkF, argsToLocals, Value.category, maxLocals]; done) | rfl
set_option maxRecDepth 65536 in
set_option maxHeartbeats 400000000 in
theorem rm0 (l : Launch) (Z : State) (a0 : Array Value) (hw : ∀ d ∈ tables_1, d.before a0 Z = true) (sh : Int32) (pk : Int32) (pl : Int32) (sa : Addr) (h0 : Heap) (n0 : Nat) (Z0 : n0 ≤ h0.size) (S_dce : Sta Z h0 "java/util/ArrayList" "DEFAULTCAPACITY_EMPTY_ELEMENTDATA" "[Ljava/lang/Object;" (.ref sa)) :
    Own.Ct l x code maxLocals ret tables_1 room_1 Z #[(.int sh), (.int pk), (.int pl)] h0 (fun v _ L => v = some (.int 1) ∧ Fr n0 L) := by
  refine Own.enter (plainFor_of_name pn10) ?_
  intro p e s m below meth cc s₁ hx hby hml0 hown hnm hret hk hZ X0 e0
  have hml : cc.maxLocals = 20 := hml0
  have N0 := Fr.nil n0
  refine Own.start (ef_law m sh pk pl) ?_
  refine Own.newobj X0 hx hZ (pc := 0) hown (Wd hw 0 rfl) (Wd hw 1 rfl) (Wd hw 2 rfl) e0 (hb hby at_0) (by decide) (by decide) ?_
  intro T1 h1 b1 g1 X1 e1 Ex1 E_b1 D1
  have S_dce := Sta.ext Ex1 S_dce
  have ge_b1 : n0 ≤ b1 := g1 ▸ Z0
  have sz1 : n0 ≤ h1.size := Nat.le_trans Z0 Ex1.1
  have F_b1_names : Fld Z h1 b1 "com/example/sprigdex/sprigdex/index/html/HtmlTree" "names" "Ljava/util/List;" .null := D1 (Or.inr (Wd hw 34 rfl)) (ty := (.object "java/util/List")) (by decide)
  have F_b1_nameNumbers : Fld Z h1 b1 "com/example/sprigdex/sprigdex/index/html/HtmlTree" "nameNumbers" "Ljava/util/Map;" .null := D1 (Or.inr (Wd hw 52 rfl)) (ty := (.object "java/util/Map")) (by decide)
  have F_b1_text : Fld Z h1 b1 "com/example/sprigdex/sprigdex/index/html/HtmlTree" "text" "[C" .null := D1 (Or.inl (Wd hw 55 rfl)) (ty := (.array .char)) (by decide)
  have F_b1_parent : Fld Z h1 b1 "com/example/sprigdex/sprigdex/index/html/HtmlTree" "parent" "[I" .null := D1 (Or.inl (Wd hw 65 rfl)) (ty := (.array .int)) (by decide)
  have F_b1_firstChild : Fld Z h1 b1 "com/example/sprigdex/sprigdex/index/html/HtmlTree" "firstChild" "[I" .null := D1 (Or.inl (Wd hw 68 rfl)) (ty := (.array .int)) (by decide)
  have F_b1_lastChild : Fld Z h1 b1 "com/example/sprigdex/sprigdex/index/html/HtmlTree" "lastChild" "[I" .null := D1 (Or.inl (Wd hw 70 rfl)) (ty := (.array .int)) (by decide)
  have F_b1_previousSibling : Fld Z h1 b1 "com/example/sprigdex/sprigdex/index/html/HtmlTree" "previousSibling" "[I" .null := D1 (Or.inl (Wd hw 72 rfl)) (ty := (.array .int)) (by decide)
  have F_b1_nextSibling : Fld Z h1 b1 "com/example/sprigdex/sprigdex/index/html/HtmlTree" "nextSibling" "[I" .null := D1 (Or.inl (Wd hw 74 rfl)) (ty := (.array .int)) (by decide)
  have F_b1_name : Fld Z h1 b1 "com/example/sprigdex/sprigdex/index/html/HtmlTree" "name" "[I" .null := D1 (Or.inl (Wd hw 76 rfl)) (ty := (.array .int)) (by decide)
  have F_b1_start : Fld Z h1 b1 "com/example/sprigdex/sprigdex/index/html/HtmlTree" "start" "[I" .null := D1 (Or.inl (Wd hw 78 rfl)) (ty := (.array .int)) (by decide)
  have F_b1_length : Fld Z h1 b1 "com/example/sprigdex/sprigdex/index/html/HtmlTree" "length" "[I" .null := D1 (Or.inl (Wd hw 80 rfl)) (ty := (.array .int)) (by decide)
  have F_b1_nodes : Fld Z h1 b1 "com/example/sprigdex/sprigdex/index/html/HtmlTree" "nodes" "I" (.int (0 : Int32)) := D1 (Or.inl (Wd hw 86 rfl)) (ty := .int) (by decide)
  refine Own.dup X1 hx (pc := 3) (hb hby at_3) rfl ?_
  refine Own.iconst X1 hx (pc := 4) (0 : Int32) (hb hby at_4) (by decide) ?_
  refine Own.callSpecial X1 hx hZ (pc := 5) (y := (⟨"com/example/sprigdex/sprigdex/index/html/HtmlTree", "<init>", "(I)V"⟩ : MethodName)) rfl hown (Wd hw 3 rfl) (Wd hw 4 rfl) (Wd hw 2 rfl) (Wd hw 5 rfl) (by decide) 1 b1 [(.int (0 : Int32))] [(.ref b1)] (rm1 l Z a0 hw b1 sa h1 n0 sz1 E_b1 F_b1_names F_b1_nameNumbers F_b1_text F_b1_parent F_b1_firstChild F_b1_lastChild F_b1_previousSibling F_b1_nextSibling F_b1_name F_b1_start F_b1_length F_b1_nodes S_dce ge_b1) (by decide) (by decide) e1 (by rw [hml]; rfl) pd9 rfl rfl (Nat.le_of_eq rfl) (hb hby at_5) (by decide) (by decide) ?_
  intro T2 L2 v2 X2 hQ2
  obtain ⟨pa_2, fc_2, la_2, pv_2, nx_2, nm_2, sr_2, ln_2, rfl, Nq2, K2, ge_pa_2, ge_fc_2, ge_la_2, ge_pv_2, ge_nx_2, ge_nm_2, ge_sr_2, ge_ln_2, szopa_2, szofc_2, szola_2, szopv_2, szonx_2, szonm_2, szosr_2, szoln_2, ne_pa_2_fc_2, ne_pa_2_la_2, ne_pa_2_pv_2, ne_pa_2_nx_2, ne_pa_2_nm_2, ne_pa_2_sr_2, ne_pa_2_ln_2, ne_fc_2_la_2, ne_fc_2_pv_2, ne_fc_2_nx_2, ne_fc_2_nm_2, ne_fc_2_sr_2, ne_fc_2_ln_2, ne_la_2_pv_2, ne_la_2_nx_2, ne_la_2_nm_2, ne_la_2_sr_2, ne_la_2_ln_2, ne_pv_2_nx_2, ne_pv_2_nm_2, ne_pv_2_sr_2, ne_pv_2_ln_2, ne_nx_2_nm_2, ne_nx_2_sr_2, ne_nx_2_ln_2, ne_nm_2_sr_2, ne_nm_2_ln_2, ne_sr_2_ln_2, F_b1_parent', F_b1_firstChild', F_b1_lastChild', F_b1_previousSibling', F_b1_nextSibling', F_b1_name', F_b1_start', F_b1_length', F_b1_nodes', V_pa_2', V_fc_2', V_la_2', V_pv_2', V_nx_2', V_nm_2', V_sr_2', V_ln_2'⟩ := hQ2
  have e2 : T2.heap = T2.heap := rfl
  have ne_b1_pa_2 : b1 ≠ pa_2 := Nat.ne_of_lt (Nat.lt_of_lt_of_le E_b1.lt szopa_2)
  have ne_b1_fc_2 : b1 ≠ fc_2 := Nat.ne_of_lt (Nat.lt_of_lt_of_le E_b1.lt szofc_2)
  have ne_b1_la_2 : b1 ≠ la_2 := Nat.ne_of_lt (Nat.lt_of_lt_of_le E_b1.lt szola_2)
  have ne_b1_pv_2 : b1 ≠ pv_2 := Nat.ne_of_lt (Nat.lt_of_lt_of_le E_b1.lt szopv_2)
  have ne_b1_nx_2 : b1 ≠ nx_2 := Nat.ne_of_lt (Nat.lt_of_lt_of_le E_b1.lt szonx_2)
  have ne_b1_nm_2 : b1 ≠ nm_2 := Nat.ne_of_lt (Nat.lt_of_lt_of_le E_b1.lt szonm_2)
  have ne_b1_sr_2 : b1 ≠ sr_2 := Nat.ne_of_lt (Nat.lt_of_lt_of_le E_b1.lt szosr_2)
  have ne_b1_ln_2 : b1 ≠ ln_2 := Nat.ne_of_lt (Nat.lt_of_lt_of_le E_b1.lt szoln_2)
  have S_dce := Own.staKeep S_dce K2 E_b1
  have E_b1 := E_b1.keep K2
  have sz2 : n0 ≤ T2.heap.size := Nat.le_trans sz1 K2.1
  have F_b1_parent := F_b1_parent'
  have F_b1_firstChild := F_b1_firstChild'
  have F_b1_lastChild := F_b1_lastChild'
  have F_b1_previousSibling := F_b1_previousSibling'
  have F_b1_nextSibling := F_b1_nextSibling'
  have F_b1_name := F_b1_name'
  have F_b1_start := F_b1_start'
  have F_b1_length := F_b1_length'
  have F_b1_nodes := F_b1_nodes'
  have V_pa_2 : Own.VArr Z T2.heap pa_2 .int ((.int (-1 : Int32)) :: (.int (0 : Int32)) :: (.int (0 : Int32)) :: (.int (0 : Int32)) :: own_tl) := V_pa_2'
  have V_fc_2 : Own.VArr Z T2.heap fc_2 .int ((.int (-1 : Int32)) :: (.int (0 : Int32)) :: (.int (0 : Int32)) :: (.int (0 : Int32)) :: own_tl) := V_fc_2'
  have V_la_2 : Own.VArr Z T2.heap la_2 .int ((.int (-1 : Int32)) :: (.int (0 : Int32)) :: (.int (0 : Int32)) :: (.int (0 : Int32)) :: own_tl) := V_la_2'
  have V_pv_2 : Own.VArr Z T2.heap pv_2 .int ((.int (-1 : Int32)) :: (.int (0 : Int32)) :: (.int (0 : Int32)) :: (.int (0 : Int32)) :: own_tl) := V_pv_2'
  have V_nx_2 : Own.VArr Z T2.heap nx_2 .int ((.int (-1 : Int32)) :: (.int (0 : Int32)) :: (.int (0 : Int32)) :: (.int (0 : Int32)) :: own_tl) := V_nx_2'
  have V_nm_2 : Own.VArr Z T2.heap nm_2 .int ((.int (-2 : Int32)) :: (.int (0 : Int32)) :: (.int (0 : Int32)) :: (.int (0 : Int32)) :: own_tl) := V_nm_2'
  have V_sr_2 : Own.VArr Z T2.heap sr_2 .int ((.int (-1 : Int32)) :: (.int (0 : Int32)) :: (.int (0 : Int32)) :: (.int (0 : Int32)) :: own_tl) := V_sr_2'
  have V_ln_2 : Own.VArr Z T2.heap ln_2 .int ((.int (0 : Int32)) :: (.int (0 : Int32)) :: (.int (0 : Int32)) :: (.int (0 : Int32)) :: own_tl) := V_ln_2'
  have N2 := Fr.app N0 Nq2
  show Own.Go p e below _ (T2.setTop (mkF m 8 #[.val (.int sh), .val (.int pk), .val (.int pl), .unset, .unset, .unset, .unset, .unset, .unset, .unset, .unset, .unset, .unset, .unset, .unset, .unset, .unset, .unset, .unset, .unset] [(.ref b1)]))
  refine Own.astoreN X2 hx (pc := 8) #[.val (.int sh), .val (.int pk), .val (.int pl), .val (.ref b1), .unset, .unset, .unset, .unset, .unset, .unset, .unset, .unset, .unset, .unset, .unset, .unset, .unset, .unset, .unset, .unset] (hb hby at_8) rfl rfl ?_
  refine Own.aloadN X2 hx (pc := 9) (hb hby at_9) rfl rfl ?_
  refine Own.iconst X2 hx (pc := 10) (0 : Int32) (hb hby at_10) (by decide) ?_
  refine Own.callVirtual X2 hx hZ (pc := 11) (y := (⟨"com/example/sprigdex/sprigdex/index/html/HtmlTree", "copyText", "(I)I"⟩ : MethodName)) (z := (⟨"com/example/sprigdex/sprigdex/index/html/HtmlTree", "copyText", "(I)I"⟩ : MethodName)) hown (Wd hw 87 rfl) (Wd hw 88 rfl) (Wd hw 90 rfl) (Wd hw 89 rfl) (Wd hw 2 rfl) (Wd hw 91 rfl) (Wd hw 90 rfl) (by decide) 0 b1 [(.int (0 : Int32))] [] E_b1 (rm11 l Z a0 hw b1 (0 : Int32) pa_2 fc_2 la_2 pv_2 nx_2 nm_2 sr_2 ln_2 ((.int (-1 : Int32)) :: (.int (0 : Int32)) :: (.int (0 : Int32)) :: (.int (0 : Int32)) :: own_tl) ((.int (-1 : Int32)) :: (.int (0 : Int32)) :: (.int (0 : Int32)) :: (.int (0 : Int32)) :: own_tl) ((.int (-1 : Int32)) :: (.int (0 : Int32)) :: (.int (0 : Int32)) :: (.int (0 : Int32)) :: own_tl) ((.int (-1 : Int32)) :: (.int (0 : Int32)) :: (.int (0 : Int32)) :: (.int (0 : Int32)) :: own_tl) ((.int (-1 : Int32)) :: (.int (0 : Int32)) :: (.int (0 : Int32)) :: (.int (0 : Int32)) :: own_tl) ((.int (-2 : Int32)) :: (.int (0 : Int32)) :: (.int (0 : Int32)) :: (.int (0 : Int32)) :: own_tl) ((.int (-1 : Int32)) :: (.int (0 : Int32)) :: (.int (0 : Int32)) :: (.int (0 : Int32)) :: own_tl) ((.int (0 : Int32)) :: (.int (0 : Int32)) :: (.int (0 : Int32)) :: (.int (0 : Int32)) :: own_tl) (1 : Int32) (-1 : Int32) (0 : Int32) T2.heap n0 sz2 E_b1 F_b1_nodes F_b1_parent F_b1_firstChild F_b1_lastChild F_b1_previousSibling F_b1_nextSibling F_b1_name F_b1_start F_b1_length V_pa_2 V_fc_2 V_la_2 V_pv_2 V_nx_2 V_nm_2 V_sr_2 V_ln_2 ge_b1 ge_pa_2 ge_fc_2 ge_la_2 ge_pv_2 ge_nx_2 ge_nm_2 ge_sr_2 ge_ln_2 ne_b1_pa_2 ne_b1_fc_2 ne_b1_la_2 ne_b1_pv_2 ne_b1_nx_2 ne_b1_nm_2 ne_b1_sr_2 ne_b1_ln_2 ne_pa_2_fc_2 ne_pa_2_la_2 ne_pa_2_pv_2 ne_pa_2_nx_2 ne_pa_2_nm_2 ne_pa_2_sr_2 ne_pa_2_ln_2 ne_fc_2_la_2 ne_fc_2_pv_2 ne_fc_2_nx_2 ne_fc_2_nm_2 ne_fc_2_sr_2 ne_fc_2_ln_2 ne_la_2_pv_2 ne_la_2_nx_2 ne_la_2_nm_2 ne_la_2_sr_2 ne_la_2_ln_2 ne_pv_2_nx_2 ne_pv_2_nm_2 ne_pv_2_sr_2 ne_pv_2_ln_2 ne_nx_2_nm_2 ne_nx_2_sr_2 ne_nx_2_ln_2 ne_nm_2_sr_2 ne_nm_2_ln_2 ne_sr_2_ln_2 rfl rfl rfl rfl rfl rfl rfl rfl (by decide) (by decide) (by decide) (by decide) rfl rfl (by decide)) (by decide) (by decide) e2 (by rw [hml]; rfl) pd7 rfl rfl (Nat.le_of_eq rfl) (hb hby at_11) (by decide) (by decide) ?_
  intro T3 L3 v3 X3 hQ3
  obtain ⟨rfl, Nq3, K3, F_b1_parent', F_b1_firstChild', F_b1_lastChild', F_b1_previousSibling', F_b1_nextSibling', F_b1_name', F_b1_start', F_b1_length', F_b1_nodes', V_pa_2', V_fc_2', V_la_2', V_pv_2', V_nx_2', V_nm_2', V_sr_2', V_ln_2'⟩ := hQ3
  have e3 : T3.heap = T3.heap := rfl
  have E_b1 := E_b1.keep K3
  have sz3 : n0 ≤ T3.heap.size := Nat.le_trans sz2 K3.1
  have F_b1_parent := F_b1_parent'
  have F_b1_firstChild := F_b1_firstChild'
  have F_b1_lastChild := F_b1_lastChild'
  have F_b1_previousSibling := F_b1_previousSibling'
  have F_b1_nextSibling := F_b1_nextSibling'
  have F_b1_name := F_b1_name'
  have F_b1_start := F_b1_start'
  have F_b1_length := F_b1_length'
  have F_b1_nodes := F_b1_nodes'
  have V_pa_2 : Own.VArr Z T3.heap pa_2 .int ((.int (-1 : Int32)) :: (.int (-1 : Int32)) :: (.int (0 : Int32)) :: (.int (0 : Int32)) :: own_tl) := V_pa_2'
  have V_fc_2 : Own.VArr Z T3.heap fc_2 .int ((.int (-1 : Int32)) :: (.int (-1 : Int32)) :: (.int (0 : Int32)) :: (.int (0 : Int32)) :: own_tl) := V_fc_2'
  have V_la_2 : Own.VArr Z T3.heap la_2 .int ((.int (-1 : Int32)) :: (.int (-1 : Int32)) :: (.int (0 : Int32)) :: (.int (0 : Int32)) :: own_tl) := V_la_2'
  have V_pv_2 : Own.VArr Z T3.heap pv_2 .int ((.int (-1 : Int32)) :: (.int (-1 : Int32)) :: (.int (0 : Int32)) :: (.int (0 : Int32)) :: own_tl) := V_pv_2'
  have V_nx_2 : Own.VArr Z T3.heap nx_2 .int ((.int (-1 : Int32)) :: (.int (-1 : Int32)) :: (.int (0 : Int32)) :: (.int (0 : Int32)) :: own_tl) := V_nx_2'
  have V_nm_2 : Own.VArr Z T3.heap nm_2 .int ((.int (-2 : Int32)) :: (.int (-1 : Int32)) :: (.int (0 : Int32)) :: (.int (0 : Int32)) :: own_tl) := V_nm_2'
  have V_sr_2 : Own.VArr Z T3.heap sr_2 .int ((.int (-1 : Int32)) :: (.int (-1 : Int32)) :: (.int (0 : Int32)) :: (.int (0 : Int32)) :: own_tl) := V_sr_2'
  have V_ln_2 : Own.VArr Z T3.heap ln_2 .int ((.int (0 : Int32)) :: (.int (0 : Int32)) :: (.int (0 : Int32)) :: (.int (0 : Int32)) :: own_tl) := V_ln_2'
  have N3 := Fr.app N2 Nq3
  show Own.Go p e below _ (T3.setTop (mkF m 14 #[.val (.int sh), .val (.int pk), .val (.int pl), .val (.ref b1), .unset, .unset, .unset, .unset, .unset, .unset, .unset, .unset, .unset, .unset, .unset, .unset, .unset, .unset, .unset, .unset] [(.int (1 : Int32))]))
  refine Own.istore X3 hx (pc := 14) #[.val (.int sh), .val (.int pk), .val (.int pl), .val (.ref b1), .val (.int (1 : Int32)), .unset, .unset, .unset, .unset, .unset, .unset, .unset, .unset, .unset, .unset, .unset, .unset, .unset, .unset, .unset] (hb hby at_14) rfl ?_
  refine Own.aloadN X3 hx (pc := 16) (hb hby at_16) rfl rfl ?_
  refine Own.iconst X3 hx (pc := 17) (0 : Int32) (hb hby at_17) (by decide) ?_
  refine Own.callVirtual X3 hx hZ (pc := 18) (y := (⟨"com/example/sprigdex/sprigdex/index/html/HtmlTree", "copyText", "(I)I"⟩ : MethodName)) (z := (⟨"com/example/sprigdex/sprigdex/index/html/HtmlTree", "copyText", "(I)I"⟩ : MethodName)) hown (Wd hw 87 rfl) (Wd hw 88 rfl) (Wd hw 90 rfl) (Wd hw 89 rfl) (Wd hw 2 rfl) (Wd hw 91 rfl) (Wd hw 90 rfl) (by decide) 0 b1 [(.int (0 : Int32))] [] E_b1 (rm11 l Z a0 hw b1 (0 : Int32) pa_2 fc_2 la_2 pv_2 nx_2 nm_2 sr_2 ln_2 ((.int (-1 : Int32)) :: (.int (-1 : Int32)) :: (.int (0 : Int32)) :: (.int (0 : Int32)) :: own_tl) ((.int (-1 : Int32)) :: (.int (-1 : Int32)) :: (.int (0 : Int32)) :: (.int (0 : Int32)) :: own_tl) ((.int (-1 : Int32)) :: (.int (-1 : Int32)) :: (.int (0 : Int32)) :: (.int (0 : Int32)) :: own_tl) ((.int (-1 : Int32)) :: (.int (-1 : Int32)) :: (.int (0 : Int32)) :: (.int (0 : Int32)) :: own_tl) ((.int (-1 : Int32)) :: (.int (-1 : Int32)) :: (.int (0 : Int32)) :: (.int (0 : Int32)) :: own_tl) ((.int (-2 : Int32)) :: (.int (-1 : Int32)) :: (.int (0 : Int32)) :: (.int (0 : Int32)) :: own_tl) ((.int (-1 : Int32)) :: (.int (-1 : Int32)) :: (.int (0 : Int32)) :: (.int (0 : Int32)) :: own_tl) ((.int (0 : Int32)) :: (.int (0 : Int32)) :: (.int (0 : Int32)) :: (.int (0 : Int32)) :: own_tl) (2 : Int32) (-1 : Int32) (0 : Int32) T3.heap n0 sz3 E_b1 F_b1_nodes F_b1_parent F_b1_firstChild F_b1_lastChild F_b1_previousSibling F_b1_nextSibling F_b1_name F_b1_start F_b1_length V_pa_2 V_fc_2 V_la_2 V_pv_2 V_nx_2 V_nm_2 V_sr_2 V_ln_2 ge_b1 ge_pa_2 ge_fc_2 ge_la_2 ge_pv_2 ge_nx_2 ge_nm_2 ge_sr_2 ge_ln_2 ne_b1_pa_2 ne_b1_fc_2 ne_b1_la_2 ne_b1_pv_2 ne_b1_nx_2 ne_b1_nm_2 ne_b1_sr_2 ne_b1_ln_2 ne_pa_2_fc_2 ne_pa_2_la_2 ne_pa_2_pv_2 ne_pa_2_nx_2 ne_pa_2_nm_2 ne_pa_2_sr_2 ne_pa_2_ln_2 ne_fc_2_la_2 ne_fc_2_pv_2 ne_fc_2_nx_2 ne_fc_2_nm_2 ne_fc_2_sr_2 ne_fc_2_ln_2 ne_la_2_pv_2 ne_la_2_nx_2 ne_la_2_nm_2 ne_la_2_sr_2 ne_la_2_ln_2 ne_pv_2_nx_2 ne_pv_2_nm_2 ne_pv_2_sr_2 ne_pv_2_ln_2 ne_nx_2_nm_2 ne_nx_2_sr_2 ne_nx_2_ln_2 ne_nm_2_sr_2 ne_nm_2_ln_2 ne_sr_2_ln_2 rfl rfl rfl rfl rfl rfl rfl rfl (by decide) (by decide) (by decide) (by decide) rfl rfl (by decide)) (by decide) (by decide) e3 (by rw [hml]; rfl) pd7 rfl rfl (Nat.le_of_eq rfl) (hb hby at_18) (by decide) (by decide) ?_
  intro T4 L4 v4 X4 hQ4
  obtain ⟨rfl, Nq4, K4, F_b1_parent', F_b1_firstChild', F_b1_lastChild', F_b1_previousSibling', F_b1_nextSibling', F_b1_name', F_b1_start', F_b1_length', F_b1_nodes', V_pa_2', V_fc_2', V_la_2', V_pv_2', V_nx_2', V_nm_2', V_sr_2', V_ln_2'⟩ := hQ4
  have e4 : T4.heap = T4.heap := rfl
  have E_b1 := E_b1.keep K4
  have sz4 : n0 ≤ T4.heap.size := Nat.le_trans sz3 K4.1
  have F_b1_parent := F_b1_parent'
  have F_b1_firstChild := F_b1_firstChild'
  have F_b1_lastChild := F_b1_lastChild'
  have F_b1_previousSibling := F_b1_previousSibling'
  have F_b1_nextSibling := F_b1_nextSibling'
  have F_b1_name := F_b1_name'
  have F_b1_start := F_b1_start'
  have F_b1_length := F_b1_length'
  have F_b1_nodes := F_b1_nodes'
  have V_pa_2 : Own.VArr Z T4.heap pa_2 .int ((.int (-1 : Int32)) :: (.int (-1 : Int32)) :: (.int (-1 : Int32)) :: (.int (0 : Int32)) :: own_tl) := V_pa_2'
  have V_fc_2 : Own.VArr Z T4.heap fc_2 .int ((.int (-1 : Int32)) :: (.int (-1 : Int32)) :: (.int (-1 : Int32)) :: (.int (0 : Int32)) :: own_tl) := V_fc_2'
  have V_la_2 : Own.VArr Z T4.heap la_2 .int ((.int (-1 : Int32)) :: (.int (-1 : Int32)) :: (.int (-1 : Int32)) :: (.int (0 : Int32)) :: own_tl) := V_la_2'
  have V_pv_2 : Own.VArr Z T4.heap pv_2 .int ((.int (-1 : Int32)) :: (.int (-1 : Int32)) :: (.int (-1 : Int32)) :: (.int (0 : Int32)) :: own_tl) := V_pv_2'
  have V_nx_2 : Own.VArr Z T4.heap nx_2 .int ((.int (-1 : Int32)) :: (.int (-1 : Int32)) :: (.int (-1 : Int32)) :: (.int (0 : Int32)) :: own_tl) := V_nx_2'
  have V_nm_2 : Own.VArr Z T4.heap nm_2 .int ((.int (-2 : Int32)) :: (.int (-1 : Int32)) :: (.int (-1 : Int32)) :: (.int (0 : Int32)) :: own_tl) := V_nm_2'
  have V_sr_2 : Own.VArr Z T4.heap sr_2 .int ((.int (-1 : Int32)) :: (.int (-1 : Int32)) :: (.int (-1 : Int32)) :: (.int (0 : Int32)) :: own_tl) := V_sr_2'
  have V_ln_2 : Own.VArr Z T4.heap ln_2 .int ((.int (0 : Int32)) :: (.int (0 : Int32)) :: (.int (0 : Int32)) :: (.int (0 : Int32)) :: own_tl) := V_ln_2'
  have N4 := Fr.app N3 Nq4
  show Own.Go p e below _ (T4.setTop (mkF m 21 #[.val (.int sh), .val (.int pk), .val (.int pl), .val (.ref b1), .val (.int (1 : Int32)), .unset, .unset, .unset, .unset, .unset, .unset, .unset, .unset, .unset, .unset, .unset, .unset, .unset, .unset, .unset] [(.int (2 : Int32))]))
  refine Own.istore X4 hx (pc := 21) #[.val (.int sh), .val (.int pk), .val (.int pl), .val (.ref b1), .val (.int (1 : Int32)), .val (.int (2 : Int32)), .unset, .unset, .unset, .unset, .unset, .unset, .unset, .unset, .unset, .unset, .unset, .unset, .unset, .unset] (hb hby at_21) rfl ?_
  refine Own.aloadN X4 hx (pc := 23) (hb hby at_23) rfl rfl ?_
  refine Own.iconst X4 hx (pc := 24) (0 : Int32) (hb hby at_24) (by decide) ?_
  refine Own.callVirtual X4 hx hZ (pc := 25) (y := (⟨"com/example/sprigdex/sprigdex/index/html/HtmlTree", "copyText", "(I)I"⟩ : MethodName)) (z := (⟨"com/example/sprigdex/sprigdex/index/html/HtmlTree", "copyText", "(I)I"⟩ : MethodName)) hown (Wd hw 87 rfl) (Wd hw 88 rfl) (Wd hw 90 rfl) (Wd hw 89 rfl) (Wd hw 2 rfl) (Wd hw 91 rfl) (Wd hw 90 rfl) (by decide) 0 b1 [(.int (0 : Int32))] [] E_b1 (rm11 l Z a0 hw b1 (0 : Int32) pa_2 fc_2 la_2 pv_2 nx_2 nm_2 sr_2 ln_2 ((.int (-1 : Int32)) :: (.int (-1 : Int32)) :: (.int (-1 : Int32)) :: (.int (0 : Int32)) :: own_tl) ((.int (-1 : Int32)) :: (.int (-1 : Int32)) :: (.int (-1 : Int32)) :: (.int (0 : Int32)) :: own_tl) ((.int (-1 : Int32)) :: (.int (-1 : Int32)) :: (.int (-1 : Int32)) :: (.int (0 : Int32)) :: own_tl) ((.int (-1 : Int32)) :: (.int (-1 : Int32)) :: (.int (-1 : Int32)) :: (.int (0 : Int32)) :: own_tl) ((.int (-1 : Int32)) :: (.int (-1 : Int32)) :: (.int (-1 : Int32)) :: (.int (0 : Int32)) :: own_tl) ((.int (-2 : Int32)) :: (.int (-1 : Int32)) :: (.int (-1 : Int32)) :: (.int (0 : Int32)) :: own_tl) ((.int (-1 : Int32)) :: (.int (-1 : Int32)) :: (.int (-1 : Int32)) :: (.int (0 : Int32)) :: own_tl) ((.int (0 : Int32)) :: (.int (0 : Int32)) :: (.int (0 : Int32)) :: (.int (0 : Int32)) :: own_tl) (3 : Int32) (-1 : Int32) (0 : Int32) T4.heap n0 sz4 E_b1 F_b1_nodes F_b1_parent F_b1_firstChild F_b1_lastChild F_b1_previousSibling F_b1_nextSibling F_b1_name F_b1_start F_b1_length V_pa_2 V_fc_2 V_la_2 V_pv_2 V_nx_2 V_nm_2 V_sr_2 V_ln_2 ge_b1 ge_pa_2 ge_fc_2 ge_la_2 ge_pv_2 ge_nx_2 ge_nm_2 ge_sr_2 ge_ln_2 ne_b1_pa_2 ne_b1_fc_2 ne_b1_la_2 ne_b1_pv_2 ne_b1_nx_2 ne_b1_nm_2 ne_b1_sr_2 ne_b1_ln_2 ne_pa_2_fc_2 ne_pa_2_la_2 ne_pa_2_pv_2 ne_pa_2_nx_2 ne_pa_2_nm_2 ne_pa_2_sr_2 ne_pa_2_ln_2 ne_fc_2_la_2 ne_fc_2_pv_2 ne_fc_2_nx_2 ne_fc_2_nm_2 ne_fc_2_sr_2 ne_fc_2_ln_2 ne_la_2_pv_2 ne_la_2_nx_2 ne_la_2_nm_2 ne_la_2_sr_2 ne_la_2_ln_2 ne_pv_2_nx_2 ne_pv_2_nm_2 ne_pv_2_sr_2 ne_pv_2_ln_2 ne_nx_2_nm_2 ne_nx_2_sr_2 ne_nx_2_ln_2 ne_nm_2_sr_2 ne_nm_2_ln_2 ne_sr_2_ln_2 rfl rfl rfl rfl rfl rfl rfl rfl (by decide) (by decide) (by decide) (by decide) rfl rfl (by decide)) (by decide) (by decide) e4 (by rw [hml]; rfl) pd7 rfl rfl (Nat.le_of_eq rfl) (hb hby at_25) (by decide) (by decide) ?_
  intro T5 L5 v5 X5 hQ5
  obtain ⟨rfl, Nq5, K5, F_b1_parent', F_b1_firstChild', F_b1_lastChild', F_b1_previousSibling', F_b1_nextSibling', F_b1_name', F_b1_start', F_b1_length', F_b1_nodes', V_pa_2', V_fc_2', V_la_2', V_pv_2', V_nx_2', V_nm_2', V_sr_2', V_ln_2'⟩ := hQ5
  have e5 : T5.heap = T5.heap := rfl
  have E_b1 := E_b1.keep K5
  have sz5 : n0 ≤ T5.heap.size := Nat.le_trans sz4 K5.1
  have F_b1_parent := F_b1_parent'
  have F_b1_firstChild := F_b1_firstChild'
  have F_b1_lastChild := F_b1_lastChild'
  have F_b1_previousSibling := F_b1_previousSibling'
  have F_b1_nextSibling := F_b1_nextSibling'
  have F_b1_name := F_b1_name'
  have F_b1_start := F_b1_start'
  have F_b1_length := F_b1_length'
  have F_b1_nodes := F_b1_nodes'
  have V_pa_2 : Own.VArr Z T5.heap pa_2 .int ((.int (-1 : Int32)) :: (.int (-1 : Int32)) :: (.int (-1 : Int32)) :: (.int (-1 : Int32)) :: own_tl) := V_pa_2'
  have V_fc_2 : Own.VArr Z T5.heap fc_2 .int ((.int (-1 : Int32)) :: (.int (-1 : Int32)) :: (.int (-1 : Int32)) :: (.int (-1 : Int32)) :: own_tl) := V_fc_2'
  have V_la_2 : Own.VArr Z T5.heap la_2 .int ((.int (-1 : Int32)) :: (.int (-1 : Int32)) :: (.int (-1 : Int32)) :: (.int (-1 : Int32)) :: own_tl) := V_la_2'
  have V_pv_2 : Own.VArr Z T5.heap pv_2 .int ((.int (-1 : Int32)) :: (.int (-1 : Int32)) :: (.int (-1 : Int32)) :: (.int (-1 : Int32)) :: own_tl) := V_pv_2'
  have V_nx_2 : Own.VArr Z T5.heap nx_2 .int ((.int (-1 : Int32)) :: (.int (-1 : Int32)) :: (.int (-1 : Int32)) :: (.int (-1 : Int32)) :: own_tl) := V_nx_2'
  have V_nm_2 : Own.VArr Z T5.heap nm_2 .int ((.int (-2 : Int32)) :: (.int (-1 : Int32)) :: (.int (-1 : Int32)) :: (.int (-1 : Int32)) :: own_tl) := V_nm_2'
  have V_sr_2 : Own.VArr Z T5.heap sr_2 .int ((.int (-1 : Int32)) :: (.int (-1 : Int32)) :: (.int (-1 : Int32)) :: (.int (-1 : Int32)) :: own_tl) := V_sr_2'
  have V_ln_2 : Own.VArr Z T5.heap ln_2 .int ((.int (0 : Int32)) :: (.int (0 : Int32)) :: (.int (0 : Int32)) :: (.int (0 : Int32)) :: own_tl) := V_ln_2'
  have N5 := Fr.app N4 Nq5
  show Own.Go p e below _ (T5.setTop (mkF m 28 #[.val (.int sh), .val (.int pk), .val (.int pl), .val (.ref b1), .val (.int (1 : Int32)), .val (.int (2 : Int32)), .unset, .unset, .unset, .unset, .unset, .unset, .unset, .unset, .unset, .unset, .unset, .unset, .unset, .unset] [(.int (3 : Int32))]))
  refine Own.istore X5 hx (pc := 28) #[.val (.int sh), .val (.int pk), .val (.int pl), .val (.ref b1), .val (.int (1 : Int32)), .val (.int (2 : Int32)), .val (.int (3 : Int32)), .unset, .unset, .unset, .unset, .unset, .unset, .unset, .unset, .unset, .unset, .unset, .unset, .unset] (hb hby at_28) rfl ?_
  refine Own.iconst X5 hx (pc := 30) (3 : Int32) (hb hby at_30) (by decide) ?_
  refine Own.newarr X5 hx hZ (pc := 31) (aty := .int) (Wd hw 66 rfl) e5 (hb hby at_31) (by decide) 3 3 (by decide) (by decide) (by decide) (by decide) (by decide) ?_
  intro T6 h6 b6 g6 X6 e6 Ex6 V_b6
  have ne_b1_b6 : b1 ≠ b6 := Nat.ne_of_lt (g6 ▸ E_b1.lt)
  have ne_pa_2_b6 : pa_2 ≠ b6 := Nat.ne_of_lt (g6 ▸ V_pa_2.lt)
  have ne_fc_2_b6 : fc_2 ≠ b6 := Nat.ne_of_lt (g6 ▸ V_fc_2.lt)
  have ne_la_2_b6 : la_2 ≠ b6 := Nat.ne_of_lt (g6 ▸ V_la_2.lt)
  have ne_pv_2_b6 : pv_2 ≠ b6 := Nat.ne_of_lt (g6 ▸ V_pv_2.lt)
  have ne_nx_2_b6 : nx_2 ≠ b6 := Nat.ne_of_lt (g6 ▸ V_nx_2.lt)
  have E_b1 := Exa.ext Ex6 E_b1
  have F_b1_parent := Fld.ext Ex6 F_b1_parent
  have F_b1_firstChild := Fld.ext Ex6 F_b1_firstChild
  have F_b1_lastChild := Fld.ext Ex6 F_b1_lastChild
  have F_b1_previousSibling := Fld.ext Ex6 F_b1_previousSibling
  have F_b1_nextSibling := Fld.ext Ex6 F_b1_nextSibling
  have V_pa_2 := V_pa_2.ext Ex6
  have V_fc_2 := V_fc_2.ext Ex6
  have V_la_2 := V_la_2.ext Ex6
  have V_pv_2 := V_pv_2.ext Ex6
  have V_nx_2 := V_nx_2.ext Ex6
  have ge_b6 : n0 ≤ b6 := g6 ▸ sz5
  have sz6 : n0 ≤ h6.size := Nat.le_trans sz5 Ex6.1
  replace V_b6 : Own.VArr Z h6 b6 .int [(.int (0 : Int32)), (.int (0 : Int32)), (.int (0 : Int32))] := V_b6
  refine Own.dup X6 hx (pc := 33) (hb hby at_33) rfl ?_
  refine Own.iconst X6 hx (pc := 34) (0 : Int32) (hb hby at_34) (by decide) ?_
  refine Own.iload X6 hx (pc := 35) (hb hby at_35) rfl ?_
  refine Own.iastore X6 hx hZ (pc := 37) e6 V_b6 0 (by decide) (by decide) (of_decide_eq_true rfl) N5 ge_b6 (hb hby at_37) ?_
  intro T7 h7 X7 e7 W7 N7 V_b6
  replace V_b6 : Own.VArr Z h7 b6 .int [(.int (1 : Int32)), (.int (0 : Int32)), (.int (0 : Int32))] := V_b6
  have sz7 : n0 ≤ h7.size := Nat.le_trans sz6 (Nat.le_of_eq (Wr.size W7).symm)
  have E_b1 := Exa.wr W7 E_b1
  have F_b1_parent := Fld.other W7 F_b1_parent (Or.inl ne_b1_b6)
  have F_b1_firstChild := Fld.other W7 F_b1_firstChild (Or.inl ne_b1_b6)
  have F_b1_lastChild := Fld.other W7 F_b1_lastChild (Or.inl ne_b1_b6)
  have F_b1_previousSibling := Fld.other W7 F_b1_previousSibling (Or.inl ne_b1_b6)
  have F_b1_nextSibling := Fld.other W7 F_b1_nextSibling (Or.inl ne_b1_b6)
  have V_pa_2 := V_pa_2.other W7 ne_pa_2_b6
  have V_fc_2 := V_fc_2.other W7 ne_fc_2_b6
  have V_la_2 := V_la_2.other W7 ne_la_2_b6
  have V_pv_2 := V_pv_2.other W7 ne_pv_2_b6
  have V_nx_2 := V_nx_2.other W7 ne_nx_2_b6
  refine Own.dup X7 hx (pc := 38) (hb hby at_38) rfl ?_
  refine Own.iconst X7 hx (pc := 39) (1 : Int32) (hb hby at_39) (by decide) ?_
  refine Own.iload X7 hx (pc := 40) (hb hby at_40) rfl ?_
  refine Own.iastore X7 hx hZ (pc := 42) e7 V_b6 1 (by decide) (by decide) (of_decide_eq_true rfl) N7 ge_b6 (hb hby at_42) ?_
  intro T8 h8 X8 e8 W8 N8 V_b6
  replace V_b6 : Own.VArr Z h8 b6 .int [(.int (1 : Int32)), (.int (2 : Int32)), (.int (0 : Int32))] := V_b6
  have sz8 : n0 ≤ h8.size := Nat.le_trans sz7 (Nat.le_of_eq (Wr.size W8).symm)
  have E_b1 := Exa.wr W8 E_b1
  have F_b1_parent := Fld.other W8 F_b1_parent (Or.inl ne_b1_b6)
  have F_b1_firstChild := Fld.other W8 F_b1_firstChild (Or.inl ne_b1_b6)
  have F_b1_lastChild := Fld.other W8 F_b1_lastChild (Or.inl ne_b1_b6)
  have F_b1_previousSibling := Fld.other W8 F_b1_previousSibling (Or.inl ne_b1_b6)
  have F_b1_nextSibling := Fld.other W8 F_b1_nextSibling (Or.inl ne_b1_b6)
  have V_pa_2 := V_pa_2.other W8 ne_pa_2_b6
  have V_fc_2 := V_fc_2.other W8 ne_fc_2_b6
  have V_la_2 := V_la_2.other W8 ne_la_2_b6
  have V_pv_2 := V_pv_2.other W8 ne_pv_2_b6
  have V_nx_2 := V_nx_2.other W8 ne_nx_2_b6
  refine Own.dup X8 hx (pc := 43) (hb hby at_43) rfl ?_
  refine Own.iconst X8 hx (pc := 44) (2 : Int32) (hb hby at_44) (by decide) ?_
  refine Own.iload X8 hx (pc := 45) (hb hby at_45) rfl ?_
  refine Own.iastore X8 hx hZ (pc := 47) e8 V_b6 2 (by decide) (by decide) (of_decide_eq_true rfl) N8 ge_b6 (hb hby at_47) ?_
  intro T9 h9 X9 e9 W9 N9 V_b6
  replace V_b6 : Own.VArr Z h9 b6 .int [(.int (1 : Int32)), (.int (2 : Int32)), (.int (3 : Int32))] := V_b6
  have sz9 : n0 ≤ h9.size := Nat.le_trans sz8 (Nat.le_of_eq (Wr.size W9).symm)
  have E_b1 := Exa.wr W9 E_b1
  have F_b1_parent := Fld.other W9 F_b1_parent (Or.inl ne_b1_b6)
  have F_b1_firstChild := Fld.other W9 F_b1_firstChild (Or.inl ne_b1_b6)
  have F_b1_lastChild := Fld.other W9 F_b1_lastChild (Or.inl ne_b1_b6)
  have F_b1_previousSibling := Fld.other W9 F_b1_previousSibling (Or.inl ne_b1_b6)
  have F_b1_nextSibling := Fld.other W9 F_b1_nextSibling (Or.inl ne_b1_b6)
  have V_pa_2 := V_pa_2.other W9 ne_pa_2_b6
  have V_fc_2 := V_fc_2.other W9 ne_fc_2_b6
  have V_la_2 := V_la_2.other W9 ne_la_2_b6
  have V_pv_2 := V_pv_2.other W9 ne_pv_2_b6
  have V_nx_2 := V_nx_2.other W9 ne_nx_2_b6
  refine Own.astore X9 hx (pc := 48) #[.val (.int sh), .val (.int pk), .val (.int pl), .val (.ref b1), .val (.int (1 : Int32)), .val (.int (2 : Int32)), .val (.int (3 : Int32)), .val (.ref b6), .unset, .unset, .unset, .unset, .unset, .unset, .unset, .unset, .unset, .unset, .unset, .unset] (hb hby at_48) rfl rfl ?_
  refine Own.iconst X9 hx (pc := 50) (1 : Int32) (hb hby at_50) (by decide) ?_
  refine Own.iloadN X9 hx (pc := 51) (hb hby at_51) rfl ?_
  refine Own.ldcI X9 hx hZ (pc := 52) hown (Wd hw 92 rfl) (hb hby at_52) ?_
  refine Own.iand X9 hx (pc := 54) (hb hby at_54) ?_
  refine Own.iconst X9 hx (pc := 55) (3 : Int32) (hb hby at_55) (by decide) ?_
  refine Own.irem X9 hx (pc := 56) (hb hby at_56) (by decide) ?_
  refine Own.iadd X9 hx (pc := 57) (hb hby at_57) ?_
  generalize qn10 : ((1 : Int32) + ((sh &&& (2147483647 : Int32)) % (3 : Int32))) = n10
  rcases own_n _ qn10 with rfl | rfl | rfl
  · refine Own.istore X9 hx (pc := 58) #[.val (.int sh), .val (.int pk), .val (.int pl), .val (.ref b1), .val (.int (1 : Int32)), .val (.int (2 : Int32)), .val (.int (3 : Int32)), .val (.ref b6), .val (.int (1 : Int32)), .unset, .unset, .unset, .unset, .unset, .unset, .unset, .unset, .unset, .unset, .unset] (hb hby at_58) rfl ?_
    refine Own.aloadN X9 hx (pc := 60) (hb hby at_60) rfl rfl ?_
    refine Own.iconst X9 hx (pc := 61) (0 : Int32) (hb hby at_61) (by decide) ?_
    refine Own.iload X9 hx (pc := 62) (hb hby at_62) rfl ?_
    refine Own.iconst X9 hx (pc := 64) (-1 : Int32) (hb hby at_64) (by decide) ?_
    refine Own.callVirtual X9 hx hZ (pc := 65) (y := (⟨"com/example/sprigdex/sprigdex/index/html/HtmlTree", "insert", "(III)V"⟩ : MethodName)) (z := (⟨"com/example/sprigdex/sprigdex/index/html/HtmlTree", "insert", "(III)V"⟩ : MethodName)) hown (Wd hw 93 rfl) (Wd hw 94 rfl) (Wd hw 96 rfl) (Wd hw 95 rfl) (Wd hw 2 rfl) (Wd hw 97 rfl) (Wd hw 96 rfl) (by decide) 0 b1 [(.int (0 : Int32)), (.int (1 : Int32)), (.int (-1 : Int32))] [] E_b1 (rmI00 l Z a0 hw b1 (0 : Int32) (1 : Int32) pa_2 fc_2 la_2 pv_2 nx_2 ((.int (-1 : Int32)) :: (.int (-1 : Int32)) :: (.int (-1 : Int32)) :: (.int (-1 : Int32)) :: own_tl) ((.int (-1 : Int32)) :: (.int (-1 : Int32)) :: (.int (-1 : Int32)) :: (.int (-1 : Int32)) :: own_tl) ((.int (-1 : Int32)) :: (.int (-1 : Int32)) :: (.int (-1 : Int32)) :: (.int (-1 : Int32)) :: own_tl) ((.int (-1 : Int32)) :: (.int (-1 : Int32)) :: (.int (-1 : Int32)) :: (.int (-1 : Int32)) :: own_tl) ((.int (-1 : Int32)) :: (.int (-1 : Int32)) :: (.int (-1 : Int32)) :: (.int (-1 : Int32)) :: own_tl) h9 n0 sz9 E_b1 F_b1_parent F_b1_firstChild F_b1_lastChild F_b1_previousSibling F_b1_nextSibling V_pa_2 V_fc_2 V_la_2 V_pv_2 V_nx_2 ge_pa_2 ge_fc_2 ge_la_2 ge_pv_2 ge_nx_2 ne_b1_pa_2 ne_b1_fc_2 ne_b1_la_2 ne_b1_pv_2 ne_b1_nx_2 ne_pa_2_fc_2 ne_pa_2_la_2 ne_pa_2_pv_2 ne_pa_2_nx_2 ne_fc_2_la_2 ne_fc_2_pv_2 ne_fc_2_nx_2 ne_la_2_pv_2 ne_la_2_nx_2 ne_pv_2_nx_2 rfl rfl rfl rfl rfl (by decide) (by decide) (by decide) (by decide) rfl rfl) (by decide) (by decide) e9 (by rw [hml]; rfl) pd11 rfl rfl (Nat.le_of_eq rfl) (hb hby at_65) (by decide) (by decide) ?_
    intro T11 L11 v11 X11 hQ11
    obtain ⟨rfl, Nq11, K11, V_pa_2', V_fc_2', V_la_2', V_pv_2', V_nx_2'⟩ := hQ11
    have e11 : T11.heap = T11.heap := rfl
    have E_b1 := E_b1.keep K11
    have F_b1_parent := F_b1_parent.keep K11 (ninS ne_b1_pa_2 (ninS ne_b1_fc_2 (ninS ne_b1_la_2 (ninS ne_b1_pv_2 (ninS ne_b1_nx_2 nin0)))))
    have F_b1_firstChild := F_b1_firstChild.keep K11 (ninS ne_b1_pa_2 (ninS ne_b1_fc_2 (ninS ne_b1_la_2 (ninS ne_b1_pv_2 (ninS ne_b1_nx_2 nin0)))))
    have F_b1_lastChild := F_b1_lastChild.keep K11 (ninS ne_b1_pa_2 (ninS ne_b1_fc_2 (ninS ne_b1_la_2 (ninS ne_b1_pv_2 (ninS ne_b1_nx_2 nin0)))))
    have F_b1_previousSibling := F_b1_previousSibling.keep K11 (ninS ne_b1_pa_2 (ninS ne_b1_fc_2 (ninS ne_b1_la_2 (ninS ne_b1_pv_2 (ninS ne_b1_nx_2 nin0)))))
    have F_b1_nextSibling := F_b1_nextSibling.keep K11 (ninS ne_b1_pa_2 (ninS ne_b1_fc_2 (ninS ne_b1_la_2 (ninS ne_b1_pv_2 (ninS ne_b1_nx_2 nin0)))))
    have V_b6 := V_b6.keep K11 (ninS (Ne.symm ne_pa_2_b6) (ninS (Ne.symm ne_fc_2_b6) (ninS (Ne.symm ne_la_2_b6) (ninS (Ne.symm ne_pv_2_b6) (ninS (Ne.symm ne_nx_2_b6) nin0)))))
    have sz11 : n0 ≤ T11.heap.size := Nat.le_trans sz9 K11.1
    have V_pa_2 : Own.VArr Z T11.heap pa_2 .int ((.int (-1 : Int32)) :: (.int (0 : Int32)) :: (.int (-1 : Int32)) :: (.int (-1 : Int32)) :: own_tl) := V_pa_2'
    have V_fc_2 : Own.VArr Z T11.heap fc_2 .int ((.int (1 : Int32)) :: (.int (-1 : Int32)) :: (.int (-1 : Int32)) :: (.int (-1 : Int32)) :: own_tl) := V_fc_2'
    have V_la_2 : Own.VArr Z T11.heap la_2 .int ((.int (1 : Int32)) :: (.int (-1 : Int32)) :: (.int (-1 : Int32)) :: (.int (-1 : Int32)) :: own_tl) := V_la_2'
    have V_pv_2 : Own.VArr Z T11.heap pv_2 .int ((.int (-1 : Int32)) :: (.int (-1 : Int32)) :: (.int (-1 : Int32)) :: (.int (-1 : Int32)) :: own_tl) := V_pv_2'
    have V_nx_2 : Own.VArr Z T11.heap nx_2 .int ((.int (-1 : Int32)) :: (.int (-1 : Int32)) :: (.int (-1 : Int32)) :: (.int (-1 : Int32)) :: own_tl) := V_nx_2'
    have N11 := Fr.app N9 Nq11
    show Own.Go p e below _ (T11.setTop (mkF m 68 #[.val (.int sh), .val (.int pk), .val (.int pl), .val (.ref b1), .val (.int (1 : Int32)), .val (.int (2 : Int32)), .val (.int (3 : Int32)), .val (.ref b6), .val (.int (1 : Int32)), .unset, .unset, .unset, .unset, .unset, .unset, .unset, .unset, .unset, .unset, .unset] []))
    refine Own.iload X11 hx (pc := 68) (hb hby at_68) rfl ?_
    refine Own.iconst X11 hx (pc := 70) (2 : Int32) (hb hby at_70) (by decide) ?_
    refine Own.icmpYes X11 hx (pc := 71) 82 (hb hby at_71) (by decide) (by decide) (by decide) ?_
    refine Own.iload X11 hx (pc := 82) (hb hby at_82) rfl ?_
    refine Own.iconst X11 hx (pc := 84) (3 : Int32) (hb hby at_84) (by decide) ?_
    refine Own.icmpYes X11 hx (pc := 85) 96 (hb hby at_85) (by decide) (by decide) (by decide) ?_
    refine Own.iloadN X11 hx (pc := 96) (hb hby at_96) rfl ?_
    refine Own.ldcI X11 hx hZ (pc := 97) hown (Wd hw 92 rfl) (hb hby at_97) ?_
    refine Own.iand X11 hx (pc := 99) (hb hby at_99) ?_
    refine Own.iload X11 hx (pc := 100) (hb hby at_100) rfl ?_
    refine Own.iconst X11 hx (pc := 102) (1 : Int32) (hb hby at_102) (by decide) ?_
    refine Own.iadd X11 hx (pc := 103) (hb hby at_103) ?_
    refine Own.topI (show ((1 : Int32) + (1 : Int32)) = (2 : Int32) by decide) ?_
    refine Own.irem X11 hx (pc := 104) (hb hby at_104) (by decide) ?_
    generalize qk12 : ((pk &&& (2147483647 : Int32)) % (2 : Int32)) = k12
    rcases own_c2 _ qk12 with rfl | rfl
    · refine Own.istore X11 hx (pc := 105) #[.val (.int sh), .val (.int pk), .val (.int pl), .val (.ref b1), .val (.int (1 : Int32)), .val (.int (2 : Int32)), .val (.int (3 : Int32)), .val (.ref b6), .val (.int (1 : Int32)), .val (.int (0 : Int32)), .unset, .unset, .unset, .unset, .unset, .unset, .unset, .unset, .unset, .unset] (hb hby at_105) rfl ?_
      refine Own.iload X11 hx (pc := 107) (hb hby at_107) rfl ?_
      refine Own.iload X11 hx (pc := 109) (hb hby at_109) rfl ?_
      refine Own.icmpYes X11 hx (pc := 111) 143 (hb hby at_111) (by decide) (by decide) (by decide) ?_
      refine Own.aload X11 hx (pc := 143) (hb hby at_143) rfl rfl ?_
      refine Own.iload X11 hx (pc := 145) (hb hby at_145) rfl ?_
      refine Own.iaload X11 hx hZ (pc := 147) e11 V_b6 (v := (.int (1 : Int32))) 0 (by decide) (by decide) rfl (hb hby at_147) ?_
      refine Own.istore X11 hx (pc := 148) #[.val (.int sh), .val (.int pk), .val (.int pl), .val (.ref b1), .val (.int (1 : Int32)), .val (.int (2 : Int32)), .val (.int (3 : Int32)), .val (.ref b6), .val (.int (1 : Int32)), .val (.int (0 : Int32)), .val (.int (1 : Int32)), .unset, .unset, .unset, .unset, .unset, .unset, .unset, .unset, .unset] (hb hby at_148) rfl ?_
      refine Own.aloadN X11 hx (pc := 150) (hb hby at_150) rfl rfl ?_
      refine Own.iload X11 hx (pc := 151) (hb hby at_151) rfl ?_
      refine Own.callVirtual X11 hx hZ (pc := 153) (y := (⟨"com/example/sprigdex/sprigdex/index/html/HtmlTree", "detach", "(I)V"⟩ : MethodName)) (z := (⟨"com/example/sprigdex/sprigdex/index/html/HtmlTree", "detach", "(I)V"⟩ : MethodName)) hown (Wd hw 103 rfl) (Wd hw 99 rfl) (Wd hw 101 rfl) (Wd hw 100 rfl) (Wd hw 2 rfl) (Wd hw 102 rfl) (Wd hw 101 rfl) (by decide) 0 b1 [(.int (1 : Int32))] [] E_b1 (rmD00 l Z a0 hw b1 (1 : Int32) pa_2 fc_2 la_2 pv_2 nx_2 ((.int (-1 : Int32)) :: (.int (0 : Int32)) :: (.int (-1 : Int32)) :: (.int (-1 : Int32)) :: own_tl) ((.int (1 : Int32)) :: (.int (-1 : Int32)) :: (.int (-1 : Int32)) :: (.int (-1 : Int32)) :: own_tl) ((.int (1 : Int32)) :: (.int (-1 : Int32)) :: (.int (-1 : Int32)) :: (.int (-1 : Int32)) :: own_tl) ((.int (-1 : Int32)) :: (.int (-1 : Int32)) :: (.int (-1 : Int32)) :: (.int (-1 : Int32)) :: own_tl) ((.int (-1 : Int32)) :: (.int (-1 : Int32)) :: (.int (-1 : Int32)) :: (.int (-1 : Int32)) :: own_tl) (0 : Int32) T11.heap n0 sz11 F_b1_parent F_b1_firstChild F_b1_lastChild F_b1_previousSibling F_b1_nextSibling V_pa_2 V_fc_2 V_la_2 V_pv_2 V_nx_2 ge_pa_2 ge_fc_2 ge_la_2 ge_pv_2 ge_nx_2 ne_b1_pa_2 ne_b1_fc_2 ne_b1_la_2 ne_b1_pv_2 ne_b1_nx_2 ne_pa_2_fc_2 ne_pa_2_la_2 ne_pa_2_pv_2 ne_pa_2_nx_2 ne_fc_2_la_2 ne_fc_2_pv_2 ne_fc_2_nx_2 ne_la_2_pv_2 ne_la_2_nx_2 ne_pv_2_nx_2 rfl rfl rfl rfl rfl (by decide) (by decide) (by decide) (by decide) rfl rfl rfl (by decide)) (by decide) (by decide) e11 (by rw [hml]; rfl) pd9 rfl rfl (Nat.le_of_eq rfl) (hb hby at_153) (by decide) (by decide) ?_
      intro T13 L13 v13 X13 hQ13
      obtain ⟨rfl, Nq13, K13, V_pa_2', V_fc_2', V_la_2', V_pv_2', V_nx_2'⟩ := hQ13
      have e13 : T13.heap = T13.heap := rfl
      have E_b1 := E_b1.keep K13
      have F_b1_parent := F_b1_parent.keep K13 (ninS ne_b1_pa_2 (ninS ne_b1_fc_2 (ninS ne_b1_la_2 (ninS ne_b1_pv_2 (ninS ne_b1_nx_2 nin0)))))
      have F_b1_firstChild := F_b1_firstChild.keep K13 (ninS ne_b1_pa_2 (ninS ne_b1_fc_2 (ninS ne_b1_la_2 (ninS ne_b1_pv_2 (ninS ne_b1_nx_2 nin0)))))
      have F_b1_lastChild := F_b1_lastChild.keep K13 (ninS ne_b1_pa_2 (ninS ne_b1_fc_2 (ninS ne_b1_la_2 (ninS ne_b1_pv_2 (ninS ne_b1_nx_2 nin0)))))
      have F_b1_previousSibling := F_b1_previousSibling.keep K13 (ninS ne_b1_pa_2 (ninS ne_b1_fc_2 (ninS ne_b1_la_2 (ninS ne_b1_pv_2 (ninS ne_b1_nx_2 nin0)))))
      have F_b1_nextSibling := F_b1_nextSibling.keep K13 (ninS ne_b1_pa_2 (ninS ne_b1_fc_2 (ninS ne_b1_la_2 (ninS ne_b1_pv_2 (ninS ne_b1_nx_2 nin0)))))
      have V_b6 := V_b6.keep K13 (ninS (Ne.symm ne_pa_2_b6) (ninS (Ne.symm ne_fc_2_b6) (ninS (Ne.symm ne_la_2_b6) (ninS (Ne.symm ne_pv_2_b6) (ninS (Ne.symm ne_nx_2_b6) nin0)))))
      have sz13 : n0 ≤ T13.heap.size := Nat.le_trans sz11 K13.1
      have V_pa_2 : Own.VArr Z T13.heap pa_2 .int ((.int (-1 : Int32)) :: (.int (-1 : Int32)) :: (.int (-1 : Int32)) :: (.int (-1 : Int32)) :: own_tl) := V_pa_2'
      have V_fc_2 : Own.VArr Z T13.heap fc_2 .int ((.int (-1 : Int32)) :: (.int (-1 : Int32)) :: (.int (-1 : Int32)) :: (.int (-1 : Int32)) :: own_tl) := V_fc_2'
      have V_la_2 : Own.VArr Z T13.heap la_2 .int ((.int (-1 : Int32)) :: (.int (-1 : Int32)) :: (.int (-1 : Int32)) :: (.int (-1 : Int32)) :: own_tl) := V_la_2'
      have V_pv_2 : Own.VArr Z T13.heap pv_2 .int ((.int (-1 : Int32)) :: (.int (-1 : Int32)) :: (.int (-1 : Int32)) :: (.int (-1 : Int32)) :: own_tl) := V_pv_2'
      have V_nx_2 : Own.VArr Z T13.heap nx_2 .int ((.int (-1 : Int32)) :: (.int (-1 : Int32)) :: (.int (-1 : Int32)) :: (.int (-1 : Int32)) :: own_tl) := V_nx_2'
      have N13 := Fr.app N11 Nq13
      show Own.Go p e below _ (T13.setTop (mkF m 156 #[.val (.int sh), .val (.int pk), .val (.int pl), .val (.ref b1), .val (.int (1 : Int32)), .val (.int (2 : Int32)), .val (.int (3 : Int32)), .val (.ref b6), .val (.int (1 : Int32)), .val (.int (0 : Int32)), .val (.int (1 : Int32)), .unset, .unset, .unset, .unset, .unset, .unset, .unset, .unset, .unset] []))
      refine Own.aloadN X13 hx (pc := 156) (hb hby at_156) rfl rfl ?_
      refine Own.iload X13 hx (pc := 157) (hb hby at_157) rfl ?_
      refine Own.callVirtual X13 hx hZ (pc := 159) (y := (⟨"com/example/sprigdex/sprigdex/index/html/HtmlTree", "parent", "(I)I"⟩ : MethodName)) (z := (⟨"com/example/sprigdex/sprigdex/index/html/HtmlTree", "parent", "(I)I"⟩ : MethodName)) hown (Wd hw 104 rfl) (Wd hw 105 rfl) (Wd hw 107 rfl) (Wd hw 106 rfl) (Wd hw 2 rfl) (Wd hw 108 rfl) (Wd hw 107 rfl) (by decide) 0 b1 [(.int (1 : Int32))] [] E_b1 (rm14 l Z a0 hw b1 (1 : Int32) pa_2 ((.int (-1 : Int32)) :: (.int (-1 : Int32)) :: (.int (-1 : Int32)) :: (.int (-1 : Int32)) :: own_tl) (-1 : Int32) T13.heap n0 sz13 F_b1_parent V_pa_2 (by decide) rfl) (by decide) (by decide) e13 (by rw [hml]; rfl) pd7 rfl rfl (Nat.le_of_eq rfl) (hb hby at_159) (by decide) (by decide) ?_
      intro T14 L14 v14 X14 hQ14
      obtain ⟨rfl, Nq14, e14⟩ := hQ14
      have N14 := Fr.app N13 Nq14
      show Own.Go p e below _ (T14.setTop (mkF m 162 #[.val (.int sh), .val (.int pk), .val (.int pl), .val (.ref b1), .val (.int (1 : Int32)), .val (.int (2 : Int32)), .val (.int (3 : Int32)), .val (.ref b6), .val (.int (1 : Int32)), .val (.int (0 : Int32)), .val (.int (1 : Int32)), .unset, .unset, .unset, .unset, .unset, .unset, .unset, .unset, .unset] [(.int (-1 : Int32))]))
      refine Own.iconst X14 hx (pc := 162) (-1 : Int32) (hb hby at_162) (by decide) ?_
      refine Own.icmpYes X14 hx (pc := 163) 168 (hb hby at_163) (by decide) (by decide) (by decide) ?_
      refine Own.aloadN X14 hx (pc := 168) (hb hby at_168) rfl rfl ?_
      refine Own.iload X14 hx (pc := 169) (hb hby at_169) rfl ?_
      refine Own.callVirtual X14 hx hZ (pc := 171) (y := (⟨"com/example/sprigdex/sprigdex/index/html/HtmlTree", "nextSibling", "(I)I"⟩ : MethodName)) (z := (⟨"com/example/sprigdex/sprigdex/index/html/HtmlTree", "nextSibling", "(I)I"⟩ : MethodName)) hown (Wd hw 118 rfl) (Wd hw 119 rfl) (Wd hw 121 rfl) (Wd hw 120 rfl) (Wd hw 2 rfl) (Wd hw 122 rfl) (Wd hw 121 rfl) (by decide) 0 b1 [(.int (1 : Int32))] [] E_b1 (rm17 l Z a0 hw b1 (1 : Int32) nx_2 ((.int (-1 : Int32)) :: (.int (-1 : Int32)) :: (.int (-1 : Int32)) :: (.int (-1 : Int32)) :: own_tl) (-1 : Int32) T13.heap n0 sz13 F_b1_nextSibling V_nx_2 (by decide) rfl) (by decide) (by decide) e14 (by rw [hml]; rfl) pd7 rfl rfl (Nat.le_of_eq rfl) (hb hby at_171) (by decide) (by decide) ?_
      intro T15 L15 v15 X15 hQ15
      obtain ⟨rfl, Nq15, e15⟩ := hQ15
      have N15 := Fr.app N14 Nq15
      show Own.Go p e below _ (T15.setTop (mkF m 174 #[.val (.int sh), .val (.int pk), .val (.int pl), .val (.ref b1), .val (.int (1 : Int32)), .val (.int (2 : Int32)), .val (.int (3 : Int32)), .val (.ref b6), .val (.int (1 : Int32)), .val (.int (0 : Int32)), .val (.int (1 : Int32)), .unset, .unset, .unset, .unset, .unset, .unset, .unset, .unset, .unset] [(.int (-1 : Int32))]))
      refine Own.iconst X15 hx (pc := 174) (-1 : Int32) (hb hby at_174) (by decide) ?_
      refine Own.icmpYes X15 hx (pc := 175) 180 (hb hby at_175) (by decide) (by decide) (by decide) ?_
      refine Own.iload X15 hx (pc := 180) (hb hby at_180) rfl ?_
      refine Own.iconst X15 hx (pc := 182) (1 : Int32) (hb hby at_182) (by decide) ?_
      refine Own.isub X15 hx (pc := 183) (hb hby at_183) ?_
      refine Own.topI (show ((1 : Int32) - (1 : Int32)) = (0 : Int32) by decide) ?_
      refine Own.istore X15 hx (pc := 184) #[.val (.int sh), .val (.int pk), .val (.int pl), .val (.ref b1), .val (.int (1 : Int32)), .val (.int (2 : Int32)), .val (.int (3 : Int32)), .val (.ref b6), .val (.int (1 : Int32)), .val (.int (0 : Int32)), .val (.int (1 : Int32)), .val (.int (0 : Int32)), .unset, .unset, .unset, .unset, .unset, .unset, .unset, .unset] (hb hby at_184) rfl ?_
      refine Own.iload X15 hx (pc := 186) (hb hby at_186) rfl ?_
      refine Own.ifNo X15 hx (pc := 188) (hb hby at_188) (by decide) ?_
      refine Own.aload X15 hx (pc := 191) (hb hby at_191) rfl rfl ?_
      refine Own.iconst X15 hx (pc := 193) (1 : Int32) (hb hby at_193) (by decide) ?_
      refine Own.iaload X15 hx hZ (pc := 194) e15 V_b6 (v := (.int (2 : Int32))) 1 (by decide) (by decide) rfl (hb hby at_194) ?_
      refine Own.goto X15 hx (pc := 195) 202 (hb hby at_195) (by decide) (by decide) ?_
      refine Own.istore X15 hx (pc := 202) #[.val (.int sh), .val (.int pk), .val (.int pl), .val (.ref b1), .val (.int (1 : Int32)), .val (.int (2 : Int32)), .val (.int (3 : Int32)), .val (.ref b6), .val (.int (1 : Int32)), .val (.int (0 : Int32)), .val (.int (1 : Int32)), .val (.int (0 : Int32)), .val (.int (2 : Int32)), .unset, .unset, .unset, .unset, .unset, .unset, .unset] (hb hby at_202) rfl ?_
      refine Own.iload X15 hx (pc := 204) (hb hby at_204) rfl ?_
      refine Own.iconst X15 hx (pc := 206) (1 : Int32) (hb hby at_206) (by decide) ?_
      refine Own.icmpNo X15 hx (pc := 207) (hb hby at_207) (by decide) ?_
      refine Own.aload X15 hx (pc := 210) (hb hby at_210) rfl rfl ?_
      refine Own.iconst X15 hx (pc := 212) (2 : Int32) (hb hby at_212) (by decide) ?_
      refine Own.iaload X15 hx hZ (pc := 213) e15 V_b6 (v := (.int (3 : Int32))) 2 (by decide) (by decide) rfl (hb hby at_213) ?_
      refine Own.goto X15 hx (pc := 214) 221 (hb hby at_214) (by decide) (by decide) ?_
      refine Own.istore X15 hx (pc := 221) #[.val (.int sh), .val (.int pk), .val (.int pl), .val (.ref b1), .val (.int (1 : Int32)), .val (.int (2 : Int32)), .val (.int (3 : Int32)), .val (.ref b6), .val (.int (1 : Int32)), .val (.int (0 : Int32)), .val (.int (1 : Int32)), .val (.int (0 : Int32)), .val (.int (2 : Int32)), .val (.int (3 : Int32)), .unset, .unset, .unset, .unset, .unset, .unset] (hb hby at_221) rfl ?_
      refine Own.iload X15 hx (pc := 223) (hb hby at_223) rfl ?_
      refine Own.ifNo X15 hx (pc := 225) (hb hby at_225) (by decide) ?_
      refine Own.iconst X15 hx (pc := 228) (-1 : Int32) (hb hby at_228) (by decide) ?_
      refine Own.goto X15 hx (pc := 229) 234 (hb hby at_229) (by decide) (by decide) ?_
      refine Own.istore X15 hx (pc := 234) #[.val (.int sh), .val (.int pk), .val (.int pl), .val (.ref b1), .val (.int (1 : Int32)), .val (.int (2 : Int32)), .val (.int (3 : Int32)), .val (.ref b6), .val (.int (1 : Int32)), .val (.int (0 : Int32)), .val (.int (1 : Int32)), .val (.int (0 : Int32)), .val (.int (2 : Int32)), .val (.int (3 : Int32)), .val (.int (-1 : Int32)), .unset, .unset, .unset, .unset, .unset] (hb hby at_234) rfl ?_
      refine Own.aloadN X15 hx (pc := 236) (hb hby at_236) rfl rfl ?_
      refine Own.iconst X15 hx (pc := 237) (0 : Int32) (hb hby at_237) (by decide) ?_
      refine Own.callVirtual X15 hx hZ (pc := 238) (y := (⟨"com/example/sprigdex/sprigdex/index/html/HtmlTree", "firstChild", "(I)I"⟩ : MethodName)) (z := (⟨"com/example/sprigdex/sprigdex/index/html/HtmlTree", "firstChild", "(I)I"⟩ : MethodName)) hown (Wd hw 113 rfl) (Wd hw 114 rfl) (Wd hw 116 rfl) (Wd hw 115 rfl) (Wd hw 2 rfl) (Wd hw 117 rfl) (Wd hw 116 rfl) (by decide) 0 b1 [(.int (0 : Int32))] [] E_b1 (rm16 l Z a0 hw b1 (0 : Int32) fc_2 ((.int (-1 : Int32)) :: (.int (-1 : Int32)) :: (.int (-1 : Int32)) :: (.int (-1 : Int32)) :: own_tl) (-1 : Int32) T13.heap n0 sz13 F_b1_firstChild V_fc_2 (by decide) rfl) (by decide) (by decide) e15 (by rw [hml]; rfl) pd7 rfl rfl (Nat.le_of_eq rfl) (hb hby at_238) (by decide) (by decide) ?_
      intro T16 L16 v16 X16 hQ16
      obtain ⟨rfl, Nq16, e16⟩ := hQ16
      have N16 := Fr.app N15 Nq16
      show Own.Go p e below _ (T16.setTop (mkF m 241 #[.val (.int sh), .val (.int pk), .val (.int pl), .val (.ref b1), .val (.int (1 : Int32)), .val (.int (2 : Int32)), .val (.int (3 : Int32)), .val (.ref b6), .val (.int (1 : Int32)), .val (.int (0 : Int32)), .val (.int (1 : Int32)), .val (.int (0 : Int32)), .val (.int (2 : Int32)), .val (.int (3 : Int32)), .val (.int (-1 : Int32)), .unset, .unset, .unset, .unset, .unset] [(.int (-1 : Int32))]))
      refine Own.iload X16 hx (pc := 241) (hb hby at_241) rfl ?_
      refine Own.icmpYes X16 hx (pc := 243) 248 (hb hby at_243) (by decide) (by decide) (by decide) ?_
      refine Own.iloadN X16 hx (pc := 248) (hb hby at_248) rfl ?_
      refine Own.ldcI X16 hx hZ (pc := 249) hown (Wd hw 92 rfl) (hb hby at_249) ?_
      refine Own.iand X16 hx (pc := 251) (hb hby at_251) ?_
      refine Own.iload X16 hx (pc := 252) (hb hby at_252) rfl ?_
      refine Own.iconst X16 hx (pc := 254) (1 : Int32) (hb hby at_254) (by decide) ?_
      refine Own.iadd X16 hx (pc := 255) (hb hby at_255) ?_
      refine Own.topI (show ((0 : Int32) + (1 : Int32)) = (1 : Int32) by decide) ?_
      refine Own.irem X16 hx (pc := 256) (hb hby at_256) (by decide) ?_
      generalize qj17 : ((pl &&& (2147483647 : Int32)) % (1 : Int32)) = j17
      obtain rfl := own_c1 _ qj17
      refine Own.istore X16 hx (pc := 257) #[.val (.int sh), .val (.int pk), .val (.int pl), .val (.ref b1), .val (.int (1 : Int32)), .val (.int (2 : Int32)), .val (.int (3 : Int32)), .val (.ref b6), .val (.int (1 : Int32)), .val (.int (0 : Int32)), .val (.int (1 : Int32)), .val (.int (0 : Int32)), .val (.int (2 : Int32)), .val (.int (3 : Int32)), .val (.int (-1 : Int32)), .val (.int (0 : Int32)), .unset, .unset, .unset, .unset] (hb hby at_257) rfl ?_
      refine Own.iload X16 hx (pc := 259) (hb hby at_259) rfl ?_
      refine Own.iload X16 hx (pc := 261) (hb hby at_261) rfl ?_
      refine Own.icmpNo X16 hx (pc := 263) (hb hby at_263) (by decide) ?_
      refine Own.iconst X16 hx (pc := 266) (-1 : Int32) (hb hby at_266) (by decide) ?_
      refine Own.goto X16 hx (pc := 267) 282 (hb hby at_267) (by decide) (by decide) ?_
      refine Own.istore X16 hx (pc := 282) #[.val (.int sh), .val (.int pk), .val (.int pl), .val (.ref b1), .val (.int (1 : Int32)), .val (.int (2 : Int32)), .val (.int (3 : Int32)), .val (.ref b6), .val (.int (1 : Int32)), .val (.int (0 : Int32)), .val (.int (1 : Int32)), .val (.int (0 : Int32)), .val (.int (2 : Int32)), .val (.int (3 : Int32)), .val (.int (-1 : Int32)), .val (.int (0 : Int32)), .val (.int (-1 : Int32)), .unset, .unset, .unset] (hb hby at_282) rfl ?_
      refine Own.aloadN X16 hx (pc := 284) (hb hby at_284) rfl rfl ?_
      refine Own.iconst X16 hx (pc := 285) (0 : Int32) (hb hby at_285) (by decide) ?_
      refine Own.iload X16 hx (pc := 286) (hb hby at_286) rfl ?_
      refine Own.iload X16 hx (pc := 288) (hb hby at_288) rfl ?_
      refine Own.callVirtual X16 hx hZ (pc := 290) (y := (⟨"com/example/sprigdex/sprigdex/index/html/HtmlTree", "insert", "(III)V"⟩ : MethodName)) (z := (⟨"com/example/sprigdex/sprigdex/index/html/HtmlTree", "insert", "(III)V"⟩ : MethodName)) hown (Wd hw 93 rfl) (Wd hw 94 rfl) (Wd hw 96 rfl) (Wd hw 95 rfl) (Wd hw 2 rfl) (Wd hw 97 rfl) (Wd hw 96 rfl) (by decide) 0 b1 [(.int (0 : Int32)), (.int (1 : Int32)), (.int (-1 : Int32))] [] E_b1 (rmI00 l Z a0 hw b1 (0 : Int32) (1 : Int32) pa_2 fc_2 la_2 pv_2 nx_2 ((.int (-1 : Int32)) :: (.int (-1 : Int32)) :: (.int (-1 : Int32)) :: (.int (-1 : Int32)) :: own_tl) ((.int (-1 : Int32)) :: (.int (-1 : Int32)) :: (.int (-1 : Int32)) :: (.int (-1 : Int32)) :: own_tl) ((.int (-1 : Int32)) :: (.int (-1 : Int32)) :: (.int (-1 : Int32)) :: (.int (-1 : Int32)) :: own_tl) ((.int (-1 : Int32)) :: (.int (-1 : Int32)) :: (.int (-1 : Int32)) :: (.int (-1 : Int32)) :: own_tl) ((.int (-1 : Int32)) :: (.int (-1 : Int32)) :: (.int (-1 : Int32)) :: (.int (-1 : Int32)) :: own_tl) T13.heap n0 sz13 E_b1 F_b1_parent F_b1_firstChild F_b1_lastChild F_b1_previousSibling F_b1_nextSibling V_pa_2 V_fc_2 V_la_2 V_pv_2 V_nx_2 ge_pa_2 ge_fc_2 ge_la_2 ge_pv_2 ge_nx_2 ne_b1_pa_2 ne_b1_fc_2 ne_b1_la_2 ne_b1_pv_2 ne_b1_nx_2 ne_pa_2_fc_2 ne_pa_2_la_2 ne_pa_2_pv_2 ne_pa_2_nx_2 ne_fc_2_la_2 ne_fc_2_pv_2 ne_fc_2_nx_2 ne_la_2_pv_2 ne_la_2_nx_2 ne_pv_2_nx_2 rfl rfl rfl rfl rfl (by decide) (by decide) (by decide) (by decide) rfl rfl) (by decide) (by decide) e16 (by rw [hml]; rfl) pd11 rfl rfl (Nat.le_of_eq rfl) (hb hby at_290) (by decide) (by decide) ?_
      intro T18 L18 v18 X18 hQ18
      obtain ⟨rfl, Nq18, K18, V_pa_2', V_fc_2', V_la_2', V_pv_2', V_nx_2'⟩ := hQ18
      have e18 : T18.heap = T18.heap := rfl
      have E_b1 := E_b1.keep K18
      have F_b1_parent := F_b1_parent.keep K18 (ninS ne_b1_pa_2 (ninS ne_b1_fc_2 (ninS ne_b1_la_2 (ninS ne_b1_pv_2 (ninS ne_b1_nx_2 nin0)))))
      have F_b1_firstChild := F_b1_firstChild.keep K18 (ninS ne_b1_pa_2 (ninS ne_b1_fc_2 (ninS ne_b1_la_2 (ninS ne_b1_pv_2 (ninS ne_b1_nx_2 nin0)))))
      have F_b1_lastChild := F_b1_lastChild.keep K18 (ninS ne_b1_pa_2 (ninS ne_b1_fc_2 (ninS ne_b1_la_2 (ninS ne_b1_pv_2 (ninS ne_b1_nx_2 nin0)))))
      have F_b1_previousSibling := F_b1_previousSibling.keep K18 (ninS ne_b1_pa_2 (ninS ne_b1_fc_2 (ninS ne_b1_la_2 (ninS ne_b1_pv_2 (ninS ne_b1_nx_2 nin0)))))
      have F_b1_nextSibling := F_b1_nextSibling.keep K18 (ninS ne_b1_pa_2 (ninS ne_b1_fc_2 (ninS ne_b1_la_2 (ninS ne_b1_pv_2 (ninS ne_b1_nx_2 nin0)))))
      have V_b6 := V_b6.keep K18 (ninS (Ne.symm ne_pa_2_b6) (ninS (Ne.symm ne_fc_2_b6) (ninS (Ne.symm ne_la_2_b6) (ninS (Ne.symm ne_pv_2_b6) (ninS (Ne.symm ne_nx_2_b6) nin0)))))
      have sz18 : n0 ≤ T18.heap.size := Nat.le_trans sz13 K18.1
      have V_pa_2 : Own.VArr Z T18.heap pa_2 .int ((.int (-1 : Int32)) :: (.int (0 : Int32)) :: (.int (-1 : Int32)) :: (.int (-1 : Int32)) :: own_tl) := V_pa_2'
      have V_fc_2 : Own.VArr Z T18.heap fc_2 .int ((.int (1 : Int32)) :: (.int (-1 : Int32)) :: (.int (-1 : Int32)) :: (.int (-1 : Int32)) :: own_tl) := V_fc_2'
      have V_la_2 : Own.VArr Z T18.heap la_2 .int ((.int (1 : Int32)) :: (.int (-1 : Int32)) :: (.int (-1 : Int32)) :: (.int (-1 : Int32)) :: own_tl) := V_la_2'
      have V_pv_2 : Own.VArr Z T18.heap pv_2 .int ((.int (-1 : Int32)) :: (.int (-1 : Int32)) :: (.int (-1 : Int32)) :: (.int (-1 : Int32)) :: own_tl) := V_pv_2'
      have V_nx_2 : Own.VArr Z T18.heap nx_2 .int ((.int (-1 : Int32)) :: (.int (-1 : Int32)) :: (.int (-1 : Int32)) :: (.int (-1 : Int32)) :: own_tl) := V_nx_2'
      have N18 := Fr.app N16 Nq18
      show Own.Go p e below _ (T18.setTop (mkF m 293 #[.val (.int sh), .val (.int pk), .val (.int pl), .val (.ref b1), .val (.int (1 : Int32)), .val (.int (2 : Int32)), .val (.int (3 : Int32)), .val (.ref b6), .val (.int (1 : Int32)), .val (.int (0 : Int32)), .val (.int (1 : Int32)), .val (.int (0 : Int32)), .val (.int (2 : Int32)), .val (.int (3 : Int32)), .val (.int (-1 : Int32)), .val (.int (0 : Int32)), .val (.int (-1 : Int32)), .unset, .unset, .unset] []))
      refine Own.iload X18 hx (pc := 293) (hb hby at_293) rfl ?_
      refine Own.iload X18 hx (pc := 295) (hb hby at_295) rfl ?_
      refine Own.iload X18 hx (pc := 297) (hb hby at_297) rfl ?_
      refine Own.iload X18 hx (pc := 299) (hb hby at_299) rfl ?_
      refine Own.iconst X18 hx (pc := 301) (0 : Int32) (hb hby at_301) (by decide) ?_
      refine Own.callStatic X18 hx hZ (pc := 302) (y := (⟨"com/example/sprigdex/sprigdex/index/html/HtmlTreeDetachPinLaw", "at", "(IIIII)I"⟩ : MethodName)) hown (Wd hw 123 rfl) (Wd hw 124 rfl) (Wd hw 111 rfl) (Wd hw 125 rfl) (by decide) 0 [(.int (2 : Int32)), (.int (3 : Int32)), (.int (1 : Int32)), (.int (0 : Int32)), (.int (0 : Int32))] [] (rm18 l Z a0 hw (2 : Int32) (3 : Int32) (1 : Int32) (0 : Int32) (0 : Int32) T18.heap n0 sz18 ) (by decide) (by decide) e18 (by rw [hml]; rfl) pd12 rfl rfl (Nat.le_of_eq rfl) (hb hby at_302) (by decide) (by decide) ?_
      intro T19 L19 v19 X19 hQ19
      obtain ⟨rfl, Nq19, e19⟩ := hQ19
      have N19 := Fr.app N18 Nq19
      show Own.Go p e below _ (T19.setTop (mkF m 305 #[.val (.int sh), .val (.int pk), .val (.int pl), .val (.ref b1), .val (.int (1 : Int32)), .val (.int (2 : Int32)), .val (.int (3 : Int32)), .val (.ref b6), .val (.int (1 : Int32)), .val (.int (0 : Int32)), .val (.int (1 : Int32)), .val (.int (0 : Int32)), .val (.int (2 : Int32)), .val (.int (3 : Int32)), .val (.int (-1 : Int32)), .val (.int (0 : Int32)), .val (.int (-1 : Int32)), .unset, .unset, .unset] [(.int (1 : Int32))]))
      refine Own.istore X19 hx (pc := 305) #[.val (.int sh), .val (.int pk), .val (.int pl), .val (.ref b1), .val (.int (1 : Int32)), .val (.int (2 : Int32)), .val (.int (3 : Int32)), .val (.ref b6), .val (.int (1 : Int32)), .val (.int (0 : Int32)), .val (.int (1 : Int32)), .val (.int (0 : Int32)), .val (.int (2 : Int32)), .val (.int (3 : Int32)), .val (.int (-1 : Int32)), .val (.int (0 : Int32)), .val (.int (-1 : Int32)), .val (.int (1 : Int32)), .unset, .unset] (hb hby at_305) rfl ?_
      refine Own.iload X19 hx (pc := 307) (hb hby at_307) rfl ?_
      refine Own.iload X19 hx (pc := 309) (hb hby at_309) rfl ?_
      refine Own.iload X19 hx (pc := 311) (hb hby at_311) rfl ?_
      refine Own.iload X19 hx (pc := 313) (hb hby at_313) rfl ?_
      refine Own.iconst X19 hx (pc := 315) (1 : Int32) (hb hby at_315) (by decide) ?_
      refine Own.callStatic X19 hx hZ (pc := 316) (y := (⟨"com/example/sprigdex/sprigdex/index/html/HtmlTreeDetachPinLaw", "at", "(IIIII)I"⟩ : MethodName)) hown (Wd hw 123 rfl) (Wd hw 124 rfl) (Wd hw 111 rfl) (Wd hw 125 rfl) (by decide) 0 [(.int (2 : Int32)), (.int (3 : Int32)), (.int (1 : Int32)), (.int (0 : Int32)), (.int (1 : Int32))] [] (rm18 l Z a0 hw (2 : Int32) (3 : Int32) (1 : Int32) (0 : Int32) (1 : Int32) T18.heap n0 sz18 ) (by decide) (by decide) e19 (by rw [hml]; rfl) pd12 rfl rfl (Nat.le_of_eq rfl) (hb hby at_316) (by decide) (by decide) ?_
      intro T20 L20 v20 X20 hQ20
      obtain ⟨rfl, Nq20, e20⟩ := hQ20
      have N20 := Fr.app N19 Nq20
      show Own.Go p e below _ (T20.setTop (mkF m 319 #[.val (.int sh), .val (.int pk), .val (.int pl), .val (.ref b1), .val (.int (1 : Int32)), .val (.int (2 : Int32)), .val (.int (3 : Int32)), .val (.ref b6), .val (.int (1 : Int32)), .val (.int (0 : Int32)), .val (.int (1 : Int32)), .val (.int (0 : Int32)), .val (.int (2 : Int32)), .val (.int (3 : Int32)), .val (.int (-1 : Int32)), .val (.int (0 : Int32)), .val (.int (-1 : Int32)), .val (.int (1 : Int32)), .unset, .unset] [(.int (2 : Int32))]))
      refine Own.istore X20 hx (pc := 319) #[.val (.int sh), .val (.int pk), .val (.int pl), .val (.ref b1), .val (.int (1 : Int32)), .val (.int (2 : Int32)), .val (.int (3 : Int32)), .val (.ref b6), .val (.int (1 : Int32)), .val (.int (0 : Int32)), .val (.int (1 : Int32)), .val (.int (0 : Int32)), .val (.int (2 : Int32)), .val (.int (3 : Int32)), .val (.int (-1 : Int32)), .val (.int (0 : Int32)), .val (.int (-1 : Int32)), .val (.int (1 : Int32)), .val (.int (2 : Int32)), .unset] (hb hby at_319) rfl ?_
      refine Own.iload X20 hx (pc := 321) (hb hby at_321) rfl ?_
      refine Own.iload X20 hx (pc := 323) (hb hby at_323) rfl ?_
      refine Own.iload X20 hx (pc := 325) (hb hby at_325) rfl ?_
      refine Own.iload X20 hx (pc := 327) (hb hby at_327) rfl ?_
      refine Own.iconst X20 hx (pc := 329) (2 : Int32) (hb hby at_329) (by decide) ?_
      refine Own.callStatic X20 hx hZ (pc := 330) (y := (⟨"com/example/sprigdex/sprigdex/index/html/HtmlTreeDetachPinLaw", "at", "(IIIII)I"⟩ : MethodName)) hown (Wd hw 123 rfl) (Wd hw 124 rfl) (Wd hw 111 rfl) (Wd hw 125 rfl) (by decide) 0 [(.int (2 : Int32)), (.int (3 : Int32)), (.int (1 : Int32)), (.int (0 : Int32)), (.int (2 : Int32))] [] (rm18 l Z a0 hw (2 : Int32) (3 : Int32) (1 : Int32) (0 : Int32) (2 : Int32) T18.heap n0 sz18 ) (by decide) (by decide) e20 (by rw [hml]; rfl) pd12 rfl rfl (Nat.le_of_eq rfl) (hb hby at_330) (by decide) (by decide) ?_
      intro T21 L21 v21 X21 hQ21
      obtain ⟨rfl, Nq21, e21⟩ := hQ21
      have N21 := Fr.app N20 Nq21
      show Own.Go p e below _ (T21.setTop (mkF m 333 #[.val (.int sh), .val (.int pk), .val (.int pl), .val (.ref b1), .val (.int (1 : Int32)), .val (.int (2 : Int32)), .val (.int (3 : Int32)), .val (.ref b6), .val (.int (1 : Int32)), .val (.int (0 : Int32)), .val (.int (1 : Int32)), .val (.int (0 : Int32)), .val (.int (2 : Int32)), .val (.int (3 : Int32)), .val (.int (-1 : Int32)), .val (.int (0 : Int32)), .val (.int (-1 : Int32)), .val (.int (1 : Int32)), .val (.int (2 : Int32)), .unset] [(.int (3 : Int32))]))
      refine Own.istore X21 hx (pc := 333) #[.val (.int sh), .val (.int pk), .val (.int pl), .val (.ref b1), .val (.int (1 : Int32)), .val (.int (2 : Int32)), .val (.int (3 : Int32)), .val (.ref b6), .val (.int (1 : Int32)), .val (.int (0 : Int32)), .val (.int (1 : Int32)), .val (.int (0 : Int32)), .val (.int (2 : Int32)), .val (.int (3 : Int32)), .val (.int (-1 : Int32)), .val (.int (0 : Int32)), .val (.int (-1 : Int32)), .val (.int (1 : Int32)), .val (.int (2 : Int32)), .val (.int (3 : Int32))] (hb hby at_333) rfl ?_
      refine Own.aloadN X21 hx (pc := 335) (hb hby at_335) rfl rfl ?_
      refine Own.iload X21 hx (pc := 336) (hb hby at_336) rfl ?_
      refine Own.iload X21 hx (pc := 338) (hb hby at_338) rfl ?_
      refine Own.iload X21 hx (pc := 340) (hb hby at_340) rfl ?_
      refine Own.iload X21 hx (pc := 342) (hb hby at_342) rfl ?_
      refine Own.callStatic X21 hx hZ (pc := 344) (y := (⟨"com/example/sprigdex/sprigdex/index/html/HtmlTreeDetachPinLaw", "chain", "(Lcom/example/sprigdex/sprigdex/index/html/HtmlTree;IIII)Z"⟩ : MethodName)) hown (Wd hw 109 rfl) (Wd hw 110 rfl) (Wd hw 111 rfl) (Wd hw 112 rfl) (by decide) 0 [(.ref b1), (.int (1 : Int32)), (.int (2 : Int32)), (.int (3 : Int32)), (.int (1 : Int32))] [] (rmC1 l Z a0 hw b1 (1 : Int32) (2 : Int32) (3 : Int32) pa_2 fc_2 nx_2 ((.int (-1 : Int32)) :: (.int (0 : Int32)) :: (.int (-1 : Int32)) :: (.int (-1 : Int32)) :: own_tl) ((.int (1 : Int32)) :: (.int (-1 : Int32)) :: (.int (-1 : Int32)) :: (.int (-1 : Int32)) :: own_tl) ((.int (-1 : Int32)) :: (.int (-1 : Int32)) :: (.int (-1 : Int32)) :: (.int (-1 : Int32)) :: own_tl) T18.heap n0 sz18 E_b1 F_b1_parent F_b1_firstChild F_b1_nextSibling V_pa_2 V_fc_2 V_nx_2 rfl (by decide) rfl rfl) (by decide) (by decide) e21 (by rw [hml]; rfl) pd13 rfl rfl (Nat.le_of_eq rfl) (hb hby at_344) (by decide) (by decide) ?_
      intro T22 L22 v22 X22 hQ22
      obtain ⟨rfl, Nq22, e22⟩ := hQ22
      have N22 := Fr.app N21 Nq22
      show Own.Go p e below _ (T22.setTop (mkF m 347 #[.val (.int sh), .val (.int pk), .val (.int pl), .val (.ref b1), .val (.int (1 : Int32)), .val (.int (2 : Int32)), .val (.int (3 : Int32)), .val (.ref b6), .val (.int (1 : Int32)), .val (.int (0 : Int32)), .val (.int (1 : Int32)), .val (.int (0 : Int32)), .val (.int (2 : Int32)), .val (.int (3 : Int32)), .val (.int (-1 : Int32)), .val (.int (0 : Int32)), .val (.int (-1 : Int32)), .val (.int (1 : Int32)), .val (.int (2 : Int32)), .val (.int (3 : Int32))] [(.int (1 : Int32))]))
      exact Own.ireturn X22 hx hk hret (by simp) rfl (hb hby at_347) e22 ⟨rfl, N22⟩ (by decide) (by decide)
    · refine Own.istore X11 hx (pc := 105) #[.val (.int sh), .val (.int pk), .val (.int pl), .val (.ref b1), .val (.int (1 : Int32)), .val (.int (2 : Int32)), .val (.int (3 : Int32)), .val (.ref b6), .val (.int (1 : Int32)), .val (.int (1 : Int32)), .unset, .unset, .unset, .unset, .unset, .unset, .unset, .unset, .unset, .unset] (hb hby at_105) rfl ?_
      refine Own.iload X11 hx (pc := 107) (hb hby at_107) rfl ?_
      refine Own.iload X11 hx (pc := 109) (hb hby at_109) rfl ?_
      refine Own.icmpNo X11 hx (pc := 111) (hb hby at_111) (by decide) ?_
      refine Own.aloadN X11 hx (pc := 114) (hb hby at_114) rfl rfl ?_
      refine Own.iconst X11 hx (pc := 115) (0 : Int32) (hb hby at_115) (by decide) ?_
      refine Own.callVirtual X11 hx hZ (pc := 116) (y := (⟨"com/example/sprigdex/sprigdex/index/html/HtmlTree", "detach", "(I)V"⟩ : MethodName)) (z := (⟨"com/example/sprigdex/sprigdex/index/html/HtmlTree", "detach", "(I)V"⟩ : MethodName)) hown (Wd hw 103 rfl) (Wd hw 99 rfl) (Wd hw 101 rfl) (Wd hw 100 rfl) (Wd hw 2 rfl) (Wd hw 102 rfl) (Wd hw 101 rfl) (by decide) 0 b1 [(.int (0 : Int32))] [] E_b1 (rmD0 l Z a0 hw b1 (0 : Int32) pa_2 ((.int (-1 : Int32)) :: (.int (0 : Int32)) :: (.int (-1 : Int32)) :: (.int (-1 : Int32)) :: own_tl) T11.heap n0 sz11 F_b1_parent V_pa_2 (by decide) rfl) (by decide) (by decide) e11 (by rw [hml]; rfl) pd9 rfl rfl (Nat.le_of_eq rfl) (hb hby at_116) (by decide) (by decide) ?_
      intro T23 L23 v23 X23 hQ23
      obtain ⟨rfl, Nq23, e23⟩ := hQ23
      have N23 := Fr.app N11 Nq23
      show Own.Go p e below _ (T23.setTop (mkF m 119 #[.val (.int sh), .val (.int pk), .val (.int pl), .val (.ref b1), .val (.int (1 : Int32)), .val (.int (2 : Int32)), .val (.int (3 : Int32)), .val (.ref b6), .val (.int (1 : Int32)), .val (.int (1 : Int32)), .unset, .unset, .unset, .unset, .unset, .unset, .unset, .unset, .unset, .unset] []))
      refine Own.aloadN X23 hx (pc := 119) (hb hby at_119) rfl rfl ?_
      refine Own.iconst X23 hx (pc := 120) (0 : Int32) (hb hby at_120) (by decide) ?_
      refine Own.callVirtual X23 hx hZ (pc := 121) (y := (⟨"com/example/sprigdex/sprigdex/index/html/HtmlTree", "parent", "(I)I"⟩ : MethodName)) (z := (⟨"com/example/sprigdex/sprigdex/index/html/HtmlTree", "parent", "(I)I"⟩ : MethodName)) hown (Wd hw 104 rfl) (Wd hw 105 rfl) (Wd hw 107 rfl) (Wd hw 106 rfl) (Wd hw 2 rfl) (Wd hw 108 rfl) (Wd hw 107 rfl) (by decide) 0 b1 [(.int (0 : Int32))] [] E_b1 (rm14 l Z a0 hw b1 (0 : Int32) pa_2 ((.int (-1 : Int32)) :: (.int (0 : Int32)) :: (.int (-1 : Int32)) :: (.int (-1 : Int32)) :: own_tl) (-1 : Int32) T11.heap n0 sz11 F_b1_parent V_pa_2 (by decide) rfl) (by decide) (by decide) e23 (by rw [hml]; rfl) pd7 rfl rfl (Nat.le_of_eq rfl) (hb hby at_121) (by decide) (by decide) ?_
      intro T24 L24 v24 X24 hQ24
      obtain ⟨rfl, Nq24, e24⟩ := hQ24
      have N24 := Fr.app N23 Nq24
      show Own.Go p e below _ (T24.setTop (mkF m 124 #[.val (.int sh), .val (.int pk), .val (.int pl), .val (.ref b1), .val (.int (1 : Int32)), .val (.int (2 : Int32)), .val (.int (3 : Int32)), .val (.ref b6), .val (.int (1 : Int32)), .val (.int (1 : Int32)), .unset, .unset, .unset, .unset, .unset, .unset, .unset, .unset, .unset, .unset] [(.int (-1 : Int32))]))
      refine Own.iconst X24 hx (pc := 124) (-1 : Int32) (hb hby at_124) (by decide) ?_
      refine Own.icmpYes X24 hx (pc := 125) 130 (hb hby at_125) (by decide) (by decide) (by decide) ?_
      refine Own.aloadN X24 hx (pc := 130) (hb hby at_130) rfl rfl ?_
      refine Own.iload X24 hx (pc := 131) (hb hby at_131) rfl ?_
      refine Own.iload X24 hx (pc := 133) (hb hby at_133) rfl ?_
      refine Own.iload X24 hx (pc := 135) (hb hby at_135) rfl ?_
      refine Own.iload X24 hx (pc := 137) (hb hby at_137) rfl ?_
      refine Own.callStatic X24 hx hZ (pc := 139) (y := (⟨"com/example/sprigdex/sprigdex/index/html/HtmlTreeDetachPinLaw", "chain", "(Lcom/example/sprigdex/sprigdex/index/html/HtmlTree;IIII)Z"⟩ : MethodName)) hown (Wd hw 109 rfl) (Wd hw 110 rfl) (Wd hw 111 rfl) (Wd hw 112 rfl) (by decide) 0 [(.ref b1), (.int (1 : Int32)), (.int (2 : Int32)), (.int (3 : Int32)), (.int (1 : Int32))] [] (rmC1 l Z a0 hw b1 (1 : Int32) (2 : Int32) (3 : Int32) pa_2 fc_2 nx_2 ((.int (-1 : Int32)) :: (.int (0 : Int32)) :: (.int (-1 : Int32)) :: (.int (-1 : Int32)) :: own_tl) ((.int (1 : Int32)) :: (.int (-1 : Int32)) :: (.int (-1 : Int32)) :: (.int (-1 : Int32)) :: own_tl) ((.int (-1 : Int32)) :: (.int (-1 : Int32)) :: (.int (-1 : Int32)) :: (.int (-1 : Int32)) :: own_tl) T11.heap n0 sz11 E_b1 F_b1_parent F_b1_firstChild F_b1_nextSibling V_pa_2 V_fc_2 V_nx_2 rfl (by decide) rfl rfl) (by decide) (by decide) e24 (by rw [hml]; rfl) pd13 rfl rfl (Nat.le_of_eq rfl) (hb hby at_139) (by decide) (by decide) ?_
      intro T25 L25 v25 X25 hQ25
      obtain ⟨rfl, Nq25, e25⟩ := hQ25
      have N25 := Fr.app N24 Nq25
      show Own.Go p e below _ (T25.setTop (mkF m 142 #[.val (.int sh), .val (.int pk), .val (.int pl), .val (.ref b1), .val (.int (1 : Int32)), .val (.int (2 : Int32)), .val (.int (3 : Int32)), .val (.ref b6), .val (.int (1 : Int32)), .val (.int (1 : Int32)), .unset, .unset, .unset, .unset, .unset, .unset, .unset, .unset, .unset, .unset] [(.int (1 : Int32))]))
      exact Own.ireturn X25 hx hk hret (by simp) rfl (hb hby at_142) e25 ⟨rfl, N25⟩ (by decide) (by decide)
  · refine Own.istore X9 hx (pc := 58) #[.val (.int sh), .val (.int pk), .val (.int pl), .val (.ref b1), .val (.int (1 : Int32)), .val (.int (2 : Int32)), .val (.int (3 : Int32)), .val (.ref b6), .val (.int (2 : Int32)), .unset, .unset, .unset, .unset, .unset, .unset, .unset, .unset, .unset, .unset, .unset] (hb hby at_58) rfl ?_
    refine Own.aloadN X9 hx (pc := 60) (hb hby at_60) rfl rfl ?_
    refine Own.iconst X9 hx (pc := 61) (0 : Int32) (hb hby at_61) (by decide) ?_
    refine Own.iload X9 hx (pc := 62) (hb hby at_62) rfl ?_
    refine Own.iconst X9 hx (pc := 64) (-1 : Int32) (hb hby at_64) (by decide) ?_
    refine Own.callVirtual X9 hx hZ (pc := 65) (y := (⟨"com/example/sprigdex/sprigdex/index/html/HtmlTree", "insert", "(III)V"⟩ : MethodName)) (z := (⟨"com/example/sprigdex/sprigdex/index/html/HtmlTree", "insert", "(III)V"⟩ : MethodName)) hown (Wd hw 93 rfl) (Wd hw 94 rfl) (Wd hw 96 rfl) (Wd hw 95 rfl) (Wd hw 2 rfl) (Wd hw 97 rfl) (Wd hw 96 rfl) (by decide) 0 b1 [(.int (0 : Int32)), (.int (1 : Int32)), (.int (-1 : Int32))] [] E_b1 (rmI00 l Z a0 hw b1 (0 : Int32) (1 : Int32) pa_2 fc_2 la_2 pv_2 nx_2 ((.int (-1 : Int32)) :: (.int (-1 : Int32)) :: (.int (-1 : Int32)) :: (.int (-1 : Int32)) :: own_tl) ((.int (-1 : Int32)) :: (.int (-1 : Int32)) :: (.int (-1 : Int32)) :: (.int (-1 : Int32)) :: own_tl) ((.int (-1 : Int32)) :: (.int (-1 : Int32)) :: (.int (-1 : Int32)) :: (.int (-1 : Int32)) :: own_tl) ((.int (-1 : Int32)) :: (.int (-1 : Int32)) :: (.int (-1 : Int32)) :: (.int (-1 : Int32)) :: own_tl) ((.int (-1 : Int32)) :: (.int (-1 : Int32)) :: (.int (-1 : Int32)) :: (.int (-1 : Int32)) :: own_tl) h9 n0 sz9 E_b1 F_b1_parent F_b1_firstChild F_b1_lastChild F_b1_previousSibling F_b1_nextSibling V_pa_2 V_fc_2 V_la_2 V_pv_2 V_nx_2 ge_pa_2 ge_fc_2 ge_la_2 ge_pv_2 ge_nx_2 ne_b1_pa_2 ne_b1_fc_2 ne_b1_la_2 ne_b1_pv_2 ne_b1_nx_2 ne_pa_2_fc_2 ne_pa_2_la_2 ne_pa_2_pv_2 ne_pa_2_nx_2 ne_fc_2_la_2 ne_fc_2_pv_2 ne_fc_2_nx_2 ne_la_2_pv_2 ne_la_2_nx_2 ne_pv_2_nx_2 rfl rfl rfl rfl rfl (by decide) (by decide) (by decide) (by decide) rfl rfl) (by decide) (by decide) e9 (by rw [hml]; rfl) pd11 rfl rfl (Nat.le_of_eq rfl) (hb hby at_65) (by decide) (by decide) ?_
    intro T26 L26 v26 X26 hQ26
    obtain ⟨rfl, Nq26, K26, V_pa_2', V_fc_2', V_la_2', V_pv_2', V_nx_2'⟩ := hQ26
    have e26 : T26.heap = T26.heap := rfl
    have E_b1 := E_b1.keep K26
    have F_b1_parent := F_b1_parent.keep K26 (ninS ne_b1_pa_2 (ninS ne_b1_fc_2 (ninS ne_b1_la_2 (ninS ne_b1_pv_2 (ninS ne_b1_nx_2 nin0)))))
    have F_b1_firstChild := F_b1_firstChild.keep K26 (ninS ne_b1_pa_2 (ninS ne_b1_fc_2 (ninS ne_b1_la_2 (ninS ne_b1_pv_2 (ninS ne_b1_nx_2 nin0)))))
    have F_b1_lastChild := F_b1_lastChild.keep K26 (ninS ne_b1_pa_2 (ninS ne_b1_fc_2 (ninS ne_b1_la_2 (ninS ne_b1_pv_2 (ninS ne_b1_nx_2 nin0)))))
    have F_b1_previousSibling := F_b1_previousSibling.keep K26 (ninS ne_b1_pa_2 (ninS ne_b1_fc_2 (ninS ne_b1_la_2 (ninS ne_b1_pv_2 (ninS ne_b1_nx_2 nin0)))))
    have F_b1_nextSibling := F_b1_nextSibling.keep K26 (ninS ne_b1_pa_2 (ninS ne_b1_fc_2 (ninS ne_b1_la_2 (ninS ne_b1_pv_2 (ninS ne_b1_nx_2 nin0)))))
    have V_b6 := V_b6.keep K26 (ninS (Ne.symm ne_pa_2_b6) (ninS (Ne.symm ne_fc_2_b6) (ninS (Ne.symm ne_la_2_b6) (ninS (Ne.symm ne_pv_2_b6) (ninS (Ne.symm ne_nx_2_b6) nin0)))))
    have sz26 : n0 ≤ T26.heap.size := Nat.le_trans sz9 K26.1
    have V_pa_2 : Own.VArr Z T26.heap pa_2 .int ((.int (-1 : Int32)) :: (.int (0 : Int32)) :: (.int (-1 : Int32)) :: (.int (-1 : Int32)) :: own_tl) := V_pa_2'
    have V_fc_2 : Own.VArr Z T26.heap fc_2 .int ((.int (1 : Int32)) :: (.int (-1 : Int32)) :: (.int (-1 : Int32)) :: (.int (-1 : Int32)) :: own_tl) := V_fc_2'
    have V_la_2 : Own.VArr Z T26.heap la_2 .int ((.int (1 : Int32)) :: (.int (-1 : Int32)) :: (.int (-1 : Int32)) :: (.int (-1 : Int32)) :: own_tl) := V_la_2'
    have V_pv_2 : Own.VArr Z T26.heap pv_2 .int ((.int (-1 : Int32)) :: (.int (-1 : Int32)) :: (.int (-1 : Int32)) :: (.int (-1 : Int32)) :: own_tl) := V_pv_2'
    have V_nx_2 : Own.VArr Z T26.heap nx_2 .int ((.int (-1 : Int32)) :: (.int (-1 : Int32)) :: (.int (-1 : Int32)) :: (.int (-1 : Int32)) :: own_tl) := V_nx_2'
    have N26 := Fr.app N9 Nq26
    show Own.Go p e below _ (T26.setTop (mkF m 68 #[.val (.int sh), .val (.int pk), .val (.int pl), .val (.ref b1), .val (.int (1 : Int32)), .val (.int (2 : Int32)), .val (.int (3 : Int32)), .val (.ref b6), .val (.int (2 : Int32)), .unset, .unset, .unset, .unset, .unset, .unset, .unset, .unset, .unset, .unset, .unset] []))
    refine Own.iload X26 hx (pc := 68) (hb hby at_68) rfl ?_
    refine Own.iconst X26 hx (pc := 70) (2 : Int32) (hb hby at_70) (by decide) ?_
    refine Own.icmpNo X26 hx (pc := 71) (hb hby at_71) (by decide) ?_
    refine Own.aloadN X26 hx (pc := 74) (hb hby at_74) rfl rfl ?_
    refine Own.iconst X26 hx (pc := 75) (0 : Int32) (hb hby at_75) (by decide) ?_
    refine Own.iload X26 hx (pc := 76) (hb hby at_76) rfl ?_
    refine Own.iconst X26 hx (pc := 78) (-1 : Int32) (hb hby at_78) (by decide) ?_
    refine Own.callVirtual X26 hx hZ (pc := 79) (y := (⟨"com/example/sprigdex/sprigdex/index/html/HtmlTree", "insert", "(III)V"⟩ : MethodName)) (z := (⟨"com/example/sprigdex/sprigdex/index/html/HtmlTree", "insert", "(III)V"⟩ : MethodName)) hown (Wd hw 93 rfl) (Wd hw 94 rfl) (Wd hw 96 rfl) (Wd hw 95 rfl) (Wd hw 2 rfl) (Wd hw 97 rfl) (Wd hw 96 rfl) (by decide) 0 b1 [(.int (0 : Int32)), (.int (2 : Int32)), (.int (-1 : Int32))] [] E_b1 (rmI01 l Z a0 hw b1 (0 : Int32) (2 : Int32) pa_2 fc_2 la_2 pv_2 nx_2 ((.int (-1 : Int32)) :: (.int (0 : Int32)) :: (.int (-1 : Int32)) :: (.int (-1 : Int32)) :: own_tl) ((.int (1 : Int32)) :: (.int (-1 : Int32)) :: (.int (-1 : Int32)) :: (.int (-1 : Int32)) :: own_tl) ((.int (1 : Int32)) :: (.int (-1 : Int32)) :: (.int (-1 : Int32)) :: (.int (-1 : Int32)) :: own_tl) ((.int (-1 : Int32)) :: (.int (-1 : Int32)) :: (.int (-1 : Int32)) :: (.int (-1 : Int32)) :: own_tl) ((.int (-1 : Int32)) :: (.int (-1 : Int32)) :: (.int (-1 : Int32)) :: (.int (-1 : Int32)) :: own_tl) (1 : Int32) T26.heap n0 sz26 E_b1 F_b1_parent F_b1_firstChild F_b1_lastChild F_b1_previousSibling F_b1_nextSibling V_pa_2 V_fc_2 V_la_2 V_pv_2 V_nx_2 ge_pa_2 ge_fc_2 ge_la_2 ge_pv_2 ge_nx_2 ne_b1_pa_2 ne_b1_fc_2 ne_b1_la_2 ne_b1_pv_2 ne_b1_nx_2 ne_pa_2_fc_2 ne_pa_2_la_2 ne_pa_2_pv_2 ne_pa_2_nx_2 ne_fc_2_la_2 ne_fc_2_pv_2 ne_fc_2_nx_2 ne_la_2_pv_2 ne_la_2_nx_2 ne_pv_2_nx_2 rfl rfl rfl rfl rfl (by decide) (by decide) (by decide) (by decide) (by decide) (by decide) rfl rfl (by decide)) (by decide) (by decide) e26 (by rw [hml]; rfl) pd11 rfl rfl (Nat.le_of_eq rfl) (hb hby at_79) (by decide) (by decide) ?_
    intro T27 L27 v27 X27 hQ27
    obtain ⟨rfl, Nq27, K27, V_pa_2', V_fc_2', V_la_2', V_pv_2', V_nx_2'⟩ := hQ27
    have e27 : T27.heap = T27.heap := rfl
    have E_b1 := E_b1.keep K27
    have F_b1_parent := F_b1_parent.keep K27 (ninS ne_b1_pa_2 (ninS ne_b1_fc_2 (ninS ne_b1_la_2 (ninS ne_b1_pv_2 (ninS ne_b1_nx_2 nin0)))))
    have F_b1_firstChild := F_b1_firstChild.keep K27 (ninS ne_b1_pa_2 (ninS ne_b1_fc_2 (ninS ne_b1_la_2 (ninS ne_b1_pv_2 (ninS ne_b1_nx_2 nin0)))))
    have F_b1_lastChild := F_b1_lastChild.keep K27 (ninS ne_b1_pa_2 (ninS ne_b1_fc_2 (ninS ne_b1_la_2 (ninS ne_b1_pv_2 (ninS ne_b1_nx_2 nin0)))))
    have F_b1_previousSibling := F_b1_previousSibling.keep K27 (ninS ne_b1_pa_2 (ninS ne_b1_fc_2 (ninS ne_b1_la_2 (ninS ne_b1_pv_2 (ninS ne_b1_nx_2 nin0)))))
    have F_b1_nextSibling := F_b1_nextSibling.keep K27 (ninS ne_b1_pa_2 (ninS ne_b1_fc_2 (ninS ne_b1_la_2 (ninS ne_b1_pv_2 (ninS ne_b1_nx_2 nin0)))))
    have V_b6 := V_b6.keep K27 (ninS (Ne.symm ne_pa_2_b6) (ninS (Ne.symm ne_fc_2_b6) (ninS (Ne.symm ne_la_2_b6) (ninS (Ne.symm ne_pv_2_b6) (ninS (Ne.symm ne_nx_2_b6) nin0)))))
    have sz27 : n0 ≤ T27.heap.size := Nat.le_trans sz26 K27.1
    have V_pa_2 : Own.VArr Z T27.heap pa_2 .int ((.int (-1 : Int32)) :: (.int (0 : Int32)) :: (.int (0 : Int32)) :: (.int (-1 : Int32)) :: own_tl) := V_pa_2'
    have V_fc_2 : Own.VArr Z T27.heap fc_2 .int ((.int (1 : Int32)) :: (.int (-1 : Int32)) :: (.int (-1 : Int32)) :: (.int (-1 : Int32)) :: own_tl) := V_fc_2'
    have V_la_2 : Own.VArr Z T27.heap la_2 .int ((.int (2 : Int32)) :: (.int (-1 : Int32)) :: (.int (-1 : Int32)) :: (.int (-1 : Int32)) :: own_tl) := V_la_2'
    have V_pv_2 : Own.VArr Z T27.heap pv_2 .int ((.int (-1 : Int32)) :: (.int (-1 : Int32)) :: (.int (1 : Int32)) :: (.int (-1 : Int32)) :: own_tl) := V_pv_2'
    have V_nx_2 : Own.VArr Z T27.heap nx_2 .int ((.int (-1 : Int32)) :: (.int (2 : Int32)) :: (.int (-1 : Int32)) :: (.int (-1 : Int32)) :: own_tl) := V_nx_2'
    have N27 := Fr.app N26 Nq27
    show Own.Go p e below _ (T27.setTop (mkF m 82 #[.val (.int sh), .val (.int pk), .val (.int pl), .val (.ref b1), .val (.int (1 : Int32)), .val (.int (2 : Int32)), .val (.int (3 : Int32)), .val (.ref b6), .val (.int (2 : Int32)), .unset, .unset, .unset, .unset, .unset, .unset, .unset, .unset, .unset, .unset, .unset] []))
    refine Own.iload X27 hx (pc := 82) (hb hby at_82) rfl ?_
    refine Own.iconst X27 hx (pc := 84) (3 : Int32) (hb hby at_84) (by decide) ?_
    refine Own.icmpYes X27 hx (pc := 85) 96 (hb hby at_85) (by decide) (by decide) (by decide) ?_
    refine Own.iloadN X27 hx (pc := 96) (hb hby at_96) rfl ?_
    refine Own.ldcI X27 hx hZ (pc := 97) hown (Wd hw 92 rfl) (hb hby at_97) ?_
    refine Own.iand X27 hx (pc := 99) (hb hby at_99) ?_
    refine Own.iload X27 hx (pc := 100) (hb hby at_100) rfl ?_
    refine Own.iconst X27 hx (pc := 102) (1 : Int32) (hb hby at_102) (by decide) ?_
    refine Own.iadd X27 hx (pc := 103) (hb hby at_103) ?_
    refine Own.topI (show ((2 : Int32) + (1 : Int32)) = (3 : Int32) by decide) ?_
    refine Own.irem X27 hx (pc := 104) (hb hby at_104) (by decide) ?_
    generalize qk28 : ((pk &&& (2147483647 : Int32)) % (3 : Int32)) = k28
    rcases own_c3 _ qk28 with rfl | rfl | rfl
    · refine Own.istore X27 hx (pc := 105) #[.val (.int sh), .val (.int pk), .val (.int pl), .val (.ref b1), .val (.int (1 : Int32)), .val (.int (2 : Int32)), .val (.int (3 : Int32)), .val (.ref b6), .val (.int (2 : Int32)), .val (.int (0 : Int32)), .unset, .unset, .unset, .unset, .unset, .unset, .unset, .unset, .unset, .unset] (hb hby at_105) rfl ?_
      refine Own.iload X27 hx (pc := 107) (hb hby at_107) rfl ?_
      refine Own.iload X27 hx (pc := 109) (hb hby at_109) rfl ?_
      refine Own.icmpYes X27 hx (pc := 111) 143 (hb hby at_111) (by decide) (by decide) (by decide) ?_
      refine Own.aload X27 hx (pc := 143) (hb hby at_143) rfl rfl ?_
      refine Own.iload X27 hx (pc := 145) (hb hby at_145) rfl ?_
      refine Own.iaload X27 hx hZ (pc := 147) e27 V_b6 (v := (.int (1 : Int32))) 0 (by decide) (by decide) rfl (hb hby at_147) ?_
      refine Own.istore X27 hx (pc := 148) #[.val (.int sh), .val (.int pk), .val (.int pl), .val (.ref b1), .val (.int (1 : Int32)), .val (.int (2 : Int32)), .val (.int (3 : Int32)), .val (.ref b6), .val (.int (2 : Int32)), .val (.int (0 : Int32)), .val (.int (1 : Int32)), .unset, .unset, .unset, .unset, .unset, .unset, .unset, .unset, .unset] (hb hby at_148) rfl ?_
      refine Own.aloadN X27 hx (pc := 150) (hb hby at_150) rfl rfl ?_
      refine Own.iload X27 hx (pc := 151) (hb hby at_151) rfl ?_
      refine Own.callVirtual X27 hx hZ (pc := 153) (y := (⟨"com/example/sprigdex/sprigdex/index/html/HtmlTree", "detach", "(I)V"⟩ : MethodName)) (z := (⟨"com/example/sprigdex/sprigdex/index/html/HtmlTree", "detach", "(I)V"⟩ : MethodName)) hown (Wd hw 103 rfl) (Wd hw 99 rfl) (Wd hw 101 rfl) (Wd hw 100 rfl) (Wd hw 2 rfl) (Wd hw 102 rfl) (Wd hw 101 rfl) (by decide) 0 b1 [(.int (1 : Int32))] [] E_b1 (rmD01 l Z a0 hw b1 (1 : Int32) pa_2 fc_2 la_2 pv_2 nx_2 ((.int (-1 : Int32)) :: (.int (0 : Int32)) :: (.int (0 : Int32)) :: (.int (-1 : Int32)) :: own_tl) ((.int (1 : Int32)) :: (.int (-1 : Int32)) :: (.int (-1 : Int32)) :: (.int (-1 : Int32)) :: own_tl) ((.int (2 : Int32)) :: (.int (-1 : Int32)) :: (.int (-1 : Int32)) :: (.int (-1 : Int32)) :: own_tl) ((.int (-1 : Int32)) :: (.int (-1 : Int32)) :: (.int (1 : Int32)) :: (.int (-1 : Int32)) :: own_tl) ((.int (-1 : Int32)) :: (.int (2 : Int32)) :: (.int (-1 : Int32)) :: (.int (-1 : Int32)) :: own_tl) (0 : Int32) (2 : Int32) T27.heap n0 sz27 F_b1_parent F_b1_firstChild F_b1_lastChild F_b1_previousSibling F_b1_nextSibling V_pa_2 V_fc_2 V_la_2 V_pv_2 V_nx_2 ge_pa_2 ge_fc_2 ge_la_2 ge_pv_2 ge_nx_2 ne_b1_pa_2 ne_b1_fc_2 ne_b1_la_2 ne_b1_pv_2 ne_b1_nx_2 ne_pa_2_fc_2 ne_pa_2_la_2 ne_pa_2_pv_2 ne_pa_2_nx_2 ne_fc_2_la_2 ne_fc_2_pv_2 ne_fc_2_nx_2 ne_la_2_pv_2 ne_la_2_nx_2 ne_pv_2_nx_2 rfl rfl rfl rfl rfl (by decide) (by decide) (by decide) (by decide) (by decide) (by decide) rfl rfl rfl (by decide) (by decide)) (by decide) (by decide) e27 (by rw [hml]; rfl) pd9 rfl rfl (Nat.le_of_eq rfl) (hb hby at_153) (by decide) (by decide) ?_
      intro T29 L29 v29 X29 hQ29
      obtain ⟨rfl, Nq29, K29, V_pa_2', V_fc_2', V_la_2', V_pv_2', V_nx_2'⟩ := hQ29
      have e29 : T29.heap = T29.heap := rfl
      have E_b1 := E_b1.keep K29
      have F_b1_parent := F_b1_parent.keep K29 (ninS ne_b1_pa_2 (ninS ne_b1_fc_2 (ninS ne_b1_la_2 (ninS ne_b1_pv_2 (ninS ne_b1_nx_2 nin0)))))
      have F_b1_firstChild := F_b1_firstChild.keep K29 (ninS ne_b1_pa_2 (ninS ne_b1_fc_2 (ninS ne_b1_la_2 (ninS ne_b1_pv_2 (ninS ne_b1_nx_2 nin0)))))
      have F_b1_lastChild := F_b1_lastChild.keep K29 (ninS ne_b1_pa_2 (ninS ne_b1_fc_2 (ninS ne_b1_la_2 (ninS ne_b1_pv_2 (ninS ne_b1_nx_2 nin0)))))
      have F_b1_previousSibling := F_b1_previousSibling.keep K29 (ninS ne_b1_pa_2 (ninS ne_b1_fc_2 (ninS ne_b1_la_2 (ninS ne_b1_pv_2 (ninS ne_b1_nx_2 nin0)))))
      have F_b1_nextSibling := F_b1_nextSibling.keep K29 (ninS ne_b1_pa_2 (ninS ne_b1_fc_2 (ninS ne_b1_la_2 (ninS ne_b1_pv_2 (ninS ne_b1_nx_2 nin0)))))
      have V_b6 := V_b6.keep K29 (ninS (Ne.symm ne_pa_2_b6) (ninS (Ne.symm ne_fc_2_b6) (ninS (Ne.symm ne_la_2_b6) (ninS (Ne.symm ne_pv_2_b6) (ninS (Ne.symm ne_nx_2_b6) nin0)))))
      have sz29 : n0 ≤ T29.heap.size := Nat.le_trans sz27 K29.1
      have V_pa_2 : Own.VArr Z T29.heap pa_2 .int ((.int (-1 : Int32)) :: (.int (-1 : Int32)) :: (.int (0 : Int32)) :: (.int (-1 : Int32)) :: own_tl) := V_pa_2'
      have V_fc_2 : Own.VArr Z T29.heap fc_2 .int ((.int (2 : Int32)) :: (.int (-1 : Int32)) :: (.int (-1 : Int32)) :: (.int (-1 : Int32)) :: own_tl) := V_fc_2'
      have V_la_2 : Own.VArr Z T29.heap la_2 .int ((.int (2 : Int32)) :: (.int (-1 : Int32)) :: (.int (-1 : Int32)) :: (.int (-1 : Int32)) :: own_tl) := V_la_2'
      have V_pv_2 : Own.VArr Z T29.heap pv_2 .int ((.int (-1 : Int32)) :: (.int (-1 : Int32)) :: (.int (-1 : Int32)) :: (.int (-1 : Int32)) :: own_tl) := V_pv_2'
      have V_nx_2 : Own.VArr Z T29.heap nx_2 .int ((.int (-1 : Int32)) :: (.int (-1 : Int32)) :: (.int (-1 : Int32)) :: (.int (-1 : Int32)) :: own_tl) := V_nx_2'
      have N29 := Fr.app N27 Nq29
      show Own.Go p e below _ (T29.setTop (mkF m 156 #[.val (.int sh), .val (.int pk), .val (.int pl), .val (.ref b1), .val (.int (1 : Int32)), .val (.int (2 : Int32)), .val (.int (3 : Int32)), .val (.ref b6), .val (.int (2 : Int32)), .val (.int (0 : Int32)), .val (.int (1 : Int32)), .unset, .unset, .unset, .unset, .unset, .unset, .unset, .unset, .unset] []))
      refine Own.aloadN X29 hx (pc := 156) (hb hby at_156) rfl rfl ?_
      refine Own.iload X29 hx (pc := 157) (hb hby at_157) rfl ?_
      refine Own.callVirtual X29 hx hZ (pc := 159) (y := (⟨"com/example/sprigdex/sprigdex/index/html/HtmlTree", "parent", "(I)I"⟩ : MethodName)) (z := (⟨"com/example/sprigdex/sprigdex/index/html/HtmlTree", "parent", "(I)I"⟩ : MethodName)) hown (Wd hw 104 rfl) (Wd hw 105 rfl) (Wd hw 107 rfl) (Wd hw 106 rfl) (Wd hw 2 rfl) (Wd hw 108 rfl) (Wd hw 107 rfl) (by decide) 0 b1 [(.int (1 : Int32))] [] E_b1 (rm14 l Z a0 hw b1 (1 : Int32) pa_2 ((.int (-1 : Int32)) :: (.int (-1 : Int32)) :: (.int (0 : Int32)) :: (.int (-1 : Int32)) :: own_tl) (-1 : Int32) T29.heap n0 sz29 F_b1_parent V_pa_2 (by decide) rfl) (by decide) (by decide) e29 (by rw [hml]; rfl) pd7 rfl rfl (Nat.le_of_eq rfl) (hb hby at_159) (by decide) (by decide) ?_
      intro T30 L30 v30 X30 hQ30
      obtain ⟨rfl, Nq30, e30⟩ := hQ30
      have N30 := Fr.app N29 Nq30
      show Own.Go p e below _ (T30.setTop (mkF m 162 #[.val (.int sh), .val (.int pk), .val (.int pl), .val (.ref b1), .val (.int (1 : Int32)), .val (.int (2 : Int32)), .val (.int (3 : Int32)), .val (.ref b6), .val (.int (2 : Int32)), .val (.int (0 : Int32)), .val (.int (1 : Int32)), .unset, .unset, .unset, .unset, .unset, .unset, .unset, .unset, .unset] [(.int (-1 : Int32))]))
      refine Own.iconst X30 hx (pc := 162) (-1 : Int32) (hb hby at_162) (by decide) ?_
      refine Own.icmpYes X30 hx (pc := 163) 168 (hb hby at_163) (by decide) (by decide) (by decide) ?_
      refine Own.aloadN X30 hx (pc := 168) (hb hby at_168) rfl rfl ?_
      refine Own.iload X30 hx (pc := 169) (hb hby at_169) rfl ?_
      refine Own.callVirtual X30 hx hZ (pc := 171) (y := (⟨"com/example/sprigdex/sprigdex/index/html/HtmlTree", "nextSibling", "(I)I"⟩ : MethodName)) (z := (⟨"com/example/sprigdex/sprigdex/index/html/HtmlTree", "nextSibling", "(I)I"⟩ : MethodName)) hown (Wd hw 118 rfl) (Wd hw 119 rfl) (Wd hw 121 rfl) (Wd hw 120 rfl) (Wd hw 2 rfl) (Wd hw 122 rfl) (Wd hw 121 rfl) (by decide) 0 b1 [(.int (1 : Int32))] [] E_b1 (rm17 l Z a0 hw b1 (1 : Int32) nx_2 ((.int (-1 : Int32)) :: (.int (-1 : Int32)) :: (.int (-1 : Int32)) :: (.int (-1 : Int32)) :: own_tl) (-1 : Int32) T29.heap n0 sz29 F_b1_nextSibling V_nx_2 (by decide) rfl) (by decide) (by decide) e30 (by rw [hml]; rfl) pd7 rfl rfl (Nat.le_of_eq rfl) (hb hby at_171) (by decide) (by decide) ?_
      intro T31 L31 v31 X31 hQ31
      obtain ⟨rfl, Nq31, e31⟩ := hQ31
      have N31 := Fr.app N30 Nq31
      show Own.Go p e below _ (T31.setTop (mkF m 174 #[.val (.int sh), .val (.int pk), .val (.int pl), .val (.ref b1), .val (.int (1 : Int32)), .val (.int (2 : Int32)), .val (.int (3 : Int32)), .val (.ref b6), .val (.int (2 : Int32)), .val (.int (0 : Int32)), .val (.int (1 : Int32)), .unset, .unset, .unset, .unset, .unset, .unset, .unset, .unset, .unset] [(.int (-1 : Int32))]))
      refine Own.iconst X31 hx (pc := 174) (-1 : Int32) (hb hby at_174) (by decide) ?_
      refine Own.icmpYes X31 hx (pc := 175) 180 (hb hby at_175) (by decide) (by decide) (by decide) ?_
      refine Own.iload X31 hx (pc := 180) (hb hby at_180) rfl ?_
      refine Own.iconst X31 hx (pc := 182) (1 : Int32) (hb hby at_182) (by decide) ?_
      refine Own.isub X31 hx (pc := 183) (hb hby at_183) ?_
      refine Own.topI (show ((2 : Int32) - (1 : Int32)) = (1 : Int32) by decide) ?_
      refine Own.istore X31 hx (pc := 184) #[.val (.int sh), .val (.int pk), .val (.int pl), .val (.ref b1), .val (.int (1 : Int32)), .val (.int (2 : Int32)), .val (.int (3 : Int32)), .val (.ref b6), .val (.int (2 : Int32)), .val (.int (0 : Int32)), .val (.int (1 : Int32)), .val (.int (1 : Int32)), .unset, .unset, .unset, .unset, .unset, .unset, .unset, .unset] (hb hby at_184) rfl ?_
      refine Own.iload X31 hx (pc := 186) (hb hby at_186) rfl ?_
      refine Own.ifNo X31 hx (pc := 188) (hb hby at_188) (by decide) ?_
      refine Own.aload X31 hx (pc := 191) (hb hby at_191) rfl rfl ?_
      refine Own.iconst X31 hx (pc := 193) (1 : Int32) (hb hby at_193) (by decide) ?_
      refine Own.iaload X31 hx hZ (pc := 194) e31 V_b6 (v := (.int (2 : Int32))) 1 (by decide) (by decide) rfl (hb hby at_194) ?_
      refine Own.goto X31 hx (pc := 195) 202 (hb hby at_195) (by decide) (by decide) ?_
      refine Own.istore X31 hx (pc := 202) #[.val (.int sh), .val (.int pk), .val (.int pl), .val (.ref b1), .val (.int (1 : Int32)), .val (.int (2 : Int32)), .val (.int (3 : Int32)), .val (.ref b6), .val (.int (2 : Int32)), .val (.int (0 : Int32)), .val (.int (1 : Int32)), .val (.int (1 : Int32)), .val (.int (2 : Int32)), .unset, .unset, .unset, .unset, .unset, .unset, .unset] (hb hby at_202) rfl ?_
      refine Own.iload X31 hx (pc := 204) (hb hby at_204) rfl ?_
      refine Own.iconst X31 hx (pc := 206) (1 : Int32) (hb hby at_206) (by decide) ?_
      refine Own.icmpNo X31 hx (pc := 207) (hb hby at_207) (by decide) ?_
      refine Own.aload X31 hx (pc := 210) (hb hby at_210) rfl rfl ?_
      refine Own.iconst X31 hx (pc := 212) (2 : Int32) (hb hby at_212) (by decide) ?_
      refine Own.iaload X31 hx hZ (pc := 213) e31 V_b6 (v := (.int (3 : Int32))) 2 (by decide) (by decide) rfl (hb hby at_213) ?_
      refine Own.goto X31 hx (pc := 214) 221 (hb hby at_214) (by decide) (by decide) ?_
      refine Own.istore X31 hx (pc := 221) #[.val (.int sh), .val (.int pk), .val (.int pl), .val (.ref b1), .val (.int (1 : Int32)), .val (.int (2 : Int32)), .val (.int (3 : Int32)), .val (.ref b6), .val (.int (2 : Int32)), .val (.int (0 : Int32)), .val (.int (1 : Int32)), .val (.int (1 : Int32)), .val (.int (2 : Int32)), .val (.int (3 : Int32)), .unset, .unset, .unset, .unset, .unset, .unset] (hb hby at_221) rfl ?_
      refine Own.iload X31 hx (pc := 223) (hb hby at_223) rfl ?_
      refine Own.ifYes X31 hx (pc := 225) 232 (hb hby at_225) (by decide) (by decide) (by decide) ?_
      refine Own.iload X31 hx (pc := 232) (hb hby at_232) rfl ?_
      refine Own.istore X31 hx (pc := 234) #[.val (.int sh), .val (.int pk), .val (.int pl), .val (.ref b1), .val (.int (1 : Int32)), .val (.int (2 : Int32)), .val (.int (3 : Int32)), .val (.ref b6), .val (.int (2 : Int32)), .val (.int (0 : Int32)), .val (.int (1 : Int32)), .val (.int (1 : Int32)), .val (.int (2 : Int32)), .val (.int (3 : Int32)), .val (.int (2 : Int32)), .unset, .unset, .unset, .unset, .unset] (hb hby at_234) rfl ?_
      refine Own.aloadN X31 hx (pc := 236) (hb hby at_236) rfl rfl ?_
      refine Own.iconst X31 hx (pc := 237) (0 : Int32) (hb hby at_237) (by decide) ?_
      refine Own.callVirtual X31 hx hZ (pc := 238) (y := (⟨"com/example/sprigdex/sprigdex/index/html/HtmlTree", "firstChild", "(I)I"⟩ : MethodName)) (z := (⟨"com/example/sprigdex/sprigdex/index/html/HtmlTree", "firstChild", "(I)I"⟩ : MethodName)) hown (Wd hw 113 rfl) (Wd hw 114 rfl) (Wd hw 116 rfl) (Wd hw 115 rfl) (Wd hw 2 rfl) (Wd hw 117 rfl) (Wd hw 116 rfl) (by decide) 0 b1 [(.int (0 : Int32))] [] E_b1 (rm16 l Z a0 hw b1 (0 : Int32) fc_2 ((.int (2 : Int32)) :: (.int (-1 : Int32)) :: (.int (-1 : Int32)) :: (.int (-1 : Int32)) :: own_tl) (2 : Int32) T29.heap n0 sz29 F_b1_firstChild V_fc_2 (by decide) rfl) (by decide) (by decide) e31 (by rw [hml]; rfl) pd7 rfl rfl (Nat.le_of_eq rfl) (hb hby at_238) (by decide) (by decide) ?_
      intro T32 L32 v32 X32 hQ32
      obtain ⟨rfl, Nq32, e32⟩ := hQ32
      have N32 := Fr.app N31 Nq32
      show Own.Go p e below _ (T32.setTop (mkF m 241 #[.val (.int sh), .val (.int pk), .val (.int pl), .val (.ref b1), .val (.int (1 : Int32)), .val (.int (2 : Int32)), .val (.int (3 : Int32)), .val (.ref b6), .val (.int (2 : Int32)), .val (.int (0 : Int32)), .val (.int (1 : Int32)), .val (.int (1 : Int32)), .val (.int (2 : Int32)), .val (.int (3 : Int32)), .val (.int (2 : Int32)), .unset, .unset, .unset, .unset, .unset] [(.int (2 : Int32))]))
      refine Own.iload X32 hx (pc := 241) (hb hby at_241) rfl ?_
      refine Own.icmpYes X32 hx (pc := 243) 248 (hb hby at_243) (by decide) (by decide) (by decide) ?_
      refine Own.iloadN X32 hx (pc := 248) (hb hby at_248) rfl ?_
      refine Own.ldcI X32 hx hZ (pc := 249) hown (Wd hw 92 rfl) (hb hby at_249) ?_
      refine Own.iand X32 hx (pc := 251) (hb hby at_251) ?_
      refine Own.iload X32 hx (pc := 252) (hb hby at_252) rfl ?_
      refine Own.iconst X32 hx (pc := 254) (1 : Int32) (hb hby at_254) (by decide) ?_
      refine Own.iadd X32 hx (pc := 255) (hb hby at_255) ?_
      refine Own.topI (show ((1 : Int32) + (1 : Int32)) = (2 : Int32) by decide) ?_
      refine Own.irem X32 hx (pc := 256) (hb hby at_256) (by decide) ?_
      generalize qj33 : ((pl &&& (2147483647 : Int32)) % (2 : Int32)) = j33
      rcases own_c2 _ qj33 with rfl | rfl
      · refine Own.istore X32 hx (pc := 257) #[.val (.int sh), .val (.int pk), .val (.int pl), .val (.ref b1), .val (.int (1 : Int32)), .val (.int (2 : Int32)), .val (.int (3 : Int32)), .val (.ref b6), .val (.int (2 : Int32)), .val (.int (0 : Int32)), .val (.int (1 : Int32)), .val (.int (1 : Int32)), .val (.int (2 : Int32)), .val (.int (3 : Int32)), .val (.int (2 : Int32)), .val (.int (0 : Int32)), .unset, .unset, .unset, .unset] (hb hby at_257) rfl ?_
        refine Own.iload X32 hx (pc := 259) (hb hby at_259) rfl ?_
        refine Own.iload X32 hx (pc := 261) (hb hby at_261) rfl ?_
        refine Own.icmpYes X32 hx (pc := 263) 270 (hb hby at_263) (by decide) (by decide) (by decide) ?_
        refine Own.iload X32 hx (pc := 270) (hb hby at_270) rfl ?_
        refine Own.ifNo X32 hx (pc := 272) (hb hby at_272) (by decide) ?_
        refine Own.iload X32 hx (pc := 275) (hb hby at_275) rfl ?_
        refine Own.goto X32 hx (pc := 277) 282 (hb hby at_277) (by decide) (by decide) ?_
        refine Own.istore X32 hx (pc := 282) #[.val (.int sh), .val (.int pk), .val (.int pl), .val (.ref b1), .val (.int (1 : Int32)), .val (.int (2 : Int32)), .val (.int (3 : Int32)), .val (.ref b6), .val (.int (2 : Int32)), .val (.int (0 : Int32)), .val (.int (1 : Int32)), .val (.int (1 : Int32)), .val (.int (2 : Int32)), .val (.int (3 : Int32)), .val (.int (2 : Int32)), .val (.int (0 : Int32)), .val (.int (2 : Int32)), .unset, .unset, .unset] (hb hby at_282) rfl ?_
        refine Own.aloadN X32 hx (pc := 284) (hb hby at_284) rfl rfl ?_
        refine Own.iconst X32 hx (pc := 285) (0 : Int32) (hb hby at_285) (by decide) ?_
        refine Own.iload X32 hx (pc := 286) (hb hby at_286) rfl ?_
        refine Own.iload X32 hx (pc := 288) (hb hby at_288) rfl ?_
        refine Own.callVirtual X32 hx hZ (pc := 290) (y := (⟨"com/example/sprigdex/sprigdex/index/html/HtmlTree", "insert", "(III)V"⟩ : MethodName)) (z := (⟨"com/example/sprigdex/sprigdex/index/html/HtmlTree", "insert", "(III)V"⟩ : MethodName)) hown (Wd hw 93 rfl) (Wd hw 94 rfl) (Wd hw 96 rfl) (Wd hw 95 rfl) (Wd hw 2 rfl) (Wd hw 97 rfl) (Wd hw 96 rfl) (by decide) 0 b1 [(.int (0 : Int32)), (.int (1 : Int32)), (.int (2 : Int32))] [] E_b1 (rmI10 l Z a0 hw b1 (0 : Int32) (1 : Int32) (2 : Int32) pa_2 fc_2 la_2 pv_2 nx_2 ((.int (-1 : Int32)) :: (.int (-1 : Int32)) :: (.int (0 : Int32)) :: (.int (-1 : Int32)) :: own_tl) ((.int (2 : Int32)) :: (.int (-1 : Int32)) :: (.int (-1 : Int32)) :: (.int (-1 : Int32)) :: own_tl) ((.int (2 : Int32)) :: (.int (-1 : Int32)) :: (.int (-1 : Int32)) :: (.int (-1 : Int32)) :: own_tl) ((.int (-1 : Int32)) :: (.int (-1 : Int32)) :: (.int (-1 : Int32)) :: (.int (-1 : Int32)) :: own_tl) ((.int (-1 : Int32)) :: (.int (-1 : Int32)) :: (.int (-1 : Int32)) :: (.int (-1 : Int32)) :: own_tl) T29.heap n0 sz29 E_b1 F_b1_parent F_b1_firstChild F_b1_lastChild F_b1_previousSibling F_b1_nextSibling V_pa_2 V_fc_2 V_la_2 V_pv_2 V_nx_2 ge_pa_2 ge_fc_2 ge_la_2 ge_pv_2 ge_nx_2 ne_b1_pa_2 ne_b1_fc_2 ne_b1_la_2 ne_b1_pv_2 ne_b1_nx_2 ne_pa_2_fc_2 ne_pa_2_la_2 ne_pa_2_pv_2 ne_pa_2_nx_2 ne_fc_2_la_2 ne_fc_2_pv_2 ne_fc_2_nx_2 ne_la_2_pv_2 ne_la_2_nx_2 ne_pv_2_nx_2 rfl rfl rfl rfl rfl (by decide) (by decide) (by decide) (by decide) (by decide) (by decide) rfl rfl (by decide)) (by decide) (by decide) e32 (by rw [hml]; rfl) pd11 rfl rfl (Nat.le_of_eq rfl) (hb hby at_290) (by decide) (by decide) ?_
        intro T34 L34 v34 X34 hQ34
        obtain ⟨rfl, Nq34, K34, V_pa_2', V_fc_2', V_la_2', V_pv_2', V_nx_2'⟩ := hQ34
        have e34 : T34.heap = T34.heap := rfl
        have E_b1 := E_b1.keep K34
        have F_b1_parent := F_b1_parent.keep K34 (ninS ne_b1_pa_2 (ninS ne_b1_fc_2 (ninS ne_b1_la_2 (ninS ne_b1_pv_2 (ninS ne_b1_nx_2 nin0)))))
        have F_b1_firstChild := F_b1_firstChild.keep K34 (ninS ne_b1_pa_2 (ninS ne_b1_fc_2 (ninS ne_b1_la_2 (ninS ne_b1_pv_2 (ninS ne_b1_nx_2 nin0)))))
        have F_b1_lastChild := F_b1_lastChild.keep K34 (ninS ne_b1_pa_2 (ninS ne_b1_fc_2 (ninS ne_b1_la_2 (ninS ne_b1_pv_2 (ninS ne_b1_nx_2 nin0)))))
        have F_b1_previousSibling := F_b1_previousSibling.keep K34 (ninS ne_b1_pa_2 (ninS ne_b1_fc_2 (ninS ne_b1_la_2 (ninS ne_b1_pv_2 (ninS ne_b1_nx_2 nin0)))))
        have F_b1_nextSibling := F_b1_nextSibling.keep K34 (ninS ne_b1_pa_2 (ninS ne_b1_fc_2 (ninS ne_b1_la_2 (ninS ne_b1_pv_2 (ninS ne_b1_nx_2 nin0)))))
        have V_b6 := V_b6.keep K34 (ninS (Ne.symm ne_pa_2_b6) (ninS (Ne.symm ne_fc_2_b6) (ninS (Ne.symm ne_la_2_b6) (ninS (Ne.symm ne_pv_2_b6) (ninS (Ne.symm ne_nx_2_b6) nin0)))))
        have sz34 : n0 ≤ T34.heap.size := Nat.le_trans sz29 K34.1
        have V_pa_2 : Own.VArr Z T34.heap pa_2 .int ((.int (-1 : Int32)) :: (.int (0 : Int32)) :: (.int (0 : Int32)) :: (.int (-1 : Int32)) :: own_tl) := V_pa_2'
        have V_fc_2 : Own.VArr Z T34.heap fc_2 .int ((.int (1 : Int32)) :: (.int (-1 : Int32)) :: (.int (-1 : Int32)) :: (.int (-1 : Int32)) :: own_tl) := V_fc_2'
        have V_la_2 : Own.VArr Z T34.heap la_2 .int ((.int (2 : Int32)) :: (.int (-1 : Int32)) :: (.int (-1 : Int32)) :: (.int (-1 : Int32)) :: own_tl) := V_la_2'
        have V_pv_2 : Own.VArr Z T34.heap pv_2 .int ((.int (-1 : Int32)) :: (.int (-1 : Int32)) :: (.int (1 : Int32)) :: (.int (-1 : Int32)) :: own_tl) := V_pv_2'
        have V_nx_2 : Own.VArr Z T34.heap nx_2 .int ((.int (-1 : Int32)) :: (.int (2 : Int32)) :: (.int (-1 : Int32)) :: (.int (-1 : Int32)) :: own_tl) := V_nx_2'
        have N34 := Fr.app N32 Nq34
        show Own.Go p e below _ (T34.setTop (mkF m 293 #[.val (.int sh), .val (.int pk), .val (.int pl), .val (.ref b1), .val (.int (1 : Int32)), .val (.int (2 : Int32)), .val (.int (3 : Int32)), .val (.ref b6), .val (.int (2 : Int32)), .val (.int (0 : Int32)), .val (.int (1 : Int32)), .val (.int (1 : Int32)), .val (.int (2 : Int32)), .val (.int (3 : Int32)), .val (.int (2 : Int32)), .val (.int (0 : Int32)), .val (.int (2 : Int32)), .unset, .unset, .unset] []))
        refine Own.iload X34 hx (pc := 293) (hb hby at_293) rfl ?_
        refine Own.iload X34 hx (pc := 295) (hb hby at_295) rfl ?_
        refine Own.iload X34 hx (pc := 297) (hb hby at_297) rfl ?_
        refine Own.iload X34 hx (pc := 299) (hb hby at_299) rfl ?_
        refine Own.iconst X34 hx (pc := 301) (0 : Int32) (hb hby at_301) (by decide) ?_
        refine Own.callStatic X34 hx hZ (pc := 302) (y := (⟨"com/example/sprigdex/sprigdex/index/html/HtmlTreeDetachPinLaw", "at", "(IIIII)I"⟩ : MethodName)) hown (Wd hw 123 rfl) (Wd hw 124 rfl) (Wd hw 111 rfl) (Wd hw 125 rfl) (by decide) 0 [(.int (2 : Int32)), (.int (3 : Int32)), (.int (1 : Int32)), (.int (0 : Int32)), (.int (0 : Int32))] [] (rm18 l Z a0 hw (2 : Int32) (3 : Int32) (1 : Int32) (0 : Int32) (0 : Int32) T34.heap n0 sz34 ) (by decide) (by decide) e34 (by rw [hml]; rfl) pd12 rfl rfl (Nat.le_of_eq rfl) (hb hby at_302) (by decide) (by decide) ?_
        intro T35 L35 v35 X35 hQ35
        obtain ⟨rfl, Nq35, e35⟩ := hQ35
        have N35 := Fr.app N34 Nq35
        show Own.Go p e below _ (T35.setTop (mkF m 305 #[.val (.int sh), .val (.int pk), .val (.int pl), .val (.ref b1), .val (.int (1 : Int32)), .val (.int (2 : Int32)), .val (.int (3 : Int32)), .val (.ref b6), .val (.int (2 : Int32)), .val (.int (0 : Int32)), .val (.int (1 : Int32)), .val (.int (1 : Int32)), .val (.int (2 : Int32)), .val (.int (3 : Int32)), .val (.int (2 : Int32)), .val (.int (0 : Int32)), .val (.int (2 : Int32)), .unset, .unset, .unset] [(.int (1 : Int32))]))
        refine Own.istore X35 hx (pc := 305) #[.val (.int sh), .val (.int pk), .val (.int pl), .val (.ref b1), .val (.int (1 : Int32)), .val (.int (2 : Int32)), .val (.int (3 : Int32)), .val (.ref b6), .val (.int (2 : Int32)), .val (.int (0 : Int32)), .val (.int (1 : Int32)), .val (.int (1 : Int32)), .val (.int (2 : Int32)), .val (.int (3 : Int32)), .val (.int (2 : Int32)), .val (.int (0 : Int32)), .val (.int (2 : Int32)), .val (.int (1 : Int32)), .unset, .unset] (hb hby at_305) rfl ?_
        refine Own.iload X35 hx (pc := 307) (hb hby at_307) rfl ?_
        refine Own.iload X35 hx (pc := 309) (hb hby at_309) rfl ?_
        refine Own.iload X35 hx (pc := 311) (hb hby at_311) rfl ?_
        refine Own.iload X35 hx (pc := 313) (hb hby at_313) rfl ?_
        refine Own.iconst X35 hx (pc := 315) (1 : Int32) (hb hby at_315) (by decide) ?_
        refine Own.callStatic X35 hx hZ (pc := 316) (y := (⟨"com/example/sprigdex/sprigdex/index/html/HtmlTreeDetachPinLaw", "at", "(IIIII)I"⟩ : MethodName)) hown (Wd hw 123 rfl) (Wd hw 124 rfl) (Wd hw 111 rfl) (Wd hw 125 rfl) (by decide) 0 [(.int (2 : Int32)), (.int (3 : Int32)), (.int (1 : Int32)), (.int (0 : Int32)), (.int (1 : Int32))] [] (rm18 l Z a0 hw (2 : Int32) (3 : Int32) (1 : Int32) (0 : Int32) (1 : Int32) T34.heap n0 sz34 ) (by decide) (by decide) e35 (by rw [hml]; rfl) pd12 rfl rfl (Nat.le_of_eq rfl) (hb hby at_316) (by decide) (by decide) ?_
        intro T36 L36 v36 X36 hQ36
        obtain ⟨rfl, Nq36, e36⟩ := hQ36
        have N36 := Fr.app N35 Nq36
        show Own.Go p e below _ (T36.setTop (mkF m 319 #[.val (.int sh), .val (.int pk), .val (.int pl), .val (.ref b1), .val (.int (1 : Int32)), .val (.int (2 : Int32)), .val (.int (3 : Int32)), .val (.ref b6), .val (.int (2 : Int32)), .val (.int (0 : Int32)), .val (.int (1 : Int32)), .val (.int (1 : Int32)), .val (.int (2 : Int32)), .val (.int (3 : Int32)), .val (.int (2 : Int32)), .val (.int (0 : Int32)), .val (.int (2 : Int32)), .val (.int (1 : Int32)), .unset, .unset] [(.int (2 : Int32))]))
        refine Own.istore X36 hx (pc := 319) #[.val (.int sh), .val (.int pk), .val (.int pl), .val (.ref b1), .val (.int (1 : Int32)), .val (.int (2 : Int32)), .val (.int (3 : Int32)), .val (.ref b6), .val (.int (2 : Int32)), .val (.int (0 : Int32)), .val (.int (1 : Int32)), .val (.int (1 : Int32)), .val (.int (2 : Int32)), .val (.int (3 : Int32)), .val (.int (2 : Int32)), .val (.int (0 : Int32)), .val (.int (2 : Int32)), .val (.int (1 : Int32)), .val (.int (2 : Int32)), .unset] (hb hby at_319) rfl ?_
        refine Own.iload X36 hx (pc := 321) (hb hby at_321) rfl ?_
        refine Own.iload X36 hx (pc := 323) (hb hby at_323) rfl ?_
        refine Own.iload X36 hx (pc := 325) (hb hby at_325) rfl ?_
        refine Own.iload X36 hx (pc := 327) (hb hby at_327) rfl ?_
        refine Own.iconst X36 hx (pc := 329) (2 : Int32) (hb hby at_329) (by decide) ?_
        refine Own.callStatic X36 hx hZ (pc := 330) (y := (⟨"com/example/sprigdex/sprigdex/index/html/HtmlTreeDetachPinLaw", "at", "(IIIII)I"⟩ : MethodName)) hown (Wd hw 123 rfl) (Wd hw 124 rfl) (Wd hw 111 rfl) (Wd hw 125 rfl) (by decide) 0 [(.int (2 : Int32)), (.int (3 : Int32)), (.int (1 : Int32)), (.int (0 : Int32)), (.int (2 : Int32))] [] (rm18 l Z a0 hw (2 : Int32) (3 : Int32) (1 : Int32) (0 : Int32) (2 : Int32) T34.heap n0 sz34 ) (by decide) (by decide) e36 (by rw [hml]; rfl) pd12 rfl rfl (Nat.le_of_eq rfl) (hb hby at_330) (by decide) (by decide) ?_
        intro T37 L37 v37 X37 hQ37
        obtain ⟨rfl, Nq37, e37⟩ := hQ37
        have N37 := Fr.app N36 Nq37
        show Own.Go p e below _ (T37.setTop (mkF m 333 #[.val (.int sh), .val (.int pk), .val (.int pl), .val (.ref b1), .val (.int (1 : Int32)), .val (.int (2 : Int32)), .val (.int (3 : Int32)), .val (.ref b6), .val (.int (2 : Int32)), .val (.int (0 : Int32)), .val (.int (1 : Int32)), .val (.int (1 : Int32)), .val (.int (2 : Int32)), .val (.int (3 : Int32)), .val (.int (2 : Int32)), .val (.int (0 : Int32)), .val (.int (2 : Int32)), .val (.int (1 : Int32)), .val (.int (2 : Int32)), .unset] [(.int (3 : Int32))]))
        refine Own.istore X37 hx (pc := 333) #[.val (.int sh), .val (.int pk), .val (.int pl), .val (.ref b1), .val (.int (1 : Int32)), .val (.int (2 : Int32)), .val (.int (3 : Int32)), .val (.ref b6), .val (.int (2 : Int32)), .val (.int (0 : Int32)), .val (.int (1 : Int32)), .val (.int (1 : Int32)), .val (.int (2 : Int32)), .val (.int (3 : Int32)), .val (.int (2 : Int32)), .val (.int (0 : Int32)), .val (.int (2 : Int32)), .val (.int (1 : Int32)), .val (.int (2 : Int32)), .val (.int (3 : Int32))] (hb hby at_333) rfl ?_
        refine Own.aloadN X37 hx (pc := 335) (hb hby at_335) rfl rfl ?_
        refine Own.iload X37 hx (pc := 336) (hb hby at_336) rfl ?_
        refine Own.iload X37 hx (pc := 338) (hb hby at_338) rfl ?_
        refine Own.iload X37 hx (pc := 340) (hb hby at_340) rfl ?_
        refine Own.iload X37 hx (pc := 342) (hb hby at_342) rfl ?_
        refine Own.callStatic X37 hx hZ (pc := 344) (y := (⟨"com/example/sprigdex/sprigdex/index/html/HtmlTreeDetachPinLaw", "chain", "(Lcom/example/sprigdex/sprigdex/index/html/HtmlTree;IIII)Z"⟩ : MethodName)) hown (Wd hw 109 rfl) (Wd hw 110 rfl) (Wd hw 111 rfl) (Wd hw 112 rfl) (by decide) 0 [(.ref b1), (.int (1 : Int32)), (.int (2 : Int32)), (.int (3 : Int32)), (.int (2 : Int32))] [] (rmC2 l Z a0 hw b1 (1 : Int32) (2 : Int32) (3 : Int32) pa_2 fc_2 nx_2 ((.int (-1 : Int32)) :: (.int (0 : Int32)) :: (.int (0 : Int32)) :: (.int (-1 : Int32)) :: own_tl) ((.int (1 : Int32)) :: (.int (-1 : Int32)) :: (.int (-1 : Int32)) :: (.int (-1 : Int32)) :: own_tl) ((.int (-1 : Int32)) :: (.int (2 : Int32)) :: (.int (-1 : Int32)) :: (.int (-1 : Int32)) :: own_tl) T34.heap n0 sz34 E_b1 F_b1_parent F_b1_firstChild F_b1_nextSibling V_pa_2 V_fc_2 V_nx_2 rfl (by decide) rfl rfl (by decide) rfl rfl) (by decide) (by decide) e37 (by rw [hml]; rfl) pd13 rfl rfl (Nat.le_of_eq rfl) (hb hby at_344) (by decide) (by decide) ?_
        intro T38 L38 v38 X38 hQ38
        obtain ⟨rfl, Nq38, e38⟩ := hQ38
        have N38 := Fr.app N37 Nq38
        show Own.Go p e below _ (T38.setTop (mkF m 347 #[.val (.int sh), .val (.int pk), .val (.int pl), .val (.ref b1), .val (.int (1 : Int32)), .val (.int (2 : Int32)), .val (.int (3 : Int32)), .val (.ref b6), .val (.int (2 : Int32)), .val (.int (0 : Int32)), .val (.int (1 : Int32)), .val (.int (1 : Int32)), .val (.int (2 : Int32)), .val (.int (3 : Int32)), .val (.int (2 : Int32)), .val (.int (0 : Int32)), .val (.int (2 : Int32)), .val (.int (1 : Int32)), .val (.int (2 : Int32)), .val (.int (3 : Int32))] [(.int (1 : Int32))]))
        exact Own.ireturn X38 hx hk hret (by simp) rfl (hb hby at_347) e38 ⟨rfl, N38⟩ (by decide) (by decide)
      · refine Own.istore X32 hx (pc := 257) #[.val (.int sh), .val (.int pk), .val (.int pl), .val (.ref b1), .val (.int (1 : Int32)), .val (.int (2 : Int32)), .val (.int (3 : Int32)), .val (.ref b6), .val (.int (2 : Int32)), .val (.int (0 : Int32)), .val (.int (1 : Int32)), .val (.int (1 : Int32)), .val (.int (2 : Int32)), .val (.int (3 : Int32)), .val (.int (2 : Int32)), .val (.int (1 : Int32)), .unset, .unset, .unset, .unset] (hb hby at_257) rfl ?_
        refine Own.iload X32 hx (pc := 259) (hb hby at_259) rfl ?_
        refine Own.iload X32 hx (pc := 261) (hb hby at_261) rfl ?_
        refine Own.icmpNo X32 hx (pc := 263) (hb hby at_263) (by decide) ?_
        refine Own.iconst X32 hx (pc := 266) (-1 : Int32) (hb hby at_266) (by decide) ?_
        refine Own.goto X32 hx (pc := 267) 282 (hb hby at_267) (by decide) (by decide) ?_
        refine Own.istore X32 hx (pc := 282) #[.val (.int sh), .val (.int pk), .val (.int pl), .val (.ref b1), .val (.int (1 : Int32)), .val (.int (2 : Int32)), .val (.int (3 : Int32)), .val (.ref b6), .val (.int (2 : Int32)), .val (.int (0 : Int32)), .val (.int (1 : Int32)), .val (.int (1 : Int32)), .val (.int (2 : Int32)), .val (.int (3 : Int32)), .val (.int (2 : Int32)), .val (.int (1 : Int32)), .val (.int (-1 : Int32)), .unset, .unset, .unset] (hb hby at_282) rfl ?_
        refine Own.aloadN X32 hx (pc := 284) (hb hby at_284) rfl rfl ?_
        refine Own.iconst X32 hx (pc := 285) (0 : Int32) (hb hby at_285) (by decide) ?_
        refine Own.iload X32 hx (pc := 286) (hb hby at_286) rfl ?_
        refine Own.iload X32 hx (pc := 288) (hb hby at_288) rfl ?_
        refine Own.callVirtual X32 hx hZ (pc := 290) (y := (⟨"com/example/sprigdex/sprigdex/index/html/HtmlTree", "insert", "(III)V"⟩ : MethodName)) (z := (⟨"com/example/sprigdex/sprigdex/index/html/HtmlTree", "insert", "(III)V"⟩ : MethodName)) hown (Wd hw 93 rfl) (Wd hw 94 rfl) (Wd hw 96 rfl) (Wd hw 95 rfl) (Wd hw 2 rfl) (Wd hw 97 rfl) (Wd hw 96 rfl) (by decide) 0 b1 [(.int (0 : Int32)), (.int (1 : Int32)), (.int (-1 : Int32))] [] E_b1 (rmI01 l Z a0 hw b1 (0 : Int32) (1 : Int32) pa_2 fc_2 la_2 pv_2 nx_2 ((.int (-1 : Int32)) :: (.int (-1 : Int32)) :: (.int (0 : Int32)) :: (.int (-1 : Int32)) :: own_tl) ((.int (2 : Int32)) :: (.int (-1 : Int32)) :: (.int (-1 : Int32)) :: (.int (-1 : Int32)) :: own_tl) ((.int (2 : Int32)) :: (.int (-1 : Int32)) :: (.int (-1 : Int32)) :: (.int (-1 : Int32)) :: own_tl) ((.int (-1 : Int32)) :: (.int (-1 : Int32)) :: (.int (-1 : Int32)) :: (.int (-1 : Int32)) :: own_tl) ((.int (-1 : Int32)) :: (.int (-1 : Int32)) :: (.int (-1 : Int32)) :: (.int (-1 : Int32)) :: own_tl) (2 : Int32) T29.heap n0 sz29 E_b1 F_b1_parent F_b1_firstChild F_b1_lastChild F_b1_previousSibling F_b1_nextSibling V_pa_2 V_fc_2 V_la_2 V_pv_2 V_nx_2 ge_pa_2 ge_fc_2 ge_la_2 ge_pv_2 ge_nx_2 ne_b1_pa_2 ne_b1_fc_2 ne_b1_la_2 ne_b1_pv_2 ne_b1_nx_2 ne_pa_2_fc_2 ne_pa_2_la_2 ne_pa_2_pv_2 ne_pa_2_nx_2 ne_fc_2_la_2 ne_fc_2_pv_2 ne_fc_2_nx_2 ne_la_2_pv_2 ne_la_2_nx_2 ne_pv_2_nx_2 rfl rfl rfl rfl rfl (by decide) (by decide) (by decide) (by decide) (by decide) (by decide) rfl rfl (by decide)) (by decide) (by decide) e32 (by rw [hml]; rfl) pd11 rfl rfl (Nat.le_of_eq rfl) (hb hby at_290) (by decide) (by decide) ?_
        intro T39 L39 v39 X39 hQ39
        obtain ⟨rfl, Nq39, K39, V_pa_2', V_fc_2', V_la_2', V_pv_2', V_nx_2'⟩ := hQ39
        have e39 : T39.heap = T39.heap := rfl
        have E_b1 := E_b1.keep K39
        have F_b1_parent := F_b1_parent.keep K39 (ninS ne_b1_pa_2 (ninS ne_b1_fc_2 (ninS ne_b1_la_2 (ninS ne_b1_pv_2 (ninS ne_b1_nx_2 nin0)))))
        have F_b1_firstChild := F_b1_firstChild.keep K39 (ninS ne_b1_pa_2 (ninS ne_b1_fc_2 (ninS ne_b1_la_2 (ninS ne_b1_pv_2 (ninS ne_b1_nx_2 nin0)))))
        have F_b1_lastChild := F_b1_lastChild.keep K39 (ninS ne_b1_pa_2 (ninS ne_b1_fc_2 (ninS ne_b1_la_2 (ninS ne_b1_pv_2 (ninS ne_b1_nx_2 nin0)))))
        have F_b1_previousSibling := F_b1_previousSibling.keep K39 (ninS ne_b1_pa_2 (ninS ne_b1_fc_2 (ninS ne_b1_la_2 (ninS ne_b1_pv_2 (ninS ne_b1_nx_2 nin0)))))
        have F_b1_nextSibling := F_b1_nextSibling.keep K39 (ninS ne_b1_pa_2 (ninS ne_b1_fc_2 (ninS ne_b1_la_2 (ninS ne_b1_pv_2 (ninS ne_b1_nx_2 nin0)))))
        have V_b6 := V_b6.keep K39 (ninS (Ne.symm ne_pa_2_b6) (ninS (Ne.symm ne_fc_2_b6) (ninS (Ne.symm ne_la_2_b6) (ninS (Ne.symm ne_pv_2_b6) (ninS (Ne.symm ne_nx_2_b6) nin0)))))
        have sz39 : n0 ≤ T39.heap.size := Nat.le_trans sz29 K39.1
        have V_pa_2 : Own.VArr Z T39.heap pa_2 .int ((.int (-1 : Int32)) :: (.int (0 : Int32)) :: (.int (0 : Int32)) :: (.int (-1 : Int32)) :: own_tl) := V_pa_2'
        have V_fc_2 : Own.VArr Z T39.heap fc_2 .int ((.int (2 : Int32)) :: (.int (-1 : Int32)) :: (.int (-1 : Int32)) :: (.int (-1 : Int32)) :: own_tl) := V_fc_2'
        have V_la_2 : Own.VArr Z T39.heap la_2 .int ((.int (1 : Int32)) :: (.int (-1 : Int32)) :: (.int (-1 : Int32)) :: (.int (-1 : Int32)) :: own_tl) := V_la_2'
        have V_pv_2 : Own.VArr Z T39.heap pv_2 .int ((.int (-1 : Int32)) :: (.int (2 : Int32)) :: (.int (-1 : Int32)) :: (.int (-1 : Int32)) :: own_tl) := V_pv_2'
        have V_nx_2 : Own.VArr Z T39.heap nx_2 .int ((.int (-1 : Int32)) :: (.int (-1 : Int32)) :: (.int (1 : Int32)) :: (.int (-1 : Int32)) :: own_tl) := V_nx_2'
        have N39 := Fr.app N32 Nq39
        show Own.Go p e below _ (T39.setTop (mkF m 293 #[.val (.int sh), .val (.int pk), .val (.int pl), .val (.ref b1), .val (.int (1 : Int32)), .val (.int (2 : Int32)), .val (.int (3 : Int32)), .val (.ref b6), .val (.int (2 : Int32)), .val (.int (0 : Int32)), .val (.int (1 : Int32)), .val (.int (1 : Int32)), .val (.int (2 : Int32)), .val (.int (3 : Int32)), .val (.int (2 : Int32)), .val (.int (1 : Int32)), .val (.int (-1 : Int32)), .unset, .unset, .unset] []))
        refine Own.iload X39 hx (pc := 293) (hb hby at_293) rfl ?_
        refine Own.iload X39 hx (pc := 295) (hb hby at_295) rfl ?_
        refine Own.iload X39 hx (pc := 297) (hb hby at_297) rfl ?_
        refine Own.iload X39 hx (pc := 299) (hb hby at_299) rfl ?_
        refine Own.iconst X39 hx (pc := 301) (0 : Int32) (hb hby at_301) (by decide) ?_
        refine Own.callStatic X39 hx hZ (pc := 302) (y := (⟨"com/example/sprigdex/sprigdex/index/html/HtmlTreeDetachPinLaw", "at", "(IIIII)I"⟩ : MethodName)) hown (Wd hw 123 rfl) (Wd hw 124 rfl) (Wd hw 111 rfl) (Wd hw 125 rfl) (by decide) 0 [(.int (2 : Int32)), (.int (3 : Int32)), (.int (1 : Int32)), (.int (1 : Int32)), (.int (0 : Int32))] [] (rm18 l Z a0 hw (2 : Int32) (3 : Int32) (1 : Int32) (1 : Int32) (0 : Int32) T39.heap n0 sz39 ) (by decide) (by decide) e39 (by rw [hml]; rfl) pd12 rfl rfl (Nat.le_of_eq rfl) (hb hby at_302) (by decide) (by decide) ?_
        intro T40 L40 v40 X40 hQ40
        obtain ⟨rfl, Nq40, e40⟩ := hQ40
        have N40 := Fr.app N39 Nq40
        show Own.Go p e below _ (T40.setTop (mkF m 305 #[.val (.int sh), .val (.int pk), .val (.int pl), .val (.ref b1), .val (.int (1 : Int32)), .val (.int (2 : Int32)), .val (.int (3 : Int32)), .val (.ref b6), .val (.int (2 : Int32)), .val (.int (0 : Int32)), .val (.int (1 : Int32)), .val (.int (1 : Int32)), .val (.int (2 : Int32)), .val (.int (3 : Int32)), .val (.int (2 : Int32)), .val (.int (1 : Int32)), .val (.int (-1 : Int32)), .unset, .unset, .unset] [(.int (2 : Int32))]))
        refine Own.istore X40 hx (pc := 305) #[.val (.int sh), .val (.int pk), .val (.int pl), .val (.ref b1), .val (.int (1 : Int32)), .val (.int (2 : Int32)), .val (.int (3 : Int32)), .val (.ref b6), .val (.int (2 : Int32)), .val (.int (0 : Int32)), .val (.int (1 : Int32)), .val (.int (1 : Int32)), .val (.int (2 : Int32)), .val (.int (3 : Int32)), .val (.int (2 : Int32)), .val (.int (1 : Int32)), .val (.int (-1 : Int32)), .val (.int (2 : Int32)), .unset, .unset] (hb hby at_305) rfl ?_
        refine Own.iload X40 hx (pc := 307) (hb hby at_307) rfl ?_
        refine Own.iload X40 hx (pc := 309) (hb hby at_309) rfl ?_
        refine Own.iload X40 hx (pc := 311) (hb hby at_311) rfl ?_
        refine Own.iload X40 hx (pc := 313) (hb hby at_313) rfl ?_
        refine Own.iconst X40 hx (pc := 315) (1 : Int32) (hb hby at_315) (by decide) ?_
        refine Own.callStatic X40 hx hZ (pc := 316) (y := (⟨"com/example/sprigdex/sprigdex/index/html/HtmlTreeDetachPinLaw", "at", "(IIIII)I"⟩ : MethodName)) hown (Wd hw 123 rfl) (Wd hw 124 rfl) (Wd hw 111 rfl) (Wd hw 125 rfl) (by decide) 0 [(.int (2 : Int32)), (.int (3 : Int32)), (.int (1 : Int32)), (.int (1 : Int32)), (.int (1 : Int32))] [] (rm18 l Z a0 hw (2 : Int32) (3 : Int32) (1 : Int32) (1 : Int32) (1 : Int32) T39.heap n0 sz39 ) (by decide) (by decide) e40 (by rw [hml]; rfl) pd12 rfl rfl (Nat.le_of_eq rfl) (hb hby at_316) (by decide) (by decide) ?_
        intro T41 L41 v41 X41 hQ41
        obtain ⟨rfl, Nq41, e41⟩ := hQ41
        have N41 := Fr.app N40 Nq41
        show Own.Go p e below _ (T41.setTop (mkF m 319 #[.val (.int sh), .val (.int pk), .val (.int pl), .val (.ref b1), .val (.int (1 : Int32)), .val (.int (2 : Int32)), .val (.int (3 : Int32)), .val (.ref b6), .val (.int (2 : Int32)), .val (.int (0 : Int32)), .val (.int (1 : Int32)), .val (.int (1 : Int32)), .val (.int (2 : Int32)), .val (.int (3 : Int32)), .val (.int (2 : Int32)), .val (.int (1 : Int32)), .val (.int (-1 : Int32)), .val (.int (2 : Int32)), .unset, .unset] [(.int (1 : Int32))]))
        refine Own.istore X41 hx (pc := 319) #[.val (.int sh), .val (.int pk), .val (.int pl), .val (.ref b1), .val (.int (1 : Int32)), .val (.int (2 : Int32)), .val (.int (3 : Int32)), .val (.ref b6), .val (.int (2 : Int32)), .val (.int (0 : Int32)), .val (.int (1 : Int32)), .val (.int (1 : Int32)), .val (.int (2 : Int32)), .val (.int (3 : Int32)), .val (.int (2 : Int32)), .val (.int (1 : Int32)), .val (.int (-1 : Int32)), .val (.int (2 : Int32)), .val (.int (1 : Int32)), .unset] (hb hby at_319) rfl ?_
        refine Own.iload X41 hx (pc := 321) (hb hby at_321) rfl ?_
        refine Own.iload X41 hx (pc := 323) (hb hby at_323) rfl ?_
        refine Own.iload X41 hx (pc := 325) (hb hby at_325) rfl ?_
        refine Own.iload X41 hx (pc := 327) (hb hby at_327) rfl ?_
        refine Own.iconst X41 hx (pc := 329) (2 : Int32) (hb hby at_329) (by decide) ?_
        refine Own.callStatic X41 hx hZ (pc := 330) (y := (⟨"com/example/sprigdex/sprigdex/index/html/HtmlTreeDetachPinLaw", "at", "(IIIII)I"⟩ : MethodName)) hown (Wd hw 123 rfl) (Wd hw 124 rfl) (Wd hw 111 rfl) (Wd hw 125 rfl) (by decide) 0 [(.int (2 : Int32)), (.int (3 : Int32)), (.int (1 : Int32)), (.int (1 : Int32)), (.int (2 : Int32))] [] (rm18 l Z a0 hw (2 : Int32) (3 : Int32) (1 : Int32) (1 : Int32) (2 : Int32) T39.heap n0 sz39 ) (by decide) (by decide) e41 (by rw [hml]; rfl) pd12 rfl rfl (Nat.le_of_eq rfl) (hb hby at_330) (by decide) (by decide) ?_
        intro T42 L42 v42 X42 hQ42
        obtain ⟨rfl, Nq42, e42⟩ := hQ42
        have N42 := Fr.app N41 Nq42
        show Own.Go p e below _ (T42.setTop (mkF m 333 #[.val (.int sh), .val (.int pk), .val (.int pl), .val (.ref b1), .val (.int (1 : Int32)), .val (.int (2 : Int32)), .val (.int (3 : Int32)), .val (.ref b6), .val (.int (2 : Int32)), .val (.int (0 : Int32)), .val (.int (1 : Int32)), .val (.int (1 : Int32)), .val (.int (2 : Int32)), .val (.int (3 : Int32)), .val (.int (2 : Int32)), .val (.int (1 : Int32)), .val (.int (-1 : Int32)), .val (.int (2 : Int32)), .val (.int (1 : Int32)), .unset] [(.int (3 : Int32))]))
        refine Own.istore X42 hx (pc := 333) #[.val (.int sh), .val (.int pk), .val (.int pl), .val (.ref b1), .val (.int (1 : Int32)), .val (.int (2 : Int32)), .val (.int (3 : Int32)), .val (.ref b6), .val (.int (2 : Int32)), .val (.int (0 : Int32)), .val (.int (1 : Int32)), .val (.int (1 : Int32)), .val (.int (2 : Int32)), .val (.int (3 : Int32)), .val (.int (2 : Int32)), .val (.int (1 : Int32)), .val (.int (-1 : Int32)), .val (.int (2 : Int32)), .val (.int (1 : Int32)), .val (.int (3 : Int32))] (hb hby at_333) rfl ?_
        refine Own.aloadN X42 hx (pc := 335) (hb hby at_335) rfl rfl ?_
        refine Own.iload X42 hx (pc := 336) (hb hby at_336) rfl ?_
        refine Own.iload X42 hx (pc := 338) (hb hby at_338) rfl ?_
        refine Own.iload X42 hx (pc := 340) (hb hby at_340) rfl ?_
        refine Own.iload X42 hx (pc := 342) (hb hby at_342) rfl ?_
        refine Own.callStatic X42 hx hZ (pc := 344) (y := (⟨"com/example/sprigdex/sprigdex/index/html/HtmlTreeDetachPinLaw", "chain", "(Lcom/example/sprigdex/sprigdex/index/html/HtmlTree;IIII)Z"⟩ : MethodName)) hown (Wd hw 109 rfl) (Wd hw 110 rfl) (Wd hw 111 rfl) (Wd hw 112 rfl) (by decide) 0 [(.ref b1), (.int (2 : Int32)), (.int (1 : Int32)), (.int (3 : Int32)), (.int (2 : Int32))] [] (rmC2 l Z a0 hw b1 (2 : Int32) (1 : Int32) (3 : Int32) pa_2 fc_2 nx_2 ((.int (-1 : Int32)) :: (.int (0 : Int32)) :: (.int (0 : Int32)) :: (.int (-1 : Int32)) :: own_tl) ((.int (2 : Int32)) :: (.int (-1 : Int32)) :: (.int (-1 : Int32)) :: (.int (-1 : Int32)) :: own_tl) ((.int (-1 : Int32)) :: (.int (-1 : Int32)) :: (.int (1 : Int32)) :: (.int (-1 : Int32)) :: own_tl) T39.heap n0 sz39 E_b1 F_b1_parent F_b1_firstChild F_b1_nextSibling V_pa_2 V_fc_2 V_nx_2 rfl (by decide) rfl rfl (by decide) rfl rfl) (by decide) (by decide) e42 (by rw [hml]; rfl) pd13 rfl rfl (Nat.le_of_eq rfl) (hb hby at_344) (by decide) (by decide) ?_
        intro T43 L43 v43 X43 hQ43
        obtain ⟨rfl, Nq43, e43⟩ := hQ43
        have N43 := Fr.app N42 Nq43
        show Own.Go p e below _ (T43.setTop (mkF m 347 #[.val (.int sh), .val (.int pk), .val (.int pl), .val (.ref b1), .val (.int (1 : Int32)), .val (.int (2 : Int32)), .val (.int (3 : Int32)), .val (.ref b6), .val (.int (2 : Int32)), .val (.int (0 : Int32)), .val (.int (1 : Int32)), .val (.int (1 : Int32)), .val (.int (2 : Int32)), .val (.int (3 : Int32)), .val (.int (2 : Int32)), .val (.int (1 : Int32)), .val (.int (-1 : Int32)), .val (.int (2 : Int32)), .val (.int (1 : Int32)), .val (.int (3 : Int32))] [(.int (1 : Int32))]))
        exact Own.ireturn X43 hx hk hret (by simp) rfl (hb hby at_347) e43 ⟨rfl, N43⟩ (by decide) (by decide)
    · refine Own.istore X27 hx (pc := 105) #[.val (.int sh), .val (.int pk), .val (.int pl), .val (.ref b1), .val (.int (1 : Int32)), .val (.int (2 : Int32)), .val (.int (3 : Int32)), .val (.ref b6), .val (.int (2 : Int32)), .val (.int (1 : Int32)), .unset, .unset, .unset, .unset, .unset, .unset, .unset, .unset, .unset, .unset] (hb hby at_105) rfl ?_
      refine Own.iload X27 hx (pc := 107) (hb hby at_107) rfl ?_
      refine Own.iload X27 hx (pc := 109) (hb hby at_109) rfl ?_
      refine Own.icmpYes X27 hx (pc := 111) 143 (hb hby at_111) (by decide) (by decide) (by decide) ?_
      refine Own.aload X27 hx (pc := 143) (hb hby at_143) rfl rfl ?_
      refine Own.iload X27 hx (pc := 145) (hb hby at_145) rfl ?_
      refine Own.iaload X27 hx hZ (pc := 147) e27 V_b6 (v := (.int (2 : Int32))) 1 (by decide) (by decide) rfl (hb hby at_147) ?_
      refine Own.istore X27 hx (pc := 148) #[.val (.int sh), .val (.int pk), .val (.int pl), .val (.ref b1), .val (.int (1 : Int32)), .val (.int (2 : Int32)), .val (.int (3 : Int32)), .val (.ref b6), .val (.int (2 : Int32)), .val (.int (1 : Int32)), .val (.int (2 : Int32)), .unset, .unset, .unset, .unset, .unset, .unset, .unset, .unset, .unset] (hb hby at_148) rfl ?_
      refine Own.aloadN X27 hx (pc := 150) (hb hby at_150) rfl rfl ?_
      refine Own.iload X27 hx (pc := 151) (hb hby at_151) rfl ?_
      refine Own.callVirtual X27 hx hZ (pc := 153) (y := (⟨"com/example/sprigdex/sprigdex/index/html/HtmlTree", "detach", "(I)V"⟩ : MethodName)) (z := (⟨"com/example/sprigdex/sprigdex/index/html/HtmlTree", "detach", "(I)V"⟩ : MethodName)) hown (Wd hw 103 rfl) (Wd hw 99 rfl) (Wd hw 101 rfl) (Wd hw 100 rfl) (Wd hw 2 rfl) (Wd hw 102 rfl) (Wd hw 101 rfl) (by decide) 0 b1 [(.int (2 : Int32))] [] E_b1 (rmD10 l Z a0 hw b1 (2 : Int32) pa_2 fc_2 la_2 pv_2 nx_2 ((.int (-1 : Int32)) :: (.int (0 : Int32)) :: (.int (0 : Int32)) :: (.int (-1 : Int32)) :: own_tl) ((.int (1 : Int32)) :: (.int (-1 : Int32)) :: (.int (-1 : Int32)) :: (.int (-1 : Int32)) :: own_tl) ((.int (2 : Int32)) :: (.int (-1 : Int32)) :: (.int (-1 : Int32)) :: (.int (-1 : Int32)) :: own_tl) ((.int (-1 : Int32)) :: (.int (-1 : Int32)) :: (.int (1 : Int32)) :: (.int (-1 : Int32)) :: own_tl) ((.int (-1 : Int32)) :: (.int (2 : Int32)) :: (.int (-1 : Int32)) :: (.int (-1 : Int32)) :: own_tl) (0 : Int32) (1 : Int32) T27.heap n0 sz27 F_b1_parent F_b1_firstChild F_b1_lastChild F_b1_previousSibling F_b1_nextSibling V_pa_2 V_fc_2 V_la_2 V_pv_2 V_nx_2 ge_pa_2 ge_fc_2 ge_la_2 ge_pv_2 ge_nx_2 ne_b1_pa_2 ne_b1_fc_2 ne_b1_la_2 ne_b1_pv_2 ne_b1_nx_2 ne_pa_2_fc_2 ne_pa_2_la_2 ne_pa_2_pv_2 ne_pa_2_nx_2 ne_fc_2_la_2 ne_fc_2_pv_2 ne_fc_2_nx_2 ne_la_2_pv_2 ne_la_2_nx_2 ne_pv_2_nx_2 rfl rfl rfl rfl rfl (by decide) (by decide) (by decide) (by decide) (by decide) (by decide) rfl rfl rfl (by decide) (by decide)) (by decide) (by decide) e27 (by rw [hml]; rfl) pd9 rfl rfl (Nat.le_of_eq rfl) (hb hby at_153) (by decide) (by decide) ?_
      intro T44 L44 v44 X44 hQ44
      obtain ⟨rfl, Nq44, K44, V_pa_2', V_fc_2', V_la_2', V_pv_2', V_nx_2'⟩ := hQ44
      have e44 : T44.heap = T44.heap := rfl
      have E_b1 := E_b1.keep K44
      have F_b1_parent := F_b1_parent.keep K44 (ninS ne_b1_pa_2 (ninS ne_b1_fc_2 (ninS ne_b1_la_2 (ninS ne_b1_pv_2 (ninS ne_b1_nx_2 nin0)))))
      have F_b1_firstChild := F_b1_firstChild.keep K44 (ninS ne_b1_pa_2 (ninS ne_b1_fc_2 (ninS ne_b1_la_2 (ninS ne_b1_pv_2 (ninS ne_b1_nx_2 nin0)))))
      have F_b1_lastChild := F_b1_lastChild.keep K44 (ninS ne_b1_pa_2 (ninS ne_b1_fc_2 (ninS ne_b1_la_2 (ninS ne_b1_pv_2 (ninS ne_b1_nx_2 nin0)))))
      have F_b1_previousSibling := F_b1_previousSibling.keep K44 (ninS ne_b1_pa_2 (ninS ne_b1_fc_2 (ninS ne_b1_la_2 (ninS ne_b1_pv_2 (ninS ne_b1_nx_2 nin0)))))
      have F_b1_nextSibling := F_b1_nextSibling.keep K44 (ninS ne_b1_pa_2 (ninS ne_b1_fc_2 (ninS ne_b1_la_2 (ninS ne_b1_pv_2 (ninS ne_b1_nx_2 nin0)))))
      have V_b6 := V_b6.keep K44 (ninS (Ne.symm ne_pa_2_b6) (ninS (Ne.symm ne_fc_2_b6) (ninS (Ne.symm ne_la_2_b6) (ninS (Ne.symm ne_pv_2_b6) (ninS (Ne.symm ne_nx_2_b6) nin0)))))
      have sz44 : n0 ≤ T44.heap.size := Nat.le_trans sz27 K44.1
      have V_pa_2 : Own.VArr Z T44.heap pa_2 .int ((.int (-1 : Int32)) :: (.int (0 : Int32)) :: (.int (-1 : Int32)) :: (.int (-1 : Int32)) :: own_tl) := V_pa_2'
      have V_fc_2 : Own.VArr Z T44.heap fc_2 .int ((.int (1 : Int32)) :: (.int (-1 : Int32)) :: (.int (-1 : Int32)) :: (.int (-1 : Int32)) :: own_tl) := V_fc_2'
      have V_la_2 : Own.VArr Z T44.heap la_2 .int ((.int (1 : Int32)) :: (.int (-1 : Int32)) :: (.int (-1 : Int32)) :: (.int (-1 : Int32)) :: own_tl) := V_la_2'
      have V_pv_2 : Own.VArr Z T44.heap pv_2 .int ((.int (-1 : Int32)) :: (.int (-1 : Int32)) :: (.int (-1 : Int32)) :: (.int (-1 : Int32)) :: own_tl) := V_pv_2'
      have V_nx_2 : Own.VArr Z T44.heap nx_2 .int ((.int (-1 : Int32)) :: (.int (-1 : Int32)) :: (.int (-1 : Int32)) :: (.int (-1 : Int32)) :: own_tl) := V_nx_2'
      have N44 := Fr.app N27 Nq44
      show Own.Go p e below _ (T44.setTop (mkF m 156 #[.val (.int sh), .val (.int pk), .val (.int pl), .val (.ref b1), .val (.int (1 : Int32)), .val (.int (2 : Int32)), .val (.int (3 : Int32)), .val (.ref b6), .val (.int (2 : Int32)), .val (.int (1 : Int32)), .val (.int (2 : Int32)), .unset, .unset, .unset, .unset, .unset, .unset, .unset, .unset, .unset] []))
      refine Own.aloadN X44 hx (pc := 156) (hb hby at_156) rfl rfl ?_
      refine Own.iload X44 hx (pc := 157) (hb hby at_157) rfl ?_
      refine Own.callVirtual X44 hx hZ (pc := 159) (y := (⟨"com/example/sprigdex/sprigdex/index/html/HtmlTree", "parent", "(I)I"⟩ : MethodName)) (z := (⟨"com/example/sprigdex/sprigdex/index/html/HtmlTree", "parent", "(I)I"⟩ : MethodName)) hown (Wd hw 104 rfl) (Wd hw 105 rfl) (Wd hw 107 rfl) (Wd hw 106 rfl) (Wd hw 2 rfl) (Wd hw 108 rfl) (Wd hw 107 rfl) (by decide) 0 b1 [(.int (2 : Int32))] [] E_b1 (rm14 l Z a0 hw b1 (2 : Int32) pa_2 ((.int (-1 : Int32)) :: (.int (0 : Int32)) :: (.int (-1 : Int32)) :: (.int (-1 : Int32)) :: own_tl) (-1 : Int32) T44.heap n0 sz44 F_b1_parent V_pa_2 (by decide) rfl) (by decide) (by decide) e44 (by rw [hml]; rfl) pd7 rfl rfl (Nat.le_of_eq rfl) (hb hby at_159) (by decide) (by decide) ?_
      intro T45 L45 v45 X45 hQ45
      obtain ⟨rfl, Nq45, e45⟩ := hQ45
      have N45 := Fr.app N44 Nq45
      show Own.Go p e below _ (T45.setTop (mkF m 162 #[.val (.int sh), .val (.int pk), .val (.int pl), .val (.ref b1), .val (.int (1 : Int32)), .val (.int (2 : Int32)), .val (.int (3 : Int32)), .val (.ref b6), .val (.int (2 : Int32)), .val (.int (1 : Int32)), .val (.int (2 : Int32)), .unset, .unset, .unset, .unset, .unset, .unset, .unset, .unset, .unset] [(.int (-1 : Int32))]))
      refine Own.iconst X45 hx (pc := 162) (-1 : Int32) (hb hby at_162) (by decide) ?_
      refine Own.icmpYes X45 hx (pc := 163) 168 (hb hby at_163) (by decide) (by decide) (by decide) ?_
      refine Own.aloadN X45 hx (pc := 168) (hb hby at_168) rfl rfl ?_
      refine Own.iload X45 hx (pc := 169) (hb hby at_169) rfl ?_
      refine Own.callVirtual X45 hx hZ (pc := 171) (y := (⟨"com/example/sprigdex/sprigdex/index/html/HtmlTree", "nextSibling", "(I)I"⟩ : MethodName)) (z := (⟨"com/example/sprigdex/sprigdex/index/html/HtmlTree", "nextSibling", "(I)I"⟩ : MethodName)) hown (Wd hw 118 rfl) (Wd hw 119 rfl) (Wd hw 121 rfl) (Wd hw 120 rfl) (Wd hw 2 rfl) (Wd hw 122 rfl) (Wd hw 121 rfl) (by decide) 0 b1 [(.int (2 : Int32))] [] E_b1 (rm17 l Z a0 hw b1 (2 : Int32) nx_2 ((.int (-1 : Int32)) :: (.int (-1 : Int32)) :: (.int (-1 : Int32)) :: (.int (-1 : Int32)) :: own_tl) (-1 : Int32) T44.heap n0 sz44 F_b1_nextSibling V_nx_2 (by decide) rfl) (by decide) (by decide) e45 (by rw [hml]; rfl) pd7 rfl rfl (Nat.le_of_eq rfl) (hb hby at_171) (by decide) (by decide) ?_
      intro T46 L46 v46 X46 hQ46
      obtain ⟨rfl, Nq46, e46⟩ := hQ46
      have N46 := Fr.app N45 Nq46
      show Own.Go p e below _ (T46.setTop (mkF m 174 #[.val (.int sh), .val (.int pk), .val (.int pl), .val (.ref b1), .val (.int (1 : Int32)), .val (.int (2 : Int32)), .val (.int (3 : Int32)), .val (.ref b6), .val (.int (2 : Int32)), .val (.int (1 : Int32)), .val (.int (2 : Int32)), .unset, .unset, .unset, .unset, .unset, .unset, .unset, .unset, .unset] [(.int (-1 : Int32))]))
      refine Own.iconst X46 hx (pc := 174) (-1 : Int32) (hb hby at_174) (by decide) ?_
      refine Own.icmpYes X46 hx (pc := 175) 180 (hb hby at_175) (by decide) (by decide) (by decide) ?_
      refine Own.iload X46 hx (pc := 180) (hb hby at_180) rfl ?_
      refine Own.iconst X46 hx (pc := 182) (1 : Int32) (hb hby at_182) (by decide) ?_
      refine Own.isub X46 hx (pc := 183) (hb hby at_183) ?_
      refine Own.topI (show ((2 : Int32) - (1 : Int32)) = (1 : Int32) by decide) ?_
      refine Own.istore X46 hx (pc := 184) #[.val (.int sh), .val (.int pk), .val (.int pl), .val (.ref b1), .val (.int (1 : Int32)), .val (.int (2 : Int32)), .val (.int (3 : Int32)), .val (.ref b6), .val (.int (2 : Int32)), .val (.int (1 : Int32)), .val (.int (2 : Int32)), .val (.int (1 : Int32)), .unset, .unset, .unset, .unset, .unset, .unset, .unset, .unset] (hb hby at_184) rfl ?_
      refine Own.iload X46 hx (pc := 186) (hb hby at_186) rfl ?_
      refine Own.ifYes X46 hx (pc := 188) 198 (hb hby at_188) (by decide) (by decide) (by decide) ?_
      refine Own.aload X46 hx (pc := 198) (hb hby at_198) rfl rfl ?_
      refine Own.iconst X46 hx (pc := 200) (0 : Int32) (hb hby at_200) (by decide) ?_
      refine Own.iaload X46 hx hZ (pc := 201) e46 V_b6 (v := (.int (1 : Int32))) 0 (by decide) (by decide) rfl (hb hby at_201) ?_
      refine Own.istore X46 hx (pc := 202) #[.val (.int sh), .val (.int pk), .val (.int pl), .val (.ref b1), .val (.int (1 : Int32)), .val (.int (2 : Int32)), .val (.int (3 : Int32)), .val (.ref b6), .val (.int (2 : Int32)), .val (.int (1 : Int32)), .val (.int (2 : Int32)), .val (.int (1 : Int32)), .val (.int (1 : Int32)), .unset, .unset, .unset, .unset, .unset, .unset, .unset] (hb hby at_202) rfl ?_
      refine Own.iload X46 hx (pc := 204) (hb hby at_204) rfl ?_
      refine Own.iconst X46 hx (pc := 206) (1 : Int32) (hb hby at_206) (by decide) ?_
      refine Own.icmpNo X46 hx (pc := 207) (hb hby at_207) (by decide) ?_
      refine Own.aload X46 hx (pc := 210) (hb hby at_210) rfl rfl ?_
      refine Own.iconst X46 hx (pc := 212) (2 : Int32) (hb hby at_212) (by decide) ?_
      refine Own.iaload X46 hx hZ (pc := 213) e46 V_b6 (v := (.int (3 : Int32))) 2 (by decide) (by decide) rfl (hb hby at_213) ?_
      refine Own.goto X46 hx (pc := 214) 221 (hb hby at_214) (by decide) (by decide) ?_
      refine Own.istore X46 hx (pc := 221) #[.val (.int sh), .val (.int pk), .val (.int pl), .val (.ref b1), .val (.int (1 : Int32)), .val (.int (2 : Int32)), .val (.int (3 : Int32)), .val (.ref b6), .val (.int (2 : Int32)), .val (.int (1 : Int32)), .val (.int (2 : Int32)), .val (.int (1 : Int32)), .val (.int (1 : Int32)), .val (.int (3 : Int32)), .unset, .unset, .unset, .unset, .unset, .unset] (hb hby at_221) rfl ?_
      refine Own.iload X46 hx (pc := 223) (hb hby at_223) rfl ?_
      refine Own.ifYes X46 hx (pc := 225) 232 (hb hby at_225) (by decide) (by decide) (by decide) ?_
      refine Own.iload X46 hx (pc := 232) (hb hby at_232) rfl ?_
      refine Own.istore X46 hx (pc := 234) #[.val (.int sh), .val (.int pk), .val (.int pl), .val (.ref b1), .val (.int (1 : Int32)), .val (.int (2 : Int32)), .val (.int (3 : Int32)), .val (.ref b6), .val (.int (2 : Int32)), .val (.int (1 : Int32)), .val (.int (2 : Int32)), .val (.int (1 : Int32)), .val (.int (1 : Int32)), .val (.int (3 : Int32)), .val (.int (1 : Int32)), .unset, .unset, .unset, .unset, .unset] (hb hby at_234) rfl ?_
      refine Own.aloadN X46 hx (pc := 236) (hb hby at_236) rfl rfl ?_
      refine Own.iconst X46 hx (pc := 237) (0 : Int32) (hb hby at_237) (by decide) ?_
      refine Own.callVirtual X46 hx hZ (pc := 238) (y := (⟨"com/example/sprigdex/sprigdex/index/html/HtmlTree", "firstChild", "(I)I"⟩ : MethodName)) (z := (⟨"com/example/sprigdex/sprigdex/index/html/HtmlTree", "firstChild", "(I)I"⟩ : MethodName)) hown (Wd hw 113 rfl) (Wd hw 114 rfl) (Wd hw 116 rfl) (Wd hw 115 rfl) (Wd hw 2 rfl) (Wd hw 117 rfl) (Wd hw 116 rfl) (by decide) 0 b1 [(.int (0 : Int32))] [] E_b1 (rm16 l Z a0 hw b1 (0 : Int32) fc_2 ((.int (1 : Int32)) :: (.int (-1 : Int32)) :: (.int (-1 : Int32)) :: (.int (-1 : Int32)) :: own_tl) (1 : Int32) T44.heap n0 sz44 F_b1_firstChild V_fc_2 (by decide) rfl) (by decide) (by decide) e46 (by rw [hml]; rfl) pd7 rfl rfl (Nat.le_of_eq rfl) (hb hby at_238) (by decide) (by decide) ?_
      intro T47 L47 v47 X47 hQ47
      obtain ⟨rfl, Nq47, e47⟩ := hQ47
      have N47 := Fr.app N46 Nq47
      show Own.Go p e below _ (T47.setTop (mkF m 241 #[.val (.int sh), .val (.int pk), .val (.int pl), .val (.ref b1), .val (.int (1 : Int32)), .val (.int (2 : Int32)), .val (.int (3 : Int32)), .val (.ref b6), .val (.int (2 : Int32)), .val (.int (1 : Int32)), .val (.int (2 : Int32)), .val (.int (1 : Int32)), .val (.int (1 : Int32)), .val (.int (3 : Int32)), .val (.int (1 : Int32)), .unset, .unset, .unset, .unset, .unset] [(.int (1 : Int32))]))
      refine Own.iload X47 hx (pc := 241) (hb hby at_241) rfl ?_
      refine Own.icmpYes X47 hx (pc := 243) 248 (hb hby at_243) (by decide) (by decide) (by decide) ?_
      refine Own.iloadN X47 hx (pc := 248) (hb hby at_248) rfl ?_
      refine Own.ldcI X47 hx hZ (pc := 249) hown (Wd hw 92 rfl) (hb hby at_249) ?_
      refine Own.iand X47 hx (pc := 251) (hb hby at_251) ?_
      refine Own.iload X47 hx (pc := 252) (hb hby at_252) rfl ?_
      refine Own.iconst X47 hx (pc := 254) (1 : Int32) (hb hby at_254) (by decide) ?_
      refine Own.iadd X47 hx (pc := 255) (hb hby at_255) ?_
      refine Own.topI (show ((1 : Int32) + (1 : Int32)) = (2 : Int32) by decide) ?_
      refine Own.irem X47 hx (pc := 256) (hb hby at_256) (by decide) ?_
      generalize qj48 : ((pl &&& (2147483647 : Int32)) % (2 : Int32)) = j48
      rcases own_c2 _ qj48 with rfl | rfl
      · refine Own.istore X47 hx (pc := 257) #[.val (.int sh), .val (.int pk), .val (.int pl), .val (.ref b1), .val (.int (1 : Int32)), .val (.int (2 : Int32)), .val (.int (3 : Int32)), .val (.ref b6), .val (.int (2 : Int32)), .val (.int (1 : Int32)), .val (.int (2 : Int32)), .val (.int (1 : Int32)), .val (.int (1 : Int32)), .val (.int (3 : Int32)), .val (.int (1 : Int32)), .val (.int (0 : Int32)), .unset, .unset, .unset, .unset] (hb hby at_257) rfl ?_
        refine Own.iload X47 hx (pc := 259) (hb hby at_259) rfl ?_
        refine Own.iload X47 hx (pc := 261) (hb hby at_261) rfl ?_
        refine Own.icmpYes X47 hx (pc := 263) 270 (hb hby at_263) (by decide) (by decide) (by decide) ?_
        refine Own.iload X47 hx (pc := 270) (hb hby at_270) rfl ?_
        refine Own.ifNo X47 hx (pc := 272) (hb hby at_272) (by decide) ?_
        refine Own.iload X47 hx (pc := 275) (hb hby at_275) rfl ?_
        refine Own.goto X47 hx (pc := 277) 282 (hb hby at_277) (by decide) (by decide) ?_
        refine Own.istore X47 hx (pc := 282) #[.val (.int sh), .val (.int pk), .val (.int pl), .val (.ref b1), .val (.int (1 : Int32)), .val (.int (2 : Int32)), .val (.int (3 : Int32)), .val (.ref b6), .val (.int (2 : Int32)), .val (.int (1 : Int32)), .val (.int (2 : Int32)), .val (.int (1 : Int32)), .val (.int (1 : Int32)), .val (.int (3 : Int32)), .val (.int (1 : Int32)), .val (.int (0 : Int32)), .val (.int (1 : Int32)), .unset, .unset, .unset] (hb hby at_282) rfl ?_
        refine Own.aloadN X47 hx (pc := 284) (hb hby at_284) rfl rfl ?_
        refine Own.iconst X47 hx (pc := 285) (0 : Int32) (hb hby at_285) (by decide) ?_
        refine Own.iload X47 hx (pc := 286) (hb hby at_286) rfl ?_
        refine Own.iload X47 hx (pc := 288) (hb hby at_288) rfl ?_
        refine Own.callVirtual X47 hx hZ (pc := 290) (y := (⟨"com/example/sprigdex/sprigdex/index/html/HtmlTree", "insert", "(III)V"⟩ : MethodName)) (z := (⟨"com/example/sprigdex/sprigdex/index/html/HtmlTree", "insert", "(III)V"⟩ : MethodName)) hown (Wd hw 93 rfl) (Wd hw 94 rfl) (Wd hw 96 rfl) (Wd hw 95 rfl) (Wd hw 2 rfl) (Wd hw 97 rfl) (Wd hw 96 rfl) (by decide) 0 b1 [(.int (0 : Int32)), (.int (2 : Int32)), (.int (1 : Int32))] [] E_b1 (rmI10 l Z a0 hw b1 (0 : Int32) (2 : Int32) (1 : Int32) pa_2 fc_2 la_2 pv_2 nx_2 ((.int (-1 : Int32)) :: (.int (0 : Int32)) :: (.int (-1 : Int32)) :: (.int (-1 : Int32)) :: own_tl) ((.int (1 : Int32)) :: (.int (-1 : Int32)) :: (.int (-1 : Int32)) :: (.int (-1 : Int32)) :: own_tl) ((.int (1 : Int32)) :: (.int (-1 : Int32)) :: (.int (-1 : Int32)) :: (.int (-1 : Int32)) :: own_tl) ((.int (-1 : Int32)) :: (.int (-1 : Int32)) :: (.int (-1 : Int32)) :: (.int (-1 : Int32)) :: own_tl) ((.int (-1 : Int32)) :: (.int (-1 : Int32)) :: (.int (-1 : Int32)) :: (.int (-1 : Int32)) :: own_tl) T44.heap n0 sz44 E_b1 F_b1_parent F_b1_firstChild F_b1_lastChild F_b1_previousSibling F_b1_nextSibling V_pa_2 V_fc_2 V_la_2 V_pv_2 V_nx_2 ge_pa_2 ge_fc_2 ge_la_2 ge_pv_2 ge_nx_2 ne_b1_pa_2 ne_b1_fc_2 ne_b1_la_2 ne_b1_pv_2 ne_b1_nx_2 ne_pa_2_fc_2 ne_pa_2_la_2 ne_pa_2_pv_2 ne_pa_2_nx_2 ne_fc_2_la_2 ne_fc_2_pv_2 ne_fc_2_nx_2 ne_la_2_pv_2 ne_la_2_nx_2 ne_pv_2_nx_2 rfl rfl rfl rfl rfl (by decide) (by decide) (by decide) (by decide) (by decide) (by decide) rfl rfl (by decide)) (by decide) (by decide) e47 (by rw [hml]; rfl) pd11 rfl rfl (Nat.le_of_eq rfl) (hb hby at_290) (by decide) (by decide) ?_
        intro T49 L49 v49 X49 hQ49
        obtain ⟨rfl, Nq49, K49, V_pa_2', V_fc_2', V_la_2', V_pv_2', V_nx_2'⟩ := hQ49
        have e49 : T49.heap = T49.heap := rfl
        have E_b1 := E_b1.keep K49
        have F_b1_parent := F_b1_parent.keep K49 (ninS ne_b1_pa_2 (ninS ne_b1_fc_2 (ninS ne_b1_la_2 (ninS ne_b1_pv_2 (ninS ne_b1_nx_2 nin0)))))
        have F_b1_firstChild := F_b1_firstChild.keep K49 (ninS ne_b1_pa_2 (ninS ne_b1_fc_2 (ninS ne_b1_la_2 (ninS ne_b1_pv_2 (ninS ne_b1_nx_2 nin0)))))
        have F_b1_lastChild := F_b1_lastChild.keep K49 (ninS ne_b1_pa_2 (ninS ne_b1_fc_2 (ninS ne_b1_la_2 (ninS ne_b1_pv_2 (ninS ne_b1_nx_2 nin0)))))
        have F_b1_previousSibling := F_b1_previousSibling.keep K49 (ninS ne_b1_pa_2 (ninS ne_b1_fc_2 (ninS ne_b1_la_2 (ninS ne_b1_pv_2 (ninS ne_b1_nx_2 nin0)))))
        have F_b1_nextSibling := F_b1_nextSibling.keep K49 (ninS ne_b1_pa_2 (ninS ne_b1_fc_2 (ninS ne_b1_la_2 (ninS ne_b1_pv_2 (ninS ne_b1_nx_2 nin0)))))
        have V_b6 := V_b6.keep K49 (ninS (Ne.symm ne_pa_2_b6) (ninS (Ne.symm ne_fc_2_b6) (ninS (Ne.symm ne_la_2_b6) (ninS (Ne.symm ne_pv_2_b6) (ninS (Ne.symm ne_nx_2_b6) nin0)))))
        have sz49 : n0 ≤ T49.heap.size := Nat.le_trans sz44 K49.1
        have V_pa_2 : Own.VArr Z T49.heap pa_2 .int ((.int (-1 : Int32)) :: (.int (0 : Int32)) :: (.int (0 : Int32)) :: (.int (-1 : Int32)) :: own_tl) := V_pa_2'
        have V_fc_2 : Own.VArr Z T49.heap fc_2 .int ((.int (2 : Int32)) :: (.int (-1 : Int32)) :: (.int (-1 : Int32)) :: (.int (-1 : Int32)) :: own_tl) := V_fc_2'
        have V_la_2 : Own.VArr Z T49.heap la_2 .int ((.int (1 : Int32)) :: (.int (-1 : Int32)) :: (.int (-1 : Int32)) :: (.int (-1 : Int32)) :: own_tl) := V_la_2'
        have V_pv_2 : Own.VArr Z T49.heap pv_2 .int ((.int (-1 : Int32)) :: (.int (2 : Int32)) :: (.int (-1 : Int32)) :: (.int (-1 : Int32)) :: own_tl) := V_pv_2'
        have V_nx_2 : Own.VArr Z T49.heap nx_2 .int ((.int (-1 : Int32)) :: (.int (-1 : Int32)) :: (.int (1 : Int32)) :: (.int (-1 : Int32)) :: own_tl) := V_nx_2'
        have N49 := Fr.app N47 Nq49
        show Own.Go p e below _ (T49.setTop (mkF m 293 #[.val (.int sh), .val (.int pk), .val (.int pl), .val (.ref b1), .val (.int (1 : Int32)), .val (.int (2 : Int32)), .val (.int (3 : Int32)), .val (.ref b6), .val (.int (2 : Int32)), .val (.int (1 : Int32)), .val (.int (2 : Int32)), .val (.int (1 : Int32)), .val (.int (1 : Int32)), .val (.int (3 : Int32)), .val (.int (1 : Int32)), .val (.int (0 : Int32)), .val (.int (1 : Int32)), .unset, .unset, .unset] []))
        refine Own.iload X49 hx (pc := 293) (hb hby at_293) rfl ?_
        refine Own.iload X49 hx (pc := 295) (hb hby at_295) rfl ?_
        refine Own.iload X49 hx (pc := 297) (hb hby at_297) rfl ?_
        refine Own.iload X49 hx (pc := 299) (hb hby at_299) rfl ?_
        refine Own.iconst X49 hx (pc := 301) (0 : Int32) (hb hby at_301) (by decide) ?_
        refine Own.callStatic X49 hx hZ (pc := 302) (y := (⟨"com/example/sprigdex/sprigdex/index/html/HtmlTreeDetachPinLaw", "at", "(IIIII)I"⟩ : MethodName)) hown (Wd hw 123 rfl) (Wd hw 124 rfl) (Wd hw 111 rfl) (Wd hw 125 rfl) (by decide) 0 [(.int (1 : Int32)), (.int (3 : Int32)), (.int (2 : Int32)), (.int (0 : Int32)), (.int (0 : Int32))] [] (rm18 l Z a0 hw (1 : Int32) (3 : Int32) (2 : Int32) (0 : Int32) (0 : Int32) T49.heap n0 sz49 ) (by decide) (by decide) e49 (by rw [hml]; rfl) pd12 rfl rfl (Nat.le_of_eq rfl) (hb hby at_302) (by decide) (by decide) ?_
        intro T50 L50 v50 X50 hQ50
        obtain ⟨rfl, Nq50, e50⟩ := hQ50
        have N50 := Fr.app N49 Nq50
        show Own.Go p e below _ (T50.setTop (mkF m 305 #[.val (.int sh), .val (.int pk), .val (.int pl), .val (.ref b1), .val (.int (1 : Int32)), .val (.int (2 : Int32)), .val (.int (3 : Int32)), .val (.ref b6), .val (.int (2 : Int32)), .val (.int (1 : Int32)), .val (.int (2 : Int32)), .val (.int (1 : Int32)), .val (.int (1 : Int32)), .val (.int (3 : Int32)), .val (.int (1 : Int32)), .val (.int (0 : Int32)), .val (.int (1 : Int32)), .unset, .unset, .unset] [(.int (2 : Int32))]))
        refine Own.istore X50 hx (pc := 305) #[.val (.int sh), .val (.int pk), .val (.int pl), .val (.ref b1), .val (.int (1 : Int32)), .val (.int (2 : Int32)), .val (.int (3 : Int32)), .val (.ref b6), .val (.int (2 : Int32)), .val (.int (1 : Int32)), .val (.int (2 : Int32)), .val (.int (1 : Int32)), .val (.int (1 : Int32)), .val (.int (3 : Int32)), .val (.int (1 : Int32)), .val (.int (0 : Int32)), .val (.int (1 : Int32)), .val (.int (2 : Int32)), .unset, .unset] (hb hby at_305) rfl ?_
        refine Own.iload X50 hx (pc := 307) (hb hby at_307) rfl ?_
        refine Own.iload X50 hx (pc := 309) (hb hby at_309) rfl ?_
        refine Own.iload X50 hx (pc := 311) (hb hby at_311) rfl ?_
        refine Own.iload X50 hx (pc := 313) (hb hby at_313) rfl ?_
        refine Own.iconst X50 hx (pc := 315) (1 : Int32) (hb hby at_315) (by decide) ?_
        refine Own.callStatic X50 hx hZ (pc := 316) (y := (⟨"com/example/sprigdex/sprigdex/index/html/HtmlTreeDetachPinLaw", "at", "(IIIII)I"⟩ : MethodName)) hown (Wd hw 123 rfl) (Wd hw 124 rfl) (Wd hw 111 rfl) (Wd hw 125 rfl) (by decide) 0 [(.int (1 : Int32)), (.int (3 : Int32)), (.int (2 : Int32)), (.int (0 : Int32)), (.int (1 : Int32))] [] (rm18 l Z a0 hw (1 : Int32) (3 : Int32) (2 : Int32) (0 : Int32) (1 : Int32) T49.heap n0 sz49 ) (by decide) (by decide) e50 (by rw [hml]; rfl) pd12 rfl rfl (Nat.le_of_eq rfl) (hb hby at_316) (by decide) (by decide) ?_
        intro T51 L51 v51 X51 hQ51
        obtain ⟨rfl, Nq51, e51⟩ := hQ51
        have N51 := Fr.app N50 Nq51
        show Own.Go p e below _ (T51.setTop (mkF m 319 #[.val (.int sh), .val (.int pk), .val (.int pl), .val (.ref b1), .val (.int (1 : Int32)), .val (.int (2 : Int32)), .val (.int (3 : Int32)), .val (.ref b6), .val (.int (2 : Int32)), .val (.int (1 : Int32)), .val (.int (2 : Int32)), .val (.int (1 : Int32)), .val (.int (1 : Int32)), .val (.int (3 : Int32)), .val (.int (1 : Int32)), .val (.int (0 : Int32)), .val (.int (1 : Int32)), .val (.int (2 : Int32)), .unset, .unset] [(.int (1 : Int32))]))
        refine Own.istore X51 hx (pc := 319) #[.val (.int sh), .val (.int pk), .val (.int pl), .val (.ref b1), .val (.int (1 : Int32)), .val (.int (2 : Int32)), .val (.int (3 : Int32)), .val (.ref b6), .val (.int (2 : Int32)), .val (.int (1 : Int32)), .val (.int (2 : Int32)), .val (.int (1 : Int32)), .val (.int (1 : Int32)), .val (.int (3 : Int32)), .val (.int (1 : Int32)), .val (.int (0 : Int32)), .val (.int (1 : Int32)), .val (.int (2 : Int32)), .val (.int (1 : Int32)), .unset] (hb hby at_319) rfl ?_
        refine Own.iload X51 hx (pc := 321) (hb hby at_321) rfl ?_
        refine Own.iload X51 hx (pc := 323) (hb hby at_323) rfl ?_
        refine Own.iload X51 hx (pc := 325) (hb hby at_325) rfl ?_
        refine Own.iload X51 hx (pc := 327) (hb hby at_327) rfl ?_
        refine Own.iconst X51 hx (pc := 329) (2 : Int32) (hb hby at_329) (by decide) ?_
        refine Own.callStatic X51 hx hZ (pc := 330) (y := (⟨"com/example/sprigdex/sprigdex/index/html/HtmlTreeDetachPinLaw", "at", "(IIIII)I"⟩ : MethodName)) hown (Wd hw 123 rfl) (Wd hw 124 rfl) (Wd hw 111 rfl) (Wd hw 125 rfl) (by decide) 0 [(.int (1 : Int32)), (.int (3 : Int32)), (.int (2 : Int32)), (.int (0 : Int32)), (.int (2 : Int32))] [] (rm18 l Z a0 hw (1 : Int32) (3 : Int32) (2 : Int32) (0 : Int32) (2 : Int32) T49.heap n0 sz49 ) (by decide) (by decide) e51 (by rw [hml]; rfl) pd12 rfl rfl (Nat.le_of_eq rfl) (hb hby at_330) (by decide) (by decide) ?_
        intro T52 L52 v52 X52 hQ52
        obtain ⟨rfl, Nq52, e52⟩ := hQ52
        have N52 := Fr.app N51 Nq52
        show Own.Go p e below _ (T52.setTop (mkF m 333 #[.val (.int sh), .val (.int pk), .val (.int pl), .val (.ref b1), .val (.int (1 : Int32)), .val (.int (2 : Int32)), .val (.int (3 : Int32)), .val (.ref b6), .val (.int (2 : Int32)), .val (.int (1 : Int32)), .val (.int (2 : Int32)), .val (.int (1 : Int32)), .val (.int (1 : Int32)), .val (.int (3 : Int32)), .val (.int (1 : Int32)), .val (.int (0 : Int32)), .val (.int (1 : Int32)), .val (.int (2 : Int32)), .val (.int (1 : Int32)), .unset] [(.int (3 : Int32))]))
        refine Own.istore X52 hx (pc := 333) #[.val (.int sh), .val (.int pk), .val (.int pl), .val (.ref b1), .val (.int (1 : Int32)), .val (.int (2 : Int32)), .val (.int (3 : Int32)), .val (.ref b6), .val (.int (2 : Int32)), .val (.int (1 : Int32)), .val (.int (2 : Int32)), .val (.int (1 : Int32)), .val (.int (1 : Int32)), .val (.int (3 : Int32)), .val (.int (1 : Int32)), .val (.int (0 : Int32)), .val (.int (1 : Int32)), .val (.int (2 : Int32)), .val (.int (1 : Int32)), .val (.int (3 : Int32))] (hb hby at_333) rfl ?_
        refine Own.aloadN X52 hx (pc := 335) (hb hby at_335) rfl rfl ?_
        refine Own.iload X52 hx (pc := 336) (hb hby at_336) rfl ?_
        refine Own.iload X52 hx (pc := 338) (hb hby at_338) rfl ?_
        refine Own.iload X52 hx (pc := 340) (hb hby at_340) rfl ?_
        refine Own.iload X52 hx (pc := 342) (hb hby at_342) rfl ?_
        refine Own.callStatic X52 hx hZ (pc := 344) (y := (⟨"com/example/sprigdex/sprigdex/index/html/HtmlTreeDetachPinLaw", "chain", "(Lcom/example/sprigdex/sprigdex/index/html/HtmlTree;IIII)Z"⟩ : MethodName)) hown (Wd hw 109 rfl) (Wd hw 110 rfl) (Wd hw 111 rfl) (Wd hw 112 rfl) (by decide) 0 [(.ref b1), (.int (2 : Int32)), (.int (1 : Int32)), (.int (3 : Int32)), (.int (2 : Int32))] [] (rmC2 l Z a0 hw b1 (2 : Int32) (1 : Int32) (3 : Int32) pa_2 fc_2 nx_2 ((.int (-1 : Int32)) :: (.int (0 : Int32)) :: (.int (0 : Int32)) :: (.int (-1 : Int32)) :: own_tl) ((.int (2 : Int32)) :: (.int (-1 : Int32)) :: (.int (-1 : Int32)) :: (.int (-1 : Int32)) :: own_tl) ((.int (-1 : Int32)) :: (.int (-1 : Int32)) :: (.int (1 : Int32)) :: (.int (-1 : Int32)) :: own_tl) T49.heap n0 sz49 E_b1 F_b1_parent F_b1_firstChild F_b1_nextSibling V_pa_2 V_fc_2 V_nx_2 rfl (by decide) rfl rfl (by decide) rfl rfl) (by decide) (by decide) e52 (by rw [hml]; rfl) pd13 rfl rfl (Nat.le_of_eq rfl) (hb hby at_344) (by decide) (by decide) ?_
        intro T53 L53 v53 X53 hQ53
        obtain ⟨rfl, Nq53, e53⟩ := hQ53
        have N53 := Fr.app N52 Nq53
        show Own.Go p e below _ (T53.setTop (mkF m 347 #[.val (.int sh), .val (.int pk), .val (.int pl), .val (.ref b1), .val (.int (1 : Int32)), .val (.int (2 : Int32)), .val (.int (3 : Int32)), .val (.ref b6), .val (.int (2 : Int32)), .val (.int (1 : Int32)), .val (.int (2 : Int32)), .val (.int (1 : Int32)), .val (.int (1 : Int32)), .val (.int (3 : Int32)), .val (.int (1 : Int32)), .val (.int (0 : Int32)), .val (.int (1 : Int32)), .val (.int (2 : Int32)), .val (.int (1 : Int32)), .val (.int (3 : Int32))] [(.int (1 : Int32))]))
        exact Own.ireturn X53 hx hk hret (by simp) rfl (hb hby at_347) e53 ⟨rfl, N53⟩ (by decide) (by decide)
      · refine Own.istore X47 hx (pc := 257) #[.val (.int sh), .val (.int pk), .val (.int pl), .val (.ref b1), .val (.int (1 : Int32)), .val (.int (2 : Int32)), .val (.int (3 : Int32)), .val (.ref b6), .val (.int (2 : Int32)), .val (.int (1 : Int32)), .val (.int (2 : Int32)), .val (.int (1 : Int32)), .val (.int (1 : Int32)), .val (.int (3 : Int32)), .val (.int (1 : Int32)), .val (.int (1 : Int32)), .unset, .unset, .unset, .unset] (hb hby at_257) rfl ?_
        refine Own.iload X47 hx (pc := 259) (hb hby at_259) rfl ?_
        refine Own.iload X47 hx (pc := 261) (hb hby at_261) rfl ?_
        refine Own.icmpNo X47 hx (pc := 263) (hb hby at_263) (by decide) ?_
        refine Own.iconst X47 hx (pc := 266) (-1 : Int32) (hb hby at_266) (by decide) ?_
        refine Own.goto X47 hx (pc := 267) 282 (hb hby at_267) (by decide) (by decide) ?_
        refine Own.istore X47 hx (pc := 282) #[.val (.int sh), .val (.int pk), .val (.int pl), .val (.ref b1), .val (.int (1 : Int32)), .val (.int (2 : Int32)), .val (.int (3 : Int32)), .val (.ref b6), .val (.int (2 : Int32)), .val (.int (1 : Int32)), .val (.int (2 : Int32)), .val (.int (1 : Int32)), .val (.int (1 : Int32)), .val (.int (3 : Int32)), .val (.int (1 : Int32)), .val (.int (1 : Int32)), .val (.int (-1 : Int32)), .unset, .unset, .unset] (hb hby at_282) rfl ?_
        refine Own.aloadN X47 hx (pc := 284) (hb hby at_284) rfl rfl ?_
        refine Own.iconst X47 hx (pc := 285) (0 : Int32) (hb hby at_285) (by decide) ?_
        refine Own.iload X47 hx (pc := 286) (hb hby at_286) rfl ?_
        refine Own.iload X47 hx (pc := 288) (hb hby at_288) rfl ?_
        refine Own.callVirtual X47 hx hZ (pc := 290) (y := (⟨"com/example/sprigdex/sprigdex/index/html/HtmlTree", "insert", "(III)V"⟩ : MethodName)) (z := (⟨"com/example/sprigdex/sprigdex/index/html/HtmlTree", "insert", "(III)V"⟩ : MethodName)) hown (Wd hw 93 rfl) (Wd hw 94 rfl) (Wd hw 96 rfl) (Wd hw 95 rfl) (Wd hw 2 rfl) (Wd hw 97 rfl) (Wd hw 96 rfl) (by decide) 0 b1 [(.int (0 : Int32)), (.int (2 : Int32)), (.int (-1 : Int32))] [] E_b1 (rmI01 l Z a0 hw b1 (0 : Int32) (2 : Int32) pa_2 fc_2 la_2 pv_2 nx_2 ((.int (-1 : Int32)) :: (.int (0 : Int32)) :: (.int (-1 : Int32)) :: (.int (-1 : Int32)) :: own_tl) ((.int (1 : Int32)) :: (.int (-1 : Int32)) :: (.int (-1 : Int32)) :: (.int (-1 : Int32)) :: own_tl) ((.int (1 : Int32)) :: (.int (-1 : Int32)) :: (.int (-1 : Int32)) :: (.int (-1 : Int32)) :: own_tl) ((.int (-1 : Int32)) :: (.int (-1 : Int32)) :: (.int (-1 : Int32)) :: (.int (-1 : Int32)) :: own_tl) ((.int (-1 : Int32)) :: (.int (-1 : Int32)) :: (.int (-1 : Int32)) :: (.int (-1 : Int32)) :: own_tl) (1 : Int32) T44.heap n0 sz44 E_b1 F_b1_parent F_b1_firstChild F_b1_lastChild F_b1_previousSibling F_b1_nextSibling V_pa_2 V_fc_2 V_la_2 V_pv_2 V_nx_2 ge_pa_2 ge_fc_2 ge_la_2 ge_pv_2 ge_nx_2 ne_b1_pa_2 ne_b1_fc_2 ne_b1_la_2 ne_b1_pv_2 ne_b1_nx_2 ne_pa_2_fc_2 ne_pa_2_la_2 ne_pa_2_pv_2 ne_pa_2_nx_2 ne_fc_2_la_2 ne_fc_2_pv_2 ne_fc_2_nx_2 ne_la_2_pv_2 ne_la_2_nx_2 ne_pv_2_nx_2 rfl rfl rfl rfl rfl (by decide) (by decide) (by decide) (by decide) (by decide) (by decide) rfl rfl (by decide)) (by decide) (by decide) e47 (by rw [hml]; rfl) pd11 rfl rfl (Nat.le_of_eq rfl) (hb hby at_290) (by decide) (by decide) ?_
        intro T54 L54 v54 X54 hQ54
        obtain ⟨rfl, Nq54, K54, V_pa_2', V_fc_2', V_la_2', V_pv_2', V_nx_2'⟩ := hQ54
        have e54 : T54.heap = T54.heap := rfl
        have E_b1 := E_b1.keep K54
        have F_b1_parent := F_b1_parent.keep K54 (ninS ne_b1_pa_2 (ninS ne_b1_fc_2 (ninS ne_b1_la_2 (ninS ne_b1_pv_2 (ninS ne_b1_nx_2 nin0)))))
        have F_b1_firstChild := F_b1_firstChild.keep K54 (ninS ne_b1_pa_2 (ninS ne_b1_fc_2 (ninS ne_b1_la_2 (ninS ne_b1_pv_2 (ninS ne_b1_nx_2 nin0)))))
        have F_b1_lastChild := F_b1_lastChild.keep K54 (ninS ne_b1_pa_2 (ninS ne_b1_fc_2 (ninS ne_b1_la_2 (ninS ne_b1_pv_2 (ninS ne_b1_nx_2 nin0)))))
        have F_b1_previousSibling := F_b1_previousSibling.keep K54 (ninS ne_b1_pa_2 (ninS ne_b1_fc_2 (ninS ne_b1_la_2 (ninS ne_b1_pv_2 (ninS ne_b1_nx_2 nin0)))))
        have F_b1_nextSibling := F_b1_nextSibling.keep K54 (ninS ne_b1_pa_2 (ninS ne_b1_fc_2 (ninS ne_b1_la_2 (ninS ne_b1_pv_2 (ninS ne_b1_nx_2 nin0)))))
        have V_b6 := V_b6.keep K54 (ninS (Ne.symm ne_pa_2_b6) (ninS (Ne.symm ne_fc_2_b6) (ninS (Ne.symm ne_la_2_b6) (ninS (Ne.symm ne_pv_2_b6) (ninS (Ne.symm ne_nx_2_b6) nin0)))))
        have sz54 : n0 ≤ T54.heap.size := Nat.le_trans sz44 K54.1
        have V_pa_2 : Own.VArr Z T54.heap pa_2 .int ((.int (-1 : Int32)) :: (.int (0 : Int32)) :: (.int (0 : Int32)) :: (.int (-1 : Int32)) :: own_tl) := V_pa_2'
        have V_fc_2 : Own.VArr Z T54.heap fc_2 .int ((.int (1 : Int32)) :: (.int (-1 : Int32)) :: (.int (-1 : Int32)) :: (.int (-1 : Int32)) :: own_tl) := V_fc_2'
        have V_la_2 : Own.VArr Z T54.heap la_2 .int ((.int (2 : Int32)) :: (.int (-1 : Int32)) :: (.int (-1 : Int32)) :: (.int (-1 : Int32)) :: own_tl) := V_la_2'
        have V_pv_2 : Own.VArr Z T54.heap pv_2 .int ((.int (-1 : Int32)) :: (.int (-1 : Int32)) :: (.int (1 : Int32)) :: (.int (-1 : Int32)) :: own_tl) := V_pv_2'
        have V_nx_2 : Own.VArr Z T54.heap nx_2 .int ((.int (-1 : Int32)) :: (.int (2 : Int32)) :: (.int (-1 : Int32)) :: (.int (-1 : Int32)) :: own_tl) := V_nx_2'
        have N54 := Fr.app N47 Nq54
        show Own.Go p e below _ (T54.setTop (mkF m 293 #[.val (.int sh), .val (.int pk), .val (.int pl), .val (.ref b1), .val (.int (1 : Int32)), .val (.int (2 : Int32)), .val (.int (3 : Int32)), .val (.ref b6), .val (.int (2 : Int32)), .val (.int (1 : Int32)), .val (.int (2 : Int32)), .val (.int (1 : Int32)), .val (.int (1 : Int32)), .val (.int (3 : Int32)), .val (.int (1 : Int32)), .val (.int (1 : Int32)), .val (.int (-1 : Int32)), .unset, .unset, .unset] []))
        refine Own.iload X54 hx (pc := 293) (hb hby at_293) rfl ?_
        refine Own.iload X54 hx (pc := 295) (hb hby at_295) rfl ?_
        refine Own.iload X54 hx (pc := 297) (hb hby at_297) rfl ?_
        refine Own.iload X54 hx (pc := 299) (hb hby at_299) rfl ?_
        refine Own.iconst X54 hx (pc := 301) (0 : Int32) (hb hby at_301) (by decide) ?_
        refine Own.callStatic X54 hx hZ (pc := 302) (y := (⟨"com/example/sprigdex/sprigdex/index/html/HtmlTreeDetachPinLaw", "at", "(IIIII)I"⟩ : MethodName)) hown (Wd hw 123 rfl) (Wd hw 124 rfl) (Wd hw 111 rfl) (Wd hw 125 rfl) (by decide) 0 [(.int (1 : Int32)), (.int (3 : Int32)), (.int (2 : Int32)), (.int (1 : Int32)), (.int (0 : Int32))] [] (rm18 l Z a0 hw (1 : Int32) (3 : Int32) (2 : Int32) (1 : Int32) (0 : Int32) T54.heap n0 sz54 ) (by decide) (by decide) e54 (by rw [hml]; rfl) pd12 rfl rfl (Nat.le_of_eq rfl) (hb hby at_302) (by decide) (by decide) ?_
        intro T55 L55 v55 X55 hQ55
        obtain ⟨rfl, Nq55, e55⟩ := hQ55
        have N55 := Fr.app N54 Nq55
        show Own.Go p e below _ (T55.setTop (mkF m 305 #[.val (.int sh), .val (.int pk), .val (.int pl), .val (.ref b1), .val (.int (1 : Int32)), .val (.int (2 : Int32)), .val (.int (3 : Int32)), .val (.ref b6), .val (.int (2 : Int32)), .val (.int (1 : Int32)), .val (.int (2 : Int32)), .val (.int (1 : Int32)), .val (.int (1 : Int32)), .val (.int (3 : Int32)), .val (.int (1 : Int32)), .val (.int (1 : Int32)), .val (.int (-1 : Int32)), .unset, .unset, .unset] [(.int (1 : Int32))]))
        refine Own.istore X55 hx (pc := 305) #[.val (.int sh), .val (.int pk), .val (.int pl), .val (.ref b1), .val (.int (1 : Int32)), .val (.int (2 : Int32)), .val (.int (3 : Int32)), .val (.ref b6), .val (.int (2 : Int32)), .val (.int (1 : Int32)), .val (.int (2 : Int32)), .val (.int (1 : Int32)), .val (.int (1 : Int32)), .val (.int (3 : Int32)), .val (.int (1 : Int32)), .val (.int (1 : Int32)), .val (.int (-1 : Int32)), .val (.int (1 : Int32)), .unset, .unset] (hb hby at_305) rfl ?_
        refine Own.iload X55 hx (pc := 307) (hb hby at_307) rfl ?_
        refine Own.iload X55 hx (pc := 309) (hb hby at_309) rfl ?_
        refine Own.iload X55 hx (pc := 311) (hb hby at_311) rfl ?_
        refine Own.iload X55 hx (pc := 313) (hb hby at_313) rfl ?_
        refine Own.iconst X55 hx (pc := 315) (1 : Int32) (hb hby at_315) (by decide) ?_
        refine Own.callStatic X55 hx hZ (pc := 316) (y := (⟨"com/example/sprigdex/sprigdex/index/html/HtmlTreeDetachPinLaw", "at", "(IIIII)I"⟩ : MethodName)) hown (Wd hw 123 rfl) (Wd hw 124 rfl) (Wd hw 111 rfl) (Wd hw 125 rfl) (by decide) 0 [(.int (1 : Int32)), (.int (3 : Int32)), (.int (2 : Int32)), (.int (1 : Int32)), (.int (1 : Int32))] [] (rm18 l Z a0 hw (1 : Int32) (3 : Int32) (2 : Int32) (1 : Int32) (1 : Int32) T54.heap n0 sz54 ) (by decide) (by decide) e55 (by rw [hml]; rfl) pd12 rfl rfl (Nat.le_of_eq rfl) (hb hby at_316) (by decide) (by decide) ?_
        intro T56 L56 v56 X56 hQ56
        obtain ⟨rfl, Nq56, e56⟩ := hQ56
        have N56 := Fr.app N55 Nq56
        show Own.Go p e below _ (T56.setTop (mkF m 319 #[.val (.int sh), .val (.int pk), .val (.int pl), .val (.ref b1), .val (.int (1 : Int32)), .val (.int (2 : Int32)), .val (.int (3 : Int32)), .val (.ref b6), .val (.int (2 : Int32)), .val (.int (1 : Int32)), .val (.int (2 : Int32)), .val (.int (1 : Int32)), .val (.int (1 : Int32)), .val (.int (3 : Int32)), .val (.int (1 : Int32)), .val (.int (1 : Int32)), .val (.int (-1 : Int32)), .val (.int (1 : Int32)), .unset, .unset] [(.int (2 : Int32))]))
        refine Own.istore X56 hx (pc := 319) #[.val (.int sh), .val (.int pk), .val (.int pl), .val (.ref b1), .val (.int (1 : Int32)), .val (.int (2 : Int32)), .val (.int (3 : Int32)), .val (.ref b6), .val (.int (2 : Int32)), .val (.int (1 : Int32)), .val (.int (2 : Int32)), .val (.int (1 : Int32)), .val (.int (1 : Int32)), .val (.int (3 : Int32)), .val (.int (1 : Int32)), .val (.int (1 : Int32)), .val (.int (-1 : Int32)), .val (.int (1 : Int32)), .val (.int (2 : Int32)), .unset] (hb hby at_319) rfl ?_
        refine Own.iload X56 hx (pc := 321) (hb hby at_321) rfl ?_
        refine Own.iload X56 hx (pc := 323) (hb hby at_323) rfl ?_
        refine Own.iload X56 hx (pc := 325) (hb hby at_325) rfl ?_
        refine Own.iload X56 hx (pc := 327) (hb hby at_327) rfl ?_
        refine Own.iconst X56 hx (pc := 329) (2 : Int32) (hb hby at_329) (by decide) ?_
        refine Own.callStatic X56 hx hZ (pc := 330) (y := (⟨"com/example/sprigdex/sprigdex/index/html/HtmlTreeDetachPinLaw", "at", "(IIIII)I"⟩ : MethodName)) hown (Wd hw 123 rfl) (Wd hw 124 rfl) (Wd hw 111 rfl) (Wd hw 125 rfl) (by decide) 0 [(.int (1 : Int32)), (.int (3 : Int32)), (.int (2 : Int32)), (.int (1 : Int32)), (.int (2 : Int32))] [] (rm18 l Z a0 hw (1 : Int32) (3 : Int32) (2 : Int32) (1 : Int32) (2 : Int32) T54.heap n0 sz54 ) (by decide) (by decide) e56 (by rw [hml]; rfl) pd12 rfl rfl (Nat.le_of_eq rfl) (hb hby at_330) (by decide) (by decide) ?_
        intro T57 L57 v57 X57 hQ57
        obtain ⟨rfl, Nq57, e57⟩ := hQ57
        have N57 := Fr.app N56 Nq57
        show Own.Go p e below _ (T57.setTop (mkF m 333 #[.val (.int sh), .val (.int pk), .val (.int pl), .val (.ref b1), .val (.int (1 : Int32)), .val (.int (2 : Int32)), .val (.int (3 : Int32)), .val (.ref b6), .val (.int (2 : Int32)), .val (.int (1 : Int32)), .val (.int (2 : Int32)), .val (.int (1 : Int32)), .val (.int (1 : Int32)), .val (.int (3 : Int32)), .val (.int (1 : Int32)), .val (.int (1 : Int32)), .val (.int (-1 : Int32)), .val (.int (1 : Int32)), .val (.int (2 : Int32)), .unset] [(.int (3 : Int32))]))
        refine Own.istore X57 hx (pc := 333) #[.val (.int sh), .val (.int pk), .val (.int pl), .val (.ref b1), .val (.int (1 : Int32)), .val (.int (2 : Int32)), .val (.int (3 : Int32)), .val (.ref b6), .val (.int (2 : Int32)), .val (.int (1 : Int32)), .val (.int (2 : Int32)), .val (.int (1 : Int32)), .val (.int (1 : Int32)), .val (.int (3 : Int32)), .val (.int (1 : Int32)), .val (.int (1 : Int32)), .val (.int (-1 : Int32)), .val (.int (1 : Int32)), .val (.int (2 : Int32)), .val (.int (3 : Int32))] (hb hby at_333) rfl ?_
        refine Own.aloadN X57 hx (pc := 335) (hb hby at_335) rfl rfl ?_
        refine Own.iload X57 hx (pc := 336) (hb hby at_336) rfl ?_
        refine Own.iload X57 hx (pc := 338) (hb hby at_338) rfl ?_
        refine Own.iload X57 hx (pc := 340) (hb hby at_340) rfl ?_
        refine Own.iload X57 hx (pc := 342) (hb hby at_342) rfl ?_
        refine Own.callStatic X57 hx hZ (pc := 344) (y := (⟨"com/example/sprigdex/sprigdex/index/html/HtmlTreeDetachPinLaw", "chain", "(Lcom/example/sprigdex/sprigdex/index/html/HtmlTree;IIII)Z"⟩ : MethodName)) hown (Wd hw 109 rfl) (Wd hw 110 rfl) (Wd hw 111 rfl) (Wd hw 112 rfl) (by decide) 0 [(.ref b1), (.int (1 : Int32)), (.int (2 : Int32)), (.int (3 : Int32)), (.int (2 : Int32))] [] (rmC2 l Z a0 hw b1 (1 : Int32) (2 : Int32) (3 : Int32) pa_2 fc_2 nx_2 ((.int (-1 : Int32)) :: (.int (0 : Int32)) :: (.int (0 : Int32)) :: (.int (-1 : Int32)) :: own_tl) ((.int (1 : Int32)) :: (.int (-1 : Int32)) :: (.int (-1 : Int32)) :: (.int (-1 : Int32)) :: own_tl) ((.int (-1 : Int32)) :: (.int (2 : Int32)) :: (.int (-1 : Int32)) :: (.int (-1 : Int32)) :: own_tl) T54.heap n0 sz54 E_b1 F_b1_parent F_b1_firstChild F_b1_nextSibling V_pa_2 V_fc_2 V_nx_2 rfl (by decide) rfl rfl (by decide) rfl rfl) (by decide) (by decide) e57 (by rw [hml]; rfl) pd13 rfl rfl (Nat.le_of_eq rfl) (hb hby at_344) (by decide) (by decide) ?_
        intro T58 L58 v58 X58 hQ58
        obtain ⟨rfl, Nq58, e58⟩ := hQ58
        have N58 := Fr.app N57 Nq58
        show Own.Go p e below _ (T58.setTop (mkF m 347 #[.val (.int sh), .val (.int pk), .val (.int pl), .val (.ref b1), .val (.int (1 : Int32)), .val (.int (2 : Int32)), .val (.int (3 : Int32)), .val (.ref b6), .val (.int (2 : Int32)), .val (.int (1 : Int32)), .val (.int (2 : Int32)), .val (.int (1 : Int32)), .val (.int (1 : Int32)), .val (.int (3 : Int32)), .val (.int (1 : Int32)), .val (.int (1 : Int32)), .val (.int (-1 : Int32)), .val (.int (1 : Int32)), .val (.int (2 : Int32)), .val (.int (3 : Int32))] [(.int (1 : Int32))]))
        exact Own.ireturn X58 hx hk hret (by simp) rfl (hb hby at_347) e58 ⟨rfl, N58⟩ (by decide) (by decide)
    · refine Own.istore X27 hx (pc := 105) #[.val (.int sh), .val (.int pk), .val (.int pl), .val (.ref b1), .val (.int (1 : Int32)), .val (.int (2 : Int32)), .val (.int (3 : Int32)), .val (.ref b6), .val (.int (2 : Int32)), .val (.int (2 : Int32)), .unset, .unset, .unset, .unset, .unset, .unset, .unset, .unset, .unset, .unset] (hb hby at_105) rfl ?_
      refine Own.iload X27 hx (pc := 107) (hb hby at_107) rfl ?_
      refine Own.iload X27 hx (pc := 109) (hb hby at_109) rfl ?_
      refine Own.icmpNo X27 hx (pc := 111) (hb hby at_111) (by decide) ?_
      refine Own.aloadN X27 hx (pc := 114) (hb hby at_114) rfl rfl ?_
      refine Own.iconst X27 hx (pc := 115) (0 : Int32) (hb hby at_115) (by decide) ?_
      refine Own.callVirtual X27 hx hZ (pc := 116) (y := (⟨"com/example/sprigdex/sprigdex/index/html/HtmlTree", "detach", "(I)V"⟩ : MethodName)) (z := (⟨"com/example/sprigdex/sprigdex/index/html/HtmlTree", "detach", "(I)V"⟩ : MethodName)) hown (Wd hw 103 rfl) (Wd hw 99 rfl) (Wd hw 101 rfl) (Wd hw 100 rfl) (Wd hw 2 rfl) (Wd hw 102 rfl) (Wd hw 101 rfl) (by decide) 0 b1 [(.int (0 : Int32))] [] E_b1 (rmD0 l Z a0 hw b1 (0 : Int32) pa_2 ((.int (-1 : Int32)) :: (.int (0 : Int32)) :: (.int (0 : Int32)) :: (.int (-1 : Int32)) :: own_tl) T27.heap n0 sz27 F_b1_parent V_pa_2 (by decide) rfl) (by decide) (by decide) e27 (by rw [hml]; rfl) pd9 rfl rfl (Nat.le_of_eq rfl) (hb hby at_116) (by decide) (by decide) ?_
      intro T59 L59 v59 X59 hQ59
      obtain ⟨rfl, Nq59, e59⟩ := hQ59
      have N59 := Fr.app N27 Nq59
      show Own.Go p e below _ (T59.setTop (mkF m 119 #[.val (.int sh), .val (.int pk), .val (.int pl), .val (.ref b1), .val (.int (1 : Int32)), .val (.int (2 : Int32)), .val (.int (3 : Int32)), .val (.ref b6), .val (.int (2 : Int32)), .val (.int (2 : Int32)), .unset, .unset, .unset, .unset, .unset, .unset, .unset, .unset, .unset, .unset] []))
      refine Own.aloadN X59 hx (pc := 119) (hb hby at_119) rfl rfl ?_
      refine Own.iconst X59 hx (pc := 120) (0 : Int32) (hb hby at_120) (by decide) ?_
      refine Own.callVirtual X59 hx hZ (pc := 121) (y := (⟨"com/example/sprigdex/sprigdex/index/html/HtmlTree", "parent", "(I)I"⟩ : MethodName)) (z := (⟨"com/example/sprigdex/sprigdex/index/html/HtmlTree", "parent", "(I)I"⟩ : MethodName)) hown (Wd hw 104 rfl) (Wd hw 105 rfl) (Wd hw 107 rfl) (Wd hw 106 rfl) (Wd hw 2 rfl) (Wd hw 108 rfl) (Wd hw 107 rfl) (by decide) 0 b1 [(.int (0 : Int32))] [] E_b1 (rm14 l Z a0 hw b1 (0 : Int32) pa_2 ((.int (-1 : Int32)) :: (.int (0 : Int32)) :: (.int (0 : Int32)) :: (.int (-1 : Int32)) :: own_tl) (-1 : Int32) T27.heap n0 sz27 F_b1_parent V_pa_2 (by decide) rfl) (by decide) (by decide) e59 (by rw [hml]; rfl) pd7 rfl rfl (Nat.le_of_eq rfl) (hb hby at_121) (by decide) (by decide) ?_
      intro T60 L60 v60 X60 hQ60
      obtain ⟨rfl, Nq60, e60⟩ := hQ60
      have N60 := Fr.app N59 Nq60
      show Own.Go p e below _ (T60.setTop (mkF m 124 #[.val (.int sh), .val (.int pk), .val (.int pl), .val (.ref b1), .val (.int (1 : Int32)), .val (.int (2 : Int32)), .val (.int (3 : Int32)), .val (.ref b6), .val (.int (2 : Int32)), .val (.int (2 : Int32)), .unset, .unset, .unset, .unset, .unset, .unset, .unset, .unset, .unset, .unset] [(.int (-1 : Int32))]))
      refine Own.iconst X60 hx (pc := 124) (-1 : Int32) (hb hby at_124) (by decide) ?_
      refine Own.icmpYes X60 hx (pc := 125) 130 (hb hby at_125) (by decide) (by decide) (by decide) ?_
      refine Own.aloadN X60 hx (pc := 130) (hb hby at_130) rfl rfl ?_
      refine Own.iload X60 hx (pc := 131) (hb hby at_131) rfl ?_
      refine Own.iload X60 hx (pc := 133) (hb hby at_133) rfl ?_
      refine Own.iload X60 hx (pc := 135) (hb hby at_135) rfl ?_
      refine Own.iload X60 hx (pc := 137) (hb hby at_137) rfl ?_
      refine Own.callStatic X60 hx hZ (pc := 139) (y := (⟨"com/example/sprigdex/sprigdex/index/html/HtmlTreeDetachPinLaw", "chain", "(Lcom/example/sprigdex/sprigdex/index/html/HtmlTree;IIII)Z"⟩ : MethodName)) hown (Wd hw 109 rfl) (Wd hw 110 rfl) (Wd hw 111 rfl) (Wd hw 112 rfl) (by decide) 0 [(.ref b1), (.int (1 : Int32)), (.int (2 : Int32)), (.int (3 : Int32)), (.int (2 : Int32))] [] (rmC2 l Z a0 hw b1 (1 : Int32) (2 : Int32) (3 : Int32) pa_2 fc_2 nx_2 ((.int (-1 : Int32)) :: (.int (0 : Int32)) :: (.int (0 : Int32)) :: (.int (-1 : Int32)) :: own_tl) ((.int (1 : Int32)) :: (.int (-1 : Int32)) :: (.int (-1 : Int32)) :: (.int (-1 : Int32)) :: own_tl) ((.int (-1 : Int32)) :: (.int (2 : Int32)) :: (.int (-1 : Int32)) :: (.int (-1 : Int32)) :: own_tl) T27.heap n0 sz27 E_b1 F_b1_parent F_b1_firstChild F_b1_nextSibling V_pa_2 V_fc_2 V_nx_2 rfl (by decide) rfl rfl (by decide) rfl rfl) (by decide) (by decide) e60 (by rw [hml]; rfl) pd13 rfl rfl (Nat.le_of_eq rfl) (hb hby at_139) (by decide) (by decide) ?_
      intro T61 L61 v61 X61 hQ61
      obtain ⟨rfl, Nq61, e61⟩ := hQ61
      have N61 := Fr.app N60 Nq61
      show Own.Go p e below _ (T61.setTop (mkF m 142 #[.val (.int sh), .val (.int pk), .val (.int pl), .val (.ref b1), .val (.int (1 : Int32)), .val (.int (2 : Int32)), .val (.int (3 : Int32)), .val (.ref b6), .val (.int (2 : Int32)), .val (.int (2 : Int32)), .unset, .unset, .unset, .unset, .unset, .unset, .unset, .unset, .unset, .unset] [(.int (1 : Int32))]))
      exact Own.ireturn X61 hx hk hret (by simp) rfl (hb hby at_142) e61 ⟨rfl, N61⟩ (by decide) (by decide)
  · refine Own.istore X9 hx (pc := 58) #[.val (.int sh), .val (.int pk), .val (.int pl), .val (.ref b1), .val (.int (1 : Int32)), .val (.int (2 : Int32)), .val (.int (3 : Int32)), .val (.ref b6), .val (.int (3 : Int32)), .unset, .unset, .unset, .unset, .unset, .unset, .unset, .unset, .unset, .unset, .unset] (hb hby at_58) rfl ?_
    refine Own.aloadN X9 hx (pc := 60) (hb hby at_60) rfl rfl ?_
    refine Own.iconst X9 hx (pc := 61) (0 : Int32) (hb hby at_61) (by decide) ?_
    refine Own.iload X9 hx (pc := 62) (hb hby at_62) rfl ?_
    refine Own.iconst X9 hx (pc := 64) (-1 : Int32) (hb hby at_64) (by decide) ?_
    refine Own.callVirtual X9 hx hZ (pc := 65) (y := (⟨"com/example/sprigdex/sprigdex/index/html/HtmlTree", "insert", "(III)V"⟩ : MethodName)) (z := (⟨"com/example/sprigdex/sprigdex/index/html/HtmlTree", "insert", "(III)V"⟩ : MethodName)) hown (Wd hw 93 rfl) (Wd hw 94 rfl) (Wd hw 96 rfl) (Wd hw 95 rfl) (Wd hw 2 rfl) (Wd hw 97 rfl) (Wd hw 96 rfl) (by decide) 0 b1 [(.int (0 : Int32)), (.int (1 : Int32)), (.int (-1 : Int32))] [] E_b1 (rmI00 l Z a0 hw b1 (0 : Int32) (1 : Int32) pa_2 fc_2 la_2 pv_2 nx_2 ((.int (-1 : Int32)) :: (.int (-1 : Int32)) :: (.int (-1 : Int32)) :: (.int (-1 : Int32)) :: own_tl) ((.int (-1 : Int32)) :: (.int (-1 : Int32)) :: (.int (-1 : Int32)) :: (.int (-1 : Int32)) :: own_tl) ((.int (-1 : Int32)) :: (.int (-1 : Int32)) :: (.int (-1 : Int32)) :: (.int (-1 : Int32)) :: own_tl) ((.int (-1 : Int32)) :: (.int (-1 : Int32)) :: (.int (-1 : Int32)) :: (.int (-1 : Int32)) :: own_tl) ((.int (-1 : Int32)) :: (.int (-1 : Int32)) :: (.int (-1 : Int32)) :: (.int (-1 : Int32)) :: own_tl) h9 n0 sz9 E_b1 F_b1_parent F_b1_firstChild F_b1_lastChild F_b1_previousSibling F_b1_nextSibling V_pa_2 V_fc_2 V_la_2 V_pv_2 V_nx_2 ge_pa_2 ge_fc_2 ge_la_2 ge_pv_2 ge_nx_2 ne_b1_pa_2 ne_b1_fc_2 ne_b1_la_2 ne_b1_pv_2 ne_b1_nx_2 ne_pa_2_fc_2 ne_pa_2_la_2 ne_pa_2_pv_2 ne_pa_2_nx_2 ne_fc_2_la_2 ne_fc_2_pv_2 ne_fc_2_nx_2 ne_la_2_pv_2 ne_la_2_nx_2 ne_pv_2_nx_2 rfl rfl rfl rfl rfl (by decide) (by decide) (by decide) (by decide) rfl rfl) (by decide) (by decide) e9 (by rw [hml]; rfl) pd11 rfl rfl (Nat.le_of_eq rfl) (hb hby at_65) (by decide) (by decide) ?_
    intro T62 L62 v62 X62 hQ62
    obtain ⟨rfl, Nq62, K62, V_pa_2', V_fc_2', V_la_2', V_pv_2', V_nx_2'⟩ := hQ62
    have e62 : T62.heap = T62.heap := rfl
    have E_b1 := E_b1.keep K62
    have F_b1_parent := F_b1_parent.keep K62 (ninS ne_b1_pa_2 (ninS ne_b1_fc_2 (ninS ne_b1_la_2 (ninS ne_b1_pv_2 (ninS ne_b1_nx_2 nin0)))))
    have F_b1_firstChild := F_b1_firstChild.keep K62 (ninS ne_b1_pa_2 (ninS ne_b1_fc_2 (ninS ne_b1_la_2 (ninS ne_b1_pv_2 (ninS ne_b1_nx_2 nin0)))))
    have F_b1_lastChild := F_b1_lastChild.keep K62 (ninS ne_b1_pa_2 (ninS ne_b1_fc_2 (ninS ne_b1_la_2 (ninS ne_b1_pv_2 (ninS ne_b1_nx_2 nin0)))))
    have F_b1_previousSibling := F_b1_previousSibling.keep K62 (ninS ne_b1_pa_2 (ninS ne_b1_fc_2 (ninS ne_b1_la_2 (ninS ne_b1_pv_2 (ninS ne_b1_nx_2 nin0)))))
    have F_b1_nextSibling := F_b1_nextSibling.keep K62 (ninS ne_b1_pa_2 (ninS ne_b1_fc_2 (ninS ne_b1_la_2 (ninS ne_b1_pv_2 (ninS ne_b1_nx_2 nin0)))))
    have V_b6 := V_b6.keep K62 (ninS (Ne.symm ne_pa_2_b6) (ninS (Ne.symm ne_fc_2_b6) (ninS (Ne.symm ne_la_2_b6) (ninS (Ne.symm ne_pv_2_b6) (ninS (Ne.symm ne_nx_2_b6) nin0)))))
    have sz62 : n0 ≤ T62.heap.size := Nat.le_trans sz9 K62.1
    have V_pa_2 : Own.VArr Z T62.heap pa_2 .int ((.int (-1 : Int32)) :: (.int (0 : Int32)) :: (.int (-1 : Int32)) :: (.int (-1 : Int32)) :: own_tl) := V_pa_2'
    have V_fc_2 : Own.VArr Z T62.heap fc_2 .int ((.int (1 : Int32)) :: (.int (-1 : Int32)) :: (.int (-1 : Int32)) :: (.int (-1 : Int32)) :: own_tl) := V_fc_2'
    have V_la_2 : Own.VArr Z T62.heap la_2 .int ((.int (1 : Int32)) :: (.int (-1 : Int32)) :: (.int (-1 : Int32)) :: (.int (-1 : Int32)) :: own_tl) := V_la_2'
    have V_pv_2 : Own.VArr Z T62.heap pv_2 .int ((.int (-1 : Int32)) :: (.int (-1 : Int32)) :: (.int (-1 : Int32)) :: (.int (-1 : Int32)) :: own_tl) := V_pv_2'
    have V_nx_2 : Own.VArr Z T62.heap nx_2 .int ((.int (-1 : Int32)) :: (.int (-1 : Int32)) :: (.int (-1 : Int32)) :: (.int (-1 : Int32)) :: own_tl) := V_nx_2'
    have N62 := Fr.app N9 Nq62
    show Own.Go p e below _ (T62.setTop (mkF m 68 #[.val (.int sh), .val (.int pk), .val (.int pl), .val (.ref b1), .val (.int (1 : Int32)), .val (.int (2 : Int32)), .val (.int (3 : Int32)), .val (.ref b6), .val (.int (3 : Int32)), .unset, .unset, .unset, .unset, .unset, .unset, .unset, .unset, .unset, .unset, .unset] []))
    refine Own.iload X62 hx (pc := 68) (hb hby at_68) rfl ?_
    refine Own.iconst X62 hx (pc := 70) (2 : Int32) (hb hby at_70) (by decide) ?_
    refine Own.icmpNo X62 hx (pc := 71) (hb hby at_71) (by decide) ?_
    refine Own.aloadN X62 hx (pc := 74) (hb hby at_74) rfl rfl ?_
    refine Own.iconst X62 hx (pc := 75) (0 : Int32) (hb hby at_75) (by decide) ?_
    refine Own.iload X62 hx (pc := 76) (hb hby at_76) rfl ?_
    refine Own.iconst X62 hx (pc := 78) (-1 : Int32) (hb hby at_78) (by decide) ?_
    refine Own.callVirtual X62 hx hZ (pc := 79) (y := (⟨"com/example/sprigdex/sprigdex/index/html/HtmlTree", "insert", "(III)V"⟩ : MethodName)) (z := (⟨"com/example/sprigdex/sprigdex/index/html/HtmlTree", "insert", "(III)V"⟩ : MethodName)) hown (Wd hw 93 rfl) (Wd hw 94 rfl) (Wd hw 96 rfl) (Wd hw 95 rfl) (Wd hw 2 rfl) (Wd hw 97 rfl) (Wd hw 96 rfl) (by decide) 0 b1 [(.int (0 : Int32)), (.int (2 : Int32)), (.int (-1 : Int32))] [] E_b1 (rmI01 l Z a0 hw b1 (0 : Int32) (2 : Int32) pa_2 fc_2 la_2 pv_2 nx_2 ((.int (-1 : Int32)) :: (.int (0 : Int32)) :: (.int (-1 : Int32)) :: (.int (-1 : Int32)) :: own_tl) ((.int (1 : Int32)) :: (.int (-1 : Int32)) :: (.int (-1 : Int32)) :: (.int (-1 : Int32)) :: own_tl) ((.int (1 : Int32)) :: (.int (-1 : Int32)) :: (.int (-1 : Int32)) :: (.int (-1 : Int32)) :: own_tl) ((.int (-1 : Int32)) :: (.int (-1 : Int32)) :: (.int (-1 : Int32)) :: (.int (-1 : Int32)) :: own_tl) ((.int (-1 : Int32)) :: (.int (-1 : Int32)) :: (.int (-1 : Int32)) :: (.int (-1 : Int32)) :: own_tl) (1 : Int32) T62.heap n0 sz62 E_b1 F_b1_parent F_b1_firstChild F_b1_lastChild F_b1_previousSibling F_b1_nextSibling V_pa_2 V_fc_2 V_la_2 V_pv_2 V_nx_2 ge_pa_2 ge_fc_2 ge_la_2 ge_pv_2 ge_nx_2 ne_b1_pa_2 ne_b1_fc_2 ne_b1_la_2 ne_b1_pv_2 ne_b1_nx_2 ne_pa_2_fc_2 ne_pa_2_la_2 ne_pa_2_pv_2 ne_pa_2_nx_2 ne_fc_2_la_2 ne_fc_2_pv_2 ne_fc_2_nx_2 ne_la_2_pv_2 ne_la_2_nx_2 ne_pv_2_nx_2 rfl rfl rfl rfl rfl (by decide) (by decide) (by decide) (by decide) (by decide) (by decide) rfl rfl (by decide)) (by decide) (by decide) e62 (by rw [hml]; rfl) pd11 rfl rfl (Nat.le_of_eq rfl) (hb hby at_79) (by decide) (by decide) ?_
    intro T63 L63 v63 X63 hQ63
    obtain ⟨rfl, Nq63, K63, V_pa_2', V_fc_2', V_la_2', V_pv_2', V_nx_2'⟩ := hQ63
    have e63 : T63.heap = T63.heap := rfl
    have E_b1 := E_b1.keep K63
    have F_b1_parent := F_b1_parent.keep K63 (ninS ne_b1_pa_2 (ninS ne_b1_fc_2 (ninS ne_b1_la_2 (ninS ne_b1_pv_2 (ninS ne_b1_nx_2 nin0)))))
    have F_b1_firstChild := F_b1_firstChild.keep K63 (ninS ne_b1_pa_2 (ninS ne_b1_fc_2 (ninS ne_b1_la_2 (ninS ne_b1_pv_2 (ninS ne_b1_nx_2 nin0)))))
    have F_b1_lastChild := F_b1_lastChild.keep K63 (ninS ne_b1_pa_2 (ninS ne_b1_fc_2 (ninS ne_b1_la_2 (ninS ne_b1_pv_2 (ninS ne_b1_nx_2 nin0)))))
    have F_b1_previousSibling := F_b1_previousSibling.keep K63 (ninS ne_b1_pa_2 (ninS ne_b1_fc_2 (ninS ne_b1_la_2 (ninS ne_b1_pv_2 (ninS ne_b1_nx_2 nin0)))))
    have F_b1_nextSibling := F_b1_nextSibling.keep K63 (ninS ne_b1_pa_2 (ninS ne_b1_fc_2 (ninS ne_b1_la_2 (ninS ne_b1_pv_2 (ninS ne_b1_nx_2 nin0)))))
    have V_b6 := V_b6.keep K63 (ninS (Ne.symm ne_pa_2_b6) (ninS (Ne.symm ne_fc_2_b6) (ninS (Ne.symm ne_la_2_b6) (ninS (Ne.symm ne_pv_2_b6) (ninS (Ne.symm ne_nx_2_b6) nin0)))))
    have sz63 : n0 ≤ T63.heap.size := Nat.le_trans sz62 K63.1
    have V_pa_2 : Own.VArr Z T63.heap pa_2 .int ((.int (-1 : Int32)) :: (.int (0 : Int32)) :: (.int (0 : Int32)) :: (.int (-1 : Int32)) :: own_tl) := V_pa_2'
    have V_fc_2 : Own.VArr Z T63.heap fc_2 .int ((.int (1 : Int32)) :: (.int (-1 : Int32)) :: (.int (-1 : Int32)) :: (.int (-1 : Int32)) :: own_tl) := V_fc_2'
    have V_la_2 : Own.VArr Z T63.heap la_2 .int ((.int (2 : Int32)) :: (.int (-1 : Int32)) :: (.int (-1 : Int32)) :: (.int (-1 : Int32)) :: own_tl) := V_la_2'
    have V_pv_2 : Own.VArr Z T63.heap pv_2 .int ((.int (-1 : Int32)) :: (.int (-1 : Int32)) :: (.int (1 : Int32)) :: (.int (-1 : Int32)) :: own_tl) := V_pv_2'
    have V_nx_2 : Own.VArr Z T63.heap nx_2 .int ((.int (-1 : Int32)) :: (.int (2 : Int32)) :: (.int (-1 : Int32)) :: (.int (-1 : Int32)) :: own_tl) := V_nx_2'
    have N63 := Fr.app N62 Nq63
    show Own.Go p e below _ (T63.setTop (mkF m 82 #[.val (.int sh), .val (.int pk), .val (.int pl), .val (.ref b1), .val (.int (1 : Int32)), .val (.int (2 : Int32)), .val (.int (3 : Int32)), .val (.ref b6), .val (.int (3 : Int32)), .unset, .unset, .unset, .unset, .unset, .unset, .unset, .unset, .unset, .unset, .unset] []))
    refine Own.iload X63 hx (pc := 82) (hb hby at_82) rfl ?_
    refine Own.iconst X63 hx (pc := 84) (3 : Int32) (hb hby at_84) (by decide) ?_
    refine Own.icmpNo X63 hx (pc := 85) (hb hby at_85) (by decide) ?_
    refine Own.aloadN X63 hx (pc := 88) (hb hby at_88) rfl rfl ?_
    refine Own.iconst X63 hx (pc := 89) (0 : Int32) (hb hby at_89) (by decide) ?_
    refine Own.iload X63 hx (pc := 90) (hb hby at_90) rfl ?_
    refine Own.iconst X63 hx (pc := 92) (-1 : Int32) (hb hby at_92) (by decide) ?_
    refine Own.callVirtual X63 hx hZ (pc := 93) (y := (⟨"com/example/sprigdex/sprigdex/index/html/HtmlTree", "insert", "(III)V"⟩ : MethodName)) (z := (⟨"com/example/sprigdex/sprigdex/index/html/HtmlTree", "insert", "(III)V"⟩ : MethodName)) hown (Wd hw 93 rfl) (Wd hw 94 rfl) (Wd hw 96 rfl) (Wd hw 95 rfl) (Wd hw 2 rfl) (Wd hw 97 rfl) (Wd hw 96 rfl) (by decide) 0 b1 [(.int (0 : Int32)), (.int (3 : Int32)), (.int (-1 : Int32))] [] E_b1 (rmI01 l Z a0 hw b1 (0 : Int32) (3 : Int32) pa_2 fc_2 la_2 pv_2 nx_2 ((.int (-1 : Int32)) :: (.int (0 : Int32)) :: (.int (0 : Int32)) :: (.int (-1 : Int32)) :: own_tl) ((.int (1 : Int32)) :: (.int (-1 : Int32)) :: (.int (-1 : Int32)) :: (.int (-1 : Int32)) :: own_tl) ((.int (2 : Int32)) :: (.int (-1 : Int32)) :: (.int (-1 : Int32)) :: (.int (-1 : Int32)) :: own_tl) ((.int (-1 : Int32)) :: (.int (-1 : Int32)) :: (.int (1 : Int32)) :: (.int (-1 : Int32)) :: own_tl) ((.int (-1 : Int32)) :: (.int (2 : Int32)) :: (.int (-1 : Int32)) :: (.int (-1 : Int32)) :: own_tl) (2 : Int32) T63.heap n0 sz63 E_b1 F_b1_parent F_b1_firstChild F_b1_lastChild F_b1_previousSibling F_b1_nextSibling V_pa_2 V_fc_2 V_la_2 V_pv_2 V_nx_2 ge_pa_2 ge_fc_2 ge_la_2 ge_pv_2 ge_nx_2 ne_b1_pa_2 ne_b1_fc_2 ne_b1_la_2 ne_b1_pv_2 ne_b1_nx_2 ne_pa_2_fc_2 ne_pa_2_la_2 ne_pa_2_pv_2 ne_pa_2_nx_2 ne_fc_2_la_2 ne_fc_2_pv_2 ne_fc_2_nx_2 ne_la_2_pv_2 ne_la_2_nx_2 ne_pv_2_nx_2 rfl rfl rfl rfl rfl (by decide) (by decide) (by decide) (by decide) (by decide) (by decide) rfl rfl (by decide)) (by decide) (by decide) e63 (by rw [hml]; rfl) pd11 rfl rfl (Nat.le_of_eq rfl) (hb hby at_93) (by decide) (by decide) ?_
    intro T64 L64 v64 X64 hQ64
    obtain ⟨rfl, Nq64, K64, V_pa_2', V_fc_2', V_la_2', V_pv_2', V_nx_2'⟩ := hQ64
    have e64 : T64.heap = T64.heap := rfl
    have E_b1 := E_b1.keep K64
    have F_b1_parent := F_b1_parent.keep K64 (ninS ne_b1_pa_2 (ninS ne_b1_fc_2 (ninS ne_b1_la_2 (ninS ne_b1_pv_2 (ninS ne_b1_nx_2 nin0)))))
    have F_b1_firstChild := F_b1_firstChild.keep K64 (ninS ne_b1_pa_2 (ninS ne_b1_fc_2 (ninS ne_b1_la_2 (ninS ne_b1_pv_2 (ninS ne_b1_nx_2 nin0)))))
    have F_b1_lastChild := F_b1_lastChild.keep K64 (ninS ne_b1_pa_2 (ninS ne_b1_fc_2 (ninS ne_b1_la_2 (ninS ne_b1_pv_2 (ninS ne_b1_nx_2 nin0)))))
    have F_b1_previousSibling := F_b1_previousSibling.keep K64 (ninS ne_b1_pa_2 (ninS ne_b1_fc_2 (ninS ne_b1_la_2 (ninS ne_b1_pv_2 (ninS ne_b1_nx_2 nin0)))))
    have F_b1_nextSibling := F_b1_nextSibling.keep K64 (ninS ne_b1_pa_2 (ninS ne_b1_fc_2 (ninS ne_b1_la_2 (ninS ne_b1_pv_2 (ninS ne_b1_nx_2 nin0)))))
    have V_b6 := V_b6.keep K64 (ninS (Ne.symm ne_pa_2_b6) (ninS (Ne.symm ne_fc_2_b6) (ninS (Ne.symm ne_la_2_b6) (ninS (Ne.symm ne_pv_2_b6) (ninS (Ne.symm ne_nx_2_b6) nin0)))))
    have sz64 : n0 ≤ T64.heap.size := Nat.le_trans sz63 K64.1
    have V_pa_2 : Own.VArr Z T64.heap pa_2 .int ((.int (-1 : Int32)) :: (.int (0 : Int32)) :: (.int (0 : Int32)) :: (.int (0 : Int32)) :: own_tl) := V_pa_2'
    have V_fc_2 : Own.VArr Z T64.heap fc_2 .int ((.int (1 : Int32)) :: (.int (-1 : Int32)) :: (.int (-1 : Int32)) :: (.int (-1 : Int32)) :: own_tl) := V_fc_2'
    have V_la_2 : Own.VArr Z T64.heap la_2 .int ((.int (3 : Int32)) :: (.int (-1 : Int32)) :: (.int (-1 : Int32)) :: (.int (-1 : Int32)) :: own_tl) := V_la_2'
    have V_pv_2 : Own.VArr Z T64.heap pv_2 .int ((.int (-1 : Int32)) :: (.int (-1 : Int32)) :: (.int (1 : Int32)) :: (.int (2 : Int32)) :: own_tl) := V_pv_2'
    have V_nx_2 : Own.VArr Z T64.heap nx_2 .int ((.int (-1 : Int32)) :: (.int (2 : Int32)) :: (.int (3 : Int32)) :: (.int (-1 : Int32)) :: own_tl) := V_nx_2'
    have N64 := Fr.app N63 Nq64
    show Own.Go p e below _ (T64.setTop (mkF m 96 #[.val (.int sh), .val (.int pk), .val (.int pl), .val (.ref b1), .val (.int (1 : Int32)), .val (.int (2 : Int32)), .val (.int (3 : Int32)), .val (.ref b6), .val (.int (3 : Int32)), .unset, .unset, .unset, .unset, .unset, .unset, .unset, .unset, .unset, .unset, .unset] []))
    refine Own.iloadN X64 hx (pc := 96) (hb hby at_96) rfl ?_
    refine Own.ldcI X64 hx hZ (pc := 97) hown (Wd hw 92 rfl) (hb hby at_97) ?_
    refine Own.iand X64 hx (pc := 99) (hb hby at_99) ?_
    refine Own.iload X64 hx (pc := 100) (hb hby at_100) rfl ?_
    refine Own.iconst X64 hx (pc := 102) (1 : Int32) (hb hby at_102) (by decide) ?_
    refine Own.iadd X64 hx (pc := 103) (hb hby at_103) ?_
    refine Own.topI (show ((3 : Int32) + (1 : Int32)) = (4 : Int32) by decide) ?_
    refine Own.irem X64 hx (pc := 104) (hb hby at_104) (by decide) ?_
    generalize qk65 : ((pk &&& (2147483647 : Int32)) % (4 : Int32)) = k65
    rcases own_c4 _ qk65 with rfl | rfl | rfl | rfl
    · refine Own.istore X64 hx (pc := 105) #[.val (.int sh), .val (.int pk), .val (.int pl), .val (.ref b1), .val (.int (1 : Int32)), .val (.int (2 : Int32)), .val (.int (3 : Int32)), .val (.ref b6), .val (.int (3 : Int32)), .val (.int (0 : Int32)), .unset, .unset, .unset, .unset, .unset, .unset, .unset, .unset, .unset, .unset] (hb hby at_105) rfl ?_
      refine Own.iload X64 hx (pc := 107) (hb hby at_107) rfl ?_
      refine Own.iload X64 hx (pc := 109) (hb hby at_109) rfl ?_
      refine Own.icmpYes X64 hx (pc := 111) 143 (hb hby at_111) (by decide) (by decide) (by decide) ?_
      refine Own.aload X64 hx (pc := 143) (hb hby at_143) rfl rfl ?_
      refine Own.iload X64 hx (pc := 145) (hb hby at_145) rfl ?_
      refine Own.iaload X64 hx hZ (pc := 147) e64 V_b6 (v := (.int (1 : Int32))) 0 (by decide) (by decide) rfl (hb hby at_147) ?_
      refine Own.istore X64 hx (pc := 148) #[.val (.int sh), .val (.int pk), .val (.int pl), .val (.ref b1), .val (.int (1 : Int32)), .val (.int (2 : Int32)), .val (.int (3 : Int32)), .val (.ref b6), .val (.int (3 : Int32)), .val (.int (0 : Int32)), .val (.int (1 : Int32)), .unset, .unset, .unset, .unset, .unset, .unset, .unset, .unset, .unset] (hb hby at_148) rfl ?_
      refine Own.aloadN X64 hx (pc := 150) (hb hby at_150) rfl rfl ?_
      refine Own.iload X64 hx (pc := 151) (hb hby at_151) rfl ?_
      refine Own.callVirtual X64 hx hZ (pc := 153) (y := (⟨"com/example/sprigdex/sprigdex/index/html/HtmlTree", "detach", "(I)V"⟩ : MethodName)) (z := (⟨"com/example/sprigdex/sprigdex/index/html/HtmlTree", "detach", "(I)V"⟩ : MethodName)) hown (Wd hw 103 rfl) (Wd hw 99 rfl) (Wd hw 101 rfl) (Wd hw 100 rfl) (Wd hw 2 rfl) (Wd hw 102 rfl) (Wd hw 101 rfl) (by decide) 0 b1 [(.int (1 : Int32))] [] E_b1 (rmD01 l Z a0 hw b1 (1 : Int32) pa_2 fc_2 la_2 pv_2 nx_2 ((.int (-1 : Int32)) :: (.int (0 : Int32)) :: (.int (0 : Int32)) :: (.int (0 : Int32)) :: own_tl) ((.int (1 : Int32)) :: (.int (-1 : Int32)) :: (.int (-1 : Int32)) :: (.int (-1 : Int32)) :: own_tl) ((.int (3 : Int32)) :: (.int (-1 : Int32)) :: (.int (-1 : Int32)) :: (.int (-1 : Int32)) :: own_tl) ((.int (-1 : Int32)) :: (.int (-1 : Int32)) :: (.int (1 : Int32)) :: (.int (2 : Int32)) :: own_tl) ((.int (-1 : Int32)) :: (.int (2 : Int32)) :: (.int (3 : Int32)) :: (.int (-1 : Int32)) :: own_tl) (0 : Int32) (2 : Int32) T64.heap n0 sz64 F_b1_parent F_b1_firstChild F_b1_lastChild F_b1_previousSibling F_b1_nextSibling V_pa_2 V_fc_2 V_la_2 V_pv_2 V_nx_2 ge_pa_2 ge_fc_2 ge_la_2 ge_pv_2 ge_nx_2 ne_b1_pa_2 ne_b1_fc_2 ne_b1_la_2 ne_b1_pv_2 ne_b1_nx_2 ne_pa_2_fc_2 ne_pa_2_la_2 ne_pa_2_pv_2 ne_pa_2_nx_2 ne_fc_2_la_2 ne_fc_2_pv_2 ne_fc_2_nx_2 ne_la_2_pv_2 ne_la_2_nx_2 ne_pv_2_nx_2 rfl rfl rfl rfl rfl (by decide) (by decide) (by decide) (by decide) (by decide) (by decide) rfl rfl rfl (by decide) (by decide)) (by decide) (by decide) e64 (by rw [hml]; rfl) pd9 rfl rfl (Nat.le_of_eq rfl) (hb hby at_153) (by decide) (by decide) ?_
      intro T66 L66 v66 X66 hQ66
      obtain ⟨rfl, Nq66, K66, V_pa_2', V_fc_2', V_la_2', V_pv_2', V_nx_2'⟩ := hQ66
      have e66 : T66.heap = T66.heap := rfl
      have E_b1 := E_b1.keep K66
      have F_b1_parent := F_b1_parent.keep K66 (ninS ne_b1_pa_2 (ninS ne_b1_fc_2 (ninS ne_b1_la_2 (ninS ne_b1_pv_2 (ninS ne_b1_nx_2 nin0)))))
      have F_b1_firstChild := F_b1_firstChild.keep K66 (ninS ne_b1_pa_2 (ninS ne_b1_fc_2 (ninS ne_b1_la_2 (ninS ne_b1_pv_2 (ninS ne_b1_nx_2 nin0)))))
      have F_b1_lastChild := F_b1_lastChild.keep K66 (ninS ne_b1_pa_2 (ninS ne_b1_fc_2 (ninS ne_b1_la_2 (ninS ne_b1_pv_2 (ninS ne_b1_nx_2 nin0)))))
      have F_b1_previousSibling := F_b1_previousSibling.keep K66 (ninS ne_b1_pa_2 (ninS ne_b1_fc_2 (ninS ne_b1_la_2 (ninS ne_b1_pv_2 (ninS ne_b1_nx_2 nin0)))))
      have F_b1_nextSibling := F_b1_nextSibling.keep K66 (ninS ne_b1_pa_2 (ninS ne_b1_fc_2 (ninS ne_b1_la_2 (ninS ne_b1_pv_2 (ninS ne_b1_nx_2 nin0)))))
      have V_b6 := V_b6.keep K66 (ninS (Ne.symm ne_pa_2_b6) (ninS (Ne.symm ne_fc_2_b6) (ninS (Ne.symm ne_la_2_b6) (ninS (Ne.symm ne_pv_2_b6) (ninS (Ne.symm ne_nx_2_b6) nin0)))))
      have sz66 : n0 ≤ T66.heap.size := Nat.le_trans sz64 K66.1
      have V_pa_2 : Own.VArr Z T66.heap pa_2 .int ((.int (-1 : Int32)) :: (.int (-1 : Int32)) :: (.int (0 : Int32)) :: (.int (0 : Int32)) :: own_tl) := V_pa_2'
      have V_fc_2 : Own.VArr Z T66.heap fc_2 .int ((.int (2 : Int32)) :: (.int (-1 : Int32)) :: (.int (-1 : Int32)) :: (.int (-1 : Int32)) :: own_tl) := V_fc_2'
      have V_la_2 : Own.VArr Z T66.heap la_2 .int ((.int (3 : Int32)) :: (.int (-1 : Int32)) :: (.int (-1 : Int32)) :: (.int (-1 : Int32)) :: own_tl) := V_la_2'
      have V_pv_2 : Own.VArr Z T66.heap pv_2 .int ((.int (-1 : Int32)) :: (.int (-1 : Int32)) :: (.int (-1 : Int32)) :: (.int (2 : Int32)) :: own_tl) := V_pv_2'
      have V_nx_2 : Own.VArr Z T66.heap nx_2 .int ((.int (-1 : Int32)) :: (.int (-1 : Int32)) :: (.int (3 : Int32)) :: (.int (-1 : Int32)) :: own_tl) := V_nx_2'
      have N66 := Fr.app N64 Nq66
      show Own.Go p e below _ (T66.setTop (mkF m 156 #[.val (.int sh), .val (.int pk), .val (.int pl), .val (.ref b1), .val (.int (1 : Int32)), .val (.int (2 : Int32)), .val (.int (3 : Int32)), .val (.ref b6), .val (.int (3 : Int32)), .val (.int (0 : Int32)), .val (.int (1 : Int32)), .unset, .unset, .unset, .unset, .unset, .unset, .unset, .unset, .unset] []))
      refine Own.aloadN X66 hx (pc := 156) (hb hby at_156) rfl rfl ?_
      refine Own.iload X66 hx (pc := 157) (hb hby at_157) rfl ?_
      refine Own.callVirtual X66 hx hZ (pc := 159) (y := (⟨"com/example/sprigdex/sprigdex/index/html/HtmlTree", "parent", "(I)I"⟩ : MethodName)) (z := (⟨"com/example/sprigdex/sprigdex/index/html/HtmlTree", "parent", "(I)I"⟩ : MethodName)) hown (Wd hw 104 rfl) (Wd hw 105 rfl) (Wd hw 107 rfl) (Wd hw 106 rfl) (Wd hw 2 rfl) (Wd hw 108 rfl) (Wd hw 107 rfl) (by decide) 0 b1 [(.int (1 : Int32))] [] E_b1 (rm14 l Z a0 hw b1 (1 : Int32) pa_2 ((.int (-1 : Int32)) :: (.int (-1 : Int32)) :: (.int (0 : Int32)) :: (.int (0 : Int32)) :: own_tl) (-1 : Int32) T66.heap n0 sz66 F_b1_parent V_pa_2 (by decide) rfl) (by decide) (by decide) e66 (by rw [hml]; rfl) pd7 rfl rfl (Nat.le_of_eq rfl) (hb hby at_159) (by decide) (by decide) ?_
      intro T67 L67 v67 X67 hQ67
      obtain ⟨rfl, Nq67, e67⟩ := hQ67
      have N67 := Fr.app N66 Nq67
      show Own.Go p e below _ (T67.setTop (mkF m 162 #[.val (.int sh), .val (.int pk), .val (.int pl), .val (.ref b1), .val (.int (1 : Int32)), .val (.int (2 : Int32)), .val (.int (3 : Int32)), .val (.ref b6), .val (.int (3 : Int32)), .val (.int (0 : Int32)), .val (.int (1 : Int32)), .unset, .unset, .unset, .unset, .unset, .unset, .unset, .unset, .unset] [(.int (-1 : Int32))]))
      refine Own.iconst X67 hx (pc := 162) (-1 : Int32) (hb hby at_162) (by decide) ?_
      refine Own.icmpYes X67 hx (pc := 163) 168 (hb hby at_163) (by decide) (by decide) (by decide) ?_
      refine Own.aloadN X67 hx (pc := 168) (hb hby at_168) rfl rfl ?_
      refine Own.iload X67 hx (pc := 169) (hb hby at_169) rfl ?_
      refine Own.callVirtual X67 hx hZ (pc := 171) (y := (⟨"com/example/sprigdex/sprigdex/index/html/HtmlTree", "nextSibling", "(I)I"⟩ : MethodName)) (z := (⟨"com/example/sprigdex/sprigdex/index/html/HtmlTree", "nextSibling", "(I)I"⟩ : MethodName)) hown (Wd hw 118 rfl) (Wd hw 119 rfl) (Wd hw 121 rfl) (Wd hw 120 rfl) (Wd hw 2 rfl) (Wd hw 122 rfl) (Wd hw 121 rfl) (by decide) 0 b1 [(.int (1 : Int32))] [] E_b1 (rm17 l Z a0 hw b1 (1 : Int32) nx_2 ((.int (-1 : Int32)) :: (.int (-1 : Int32)) :: (.int (3 : Int32)) :: (.int (-1 : Int32)) :: own_tl) (-1 : Int32) T66.heap n0 sz66 F_b1_nextSibling V_nx_2 (by decide) rfl) (by decide) (by decide) e67 (by rw [hml]; rfl) pd7 rfl rfl (Nat.le_of_eq rfl) (hb hby at_171) (by decide) (by decide) ?_
      intro T68 L68 v68 X68 hQ68
      obtain ⟨rfl, Nq68, e68⟩ := hQ68
      have N68 := Fr.app N67 Nq68
      show Own.Go p e below _ (T68.setTop (mkF m 174 #[.val (.int sh), .val (.int pk), .val (.int pl), .val (.ref b1), .val (.int (1 : Int32)), .val (.int (2 : Int32)), .val (.int (3 : Int32)), .val (.ref b6), .val (.int (3 : Int32)), .val (.int (0 : Int32)), .val (.int (1 : Int32)), .unset, .unset, .unset, .unset, .unset, .unset, .unset, .unset, .unset] [(.int (-1 : Int32))]))
      refine Own.iconst X68 hx (pc := 174) (-1 : Int32) (hb hby at_174) (by decide) ?_
      refine Own.icmpYes X68 hx (pc := 175) 180 (hb hby at_175) (by decide) (by decide) (by decide) ?_
      refine Own.iload X68 hx (pc := 180) (hb hby at_180) rfl ?_
      refine Own.iconst X68 hx (pc := 182) (1 : Int32) (hb hby at_182) (by decide) ?_
      refine Own.isub X68 hx (pc := 183) (hb hby at_183) ?_
      refine Own.topI (show ((3 : Int32) - (1 : Int32)) = (2 : Int32) by decide) ?_
      refine Own.istore X68 hx (pc := 184) #[.val (.int sh), .val (.int pk), .val (.int pl), .val (.ref b1), .val (.int (1 : Int32)), .val (.int (2 : Int32)), .val (.int (3 : Int32)), .val (.ref b6), .val (.int (3 : Int32)), .val (.int (0 : Int32)), .val (.int (1 : Int32)), .val (.int (2 : Int32)), .unset, .unset, .unset, .unset, .unset, .unset, .unset, .unset] (hb hby at_184) rfl ?_
      refine Own.iload X68 hx (pc := 186) (hb hby at_186) rfl ?_
      refine Own.ifNo X68 hx (pc := 188) (hb hby at_188) (by decide) ?_
      refine Own.aload X68 hx (pc := 191) (hb hby at_191) rfl rfl ?_
      refine Own.iconst X68 hx (pc := 193) (1 : Int32) (hb hby at_193) (by decide) ?_
      refine Own.iaload X68 hx hZ (pc := 194) e68 V_b6 (v := (.int (2 : Int32))) 1 (by decide) (by decide) rfl (hb hby at_194) ?_
      refine Own.goto X68 hx (pc := 195) 202 (hb hby at_195) (by decide) (by decide) ?_
      refine Own.istore X68 hx (pc := 202) #[.val (.int sh), .val (.int pk), .val (.int pl), .val (.ref b1), .val (.int (1 : Int32)), .val (.int (2 : Int32)), .val (.int (3 : Int32)), .val (.ref b6), .val (.int (3 : Int32)), .val (.int (0 : Int32)), .val (.int (1 : Int32)), .val (.int (2 : Int32)), .val (.int (2 : Int32)), .unset, .unset, .unset, .unset, .unset, .unset, .unset] (hb hby at_202) rfl ?_
      refine Own.iload X68 hx (pc := 204) (hb hby at_204) rfl ?_
      refine Own.iconst X68 hx (pc := 206) (1 : Int32) (hb hby at_206) (by decide) ?_
      refine Own.icmpNo X68 hx (pc := 207) (hb hby at_207) (by decide) ?_
      refine Own.aload X68 hx (pc := 210) (hb hby at_210) rfl rfl ?_
      refine Own.iconst X68 hx (pc := 212) (2 : Int32) (hb hby at_212) (by decide) ?_
      refine Own.iaload X68 hx hZ (pc := 213) e68 V_b6 (v := (.int (3 : Int32))) 2 (by decide) (by decide) rfl (hb hby at_213) ?_
      refine Own.goto X68 hx (pc := 214) 221 (hb hby at_214) (by decide) (by decide) ?_
      refine Own.istore X68 hx (pc := 221) #[.val (.int sh), .val (.int pk), .val (.int pl), .val (.ref b1), .val (.int (1 : Int32)), .val (.int (2 : Int32)), .val (.int (3 : Int32)), .val (.ref b6), .val (.int (3 : Int32)), .val (.int (0 : Int32)), .val (.int (1 : Int32)), .val (.int (2 : Int32)), .val (.int (2 : Int32)), .val (.int (3 : Int32)), .unset, .unset, .unset, .unset, .unset, .unset] (hb hby at_221) rfl ?_
      refine Own.iload X68 hx (pc := 223) (hb hby at_223) rfl ?_
      refine Own.ifYes X68 hx (pc := 225) 232 (hb hby at_225) (by decide) (by decide) (by decide) ?_
      refine Own.iload X68 hx (pc := 232) (hb hby at_232) rfl ?_
      refine Own.istore X68 hx (pc := 234) #[.val (.int sh), .val (.int pk), .val (.int pl), .val (.ref b1), .val (.int (1 : Int32)), .val (.int (2 : Int32)), .val (.int (3 : Int32)), .val (.ref b6), .val (.int (3 : Int32)), .val (.int (0 : Int32)), .val (.int (1 : Int32)), .val (.int (2 : Int32)), .val (.int (2 : Int32)), .val (.int (3 : Int32)), .val (.int (2 : Int32)), .unset, .unset, .unset, .unset, .unset] (hb hby at_234) rfl ?_
      refine Own.aloadN X68 hx (pc := 236) (hb hby at_236) rfl rfl ?_
      refine Own.iconst X68 hx (pc := 237) (0 : Int32) (hb hby at_237) (by decide) ?_
      refine Own.callVirtual X68 hx hZ (pc := 238) (y := (⟨"com/example/sprigdex/sprigdex/index/html/HtmlTree", "firstChild", "(I)I"⟩ : MethodName)) (z := (⟨"com/example/sprigdex/sprigdex/index/html/HtmlTree", "firstChild", "(I)I"⟩ : MethodName)) hown (Wd hw 113 rfl) (Wd hw 114 rfl) (Wd hw 116 rfl) (Wd hw 115 rfl) (Wd hw 2 rfl) (Wd hw 117 rfl) (Wd hw 116 rfl) (by decide) 0 b1 [(.int (0 : Int32))] [] E_b1 (rm16 l Z a0 hw b1 (0 : Int32) fc_2 ((.int (2 : Int32)) :: (.int (-1 : Int32)) :: (.int (-1 : Int32)) :: (.int (-1 : Int32)) :: own_tl) (2 : Int32) T66.heap n0 sz66 F_b1_firstChild V_fc_2 (by decide) rfl) (by decide) (by decide) e68 (by rw [hml]; rfl) pd7 rfl rfl (Nat.le_of_eq rfl) (hb hby at_238) (by decide) (by decide) ?_
      intro T69 L69 v69 X69 hQ69
      obtain ⟨rfl, Nq69, e69⟩ := hQ69
      have N69 := Fr.app N68 Nq69
      show Own.Go p e below _ (T69.setTop (mkF m 241 #[.val (.int sh), .val (.int pk), .val (.int pl), .val (.ref b1), .val (.int (1 : Int32)), .val (.int (2 : Int32)), .val (.int (3 : Int32)), .val (.ref b6), .val (.int (3 : Int32)), .val (.int (0 : Int32)), .val (.int (1 : Int32)), .val (.int (2 : Int32)), .val (.int (2 : Int32)), .val (.int (3 : Int32)), .val (.int (2 : Int32)), .unset, .unset, .unset, .unset, .unset] [(.int (2 : Int32))]))
      refine Own.iload X69 hx (pc := 241) (hb hby at_241) rfl ?_
      refine Own.icmpYes X69 hx (pc := 243) 248 (hb hby at_243) (by decide) (by decide) (by decide) ?_
      refine Own.iloadN X69 hx (pc := 248) (hb hby at_248) rfl ?_
      refine Own.ldcI X69 hx hZ (pc := 249) hown (Wd hw 92 rfl) (hb hby at_249) ?_
      refine Own.iand X69 hx (pc := 251) (hb hby at_251) ?_
      refine Own.iload X69 hx (pc := 252) (hb hby at_252) rfl ?_
      refine Own.iconst X69 hx (pc := 254) (1 : Int32) (hb hby at_254) (by decide) ?_
      refine Own.iadd X69 hx (pc := 255) (hb hby at_255) ?_
      refine Own.topI (show ((2 : Int32) + (1 : Int32)) = (3 : Int32) by decide) ?_
      refine Own.irem X69 hx (pc := 256) (hb hby at_256) (by decide) ?_
      generalize qj70 : ((pl &&& (2147483647 : Int32)) % (3 : Int32)) = j70
      rcases own_c3 _ qj70 with rfl | rfl | rfl
      · refine Own.istore X69 hx (pc := 257) #[.val (.int sh), .val (.int pk), .val (.int pl), .val (.ref b1), .val (.int (1 : Int32)), .val (.int (2 : Int32)), .val (.int (3 : Int32)), .val (.ref b6), .val (.int (3 : Int32)), .val (.int (0 : Int32)), .val (.int (1 : Int32)), .val (.int (2 : Int32)), .val (.int (2 : Int32)), .val (.int (3 : Int32)), .val (.int (2 : Int32)), .val (.int (0 : Int32)), .unset, .unset, .unset, .unset] (hb hby at_257) rfl ?_
        refine Own.iload X69 hx (pc := 259) (hb hby at_259) rfl ?_
        refine Own.iload X69 hx (pc := 261) (hb hby at_261) rfl ?_
        refine Own.icmpYes X69 hx (pc := 263) 270 (hb hby at_263) (by decide) (by decide) (by decide) ?_
        refine Own.iload X69 hx (pc := 270) (hb hby at_270) rfl ?_
        refine Own.ifNo X69 hx (pc := 272) (hb hby at_272) (by decide) ?_
        refine Own.iload X69 hx (pc := 275) (hb hby at_275) rfl ?_
        refine Own.goto X69 hx (pc := 277) 282 (hb hby at_277) (by decide) (by decide) ?_
        refine Own.istore X69 hx (pc := 282) #[.val (.int sh), .val (.int pk), .val (.int pl), .val (.ref b1), .val (.int (1 : Int32)), .val (.int (2 : Int32)), .val (.int (3 : Int32)), .val (.ref b6), .val (.int (3 : Int32)), .val (.int (0 : Int32)), .val (.int (1 : Int32)), .val (.int (2 : Int32)), .val (.int (2 : Int32)), .val (.int (3 : Int32)), .val (.int (2 : Int32)), .val (.int (0 : Int32)), .val (.int (2 : Int32)), .unset, .unset, .unset] (hb hby at_282) rfl ?_
        refine Own.aloadN X69 hx (pc := 284) (hb hby at_284) rfl rfl ?_
        refine Own.iconst X69 hx (pc := 285) (0 : Int32) (hb hby at_285) (by decide) ?_
        refine Own.iload X69 hx (pc := 286) (hb hby at_286) rfl ?_
        refine Own.iload X69 hx (pc := 288) (hb hby at_288) rfl ?_
        refine Own.callVirtual X69 hx hZ (pc := 290) (y := (⟨"com/example/sprigdex/sprigdex/index/html/HtmlTree", "insert", "(III)V"⟩ : MethodName)) (z := (⟨"com/example/sprigdex/sprigdex/index/html/HtmlTree", "insert", "(III)V"⟩ : MethodName)) hown (Wd hw 93 rfl) (Wd hw 94 rfl) (Wd hw 96 rfl) (Wd hw 95 rfl) (Wd hw 2 rfl) (Wd hw 97 rfl) (Wd hw 96 rfl) (by decide) 0 b1 [(.int (0 : Int32)), (.int (1 : Int32)), (.int (2 : Int32))] [] E_b1 (rmI10 l Z a0 hw b1 (0 : Int32) (1 : Int32) (2 : Int32) pa_2 fc_2 la_2 pv_2 nx_2 ((.int (-1 : Int32)) :: (.int (-1 : Int32)) :: (.int (0 : Int32)) :: (.int (0 : Int32)) :: own_tl) ((.int (2 : Int32)) :: (.int (-1 : Int32)) :: (.int (-1 : Int32)) :: (.int (-1 : Int32)) :: own_tl) ((.int (3 : Int32)) :: (.int (-1 : Int32)) :: (.int (-1 : Int32)) :: (.int (-1 : Int32)) :: own_tl) ((.int (-1 : Int32)) :: (.int (-1 : Int32)) :: (.int (-1 : Int32)) :: (.int (2 : Int32)) :: own_tl) ((.int (-1 : Int32)) :: (.int (-1 : Int32)) :: (.int (3 : Int32)) :: (.int (-1 : Int32)) :: own_tl) T66.heap n0 sz66 E_b1 F_b1_parent F_b1_firstChild F_b1_lastChild F_b1_previousSibling F_b1_nextSibling V_pa_2 V_fc_2 V_la_2 V_pv_2 V_nx_2 ge_pa_2 ge_fc_2 ge_la_2 ge_pv_2 ge_nx_2 ne_b1_pa_2 ne_b1_fc_2 ne_b1_la_2 ne_b1_pv_2 ne_b1_nx_2 ne_pa_2_fc_2 ne_pa_2_la_2 ne_pa_2_pv_2 ne_pa_2_nx_2 ne_fc_2_la_2 ne_fc_2_pv_2 ne_fc_2_nx_2 ne_la_2_pv_2 ne_la_2_nx_2 ne_pv_2_nx_2 rfl rfl rfl rfl rfl (by decide) (by decide) (by decide) (by decide) (by decide) (by decide) rfl rfl (by decide)) (by decide) (by decide) e69 (by rw [hml]; rfl) pd11 rfl rfl (Nat.le_of_eq rfl) (hb hby at_290) (by decide) (by decide) ?_
        intro T71 L71 v71 X71 hQ71
        obtain ⟨rfl, Nq71, K71, V_pa_2', V_fc_2', V_la_2', V_pv_2', V_nx_2'⟩ := hQ71
        have e71 : T71.heap = T71.heap := rfl
        have E_b1 := E_b1.keep K71
        have F_b1_parent := F_b1_parent.keep K71 (ninS ne_b1_pa_2 (ninS ne_b1_fc_2 (ninS ne_b1_la_2 (ninS ne_b1_pv_2 (ninS ne_b1_nx_2 nin0)))))
        have F_b1_firstChild := F_b1_firstChild.keep K71 (ninS ne_b1_pa_2 (ninS ne_b1_fc_2 (ninS ne_b1_la_2 (ninS ne_b1_pv_2 (ninS ne_b1_nx_2 nin0)))))
        have F_b1_lastChild := F_b1_lastChild.keep K71 (ninS ne_b1_pa_2 (ninS ne_b1_fc_2 (ninS ne_b1_la_2 (ninS ne_b1_pv_2 (ninS ne_b1_nx_2 nin0)))))
        have F_b1_previousSibling := F_b1_previousSibling.keep K71 (ninS ne_b1_pa_2 (ninS ne_b1_fc_2 (ninS ne_b1_la_2 (ninS ne_b1_pv_2 (ninS ne_b1_nx_2 nin0)))))
        have F_b1_nextSibling := F_b1_nextSibling.keep K71 (ninS ne_b1_pa_2 (ninS ne_b1_fc_2 (ninS ne_b1_la_2 (ninS ne_b1_pv_2 (ninS ne_b1_nx_2 nin0)))))
        have V_b6 := V_b6.keep K71 (ninS (Ne.symm ne_pa_2_b6) (ninS (Ne.symm ne_fc_2_b6) (ninS (Ne.symm ne_la_2_b6) (ninS (Ne.symm ne_pv_2_b6) (ninS (Ne.symm ne_nx_2_b6) nin0)))))
        have sz71 : n0 ≤ T71.heap.size := Nat.le_trans sz66 K71.1
        have V_pa_2 : Own.VArr Z T71.heap pa_2 .int ((.int (-1 : Int32)) :: (.int (0 : Int32)) :: (.int (0 : Int32)) :: (.int (0 : Int32)) :: own_tl) := V_pa_2'
        have V_fc_2 : Own.VArr Z T71.heap fc_2 .int ((.int (1 : Int32)) :: (.int (-1 : Int32)) :: (.int (-1 : Int32)) :: (.int (-1 : Int32)) :: own_tl) := V_fc_2'
        have V_la_2 : Own.VArr Z T71.heap la_2 .int ((.int (3 : Int32)) :: (.int (-1 : Int32)) :: (.int (-1 : Int32)) :: (.int (-1 : Int32)) :: own_tl) := V_la_2'
        have V_pv_2 : Own.VArr Z T71.heap pv_2 .int ((.int (-1 : Int32)) :: (.int (-1 : Int32)) :: (.int (1 : Int32)) :: (.int (2 : Int32)) :: own_tl) := V_pv_2'
        have V_nx_2 : Own.VArr Z T71.heap nx_2 .int ((.int (-1 : Int32)) :: (.int (2 : Int32)) :: (.int (3 : Int32)) :: (.int (-1 : Int32)) :: own_tl) := V_nx_2'
        have N71 := Fr.app N69 Nq71
        show Own.Go p e below _ (T71.setTop (mkF m 293 #[.val (.int sh), .val (.int pk), .val (.int pl), .val (.ref b1), .val (.int (1 : Int32)), .val (.int (2 : Int32)), .val (.int (3 : Int32)), .val (.ref b6), .val (.int (3 : Int32)), .val (.int (0 : Int32)), .val (.int (1 : Int32)), .val (.int (2 : Int32)), .val (.int (2 : Int32)), .val (.int (3 : Int32)), .val (.int (2 : Int32)), .val (.int (0 : Int32)), .val (.int (2 : Int32)), .unset, .unset, .unset] []))
        refine Own.iload X71 hx (pc := 293) (hb hby at_293) rfl ?_
        refine Own.iload X71 hx (pc := 295) (hb hby at_295) rfl ?_
        refine Own.iload X71 hx (pc := 297) (hb hby at_297) rfl ?_
        refine Own.iload X71 hx (pc := 299) (hb hby at_299) rfl ?_
        refine Own.iconst X71 hx (pc := 301) (0 : Int32) (hb hby at_301) (by decide) ?_
        refine Own.callStatic X71 hx hZ (pc := 302) (y := (⟨"com/example/sprigdex/sprigdex/index/html/HtmlTreeDetachPinLaw", "at", "(IIIII)I"⟩ : MethodName)) hown (Wd hw 123 rfl) (Wd hw 124 rfl) (Wd hw 111 rfl) (Wd hw 125 rfl) (by decide) 0 [(.int (2 : Int32)), (.int (3 : Int32)), (.int (1 : Int32)), (.int (0 : Int32)), (.int (0 : Int32))] [] (rm18 l Z a0 hw (2 : Int32) (3 : Int32) (1 : Int32) (0 : Int32) (0 : Int32) T71.heap n0 sz71 ) (by decide) (by decide) e71 (by rw [hml]; rfl) pd12 rfl rfl (Nat.le_of_eq rfl) (hb hby at_302) (by decide) (by decide) ?_
        intro T72 L72 v72 X72 hQ72
        obtain ⟨rfl, Nq72, e72⟩ := hQ72
        have N72 := Fr.app N71 Nq72
        show Own.Go p e below _ (T72.setTop (mkF m 305 #[.val (.int sh), .val (.int pk), .val (.int pl), .val (.ref b1), .val (.int (1 : Int32)), .val (.int (2 : Int32)), .val (.int (3 : Int32)), .val (.ref b6), .val (.int (3 : Int32)), .val (.int (0 : Int32)), .val (.int (1 : Int32)), .val (.int (2 : Int32)), .val (.int (2 : Int32)), .val (.int (3 : Int32)), .val (.int (2 : Int32)), .val (.int (0 : Int32)), .val (.int (2 : Int32)), .unset, .unset, .unset] [(.int (1 : Int32))]))
        refine Own.istore X72 hx (pc := 305) #[.val (.int sh), .val (.int pk), .val (.int pl), .val (.ref b1), .val (.int (1 : Int32)), .val (.int (2 : Int32)), .val (.int (3 : Int32)), .val (.ref b6), .val (.int (3 : Int32)), .val (.int (0 : Int32)), .val (.int (1 : Int32)), .val (.int (2 : Int32)), .val (.int (2 : Int32)), .val (.int (3 : Int32)), .val (.int (2 : Int32)), .val (.int (0 : Int32)), .val (.int (2 : Int32)), .val (.int (1 : Int32)), .unset, .unset] (hb hby at_305) rfl ?_
        refine Own.iload X72 hx (pc := 307) (hb hby at_307) rfl ?_
        refine Own.iload X72 hx (pc := 309) (hb hby at_309) rfl ?_
        refine Own.iload X72 hx (pc := 311) (hb hby at_311) rfl ?_
        refine Own.iload X72 hx (pc := 313) (hb hby at_313) rfl ?_
        refine Own.iconst X72 hx (pc := 315) (1 : Int32) (hb hby at_315) (by decide) ?_
        refine Own.callStatic X72 hx hZ (pc := 316) (y := (⟨"com/example/sprigdex/sprigdex/index/html/HtmlTreeDetachPinLaw", "at", "(IIIII)I"⟩ : MethodName)) hown (Wd hw 123 rfl) (Wd hw 124 rfl) (Wd hw 111 rfl) (Wd hw 125 rfl) (by decide) 0 [(.int (2 : Int32)), (.int (3 : Int32)), (.int (1 : Int32)), (.int (0 : Int32)), (.int (1 : Int32))] [] (rm18 l Z a0 hw (2 : Int32) (3 : Int32) (1 : Int32) (0 : Int32) (1 : Int32) T71.heap n0 sz71 ) (by decide) (by decide) e72 (by rw [hml]; rfl) pd12 rfl rfl (Nat.le_of_eq rfl) (hb hby at_316) (by decide) (by decide) ?_
        intro T73 L73 v73 X73 hQ73
        obtain ⟨rfl, Nq73, e73⟩ := hQ73
        have N73 := Fr.app N72 Nq73
        show Own.Go p e below _ (T73.setTop (mkF m 319 #[.val (.int sh), .val (.int pk), .val (.int pl), .val (.ref b1), .val (.int (1 : Int32)), .val (.int (2 : Int32)), .val (.int (3 : Int32)), .val (.ref b6), .val (.int (3 : Int32)), .val (.int (0 : Int32)), .val (.int (1 : Int32)), .val (.int (2 : Int32)), .val (.int (2 : Int32)), .val (.int (3 : Int32)), .val (.int (2 : Int32)), .val (.int (0 : Int32)), .val (.int (2 : Int32)), .val (.int (1 : Int32)), .unset, .unset] [(.int (2 : Int32))]))
        refine Own.istore X73 hx (pc := 319) #[.val (.int sh), .val (.int pk), .val (.int pl), .val (.ref b1), .val (.int (1 : Int32)), .val (.int (2 : Int32)), .val (.int (3 : Int32)), .val (.ref b6), .val (.int (3 : Int32)), .val (.int (0 : Int32)), .val (.int (1 : Int32)), .val (.int (2 : Int32)), .val (.int (2 : Int32)), .val (.int (3 : Int32)), .val (.int (2 : Int32)), .val (.int (0 : Int32)), .val (.int (2 : Int32)), .val (.int (1 : Int32)), .val (.int (2 : Int32)), .unset] (hb hby at_319) rfl ?_
        refine Own.iload X73 hx (pc := 321) (hb hby at_321) rfl ?_
        refine Own.iload X73 hx (pc := 323) (hb hby at_323) rfl ?_
        refine Own.iload X73 hx (pc := 325) (hb hby at_325) rfl ?_
        refine Own.iload X73 hx (pc := 327) (hb hby at_327) rfl ?_
        refine Own.iconst X73 hx (pc := 329) (2 : Int32) (hb hby at_329) (by decide) ?_
        refine Own.callStatic X73 hx hZ (pc := 330) (y := (⟨"com/example/sprigdex/sprigdex/index/html/HtmlTreeDetachPinLaw", "at", "(IIIII)I"⟩ : MethodName)) hown (Wd hw 123 rfl) (Wd hw 124 rfl) (Wd hw 111 rfl) (Wd hw 125 rfl) (by decide) 0 [(.int (2 : Int32)), (.int (3 : Int32)), (.int (1 : Int32)), (.int (0 : Int32)), (.int (2 : Int32))] [] (rm18 l Z a0 hw (2 : Int32) (3 : Int32) (1 : Int32) (0 : Int32) (2 : Int32) T71.heap n0 sz71 ) (by decide) (by decide) e73 (by rw [hml]; rfl) pd12 rfl rfl (Nat.le_of_eq rfl) (hb hby at_330) (by decide) (by decide) ?_
        intro T74 L74 v74 X74 hQ74
        obtain ⟨rfl, Nq74, e74⟩ := hQ74
        have N74 := Fr.app N73 Nq74
        show Own.Go p e below _ (T74.setTop (mkF m 333 #[.val (.int sh), .val (.int pk), .val (.int pl), .val (.ref b1), .val (.int (1 : Int32)), .val (.int (2 : Int32)), .val (.int (3 : Int32)), .val (.ref b6), .val (.int (3 : Int32)), .val (.int (0 : Int32)), .val (.int (1 : Int32)), .val (.int (2 : Int32)), .val (.int (2 : Int32)), .val (.int (3 : Int32)), .val (.int (2 : Int32)), .val (.int (0 : Int32)), .val (.int (2 : Int32)), .val (.int (1 : Int32)), .val (.int (2 : Int32)), .unset] [(.int (3 : Int32))]))
        refine Own.istore X74 hx (pc := 333) #[.val (.int sh), .val (.int pk), .val (.int pl), .val (.ref b1), .val (.int (1 : Int32)), .val (.int (2 : Int32)), .val (.int (3 : Int32)), .val (.ref b6), .val (.int (3 : Int32)), .val (.int (0 : Int32)), .val (.int (1 : Int32)), .val (.int (2 : Int32)), .val (.int (2 : Int32)), .val (.int (3 : Int32)), .val (.int (2 : Int32)), .val (.int (0 : Int32)), .val (.int (2 : Int32)), .val (.int (1 : Int32)), .val (.int (2 : Int32)), .val (.int (3 : Int32))] (hb hby at_333) rfl ?_
        refine Own.aloadN X74 hx (pc := 335) (hb hby at_335) rfl rfl ?_
        refine Own.iload X74 hx (pc := 336) (hb hby at_336) rfl ?_
        refine Own.iload X74 hx (pc := 338) (hb hby at_338) rfl ?_
        refine Own.iload X74 hx (pc := 340) (hb hby at_340) rfl ?_
        refine Own.iload X74 hx (pc := 342) (hb hby at_342) rfl ?_
        refine Own.callStatic X74 hx hZ (pc := 344) (y := (⟨"com/example/sprigdex/sprigdex/index/html/HtmlTreeDetachPinLaw", "chain", "(Lcom/example/sprigdex/sprigdex/index/html/HtmlTree;IIII)Z"⟩ : MethodName)) hown (Wd hw 109 rfl) (Wd hw 110 rfl) (Wd hw 111 rfl) (Wd hw 112 rfl) (by decide) 0 [(.ref b1), (.int (1 : Int32)), (.int (2 : Int32)), (.int (3 : Int32)), (.int (3 : Int32))] [] (rmC3 l Z a0 hw b1 (1 : Int32) (2 : Int32) (3 : Int32) pa_2 fc_2 nx_2 ((.int (-1 : Int32)) :: (.int (0 : Int32)) :: (.int (0 : Int32)) :: (.int (0 : Int32)) :: own_tl) ((.int (1 : Int32)) :: (.int (-1 : Int32)) :: (.int (-1 : Int32)) :: (.int (-1 : Int32)) :: own_tl) ((.int (-1 : Int32)) :: (.int (2 : Int32)) :: (.int (3 : Int32)) :: (.int (-1 : Int32)) :: own_tl) T71.heap n0 sz71 E_b1 F_b1_parent F_b1_firstChild F_b1_nextSibling V_pa_2 V_fc_2 V_nx_2 rfl (by decide) rfl rfl (by decide) rfl rfl (by decide) rfl rfl) (by decide) (by decide) e74 (by rw [hml]; rfl) pd13 rfl rfl (Nat.le_of_eq rfl) (hb hby at_344) (by decide) (by decide) ?_
        intro T75 L75 v75 X75 hQ75
        obtain ⟨rfl, Nq75, e75⟩ := hQ75
        have N75 := Fr.app N74 Nq75
        show Own.Go p e below _ (T75.setTop (mkF m 347 #[.val (.int sh), .val (.int pk), .val (.int pl), .val (.ref b1), .val (.int (1 : Int32)), .val (.int (2 : Int32)), .val (.int (3 : Int32)), .val (.ref b6), .val (.int (3 : Int32)), .val (.int (0 : Int32)), .val (.int (1 : Int32)), .val (.int (2 : Int32)), .val (.int (2 : Int32)), .val (.int (3 : Int32)), .val (.int (2 : Int32)), .val (.int (0 : Int32)), .val (.int (2 : Int32)), .val (.int (1 : Int32)), .val (.int (2 : Int32)), .val (.int (3 : Int32))] [(.int (1 : Int32))]))
        exact Own.ireturn X75 hx hk hret (by simp) rfl (hb hby at_347) e75 ⟨rfl, N75⟩ (by decide) (by decide)
      · refine Own.istore X69 hx (pc := 257) #[.val (.int sh), .val (.int pk), .val (.int pl), .val (.ref b1), .val (.int (1 : Int32)), .val (.int (2 : Int32)), .val (.int (3 : Int32)), .val (.ref b6), .val (.int (3 : Int32)), .val (.int (0 : Int32)), .val (.int (1 : Int32)), .val (.int (2 : Int32)), .val (.int (2 : Int32)), .val (.int (3 : Int32)), .val (.int (2 : Int32)), .val (.int (1 : Int32)), .unset, .unset, .unset, .unset] (hb hby at_257) rfl ?_
        refine Own.iload X69 hx (pc := 259) (hb hby at_259) rfl ?_
        refine Own.iload X69 hx (pc := 261) (hb hby at_261) rfl ?_
        refine Own.icmpYes X69 hx (pc := 263) 270 (hb hby at_263) (by decide) (by decide) (by decide) ?_
        refine Own.iload X69 hx (pc := 270) (hb hby at_270) rfl ?_
        refine Own.ifYes X69 hx (pc := 272) 280 (hb hby at_272) (by decide) (by decide) (by decide) ?_
        refine Own.iload X69 hx (pc := 280) (hb hby at_280) rfl ?_
        refine Own.istore X69 hx (pc := 282) #[.val (.int sh), .val (.int pk), .val (.int pl), .val (.ref b1), .val (.int (1 : Int32)), .val (.int (2 : Int32)), .val (.int (3 : Int32)), .val (.ref b6), .val (.int (3 : Int32)), .val (.int (0 : Int32)), .val (.int (1 : Int32)), .val (.int (2 : Int32)), .val (.int (2 : Int32)), .val (.int (3 : Int32)), .val (.int (2 : Int32)), .val (.int (1 : Int32)), .val (.int (3 : Int32)), .unset, .unset, .unset] (hb hby at_282) rfl ?_
        refine Own.aloadN X69 hx (pc := 284) (hb hby at_284) rfl rfl ?_
        refine Own.iconst X69 hx (pc := 285) (0 : Int32) (hb hby at_285) (by decide) ?_
        refine Own.iload X69 hx (pc := 286) (hb hby at_286) rfl ?_
        refine Own.iload X69 hx (pc := 288) (hb hby at_288) rfl ?_
        refine Own.callVirtual X69 hx hZ (pc := 290) (y := (⟨"com/example/sprigdex/sprigdex/index/html/HtmlTree", "insert", "(III)V"⟩ : MethodName)) (z := (⟨"com/example/sprigdex/sprigdex/index/html/HtmlTree", "insert", "(III)V"⟩ : MethodName)) hown (Wd hw 93 rfl) (Wd hw 94 rfl) (Wd hw 96 rfl) (Wd hw 95 rfl) (Wd hw 2 rfl) (Wd hw 97 rfl) (Wd hw 96 rfl) (by decide) 0 b1 [(.int (0 : Int32)), (.int (1 : Int32)), (.int (3 : Int32))] [] E_b1 (rmI11 l Z a0 hw b1 (0 : Int32) (1 : Int32) (3 : Int32) pa_2 fc_2 la_2 pv_2 nx_2 ((.int (-1 : Int32)) :: (.int (-1 : Int32)) :: (.int (0 : Int32)) :: (.int (0 : Int32)) :: own_tl) ((.int (2 : Int32)) :: (.int (-1 : Int32)) :: (.int (-1 : Int32)) :: (.int (-1 : Int32)) :: own_tl) ((.int (3 : Int32)) :: (.int (-1 : Int32)) :: (.int (-1 : Int32)) :: (.int (-1 : Int32)) :: own_tl) ((.int (-1 : Int32)) :: (.int (-1 : Int32)) :: (.int (-1 : Int32)) :: (.int (2 : Int32)) :: own_tl) ((.int (-1 : Int32)) :: (.int (-1 : Int32)) :: (.int (3 : Int32)) :: (.int (-1 : Int32)) :: own_tl) (2 : Int32) T66.heap n0 sz66 E_b1 F_b1_parent F_b1_firstChild F_b1_lastChild F_b1_previousSibling F_b1_nextSibling V_pa_2 V_fc_2 V_la_2 V_pv_2 V_nx_2 ge_pa_2 ge_fc_2 ge_la_2 ge_pv_2 ge_nx_2 ne_b1_pa_2 ne_b1_fc_2 ne_b1_la_2 ne_b1_pv_2 ne_b1_nx_2 ne_pa_2_fc_2 ne_pa_2_la_2 ne_pa_2_pv_2 ne_pa_2_nx_2 ne_fc_2_la_2 ne_fc_2_pv_2 ne_fc_2_nx_2 ne_la_2_pv_2 ne_la_2_nx_2 ne_pv_2_nx_2 rfl rfl rfl rfl rfl (by decide) (by decide) (by decide) (by decide) (by decide) (by decide) (by decide) (by decide) rfl rfl (by decide) (by decide)) (by decide) (by decide) e69 (by rw [hml]; rfl) pd11 rfl rfl (Nat.le_of_eq rfl) (hb hby at_290) (by decide) (by decide) ?_
        intro T76 L76 v76 X76 hQ76
        obtain ⟨rfl, Nq76, K76, V_pa_2', V_fc_2', V_la_2', V_pv_2', V_nx_2'⟩ := hQ76
        have e76 : T76.heap = T76.heap := rfl
        have E_b1 := E_b1.keep K76
        have F_b1_parent := F_b1_parent.keep K76 (ninS ne_b1_pa_2 (ninS ne_b1_fc_2 (ninS ne_b1_la_2 (ninS ne_b1_pv_2 (ninS ne_b1_nx_2 nin0)))))
        have F_b1_firstChild := F_b1_firstChild.keep K76 (ninS ne_b1_pa_2 (ninS ne_b1_fc_2 (ninS ne_b1_la_2 (ninS ne_b1_pv_2 (ninS ne_b1_nx_2 nin0)))))
        have F_b1_lastChild := F_b1_lastChild.keep K76 (ninS ne_b1_pa_2 (ninS ne_b1_fc_2 (ninS ne_b1_la_2 (ninS ne_b1_pv_2 (ninS ne_b1_nx_2 nin0)))))
        have F_b1_previousSibling := F_b1_previousSibling.keep K76 (ninS ne_b1_pa_2 (ninS ne_b1_fc_2 (ninS ne_b1_la_2 (ninS ne_b1_pv_2 (ninS ne_b1_nx_2 nin0)))))
        have F_b1_nextSibling := F_b1_nextSibling.keep K76 (ninS ne_b1_pa_2 (ninS ne_b1_fc_2 (ninS ne_b1_la_2 (ninS ne_b1_pv_2 (ninS ne_b1_nx_2 nin0)))))
        have V_b6 := V_b6.keep K76 (ninS (Ne.symm ne_pa_2_b6) (ninS (Ne.symm ne_fc_2_b6) (ninS (Ne.symm ne_la_2_b6) (ninS (Ne.symm ne_pv_2_b6) (ninS (Ne.symm ne_nx_2_b6) nin0)))))
        have sz76 : n0 ≤ T76.heap.size := Nat.le_trans sz66 K76.1
        have V_pa_2 : Own.VArr Z T76.heap pa_2 .int ((.int (-1 : Int32)) :: (.int (0 : Int32)) :: (.int (0 : Int32)) :: (.int (0 : Int32)) :: own_tl) := V_pa_2'
        have V_fc_2 : Own.VArr Z T76.heap fc_2 .int ((.int (2 : Int32)) :: (.int (-1 : Int32)) :: (.int (-1 : Int32)) :: (.int (-1 : Int32)) :: own_tl) := V_fc_2'
        have V_la_2 : Own.VArr Z T76.heap la_2 .int ((.int (3 : Int32)) :: (.int (-1 : Int32)) :: (.int (-1 : Int32)) :: (.int (-1 : Int32)) :: own_tl) := V_la_2'
        have V_pv_2 : Own.VArr Z T76.heap pv_2 .int ((.int (-1 : Int32)) :: (.int (2 : Int32)) :: (.int (-1 : Int32)) :: (.int (1 : Int32)) :: own_tl) := V_pv_2'
        have V_nx_2 : Own.VArr Z T76.heap nx_2 .int ((.int (-1 : Int32)) :: (.int (3 : Int32)) :: (.int (1 : Int32)) :: (.int (-1 : Int32)) :: own_tl) := V_nx_2'
        have N76 := Fr.app N69 Nq76
        show Own.Go p e below _ (T76.setTop (mkF m 293 #[.val (.int sh), .val (.int pk), .val (.int pl), .val (.ref b1), .val (.int (1 : Int32)), .val (.int (2 : Int32)), .val (.int (3 : Int32)), .val (.ref b6), .val (.int (3 : Int32)), .val (.int (0 : Int32)), .val (.int (1 : Int32)), .val (.int (2 : Int32)), .val (.int (2 : Int32)), .val (.int (3 : Int32)), .val (.int (2 : Int32)), .val (.int (1 : Int32)), .val (.int (3 : Int32)), .unset, .unset, .unset] []))
        refine Own.iload X76 hx (pc := 293) (hb hby at_293) rfl ?_
        refine Own.iload X76 hx (pc := 295) (hb hby at_295) rfl ?_
        refine Own.iload X76 hx (pc := 297) (hb hby at_297) rfl ?_
        refine Own.iload X76 hx (pc := 299) (hb hby at_299) rfl ?_
        refine Own.iconst X76 hx (pc := 301) (0 : Int32) (hb hby at_301) (by decide) ?_
        refine Own.callStatic X76 hx hZ (pc := 302) (y := (⟨"com/example/sprigdex/sprigdex/index/html/HtmlTreeDetachPinLaw", "at", "(IIIII)I"⟩ : MethodName)) hown (Wd hw 123 rfl) (Wd hw 124 rfl) (Wd hw 111 rfl) (Wd hw 125 rfl) (by decide) 0 [(.int (2 : Int32)), (.int (3 : Int32)), (.int (1 : Int32)), (.int (1 : Int32)), (.int (0 : Int32))] [] (rm18 l Z a0 hw (2 : Int32) (3 : Int32) (1 : Int32) (1 : Int32) (0 : Int32) T76.heap n0 sz76 ) (by decide) (by decide) e76 (by rw [hml]; rfl) pd12 rfl rfl (Nat.le_of_eq rfl) (hb hby at_302) (by decide) (by decide) ?_
        intro T77 L77 v77 X77 hQ77
        obtain ⟨rfl, Nq77, e77⟩ := hQ77
        have N77 := Fr.app N76 Nq77
        show Own.Go p e below _ (T77.setTop (mkF m 305 #[.val (.int sh), .val (.int pk), .val (.int pl), .val (.ref b1), .val (.int (1 : Int32)), .val (.int (2 : Int32)), .val (.int (3 : Int32)), .val (.ref b6), .val (.int (3 : Int32)), .val (.int (0 : Int32)), .val (.int (1 : Int32)), .val (.int (2 : Int32)), .val (.int (2 : Int32)), .val (.int (3 : Int32)), .val (.int (2 : Int32)), .val (.int (1 : Int32)), .val (.int (3 : Int32)), .unset, .unset, .unset] [(.int (2 : Int32))]))
        refine Own.istore X77 hx (pc := 305) #[.val (.int sh), .val (.int pk), .val (.int pl), .val (.ref b1), .val (.int (1 : Int32)), .val (.int (2 : Int32)), .val (.int (3 : Int32)), .val (.ref b6), .val (.int (3 : Int32)), .val (.int (0 : Int32)), .val (.int (1 : Int32)), .val (.int (2 : Int32)), .val (.int (2 : Int32)), .val (.int (3 : Int32)), .val (.int (2 : Int32)), .val (.int (1 : Int32)), .val (.int (3 : Int32)), .val (.int (2 : Int32)), .unset, .unset] (hb hby at_305) rfl ?_
        refine Own.iload X77 hx (pc := 307) (hb hby at_307) rfl ?_
        refine Own.iload X77 hx (pc := 309) (hb hby at_309) rfl ?_
        refine Own.iload X77 hx (pc := 311) (hb hby at_311) rfl ?_
        refine Own.iload X77 hx (pc := 313) (hb hby at_313) rfl ?_
        refine Own.iconst X77 hx (pc := 315) (1 : Int32) (hb hby at_315) (by decide) ?_
        refine Own.callStatic X77 hx hZ (pc := 316) (y := (⟨"com/example/sprigdex/sprigdex/index/html/HtmlTreeDetachPinLaw", "at", "(IIIII)I"⟩ : MethodName)) hown (Wd hw 123 rfl) (Wd hw 124 rfl) (Wd hw 111 rfl) (Wd hw 125 rfl) (by decide) 0 [(.int (2 : Int32)), (.int (3 : Int32)), (.int (1 : Int32)), (.int (1 : Int32)), (.int (1 : Int32))] [] (rm18 l Z a0 hw (2 : Int32) (3 : Int32) (1 : Int32) (1 : Int32) (1 : Int32) T76.heap n0 sz76 ) (by decide) (by decide) e77 (by rw [hml]; rfl) pd12 rfl rfl (Nat.le_of_eq rfl) (hb hby at_316) (by decide) (by decide) ?_
        intro T78 L78 v78 X78 hQ78
        obtain ⟨rfl, Nq78, e78⟩ := hQ78
        have N78 := Fr.app N77 Nq78
        show Own.Go p e below _ (T78.setTop (mkF m 319 #[.val (.int sh), .val (.int pk), .val (.int pl), .val (.ref b1), .val (.int (1 : Int32)), .val (.int (2 : Int32)), .val (.int (3 : Int32)), .val (.ref b6), .val (.int (3 : Int32)), .val (.int (0 : Int32)), .val (.int (1 : Int32)), .val (.int (2 : Int32)), .val (.int (2 : Int32)), .val (.int (3 : Int32)), .val (.int (2 : Int32)), .val (.int (1 : Int32)), .val (.int (3 : Int32)), .val (.int (2 : Int32)), .unset, .unset] [(.int (1 : Int32))]))
        refine Own.istore X78 hx (pc := 319) #[.val (.int sh), .val (.int pk), .val (.int pl), .val (.ref b1), .val (.int (1 : Int32)), .val (.int (2 : Int32)), .val (.int (3 : Int32)), .val (.ref b6), .val (.int (3 : Int32)), .val (.int (0 : Int32)), .val (.int (1 : Int32)), .val (.int (2 : Int32)), .val (.int (2 : Int32)), .val (.int (3 : Int32)), .val (.int (2 : Int32)), .val (.int (1 : Int32)), .val (.int (3 : Int32)), .val (.int (2 : Int32)), .val (.int (1 : Int32)), .unset] (hb hby at_319) rfl ?_
        refine Own.iload X78 hx (pc := 321) (hb hby at_321) rfl ?_
        refine Own.iload X78 hx (pc := 323) (hb hby at_323) rfl ?_
        refine Own.iload X78 hx (pc := 325) (hb hby at_325) rfl ?_
        refine Own.iload X78 hx (pc := 327) (hb hby at_327) rfl ?_
        refine Own.iconst X78 hx (pc := 329) (2 : Int32) (hb hby at_329) (by decide) ?_
        refine Own.callStatic X78 hx hZ (pc := 330) (y := (⟨"com/example/sprigdex/sprigdex/index/html/HtmlTreeDetachPinLaw", "at", "(IIIII)I"⟩ : MethodName)) hown (Wd hw 123 rfl) (Wd hw 124 rfl) (Wd hw 111 rfl) (Wd hw 125 rfl) (by decide) 0 [(.int (2 : Int32)), (.int (3 : Int32)), (.int (1 : Int32)), (.int (1 : Int32)), (.int (2 : Int32))] [] (rm18 l Z a0 hw (2 : Int32) (3 : Int32) (1 : Int32) (1 : Int32) (2 : Int32) T76.heap n0 sz76 ) (by decide) (by decide) e78 (by rw [hml]; rfl) pd12 rfl rfl (Nat.le_of_eq rfl) (hb hby at_330) (by decide) (by decide) ?_
        intro T79 L79 v79 X79 hQ79
        obtain ⟨rfl, Nq79, e79⟩ := hQ79
        have N79 := Fr.app N78 Nq79
        show Own.Go p e below _ (T79.setTop (mkF m 333 #[.val (.int sh), .val (.int pk), .val (.int pl), .val (.ref b1), .val (.int (1 : Int32)), .val (.int (2 : Int32)), .val (.int (3 : Int32)), .val (.ref b6), .val (.int (3 : Int32)), .val (.int (0 : Int32)), .val (.int (1 : Int32)), .val (.int (2 : Int32)), .val (.int (2 : Int32)), .val (.int (3 : Int32)), .val (.int (2 : Int32)), .val (.int (1 : Int32)), .val (.int (3 : Int32)), .val (.int (2 : Int32)), .val (.int (1 : Int32)), .unset] [(.int (3 : Int32))]))
        refine Own.istore X79 hx (pc := 333) #[.val (.int sh), .val (.int pk), .val (.int pl), .val (.ref b1), .val (.int (1 : Int32)), .val (.int (2 : Int32)), .val (.int (3 : Int32)), .val (.ref b6), .val (.int (3 : Int32)), .val (.int (0 : Int32)), .val (.int (1 : Int32)), .val (.int (2 : Int32)), .val (.int (2 : Int32)), .val (.int (3 : Int32)), .val (.int (2 : Int32)), .val (.int (1 : Int32)), .val (.int (3 : Int32)), .val (.int (2 : Int32)), .val (.int (1 : Int32)), .val (.int (3 : Int32))] (hb hby at_333) rfl ?_
        refine Own.aloadN X79 hx (pc := 335) (hb hby at_335) rfl rfl ?_
        refine Own.iload X79 hx (pc := 336) (hb hby at_336) rfl ?_
        refine Own.iload X79 hx (pc := 338) (hb hby at_338) rfl ?_
        refine Own.iload X79 hx (pc := 340) (hb hby at_340) rfl ?_
        refine Own.iload X79 hx (pc := 342) (hb hby at_342) rfl ?_
        refine Own.callStatic X79 hx hZ (pc := 344) (y := (⟨"com/example/sprigdex/sprigdex/index/html/HtmlTreeDetachPinLaw", "chain", "(Lcom/example/sprigdex/sprigdex/index/html/HtmlTree;IIII)Z"⟩ : MethodName)) hown (Wd hw 109 rfl) (Wd hw 110 rfl) (Wd hw 111 rfl) (Wd hw 112 rfl) (by decide) 0 [(.ref b1), (.int (2 : Int32)), (.int (1 : Int32)), (.int (3 : Int32)), (.int (3 : Int32))] [] (rmC3 l Z a0 hw b1 (2 : Int32) (1 : Int32) (3 : Int32) pa_2 fc_2 nx_2 ((.int (-1 : Int32)) :: (.int (0 : Int32)) :: (.int (0 : Int32)) :: (.int (0 : Int32)) :: own_tl) ((.int (2 : Int32)) :: (.int (-1 : Int32)) :: (.int (-1 : Int32)) :: (.int (-1 : Int32)) :: own_tl) ((.int (-1 : Int32)) :: (.int (3 : Int32)) :: (.int (1 : Int32)) :: (.int (-1 : Int32)) :: own_tl) T76.heap n0 sz76 E_b1 F_b1_parent F_b1_firstChild F_b1_nextSibling V_pa_2 V_fc_2 V_nx_2 rfl (by decide) rfl rfl (by decide) rfl rfl (by decide) rfl rfl) (by decide) (by decide) e79 (by rw [hml]; rfl) pd13 rfl rfl (Nat.le_of_eq rfl) (hb hby at_344) (by decide) (by decide) ?_
        intro T80 L80 v80 X80 hQ80
        obtain ⟨rfl, Nq80, e80⟩ := hQ80
        have N80 := Fr.app N79 Nq80
        show Own.Go p e below _ (T80.setTop (mkF m 347 #[.val (.int sh), .val (.int pk), .val (.int pl), .val (.ref b1), .val (.int (1 : Int32)), .val (.int (2 : Int32)), .val (.int (3 : Int32)), .val (.ref b6), .val (.int (3 : Int32)), .val (.int (0 : Int32)), .val (.int (1 : Int32)), .val (.int (2 : Int32)), .val (.int (2 : Int32)), .val (.int (3 : Int32)), .val (.int (2 : Int32)), .val (.int (1 : Int32)), .val (.int (3 : Int32)), .val (.int (2 : Int32)), .val (.int (1 : Int32)), .val (.int (3 : Int32))] [(.int (1 : Int32))]))
        exact Own.ireturn X80 hx hk hret (by simp) rfl (hb hby at_347) e80 ⟨rfl, N80⟩ (by decide) (by decide)
      · refine Own.istore X69 hx (pc := 257) #[.val (.int sh), .val (.int pk), .val (.int pl), .val (.ref b1), .val (.int (1 : Int32)), .val (.int (2 : Int32)), .val (.int (3 : Int32)), .val (.ref b6), .val (.int (3 : Int32)), .val (.int (0 : Int32)), .val (.int (1 : Int32)), .val (.int (2 : Int32)), .val (.int (2 : Int32)), .val (.int (3 : Int32)), .val (.int (2 : Int32)), .val (.int (2 : Int32)), .unset, .unset, .unset, .unset] (hb hby at_257) rfl ?_
        refine Own.iload X69 hx (pc := 259) (hb hby at_259) rfl ?_
        refine Own.iload X69 hx (pc := 261) (hb hby at_261) rfl ?_
        refine Own.icmpNo X69 hx (pc := 263) (hb hby at_263) (by decide) ?_
        refine Own.iconst X69 hx (pc := 266) (-1 : Int32) (hb hby at_266) (by decide) ?_
        refine Own.goto X69 hx (pc := 267) 282 (hb hby at_267) (by decide) (by decide) ?_
        refine Own.istore X69 hx (pc := 282) #[.val (.int sh), .val (.int pk), .val (.int pl), .val (.ref b1), .val (.int (1 : Int32)), .val (.int (2 : Int32)), .val (.int (3 : Int32)), .val (.ref b6), .val (.int (3 : Int32)), .val (.int (0 : Int32)), .val (.int (1 : Int32)), .val (.int (2 : Int32)), .val (.int (2 : Int32)), .val (.int (3 : Int32)), .val (.int (2 : Int32)), .val (.int (2 : Int32)), .val (.int (-1 : Int32)), .unset, .unset, .unset] (hb hby at_282) rfl ?_
        refine Own.aloadN X69 hx (pc := 284) (hb hby at_284) rfl rfl ?_
        refine Own.iconst X69 hx (pc := 285) (0 : Int32) (hb hby at_285) (by decide) ?_
        refine Own.iload X69 hx (pc := 286) (hb hby at_286) rfl ?_
        refine Own.iload X69 hx (pc := 288) (hb hby at_288) rfl ?_
        refine Own.callVirtual X69 hx hZ (pc := 290) (y := (⟨"com/example/sprigdex/sprigdex/index/html/HtmlTree", "insert", "(III)V"⟩ : MethodName)) (z := (⟨"com/example/sprigdex/sprigdex/index/html/HtmlTree", "insert", "(III)V"⟩ : MethodName)) hown (Wd hw 93 rfl) (Wd hw 94 rfl) (Wd hw 96 rfl) (Wd hw 95 rfl) (Wd hw 2 rfl) (Wd hw 97 rfl) (Wd hw 96 rfl) (by decide) 0 b1 [(.int (0 : Int32)), (.int (1 : Int32)), (.int (-1 : Int32))] [] E_b1 (rmI01 l Z a0 hw b1 (0 : Int32) (1 : Int32) pa_2 fc_2 la_2 pv_2 nx_2 ((.int (-1 : Int32)) :: (.int (-1 : Int32)) :: (.int (0 : Int32)) :: (.int (0 : Int32)) :: own_tl) ((.int (2 : Int32)) :: (.int (-1 : Int32)) :: (.int (-1 : Int32)) :: (.int (-1 : Int32)) :: own_tl) ((.int (3 : Int32)) :: (.int (-1 : Int32)) :: (.int (-1 : Int32)) :: (.int (-1 : Int32)) :: own_tl) ((.int (-1 : Int32)) :: (.int (-1 : Int32)) :: (.int (-1 : Int32)) :: (.int (2 : Int32)) :: own_tl) ((.int (-1 : Int32)) :: (.int (-1 : Int32)) :: (.int (3 : Int32)) :: (.int (-1 : Int32)) :: own_tl) (3 : Int32) T66.heap n0 sz66 E_b1 F_b1_parent F_b1_firstChild F_b1_lastChild F_b1_previousSibling F_b1_nextSibling V_pa_2 V_fc_2 V_la_2 V_pv_2 V_nx_2 ge_pa_2 ge_fc_2 ge_la_2 ge_pv_2 ge_nx_2 ne_b1_pa_2 ne_b1_fc_2 ne_b1_la_2 ne_b1_pv_2 ne_b1_nx_2 ne_pa_2_fc_2 ne_pa_2_la_2 ne_pa_2_pv_2 ne_pa_2_nx_2 ne_fc_2_la_2 ne_fc_2_pv_2 ne_fc_2_nx_2 ne_la_2_pv_2 ne_la_2_nx_2 ne_pv_2_nx_2 rfl rfl rfl rfl rfl (by decide) (by decide) (by decide) (by decide) (by decide) (by decide) rfl rfl (by decide)) (by decide) (by decide) e69 (by rw [hml]; rfl) pd11 rfl rfl (Nat.le_of_eq rfl) (hb hby at_290) (by decide) (by decide) ?_
        intro T81 L81 v81 X81 hQ81
        obtain ⟨rfl, Nq81, K81, V_pa_2', V_fc_2', V_la_2', V_pv_2', V_nx_2'⟩ := hQ81
        have e81 : T81.heap = T81.heap := rfl
        have E_b1 := E_b1.keep K81
        have F_b1_parent := F_b1_parent.keep K81 (ninS ne_b1_pa_2 (ninS ne_b1_fc_2 (ninS ne_b1_la_2 (ninS ne_b1_pv_2 (ninS ne_b1_nx_2 nin0)))))
        have F_b1_firstChild := F_b1_firstChild.keep K81 (ninS ne_b1_pa_2 (ninS ne_b1_fc_2 (ninS ne_b1_la_2 (ninS ne_b1_pv_2 (ninS ne_b1_nx_2 nin0)))))
        have F_b1_lastChild := F_b1_lastChild.keep K81 (ninS ne_b1_pa_2 (ninS ne_b1_fc_2 (ninS ne_b1_la_2 (ninS ne_b1_pv_2 (ninS ne_b1_nx_2 nin0)))))
        have F_b1_previousSibling := F_b1_previousSibling.keep K81 (ninS ne_b1_pa_2 (ninS ne_b1_fc_2 (ninS ne_b1_la_2 (ninS ne_b1_pv_2 (ninS ne_b1_nx_2 nin0)))))
        have F_b1_nextSibling := F_b1_nextSibling.keep K81 (ninS ne_b1_pa_2 (ninS ne_b1_fc_2 (ninS ne_b1_la_2 (ninS ne_b1_pv_2 (ninS ne_b1_nx_2 nin0)))))
        have V_b6 := V_b6.keep K81 (ninS (Ne.symm ne_pa_2_b6) (ninS (Ne.symm ne_fc_2_b6) (ninS (Ne.symm ne_la_2_b6) (ninS (Ne.symm ne_pv_2_b6) (ninS (Ne.symm ne_nx_2_b6) nin0)))))
        have sz81 : n0 ≤ T81.heap.size := Nat.le_trans sz66 K81.1
        have V_pa_2 : Own.VArr Z T81.heap pa_2 .int ((.int (-1 : Int32)) :: (.int (0 : Int32)) :: (.int (0 : Int32)) :: (.int (0 : Int32)) :: own_tl) := V_pa_2'
        have V_fc_2 : Own.VArr Z T81.heap fc_2 .int ((.int (2 : Int32)) :: (.int (-1 : Int32)) :: (.int (-1 : Int32)) :: (.int (-1 : Int32)) :: own_tl) := V_fc_2'
        have V_la_2 : Own.VArr Z T81.heap la_2 .int ((.int (1 : Int32)) :: (.int (-1 : Int32)) :: (.int (-1 : Int32)) :: (.int (-1 : Int32)) :: own_tl) := V_la_2'
        have V_pv_2 : Own.VArr Z T81.heap pv_2 .int ((.int (-1 : Int32)) :: (.int (3 : Int32)) :: (.int (-1 : Int32)) :: (.int (2 : Int32)) :: own_tl) := V_pv_2'
        have V_nx_2 : Own.VArr Z T81.heap nx_2 .int ((.int (-1 : Int32)) :: (.int (-1 : Int32)) :: (.int (3 : Int32)) :: (.int (1 : Int32)) :: own_tl) := V_nx_2'
        have N81 := Fr.app N69 Nq81
        show Own.Go p e below _ (T81.setTop (mkF m 293 #[.val (.int sh), .val (.int pk), .val (.int pl), .val (.ref b1), .val (.int (1 : Int32)), .val (.int (2 : Int32)), .val (.int (3 : Int32)), .val (.ref b6), .val (.int (3 : Int32)), .val (.int (0 : Int32)), .val (.int (1 : Int32)), .val (.int (2 : Int32)), .val (.int (2 : Int32)), .val (.int (3 : Int32)), .val (.int (2 : Int32)), .val (.int (2 : Int32)), .val (.int (-1 : Int32)), .unset, .unset, .unset] []))
        refine Own.iload X81 hx (pc := 293) (hb hby at_293) rfl ?_
        refine Own.iload X81 hx (pc := 295) (hb hby at_295) rfl ?_
        refine Own.iload X81 hx (pc := 297) (hb hby at_297) rfl ?_
        refine Own.iload X81 hx (pc := 299) (hb hby at_299) rfl ?_
        refine Own.iconst X81 hx (pc := 301) (0 : Int32) (hb hby at_301) (by decide) ?_
        refine Own.callStatic X81 hx hZ (pc := 302) (y := (⟨"com/example/sprigdex/sprigdex/index/html/HtmlTreeDetachPinLaw", "at", "(IIIII)I"⟩ : MethodName)) hown (Wd hw 123 rfl) (Wd hw 124 rfl) (Wd hw 111 rfl) (Wd hw 125 rfl) (by decide) 0 [(.int (2 : Int32)), (.int (3 : Int32)), (.int (1 : Int32)), (.int (2 : Int32)), (.int (0 : Int32))] [] (rm18 l Z a0 hw (2 : Int32) (3 : Int32) (1 : Int32) (2 : Int32) (0 : Int32) T81.heap n0 sz81 ) (by decide) (by decide) e81 (by rw [hml]; rfl) pd12 rfl rfl (Nat.le_of_eq rfl) (hb hby at_302) (by decide) (by decide) ?_
        intro T82 L82 v82 X82 hQ82
        obtain ⟨rfl, Nq82, e82⟩ := hQ82
        have N82 := Fr.app N81 Nq82
        show Own.Go p e below _ (T82.setTop (mkF m 305 #[.val (.int sh), .val (.int pk), .val (.int pl), .val (.ref b1), .val (.int (1 : Int32)), .val (.int (2 : Int32)), .val (.int (3 : Int32)), .val (.ref b6), .val (.int (3 : Int32)), .val (.int (0 : Int32)), .val (.int (1 : Int32)), .val (.int (2 : Int32)), .val (.int (2 : Int32)), .val (.int (3 : Int32)), .val (.int (2 : Int32)), .val (.int (2 : Int32)), .val (.int (-1 : Int32)), .unset, .unset, .unset] [(.int (2 : Int32))]))
        refine Own.istore X82 hx (pc := 305) #[.val (.int sh), .val (.int pk), .val (.int pl), .val (.ref b1), .val (.int (1 : Int32)), .val (.int (2 : Int32)), .val (.int (3 : Int32)), .val (.ref b6), .val (.int (3 : Int32)), .val (.int (0 : Int32)), .val (.int (1 : Int32)), .val (.int (2 : Int32)), .val (.int (2 : Int32)), .val (.int (3 : Int32)), .val (.int (2 : Int32)), .val (.int (2 : Int32)), .val (.int (-1 : Int32)), .val (.int (2 : Int32)), .unset, .unset] (hb hby at_305) rfl ?_
        refine Own.iload X82 hx (pc := 307) (hb hby at_307) rfl ?_
        refine Own.iload X82 hx (pc := 309) (hb hby at_309) rfl ?_
        refine Own.iload X82 hx (pc := 311) (hb hby at_311) rfl ?_
        refine Own.iload X82 hx (pc := 313) (hb hby at_313) rfl ?_
        refine Own.iconst X82 hx (pc := 315) (1 : Int32) (hb hby at_315) (by decide) ?_
        refine Own.callStatic X82 hx hZ (pc := 316) (y := (⟨"com/example/sprigdex/sprigdex/index/html/HtmlTreeDetachPinLaw", "at", "(IIIII)I"⟩ : MethodName)) hown (Wd hw 123 rfl) (Wd hw 124 rfl) (Wd hw 111 rfl) (Wd hw 125 rfl) (by decide) 0 [(.int (2 : Int32)), (.int (3 : Int32)), (.int (1 : Int32)), (.int (2 : Int32)), (.int (1 : Int32))] [] (rm18 l Z a0 hw (2 : Int32) (3 : Int32) (1 : Int32) (2 : Int32) (1 : Int32) T81.heap n0 sz81 ) (by decide) (by decide) e82 (by rw [hml]; rfl) pd12 rfl rfl (Nat.le_of_eq rfl) (hb hby at_316) (by decide) (by decide) ?_
        intro T83 L83 v83 X83 hQ83
        obtain ⟨rfl, Nq83, e83⟩ := hQ83
        have N83 := Fr.app N82 Nq83
        show Own.Go p e below _ (T83.setTop (mkF m 319 #[.val (.int sh), .val (.int pk), .val (.int pl), .val (.ref b1), .val (.int (1 : Int32)), .val (.int (2 : Int32)), .val (.int (3 : Int32)), .val (.ref b6), .val (.int (3 : Int32)), .val (.int (0 : Int32)), .val (.int (1 : Int32)), .val (.int (2 : Int32)), .val (.int (2 : Int32)), .val (.int (3 : Int32)), .val (.int (2 : Int32)), .val (.int (2 : Int32)), .val (.int (-1 : Int32)), .val (.int (2 : Int32)), .unset, .unset] [(.int (3 : Int32))]))
        refine Own.istore X83 hx (pc := 319) #[.val (.int sh), .val (.int pk), .val (.int pl), .val (.ref b1), .val (.int (1 : Int32)), .val (.int (2 : Int32)), .val (.int (3 : Int32)), .val (.ref b6), .val (.int (3 : Int32)), .val (.int (0 : Int32)), .val (.int (1 : Int32)), .val (.int (2 : Int32)), .val (.int (2 : Int32)), .val (.int (3 : Int32)), .val (.int (2 : Int32)), .val (.int (2 : Int32)), .val (.int (-1 : Int32)), .val (.int (2 : Int32)), .val (.int (3 : Int32)), .unset] (hb hby at_319) rfl ?_
        refine Own.iload X83 hx (pc := 321) (hb hby at_321) rfl ?_
        refine Own.iload X83 hx (pc := 323) (hb hby at_323) rfl ?_
        refine Own.iload X83 hx (pc := 325) (hb hby at_325) rfl ?_
        refine Own.iload X83 hx (pc := 327) (hb hby at_327) rfl ?_
        refine Own.iconst X83 hx (pc := 329) (2 : Int32) (hb hby at_329) (by decide) ?_
        refine Own.callStatic X83 hx hZ (pc := 330) (y := (⟨"com/example/sprigdex/sprigdex/index/html/HtmlTreeDetachPinLaw", "at", "(IIIII)I"⟩ : MethodName)) hown (Wd hw 123 rfl) (Wd hw 124 rfl) (Wd hw 111 rfl) (Wd hw 125 rfl) (by decide) 0 [(.int (2 : Int32)), (.int (3 : Int32)), (.int (1 : Int32)), (.int (2 : Int32)), (.int (2 : Int32))] [] (rm18 l Z a0 hw (2 : Int32) (3 : Int32) (1 : Int32) (2 : Int32) (2 : Int32) T81.heap n0 sz81 ) (by decide) (by decide) e83 (by rw [hml]; rfl) pd12 rfl rfl (Nat.le_of_eq rfl) (hb hby at_330) (by decide) (by decide) ?_
        intro T84 L84 v84 X84 hQ84
        obtain ⟨rfl, Nq84, e84⟩ := hQ84
        have N84 := Fr.app N83 Nq84
        show Own.Go p e below _ (T84.setTop (mkF m 333 #[.val (.int sh), .val (.int pk), .val (.int pl), .val (.ref b1), .val (.int (1 : Int32)), .val (.int (2 : Int32)), .val (.int (3 : Int32)), .val (.ref b6), .val (.int (3 : Int32)), .val (.int (0 : Int32)), .val (.int (1 : Int32)), .val (.int (2 : Int32)), .val (.int (2 : Int32)), .val (.int (3 : Int32)), .val (.int (2 : Int32)), .val (.int (2 : Int32)), .val (.int (-1 : Int32)), .val (.int (2 : Int32)), .val (.int (3 : Int32)), .unset] [(.int (1 : Int32))]))
        refine Own.istore X84 hx (pc := 333) #[.val (.int sh), .val (.int pk), .val (.int pl), .val (.ref b1), .val (.int (1 : Int32)), .val (.int (2 : Int32)), .val (.int (3 : Int32)), .val (.ref b6), .val (.int (3 : Int32)), .val (.int (0 : Int32)), .val (.int (1 : Int32)), .val (.int (2 : Int32)), .val (.int (2 : Int32)), .val (.int (3 : Int32)), .val (.int (2 : Int32)), .val (.int (2 : Int32)), .val (.int (-1 : Int32)), .val (.int (2 : Int32)), .val (.int (3 : Int32)), .val (.int (1 : Int32))] (hb hby at_333) rfl ?_
        refine Own.aloadN X84 hx (pc := 335) (hb hby at_335) rfl rfl ?_
        refine Own.iload X84 hx (pc := 336) (hb hby at_336) rfl ?_
        refine Own.iload X84 hx (pc := 338) (hb hby at_338) rfl ?_
        refine Own.iload X84 hx (pc := 340) (hb hby at_340) rfl ?_
        refine Own.iload X84 hx (pc := 342) (hb hby at_342) rfl ?_
        refine Own.callStatic X84 hx hZ (pc := 344) (y := (⟨"com/example/sprigdex/sprigdex/index/html/HtmlTreeDetachPinLaw", "chain", "(Lcom/example/sprigdex/sprigdex/index/html/HtmlTree;IIII)Z"⟩ : MethodName)) hown (Wd hw 109 rfl) (Wd hw 110 rfl) (Wd hw 111 rfl) (Wd hw 112 rfl) (by decide) 0 [(.ref b1), (.int (2 : Int32)), (.int (3 : Int32)), (.int (1 : Int32)), (.int (3 : Int32))] [] (rmC3 l Z a0 hw b1 (2 : Int32) (3 : Int32) (1 : Int32) pa_2 fc_2 nx_2 ((.int (-1 : Int32)) :: (.int (0 : Int32)) :: (.int (0 : Int32)) :: (.int (0 : Int32)) :: own_tl) ((.int (2 : Int32)) :: (.int (-1 : Int32)) :: (.int (-1 : Int32)) :: (.int (-1 : Int32)) :: own_tl) ((.int (-1 : Int32)) :: (.int (-1 : Int32)) :: (.int (3 : Int32)) :: (.int (1 : Int32)) :: own_tl) T81.heap n0 sz81 E_b1 F_b1_parent F_b1_firstChild F_b1_nextSibling V_pa_2 V_fc_2 V_nx_2 rfl (by decide) rfl rfl (by decide) rfl rfl (by decide) rfl rfl) (by decide) (by decide) e84 (by rw [hml]; rfl) pd13 rfl rfl (Nat.le_of_eq rfl) (hb hby at_344) (by decide) (by decide) ?_
        intro T85 L85 v85 X85 hQ85
        obtain ⟨rfl, Nq85, e85⟩ := hQ85
        have N85 := Fr.app N84 Nq85
        show Own.Go p e below _ (T85.setTop (mkF m 347 #[.val (.int sh), .val (.int pk), .val (.int pl), .val (.ref b1), .val (.int (1 : Int32)), .val (.int (2 : Int32)), .val (.int (3 : Int32)), .val (.ref b6), .val (.int (3 : Int32)), .val (.int (0 : Int32)), .val (.int (1 : Int32)), .val (.int (2 : Int32)), .val (.int (2 : Int32)), .val (.int (3 : Int32)), .val (.int (2 : Int32)), .val (.int (2 : Int32)), .val (.int (-1 : Int32)), .val (.int (2 : Int32)), .val (.int (3 : Int32)), .val (.int (1 : Int32))] [(.int (1 : Int32))]))
        exact Own.ireturn X85 hx hk hret (by simp) rfl (hb hby at_347) e85 ⟨rfl, N85⟩ (by decide) (by decide)
    · refine Own.istore X64 hx (pc := 105) #[.val (.int sh), .val (.int pk), .val (.int pl), .val (.ref b1), .val (.int (1 : Int32)), .val (.int (2 : Int32)), .val (.int (3 : Int32)), .val (.ref b6), .val (.int (3 : Int32)), .val (.int (1 : Int32)), .unset, .unset, .unset, .unset, .unset, .unset, .unset, .unset, .unset, .unset] (hb hby at_105) rfl ?_
      refine Own.iload X64 hx (pc := 107) (hb hby at_107) rfl ?_
      refine Own.iload X64 hx (pc := 109) (hb hby at_109) rfl ?_
      refine Own.icmpYes X64 hx (pc := 111) 143 (hb hby at_111) (by decide) (by decide) (by decide) ?_
      refine Own.aload X64 hx (pc := 143) (hb hby at_143) rfl rfl ?_
      refine Own.iload X64 hx (pc := 145) (hb hby at_145) rfl ?_
      refine Own.iaload X64 hx hZ (pc := 147) e64 V_b6 (v := (.int (2 : Int32))) 1 (by decide) (by decide) rfl (hb hby at_147) ?_
      refine Own.istore X64 hx (pc := 148) #[.val (.int sh), .val (.int pk), .val (.int pl), .val (.ref b1), .val (.int (1 : Int32)), .val (.int (2 : Int32)), .val (.int (3 : Int32)), .val (.ref b6), .val (.int (3 : Int32)), .val (.int (1 : Int32)), .val (.int (2 : Int32)), .unset, .unset, .unset, .unset, .unset, .unset, .unset, .unset, .unset] (hb hby at_148) rfl ?_
      refine Own.aloadN X64 hx (pc := 150) (hb hby at_150) rfl rfl ?_
      refine Own.iload X64 hx (pc := 151) (hb hby at_151) rfl ?_
      refine Own.callVirtual X64 hx hZ (pc := 153) (y := (⟨"com/example/sprigdex/sprigdex/index/html/HtmlTree", "detach", "(I)V"⟩ : MethodName)) (z := (⟨"com/example/sprigdex/sprigdex/index/html/HtmlTree", "detach", "(I)V"⟩ : MethodName)) hown (Wd hw 103 rfl) (Wd hw 99 rfl) (Wd hw 101 rfl) (Wd hw 100 rfl) (Wd hw 2 rfl) (Wd hw 102 rfl) (Wd hw 101 rfl) (by decide) 0 b1 [(.int (2 : Int32))] [] E_b1 (rmD11 l Z a0 hw b1 (2 : Int32) pa_2 fc_2 la_2 pv_2 nx_2 ((.int (-1 : Int32)) :: (.int (0 : Int32)) :: (.int (0 : Int32)) :: (.int (0 : Int32)) :: own_tl) ((.int (1 : Int32)) :: (.int (-1 : Int32)) :: (.int (-1 : Int32)) :: (.int (-1 : Int32)) :: own_tl) ((.int (3 : Int32)) :: (.int (-1 : Int32)) :: (.int (-1 : Int32)) :: (.int (-1 : Int32)) :: own_tl) ((.int (-1 : Int32)) :: (.int (-1 : Int32)) :: (.int (1 : Int32)) :: (.int (2 : Int32)) :: own_tl) ((.int (-1 : Int32)) :: (.int (2 : Int32)) :: (.int (3 : Int32)) :: (.int (-1 : Int32)) :: own_tl) (0 : Int32) (1 : Int32) (3 : Int32) T64.heap n0 sz64 F_b1_parent F_b1_firstChild F_b1_lastChild F_b1_previousSibling F_b1_nextSibling V_pa_2 V_fc_2 V_la_2 V_pv_2 V_nx_2 ge_pa_2 ge_fc_2 ge_la_2 ge_pv_2 ge_nx_2 ne_b1_pa_2 ne_b1_fc_2 ne_b1_la_2 ne_b1_pv_2 ne_b1_nx_2 ne_pa_2_fc_2 ne_pa_2_la_2 ne_pa_2_pv_2 ne_pa_2_nx_2 ne_fc_2_la_2 ne_fc_2_pv_2 ne_fc_2_nx_2 ne_la_2_pv_2 ne_la_2_nx_2 ne_pv_2_nx_2 rfl rfl rfl rfl rfl (by decide) (by decide) (by decide) (by decide) (by decide) (by decide) (by decide) (by decide) rfl rfl rfl (by decide) (by decide) (by decide)) (by decide) (by decide) e64 (by rw [hml]; rfl) pd9 rfl rfl (Nat.le_of_eq rfl) (hb hby at_153) (by decide) (by decide) ?_
      intro T86 L86 v86 X86 hQ86
      obtain ⟨rfl, Nq86, K86, V_pa_2', V_fc_2', V_la_2', V_pv_2', V_nx_2'⟩ := hQ86
      have e86 : T86.heap = T86.heap := rfl
      have E_b1 := E_b1.keep K86
      have F_b1_parent := F_b1_parent.keep K86 (ninS ne_b1_pa_2 (ninS ne_b1_fc_2 (ninS ne_b1_la_2 (ninS ne_b1_pv_2 (ninS ne_b1_nx_2 nin0)))))
      have F_b1_firstChild := F_b1_firstChild.keep K86 (ninS ne_b1_pa_2 (ninS ne_b1_fc_2 (ninS ne_b1_la_2 (ninS ne_b1_pv_2 (ninS ne_b1_nx_2 nin0)))))
      have F_b1_lastChild := F_b1_lastChild.keep K86 (ninS ne_b1_pa_2 (ninS ne_b1_fc_2 (ninS ne_b1_la_2 (ninS ne_b1_pv_2 (ninS ne_b1_nx_2 nin0)))))
      have F_b1_previousSibling := F_b1_previousSibling.keep K86 (ninS ne_b1_pa_2 (ninS ne_b1_fc_2 (ninS ne_b1_la_2 (ninS ne_b1_pv_2 (ninS ne_b1_nx_2 nin0)))))
      have F_b1_nextSibling := F_b1_nextSibling.keep K86 (ninS ne_b1_pa_2 (ninS ne_b1_fc_2 (ninS ne_b1_la_2 (ninS ne_b1_pv_2 (ninS ne_b1_nx_2 nin0)))))
      have V_b6 := V_b6.keep K86 (ninS (Ne.symm ne_pa_2_b6) (ninS (Ne.symm ne_fc_2_b6) (ninS (Ne.symm ne_la_2_b6) (ninS (Ne.symm ne_pv_2_b6) (ninS (Ne.symm ne_nx_2_b6) nin0)))))
      have sz86 : n0 ≤ T86.heap.size := Nat.le_trans sz64 K86.1
      have V_pa_2 : Own.VArr Z T86.heap pa_2 .int ((.int (-1 : Int32)) :: (.int (0 : Int32)) :: (.int (-1 : Int32)) :: (.int (0 : Int32)) :: own_tl) := V_pa_2'
      have V_fc_2 : Own.VArr Z T86.heap fc_2 .int ((.int (1 : Int32)) :: (.int (-1 : Int32)) :: (.int (-1 : Int32)) :: (.int (-1 : Int32)) :: own_tl) := V_fc_2'
      have V_la_2 : Own.VArr Z T86.heap la_2 .int ((.int (3 : Int32)) :: (.int (-1 : Int32)) :: (.int (-1 : Int32)) :: (.int (-1 : Int32)) :: own_tl) := V_la_2'
      have V_pv_2 : Own.VArr Z T86.heap pv_2 .int ((.int (-1 : Int32)) :: (.int (-1 : Int32)) :: (.int (-1 : Int32)) :: (.int (1 : Int32)) :: own_tl) := V_pv_2'
      have V_nx_2 : Own.VArr Z T86.heap nx_2 .int ((.int (-1 : Int32)) :: (.int (3 : Int32)) :: (.int (-1 : Int32)) :: (.int (-1 : Int32)) :: own_tl) := V_nx_2'
      have N86 := Fr.app N64 Nq86
      show Own.Go p e below _ (T86.setTop (mkF m 156 #[.val (.int sh), .val (.int pk), .val (.int pl), .val (.ref b1), .val (.int (1 : Int32)), .val (.int (2 : Int32)), .val (.int (3 : Int32)), .val (.ref b6), .val (.int (3 : Int32)), .val (.int (1 : Int32)), .val (.int (2 : Int32)), .unset, .unset, .unset, .unset, .unset, .unset, .unset, .unset, .unset] []))
      refine Own.aloadN X86 hx (pc := 156) (hb hby at_156) rfl rfl ?_
      refine Own.iload X86 hx (pc := 157) (hb hby at_157) rfl ?_
      refine Own.callVirtual X86 hx hZ (pc := 159) (y := (⟨"com/example/sprigdex/sprigdex/index/html/HtmlTree", "parent", "(I)I"⟩ : MethodName)) (z := (⟨"com/example/sprigdex/sprigdex/index/html/HtmlTree", "parent", "(I)I"⟩ : MethodName)) hown (Wd hw 104 rfl) (Wd hw 105 rfl) (Wd hw 107 rfl) (Wd hw 106 rfl) (Wd hw 2 rfl) (Wd hw 108 rfl) (Wd hw 107 rfl) (by decide) 0 b1 [(.int (2 : Int32))] [] E_b1 (rm14 l Z a0 hw b1 (2 : Int32) pa_2 ((.int (-1 : Int32)) :: (.int (0 : Int32)) :: (.int (-1 : Int32)) :: (.int (0 : Int32)) :: own_tl) (-1 : Int32) T86.heap n0 sz86 F_b1_parent V_pa_2 (by decide) rfl) (by decide) (by decide) e86 (by rw [hml]; rfl) pd7 rfl rfl (Nat.le_of_eq rfl) (hb hby at_159) (by decide) (by decide) ?_
      intro T87 L87 v87 X87 hQ87
      obtain ⟨rfl, Nq87, e87⟩ := hQ87
      have N87 := Fr.app N86 Nq87
      show Own.Go p e below _ (T87.setTop (mkF m 162 #[.val (.int sh), .val (.int pk), .val (.int pl), .val (.ref b1), .val (.int (1 : Int32)), .val (.int (2 : Int32)), .val (.int (3 : Int32)), .val (.ref b6), .val (.int (3 : Int32)), .val (.int (1 : Int32)), .val (.int (2 : Int32)), .unset, .unset, .unset, .unset, .unset, .unset, .unset, .unset, .unset] [(.int (-1 : Int32))]))
      refine Own.iconst X87 hx (pc := 162) (-1 : Int32) (hb hby at_162) (by decide) ?_
      refine Own.icmpYes X87 hx (pc := 163) 168 (hb hby at_163) (by decide) (by decide) (by decide) ?_
      refine Own.aloadN X87 hx (pc := 168) (hb hby at_168) rfl rfl ?_
      refine Own.iload X87 hx (pc := 169) (hb hby at_169) rfl ?_
      refine Own.callVirtual X87 hx hZ (pc := 171) (y := (⟨"com/example/sprigdex/sprigdex/index/html/HtmlTree", "nextSibling", "(I)I"⟩ : MethodName)) (z := (⟨"com/example/sprigdex/sprigdex/index/html/HtmlTree", "nextSibling", "(I)I"⟩ : MethodName)) hown (Wd hw 118 rfl) (Wd hw 119 rfl) (Wd hw 121 rfl) (Wd hw 120 rfl) (Wd hw 2 rfl) (Wd hw 122 rfl) (Wd hw 121 rfl) (by decide) 0 b1 [(.int (2 : Int32))] [] E_b1 (rm17 l Z a0 hw b1 (2 : Int32) nx_2 ((.int (-1 : Int32)) :: (.int (3 : Int32)) :: (.int (-1 : Int32)) :: (.int (-1 : Int32)) :: own_tl) (-1 : Int32) T86.heap n0 sz86 F_b1_nextSibling V_nx_2 (by decide) rfl) (by decide) (by decide) e87 (by rw [hml]; rfl) pd7 rfl rfl (Nat.le_of_eq rfl) (hb hby at_171) (by decide) (by decide) ?_
      intro T88 L88 v88 X88 hQ88
      obtain ⟨rfl, Nq88, e88⟩ := hQ88
      have N88 := Fr.app N87 Nq88
      show Own.Go p e below _ (T88.setTop (mkF m 174 #[.val (.int sh), .val (.int pk), .val (.int pl), .val (.ref b1), .val (.int (1 : Int32)), .val (.int (2 : Int32)), .val (.int (3 : Int32)), .val (.ref b6), .val (.int (3 : Int32)), .val (.int (1 : Int32)), .val (.int (2 : Int32)), .unset, .unset, .unset, .unset, .unset, .unset, .unset, .unset, .unset] [(.int (-1 : Int32))]))
      refine Own.iconst X88 hx (pc := 174) (-1 : Int32) (hb hby at_174) (by decide) ?_
      refine Own.icmpYes X88 hx (pc := 175) 180 (hb hby at_175) (by decide) (by decide) (by decide) ?_
      refine Own.iload X88 hx (pc := 180) (hb hby at_180) rfl ?_
      refine Own.iconst X88 hx (pc := 182) (1 : Int32) (hb hby at_182) (by decide) ?_
      refine Own.isub X88 hx (pc := 183) (hb hby at_183) ?_
      refine Own.topI (show ((3 : Int32) - (1 : Int32)) = (2 : Int32) by decide) ?_
      refine Own.istore X88 hx (pc := 184) #[.val (.int sh), .val (.int pk), .val (.int pl), .val (.ref b1), .val (.int (1 : Int32)), .val (.int (2 : Int32)), .val (.int (3 : Int32)), .val (.ref b6), .val (.int (3 : Int32)), .val (.int (1 : Int32)), .val (.int (2 : Int32)), .val (.int (2 : Int32)), .unset, .unset, .unset, .unset, .unset, .unset, .unset, .unset] (hb hby at_184) rfl ?_
      refine Own.iload X88 hx (pc := 186) (hb hby at_186) rfl ?_
      refine Own.ifYes X88 hx (pc := 188) 198 (hb hby at_188) (by decide) (by decide) (by decide) ?_
      refine Own.aload X88 hx (pc := 198) (hb hby at_198) rfl rfl ?_
      refine Own.iconst X88 hx (pc := 200) (0 : Int32) (hb hby at_200) (by decide) ?_
      refine Own.iaload X88 hx hZ (pc := 201) e88 V_b6 (v := (.int (1 : Int32))) 0 (by decide) (by decide) rfl (hb hby at_201) ?_
      refine Own.istore X88 hx (pc := 202) #[.val (.int sh), .val (.int pk), .val (.int pl), .val (.ref b1), .val (.int (1 : Int32)), .val (.int (2 : Int32)), .val (.int (3 : Int32)), .val (.ref b6), .val (.int (3 : Int32)), .val (.int (1 : Int32)), .val (.int (2 : Int32)), .val (.int (2 : Int32)), .val (.int (1 : Int32)), .unset, .unset, .unset, .unset, .unset, .unset, .unset] (hb hby at_202) rfl ?_
      refine Own.iload X88 hx (pc := 204) (hb hby at_204) rfl ?_
      refine Own.iconst X88 hx (pc := 206) (1 : Int32) (hb hby at_206) (by decide) ?_
      refine Own.icmpNo X88 hx (pc := 207) (hb hby at_207) (by decide) ?_
      refine Own.aload X88 hx (pc := 210) (hb hby at_210) rfl rfl ?_
      refine Own.iconst X88 hx (pc := 212) (2 : Int32) (hb hby at_212) (by decide) ?_
      refine Own.iaload X88 hx hZ (pc := 213) e88 V_b6 (v := (.int (3 : Int32))) 2 (by decide) (by decide) rfl (hb hby at_213) ?_
      refine Own.goto X88 hx (pc := 214) 221 (hb hby at_214) (by decide) (by decide) ?_
      refine Own.istore X88 hx (pc := 221) #[.val (.int sh), .val (.int pk), .val (.int pl), .val (.ref b1), .val (.int (1 : Int32)), .val (.int (2 : Int32)), .val (.int (3 : Int32)), .val (.ref b6), .val (.int (3 : Int32)), .val (.int (1 : Int32)), .val (.int (2 : Int32)), .val (.int (2 : Int32)), .val (.int (1 : Int32)), .val (.int (3 : Int32)), .unset, .unset, .unset, .unset, .unset, .unset] (hb hby at_221) rfl ?_
      refine Own.iload X88 hx (pc := 223) (hb hby at_223) rfl ?_
      refine Own.ifYes X88 hx (pc := 225) 232 (hb hby at_225) (by decide) (by decide) (by decide) ?_
      refine Own.iload X88 hx (pc := 232) (hb hby at_232) rfl ?_
      refine Own.istore X88 hx (pc := 234) #[.val (.int sh), .val (.int pk), .val (.int pl), .val (.ref b1), .val (.int (1 : Int32)), .val (.int (2 : Int32)), .val (.int (3 : Int32)), .val (.ref b6), .val (.int (3 : Int32)), .val (.int (1 : Int32)), .val (.int (2 : Int32)), .val (.int (2 : Int32)), .val (.int (1 : Int32)), .val (.int (3 : Int32)), .val (.int (1 : Int32)), .unset, .unset, .unset, .unset, .unset] (hb hby at_234) rfl ?_
      refine Own.aloadN X88 hx (pc := 236) (hb hby at_236) rfl rfl ?_
      refine Own.iconst X88 hx (pc := 237) (0 : Int32) (hb hby at_237) (by decide) ?_
      refine Own.callVirtual X88 hx hZ (pc := 238) (y := (⟨"com/example/sprigdex/sprigdex/index/html/HtmlTree", "firstChild", "(I)I"⟩ : MethodName)) (z := (⟨"com/example/sprigdex/sprigdex/index/html/HtmlTree", "firstChild", "(I)I"⟩ : MethodName)) hown (Wd hw 113 rfl) (Wd hw 114 rfl) (Wd hw 116 rfl) (Wd hw 115 rfl) (Wd hw 2 rfl) (Wd hw 117 rfl) (Wd hw 116 rfl) (by decide) 0 b1 [(.int (0 : Int32))] [] E_b1 (rm16 l Z a0 hw b1 (0 : Int32) fc_2 ((.int (1 : Int32)) :: (.int (-1 : Int32)) :: (.int (-1 : Int32)) :: (.int (-1 : Int32)) :: own_tl) (1 : Int32) T86.heap n0 sz86 F_b1_firstChild V_fc_2 (by decide) rfl) (by decide) (by decide) e88 (by rw [hml]; rfl) pd7 rfl rfl (Nat.le_of_eq rfl) (hb hby at_238) (by decide) (by decide) ?_
      intro T89 L89 v89 X89 hQ89
      obtain ⟨rfl, Nq89, e89⟩ := hQ89
      have N89 := Fr.app N88 Nq89
      show Own.Go p e below _ (T89.setTop (mkF m 241 #[.val (.int sh), .val (.int pk), .val (.int pl), .val (.ref b1), .val (.int (1 : Int32)), .val (.int (2 : Int32)), .val (.int (3 : Int32)), .val (.ref b6), .val (.int (3 : Int32)), .val (.int (1 : Int32)), .val (.int (2 : Int32)), .val (.int (2 : Int32)), .val (.int (1 : Int32)), .val (.int (3 : Int32)), .val (.int (1 : Int32)), .unset, .unset, .unset, .unset, .unset] [(.int (1 : Int32))]))
      refine Own.iload X89 hx (pc := 241) (hb hby at_241) rfl ?_
      refine Own.icmpYes X89 hx (pc := 243) 248 (hb hby at_243) (by decide) (by decide) (by decide) ?_
      refine Own.iloadN X89 hx (pc := 248) (hb hby at_248) rfl ?_
      refine Own.ldcI X89 hx hZ (pc := 249) hown (Wd hw 92 rfl) (hb hby at_249) ?_
      refine Own.iand X89 hx (pc := 251) (hb hby at_251) ?_
      refine Own.iload X89 hx (pc := 252) (hb hby at_252) rfl ?_
      refine Own.iconst X89 hx (pc := 254) (1 : Int32) (hb hby at_254) (by decide) ?_
      refine Own.iadd X89 hx (pc := 255) (hb hby at_255) ?_
      refine Own.topI (show ((2 : Int32) + (1 : Int32)) = (3 : Int32) by decide) ?_
      refine Own.irem X89 hx (pc := 256) (hb hby at_256) (by decide) ?_
      generalize qj90 : ((pl &&& (2147483647 : Int32)) % (3 : Int32)) = j90
      rcases own_c3 _ qj90 with rfl | rfl | rfl
      · refine Own.istore X89 hx (pc := 257) #[.val (.int sh), .val (.int pk), .val (.int pl), .val (.ref b1), .val (.int (1 : Int32)), .val (.int (2 : Int32)), .val (.int (3 : Int32)), .val (.ref b6), .val (.int (3 : Int32)), .val (.int (1 : Int32)), .val (.int (2 : Int32)), .val (.int (2 : Int32)), .val (.int (1 : Int32)), .val (.int (3 : Int32)), .val (.int (1 : Int32)), .val (.int (0 : Int32)), .unset, .unset, .unset, .unset] (hb hby at_257) rfl ?_
        refine Own.iload X89 hx (pc := 259) (hb hby at_259) rfl ?_
        refine Own.iload X89 hx (pc := 261) (hb hby at_261) rfl ?_
        refine Own.icmpYes X89 hx (pc := 263) 270 (hb hby at_263) (by decide) (by decide) (by decide) ?_
        refine Own.iload X89 hx (pc := 270) (hb hby at_270) rfl ?_
        refine Own.ifNo X89 hx (pc := 272) (hb hby at_272) (by decide) ?_
        refine Own.iload X89 hx (pc := 275) (hb hby at_275) rfl ?_
        refine Own.goto X89 hx (pc := 277) 282 (hb hby at_277) (by decide) (by decide) ?_
        refine Own.istore X89 hx (pc := 282) #[.val (.int sh), .val (.int pk), .val (.int pl), .val (.ref b1), .val (.int (1 : Int32)), .val (.int (2 : Int32)), .val (.int (3 : Int32)), .val (.ref b6), .val (.int (3 : Int32)), .val (.int (1 : Int32)), .val (.int (2 : Int32)), .val (.int (2 : Int32)), .val (.int (1 : Int32)), .val (.int (3 : Int32)), .val (.int (1 : Int32)), .val (.int (0 : Int32)), .val (.int (1 : Int32)), .unset, .unset, .unset] (hb hby at_282) rfl ?_
        refine Own.aloadN X89 hx (pc := 284) (hb hby at_284) rfl rfl ?_
        refine Own.iconst X89 hx (pc := 285) (0 : Int32) (hb hby at_285) (by decide) ?_
        refine Own.iload X89 hx (pc := 286) (hb hby at_286) rfl ?_
        refine Own.iload X89 hx (pc := 288) (hb hby at_288) rfl ?_
        refine Own.callVirtual X89 hx hZ (pc := 290) (y := (⟨"com/example/sprigdex/sprigdex/index/html/HtmlTree", "insert", "(III)V"⟩ : MethodName)) (z := (⟨"com/example/sprigdex/sprigdex/index/html/HtmlTree", "insert", "(III)V"⟩ : MethodName)) hown (Wd hw 93 rfl) (Wd hw 94 rfl) (Wd hw 96 rfl) (Wd hw 95 rfl) (Wd hw 2 rfl) (Wd hw 97 rfl) (Wd hw 96 rfl) (by decide) 0 b1 [(.int (0 : Int32)), (.int (2 : Int32)), (.int (1 : Int32))] [] E_b1 (rmI10 l Z a0 hw b1 (0 : Int32) (2 : Int32) (1 : Int32) pa_2 fc_2 la_2 pv_2 nx_2 ((.int (-1 : Int32)) :: (.int (0 : Int32)) :: (.int (-1 : Int32)) :: (.int (0 : Int32)) :: own_tl) ((.int (1 : Int32)) :: (.int (-1 : Int32)) :: (.int (-1 : Int32)) :: (.int (-1 : Int32)) :: own_tl) ((.int (3 : Int32)) :: (.int (-1 : Int32)) :: (.int (-1 : Int32)) :: (.int (-1 : Int32)) :: own_tl) ((.int (-1 : Int32)) :: (.int (-1 : Int32)) :: (.int (-1 : Int32)) :: (.int (1 : Int32)) :: own_tl) ((.int (-1 : Int32)) :: (.int (3 : Int32)) :: (.int (-1 : Int32)) :: (.int (-1 : Int32)) :: own_tl) T86.heap n0 sz86 E_b1 F_b1_parent F_b1_firstChild F_b1_lastChild F_b1_previousSibling F_b1_nextSibling V_pa_2 V_fc_2 V_la_2 V_pv_2 V_nx_2 ge_pa_2 ge_fc_2 ge_la_2 ge_pv_2 ge_nx_2 ne_b1_pa_2 ne_b1_fc_2 ne_b1_la_2 ne_b1_pv_2 ne_b1_nx_2 ne_pa_2_fc_2 ne_pa_2_la_2 ne_pa_2_pv_2 ne_pa_2_nx_2 ne_fc_2_la_2 ne_fc_2_pv_2 ne_fc_2_nx_2 ne_la_2_pv_2 ne_la_2_nx_2 ne_pv_2_nx_2 rfl rfl rfl rfl rfl (by decide) (by decide) (by decide) (by decide) (by decide) (by decide) rfl rfl (by decide)) (by decide) (by decide) e89 (by rw [hml]; rfl) pd11 rfl rfl (Nat.le_of_eq rfl) (hb hby at_290) (by decide) (by decide) ?_
        intro T91 L91 v91 X91 hQ91
        obtain ⟨rfl, Nq91, K91, V_pa_2', V_fc_2', V_la_2', V_pv_2', V_nx_2'⟩ := hQ91
        have e91 : T91.heap = T91.heap := rfl
        have E_b1 := E_b1.keep K91
        have F_b1_parent := F_b1_parent.keep K91 (ninS ne_b1_pa_2 (ninS ne_b1_fc_2 (ninS ne_b1_la_2 (ninS ne_b1_pv_2 (ninS ne_b1_nx_2 nin0)))))
        have F_b1_firstChild := F_b1_firstChild.keep K91 (ninS ne_b1_pa_2 (ninS ne_b1_fc_2 (ninS ne_b1_la_2 (ninS ne_b1_pv_2 (ninS ne_b1_nx_2 nin0)))))
        have F_b1_lastChild := F_b1_lastChild.keep K91 (ninS ne_b1_pa_2 (ninS ne_b1_fc_2 (ninS ne_b1_la_2 (ninS ne_b1_pv_2 (ninS ne_b1_nx_2 nin0)))))
        have F_b1_previousSibling := F_b1_previousSibling.keep K91 (ninS ne_b1_pa_2 (ninS ne_b1_fc_2 (ninS ne_b1_la_2 (ninS ne_b1_pv_2 (ninS ne_b1_nx_2 nin0)))))
        have F_b1_nextSibling := F_b1_nextSibling.keep K91 (ninS ne_b1_pa_2 (ninS ne_b1_fc_2 (ninS ne_b1_la_2 (ninS ne_b1_pv_2 (ninS ne_b1_nx_2 nin0)))))
        have V_b6 := V_b6.keep K91 (ninS (Ne.symm ne_pa_2_b6) (ninS (Ne.symm ne_fc_2_b6) (ninS (Ne.symm ne_la_2_b6) (ninS (Ne.symm ne_pv_2_b6) (ninS (Ne.symm ne_nx_2_b6) nin0)))))
        have sz91 : n0 ≤ T91.heap.size := Nat.le_trans sz86 K91.1
        have V_pa_2 : Own.VArr Z T91.heap pa_2 .int ((.int (-1 : Int32)) :: (.int (0 : Int32)) :: (.int (0 : Int32)) :: (.int (0 : Int32)) :: own_tl) := V_pa_2'
        have V_fc_2 : Own.VArr Z T91.heap fc_2 .int ((.int (2 : Int32)) :: (.int (-1 : Int32)) :: (.int (-1 : Int32)) :: (.int (-1 : Int32)) :: own_tl) := V_fc_2'
        have V_la_2 : Own.VArr Z T91.heap la_2 .int ((.int (3 : Int32)) :: (.int (-1 : Int32)) :: (.int (-1 : Int32)) :: (.int (-1 : Int32)) :: own_tl) := V_la_2'
        have V_pv_2 : Own.VArr Z T91.heap pv_2 .int ((.int (-1 : Int32)) :: (.int (2 : Int32)) :: (.int (-1 : Int32)) :: (.int (1 : Int32)) :: own_tl) := V_pv_2'
        have V_nx_2 : Own.VArr Z T91.heap nx_2 .int ((.int (-1 : Int32)) :: (.int (3 : Int32)) :: (.int (1 : Int32)) :: (.int (-1 : Int32)) :: own_tl) := V_nx_2'
        have N91 := Fr.app N89 Nq91
        show Own.Go p e below _ (T91.setTop (mkF m 293 #[.val (.int sh), .val (.int pk), .val (.int pl), .val (.ref b1), .val (.int (1 : Int32)), .val (.int (2 : Int32)), .val (.int (3 : Int32)), .val (.ref b6), .val (.int (3 : Int32)), .val (.int (1 : Int32)), .val (.int (2 : Int32)), .val (.int (2 : Int32)), .val (.int (1 : Int32)), .val (.int (3 : Int32)), .val (.int (1 : Int32)), .val (.int (0 : Int32)), .val (.int (1 : Int32)), .unset, .unset, .unset] []))
        refine Own.iload X91 hx (pc := 293) (hb hby at_293) rfl ?_
        refine Own.iload X91 hx (pc := 295) (hb hby at_295) rfl ?_
        refine Own.iload X91 hx (pc := 297) (hb hby at_297) rfl ?_
        refine Own.iload X91 hx (pc := 299) (hb hby at_299) rfl ?_
        refine Own.iconst X91 hx (pc := 301) (0 : Int32) (hb hby at_301) (by decide) ?_
        refine Own.callStatic X91 hx hZ (pc := 302) (y := (⟨"com/example/sprigdex/sprigdex/index/html/HtmlTreeDetachPinLaw", "at", "(IIIII)I"⟩ : MethodName)) hown (Wd hw 123 rfl) (Wd hw 124 rfl) (Wd hw 111 rfl) (Wd hw 125 rfl) (by decide) 0 [(.int (1 : Int32)), (.int (3 : Int32)), (.int (2 : Int32)), (.int (0 : Int32)), (.int (0 : Int32))] [] (rm18 l Z a0 hw (1 : Int32) (3 : Int32) (2 : Int32) (0 : Int32) (0 : Int32) T91.heap n0 sz91 ) (by decide) (by decide) e91 (by rw [hml]; rfl) pd12 rfl rfl (Nat.le_of_eq rfl) (hb hby at_302) (by decide) (by decide) ?_
        intro T92 L92 v92 X92 hQ92
        obtain ⟨rfl, Nq92, e92⟩ := hQ92
        have N92 := Fr.app N91 Nq92
        show Own.Go p e below _ (T92.setTop (mkF m 305 #[.val (.int sh), .val (.int pk), .val (.int pl), .val (.ref b1), .val (.int (1 : Int32)), .val (.int (2 : Int32)), .val (.int (3 : Int32)), .val (.ref b6), .val (.int (3 : Int32)), .val (.int (1 : Int32)), .val (.int (2 : Int32)), .val (.int (2 : Int32)), .val (.int (1 : Int32)), .val (.int (3 : Int32)), .val (.int (1 : Int32)), .val (.int (0 : Int32)), .val (.int (1 : Int32)), .unset, .unset, .unset] [(.int (2 : Int32))]))
        refine Own.istore X92 hx (pc := 305) #[.val (.int sh), .val (.int pk), .val (.int pl), .val (.ref b1), .val (.int (1 : Int32)), .val (.int (2 : Int32)), .val (.int (3 : Int32)), .val (.ref b6), .val (.int (3 : Int32)), .val (.int (1 : Int32)), .val (.int (2 : Int32)), .val (.int (2 : Int32)), .val (.int (1 : Int32)), .val (.int (3 : Int32)), .val (.int (1 : Int32)), .val (.int (0 : Int32)), .val (.int (1 : Int32)), .val (.int (2 : Int32)), .unset, .unset] (hb hby at_305) rfl ?_
        refine Own.iload X92 hx (pc := 307) (hb hby at_307) rfl ?_
        refine Own.iload X92 hx (pc := 309) (hb hby at_309) rfl ?_
        refine Own.iload X92 hx (pc := 311) (hb hby at_311) rfl ?_
        refine Own.iload X92 hx (pc := 313) (hb hby at_313) rfl ?_
        refine Own.iconst X92 hx (pc := 315) (1 : Int32) (hb hby at_315) (by decide) ?_
        refine Own.callStatic X92 hx hZ (pc := 316) (y := (⟨"com/example/sprigdex/sprigdex/index/html/HtmlTreeDetachPinLaw", "at", "(IIIII)I"⟩ : MethodName)) hown (Wd hw 123 rfl) (Wd hw 124 rfl) (Wd hw 111 rfl) (Wd hw 125 rfl) (by decide) 0 [(.int (1 : Int32)), (.int (3 : Int32)), (.int (2 : Int32)), (.int (0 : Int32)), (.int (1 : Int32))] [] (rm18 l Z a0 hw (1 : Int32) (3 : Int32) (2 : Int32) (0 : Int32) (1 : Int32) T91.heap n0 sz91 ) (by decide) (by decide) e92 (by rw [hml]; rfl) pd12 rfl rfl (Nat.le_of_eq rfl) (hb hby at_316) (by decide) (by decide) ?_
        intro T93 L93 v93 X93 hQ93
        obtain ⟨rfl, Nq93, e93⟩ := hQ93
        have N93 := Fr.app N92 Nq93
        show Own.Go p e below _ (T93.setTop (mkF m 319 #[.val (.int sh), .val (.int pk), .val (.int pl), .val (.ref b1), .val (.int (1 : Int32)), .val (.int (2 : Int32)), .val (.int (3 : Int32)), .val (.ref b6), .val (.int (3 : Int32)), .val (.int (1 : Int32)), .val (.int (2 : Int32)), .val (.int (2 : Int32)), .val (.int (1 : Int32)), .val (.int (3 : Int32)), .val (.int (1 : Int32)), .val (.int (0 : Int32)), .val (.int (1 : Int32)), .val (.int (2 : Int32)), .unset, .unset] [(.int (1 : Int32))]))
        refine Own.istore X93 hx (pc := 319) #[.val (.int sh), .val (.int pk), .val (.int pl), .val (.ref b1), .val (.int (1 : Int32)), .val (.int (2 : Int32)), .val (.int (3 : Int32)), .val (.ref b6), .val (.int (3 : Int32)), .val (.int (1 : Int32)), .val (.int (2 : Int32)), .val (.int (2 : Int32)), .val (.int (1 : Int32)), .val (.int (3 : Int32)), .val (.int (1 : Int32)), .val (.int (0 : Int32)), .val (.int (1 : Int32)), .val (.int (2 : Int32)), .val (.int (1 : Int32)), .unset] (hb hby at_319) rfl ?_
        refine Own.iload X93 hx (pc := 321) (hb hby at_321) rfl ?_
        refine Own.iload X93 hx (pc := 323) (hb hby at_323) rfl ?_
        refine Own.iload X93 hx (pc := 325) (hb hby at_325) rfl ?_
        refine Own.iload X93 hx (pc := 327) (hb hby at_327) rfl ?_
        refine Own.iconst X93 hx (pc := 329) (2 : Int32) (hb hby at_329) (by decide) ?_
        refine Own.callStatic X93 hx hZ (pc := 330) (y := (⟨"com/example/sprigdex/sprigdex/index/html/HtmlTreeDetachPinLaw", "at", "(IIIII)I"⟩ : MethodName)) hown (Wd hw 123 rfl) (Wd hw 124 rfl) (Wd hw 111 rfl) (Wd hw 125 rfl) (by decide) 0 [(.int (1 : Int32)), (.int (3 : Int32)), (.int (2 : Int32)), (.int (0 : Int32)), (.int (2 : Int32))] [] (rm18 l Z a0 hw (1 : Int32) (3 : Int32) (2 : Int32) (0 : Int32) (2 : Int32) T91.heap n0 sz91 ) (by decide) (by decide) e93 (by rw [hml]; rfl) pd12 rfl rfl (Nat.le_of_eq rfl) (hb hby at_330) (by decide) (by decide) ?_
        intro T94 L94 v94 X94 hQ94
        obtain ⟨rfl, Nq94, e94⟩ := hQ94
        have N94 := Fr.app N93 Nq94
        show Own.Go p e below _ (T94.setTop (mkF m 333 #[.val (.int sh), .val (.int pk), .val (.int pl), .val (.ref b1), .val (.int (1 : Int32)), .val (.int (2 : Int32)), .val (.int (3 : Int32)), .val (.ref b6), .val (.int (3 : Int32)), .val (.int (1 : Int32)), .val (.int (2 : Int32)), .val (.int (2 : Int32)), .val (.int (1 : Int32)), .val (.int (3 : Int32)), .val (.int (1 : Int32)), .val (.int (0 : Int32)), .val (.int (1 : Int32)), .val (.int (2 : Int32)), .val (.int (1 : Int32)), .unset] [(.int (3 : Int32))]))
        refine Own.istore X94 hx (pc := 333) #[.val (.int sh), .val (.int pk), .val (.int pl), .val (.ref b1), .val (.int (1 : Int32)), .val (.int (2 : Int32)), .val (.int (3 : Int32)), .val (.ref b6), .val (.int (3 : Int32)), .val (.int (1 : Int32)), .val (.int (2 : Int32)), .val (.int (2 : Int32)), .val (.int (1 : Int32)), .val (.int (3 : Int32)), .val (.int (1 : Int32)), .val (.int (0 : Int32)), .val (.int (1 : Int32)), .val (.int (2 : Int32)), .val (.int (1 : Int32)), .val (.int (3 : Int32))] (hb hby at_333) rfl ?_
        refine Own.aloadN X94 hx (pc := 335) (hb hby at_335) rfl rfl ?_
        refine Own.iload X94 hx (pc := 336) (hb hby at_336) rfl ?_
        refine Own.iload X94 hx (pc := 338) (hb hby at_338) rfl ?_
        refine Own.iload X94 hx (pc := 340) (hb hby at_340) rfl ?_
        refine Own.iload X94 hx (pc := 342) (hb hby at_342) rfl ?_
        refine Own.callStatic X94 hx hZ (pc := 344) (y := (⟨"com/example/sprigdex/sprigdex/index/html/HtmlTreeDetachPinLaw", "chain", "(Lcom/example/sprigdex/sprigdex/index/html/HtmlTree;IIII)Z"⟩ : MethodName)) hown (Wd hw 109 rfl) (Wd hw 110 rfl) (Wd hw 111 rfl) (Wd hw 112 rfl) (by decide) 0 [(.ref b1), (.int (2 : Int32)), (.int (1 : Int32)), (.int (3 : Int32)), (.int (3 : Int32))] [] (rmC3 l Z a0 hw b1 (2 : Int32) (1 : Int32) (3 : Int32) pa_2 fc_2 nx_2 ((.int (-1 : Int32)) :: (.int (0 : Int32)) :: (.int (0 : Int32)) :: (.int (0 : Int32)) :: own_tl) ((.int (2 : Int32)) :: (.int (-1 : Int32)) :: (.int (-1 : Int32)) :: (.int (-1 : Int32)) :: own_tl) ((.int (-1 : Int32)) :: (.int (3 : Int32)) :: (.int (1 : Int32)) :: (.int (-1 : Int32)) :: own_tl) T91.heap n0 sz91 E_b1 F_b1_parent F_b1_firstChild F_b1_nextSibling V_pa_2 V_fc_2 V_nx_2 rfl (by decide) rfl rfl (by decide) rfl rfl (by decide) rfl rfl) (by decide) (by decide) e94 (by rw [hml]; rfl) pd13 rfl rfl (Nat.le_of_eq rfl) (hb hby at_344) (by decide) (by decide) ?_
        intro T95 L95 v95 X95 hQ95
        obtain ⟨rfl, Nq95, e95⟩ := hQ95
        have N95 := Fr.app N94 Nq95
        show Own.Go p e below _ (T95.setTop (mkF m 347 #[.val (.int sh), .val (.int pk), .val (.int pl), .val (.ref b1), .val (.int (1 : Int32)), .val (.int (2 : Int32)), .val (.int (3 : Int32)), .val (.ref b6), .val (.int (3 : Int32)), .val (.int (1 : Int32)), .val (.int (2 : Int32)), .val (.int (2 : Int32)), .val (.int (1 : Int32)), .val (.int (3 : Int32)), .val (.int (1 : Int32)), .val (.int (0 : Int32)), .val (.int (1 : Int32)), .val (.int (2 : Int32)), .val (.int (1 : Int32)), .val (.int (3 : Int32))] [(.int (1 : Int32))]))
        exact Own.ireturn X95 hx hk hret (by simp) rfl (hb hby at_347) e95 ⟨rfl, N95⟩ (by decide) (by decide)
      · refine Own.istore X89 hx (pc := 257) #[.val (.int sh), .val (.int pk), .val (.int pl), .val (.ref b1), .val (.int (1 : Int32)), .val (.int (2 : Int32)), .val (.int (3 : Int32)), .val (.ref b6), .val (.int (3 : Int32)), .val (.int (1 : Int32)), .val (.int (2 : Int32)), .val (.int (2 : Int32)), .val (.int (1 : Int32)), .val (.int (3 : Int32)), .val (.int (1 : Int32)), .val (.int (1 : Int32)), .unset, .unset, .unset, .unset] (hb hby at_257) rfl ?_
        refine Own.iload X89 hx (pc := 259) (hb hby at_259) rfl ?_
        refine Own.iload X89 hx (pc := 261) (hb hby at_261) rfl ?_
        refine Own.icmpYes X89 hx (pc := 263) 270 (hb hby at_263) (by decide) (by decide) (by decide) ?_
        refine Own.iload X89 hx (pc := 270) (hb hby at_270) rfl ?_
        refine Own.ifYes X89 hx (pc := 272) 280 (hb hby at_272) (by decide) (by decide) (by decide) ?_
        refine Own.iload X89 hx (pc := 280) (hb hby at_280) rfl ?_
        refine Own.istore X89 hx (pc := 282) #[.val (.int sh), .val (.int pk), .val (.int pl), .val (.ref b1), .val (.int (1 : Int32)), .val (.int (2 : Int32)), .val (.int (3 : Int32)), .val (.ref b6), .val (.int (3 : Int32)), .val (.int (1 : Int32)), .val (.int (2 : Int32)), .val (.int (2 : Int32)), .val (.int (1 : Int32)), .val (.int (3 : Int32)), .val (.int (1 : Int32)), .val (.int (1 : Int32)), .val (.int (3 : Int32)), .unset, .unset, .unset] (hb hby at_282) rfl ?_
        refine Own.aloadN X89 hx (pc := 284) (hb hby at_284) rfl rfl ?_
        refine Own.iconst X89 hx (pc := 285) (0 : Int32) (hb hby at_285) (by decide) ?_
        refine Own.iload X89 hx (pc := 286) (hb hby at_286) rfl ?_
        refine Own.iload X89 hx (pc := 288) (hb hby at_288) rfl ?_
        refine Own.callVirtual X89 hx hZ (pc := 290) (y := (⟨"com/example/sprigdex/sprigdex/index/html/HtmlTree", "insert", "(III)V"⟩ : MethodName)) (z := (⟨"com/example/sprigdex/sprigdex/index/html/HtmlTree", "insert", "(III)V"⟩ : MethodName)) hown (Wd hw 93 rfl) (Wd hw 94 rfl) (Wd hw 96 rfl) (Wd hw 95 rfl) (Wd hw 2 rfl) (Wd hw 97 rfl) (Wd hw 96 rfl) (by decide) 0 b1 [(.int (0 : Int32)), (.int (2 : Int32)), (.int (3 : Int32))] [] E_b1 (rmI11 l Z a0 hw b1 (0 : Int32) (2 : Int32) (3 : Int32) pa_2 fc_2 la_2 pv_2 nx_2 ((.int (-1 : Int32)) :: (.int (0 : Int32)) :: (.int (-1 : Int32)) :: (.int (0 : Int32)) :: own_tl) ((.int (1 : Int32)) :: (.int (-1 : Int32)) :: (.int (-1 : Int32)) :: (.int (-1 : Int32)) :: own_tl) ((.int (3 : Int32)) :: (.int (-1 : Int32)) :: (.int (-1 : Int32)) :: (.int (-1 : Int32)) :: own_tl) ((.int (-1 : Int32)) :: (.int (-1 : Int32)) :: (.int (-1 : Int32)) :: (.int (1 : Int32)) :: own_tl) ((.int (-1 : Int32)) :: (.int (3 : Int32)) :: (.int (-1 : Int32)) :: (.int (-1 : Int32)) :: own_tl) (1 : Int32) T86.heap n0 sz86 E_b1 F_b1_parent F_b1_firstChild F_b1_lastChild F_b1_previousSibling F_b1_nextSibling V_pa_2 V_fc_2 V_la_2 V_pv_2 V_nx_2 ge_pa_2 ge_fc_2 ge_la_2 ge_pv_2 ge_nx_2 ne_b1_pa_2 ne_b1_fc_2 ne_b1_la_2 ne_b1_pv_2 ne_b1_nx_2 ne_pa_2_fc_2 ne_pa_2_la_2 ne_pa_2_pv_2 ne_pa_2_nx_2 ne_fc_2_la_2 ne_fc_2_pv_2 ne_fc_2_nx_2 ne_la_2_pv_2 ne_la_2_nx_2 ne_pv_2_nx_2 rfl rfl rfl rfl rfl (by decide) (by decide) (by decide) (by decide) (by decide) (by decide) (by decide) (by decide) rfl rfl (by decide) (by decide)) (by decide) (by decide) e89 (by rw [hml]; rfl) pd11 rfl rfl (Nat.le_of_eq rfl) (hb hby at_290) (by decide) (by decide) ?_
        intro T96 L96 v96 X96 hQ96
        obtain ⟨rfl, Nq96, K96, V_pa_2', V_fc_2', V_la_2', V_pv_2', V_nx_2'⟩ := hQ96
        have e96 : T96.heap = T96.heap := rfl
        have E_b1 := E_b1.keep K96
        have F_b1_parent := F_b1_parent.keep K96 (ninS ne_b1_pa_2 (ninS ne_b1_fc_2 (ninS ne_b1_la_2 (ninS ne_b1_pv_2 (ninS ne_b1_nx_2 nin0)))))
        have F_b1_firstChild := F_b1_firstChild.keep K96 (ninS ne_b1_pa_2 (ninS ne_b1_fc_2 (ninS ne_b1_la_2 (ninS ne_b1_pv_2 (ninS ne_b1_nx_2 nin0)))))
        have F_b1_lastChild := F_b1_lastChild.keep K96 (ninS ne_b1_pa_2 (ninS ne_b1_fc_2 (ninS ne_b1_la_2 (ninS ne_b1_pv_2 (ninS ne_b1_nx_2 nin0)))))
        have F_b1_previousSibling := F_b1_previousSibling.keep K96 (ninS ne_b1_pa_2 (ninS ne_b1_fc_2 (ninS ne_b1_la_2 (ninS ne_b1_pv_2 (ninS ne_b1_nx_2 nin0)))))
        have F_b1_nextSibling := F_b1_nextSibling.keep K96 (ninS ne_b1_pa_2 (ninS ne_b1_fc_2 (ninS ne_b1_la_2 (ninS ne_b1_pv_2 (ninS ne_b1_nx_2 nin0)))))
        have V_b6 := V_b6.keep K96 (ninS (Ne.symm ne_pa_2_b6) (ninS (Ne.symm ne_fc_2_b6) (ninS (Ne.symm ne_la_2_b6) (ninS (Ne.symm ne_pv_2_b6) (ninS (Ne.symm ne_nx_2_b6) nin0)))))
        have sz96 : n0 ≤ T96.heap.size := Nat.le_trans sz86 K96.1
        have V_pa_2 : Own.VArr Z T96.heap pa_2 .int ((.int (-1 : Int32)) :: (.int (0 : Int32)) :: (.int (0 : Int32)) :: (.int (0 : Int32)) :: own_tl) := V_pa_2'
        have V_fc_2 : Own.VArr Z T96.heap fc_2 .int ((.int (1 : Int32)) :: (.int (-1 : Int32)) :: (.int (-1 : Int32)) :: (.int (-1 : Int32)) :: own_tl) := V_fc_2'
        have V_la_2 : Own.VArr Z T96.heap la_2 .int ((.int (3 : Int32)) :: (.int (-1 : Int32)) :: (.int (-1 : Int32)) :: (.int (-1 : Int32)) :: own_tl) := V_la_2'
        have V_pv_2 : Own.VArr Z T96.heap pv_2 .int ((.int (-1 : Int32)) :: (.int (-1 : Int32)) :: (.int (1 : Int32)) :: (.int (2 : Int32)) :: own_tl) := V_pv_2'
        have V_nx_2 : Own.VArr Z T96.heap nx_2 .int ((.int (-1 : Int32)) :: (.int (2 : Int32)) :: (.int (3 : Int32)) :: (.int (-1 : Int32)) :: own_tl) := V_nx_2'
        have N96 := Fr.app N89 Nq96
        show Own.Go p e below _ (T96.setTop (mkF m 293 #[.val (.int sh), .val (.int pk), .val (.int pl), .val (.ref b1), .val (.int (1 : Int32)), .val (.int (2 : Int32)), .val (.int (3 : Int32)), .val (.ref b6), .val (.int (3 : Int32)), .val (.int (1 : Int32)), .val (.int (2 : Int32)), .val (.int (2 : Int32)), .val (.int (1 : Int32)), .val (.int (3 : Int32)), .val (.int (1 : Int32)), .val (.int (1 : Int32)), .val (.int (3 : Int32)), .unset, .unset, .unset] []))
        refine Own.iload X96 hx (pc := 293) (hb hby at_293) rfl ?_
        refine Own.iload X96 hx (pc := 295) (hb hby at_295) rfl ?_
        refine Own.iload X96 hx (pc := 297) (hb hby at_297) rfl ?_
        refine Own.iload X96 hx (pc := 299) (hb hby at_299) rfl ?_
        refine Own.iconst X96 hx (pc := 301) (0 : Int32) (hb hby at_301) (by decide) ?_
        refine Own.callStatic X96 hx hZ (pc := 302) (y := (⟨"com/example/sprigdex/sprigdex/index/html/HtmlTreeDetachPinLaw", "at", "(IIIII)I"⟩ : MethodName)) hown (Wd hw 123 rfl) (Wd hw 124 rfl) (Wd hw 111 rfl) (Wd hw 125 rfl) (by decide) 0 [(.int (1 : Int32)), (.int (3 : Int32)), (.int (2 : Int32)), (.int (1 : Int32)), (.int (0 : Int32))] [] (rm18 l Z a0 hw (1 : Int32) (3 : Int32) (2 : Int32) (1 : Int32) (0 : Int32) T96.heap n0 sz96 ) (by decide) (by decide) e96 (by rw [hml]; rfl) pd12 rfl rfl (Nat.le_of_eq rfl) (hb hby at_302) (by decide) (by decide) ?_
        intro T97 L97 v97 X97 hQ97
        obtain ⟨rfl, Nq97, e97⟩ := hQ97
        have N97 := Fr.app N96 Nq97
        show Own.Go p e below _ (T97.setTop (mkF m 305 #[.val (.int sh), .val (.int pk), .val (.int pl), .val (.ref b1), .val (.int (1 : Int32)), .val (.int (2 : Int32)), .val (.int (3 : Int32)), .val (.ref b6), .val (.int (3 : Int32)), .val (.int (1 : Int32)), .val (.int (2 : Int32)), .val (.int (2 : Int32)), .val (.int (1 : Int32)), .val (.int (3 : Int32)), .val (.int (1 : Int32)), .val (.int (1 : Int32)), .val (.int (3 : Int32)), .unset, .unset, .unset] [(.int (1 : Int32))]))
        refine Own.istore X97 hx (pc := 305) #[.val (.int sh), .val (.int pk), .val (.int pl), .val (.ref b1), .val (.int (1 : Int32)), .val (.int (2 : Int32)), .val (.int (3 : Int32)), .val (.ref b6), .val (.int (3 : Int32)), .val (.int (1 : Int32)), .val (.int (2 : Int32)), .val (.int (2 : Int32)), .val (.int (1 : Int32)), .val (.int (3 : Int32)), .val (.int (1 : Int32)), .val (.int (1 : Int32)), .val (.int (3 : Int32)), .val (.int (1 : Int32)), .unset, .unset] (hb hby at_305) rfl ?_
        refine Own.iload X97 hx (pc := 307) (hb hby at_307) rfl ?_
        refine Own.iload X97 hx (pc := 309) (hb hby at_309) rfl ?_
        refine Own.iload X97 hx (pc := 311) (hb hby at_311) rfl ?_
        refine Own.iload X97 hx (pc := 313) (hb hby at_313) rfl ?_
        refine Own.iconst X97 hx (pc := 315) (1 : Int32) (hb hby at_315) (by decide) ?_
        refine Own.callStatic X97 hx hZ (pc := 316) (y := (⟨"com/example/sprigdex/sprigdex/index/html/HtmlTreeDetachPinLaw", "at", "(IIIII)I"⟩ : MethodName)) hown (Wd hw 123 rfl) (Wd hw 124 rfl) (Wd hw 111 rfl) (Wd hw 125 rfl) (by decide) 0 [(.int (1 : Int32)), (.int (3 : Int32)), (.int (2 : Int32)), (.int (1 : Int32)), (.int (1 : Int32))] [] (rm18 l Z a0 hw (1 : Int32) (3 : Int32) (2 : Int32) (1 : Int32) (1 : Int32) T96.heap n0 sz96 ) (by decide) (by decide) e97 (by rw [hml]; rfl) pd12 rfl rfl (Nat.le_of_eq rfl) (hb hby at_316) (by decide) (by decide) ?_
        intro T98 L98 v98 X98 hQ98
        obtain ⟨rfl, Nq98, e98⟩ := hQ98
        have N98 := Fr.app N97 Nq98
        show Own.Go p e below _ (T98.setTop (mkF m 319 #[.val (.int sh), .val (.int pk), .val (.int pl), .val (.ref b1), .val (.int (1 : Int32)), .val (.int (2 : Int32)), .val (.int (3 : Int32)), .val (.ref b6), .val (.int (3 : Int32)), .val (.int (1 : Int32)), .val (.int (2 : Int32)), .val (.int (2 : Int32)), .val (.int (1 : Int32)), .val (.int (3 : Int32)), .val (.int (1 : Int32)), .val (.int (1 : Int32)), .val (.int (3 : Int32)), .val (.int (1 : Int32)), .unset, .unset] [(.int (2 : Int32))]))
        refine Own.istore X98 hx (pc := 319) #[.val (.int sh), .val (.int pk), .val (.int pl), .val (.ref b1), .val (.int (1 : Int32)), .val (.int (2 : Int32)), .val (.int (3 : Int32)), .val (.ref b6), .val (.int (3 : Int32)), .val (.int (1 : Int32)), .val (.int (2 : Int32)), .val (.int (2 : Int32)), .val (.int (1 : Int32)), .val (.int (3 : Int32)), .val (.int (1 : Int32)), .val (.int (1 : Int32)), .val (.int (3 : Int32)), .val (.int (1 : Int32)), .val (.int (2 : Int32)), .unset] (hb hby at_319) rfl ?_
        refine Own.iload X98 hx (pc := 321) (hb hby at_321) rfl ?_
        refine Own.iload X98 hx (pc := 323) (hb hby at_323) rfl ?_
        refine Own.iload X98 hx (pc := 325) (hb hby at_325) rfl ?_
        refine Own.iload X98 hx (pc := 327) (hb hby at_327) rfl ?_
        refine Own.iconst X98 hx (pc := 329) (2 : Int32) (hb hby at_329) (by decide) ?_
        refine Own.callStatic X98 hx hZ (pc := 330) (y := (⟨"com/example/sprigdex/sprigdex/index/html/HtmlTreeDetachPinLaw", "at", "(IIIII)I"⟩ : MethodName)) hown (Wd hw 123 rfl) (Wd hw 124 rfl) (Wd hw 111 rfl) (Wd hw 125 rfl) (by decide) 0 [(.int (1 : Int32)), (.int (3 : Int32)), (.int (2 : Int32)), (.int (1 : Int32)), (.int (2 : Int32))] [] (rm18 l Z a0 hw (1 : Int32) (3 : Int32) (2 : Int32) (1 : Int32) (2 : Int32) T96.heap n0 sz96 ) (by decide) (by decide) e98 (by rw [hml]; rfl) pd12 rfl rfl (Nat.le_of_eq rfl) (hb hby at_330) (by decide) (by decide) ?_
        intro T99 L99 v99 X99 hQ99
        obtain ⟨rfl, Nq99, e99⟩ := hQ99
        have N99 := Fr.app N98 Nq99
        show Own.Go p e below _ (T99.setTop (mkF m 333 #[.val (.int sh), .val (.int pk), .val (.int pl), .val (.ref b1), .val (.int (1 : Int32)), .val (.int (2 : Int32)), .val (.int (3 : Int32)), .val (.ref b6), .val (.int (3 : Int32)), .val (.int (1 : Int32)), .val (.int (2 : Int32)), .val (.int (2 : Int32)), .val (.int (1 : Int32)), .val (.int (3 : Int32)), .val (.int (1 : Int32)), .val (.int (1 : Int32)), .val (.int (3 : Int32)), .val (.int (1 : Int32)), .val (.int (2 : Int32)), .unset] [(.int (3 : Int32))]))
        refine Own.istore X99 hx (pc := 333) #[.val (.int sh), .val (.int pk), .val (.int pl), .val (.ref b1), .val (.int (1 : Int32)), .val (.int (2 : Int32)), .val (.int (3 : Int32)), .val (.ref b6), .val (.int (3 : Int32)), .val (.int (1 : Int32)), .val (.int (2 : Int32)), .val (.int (2 : Int32)), .val (.int (1 : Int32)), .val (.int (3 : Int32)), .val (.int (1 : Int32)), .val (.int (1 : Int32)), .val (.int (3 : Int32)), .val (.int (1 : Int32)), .val (.int (2 : Int32)), .val (.int (3 : Int32))] (hb hby at_333) rfl ?_
        refine Own.aloadN X99 hx (pc := 335) (hb hby at_335) rfl rfl ?_
        refine Own.iload X99 hx (pc := 336) (hb hby at_336) rfl ?_
        refine Own.iload X99 hx (pc := 338) (hb hby at_338) rfl ?_
        refine Own.iload X99 hx (pc := 340) (hb hby at_340) rfl ?_
        refine Own.iload X99 hx (pc := 342) (hb hby at_342) rfl ?_
        refine Own.callStatic X99 hx hZ (pc := 344) (y := (⟨"com/example/sprigdex/sprigdex/index/html/HtmlTreeDetachPinLaw", "chain", "(Lcom/example/sprigdex/sprigdex/index/html/HtmlTree;IIII)Z"⟩ : MethodName)) hown (Wd hw 109 rfl) (Wd hw 110 rfl) (Wd hw 111 rfl) (Wd hw 112 rfl) (by decide) 0 [(.ref b1), (.int (1 : Int32)), (.int (2 : Int32)), (.int (3 : Int32)), (.int (3 : Int32))] [] (rmC3 l Z a0 hw b1 (1 : Int32) (2 : Int32) (3 : Int32) pa_2 fc_2 nx_2 ((.int (-1 : Int32)) :: (.int (0 : Int32)) :: (.int (0 : Int32)) :: (.int (0 : Int32)) :: own_tl) ((.int (1 : Int32)) :: (.int (-1 : Int32)) :: (.int (-1 : Int32)) :: (.int (-1 : Int32)) :: own_tl) ((.int (-1 : Int32)) :: (.int (2 : Int32)) :: (.int (3 : Int32)) :: (.int (-1 : Int32)) :: own_tl) T96.heap n0 sz96 E_b1 F_b1_parent F_b1_firstChild F_b1_nextSibling V_pa_2 V_fc_2 V_nx_2 rfl (by decide) rfl rfl (by decide) rfl rfl (by decide) rfl rfl) (by decide) (by decide) e99 (by rw [hml]; rfl) pd13 rfl rfl (Nat.le_of_eq rfl) (hb hby at_344) (by decide) (by decide) ?_
        intro T100 L100 v100 X100 hQ100
        obtain ⟨rfl, Nq100, e100⟩ := hQ100
        have N100 := Fr.app N99 Nq100
        show Own.Go p e below _ (T100.setTop (mkF m 347 #[.val (.int sh), .val (.int pk), .val (.int pl), .val (.ref b1), .val (.int (1 : Int32)), .val (.int (2 : Int32)), .val (.int (3 : Int32)), .val (.ref b6), .val (.int (3 : Int32)), .val (.int (1 : Int32)), .val (.int (2 : Int32)), .val (.int (2 : Int32)), .val (.int (1 : Int32)), .val (.int (3 : Int32)), .val (.int (1 : Int32)), .val (.int (1 : Int32)), .val (.int (3 : Int32)), .val (.int (1 : Int32)), .val (.int (2 : Int32)), .val (.int (3 : Int32))] [(.int (1 : Int32))]))
        exact Own.ireturn X100 hx hk hret (by simp) rfl (hb hby at_347) e100 ⟨rfl, N100⟩ (by decide) (by decide)
      · refine Own.istore X89 hx (pc := 257) #[.val (.int sh), .val (.int pk), .val (.int pl), .val (.ref b1), .val (.int (1 : Int32)), .val (.int (2 : Int32)), .val (.int (3 : Int32)), .val (.ref b6), .val (.int (3 : Int32)), .val (.int (1 : Int32)), .val (.int (2 : Int32)), .val (.int (2 : Int32)), .val (.int (1 : Int32)), .val (.int (3 : Int32)), .val (.int (1 : Int32)), .val (.int (2 : Int32)), .unset, .unset, .unset, .unset] (hb hby at_257) rfl ?_
        refine Own.iload X89 hx (pc := 259) (hb hby at_259) rfl ?_
        refine Own.iload X89 hx (pc := 261) (hb hby at_261) rfl ?_
        refine Own.icmpNo X89 hx (pc := 263) (hb hby at_263) (by decide) ?_
        refine Own.iconst X89 hx (pc := 266) (-1 : Int32) (hb hby at_266) (by decide) ?_
        refine Own.goto X89 hx (pc := 267) 282 (hb hby at_267) (by decide) (by decide) ?_
        refine Own.istore X89 hx (pc := 282) #[.val (.int sh), .val (.int pk), .val (.int pl), .val (.ref b1), .val (.int (1 : Int32)), .val (.int (2 : Int32)), .val (.int (3 : Int32)), .val (.ref b6), .val (.int (3 : Int32)), .val (.int (1 : Int32)), .val (.int (2 : Int32)), .val (.int (2 : Int32)), .val (.int (1 : Int32)), .val (.int (3 : Int32)), .val (.int (1 : Int32)), .val (.int (2 : Int32)), .val (.int (-1 : Int32)), .unset, .unset, .unset] (hb hby at_282) rfl ?_
        refine Own.aloadN X89 hx (pc := 284) (hb hby at_284) rfl rfl ?_
        refine Own.iconst X89 hx (pc := 285) (0 : Int32) (hb hby at_285) (by decide) ?_
        refine Own.iload X89 hx (pc := 286) (hb hby at_286) rfl ?_
        refine Own.iload X89 hx (pc := 288) (hb hby at_288) rfl ?_
        refine Own.callVirtual X89 hx hZ (pc := 290) (y := (⟨"com/example/sprigdex/sprigdex/index/html/HtmlTree", "insert", "(III)V"⟩ : MethodName)) (z := (⟨"com/example/sprigdex/sprigdex/index/html/HtmlTree", "insert", "(III)V"⟩ : MethodName)) hown (Wd hw 93 rfl) (Wd hw 94 rfl) (Wd hw 96 rfl) (Wd hw 95 rfl) (Wd hw 2 rfl) (Wd hw 97 rfl) (Wd hw 96 rfl) (by decide) 0 b1 [(.int (0 : Int32)), (.int (2 : Int32)), (.int (-1 : Int32))] [] E_b1 (rmI01 l Z a0 hw b1 (0 : Int32) (2 : Int32) pa_2 fc_2 la_2 pv_2 nx_2 ((.int (-1 : Int32)) :: (.int (0 : Int32)) :: (.int (-1 : Int32)) :: (.int (0 : Int32)) :: own_tl) ((.int (1 : Int32)) :: (.int (-1 : Int32)) :: (.int (-1 : Int32)) :: (.int (-1 : Int32)) :: own_tl) ((.int (3 : Int32)) :: (.int (-1 : Int32)) :: (.int (-1 : Int32)) :: (.int (-1 : Int32)) :: own_tl) ((.int (-1 : Int32)) :: (.int (-1 : Int32)) :: (.int (-1 : Int32)) :: (.int (1 : Int32)) :: own_tl) ((.int (-1 : Int32)) :: (.int (3 : Int32)) :: (.int (-1 : Int32)) :: (.int (-1 : Int32)) :: own_tl) (3 : Int32) T86.heap n0 sz86 E_b1 F_b1_parent F_b1_firstChild F_b1_lastChild F_b1_previousSibling F_b1_nextSibling V_pa_2 V_fc_2 V_la_2 V_pv_2 V_nx_2 ge_pa_2 ge_fc_2 ge_la_2 ge_pv_2 ge_nx_2 ne_b1_pa_2 ne_b1_fc_2 ne_b1_la_2 ne_b1_pv_2 ne_b1_nx_2 ne_pa_2_fc_2 ne_pa_2_la_2 ne_pa_2_pv_2 ne_pa_2_nx_2 ne_fc_2_la_2 ne_fc_2_pv_2 ne_fc_2_nx_2 ne_la_2_pv_2 ne_la_2_nx_2 ne_pv_2_nx_2 rfl rfl rfl rfl rfl (by decide) (by decide) (by decide) (by decide) (by decide) (by decide) rfl rfl (by decide)) (by decide) (by decide) e89 (by rw [hml]; rfl) pd11 rfl rfl (Nat.le_of_eq rfl) (hb hby at_290) (by decide) (by decide) ?_
        intro T101 L101 v101 X101 hQ101
        obtain ⟨rfl, Nq101, K101, V_pa_2', V_fc_2', V_la_2', V_pv_2', V_nx_2'⟩ := hQ101
        have e101 : T101.heap = T101.heap := rfl
        have E_b1 := E_b1.keep K101
        have F_b1_parent := F_b1_parent.keep K101 (ninS ne_b1_pa_2 (ninS ne_b1_fc_2 (ninS ne_b1_la_2 (ninS ne_b1_pv_2 (ninS ne_b1_nx_2 nin0)))))
        have F_b1_firstChild := F_b1_firstChild.keep K101 (ninS ne_b1_pa_2 (ninS ne_b1_fc_2 (ninS ne_b1_la_2 (ninS ne_b1_pv_2 (ninS ne_b1_nx_2 nin0)))))
        have F_b1_lastChild := F_b1_lastChild.keep K101 (ninS ne_b1_pa_2 (ninS ne_b1_fc_2 (ninS ne_b1_la_2 (ninS ne_b1_pv_2 (ninS ne_b1_nx_2 nin0)))))
        have F_b1_previousSibling := F_b1_previousSibling.keep K101 (ninS ne_b1_pa_2 (ninS ne_b1_fc_2 (ninS ne_b1_la_2 (ninS ne_b1_pv_2 (ninS ne_b1_nx_2 nin0)))))
        have F_b1_nextSibling := F_b1_nextSibling.keep K101 (ninS ne_b1_pa_2 (ninS ne_b1_fc_2 (ninS ne_b1_la_2 (ninS ne_b1_pv_2 (ninS ne_b1_nx_2 nin0)))))
        have V_b6 := V_b6.keep K101 (ninS (Ne.symm ne_pa_2_b6) (ninS (Ne.symm ne_fc_2_b6) (ninS (Ne.symm ne_la_2_b6) (ninS (Ne.symm ne_pv_2_b6) (ninS (Ne.symm ne_nx_2_b6) nin0)))))
        have sz101 : n0 ≤ T101.heap.size := Nat.le_trans sz86 K101.1
        have V_pa_2 : Own.VArr Z T101.heap pa_2 .int ((.int (-1 : Int32)) :: (.int (0 : Int32)) :: (.int (0 : Int32)) :: (.int (0 : Int32)) :: own_tl) := V_pa_2'
        have V_fc_2 : Own.VArr Z T101.heap fc_2 .int ((.int (1 : Int32)) :: (.int (-1 : Int32)) :: (.int (-1 : Int32)) :: (.int (-1 : Int32)) :: own_tl) := V_fc_2'
        have V_la_2 : Own.VArr Z T101.heap la_2 .int ((.int (2 : Int32)) :: (.int (-1 : Int32)) :: (.int (-1 : Int32)) :: (.int (-1 : Int32)) :: own_tl) := V_la_2'
        have V_pv_2 : Own.VArr Z T101.heap pv_2 .int ((.int (-1 : Int32)) :: (.int (-1 : Int32)) :: (.int (3 : Int32)) :: (.int (1 : Int32)) :: own_tl) := V_pv_2'
        have V_nx_2 : Own.VArr Z T101.heap nx_2 .int ((.int (-1 : Int32)) :: (.int (3 : Int32)) :: (.int (-1 : Int32)) :: (.int (2 : Int32)) :: own_tl) := V_nx_2'
        have N101 := Fr.app N89 Nq101
        show Own.Go p e below _ (T101.setTop (mkF m 293 #[.val (.int sh), .val (.int pk), .val (.int pl), .val (.ref b1), .val (.int (1 : Int32)), .val (.int (2 : Int32)), .val (.int (3 : Int32)), .val (.ref b6), .val (.int (3 : Int32)), .val (.int (1 : Int32)), .val (.int (2 : Int32)), .val (.int (2 : Int32)), .val (.int (1 : Int32)), .val (.int (3 : Int32)), .val (.int (1 : Int32)), .val (.int (2 : Int32)), .val (.int (-1 : Int32)), .unset, .unset, .unset] []))
        refine Own.iload X101 hx (pc := 293) (hb hby at_293) rfl ?_
        refine Own.iload X101 hx (pc := 295) (hb hby at_295) rfl ?_
        refine Own.iload X101 hx (pc := 297) (hb hby at_297) rfl ?_
        refine Own.iload X101 hx (pc := 299) (hb hby at_299) rfl ?_
        refine Own.iconst X101 hx (pc := 301) (0 : Int32) (hb hby at_301) (by decide) ?_
        refine Own.callStatic X101 hx hZ (pc := 302) (y := (⟨"com/example/sprigdex/sprigdex/index/html/HtmlTreeDetachPinLaw", "at", "(IIIII)I"⟩ : MethodName)) hown (Wd hw 123 rfl) (Wd hw 124 rfl) (Wd hw 111 rfl) (Wd hw 125 rfl) (by decide) 0 [(.int (1 : Int32)), (.int (3 : Int32)), (.int (2 : Int32)), (.int (2 : Int32)), (.int (0 : Int32))] [] (rm18 l Z a0 hw (1 : Int32) (3 : Int32) (2 : Int32) (2 : Int32) (0 : Int32) T101.heap n0 sz101 ) (by decide) (by decide) e101 (by rw [hml]; rfl) pd12 rfl rfl (Nat.le_of_eq rfl) (hb hby at_302) (by decide) (by decide) ?_
        intro T102 L102 v102 X102 hQ102
        obtain ⟨rfl, Nq102, e102⟩ := hQ102
        have N102 := Fr.app N101 Nq102
        show Own.Go p e below _ (T102.setTop (mkF m 305 #[.val (.int sh), .val (.int pk), .val (.int pl), .val (.ref b1), .val (.int (1 : Int32)), .val (.int (2 : Int32)), .val (.int (3 : Int32)), .val (.ref b6), .val (.int (3 : Int32)), .val (.int (1 : Int32)), .val (.int (2 : Int32)), .val (.int (2 : Int32)), .val (.int (1 : Int32)), .val (.int (3 : Int32)), .val (.int (1 : Int32)), .val (.int (2 : Int32)), .val (.int (-1 : Int32)), .unset, .unset, .unset] [(.int (1 : Int32))]))
        refine Own.istore X102 hx (pc := 305) #[.val (.int sh), .val (.int pk), .val (.int pl), .val (.ref b1), .val (.int (1 : Int32)), .val (.int (2 : Int32)), .val (.int (3 : Int32)), .val (.ref b6), .val (.int (3 : Int32)), .val (.int (1 : Int32)), .val (.int (2 : Int32)), .val (.int (2 : Int32)), .val (.int (1 : Int32)), .val (.int (3 : Int32)), .val (.int (1 : Int32)), .val (.int (2 : Int32)), .val (.int (-1 : Int32)), .val (.int (1 : Int32)), .unset, .unset] (hb hby at_305) rfl ?_
        refine Own.iload X102 hx (pc := 307) (hb hby at_307) rfl ?_
        refine Own.iload X102 hx (pc := 309) (hb hby at_309) rfl ?_
        refine Own.iload X102 hx (pc := 311) (hb hby at_311) rfl ?_
        refine Own.iload X102 hx (pc := 313) (hb hby at_313) rfl ?_
        refine Own.iconst X102 hx (pc := 315) (1 : Int32) (hb hby at_315) (by decide) ?_
        refine Own.callStatic X102 hx hZ (pc := 316) (y := (⟨"com/example/sprigdex/sprigdex/index/html/HtmlTreeDetachPinLaw", "at", "(IIIII)I"⟩ : MethodName)) hown (Wd hw 123 rfl) (Wd hw 124 rfl) (Wd hw 111 rfl) (Wd hw 125 rfl) (by decide) 0 [(.int (1 : Int32)), (.int (3 : Int32)), (.int (2 : Int32)), (.int (2 : Int32)), (.int (1 : Int32))] [] (rm18 l Z a0 hw (1 : Int32) (3 : Int32) (2 : Int32) (2 : Int32) (1 : Int32) T101.heap n0 sz101 ) (by decide) (by decide) e102 (by rw [hml]; rfl) pd12 rfl rfl (Nat.le_of_eq rfl) (hb hby at_316) (by decide) (by decide) ?_
        intro T103 L103 v103 X103 hQ103
        obtain ⟨rfl, Nq103, e103⟩ := hQ103
        have N103 := Fr.app N102 Nq103
        show Own.Go p e below _ (T103.setTop (mkF m 319 #[.val (.int sh), .val (.int pk), .val (.int pl), .val (.ref b1), .val (.int (1 : Int32)), .val (.int (2 : Int32)), .val (.int (3 : Int32)), .val (.ref b6), .val (.int (3 : Int32)), .val (.int (1 : Int32)), .val (.int (2 : Int32)), .val (.int (2 : Int32)), .val (.int (1 : Int32)), .val (.int (3 : Int32)), .val (.int (1 : Int32)), .val (.int (2 : Int32)), .val (.int (-1 : Int32)), .val (.int (1 : Int32)), .unset, .unset] [(.int (3 : Int32))]))
        refine Own.istore X103 hx (pc := 319) #[.val (.int sh), .val (.int pk), .val (.int pl), .val (.ref b1), .val (.int (1 : Int32)), .val (.int (2 : Int32)), .val (.int (3 : Int32)), .val (.ref b6), .val (.int (3 : Int32)), .val (.int (1 : Int32)), .val (.int (2 : Int32)), .val (.int (2 : Int32)), .val (.int (1 : Int32)), .val (.int (3 : Int32)), .val (.int (1 : Int32)), .val (.int (2 : Int32)), .val (.int (-1 : Int32)), .val (.int (1 : Int32)), .val (.int (3 : Int32)), .unset] (hb hby at_319) rfl ?_
        refine Own.iload X103 hx (pc := 321) (hb hby at_321) rfl ?_
        refine Own.iload X103 hx (pc := 323) (hb hby at_323) rfl ?_
        refine Own.iload X103 hx (pc := 325) (hb hby at_325) rfl ?_
        refine Own.iload X103 hx (pc := 327) (hb hby at_327) rfl ?_
        refine Own.iconst X103 hx (pc := 329) (2 : Int32) (hb hby at_329) (by decide) ?_
        refine Own.callStatic X103 hx hZ (pc := 330) (y := (⟨"com/example/sprigdex/sprigdex/index/html/HtmlTreeDetachPinLaw", "at", "(IIIII)I"⟩ : MethodName)) hown (Wd hw 123 rfl) (Wd hw 124 rfl) (Wd hw 111 rfl) (Wd hw 125 rfl) (by decide) 0 [(.int (1 : Int32)), (.int (3 : Int32)), (.int (2 : Int32)), (.int (2 : Int32)), (.int (2 : Int32))] [] (rm18 l Z a0 hw (1 : Int32) (3 : Int32) (2 : Int32) (2 : Int32) (2 : Int32) T101.heap n0 sz101 ) (by decide) (by decide) e103 (by rw [hml]; rfl) pd12 rfl rfl (Nat.le_of_eq rfl) (hb hby at_330) (by decide) (by decide) ?_
        intro T104 L104 v104 X104 hQ104
        obtain ⟨rfl, Nq104, e104⟩ := hQ104
        have N104 := Fr.app N103 Nq104
        show Own.Go p e below _ (T104.setTop (mkF m 333 #[.val (.int sh), .val (.int pk), .val (.int pl), .val (.ref b1), .val (.int (1 : Int32)), .val (.int (2 : Int32)), .val (.int (3 : Int32)), .val (.ref b6), .val (.int (3 : Int32)), .val (.int (1 : Int32)), .val (.int (2 : Int32)), .val (.int (2 : Int32)), .val (.int (1 : Int32)), .val (.int (3 : Int32)), .val (.int (1 : Int32)), .val (.int (2 : Int32)), .val (.int (-1 : Int32)), .val (.int (1 : Int32)), .val (.int (3 : Int32)), .unset] [(.int (2 : Int32))]))
        refine Own.istore X104 hx (pc := 333) #[.val (.int sh), .val (.int pk), .val (.int pl), .val (.ref b1), .val (.int (1 : Int32)), .val (.int (2 : Int32)), .val (.int (3 : Int32)), .val (.ref b6), .val (.int (3 : Int32)), .val (.int (1 : Int32)), .val (.int (2 : Int32)), .val (.int (2 : Int32)), .val (.int (1 : Int32)), .val (.int (3 : Int32)), .val (.int (1 : Int32)), .val (.int (2 : Int32)), .val (.int (-1 : Int32)), .val (.int (1 : Int32)), .val (.int (3 : Int32)), .val (.int (2 : Int32))] (hb hby at_333) rfl ?_
        refine Own.aloadN X104 hx (pc := 335) (hb hby at_335) rfl rfl ?_
        refine Own.iload X104 hx (pc := 336) (hb hby at_336) rfl ?_
        refine Own.iload X104 hx (pc := 338) (hb hby at_338) rfl ?_
        refine Own.iload X104 hx (pc := 340) (hb hby at_340) rfl ?_
        refine Own.iload X104 hx (pc := 342) (hb hby at_342) rfl ?_
        refine Own.callStatic X104 hx hZ (pc := 344) (y := (⟨"com/example/sprigdex/sprigdex/index/html/HtmlTreeDetachPinLaw", "chain", "(Lcom/example/sprigdex/sprigdex/index/html/HtmlTree;IIII)Z"⟩ : MethodName)) hown (Wd hw 109 rfl) (Wd hw 110 rfl) (Wd hw 111 rfl) (Wd hw 112 rfl) (by decide) 0 [(.ref b1), (.int (1 : Int32)), (.int (3 : Int32)), (.int (2 : Int32)), (.int (3 : Int32))] [] (rmC3 l Z a0 hw b1 (1 : Int32) (3 : Int32) (2 : Int32) pa_2 fc_2 nx_2 ((.int (-1 : Int32)) :: (.int (0 : Int32)) :: (.int (0 : Int32)) :: (.int (0 : Int32)) :: own_tl) ((.int (1 : Int32)) :: (.int (-1 : Int32)) :: (.int (-1 : Int32)) :: (.int (-1 : Int32)) :: own_tl) ((.int (-1 : Int32)) :: (.int (3 : Int32)) :: (.int (-1 : Int32)) :: (.int (2 : Int32)) :: own_tl) T101.heap n0 sz101 E_b1 F_b1_parent F_b1_firstChild F_b1_nextSibling V_pa_2 V_fc_2 V_nx_2 rfl (by decide) rfl rfl (by decide) rfl rfl (by decide) rfl rfl) (by decide) (by decide) e104 (by rw [hml]; rfl) pd13 rfl rfl (Nat.le_of_eq rfl) (hb hby at_344) (by decide) (by decide) ?_
        intro T105 L105 v105 X105 hQ105
        obtain ⟨rfl, Nq105, e105⟩ := hQ105
        have N105 := Fr.app N104 Nq105
        show Own.Go p e below _ (T105.setTop (mkF m 347 #[.val (.int sh), .val (.int pk), .val (.int pl), .val (.ref b1), .val (.int (1 : Int32)), .val (.int (2 : Int32)), .val (.int (3 : Int32)), .val (.ref b6), .val (.int (3 : Int32)), .val (.int (1 : Int32)), .val (.int (2 : Int32)), .val (.int (2 : Int32)), .val (.int (1 : Int32)), .val (.int (3 : Int32)), .val (.int (1 : Int32)), .val (.int (2 : Int32)), .val (.int (-1 : Int32)), .val (.int (1 : Int32)), .val (.int (3 : Int32)), .val (.int (2 : Int32))] [(.int (1 : Int32))]))
        exact Own.ireturn X105 hx hk hret (by simp) rfl (hb hby at_347) e105 ⟨rfl, N105⟩ (by decide) (by decide)
    · refine Own.istore X64 hx (pc := 105) #[.val (.int sh), .val (.int pk), .val (.int pl), .val (.ref b1), .val (.int (1 : Int32)), .val (.int (2 : Int32)), .val (.int (3 : Int32)), .val (.ref b6), .val (.int (3 : Int32)), .val (.int (2 : Int32)), .unset, .unset, .unset, .unset, .unset, .unset, .unset, .unset, .unset, .unset] (hb hby at_105) rfl ?_
      refine Own.iload X64 hx (pc := 107) (hb hby at_107) rfl ?_
      refine Own.iload X64 hx (pc := 109) (hb hby at_109) rfl ?_
      refine Own.icmpYes X64 hx (pc := 111) 143 (hb hby at_111) (by decide) (by decide) (by decide) ?_
      refine Own.aload X64 hx (pc := 143) (hb hby at_143) rfl rfl ?_
      refine Own.iload X64 hx (pc := 145) (hb hby at_145) rfl ?_
      refine Own.iaload X64 hx hZ (pc := 147) e64 V_b6 (v := (.int (3 : Int32))) 2 (by decide) (by decide) rfl (hb hby at_147) ?_
      refine Own.istore X64 hx (pc := 148) #[.val (.int sh), .val (.int pk), .val (.int pl), .val (.ref b1), .val (.int (1 : Int32)), .val (.int (2 : Int32)), .val (.int (3 : Int32)), .val (.ref b6), .val (.int (3 : Int32)), .val (.int (2 : Int32)), .val (.int (3 : Int32)), .unset, .unset, .unset, .unset, .unset, .unset, .unset, .unset, .unset] (hb hby at_148) rfl ?_
      refine Own.aloadN X64 hx (pc := 150) (hb hby at_150) rfl rfl ?_
      refine Own.iload X64 hx (pc := 151) (hb hby at_151) rfl ?_
      refine Own.callVirtual X64 hx hZ (pc := 153) (y := (⟨"com/example/sprigdex/sprigdex/index/html/HtmlTree", "detach", "(I)V"⟩ : MethodName)) (z := (⟨"com/example/sprigdex/sprigdex/index/html/HtmlTree", "detach", "(I)V"⟩ : MethodName)) hown (Wd hw 103 rfl) (Wd hw 99 rfl) (Wd hw 101 rfl) (Wd hw 100 rfl) (Wd hw 2 rfl) (Wd hw 102 rfl) (Wd hw 101 rfl) (by decide) 0 b1 [(.int (3 : Int32))] [] E_b1 (rmD10 l Z a0 hw b1 (3 : Int32) pa_2 fc_2 la_2 pv_2 nx_2 ((.int (-1 : Int32)) :: (.int (0 : Int32)) :: (.int (0 : Int32)) :: (.int (0 : Int32)) :: own_tl) ((.int (1 : Int32)) :: (.int (-1 : Int32)) :: (.int (-1 : Int32)) :: (.int (-1 : Int32)) :: own_tl) ((.int (3 : Int32)) :: (.int (-1 : Int32)) :: (.int (-1 : Int32)) :: (.int (-1 : Int32)) :: own_tl) ((.int (-1 : Int32)) :: (.int (-1 : Int32)) :: (.int (1 : Int32)) :: (.int (2 : Int32)) :: own_tl) ((.int (-1 : Int32)) :: (.int (2 : Int32)) :: (.int (3 : Int32)) :: (.int (-1 : Int32)) :: own_tl) (0 : Int32) (2 : Int32) T64.heap n0 sz64 F_b1_parent F_b1_firstChild F_b1_lastChild F_b1_previousSibling F_b1_nextSibling V_pa_2 V_fc_2 V_la_2 V_pv_2 V_nx_2 ge_pa_2 ge_fc_2 ge_la_2 ge_pv_2 ge_nx_2 ne_b1_pa_2 ne_b1_fc_2 ne_b1_la_2 ne_b1_pv_2 ne_b1_nx_2 ne_pa_2_fc_2 ne_pa_2_la_2 ne_pa_2_pv_2 ne_pa_2_nx_2 ne_fc_2_la_2 ne_fc_2_pv_2 ne_fc_2_nx_2 ne_la_2_pv_2 ne_la_2_nx_2 ne_pv_2_nx_2 rfl rfl rfl rfl rfl (by decide) (by decide) (by decide) (by decide) (by decide) (by decide) rfl rfl rfl (by decide) (by decide)) (by decide) (by decide) e64 (by rw [hml]; rfl) pd9 rfl rfl (Nat.le_of_eq rfl) (hb hby at_153) (by decide) (by decide) ?_
      intro T106 L106 v106 X106 hQ106
      obtain ⟨rfl, Nq106, K106, V_pa_2', V_fc_2', V_la_2', V_pv_2', V_nx_2'⟩ := hQ106
      have e106 : T106.heap = T106.heap := rfl
      have E_b1 := E_b1.keep K106
      have F_b1_parent := F_b1_parent.keep K106 (ninS ne_b1_pa_2 (ninS ne_b1_fc_2 (ninS ne_b1_la_2 (ninS ne_b1_pv_2 (ninS ne_b1_nx_2 nin0)))))
      have F_b1_firstChild := F_b1_firstChild.keep K106 (ninS ne_b1_pa_2 (ninS ne_b1_fc_2 (ninS ne_b1_la_2 (ninS ne_b1_pv_2 (ninS ne_b1_nx_2 nin0)))))
      have F_b1_lastChild := F_b1_lastChild.keep K106 (ninS ne_b1_pa_2 (ninS ne_b1_fc_2 (ninS ne_b1_la_2 (ninS ne_b1_pv_2 (ninS ne_b1_nx_2 nin0)))))
      have F_b1_previousSibling := F_b1_previousSibling.keep K106 (ninS ne_b1_pa_2 (ninS ne_b1_fc_2 (ninS ne_b1_la_2 (ninS ne_b1_pv_2 (ninS ne_b1_nx_2 nin0)))))
      have F_b1_nextSibling := F_b1_nextSibling.keep K106 (ninS ne_b1_pa_2 (ninS ne_b1_fc_2 (ninS ne_b1_la_2 (ninS ne_b1_pv_2 (ninS ne_b1_nx_2 nin0)))))
      have V_b6 := V_b6.keep K106 (ninS (Ne.symm ne_pa_2_b6) (ninS (Ne.symm ne_fc_2_b6) (ninS (Ne.symm ne_la_2_b6) (ninS (Ne.symm ne_pv_2_b6) (ninS (Ne.symm ne_nx_2_b6) nin0)))))
      have sz106 : n0 ≤ T106.heap.size := Nat.le_trans sz64 K106.1
      have V_pa_2 : Own.VArr Z T106.heap pa_2 .int ((.int (-1 : Int32)) :: (.int (0 : Int32)) :: (.int (0 : Int32)) :: (.int (-1 : Int32)) :: own_tl) := V_pa_2'
      have V_fc_2 : Own.VArr Z T106.heap fc_2 .int ((.int (1 : Int32)) :: (.int (-1 : Int32)) :: (.int (-1 : Int32)) :: (.int (-1 : Int32)) :: own_tl) := V_fc_2'
      have V_la_2 : Own.VArr Z T106.heap la_2 .int ((.int (2 : Int32)) :: (.int (-1 : Int32)) :: (.int (-1 : Int32)) :: (.int (-1 : Int32)) :: own_tl) := V_la_2'
      have V_pv_2 : Own.VArr Z T106.heap pv_2 .int ((.int (-1 : Int32)) :: (.int (-1 : Int32)) :: (.int (1 : Int32)) :: (.int (-1 : Int32)) :: own_tl) := V_pv_2'
      have V_nx_2 : Own.VArr Z T106.heap nx_2 .int ((.int (-1 : Int32)) :: (.int (2 : Int32)) :: (.int (-1 : Int32)) :: (.int (-1 : Int32)) :: own_tl) := V_nx_2'
      have N106 := Fr.app N64 Nq106
      show Own.Go p e below _ (T106.setTop (mkF m 156 #[.val (.int sh), .val (.int pk), .val (.int pl), .val (.ref b1), .val (.int (1 : Int32)), .val (.int (2 : Int32)), .val (.int (3 : Int32)), .val (.ref b6), .val (.int (3 : Int32)), .val (.int (2 : Int32)), .val (.int (3 : Int32)), .unset, .unset, .unset, .unset, .unset, .unset, .unset, .unset, .unset] []))
      refine Own.aloadN X106 hx (pc := 156) (hb hby at_156) rfl rfl ?_
      refine Own.iload X106 hx (pc := 157) (hb hby at_157) rfl ?_
      refine Own.callVirtual X106 hx hZ (pc := 159) (y := (⟨"com/example/sprigdex/sprigdex/index/html/HtmlTree", "parent", "(I)I"⟩ : MethodName)) (z := (⟨"com/example/sprigdex/sprigdex/index/html/HtmlTree", "parent", "(I)I"⟩ : MethodName)) hown (Wd hw 104 rfl) (Wd hw 105 rfl) (Wd hw 107 rfl) (Wd hw 106 rfl) (Wd hw 2 rfl) (Wd hw 108 rfl) (Wd hw 107 rfl) (by decide) 0 b1 [(.int (3 : Int32))] [] E_b1 (rm14 l Z a0 hw b1 (3 : Int32) pa_2 ((.int (-1 : Int32)) :: (.int (0 : Int32)) :: (.int (0 : Int32)) :: (.int (-1 : Int32)) :: own_tl) (-1 : Int32) T106.heap n0 sz106 F_b1_parent V_pa_2 (by decide) rfl) (by decide) (by decide) e106 (by rw [hml]; rfl) pd7 rfl rfl (Nat.le_of_eq rfl) (hb hby at_159) (by decide) (by decide) ?_
      intro T107 L107 v107 X107 hQ107
      obtain ⟨rfl, Nq107, e107⟩ := hQ107
      have N107 := Fr.app N106 Nq107
      show Own.Go p e below _ (T107.setTop (mkF m 162 #[.val (.int sh), .val (.int pk), .val (.int pl), .val (.ref b1), .val (.int (1 : Int32)), .val (.int (2 : Int32)), .val (.int (3 : Int32)), .val (.ref b6), .val (.int (3 : Int32)), .val (.int (2 : Int32)), .val (.int (3 : Int32)), .unset, .unset, .unset, .unset, .unset, .unset, .unset, .unset, .unset] [(.int (-1 : Int32))]))
      refine Own.iconst X107 hx (pc := 162) (-1 : Int32) (hb hby at_162) (by decide) ?_
      refine Own.icmpYes X107 hx (pc := 163) 168 (hb hby at_163) (by decide) (by decide) (by decide) ?_
      refine Own.aloadN X107 hx (pc := 168) (hb hby at_168) rfl rfl ?_
      refine Own.iload X107 hx (pc := 169) (hb hby at_169) rfl ?_
      refine Own.callVirtual X107 hx hZ (pc := 171) (y := (⟨"com/example/sprigdex/sprigdex/index/html/HtmlTree", "nextSibling", "(I)I"⟩ : MethodName)) (z := (⟨"com/example/sprigdex/sprigdex/index/html/HtmlTree", "nextSibling", "(I)I"⟩ : MethodName)) hown (Wd hw 118 rfl) (Wd hw 119 rfl) (Wd hw 121 rfl) (Wd hw 120 rfl) (Wd hw 2 rfl) (Wd hw 122 rfl) (Wd hw 121 rfl) (by decide) 0 b1 [(.int (3 : Int32))] [] E_b1 (rm17 l Z a0 hw b1 (3 : Int32) nx_2 ((.int (-1 : Int32)) :: (.int (2 : Int32)) :: (.int (-1 : Int32)) :: (.int (-1 : Int32)) :: own_tl) (-1 : Int32) T106.heap n0 sz106 F_b1_nextSibling V_nx_2 (by decide) rfl) (by decide) (by decide) e107 (by rw [hml]; rfl) pd7 rfl rfl (Nat.le_of_eq rfl) (hb hby at_171) (by decide) (by decide) ?_
      intro T108 L108 v108 X108 hQ108
      obtain ⟨rfl, Nq108, e108⟩ := hQ108
      have N108 := Fr.app N107 Nq108
      show Own.Go p e below _ (T108.setTop (mkF m 174 #[.val (.int sh), .val (.int pk), .val (.int pl), .val (.ref b1), .val (.int (1 : Int32)), .val (.int (2 : Int32)), .val (.int (3 : Int32)), .val (.ref b6), .val (.int (3 : Int32)), .val (.int (2 : Int32)), .val (.int (3 : Int32)), .unset, .unset, .unset, .unset, .unset, .unset, .unset, .unset, .unset] [(.int (-1 : Int32))]))
      refine Own.iconst X108 hx (pc := 174) (-1 : Int32) (hb hby at_174) (by decide) ?_
      refine Own.icmpYes X108 hx (pc := 175) 180 (hb hby at_175) (by decide) (by decide) (by decide) ?_
      refine Own.iload X108 hx (pc := 180) (hb hby at_180) rfl ?_
      refine Own.iconst X108 hx (pc := 182) (1 : Int32) (hb hby at_182) (by decide) ?_
      refine Own.isub X108 hx (pc := 183) (hb hby at_183) ?_
      refine Own.topI (show ((3 : Int32) - (1 : Int32)) = (2 : Int32) by decide) ?_
      refine Own.istore X108 hx (pc := 184) #[.val (.int sh), .val (.int pk), .val (.int pl), .val (.ref b1), .val (.int (1 : Int32)), .val (.int (2 : Int32)), .val (.int (3 : Int32)), .val (.ref b6), .val (.int (3 : Int32)), .val (.int (2 : Int32)), .val (.int (3 : Int32)), .val (.int (2 : Int32)), .unset, .unset, .unset, .unset, .unset, .unset, .unset, .unset] (hb hby at_184) rfl ?_
      refine Own.iload X108 hx (pc := 186) (hb hby at_186) rfl ?_
      refine Own.ifYes X108 hx (pc := 188) 198 (hb hby at_188) (by decide) (by decide) (by decide) ?_
      refine Own.aload X108 hx (pc := 198) (hb hby at_198) rfl rfl ?_
      refine Own.iconst X108 hx (pc := 200) (0 : Int32) (hb hby at_200) (by decide) ?_
      refine Own.iaload X108 hx hZ (pc := 201) e108 V_b6 (v := (.int (1 : Int32))) 0 (by decide) (by decide) rfl (hb hby at_201) ?_
      refine Own.istore X108 hx (pc := 202) #[.val (.int sh), .val (.int pk), .val (.int pl), .val (.ref b1), .val (.int (1 : Int32)), .val (.int (2 : Int32)), .val (.int (3 : Int32)), .val (.ref b6), .val (.int (3 : Int32)), .val (.int (2 : Int32)), .val (.int (3 : Int32)), .val (.int (2 : Int32)), .val (.int (1 : Int32)), .unset, .unset, .unset, .unset, .unset, .unset, .unset] (hb hby at_202) rfl ?_
      refine Own.iload X108 hx (pc := 204) (hb hby at_204) rfl ?_
      refine Own.iconst X108 hx (pc := 206) (1 : Int32) (hb hby at_206) (by decide) ?_
      refine Own.icmpYes X108 hx (pc := 207) 217 (hb hby at_207) (by decide) (by decide) (by decide) ?_
      refine Own.aload X108 hx (pc := 217) (hb hby at_217) rfl rfl ?_
      refine Own.iconst X108 hx (pc := 219) (1 : Int32) (hb hby at_219) (by decide) ?_
      refine Own.iaload X108 hx hZ (pc := 220) e108 V_b6 (v := (.int (2 : Int32))) 1 (by decide) (by decide) rfl (hb hby at_220) ?_
      refine Own.istore X108 hx (pc := 221) #[.val (.int sh), .val (.int pk), .val (.int pl), .val (.ref b1), .val (.int (1 : Int32)), .val (.int (2 : Int32)), .val (.int (3 : Int32)), .val (.ref b6), .val (.int (3 : Int32)), .val (.int (2 : Int32)), .val (.int (3 : Int32)), .val (.int (2 : Int32)), .val (.int (1 : Int32)), .val (.int (2 : Int32)), .unset, .unset, .unset, .unset, .unset, .unset] (hb hby at_221) rfl ?_
      refine Own.iload X108 hx (pc := 223) (hb hby at_223) rfl ?_
      refine Own.ifYes X108 hx (pc := 225) 232 (hb hby at_225) (by decide) (by decide) (by decide) ?_
      refine Own.iload X108 hx (pc := 232) (hb hby at_232) rfl ?_
      refine Own.istore X108 hx (pc := 234) #[.val (.int sh), .val (.int pk), .val (.int pl), .val (.ref b1), .val (.int (1 : Int32)), .val (.int (2 : Int32)), .val (.int (3 : Int32)), .val (.ref b6), .val (.int (3 : Int32)), .val (.int (2 : Int32)), .val (.int (3 : Int32)), .val (.int (2 : Int32)), .val (.int (1 : Int32)), .val (.int (2 : Int32)), .val (.int (1 : Int32)), .unset, .unset, .unset, .unset, .unset] (hb hby at_234) rfl ?_
      refine Own.aloadN X108 hx (pc := 236) (hb hby at_236) rfl rfl ?_
      refine Own.iconst X108 hx (pc := 237) (0 : Int32) (hb hby at_237) (by decide) ?_
      refine Own.callVirtual X108 hx hZ (pc := 238) (y := (⟨"com/example/sprigdex/sprigdex/index/html/HtmlTree", "firstChild", "(I)I"⟩ : MethodName)) (z := (⟨"com/example/sprigdex/sprigdex/index/html/HtmlTree", "firstChild", "(I)I"⟩ : MethodName)) hown (Wd hw 113 rfl) (Wd hw 114 rfl) (Wd hw 116 rfl) (Wd hw 115 rfl) (Wd hw 2 rfl) (Wd hw 117 rfl) (Wd hw 116 rfl) (by decide) 0 b1 [(.int (0 : Int32))] [] E_b1 (rm16 l Z a0 hw b1 (0 : Int32) fc_2 ((.int (1 : Int32)) :: (.int (-1 : Int32)) :: (.int (-1 : Int32)) :: (.int (-1 : Int32)) :: own_tl) (1 : Int32) T106.heap n0 sz106 F_b1_firstChild V_fc_2 (by decide) rfl) (by decide) (by decide) e108 (by rw [hml]; rfl) pd7 rfl rfl (Nat.le_of_eq rfl) (hb hby at_238) (by decide) (by decide) ?_
      intro T109 L109 v109 X109 hQ109
      obtain ⟨rfl, Nq109, e109⟩ := hQ109
      have N109 := Fr.app N108 Nq109
      show Own.Go p e below _ (T109.setTop (mkF m 241 #[.val (.int sh), .val (.int pk), .val (.int pl), .val (.ref b1), .val (.int (1 : Int32)), .val (.int (2 : Int32)), .val (.int (3 : Int32)), .val (.ref b6), .val (.int (3 : Int32)), .val (.int (2 : Int32)), .val (.int (3 : Int32)), .val (.int (2 : Int32)), .val (.int (1 : Int32)), .val (.int (2 : Int32)), .val (.int (1 : Int32)), .unset, .unset, .unset, .unset, .unset] [(.int (1 : Int32))]))
      refine Own.iload X109 hx (pc := 241) (hb hby at_241) rfl ?_
      refine Own.icmpYes X109 hx (pc := 243) 248 (hb hby at_243) (by decide) (by decide) (by decide) ?_
      refine Own.iloadN X109 hx (pc := 248) (hb hby at_248) rfl ?_
      refine Own.ldcI X109 hx hZ (pc := 249) hown (Wd hw 92 rfl) (hb hby at_249) ?_
      refine Own.iand X109 hx (pc := 251) (hb hby at_251) ?_
      refine Own.iload X109 hx (pc := 252) (hb hby at_252) rfl ?_
      refine Own.iconst X109 hx (pc := 254) (1 : Int32) (hb hby at_254) (by decide) ?_
      refine Own.iadd X109 hx (pc := 255) (hb hby at_255) ?_
      refine Own.topI (show ((2 : Int32) + (1 : Int32)) = (3 : Int32) by decide) ?_
      refine Own.irem X109 hx (pc := 256) (hb hby at_256) (by decide) ?_
      generalize qj110 : ((pl &&& (2147483647 : Int32)) % (3 : Int32)) = j110
      rcases own_c3 _ qj110 with rfl | rfl | rfl
      · refine Own.istore X109 hx (pc := 257) #[.val (.int sh), .val (.int pk), .val (.int pl), .val (.ref b1), .val (.int (1 : Int32)), .val (.int (2 : Int32)), .val (.int (3 : Int32)), .val (.ref b6), .val (.int (3 : Int32)), .val (.int (2 : Int32)), .val (.int (3 : Int32)), .val (.int (2 : Int32)), .val (.int (1 : Int32)), .val (.int (2 : Int32)), .val (.int (1 : Int32)), .val (.int (0 : Int32)), .unset, .unset, .unset, .unset] (hb hby at_257) rfl ?_
        refine Own.iload X109 hx (pc := 259) (hb hby at_259) rfl ?_
        refine Own.iload X109 hx (pc := 261) (hb hby at_261) rfl ?_
        refine Own.icmpYes X109 hx (pc := 263) 270 (hb hby at_263) (by decide) (by decide) (by decide) ?_
        refine Own.iload X109 hx (pc := 270) (hb hby at_270) rfl ?_
        refine Own.ifNo X109 hx (pc := 272) (hb hby at_272) (by decide) ?_
        refine Own.iload X109 hx (pc := 275) (hb hby at_275) rfl ?_
        refine Own.goto X109 hx (pc := 277) 282 (hb hby at_277) (by decide) (by decide) ?_
        refine Own.istore X109 hx (pc := 282) #[.val (.int sh), .val (.int pk), .val (.int pl), .val (.ref b1), .val (.int (1 : Int32)), .val (.int (2 : Int32)), .val (.int (3 : Int32)), .val (.ref b6), .val (.int (3 : Int32)), .val (.int (2 : Int32)), .val (.int (3 : Int32)), .val (.int (2 : Int32)), .val (.int (1 : Int32)), .val (.int (2 : Int32)), .val (.int (1 : Int32)), .val (.int (0 : Int32)), .val (.int (1 : Int32)), .unset, .unset, .unset] (hb hby at_282) rfl ?_
        refine Own.aloadN X109 hx (pc := 284) (hb hby at_284) rfl rfl ?_
        refine Own.iconst X109 hx (pc := 285) (0 : Int32) (hb hby at_285) (by decide) ?_
        refine Own.iload X109 hx (pc := 286) (hb hby at_286) rfl ?_
        refine Own.iload X109 hx (pc := 288) (hb hby at_288) rfl ?_
        refine Own.callVirtual X109 hx hZ (pc := 290) (y := (⟨"com/example/sprigdex/sprigdex/index/html/HtmlTree", "insert", "(III)V"⟩ : MethodName)) (z := (⟨"com/example/sprigdex/sprigdex/index/html/HtmlTree", "insert", "(III)V"⟩ : MethodName)) hown (Wd hw 93 rfl) (Wd hw 94 rfl) (Wd hw 96 rfl) (Wd hw 95 rfl) (Wd hw 2 rfl) (Wd hw 97 rfl) (Wd hw 96 rfl) (by decide) 0 b1 [(.int (0 : Int32)), (.int (3 : Int32)), (.int (1 : Int32))] [] E_b1 (rmI10 l Z a0 hw b1 (0 : Int32) (3 : Int32) (1 : Int32) pa_2 fc_2 la_2 pv_2 nx_2 ((.int (-1 : Int32)) :: (.int (0 : Int32)) :: (.int (0 : Int32)) :: (.int (-1 : Int32)) :: own_tl) ((.int (1 : Int32)) :: (.int (-1 : Int32)) :: (.int (-1 : Int32)) :: (.int (-1 : Int32)) :: own_tl) ((.int (2 : Int32)) :: (.int (-1 : Int32)) :: (.int (-1 : Int32)) :: (.int (-1 : Int32)) :: own_tl) ((.int (-1 : Int32)) :: (.int (-1 : Int32)) :: (.int (1 : Int32)) :: (.int (-1 : Int32)) :: own_tl) ((.int (-1 : Int32)) :: (.int (2 : Int32)) :: (.int (-1 : Int32)) :: (.int (-1 : Int32)) :: own_tl) T106.heap n0 sz106 E_b1 F_b1_parent F_b1_firstChild F_b1_lastChild F_b1_previousSibling F_b1_nextSibling V_pa_2 V_fc_2 V_la_2 V_pv_2 V_nx_2 ge_pa_2 ge_fc_2 ge_la_2 ge_pv_2 ge_nx_2 ne_b1_pa_2 ne_b1_fc_2 ne_b1_la_2 ne_b1_pv_2 ne_b1_nx_2 ne_pa_2_fc_2 ne_pa_2_la_2 ne_pa_2_pv_2 ne_pa_2_nx_2 ne_fc_2_la_2 ne_fc_2_pv_2 ne_fc_2_nx_2 ne_la_2_pv_2 ne_la_2_nx_2 ne_pv_2_nx_2 rfl rfl rfl rfl rfl (by decide) (by decide) (by decide) (by decide) (by decide) (by decide) rfl rfl (by decide)) (by decide) (by decide) e109 (by rw [hml]; rfl) pd11 rfl rfl (Nat.le_of_eq rfl) (hb hby at_290) (by decide) (by decide) ?_
        intro T111 L111 v111 X111 hQ111
        obtain ⟨rfl, Nq111, K111, V_pa_2', V_fc_2', V_la_2', V_pv_2', V_nx_2'⟩ := hQ111
        have e111 : T111.heap = T111.heap := rfl
        have E_b1 := E_b1.keep K111
        have F_b1_parent := F_b1_parent.keep K111 (ninS ne_b1_pa_2 (ninS ne_b1_fc_2 (ninS ne_b1_la_2 (ninS ne_b1_pv_2 (ninS ne_b1_nx_2 nin0)))))
        have F_b1_firstChild := F_b1_firstChild.keep K111 (ninS ne_b1_pa_2 (ninS ne_b1_fc_2 (ninS ne_b1_la_2 (ninS ne_b1_pv_2 (ninS ne_b1_nx_2 nin0)))))
        have F_b1_lastChild := F_b1_lastChild.keep K111 (ninS ne_b1_pa_2 (ninS ne_b1_fc_2 (ninS ne_b1_la_2 (ninS ne_b1_pv_2 (ninS ne_b1_nx_2 nin0)))))
        have F_b1_previousSibling := F_b1_previousSibling.keep K111 (ninS ne_b1_pa_2 (ninS ne_b1_fc_2 (ninS ne_b1_la_2 (ninS ne_b1_pv_2 (ninS ne_b1_nx_2 nin0)))))
        have F_b1_nextSibling := F_b1_nextSibling.keep K111 (ninS ne_b1_pa_2 (ninS ne_b1_fc_2 (ninS ne_b1_la_2 (ninS ne_b1_pv_2 (ninS ne_b1_nx_2 nin0)))))
        have V_b6 := V_b6.keep K111 (ninS (Ne.symm ne_pa_2_b6) (ninS (Ne.symm ne_fc_2_b6) (ninS (Ne.symm ne_la_2_b6) (ninS (Ne.symm ne_pv_2_b6) (ninS (Ne.symm ne_nx_2_b6) nin0)))))
        have sz111 : n0 ≤ T111.heap.size := Nat.le_trans sz106 K111.1
        have V_pa_2 : Own.VArr Z T111.heap pa_2 .int ((.int (-1 : Int32)) :: (.int (0 : Int32)) :: (.int (0 : Int32)) :: (.int (0 : Int32)) :: own_tl) := V_pa_2'
        have V_fc_2 : Own.VArr Z T111.heap fc_2 .int ((.int (3 : Int32)) :: (.int (-1 : Int32)) :: (.int (-1 : Int32)) :: (.int (-1 : Int32)) :: own_tl) := V_fc_2'
        have V_la_2 : Own.VArr Z T111.heap la_2 .int ((.int (2 : Int32)) :: (.int (-1 : Int32)) :: (.int (-1 : Int32)) :: (.int (-1 : Int32)) :: own_tl) := V_la_2'
        have V_pv_2 : Own.VArr Z T111.heap pv_2 .int ((.int (-1 : Int32)) :: (.int (3 : Int32)) :: (.int (1 : Int32)) :: (.int (-1 : Int32)) :: own_tl) := V_pv_2'
        have V_nx_2 : Own.VArr Z T111.heap nx_2 .int ((.int (-1 : Int32)) :: (.int (2 : Int32)) :: (.int (-1 : Int32)) :: (.int (1 : Int32)) :: own_tl) := V_nx_2'
        have N111 := Fr.app N109 Nq111
        show Own.Go p e below _ (T111.setTop (mkF m 293 #[.val (.int sh), .val (.int pk), .val (.int pl), .val (.ref b1), .val (.int (1 : Int32)), .val (.int (2 : Int32)), .val (.int (3 : Int32)), .val (.ref b6), .val (.int (3 : Int32)), .val (.int (2 : Int32)), .val (.int (3 : Int32)), .val (.int (2 : Int32)), .val (.int (1 : Int32)), .val (.int (2 : Int32)), .val (.int (1 : Int32)), .val (.int (0 : Int32)), .val (.int (1 : Int32)), .unset, .unset, .unset] []))
        refine Own.iload X111 hx (pc := 293) (hb hby at_293) rfl ?_
        refine Own.iload X111 hx (pc := 295) (hb hby at_295) rfl ?_
        refine Own.iload X111 hx (pc := 297) (hb hby at_297) rfl ?_
        refine Own.iload X111 hx (pc := 299) (hb hby at_299) rfl ?_
        refine Own.iconst X111 hx (pc := 301) (0 : Int32) (hb hby at_301) (by decide) ?_
        refine Own.callStatic X111 hx hZ (pc := 302) (y := (⟨"com/example/sprigdex/sprigdex/index/html/HtmlTreeDetachPinLaw", "at", "(IIIII)I"⟩ : MethodName)) hown (Wd hw 123 rfl) (Wd hw 124 rfl) (Wd hw 111 rfl) (Wd hw 125 rfl) (by decide) 0 [(.int (1 : Int32)), (.int (2 : Int32)), (.int (3 : Int32)), (.int (0 : Int32)), (.int (0 : Int32))] [] (rm18 l Z a0 hw (1 : Int32) (2 : Int32) (3 : Int32) (0 : Int32) (0 : Int32) T111.heap n0 sz111 ) (by decide) (by decide) e111 (by rw [hml]; rfl) pd12 rfl rfl (Nat.le_of_eq rfl) (hb hby at_302) (by decide) (by decide) ?_
        intro T112 L112 v112 X112 hQ112
        obtain ⟨rfl, Nq112, e112⟩ := hQ112
        have N112 := Fr.app N111 Nq112
        show Own.Go p e below _ (T112.setTop (mkF m 305 #[.val (.int sh), .val (.int pk), .val (.int pl), .val (.ref b1), .val (.int (1 : Int32)), .val (.int (2 : Int32)), .val (.int (3 : Int32)), .val (.ref b6), .val (.int (3 : Int32)), .val (.int (2 : Int32)), .val (.int (3 : Int32)), .val (.int (2 : Int32)), .val (.int (1 : Int32)), .val (.int (2 : Int32)), .val (.int (1 : Int32)), .val (.int (0 : Int32)), .val (.int (1 : Int32)), .unset, .unset, .unset] [(.int (3 : Int32))]))
        refine Own.istore X112 hx (pc := 305) #[.val (.int sh), .val (.int pk), .val (.int pl), .val (.ref b1), .val (.int (1 : Int32)), .val (.int (2 : Int32)), .val (.int (3 : Int32)), .val (.ref b6), .val (.int (3 : Int32)), .val (.int (2 : Int32)), .val (.int (3 : Int32)), .val (.int (2 : Int32)), .val (.int (1 : Int32)), .val (.int (2 : Int32)), .val (.int (1 : Int32)), .val (.int (0 : Int32)), .val (.int (1 : Int32)), .val (.int (3 : Int32)), .unset, .unset] (hb hby at_305) rfl ?_
        refine Own.iload X112 hx (pc := 307) (hb hby at_307) rfl ?_
        refine Own.iload X112 hx (pc := 309) (hb hby at_309) rfl ?_
        refine Own.iload X112 hx (pc := 311) (hb hby at_311) rfl ?_
        refine Own.iload X112 hx (pc := 313) (hb hby at_313) rfl ?_
        refine Own.iconst X112 hx (pc := 315) (1 : Int32) (hb hby at_315) (by decide) ?_
        refine Own.callStatic X112 hx hZ (pc := 316) (y := (⟨"com/example/sprigdex/sprigdex/index/html/HtmlTreeDetachPinLaw", "at", "(IIIII)I"⟩ : MethodName)) hown (Wd hw 123 rfl) (Wd hw 124 rfl) (Wd hw 111 rfl) (Wd hw 125 rfl) (by decide) 0 [(.int (1 : Int32)), (.int (2 : Int32)), (.int (3 : Int32)), (.int (0 : Int32)), (.int (1 : Int32))] [] (rm18 l Z a0 hw (1 : Int32) (2 : Int32) (3 : Int32) (0 : Int32) (1 : Int32) T111.heap n0 sz111 ) (by decide) (by decide) e112 (by rw [hml]; rfl) pd12 rfl rfl (Nat.le_of_eq rfl) (hb hby at_316) (by decide) (by decide) ?_
        intro T113 L113 v113 X113 hQ113
        obtain ⟨rfl, Nq113, e113⟩ := hQ113
        have N113 := Fr.app N112 Nq113
        show Own.Go p e below _ (T113.setTop (mkF m 319 #[.val (.int sh), .val (.int pk), .val (.int pl), .val (.ref b1), .val (.int (1 : Int32)), .val (.int (2 : Int32)), .val (.int (3 : Int32)), .val (.ref b6), .val (.int (3 : Int32)), .val (.int (2 : Int32)), .val (.int (3 : Int32)), .val (.int (2 : Int32)), .val (.int (1 : Int32)), .val (.int (2 : Int32)), .val (.int (1 : Int32)), .val (.int (0 : Int32)), .val (.int (1 : Int32)), .val (.int (3 : Int32)), .unset, .unset] [(.int (1 : Int32))]))
        refine Own.istore X113 hx (pc := 319) #[.val (.int sh), .val (.int pk), .val (.int pl), .val (.ref b1), .val (.int (1 : Int32)), .val (.int (2 : Int32)), .val (.int (3 : Int32)), .val (.ref b6), .val (.int (3 : Int32)), .val (.int (2 : Int32)), .val (.int (3 : Int32)), .val (.int (2 : Int32)), .val (.int (1 : Int32)), .val (.int (2 : Int32)), .val (.int (1 : Int32)), .val (.int (0 : Int32)), .val (.int (1 : Int32)), .val (.int (3 : Int32)), .val (.int (1 : Int32)), .unset] (hb hby at_319) rfl ?_
        refine Own.iload X113 hx (pc := 321) (hb hby at_321) rfl ?_
        refine Own.iload X113 hx (pc := 323) (hb hby at_323) rfl ?_
        refine Own.iload X113 hx (pc := 325) (hb hby at_325) rfl ?_
        refine Own.iload X113 hx (pc := 327) (hb hby at_327) rfl ?_
        refine Own.iconst X113 hx (pc := 329) (2 : Int32) (hb hby at_329) (by decide) ?_
        refine Own.callStatic X113 hx hZ (pc := 330) (y := (⟨"com/example/sprigdex/sprigdex/index/html/HtmlTreeDetachPinLaw", "at", "(IIIII)I"⟩ : MethodName)) hown (Wd hw 123 rfl) (Wd hw 124 rfl) (Wd hw 111 rfl) (Wd hw 125 rfl) (by decide) 0 [(.int (1 : Int32)), (.int (2 : Int32)), (.int (3 : Int32)), (.int (0 : Int32)), (.int (2 : Int32))] [] (rm18 l Z a0 hw (1 : Int32) (2 : Int32) (3 : Int32) (0 : Int32) (2 : Int32) T111.heap n0 sz111 ) (by decide) (by decide) e113 (by rw [hml]; rfl) pd12 rfl rfl (Nat.le_of_eq rfl) (hb hby at_330) (by decide) (by decide) ?_
        intro T114 L114 v114 X114 hQ114
        obtain ⟨rfl, Nq114, e114⟩ := hQ114
        have N114 := Fr.app N113 Nq114
        show Own.Go p e below _ (T114.setTop (mkF m 333 #[.val (.int sh), .val (.int pk), .val (.int pl), .val (.ref b1), .val (.int (1 : Int32)), .val (.int (2 : Int32)), .val (.int (3 : Int32)), .val (.ref b6), .val (.int (3 : Int32)), .val (.int (2 : Int32)), .val (.int (3 : Int32)), .val (.int (2 : Int32)), .val (.int (1 : Int32)), .val (.int (2 : Int32)), .val (.int (1 : Int32)), .val (.int (0 : Int32)), .val (.int (1 : Int32)), .val (.int (3 : Int32)), .val (.int (1 : Int32)), .unset] [(.int (2 : Int32))]))
        refine Own.istore X114 hx (pc := 333) #[.val (.int sh), .val (.int pk), .val (.int pl), .val (.ref b1), .val (.int (1 : Int32)), .val (.int (2 : Int32)), .val (.int (3 : Int32)), .val (.ref b6), .val (.int (3 : Int32)), .val (.int (2 : Int32)), .val (.int (3 : Int32)), .val (.int (2 : Int32)), .val (.int (1 : Int32)), .val (.int (2 : Int32)), .val (.int (1 : Int32)), .val (.int (0 : Int32)), .val (.int (1 : Int32)), .val (.int (3 : Int32)), .val (.int (1 : Int32)), .val (.int (2 : Int32))] (hb hby at_333) rfl ?_
        refine Own.aloadN X114 hx (pc := 335) (hb hby at_335) rfl rfl ?_
        refine Own.iload X114 hx (pc := 336) (hb hby at_336) rfl ?_
        refine Own.iload X114 hx (pc := 338) (hb hby at_338) rfl ?_
        refine Own.iload X114 hx (pc := 340) (hb hby at_340) rfl ?_
        refine Own.iload X114 hx (pc := 342) (hb hby at_342) rfl ?_
        refine Own.callStatic X114 hx hZ (pc := 344) (y := (⟨"com/example/sprigdex/sprigdex/index/html/HtmlTreeDetachPinLaw", "chain", "(Lcom/example/sprigdex/sprigdex/index/html/HtmlTree;IIII)Z"⟩ : MethodName)) hown (Wd hw 109 rfl) (Wd hw 110 rfl) (Wd hw 111 rfl) (Wd hw 112 rfl) (by decide) 0 [(.ref b1), (.int (3 : Int32)), (.int (1 : Int32)), (.int (2 : Int32)), (.int (3 : Int32))] [] (rmC3 l Z a0 hw b1 (3 : Int32) (1 : Int32) (2 : Int32) pa_2 fc_2 nx_2 ((.int (-1 : Int32)) :: (.int (0 : Int32)) :: (.int (0 : Int32)) :: (.int (0 : Int32)) :: own_tl) ((.int (3 : Int32)) :: (.int (-1 : Int32)) :: (.int (-1 : Int32)) :: (.int (-1 : Int32)) :: own_tl) ((.int (-1 : Int32)) :: (.int (2 : Int32)) :: (.int (-1 : Int32)) :: (.int (1 : Int32)) :: own_tl) T111.heap n0 sz111 E_b1 F_b1_parent F_b1_firstChild F_b1_nextSibling V_pa_2 V_fc_2 V_nx_2 rfl (by decide) rfl rfl (by decide) rfl rfl (by decide) rfl rfl) (by decide) (by decide) e114 (by rw [hml]; rfl) pd13 rfl rfl (Nat.le_of_eq rfl) (hb hby at_344) (by decide) (by decide) ?_
        intro T115 L115 v115 X115 hQ115
        obtain ⟨rfl, Nq115, e115⟩ := hQ115
        have N115 := Fr.app N114 Nq115
        show Own.Go p e below _ (T115.setTop (mkF m 347 #[.val (.int sh), .val (.int pk), .val (.int pl), .val (.ref b1), .val (.int (1 : Int32)), .val (.int (2 : Int32)), .val (.int (3 : Int32)), .val (.ref b6), .val (.int (3 : Int32)), .val (.int (2 : Int32)), .val (.int (3 : Int32)), .val (.int (2 : Int32)), .val (.int (1 : Int32)), .val (.int (2 : Int32)), .val (.int (1 : Int32)), .val (.int (0 : Int32)), .val (.int (1 : Int32)), .val (.int (3 : Int32)), .val (.int (1 : Int32)), .val (.int (2 : Int32))] [(.int (1 : Int32))]))
        exact Own.ireturn X115 hx hk hret (by simp) rfl (hb hby at_347) e115 ⟨rfl, N115⟩ (by decide) (by decide)
      · refine Own.istore X109 hx (pc := 257) #[.val (.int sh), .val (.int pk), .val (.int pl), .val (.ref b1), .val (.int (1 : Int32)), .val (.int (2 : Int32)), .val (.int (3 : Int32)), .val (.ref b6), .val (.int (3 : Int32)), .val (.int (2 : Int32)), .val (.int (3 : Int32)), .val (.int (2 : Int32)), .val (.int (1 : Int32)), .val (.int (2 : Int32)), .val (.int (1 : Int32)), .val (.int (1 : Int32)), .unset, .unset, .unset, .unset] (hb hby at_257) rfl ?_
        refine Own.iload X109 hx (pc := 259) (hb hby at_259) rfl ?_
        refine Own.iload X109 hx (pc := 261) (hb hby at_261) rfl ?_
        refine Own.icmpYes X109 hx (pc := 263) 270 (hb hby at_263) (by decide) (by decide) (by decide) ?_
        refine Own.iload X109 hx (pc := 270) (hb hby at_270) rfl ?_
        refine Own.ifYes X109 hx (pc := 272) 280 (hb hby at_272) (by decide) (by decide) (by decide) ?_
        refine Own.iload X109 hx (pc := 280) (hb hby at_280) rfl ?_
        refine Own.istore X109 hx (pc := 282) #[.val (.int sh), .val (.int pk), .val (.int pl), .val (.ref b1), .val (.int (1 : Int32)), .val (.int (2 : Int32)), .val (.int (3 : Int32)), .val (.ref b6), .val (.int (3 : Int32)), .val (.int (2 : Int32)), .val (.int (3 : Int32)), .val (.int (2 : Int32)), .val (.int (1 : Int32)), .val (.int (2 : Int32)), .val (.int (1 : Int32)), .val (.int (1 : Int32)), .val (.int (2 : Int32)), .unset, .unset, .unset] (hb hby at_282) rfl ?_
        refine Own.aloadN X109 hx (pc := 284) (hb hby at_284) rfl rfl ?_
        refine Own.iconst X109 hx (pc := 285) (0 : Int32) (hb hby at_285) (by decide) ?_
        refine Own.iload X109 hx (pc := 286) (hb hby at_286) rfl ?_
        refine Own.iload X109 hx (pc := 288) (hb hby at_288) rfl ?_
        refine Own.callVirtual X109 hx hZ (pc := 290) (y := (⟨"com/example/sprigdex/sprigdex/index/html/HtmlTree", "insert", "(III)V"⟩ : MethodName)) (z := (⟨"com/example/sprigdex/sprigdex/index/html/HtmlTree", "insert", "(III)V"⟩ : MethodName)) hown (Wd hw 93 rfl) (Wd hw 94 rfl) (Wd hw 96 rfl) (Wd hw 95 rfl) (Wd hw 2 rfl) (Wd hw 97 rfl) (Wd hw 96 rfl) (by decide) 0 b1 [(.int (0 : Int32)), (.int (3 : Int32)), (.int (2 : Int32))] [] E_b1 (rmI11 l Z a0 hw b1 (0 : Int32) (3 : Int32) (2 : Int32) pa_2 fc_2 la_2 pv_2 nx_2 ((.int (-1 : Int32)) :: (.int (0 : Int32)) :: (.int (0 : Int32)) :: (.int (-1 : Int32)) :: own_tl) ((.int (1 : Int32)) :: (.int (-1 : Int32)) :: (.int (-1 : Int32)) :: (.int (-1 : Int32)) :: own_tl) ((.int (2 : Int32)) :: (.int (-1 : Int32)) :: (.int (-1 : Int32)) :: (.int (-1 : Int32)) :: own_tl) ((.int (-1 : Int32)) :: (.int (-1 : Int32)) :: (.int (1 : Int32)) :: (.int (-1 : Int32)) :: own_tl) ((.int (-1 : Int32)) :: (.int (2 : Int32)) :: (.int (-1 : Int32)) :: (.int (-1 : Int32)) :: own_tl) (1 : Int32) T106.heap n0 sz106 E_b1 F_b1_parent F_b1_firstChild F_b1_lastChild F_b1_previousSibling F_b1_nextSibling V_pa_2 V_fc_2 V_la_2 V_pv_2 V_nx_2 ge_pa_2 ge_fc_2 ge_la_2 ge_pv_2 ge_nx_2 ne_b1_pa_2 ne_b1_fc_2 ne_b1_la_2 ne_b1_pv_2 ne_b1_nx_2 ne_pa_2_fc_2 ne_pa_2_la_2 ne_pa_2_pv_2 ne_pa_2_nx_2 ne_fc_2_la_2 ne_fc_2_pv_2 ne_fc_2_nx_2 ne_la_2_pv_2 ne_la_2_nx_2 ne_pv_2_nx_2 rfl rfl rfl rfl rfl (by decide) (by decide) (by decide) (by decide) (by decide) (by decide) (by decide) (by decide) rfl rfl (by decide) (by decide)) (by decide) (by decide) e109 (by rw [hml]; rfl) pd11 rfl rfl (Nat.le_of_eq rfl) (hb hby at_290) (by decide) (by decide) ?_
        intro T116 L116 v116 X116 hQ116
        obtain ⟨rfl, Nq116, K116, V_pa_2', V_fc_2', V_la_2', V_pv_2', V_nx_2'⟩ := hQ116
        have e116 : T116.heap = T116.heap := rfl
        have E_b1 := E_b1.keep K116
        have F_b1_parent := F_b1_parent.keep K116 (ninS ne_b1_pa_2 (ninS ne_b1_fc_2 (ninS ne_b1_la_2 (ninS ne_b1_pv_2 (ninS ne_b1_nx_2 nin0)))))
        have F_b1_firstChild := F_b1_firstChild.keep K116 (ninS ne_b1_pa_2 (ninS ne_b1_fc_2 (ninS ne_b1_la_2 (ninS ne_b1_pv_2 (ninS ne_b1_nx_2 nin0)))))
        have F_b1_lastChild := F_b1_lastChild.keep K116 (ninS ne_b1_pa_2 (ninS ne_b1_fc_2 (ninS ne_b1_la_2 (ninS ne_b1_pv_2 (ninS ne_b1_nx_2 nin0)))))
        have F_b1_previousSibling := F_b1_previousSibling.keep K116 (ninS ne_b1_pa_2 (ninS ne_b1_fc_2 (ninS ne_b1_la_2 (ninS ne_b1_pv_2 (ninS ne_b1_nx_2 nin0)))))
        have F_b1_nextSibling := F_b1_nextSibling.keep K116 (ninS ne_b1_pa_2 (ninS ne_b1_fc_2 (ninS ne_b1_la_2 (ninS ne_b1_pv_2 (ninS ne_b1_nx_2 nin0)))))
        have V_b6 := V_b6.keep K116 (ninS (Ne.symm ne_pa_2_b6) (ninS (Ne.symm ne_fc_2_b6) (ninS (Ne.symm ne_la_2_b6) (ninS (Ne.symm ne_pv_2_b6) (ninS (Ne.symm ne_nx_2_b6) nin0)))))
        have sz116 : n0 ≤ T116.heap.size := Nat.le_trans sz106 K116.1
        have V_pa_2 : Own.VArr Z T116.heap pa_2 .int ((.int (-1 : Int32)) :: (.int (0 : Int32)) :: (.int (0 : Int32)) :: (.int (0 : Int32)) :: own_tl) := V_pa_2'
        have V_fc_2 : Own.VArr Z T116.heap fc_2 .int ((.int (1 : Int32)) :: (.int (-1 : Int32)) :: (.int (-1 : Int32)) :: (.int (-1 : Int32)) :: own_tl) := V_fc_2'
        have V_la_2 : Own.VArr Z T116.heap la_2 .int ((.int (2 : Int32)) :: (.int (-1 : Int32)) :: (.int (-1 : Int32)) :: (.int (-1 : Int32)) :: own_tl) := V_la_2'
        have V_pv_2 : Own.VArr Z T116.heap pv_2 .int ((.int (-1 : Int32)) :: (.int (-1 : Int32)) :: (.int (3 : Int32)) :: (.int (1 : Int32)) :: own_tl) := V_pv_2'
        have V_nx_2 : Own.VArr Z T116.heap nx_2 .int ((.int (-1 : Int32)) :: (.int (3 : Int32)) :: (.int (-1 : Int32)) :: (.int (2 : Int32)) :: own_tl) := V_nx_2'
        have N116 := Fr.app N109 Nq116
        show Own.Go p e below _ (T116.setTop (mkF m 293 #[.val (.int sh), .val (.int pk), .val (.int pl), .val (.ref b1), .val (.int (1 : Int32)), .val (.int (2 : Int32)), .val (.int (3 : Int32)), .val (.ref b6), .val (.int (3 : Int32)), .val (.int (2 : Int32)), .val (.int (3 : Int32)), .val (.int (2 : Int32)), .val (.int (1 : Int32)), .val (.int (2 : Int32)), .val (.int (1 : Int32)), .val (.int (1 : Int32)), .val (.int (2 : Int32)), .unset, .unset, .unset] []))
        refine Own.iload X116 hx (pc := 293) (hb hby at_293) rfl ?_
        refine Own.iload X116 hx (pc := 295) (hb hby at_295) rfl ?_
        refine Own.iload X116 hx (pc := 297) (hb hby at_297) rfl ?_
        refine Own.iload X116 hx (pc := 299) (hb hby at_299) rfl ?_
        refine Own.iconst X116 hx (pc := 301) (0 : Int32) (hb hby at_301) (by decide) ?_
        refine Own.callStatic X116 hx hZ (pc := 302) (y := (⟨"com/example/sprigdex/sprigdex/index/html/HtmlTreeDetachPinLaw", "at", "(IIIII)I"⟩ : MethodName)) hown (Wd hw 123 rfl) (Wd hw 124 rfl) (Wd hw 111 rfl) (Wd hw 125 rfl) (by decide) 0 [(.int (1 : Int32)), (.int (2 : Int32)), (.int (3 : Int32)), (.int (1 : Int32)), (.int (0 : Int32))] [] (rm18 l Z a0 hw (1 : Int32) (2 : Int32) (3 : Int32) (1 : Int32) (0 : Int32) T116.heap n0 sz116 ) (by decide) (by decide) e116 (by rw [hml]; rfl) pd12 rfl rfl (Nat.le_of_eq rfl) (hb hby at_302) (by decide) (by decide) ?_
        intro T117 L117 v117 X117 hQ117
        obtain ⟨rfl, Nq117, e117⟩ := hQ117
        have N117 := Fr.app N116 Nq117
        show Own.Go p e below _ (T117.setTop (mkF m 305 #[.val (.int sh), .val (.int pk), .val (.int pl), .val (.ref b1), .val (.int (1 : Int32)), .val (.int (2 : Int32)), .val (.int (3 : Int32)), .val (.ref b6), .val (.int (3 : Int32)), .val (.int (2 : Int32)), .val (.int (3 : Int32)), .val (.int (2 : Int32)), .val (.int (1 : Int32)), .val (.int (2 : Int32)), .val (.int (1 : Int32)), .val (.int (1 : Int32)), .val (.int (2 : Int32)), .unset, .unset, .unset] [(.int (1 : Int32))]))
        refine Own.istore X117 hx (pc := 305) #[.val (.int sh), .val (.int pk), .val (.int pl), .val (.ref b1), .val (.int (1 : Int32)), .val (.int (2 : Int32)), .val (.int (3 : Int32)), .val (.ref b6), .val (.int (3 : Int32)), .val (.int (2 : Int32)), .val (.int (3 : Int32)), .val (.int (2 : Int32)), .val (.int (1 : Int32)), .val (.int (2 : Int32)), .val (.int (1 : Int32)), .val (.int (1 : Int32)), .val (.int (2 : Int32)), .val (.int (1 : Int32)), .unset, .unset] (hb hby at_305) rfl ?_
        refine Own.iload X117 hx (pc := 307) (hb hby at_307) rfl ?_
        refine Own.iload X117 hx (pc := 309) (hb hby at_309) rfl ?_
        refine Own.iload X117 hx (pc := 311) (hb hby at_311) rfl ?_
        refine Own.iload X117 hx (pc := 313) (hb hby at_313) rfl ?_
        refine Own.iconst X117 hx (pc := 315) (1 : Int32) (hb hby at_315) (by decide) ?_
        refine Own.callStatic X117 hx hZ (pc := 316) (y := (⟨"com/example/sprigdex/sprigdex/index/html/HtmlTreeDetachPinLaw", "at", "(IIIII)I"⟩ : MethodName)) hown (Wd hw 123 rfl) (Wd hw 124 rfl) (Wd hw 111 rfl) (Wd hw 125 rfl) (by decide) 0 [(.int (1 : Int32)), (.int (2 : Int32)), (.int (3 : Int32)), (.int (1 : Int32)), (.int (1 : Int32))] [] (rm18 l Z a0 hw (1 : Int32) (2 : Int32) (3 : Int32) (1 : Int32) (1 : Int32) T116.heap n0 sz116 ) (by decide) (by decide) e117 (by rw [hml]; rfl) pd12 rfl rfl (Nat.le_of_eq rfl) (hb hby at_316) (by decide) (by decide) ?_
        intro T118 L118 v118 X118 hQ118
        obtain ⟨rfl, Nq118, e118⟩ := hQ118
        have N118 := Fr.app N117 Nq118
        show Own.Go p e below _ (T118.setTop (mkF m 319 #[.val (.int sh), .val (.int pk), .val (.int pl), .val (.ref b1), .val (.int (1 : Int32)), .val (.int (2 : Int32)), .val (.int (3 : Int32)), .val (.ref b6), .val (.int (3 : Int32)), .val (.int (2 : Int32)), .val (.int (3 : Int32)), .val (.int (2 : Int32)), .val (.int (1 : Int32)), .val (.int (2 : Int32)), .val (.int (1 : Int32)), .val (.int (1 : Int32)), .val (.int (2 : Int32)), .val (.int (1 : Int32)), .unset, .unset] [(.int (3 : Int32))]))
        refine Own.istore X118 hx (pc := 319) #[.val (.int sh), .val (.int pk), .val (.int pl), .val (.ref b1), .val (.int (1 : Int32)), .val (.int (2 : Int32)), .val (.int (3 : Int32)), .val (.ref b6), .val (.int (3 : Int32)), .val (.int (2 : Int32)), .val (.int (3 : Int32)), .val (.int (2 : Int32)), .val (.int (1 : Int32)), .val (.int (2 : Int32)), .val (.int (1 : Int32)), .val (.int (1 : Int32)), .val (.int (2 : Int32)), .val (.int (1 : Int32)), .val (.int (3 : Int32)), .unset] (hb hby at_319) rfl ?_
        refine Own.iload X118 hx (pc := 321) (hb hby at_321) rfl ?_
        refine Own.iload X118 hx (pc := 323) (hb hby at_323) rfl ?_
        refine Own.iload X118 hx (pc := 325) (hb hby at_325) rfl ?_
        refine Own.iload X118 hx (pc := 327) (hb hby at_327) rfl ?_
        refine Own.iconst X118 hx (pc := 329) (2 : Int32) (hb hby at_329) (by decide) ?_
        refine Own.callStatic X118 hx hZ (pc := 330) (y := (⟨"com/example/sprigdex/sprigdex/index/html/HtmlTreeDetachPinLaw", "at", "(IIIII)I"⟩ : MethodName)) hown (Wd hw 123 rfl) (Wd hw 124 rfl) (Wd hw 111 rfl) (Wd hw 125 rfl) (by decide) 0 [(.int (1 : Int32)), (.int (2 : Int32)), (.int (3 : Int32)), (.int (1 : Int32)), (.int (2 : Int32))] [] (rm18 l Z a0 hw (1 : Int32) (2 : Int32) (3 : Int32) (1 : Int32) (2 : Int32) T116.heap n0 sz116 ) (by decide) (by decide) e118 (by rw [hml]; rfl) pd12 rfl rfl (Nat.le_of_eq rfl) (hb hby at_330) (by decide) (by decide) ?_
        intro T119 L119 v119 X119 hQ119
        obtain ⟨rfl, Nq119, e119⟩ := hQ119
        have N119 := Fr.app N118 Nq119
        show Own.Go p e below _ (T119.setTop (mkF m 333 #[.val (.int sh), .val (.int pk), .val (.int pl), .val (.ref b1), .val (.int (1 : Int32)), .val (.int (2 : Int32)), .val (.int (3 : Int32)), .val (.ref b6), .val (.int (3 : Int32)), .val (.int (2 : Int32)), .val (.int (3 : Int32)), .val (.int (2 : Int32)), .val (.int (1 : Int32)), .val (.int (2 : Int32)), .val (.int (1 : Int32)), .val (.int (1 : Int32)), .val (.int (2 : Int32)), .val (.int (1 : Int32)), .val (.int (3 : Int32)), .unset] [(.int (2 : Int32))]))
        refine Own.istore X119 hx (pc := 333) #[.val (.int sh), .val (.int pk), .val (.int pl), .val (.ref b1), .val (.int (1 : Int32)), .val (.int (2 : Int32)), .val (.int (3 : Int32)), .val (.ref b6), .val (.int (3 : Int32)), .val (.int (2 : Int32)), .val (.int (3 : Int32)), .val (.int (2 : Int32)), .val (.int (1 : Int32)), .val (.int (2 : Int32)), .val (.int (1 : Int32)), .val (.int (1 : Int32)), .val (.int (2 : Int32)), .val (.int (1 : Int32)), .val (.int (3 : Int32)), .val (.int (2 : Int32))] (hb hby at_333) rfl ?_
        refine Own.aloadN X119 hx (pc := 335) (hb hby at_335) rfl rfl ?_
        refine Own.iload X119 hx (pc := 336) (hb hby at_336) rfl ?_
        refine Own.iload X119 hx (pc := 338) (hb hby at_338) rfl ?_
        refine Own.iload X119 hx (pc := 340) (hb hby at_340) rfl ?_
        refine Own.iload X119 hx (pc := 342) (hb hby at_342) rfl ?_
        refine Own.callStatic X119 hx hZ (pc := 344) (y := (⟨"com/example/sprigdex/sprigdex/index/html/HtmlTreeDetachPinLaw", "chain", "(Lcom/example/sprigdex/sprigdex/index/html/HtmlTree;IIII)Z"⟩ : MethodName)) hown (Wd hw 109 rfl) (Wd hw 110 rfl) (Wd hw 111 rfl) (Wd hw 112 rfl) (by decide) 0 [(.ref b1), (.int (1 : Int32)), (.int (3 : Int32)), (.int (2 : Int32)), (.int (3 : Int32))] [] (rmC3 l Z a0 hw b1 (1 : Int32) (3 : Int32) (2 : Int32) pa_2 fc_2 nx_2 ((.int (-1 : Int32)) :: (.int (0 : Int32)) :: (.int (0 : Int32)) :: (.int (0 : Int32)) :: own_tl) ((.int (1 : Int32)) :: (.int (-1 : Int32)) :: (.int (-1 : Int32)) :: (.int (-1 : Int32)) :: own_tl) ((.int (-1 : Int32)) :: (.int (3 : Int32)) :: (.int (-1 : Int32)) :: (.int (2 : Int32)) :: own_tl) T116.heap n0 sz116 E_b1 F_b1_parent F_b1_firstChild F_b1_nextSibling V_pa_2 V_fc_2 V_nx_2 rfl (by decide) rfl rfl (by decide) rfl rfl (by decide) rfl rfl) (by decide) (by decide) e119 (by rw [hml]; rfl) pd13 rfl rfl (Nat.le_of_eq rfl) (hb hby at_344) (by decide) (by decide) ?_
        intro T120 L120 v120 X120 hQ120
        obtain ⟨rfl, Nq120, e120⟩ := hQ120
        have N120 := Fr.app N119 Nq120
        show Own.Go p e below _ (T120.setTop (mkF m 347 #[.val (.int sh), .val (.int pk), .val (.int pl), .val (.ref b1), .val (.int (1 : Int32)), .val (.int (2 : Int32)), .val (.int (3 : Int32)), .val (.ref b6), .val (.int (3 : Int32)), .val (.int (2 : Int32)), .val (.int (3 : Int32)), .val (.int (2 : Int32)), .val (.int (1 : Int32)), .val (.int (2 : Int32)), .val (.int (1 : Int32)), .val (.int (1 : Int32)), .val (.int (2 : Int32)), .val (.int (1 : Int32)), .val (.int (3 : Int32)), .val (.int (2 : Int32))] [(.int (1 : Int32))]))
        exact Own.ireturn X120 hx hk hret (by simp) rfl (hb hby at_347) e120 ⟨rfl, N120⟩ (by decide) (by decide)
      · refine Own.istore X109 hx (pc := 257) #[.val (.int sh), .val (.int pk), .val (.int pl), .val (.ref b1), .val (.int (1 : Int32)), .val (.int (2 : Int32)), .val (.int (3 : Int32)), .val (.ref b6), .val (.int (3 : Int32)), .val (.int (2 : Int32)), .val (.int (3 : Int32)), .val (.int (2 : Int32)), .val (.int (1 : Int32)), .val (.int (2 : Int32)), .val (.int (1 : Int32)), .val (.int (2 : Int32)), .unset, .unset, .unset, .unset] (hb hby at_257) rfl ?_
        refine Own.iload X109 hx (pc := 259) (hb hby at_259) rfl ?_
        refine Own.iload X109 hx (pc := 261) (hb hby at_261) rfl ?_
        refine Own.icmpNo X109 hx (pc := 263) (hb hby at_263) (by decide) ?_
        refine Own.iconst X109 hx (pc := 266) (-1 : Int32) (hb hby at_266) (by decide) ?_
        refine Own.goto X109 hx (pc := 267) 282 (hb hby at_267) (by decide) (by decide) ?_
        refine Own.istore X109 hx (pc := 282) #[.val (.int sh), .val (.int pk), .val (.int pl), .val (.ref b1), .val (.int (1 : Int32)), .val (.int (2 : Int32)), .val (.int (3 : Int32)), .val (.ref b6), .val (.int (3 : Int32)), .val (.int (2 : Int32)), .val (.int (3 : Int32)), .val (.int (2 : Int32)), .val (.int (1 : Int32)), .val (.int (2 : Int32)), .val (.int (1 : Int32)), .val (.int (2 : Int32)), .val (.int (-1 : Int32)), .unset, .unset, .unset] (hb hby at_282) rfl ?_
        refine Own.aloadN X109 hx (pc := 284) (hb hby at_284) rfl rfl ?_
        refine Own.iconst X109 hx (pc := 285) (0 : Int32) (hb hby at_285) (by decide) ?_
        refine Own.iload X109 hx (pc := 286) (hb hby at_286) rfl ?_
        refine Own.iload X109 hx (pc := 288) (hb hby at_288) rfl ?_
        refine Own.callVirtual X109 hx hZ (pc := 290) (y := (⟨"com/example/sprigdex/sprigdex/index/html/HtmlTree", "insert", "(III)V"⟩ : MethodName)) (z := (⟨"com/example/sprigdex/sprigdex/index/html/HtmlTree", "insert", "(III)V"⟩ : MethodName)) hown (Wd hw 93 rfl) (Wd hw 94 rfl) (Wd hw 96 rfl) (Wd hw 95 rfl) (Wd hw 2 rfl) (Wd hw 97 rfl) (Wd hw 96 rfl) (by decide) 0 b1 [(.int (0 : Int32)), (.int (3 : Int32)), (.int (-1 : Int32))] [] E_b1 (rmI01 l Z a0 hw b1 (0 : Int32) (3 : Int32) pa_2 fc_2 la_2 pv_2 nx_2 ((.int (-1 : Int32)) :: (.int (0 : Int32)) :: (.int (0 : Int32)) :: (.int (-1 : Int32)) :: own_tl) ((.int (1 : Int32)) :: (.int (-1 : Int32)) :: (.int (-1 : Int32)) :: (.int (-1 : Int32)) :: own_tl) ((.int (2 : Int32)) :: (.int (-1 : Int32)) :: (.int (-1 : Int32)) :: (.int (-1 : Int32)) :: own_tl) ((.int (-1 : Int32)) :: (.int (-1 : Int32)) :: (.int (1 : Int32)) :: (.int (-1 : Int32)) :: own_tl) ((.int (-1 : Int32)) :: (.int (2 : Int32)) :: (.int (-1 : Int32)) :: (.int (-1 : Int32)) :: own_tl) (2 : Int32) T106.heap n0 sz106 E_b1 F_b1_parent F_b1_firstChild F_b1_lastChild F_b1_previousSibling F_b1_nextSibling V_pa_2 V_fc_2 V_la_2 V_pv_2 V_nx_2 ge_pa_2 ge_fc_2 ge_la_2 ge_pv_2 ge_nx_2 ne_b1_pa_2 ne_b1_fc_2 ne_b1_la_2 ne_b1_pv_2 ne_b1_nx_2 ne_pa_2_fc_2 ne_pa_2_la_2 ne_pa_2_pv_2 ne_pa_2_nx_2 ne_fc_2_la_2 ne_fc_2_pv_2 ne_fc_2_nx_2 ne_la_2_pv_2 ne_la_2_nx_2 ne_pv_2_nx_2 rfl rfl rfl rfl rfl (by decide) (by decide) (by decide) (by decide) (by decide) (by decide) rfl rfl (by decide)) (by decide) (by decide) e109 (by rw [hml]; rfl) pd11 rfl rfl (Nat.le_of_eq rfl) (hb hby at_290) (by decide) (by decide) ?_
        intro T121 L121 v121 X121 hQ121
        obtain ⟨rfl, Nq121, K121, V_pa_2', V_fc_2', V_la_2', V_pv_2', V_nx_2'⟩ := hQ121
        have e121 : T121.heap = T121.heap := rfl
        have E_b1 := E_b1.keep K121
        have F_b1_parent := F_b1_parent.keep K121 (ninS ne_b1_pa_2 (ninS ne_b1_fc_2 (ninS ne_b1_la_2 (ninS ne_b1_pv_2 (ninS ne_b1_nx_2 nin0)))))
        have F_b1_firstChild := F_b1_firstChild.keep K121 (ninS ne_b1_pa_2 (ninS ne_b1_fc_2 (ninS ne_b1_la_2 (ninS ne_b1_pv_2 (ninS ne_b1_nx_2 nin0)))))
        have F_b1_lastChild := F_b1_lastChild.keep K121 (ninS ne_b1_pa_2 (ninS ne_b1_fc_2 (ninS ne_b1_la_2 (ninS ne_b1_pv_2 (ninS ne_b1_nx_2 nin0)))))
        have F_b1_previousSibling := F_b1_previousSibling.keep K121 (ninS ne_b1_pa_2 (ninS ne_b1_fc_2 (ninS ne_b1_la_2 (ninS ne_b1_pv_2 (ninS ne_b1_nx_2 nin0)))))
        have F_b1_nextSibling := F_b1_nextSibling.keep K121 (ninS ne_b1_pa_2 (ninS ne_b1_fc_2 (ninS ne_b1_la_2 (ninS ne_b1_pv_2 (ninS ne_b1_nx_2 nin0)))))
        have V_b6 := V_b6.keep K121 (ninS (Ne.symm ne_pa_2_b6) (ninS (Ne.symm ne_fc_2_b6) (ninS (Ne.symm ne_la_2_b6) (ninS (Ne.symm ne_pv_2_b6) (ninS (Ne.symm ne_nx_2_b6) nin0)))))
        have sz121 : n0 ≤ T121.heap.size := Nat.le_trans sz106 K121.1
        have V_pa_2 : Own.VArr Z T121.heap pa_2 .int ((.int (-1 : Int32)) :: (.int (0 : Int32)) :: (.int (0 : Int32)) :: (.int (0 : Int32)) :: own_tl) := V_pa_2'
        have V_fc_2 : Own.VArr Z T121.heap fc_2 .int ((.int (1 : Int32)) :: (.int (-1 : Int32)) :: (.int (-1 : Int32)) :: (.int (-1 : Int32)) :: own_tl) := V_fc_2'
        have V_la_2 : Own.VArr Z T121.heap la_2 .int ((.int (3 : Int32)) :: (.int (-1 : Int32)) :: (.int (-1 : Int32)) :: (.int (-1 : Int32)) :: own_tl) := V_la_2'
        have V_pv_2 : Own.VArr Z T121.heap pv_2 .int ((.int (-1 : Int32)) :: (.int (-1 : Int32)) :: (.int (1 : Int32)) :: (.int (2 : Int32)) :: own_tl) := V_pv_2'
        have V_nx_2 : Own.VArr Z T121.heap nx_2 .int ((.int (-1 : Int32)) :: (.int (2 : Int32)) :: (.int (3 : Int32)) :: (.int (-1 : Int32)) :: own_tl) := V_nx_2'
        have N121 := Fr.app N109 Nq121
        show Own.Go p e below _ (T121.setTop (mkF m 293 #[.val (.int sh), .val (.int pk), .val (.int pl), .val (.ref b1), .val (.int (1 : Int32)), .val (.int (2 : Int32)), .val (.int (3 : Int32)), .val (.ref b6), .val (.int (3 : Int32)), .val (.int (2 : Int32)), .val (.int (3 : Int32)), .val (.int (2 : Int32)), .val (.int (1 : Int32)), .val (.int (2 : Int32)), .val (.int (1 : Int32)), .val (.int (2 : Int32)), .val (.int (-1 : Int32)), .unset, .unset, .unset] []))
        refine Own.iload X121 hx (pc := 293) (hb hby at_293) rfl ?_
        refine Own.iload X121 hx (pc := 295) (hb hby at_295) rfl ?_
        refine Own.iload X121 hx (pc := 297) (hb hby at_297) rfl ?_
        refine Own.iload X121 hx (pc := 299) (hb hby at_299) rfl ?_
        refine Own.iconst X121 hx (pc := 301) (0 : Int32) (hb hby at_301) (by decide) ?_
        refine Own.callStatic X121 hx hZ (pc := 302) (y := (⟨"com/example/sprigdex/sprigdex/index/html/HtmlTreeDetachPinLaw", "at", "(IIIII)I"⟩ : MethodName)) hown (Wd hw 123 rfl) (Wd hw 124 rfl) (Wd hw 111 rfl) (Wd hw 125 rfl) (by decide) 0 [(.int (1 : Int32)), (.int (2 : Int32)), (.int (3 : Int32)), (.int (2 : Int32)), (.int (0 : Int32))] [] (rm18 l Z a0 hw (1 : Int32) (2 : Int32) (3 : Int32) (2 : Int32) (0 : Int32) T121.heap n0 sz121 ) (by decide) (by decide) e121 (by rw [hml]; rfl) pd12 rfl rfl (Nat.le_of_eq rfl) (hb hby at_302) (by decide) (by decide) ?_
        intro T122 L122 v122 X122 hQ122
        obtain ⟨rfl, Nq122, e122⟩ := hQ122
        have N122 := Fr.app N121 Nq122
        show Own.Go p e below _ (T122.setTop (mkF m 305 #[.val (.int sh), .val (.int pk), .val (.int pl), .val (.ref b1), .val (.int (1 : Int32)), .val (.int (2 : Int32)), .val (.int (3 : Int32)), .val (.ref b6), .val (.int (3 : Int32)), .val (.int (2 : Int32)), .val (.int (3 : Int32)), .val (.int (2 : Int32)), .val (.int (1 : Int32)), .val (.int (2 : Int32)), .val (.int (1 : Int32)), .val (.int (2 : Int32)), .val (.int (-1 : Int32)), .unset, .unset, .unset] [(.int (1 : Int32))]))
        refine Own.istore X122 hx (pc := 305) #[.val (.int sh), .val (.int pk), .val (.int pl), .val (.ref b1), .val (.int (1 : Int32)), .val (.int (2 : Int32)), .val (.int (3 : Int32)), .val (.ref b6), .val (.int (3 : Int32)), .val (.int (2 : Int32)), .val (.int (3 : Int32)), .val (.int (2 : Int32)), .val (.int (1 : Int32)), .val (.int (2 : Int32)), .val (.int (1 : Int32)), .val (.int (2 : Int32)), .val (.int (-1 : Int32)), .val (.int (1 : Int32)), .unset, .unset] (hb hby at_305) rfl ?_
        refine Own.iload X122 hx (pc := 307) (hb hby at_307) rfl ?_
        refine Own.iload X122 hx (pc := 309) (hb hby at_309) rfl ?_
        refine Own.iload X122 hx (pc := 311) (hb hby at_311) rfl ?_
        refine Own.iload X122 hx (pc := 313) (hb hby at_313) rfl ?_
        refine Own.iconst X122 hx (pc := 315) (1 : Int32) (hb hby at_315) (by decide) ?_
        refine Own.callStatic X122 hx hZ (pc := 316) (y := (⟨"com/example/sprigdex/sprigdex/index/html/HtmlTreeDetachPinLaw", "at", "(IIIII)I"⟩ : MethodName)) hown (Wd hw 123 rfl) (Wd hw 124 rfl) (Wd hw 111 rfl) (Wd hw 125 rfl) (by decide) 0 [(.int (1 : Int32)), (.int (2 : Int32)), (.int (3 : Int32)), (.int (2 : Int32)), (.int (1 : Int32))] [] (rm18 l Z a0 hw (1 : Int32) (2 : Int32) (3 : Int32) (2 : Int32) (1 : Int32) T121.heap n0 sz121 ) (by decide) (by decide) e122 (by rw [hml]; rfl) pd12 rfl rfl (Nat.le_of_eq rfl) (hb hby at_316) (by decide) (by decide) ?_
        intro T123 L123 v123 X123 hQ123
        obtain ⟨rfl, Nq123, e123⟩ := hQ123
        have N123 := Fr.app N122 Nq123
        show Own.Go p e below _ (T123.setTop (mkF m 319 #[.val (.int sh), .val (.int pk), .val (.int pl), .val (.ref b1), .val (.int (1 : Int32)), .val (.int (2 : Int32)), .val (.int (3 : Int32)), .val (.ref b6), .val (.int (3 : Int32)), .val (.int (2 : Int32)), .val (.int (3 : Int32)), .val (.int (2 : Int32)), .val (.int (1 : Int32)), .val (.int (2 : Int32)), .val (.int (1 : Int32)), .val (.int (2 : Int32)), .val (.int (-1 : Int32)), .val (.int (1 : Int32)), .unset, .unset] [(.int (2 : Int32))]))
        refine Own.istore X123 hx (pc := 319) #[.val (.int sh), .val (.int pk), .val (.int pl), .val (.ref b1), .val (.int (1 : Int32)), .val (.int (2 : Int32)), .val (.int (3 : Int32)), .val (.ref b6), .val (.int (3 : Int32)), .val (.int (2 : Int32)), .val (.int (3 : Int32)), .val (.int (2 : Int32)), .val (.int (1 : Int32)), .val (.int (2 : Int32)), .val (.int (1 : Int32)), .val (.int (2 : Int32)), .val (.int (-1 : Int32)), .val (.int (1 : Int32)), .val (.int (2 : Int32)), .unset] (hb hby at_319) rfl ?_
        refine Own.iload X123 hx (pc := 321) (hb hby at_321) rfl ?_
        refine Own.iload X123 hx (pc := 323) (hb hby at_323) rfl ?_
        refine Own.iload X123 hx (pc := 325) (hb hby at_325) rfl ?_
        refine Own.iload X123 hx (pc := 327) (hb hby at_327) rfl ?_
        refine Own.iconst X123 hx (pc := 329) (2 : Int32) (hb hby at_329) (by decide) ?_
        refine Own.callStatic X123 hx hZ (pc := 330) (y := (⟨"com/example/sprigdex/sprigdex/index/html/HtmlTreeDetachPinLaw", "at", "(IIIII)I"⟩ : MethodName)) hown (Wd hw 123 rfl) (Wd hw 124 rfl) (Wd hw 111 rfl) (Wd hw 125 rfl) (by decide) 0 [(.int (1 : Int32)), (.int (2 : Int32)), (.int (3 : Int32)), (.int (2 : Int32)), (.int (2 : Int32))] [] (rm18 l Z a0 hw (1 : Int32) (2 : Int32) (3 : Int32) (2 : Int32) (2 : Int32) T121.heap n0 sz121 ) (by decide) (by decide) e123 (by rw [hml]; rfl) pd12 rfl rfl (Nat.le_of_eq rfl) (hb hby at_330) (by decide) (by decide) ?_
        intro T124 L124 v124 X124 hQ124
        obtain ⟨rfl, Nq124, e124⟩ := hQ124
        have N124 := Fr.app N123 Nq124
        show Own.Go p e below _ (T124.setTop (mkF m 333 #[.val (.int sh), .val (.int pk), .val (.int pl), .val (.ref b1), .val (.int (1 : Int32)), .val (.int (2 : Int32)), .val (.int (3 : Int32)), .val (.ref b6), .val (.int (3 : Int32)), .val (.int (2 : Int32)), .val (.int (3 : Int32)), .val (.int (2 : Int32)), .val (.int (1 : Int32)), .val (.int (2 : Int32)), .val (.int (1 : Int32)), .val (.int (2 : Int32)), .val (.int (-1 : Int32)), .val (.int (1 : Int32)), .val (.int (2 : Int32)), .unset] [(.int (3 : Int32))]))
        refine Own.istore X124 hx (pc := 333) #[.val (.int sh), .val (.int pk), .val (.int pl), .val (.ref b1), .val (.int (1 : Int32)), .val (.int (2 : Int32)), .val (.int (3 : Int32)), .val (.ref b6), .val (.int (3 : Int32)), .val (.int (2 : Int32)), .val (.int (3 : Int32)), .val (.int (2 : Int32)), .val (.int (1 : Int32)), .val (.int (2 : Int32)), .val (.int (1 : Int32)), .val (.int (2 : Int32)), .val (.int (-1 : Int32)), .val (.int (1 : Int32)), .val (.int (2 : Int32)), .val (.int (3 : Int32))] (hb hby at_333) rfl ?_
        refine Own.aloadN X124 hx (pc := 335) (hb hby at_335) rfl rfl ?_
        refine Own.iload X124 hx (pc := 336) (hb hby at_336) rfl ?_
        refine Own.iload X124 hx (pc := 338) (hb hby at_338) rfl ?_
        refine Own.iload X124 hx (pc := 340) (hb hby at_340) rfl ?_
        refine Own.iload X124 hx (pc := 342) (hb hby at_342) rfl ?_
        refine Own.callStatic X124 hx hZ (pc := 344) (y := (⟨"com/example/sprigdex/sprigdex/index/html/HtmlTreeDetachPinLaw", "chain", "(Lcom/example/sprigdex/sprigdex/index/html/HtmlTree;IIII)Z"⟩ : MethodName)) hown (Wd hw 109 rfl) (Wd hw 110 rfl) (Wd hw 111 rfl) (Wd hw 112 rfl) (by decide) 0 [(.ref b1), (.int (1 : Int32)), (.int (2 : Int32)), (.int (3 : Int32)), (.int (3 : Int32))] [] (rmC3 l Z a0 hw b1 (1 : Int32) (2 : Int32) (3 : Int32) pa_2 fc_2 nx_2 ((.int (-1 : Int32)) :: (.int (0 : Int32)) :: (.int (0 : Int32)) :: (.int (0 : Int32)) :: own_tl) ((.int (1 : Int32)) :: (.int (-1 : Int32)) :: (.int (-1 : Int32)) :: (.int (-1 : Int32)) :: own_tl) ((.int (-1 : Int32)) :: (.int (2 : Int32)) :: (.int (3 : Int32)) :: (.int (-1 : Int32)) :: own_tl) T121.heap n0 sz121 E_b1 F_b1_parent F_b1_firstChild F_b1_nextSibling V_pa_2 V_fc_2 V_nx_2 rfl (by decide) rfl rfl (by decide) rfl rfl (by decide) rfl rfl) (by decide) (by decide) e124 (by rw [hml]; rfl) pd13 rfl rfl (Nat.le_of_eq rfl) (hb hby at_344) (by decide) (by decide) ?_
        intro T125 L125 v125 X125 hQ125
        obtain ⟨rfl, Nq125, e125⟩ := hQ125
        have N125 := Fr.app N124 Nq125
        show Own.Go p e below _ (T125.setTop (mkF m 347 #[.val (.int sh), .val (.int pk), .val (.int pl), .val (.ref b1), .val (.int (1 : Int32)), .val (.int (2 : Int32)), .val (.int (3 : Int32)), .val (.ref b6), .val (.int (3 : Int32)), .val (.int (2 : Int32)), .val (.int (3 : Int32)), .val (.int (2 : Int32)), .val (.int (1 : Int32)), .val (.int (2 : Int32)), .val (.int (1 : Int32)), .val (.int (2 : Int32)), .val (.int (-1 : Int32)), .val (.int (1 : Int32)), .val (.int (2 : Int32)), .val (.int (3 : Int32))] [(.int (1 : Int32))]))
        exact Own.ireturn X125 hx hk hret (by simp) rfl (hb hby at_347) e125 ⟨rfl, N125⟩ (by decide) (by decide)
    · refine Own.istore X64 hx (pc := 105) #[.val (.int sh), .val (.int pk), .val (.int pl), .val (.ref b1), .val (.int (1 : Int32)), .val (.int (2 : Int32)), .val (.int (3 : Int32)), .val (.ref b6), .val (.int (3 : Int32)), .val (.int (3 : Int32)), .unset, .unset, .unset, .unset, .unset, .unset, .unset, .unset, .unset, .unset] (hb hby at_105) rfl ?_
      refine Own.iload X64 hx (pc := 107) (hb hby at_107) rfl ?_
      refine Own.iload X64 hx (pc := 109) (hb hby at_109) rfl ?_
      refine Own.icmpNo X64 hx (pc := 111) (hb hby at_111) (by decide) ?_
      refine Own.aloadN X64 hx (pc := 114) (hb hby at_114) rfl rfl ?_
      refine Own.iconst X64 hx (pc := 115) (0 : Int32) (hb hby at_115) (by decide) ?_
      refine Own.callVirtual X64 hx hZ (pc := 116) (y := (⟨"com/example/sprigdex/sprigdex/index/html/HtmlTree", "detach", "(I)V"⟩ : MethodName)) (z := (⟨"com/example/sprigdex/sprigdex/index/html/HtmlTree", "detach", "(I)V"⟩ : MethodName)) hown (Wd hw 103 rfl) (Wd hw 99 rfl) (Wd hw 101 rfl) (Wd hw 100 rfl) (Wd hw 2 rfl) (Wd hw 102 rfl) (Wd hw 101 rfl) (by decide) 0 b1 [(.int (0 : Int32))] [] E_b1 (rmD0 l Z a0 hw b1 (0 : Int32) pa_2 ((.int (-1 : Int32)) :: (.int (0 : Int32)) :: (.int (0 : Int32)) :: (.int (0 : Int32)) :: own_tl) T64.heap n0 sz64 F_b1_parent V_pa_2 (by decide) rfl) (by decide) (by decide) e64 (by rw [hml]; rfl) pd9 rfl rfl (Nat.le_of_eq rfl) (hb hby at_116) (by decide) (by decide) ?_
      intro T126 L126 v126 X126 hQ126
      obtain ⟨rfl, Nq126, e126⟩ := hQ126
      have N126 := Fr.app N64 Nq126
      show Own.Go p e below _ (T126.setTop (mkF m 119 #[.val (.int sh), .val (.int pk), .val (.int pl), .val (.ref b1), .val (.int (1 : Int32)), .val (.int (2 : Int32)), .val (.int (3 : Int32)), .val (.ref b6), .val (.int (3 : Int32)), .val (.int (3 : Int32)), .unset, .unset, .unset, .unset, .unset, .unset, .unset, .unset, .unset, .unset] []))
      refine Own.aloadN X126 hx (pc := 119) (hb hby at_119) rfl rfl ?_
      refine Own.iconst X126 hx (pc := 120) (0 : Int32) (hb hby at_120) (by decide) ?_
      refine Own.callVirtual X126 hx hZ (pc := 121) (y := (⟨"com/example/sprigdex/sprigdex/index/html/HtmlTree", "parent", "(I)I"⟩ : MethodName)) (z := (⟨"com/example/sprigdex/sprigdex/index/html/HtmlTree", "parent", "(I)I"⟩ : MethodName)) hown (Wd hw 104 rfl) (Wd hw 105 rfl) (Wd hw 107 rfl) (Wd hw 106 rfl) (Wd hw 2 rfl) (Wd hw 108 rfl) (Wd hw 107 rfl) (by decide) 0 b1 [(.int (0 : Int32))] [] E_b1 (rm14 l Z a0 hw b1 (0 : Int32) pa_2 ((.int (-1 : Int32)) :: (.int (0 : Int32)) :: (.int (0 : Int32)) :: (.int (0 : Int32)) :: own_tl) (-1 : Int32) T64.heap n0 sz64 F_b1_parent V_pa_2 (by decide) rfl) (by decide) (by decide) e126 (by rw [hml]; rfl) pd7 rfl rfl (Nat.le_of_eq rfl) (hb hby at_121) (by decide) (by decide) ?_
      intro T127 L127 v127 X127 hQ127
      obtain ⟨rfl, Nq127, e127⟩ := hQ127
      have N127 := Fr.app N126 Nq127
      show Own.Go p e below _ (T127.setTop (mkF m 124 #[.val (.int sh), .val (.int pk), .val (.int pl), .val (.ref b1), .val (.int (1 : Int32)), .val (.int (2 : Int32)), .val (.int (3 : Int32)), .val (.ref b6), .val (.int (3 : Int32)), .val (.int (3 : Int32)), .unset, .unset, .unset, .unset, .unset, .unset, .unset, .unset, .unset, .unset] [(.int (-1 : Int32))]))
      refine Own.iconst X127 hx (pc := 124) (-1 : Int32) (hb hby at_124) (by decide) ?_
      refine Own.icmpYes X127 hx (pc := 125) 130 (hb hby at_125) (by decide) (by decide) (by decide) ?_
      refine Own.aloadN X127 hx (pc := 130) (hb hby at_130) rfl rfl ?_
      refine Own.iload X127 hx (pc := 131) (hb hby at_131) rfl ?_
      refine Own.iload X127 hx (pc := 133) (hb hby at_133) rfl ?_
      refine Own.iload X127 hx (pc := 135) (hb hby at_135) rfl ?_
      refine Own.iload X127 hx (pc := 137) (hb hby at_137) rfl ?_
      refine Own.callStatic X127 hx hZ (pc := 139) (y := (⟨"com/example/sprigdex/sprigdex/index/html/HtmlTreeDetachPinLaw", "chain", "(Lcom/example/sprigdex/sprigdex/index/html/HtmlTree;IIII)Z"⟩ : MethodName)) hown (Wd hw 109 rfl) (Wd hw 110 rfl) (Wd hw 111 rfl) (Wd hw 112 rfl) (by decide) 0 [(.ref b1), (.int (1 : Int32)), (.int (2 : Int32)), (.int (3 : Int32)), (.int (3 : Int32))] [] (rmC3 l Z a0 hw b1 (1 : Int32) (2 : Int32) (3 : Int32) pa_2 fc_2 nx_2 ((.int (-1 : Int32)) :: (.int (0 : Int32)) :: (.int (0 : Int32)) :: (.int (0 : Int32)) :: own_tl) ((.int (1 : Int32)) :: (.int (-1 : Int32)) :: (.int (-1 : Int32)) :: (.int (-1 : Int32)) :: own_tl) ((.int (-1 : Int32)) :: (.int (2 : Int32)) :: (.int (3 : Int32)) :: (.int (-1 : Int32)) :: own_tl) T64.heap n0 sz64 E_b1 F_b1_parent F_b1_firstChild F_b1_nextSibling V_pa_2 V_fc_2 V_nx_2 rfl (by decide) rfl rfl (by decide) rfl rfl (by decide) rfl rfl) (by decide) (by decide) e127 (by rw [hml]; rfl) pd13 rfl rfl (Nat.le_of_eq rfl) (hb hby at_139) (by decide) (by decide) ?_
      intro T128 L128 v128 X128 hQ128
      obtain ⟨rfl, Nq128, e128⟩ := hQ128
      have N128 := Fr.app N127 Nq128
      show Own.Go p e below _ (T128.setTop (mkF m 142 #[.val (.int sh), .val (.int pk), .val (.int pl), .val (.ref b1), .val (.int (1 : Int32)), .val (.int (2 : Int32)), .val (.int (3 : Int32)), .val (.ref b6), .val (.int (3 : Int32)), .val (.int (3 : Int32)), .unset, .unset, .unset, .unset, .unset, .unset, .unset, .unset, .unset, .unset] [(.int (1 : Int32))]))
      exact Own.ireturn X128 hx hk hret (by simp) rfl (hb hby at_142) e128 ⟨rfl, N128⟩ (by decide) (by decide)
set_option maxRecDepth 65536 in
set_option maxHeartbeats 40000000 in
theorem comes_1 {Post : Tables → Env → Array Value → State → Outcome → State → Prop} (hpost : ∀ tb e args s v u, (limb_1_1.after args s (.returned v) u = true ∧ limb_1_2.after args s (.returned v) u = true ∧ True) → FrameEnd s (.returned v) u (Jvm.fieldLocs frame_1_writes args s ++ Jvm.arrayLocs frame_1_arrays args s ++ Jvm.staticLocs frame_1_statics s) 40 1152 → Post tb e args s (.returned v) u) :
    ArmFor flags0 classFile x code maxLocals ret World_1 tables_1 room_1 Calls_1 rest_1 Pre_1 Post := by
  intro l hfl _ _ p e ha hc hk s m args below hf hA hF happ hP
  obtain ⟨hcalls, hrest, hpre⟩ := hP
  obtain ⟨-, -, -, hnamed, -, -, -, hat⟩ := (Spec.applies_iff hf).mp happ
  obtain ⟨hg, hn⟩ := and_e (Cond.before_iff.mp (show (Jvm.Cond.and given_1 narrow_1).before args s = true from hpre))
  obtain ⟨hcount, r0⟩ := and_e hg
  obtain ⟨g0, r1⟩ := and_e r0
  obtain ⟨g1, r2⟩ := and_e r1
  obtain ⟨w0, w1, w2, rfl⟩ : ∃ w0 w1 w2 : Value, args = #[w0, w1, w2] := by
    have hs : args.size = 3 := by simpa [Cond.value, given_1] using hcount
    obtain ⟨L⟩ := args
    match L, hs with
    | [w0, w1, w2], _ => exact ⟨w0, w1, w2, rfl⟩
  have hw := fun d (hd : d ∈ tables_1) => atoms_spec (ws := Jvm.Cond.code x code maxLocals ret :: tables_1) hat d (List.mem_cons_of_mem _ hd)
  obtain ⟨i0, e0⟩ := is_v g0
  obtain rfl : w0 = (.int i0) := Option.some.inj e0
  obtain ⟨i1, e1⟩ := is_v g1
  obtain rfl : w1 = (.int i1) := Option.some.inj e1
  obtain ⟨i2, e2⟩ := is_v r2
  obtain rfl : w2 = (.int i2) := Option.some.inj e2
  obtain ⟨hsets, hown0⟩ := atoms_of _ (rest_1_c_eq ▸ (show rest_1_c.before _ s = true from hrest))
  obtain ⟨sa, esa⟩ := arr_v (Cond.before_iff.mp (hsets _ (List.mem_of_getElem? (i := 6) rfl)))
  have S_dce : Sta s s.heap "java/util/ArrayList" "DEFAULTCAPACITY_EMPTY_ELEMENTDATA" "[Ljava/lang/Object;" (.ref sa) := Sta.start esa (Or.inr ⟨(Wd hw 11 rfl), hsets _ (List.mem_of_getElem? (i := 2) rfl)⟩)
  obtain ⟨n, o, h1, h2, h3, _, L, rfl, ⟨rfl, N⟩, hq⟩ := rm0 l s _ hw i0 i1 i2 sa s.heap s.heap.size (Nat.le_refl _) S_dce p e ha hc hk s m _ below hf ((Spec.applies_iff_loose hf).mp happ).1 ⟨rfl, State.Warmed39.refl s, rfl⟩ trivial
  refine ⟨n, _, h1, h2, h3, hpost _ _ _ _ _ _ ⟨Cond.after_iff.mpr rfl, Cond.after_iff.mpr (eq_i res_at (Term.int_eval (1)) rfl), trivial⟩ ⟨hq.1, hq.2.1, (hq.2.2.sift fun y hy => Or.inr (N y hy)).mono (by decide) (by decide)⟩⟩
theorem main_1_1 : Claimed_1_1 := comes_1 fun _ _ _ _ _ _ h hF => ⟨h.1, hF⟩
theorem main_1_2 : Claimed_1_2 := comes_1 fun _ _ _ _ _ _ h hF => ⟨h.2.1, hF⟩
end Jvm.Pilot.@@N@@
namespace Jvm.Pilot.@@N@@
open Jvm Jvm.ClassFile Sem Op Lib Jvm.Free Jvm.Stand Jvm.Pilot.@@N@@.Jvm.D
/-! MADE BY PROGRAM (witnessworld.py) out of the Statement's table words and the real class files: 24 classes; the members and pool entries that the words name. The judged class is class 1, her method 1. -/
namespace start1
open Jvm.ClassFile
def u (s : String) : CpInfo := .utf8 (stringToUtf16 s)
/-- a pool by its gaps: so many unusable entries, then the entry; so many at the end -/
def gap : Nat → List CpInfo → List CpInfo
  | 0, r => r
  | n + 1, r => .unusable :: gap n r
def poolList (es : List (Nat × CpInfo)) (last : Nat) : List CpInfo := es.foldr (fun e r => gap e.1 (e.2 :: r)) (gap last [])
def pool (es : List (Nat × CpInfo)) (last : Nat) : Array CpInfo := ⟨poolList es last⟩
def fileOf (pool : Array CpInfo) (this : Nat) (attrs : Array Attribute := #[]) (ms : Array MethodInfo := #[]) (fl : Nat := 33) (sup : Nat := 0) (ifs : Array Nat := #[]) (fds : Array FieldInfo := #[]) : ClassFile where
  minorVersion := 0
  majorVersion := 65
  constantPool := pool
  accessFlags := fl
  thisClass := this
  superClass := sup
  interfaces := ifs
  fields := fds
  methods := ms
  attributes := attrs
def plain (name : String) (sup : Option ClassId) : Class where
  name := name
  kind := .ordinary
  loader := none
  accessFlags := 33
  super := sup
  interfaces := #[]
  cf := none
  fields := #[]
  methods := #[]
  instanceTypes := #[]
  staticTypes := #[]
  resolved := #[]
  callSites := []
  init := .initialized
  statics := none
  mirror := none

def pool0 : Array CpInfo := pool [(5, u "<init>"), (0, u "()V"), (1, .class_ 10), (1, u "java/lang/Object")] 113

def k0c0 : Code := { maxStack := 0, maxLocals := 1, code := object_method_1_code, exceptionTable := #[], attributes := #[] }
def k0m0 : Method := { name := "<init>", desc := "()V", sig := { parameters := [], returnType := none }, accessFlags := 1, code := some k0c0 }
/-- java/lang/Object -/
def k0 : Class := { plain "java/lang/Object" none with
  accessFlags := 33
  interfaces := #[]
  cf := some (fileOf pool0 8 #[] #[{ accessFlags := 1, nameIndex := 5, descriptorIndex := 6, attributes := #[] }] 33 0 #[] #[])
  fields := #[]
  methods := #[k0m0]
  instanceTypes := #[]
  staticTypes := #[]
  resolved := Array.replicate 124 none
  statics := none }

def pool1 : Array CpInfo := pool [(2, .class_ 4), (1, u "java/lang/Object"), (0, u "<init>"), (0, u "()V"), (0, .class_ 8), (0, u "com/example/sprigdex/sprigdex/index/html/HtmlTree"), (0, .methodref 7 10), (0, .nameAndType 5 11), (0, u "(I)V"), (0, .methodref 7 13), (0, .nameAndType 14 15), (0, u "copyText"), (0, u "(I)I"), (0, .integer 2147483647), (0, .methodref 7 18), (0, .nameAndType 19 20), (0, u "insert"), (0, u "(III)V"), (0, .methodref 7 22), (0, .nameAndType 23 11), (0, u "detach"), (0, .methodref 7 25), (0, .nameAndType 26 15), (0, u "parent"), (0, .methodref 28 29), (0, .class_ 30), (0, .nameAndType 31 32), (0, u "com/example/sprigdex/sprigdex/index/html/HtmlTreeDetachPinLaw"), (0, u "chain"), (0, u "(Lcom/example/sprigdex/sprigdex/index/html/HtmlTree;IIII)Z"), (0, .methodref 7 34), (0, .nameAndType 35 15), (0, u "nextSibling"), (0, .methodref 7 37), (0, .nameAndType 38 15), (0, u "firstChild"), (0, .methodref 28 40), (0, .nameAndType 41 42), (0, u "at"), (0, u "(IIIII)I"), (2, u "law"), (0, u "(III)Z")] 5

def k1m0 : Method := { name := "<init>", desc := "()V", sig := { parameters := [], returnType := none }, accessFlags := 1, code := none }
def k1c1 : Code := { maxStack := 5, maxLocals := 20, code := code, exceptionTable := #[], attributes := #[] }
def k1m1 : Method := { name := "law", desc := "(III)Z", sig := { parameters := [.int, .int, .int], returnType := some .boolean }, accessFlags := 9, code := some k1c1 }
def k1c2 : Code := { maxStack := 2, maxLocals := 5, code := method_3_code, exceptionTable := #[], attributes := #[] }
def k1m2 : Method := { name := "at", desc := "(IIIII)I", sig := { parameters := [.int, .int, .int, .int, .int], returnType := some .int }, accessFlags := 10, code := some k1c2 }
def k1c3 : Code := { maxStack := 2, maxLocals := 7, code := method_4_code, exceptionTable := #[], attributes := #[] }
def k1m3 : Method := { name := "chain", desc := "(Lcom/example/sprigdex/sprigdex/index/html/HtmlTree;IIII)Z", sig := { parameters := [(.object "com/example/sprigdex/sprigdex/index/html/HtmlTree"), .int, .int, .int, .int], returnType := some .boolean }, accessFlags := 10, code := some k1c3 }
/-- com/example/sprigdex/sprigdex/index/html/HtmlTreeDetachPinLaw -/
def k1 : Class := { plain "com/example/sprigdex/sprigdex/index/html/HtmlTreeDetachPinLaw" (some 0) with
  accessFlags := 49
  interfaces := #[]
  cf := some (fileOf pool1 28 #[] #[{ accessFlags := 1, nameIndex := 5, descriptorIndex := 6, attributes := #[] }, { accessFlags := 9, nameIndex := 45, descriptorIndex := 46, attributes := #[] }, { accessFlags := 10, nameIndex := 41, descriptorIndex := 42, attributes := #[] }, { accessFlags := 10, nameIndex := 31, descriptorIndex := 32, attributes := #[] }] 49 2 #[] #[])
  fields := #[]
  methods := #[k1m0, k1m1, k1m2, k1m3]
  instanceTypes := #[]
  staticTypes := #[]
  resolved := Array.replicate 52 none
  statics := none }

def pool2 : Array CpInfo := pool [(1, .methodref 2 3), (0, .class_ 4), (0, .nameAndType 5 6), (0, u "java/lang/Object"), (0, u "<init>"), (0, u "()V"), (0, .class_ 8), (0, u "java/util/ArrayList"), (0, .methodref 7 3), (0, .fieldref 11 12), (0, .class_ 13), (0, .nameAndType 14 15), (0, u "com/example/sprigdex/sprigdex/index/html/HtmlTree"), (0, u "names"), (0, u "Ljava/util/List;"), (0, .class_ 17), (0, u "java/util/HashMap"), (0, .methodref 16 3), (0, .fieldref 11 20), (0, .nameAndType 21 22), (0, u "nameNumbers"), (0, u "Ljava/util/Map;"), (0, .fieldref 11 24), (0, .nameAndType 25 26), (0, u "text"), (0, u "[C"), (0, .methodref 28 29), (0, .class_ 30), (0, .nameAndType 31 32), (0, u "java/lang/Math"), (0, u "max"), (0, u "(II)I"), (0, .methodref 11 34), (0, .nameAndType 35 36), (0, u "grow"), (0, u "(I)V"), (0, .methodref 11 38), (0, .nameAndType 39 40), (0, u "node"), (0, u "(I)I"), (28, u "elements"), (0, u "I"), (9, .fieldref 11 81), (0, .nameAndType 82 83), (0, u "start"), (0, u "[I"), (0, .fieldref 11 85), (0, .nameAndType 86 83), (0, u "name"), (0, .methodref 11 88), (0, .nameAndType 89 36), (0, u "detach"), (0, .fieldref 11 91), (0, .nameAndType 92 83), (0, u "lastChild"), (0, .fieldref 11 94), (0, .nameAndType 95 83), (0, u "previousSibling"), (0, .fieldref 11 97), (0, .nameAndType 98 83), (0, u "parent"), (0, .fieldref 11 100), (0, .nameAndType 101 83), (0, u "nextSibling"), (0, .fieldref 11 103), (0, .nameAndType 104 83), (0, u "firstChild"), (2, u "insert"), (0, u "(III)V"), (0, .fieldref 11 110), (0, .nameAndType 111 83), (0, u "length"), (2, u "textLength"), (17, .class_ 134), (1, u "com/example/sprigdex/sprigdex/index/html/HtmlTree$Walk"), (10, .fieldref 11 146), (0, .nameAndType 147 70), (0, u "nodes"), (3, u "NONE"), (2, u "DOCUMENT"), (1, u "TEXT"), (0, u "ROOT"), (12, u "copyText")] 19

def k2c0 : Code := { maxStack := 4, maxLocals := 2, code := prog_122_method_1_code, exceptionTable := #[], attributes := #[] }
def k2m0 : Method := { name := "<init>", desc := "(I)V", sig := { parameters := [.int], returnType := none }, accessFlags := 0, code := some k2c0 }
def k2c1 : Code := { maxStack := 3, maxLocals := 5, code := prog_122_method_5_code, exceptionTable := #[], attributes := #[] }
def k2m1 : Method := { name := "insert", desc := "(III)V", sig := { parameters := [.int, .int, .int], returnType := none }, accessFlags := 0, code := some k2c1 }
def k2c2 : Code := { maxStack := 3, maxLocals := 5, code := prog_122_method_6_code, exceptionTable := #[], attributes := #[] }
def k2m2 : Method := { name := "detach", desc := "(I)V", sig := { parameters := [.int], returnType := none }, accessFlags := 0, code := some k2c2 }
def k2c3 : Code := { maxStack := 4, maxLocals := 3, code := prog_122_method_10_code, exceptionTable := #[], attributes := #[] }
def k2m3 : Method := { name := "copyText", desc := "(I)I", sig := { parameters := [.int], returnType := some .int }, accessFlags := 0, code := some k2c3 }
def k2c4 : Code := { maxStack := 2, maxLocals := 2, code := prog_122_method_12_code, exceptionTable := #[], attributes := #[] }
def k2m4 : Method := { name := "parent", desc := "(I)I", sig := { parameters := [.int], returnType := some .int }, accessFlags := 1, code := some k2c4 }
def k2c5 : Code := { maxStack := 2, maxLocals := 2, code := prog_122_method_13_code, exceptionTable := #[], attributes := #[] }
def k2m5 : Method := { name := "firstChild", desc := "(I)I", sig := { parameters := [.int], returnType := some .int }, accessFlags := 1, code := some k2c5 }
def k2c6 : Code := { maxStack := 2, maxLocals := 2, code := prog_122_method_14_code, exceptionTable := #[], attributes := #[] }
def k2m6 : Method := { name := "nextSibling", desc := "(I)I", sig := { parameters := [.int], returnType := some .int }, accessFlags := 1, code := some k2c6 }
def k2c7 : Code := { maxStack := 4, maxLocals := 3, code := prog_122_method_22_code, exceptionTable := #[], attributes := #[] }
def k2m7 : Method := { name := "node", desc := "(I)I", sig := { parameters := [.int], returnType := some .int }, accessFlags := 2, code := some k2c7 }
def k2c8 : Code := { maxStack := 3, maxLocals := 2, code := prog_122_method_23_code, exceptionTable := #[], attributes := #[] }
def k2m8 : Method := { name := "grow", desc := "(I)V", sig := { parameters := [.int], returnType := none }, accessFlags := 2, code := some k2c8 }
/-- com/example/sprigdex/sprigdex/index/html/HtmlTree -/
def k2 : Class := { plain "com/example/sprigdex/sprigdex/index/html/HtmlTree" (some 0) with
  accessFlags := 49
  interfaces := #[]
  cf := some (fileOf pool2 11 #[.nestMembers #[132]] #[{ accessFlags := 0, nameIndex := 5, descriptorIndex := 36, attributes := #[] }, { accessFlags := 0, nameIndex := 107, descriptorIndex := 108, attributes := #[] }, { accessFlags := 0, nameIndex := 89, descriptorIndex := 36, attributes := #[] }, { accessFlags := 0, nameIndex := 170, descriptorIndex := 40, attributes := #[] }, { accessFlags := 1, nameIndex := 98, descriptorIndex := 40, attributes := #[] }, { accessFlags := 1, nameIndex := 104, descriptorIndex := 40, attributes := #[] }, { accessFlags := 1, nameIndex := 101, descriptorIndex := 40, attributes := #[] }, { accessFlags := 2, nameIndex := 39, descriptorIndex := 40, attributes := #[] }, { accessFlags := 2, nameIndex := 35, descriptorIndex := 36, attributes := #[] }] 49 2 #[] #[{ accessFlags := 25, nameIndex := 151, descriptorIndex := 70, attributes := #[] }, { accessFlags := 25, nameIndex := 154, descriptorIndex := 70, attributes := #[] }, { accessFlags := 26, nameIndex := 156, descriptorIndex := 70, attributes := #[] }, { accessFlags := 26, nameIndex := 157, descriptorIndex := 70, attributes := #[] }, { accessFlags := 18, nameIndex := 14, descriptorIndex := 15, attributes := #[] }, { accessFlags := 18, nameIndex := 21, descriptorIndex := 22, attributes := #[] }, { accessFlags := 2, nameIndex := 25, descriptorIndex := 26, attributes := #[] }, { accessFlags := 2, nameIndex := 114, descriptorIndex := 70, attributes := #[] }, { accessFlags := 2, nameIndex := 98, descriptorIndex := 83, attributes := #[] }, { accessFlags := 2, nameIndex := 104, descriptorIndex := 83, attributes := #[] }, { accessFlags := 2, nameIndex := 92, descriptorIndex := 83, attributes := #[] }, { accessFlags := 2, nameIndex := 95, descriptorIndex := 83, attributes := #[] }, { accessFlags := 2, nameIndex := 101, descriptorIndex := 83, attributes := #[] }, { accessFlags := 2, nameIndex := 86, descriptorIndex := 83, attributes := #[] }, { accessFlags := 2, nameIndex := 82, descriptorIndex := 83, attributes := #[] }, { accessFlags := 2, nameIndex := 111, descriptorIndex := 83, attributes := #[] }, { accessFlags := 2, nameIndex := 147, descriptorIndex := 70, attributes := #[] }, { accessFlags := 2, nameIndex := 69, descriptorIndex := 70, attributes := #[] }])
  fields := #[{ name := "NONE", type := .int, accessFlags := 25, slot := 0, constantValue := 0 }, { name := "DOCUMENT", type := .int, accessFlags := 25, slot := 1, constantValue := 0 }, { name := "TEXT", type := .int, accessFlags := 26, slot := 2, constantValue := 0 }, { name := "ROOT", type := .int, accessFlags := 26, slot := 3, constantValue := 0 }, { name := "names", type := (.object "java/util/List"), accessFlags := 18, slot := 0, constantValue := 0 }, { name := "nameNumbers", type := (.object "java/util/Map"), accessFlags := 18, slot := 1, constantValue := 0 }, { name := "text", type := (.array .char), accessFlags := 2, slot := 2, constantValue := 0 }, { name := "textLength", type := .int, accessFlags := 2, slot := 3, constantValue := 0 }, { name := "parent", type := (.array .int), accessFlags := 2, slot := 4, constantValue := 0 }, { name := "firstChild", type := (.array .int), accessFlags := 2, slot := 5, constantValue := 0 }, { name := "lastChild", type := (.array .int), accessFlags := 2, slot := 6, constantValue := 0 }, { name := "previousSibling", type := (.array .int), accessFlags := 2, slot := 7, constantValue := 0 }, { name := "nextSibling", type := (.array .int), accessFlags := 2, slot := 8, constantValue := 0 }, { name := "name", type := (.array .int), accessFlags := 2, slot := 9, constantValue := 0 }, { name := "start", type := (.array .int), accessFlags := 2, slot := 10, constantValue := 0 }, { name := "length", type := (.array .int), accessFlags := 2, slot := 11, constantValue := 0 }, { name := "nodes", type := .int, accessFlags := 2, slot := 12, constantValue := 0 }, { name := "elements", type := .int, accessFlags := 2, slot := 13, constantValue := 0 }]
  methods := #[k2m0, k2m1, k2m2, k2m3, k2m4, k2m5, k2m6, k2m7, k2m8]
  instanceTypes := #[(.object "java/util/List"), (.object "java/util/Map"), (.array .char), .int, (.array .int), (.array .int), (.array .int), (.array .int), (.array .int), (.array .int), (.array .int), (.array .int), .int, .int]
  staticTypes := #[.int, .int, .int, .int]
  resolved := Array.replicate 190 none
  statics := none }

def pool3 : Array CpInfo := pool [(8, .class_ 10), (1, u "java/lang/Iterable"), (24, .class_ 36), (0, u "java/lang/Object")] 25

/-- java/lang/Iterable -/
def k3 : Class := { plain "java/lang/Iterable" (some 0) with
  accessFlags := 1537
  interfaces := #[]
  cf := some (fileOf pool3 8 #[] #[] 1537 35 #[] #[])
  fields := #[]
  methods := #[]
  instanceTypes := #[]
  staticTypes := #[]
  resolved := Array.replicate 62 none
  statics := none }

def pool4 : Array CpInfo := pool [(10, .class_ 12), (1, u "java/util/Collection"), (47, .class_ 61), (0, u "java/lang/Object"), (0, .class_ 63), (0, u "java/lang/Iterable")] 51

/-- java/util/Collection -/
def k4 : Class := { plain "java/util/Collection" (some 0) with
  accessFlags := 1537
  interfaces := #[3]
  cf := some (fileOf pool4 10 #[] #[] 1537 60 #[62] #[])
  fields := #[]
  methods := #[]
  instanceTypes := #[]
  staticTypes := #[]
  resolved := Array.replicate 115 none
  statics := none }

def pool5 : Array CpInfo := pool [(1, .methodref 2 3), (0, .class_ 4), (0, .nameAndType 5 6), (0, u "java/lang/Object"), (0, u "<init>"), (0, u "()V"), (1, .class_ 10), (1, u "java/util/AbstractCollection"), (66, .class_ 78), (0, u "java/util/Collection")] 81

def k5c0 : Code := { maxStack := 1, maxLocals := 1, code := jdk_22_method_1_code, exceptionTable := #[], attributes := #[] }
def k5m0 : Method := { name := "<init>", desc := "()V", sig := { parameters := [], returnType := none }, accessFlags := 4, code := some k5c0 }
/-- java/util/AbstractCollection -/
def k5 : Class := { plain "java/util/AbstractCollection" (some 0) with
  accessFlags := 1057
  interfaces := #[4]
  cf := some (fileOf pool5 8 #[] #[{ accessFlags := 4, nameIndex := 5, descriptorIndex := 6, attributes := #[] }] 1057 2 #[77] #[])
  fields := #[]
  methods := #[k5m0]
  instanceTypes := #[]
  staticTypes := #[]
  resolved := Array.replicate 160 none
  statics := none }

def pool6 : Array CpInfo := pool [(8, .class_ 10), (1, u "java/util/SequencedCollection"), (15, .class_ 27), (0, u "java/lang/Object"), (0, .class_ 29), (0, u "java/util/Collection")] 27

/-- java/util/SequencedCollection -/
def k6 : Class := { plain "java/util/SequencedCollection" (some 0) with
  accessFlags := 1537
  interfaces := #[4]
  cf := some (fileOf pool6 8 #[] #[] 1537 26 #[28] #[])
  fields := #[]
  methods := #[]
  instanceTypes := #[]
  staticTypes := #[]
  resolved := Array.replicate 57 none
  statics := none }

def pool7 : Array CpInfo := pool [(8, .class_ 10), (1, u "java/util/List"), (92, .class_ 104), (0, u "java/lang/Object"), (15, .class_ 121), (0, u "java/util/SequencedCollection")] 129

/-- java/util/List -/
def k7 : Class := { plain "java/util/List" (some 0) with
  accessFlags := 1537
  interfaces := #[6]
  cf := some (fileOf pool7 8 #[] #[] 1537 103 #[120] #[])
  fields := #[]
  methods := #[]
  instanceTypes := #[]
  staticTypes := #[]
  resolved := Array.replicate 251 none
  statics := none }

def pool8 : Array CpInfo := pool [(1, .methodref 2 3), (0, .class_ 4), (0, .nameAndType 5 6), (0, u "java/util/AbstractCollection"), (0, u "<init>"), (0, u "()V"), (0, .fieldref 8 9), (0, .class_ 10), (0, .nameAndType 11 12), (0, u "java/util/AbstractList"), (0, u "modCount"), (0, u "I"), (64, .class_ 78), (0, u "java/util/AbstractList$Itr"), (3, .class_ 83), (0, u "java/util/AbstractList$ListItr"), (9, .class_ 94), (0, u "java/util/AbstractList$RandomAccessSubList"), (3, .class_ 99), (0, u "java/util/AbstractList$SubList"), (33, .class_ 134), (0, u "java/util/List"), (73, .class_ 209), (0, u "java/util/AbstractList$SubList$1"), (0, .class_ 211), (0, u "java/util/AbstractList$RandomAccessSpliterator")] 6

def k8c0 : Code := { maxStack := 2, maxLocals := 1, code := jdk_39_method_1_code, exceptionTable := #[], attributes := #[] }
def k8m0 : Method := { name := "<init>", desc := "()V", sig := { parameters := [], returnType := none }, accessFlags := 4, code := some k8c0 }
/-- java/util/AbstractList -/
def k8 : Class := { plain "java/util/AbstractList" (some 5) with
  accessFlags := 1057
  interfaces := #[7]
  cf := some (fileOf pool8 8 #[.nestMembers #[93, 98, 208, 210, 82, 77]] #[{ accessFlags := 4, nameIndex := 5, descriptorIndex := 6, attributes := #[] }] 1057 2 #[133] #[{ accessFlags := 132, nameIndex := 11, descriptorIndex := 12, attributes := #[] }])
  fields := #[{ name := "modCount", type := .int, accessFlags := 132, slot := 0, constantValue := 0 }]
  methods := #[k8m0]
  instanceTypes := #[.int]
  staticTypes := #[]
  resolved := Array.replicate 218 none
  statics := none }

def pool9 : Array CpInfo := pool [(1, .class_ 2), (0, u "java/util/RandomAccess"), (0, .class_ 4), (0, u "java/lang/Object")] 2

/-- java/util/RandomAccess -/
def k9 : Class := { plain "java/util/RandomAccess" (some 0) with
  accessFlags := 1537
  interfaces := #[]
  cf := some (fileOf pool9 1 #[] #[] 1537 3 #[] #[])
  fields := #[]
  methods := #[]
  instanceTypes := #[]
  staticTypes := #[]
  resolved := Array.replicate 7 none
  statics := none }

def pool10 : Array CpInfo := pool [(1, .class_ 2), (0, u "java/lang/Cloneable"), (0, .class_ 4), (0, u "java/lang/Object")] 2

/-- java/lang/Cloneable -/
def k10 : Class := { plain "java/lang/Cloneable" (some 0) with
  accessFlags := 1537
  interfaces := #[]
  cf := some (fileOf pool10 1 #[] #[] 1537 3 #[] #[])
  fields := #[]
  methods := #[]
  instanceTypes := #[]
  staticTypes := #[]
  resolved := Array.replicate 7 none
  statics := none }

def pool11 : Array CpInfo := pool [(1, .class_ 2), (0, u "java/io/Serializable"), (0, .class_ 4), (0, u "java/lang/Object")] 2

/-- java/io/Serializable -/
def k11 : Class := { plain "java/io/Serializable" (some 0) with
  accessFlags := 1537
  interfaces := #[]
  cf := some (fileOf pool11 1 #[] #[] 1537 3 #[] #[])
  fields := #[]
  methods := #[]
  instanceTypes := #[]
  staticTypes := #[]
  resolved := Array.replicate 7 none
  statics := none }

def pool12 : Array CpInfo := pool [(1, .methodref 2 3), (0, .class_ 4), (0, .nameAndType 5 6), (0, u "java/util/AbstractList"), (0, u "<init>"), (0, u "()V"), (2, .fieldref 10 11), (0, .class_ 12), (0, .nameAndType 13 14), (0, u "java/util/ArrayList"), (0, u "elementData"), (0, u "[Ljava/lang/Object;"), (2, u "EMPTY_ELEMENTDATA"), (21, .fieldref 10 40), (0, .nameAndType 41 14), (0, u "DEFAULTCAPACITY_EMPTY_ELEMENTDATA"), (8, u "size"), (0, u "I"), (96, .class_ 149), (0, u "java/util/List"), (112, .class_ 263), (0, u "java/util/ArrayList$ListItr"), (3, .class_ 268), (0, u "java/util/ArrayList$Itr"), (7, .class_ 277), (0, u "java/util/ArrayList$SubList"), (12, .class_ 291), (0, u "java/util/ArrayList$ArrayListSpliterator"), (37, .class_ 330), (0, u "java/util/RandomAccess"), (0, .class_ 332), (0, u "java/lang/Cloneable"), (0, .class_ 334), (0, u "java/io/Serializable"), (0, u "serialVersionUID"), (0, u "J"), (3, u "DEFAULT_CAPACITY"), (159, .class_ 501), (0, u "java/util/ArrayList$SubList$2"), (0, .class_ 503), (0, u "java/util/ArrayList$SubList$1")] 5

def k12c0 : Code := { maxStack := 2, maxLocals := 1, code := jdk_38_method_2_code, exceptionTable := #[], attributes := #[] }
def k12m0 : Method := { name := "<init>", desc := "()V", sig := { parameters := [], returnType := none }, accessFlags := 1, code := some k12c0 }
/-- java/util/ArrayList -/
def k12 : Class := { plain "java/util/ArrayList" (some 8) with
  accessFlags := 33
  interfaces := #[7, 9, 10, 11]
  cf := some (fileOf pool12 10 #[.nestMembers #[290, 276, 500, 502, 262, 267]] #[{ accessFlags := 1, nameIndex := 5, descriptorIndex := 6, attributes := #[] }] 33 2 #[148, 329, 331, 333] #[{ accessFlags := 26, nameIndex := 335, descriptorIndex := 336, attributes := #[] }, { accessFlags := 26, nameIndex := 340, descriptorIndex := 51, attributes := #[] }, { accessFlags := 26, nameIndex := 17, descriptorIndex := 14, attributes := #[] }, { accessFlags := 26, nameIndex := 41, descriptorIndex := 14, attributes := #[] }, { accessFlags := 128, nameIndex := 13, descriptorIndex := 14, attributes := #[] }, { accessFlags := 2, nameIndex := 50, descriptorIndex := 51, attributes := #[] }])
  fields := #[{ name := "serialVersionUID", type := .long, accessFlags := 26, slot := 0, constantValue := 0 }, { name := "DEFAULT_CAPACITY", type := .int, accessFlags := 26, slot := 1, constantValue := 0 }, { name := "EMPTY_ELEMENTDATA", type := (.array (.object "java/lang/Object")), accessFlags := 26, slot := 2, constantValue := 0 }, { name := "DEFAULTCAPACITY_EMPTY_ELEMENTDATA", type := (.array (.object "java/lang/Object")), accessFlags := 26, slot := 3, constantValue := 0 }, { name := "elementData", type := (.array (.object "java/lang/Object")), accessFlags := 128, slot := 1, constantValue := 0 }, { name := "size", type := .int, accessFlags := 2, slot := 2, constantValue := 0 }]
  methods := #[k12m0]
  instanceTypes := #[.int, (.array (.object "java/lang/Object")), .int]
  staticTypes := #[.long, .int, (.array (.object "java/lang/Object")), (.array (.object "java/lang/Object"))]
  resolved := Array.replicate 509 none
  statics := some 0 }

def pool13 : Array CpInfo := pool [(2, .class_ 4), (1, u "java/util/Map"), (31, .class_ 37), (0, u "java/util/Map$Entry"), (55, .class_ 94), (0, u "java/lang/Object")] 168

/-- java/util/Map -/
def k13 : Class := { plain "java/util/Map" (some 0) with
  accessFlags := 1537
  interfaces := #[]
  cf := some (fileOf pool13 2 #[.nestMembers #[36]] #[] 1537 93 #[] #[])
  fields := #[]
  methods := #[]
  instanceTypes := #[]
  staticTypes := #[]
  resolved := Array.replicate 263 none
  statics := none }

def pool14 : Array CpInfo := pool [(1, .methodref 2 3), (0, .class_ 4), (0, .nameAndType 5 6), (0, u "java/lang/Object"), (0, u "<init>"), (0, u "()V"), (1, .class_ 10), (1, u "java/util/AbstractMap"), (42, .class_ 54), (0, u "java/util/Map"), (9, u "keySet"), (0, u "Ljava/util/Set;"), (0, .class_ 67), (0, u "java/util/AbstractMap$1"), (5, u "values"), (0, u "Ljava/util/Collection;"), (0, .class_ 76), (0, u "java/util/AbstractMap$2"), (104, .class_ 182), (0, u "java/util/AbstractMap$ViewCollection"), (0, .class_ 184), (0, u "java/util/AbstractMap$SimpleImmutableEntry"), (0, .class_ 186), (0, u "java/util/AbstractMap$SimpleEntry"), (0, .class_ 188), (0, u "java/util/AbstractMap$2$1"), (0, .class_ 190), (0, u "java/util/AbstractMap$1$1")] 5

def k14c0 : Code := { maxStack := 1, maxLocals := 1, code := jdk_71_method_1_code, exceptionTable := #[], attributes := #[] }
def k14m0 : Method := { name := "<init>", desc := "()V", sig := { parameters := [], returnType := none }, accessFlags := 4, code := some k14c0 }
/-- java/util/AbstractMap -/
def k14 : Class := { plain "java/util/AbstractMap" (some 0) with
  accessFlags := 1057
  interfaces := #[13]
  cf := some (fileOf pool14 8 #[.nestMembers #[181, 183, 185, 75, 187, 66, 189]] #[{ accessFlags := 4, nameIndex := 5, descriptorIndex := 6, attributes := #[] }] 1057 2 #[53] #[{ accessFlags := 128, nameIndex := 64, descriptorIndex := 65, attributes := #[] }, { accessFlags := 128, nameIndex := 73, descriptorIndex := 74, attributes := #[] }])
  fields := #[{ name := "keySet", type := (.object "java/util/Set"), accessFlags := 128, slot := 0, constantValue := 0 }, { name := "values", type := (.object "java/util/Collection"), accessFlags := 128, slot := 1, constantValue := 0 }]
  methods := #[k14m0]
  instanceTypes := #[(.object "java/util/Set"), (.object "java/util/Collection")]
  staticTypes := #[]
  resolved := Array.replicate 196 none
  statics := none }

def pool15 : Array CpInfo := pool [(40, .class_ 41), (0, u "java/util/HashMap"), (1, .methodref 44 45), (0, .class_ 46), (0, .nameAndType 47 48), (0, u "java/util/AbstractMap"), (0, u "<init>"), (0, u "()V"), (32, .fieldref 40 82), (0, .nameAndType 83 84), (0, u "loadFactor"), (0, u "F"), (5, u "threshold"), (0, u "I"), (0, .float 1061158912), (8, .class_ 103), (1, u "java/util/Map"), (0, u "size"), (2, u "table"), (0, u "[Ljava/util/HashMap$Node;"), (14, u "entrySet"), (39, .class_ 165), (1, u "java/util/HashMap$Node"), (14, .class_ 181), (0, u "java/util/HashMap$TreeNode"), (22, u "modCount"), (37, u "Ljava/util/Set;"), (0, .class_ 244), (0, u "java/util/HashMap$KeySet"), (18, .class_ 264), (0, u "java/util/HashMap$Values"), (3, .class_ 269), (0, u "java/util/HashMap$EntrySet"), (76, .class_ 348), (1, u "java/util/HashMap$UnsafeHolder"), (43, .class_ 393), (0, u "java/lang/Cloneable"), (0, .class_ 395), (0, u "java/io/Serializable"), (0, u "serialVersionUID"), (0, u "J"), (3, u "DEFAULT_INITIAL_CAPACITY"), (1, u "MAXIMUM_CAPACITY"), (0, u "DEFAULT_LOAD_FACTOR"), (0, u "TREEIFY_THRESHOLD"), (1, u "UNTREEIFY_THRESHOLD"), (1, u "MIN_TREEIFY_CAPACITY"), (186, .class_ 597), (0, u "java/util/HashMap$EntrySpliterator"), (0, .class_ 599), (0, u "java/util/HashMap$ValueSpliterator"), (0, .class_ 601), (0, u "java/util/HashMap$KeySpliterator"), (0, .class_ 603), (0, u "java/util/HashMap$HashMapSpliterator"), (0, .class_ 605), (0, u "java/util/HashMap$EntryIterator"), (0, .class_ 607), (0, u "java/util/HashMap$ValueIterator"), (0, .class_ 609), (0, u "java/util/HashMap$KeyIterator"), (0, .class_ 611), (0, u "java/util/HashMap$HashIterator")] 17

def k15c0 : Code := { maxStack := 2, maxLocals := 1, code := jdk_69_method_7_code, exceptionTable := #[], attributes := #[] }
def k15m0 : Method := { name := "<init>", desc := "()V", sig := { parameters := [], returnType := none }, accessFlags := 1, code := some k15c0 }
/-- java/util/HashMap -/
def k15 : Class := { plain "java/util/HashMap" (some 14) with
  accessFlags := 33
  interfaces := #[13, 10, 11]
  cf := some (fileOf pool15 40 #[.nestMembers #[180, 596, 598, 600, 602, 604, 606, 608, 610, 346, 268, 263, 243, 163]] #[{ accessFlags := 1, nameIndex := 47, descriptorIndex := 48, attributes := #[] }] 33 44 #[101, 392, 394] #[{ accessFlags := 26, nameIndex := 396, descriptorIndex := 397, attributes := #[] }, { accessFlags := 24, nameIndex := 401, descriptorIndex := 91, attributes := #[] }, { accessFlags := 24, nameIndex := 403, descriptorIndex := 91, attributes := #[] }, { accessFlags := 24, nameIndex := 404, descriptorIndex := 84, attributes := #[] }, { accessFlags := 24, nameIndex := 405, descriptorIndex := 91, attributes := #[] }, { accessFlags := 24, nameIndex := 407, descriptorIndex := 91, attributes := #[] }, { accessFlags := 24, nameIndex := 409, descriptorIndex := 91, attributes := #[] }, { accessFlags := 128, nameIndex := 107, descriptorIndex := 108, attributes := #[] }, { accessFlags := 128, nameIndex := 123, descriptorIndex := 242, attributes := #[] }, { accessFlags := 128, nameIndex := 104, descriptorIndex := 91, attributes := #[] }, { accessFlags := 128, nameIndex := 204, descriptorIndex := 91, attributes := #[] }, { accessFlags := 0, nameIndex := 90, descriptorIndex := 91, attributes := #[] }, { accessFlags := 16, nameIndex := 83, descriptorIndex := 84, attributes := #[] }])
  fields := #[{ name := "serialVersionUID", type := .long, accessFlags := 26, slot := 0, constantValue := 0 }, { name := "DEFAULT_INITIAL_CAPACITY", type := .int, accessFlags := 24, slot := 1, constantValue := 0 }, { name := "MAXIMUM_CAPACITY", type := .int, accessFlags := 24, slot := 2, constantValue := 0 }, { name := "DEFAULT_LOAD_FACTOR", type := .float, accessFlags := 24, slot := 3, constantValue := 0 }, { name := "TREEIFY_THRESHOLD", type := .int, accessFlags := 24, slot := 4, constantValue := 0 }, { name := "UNTREEIFY_THRESHOLD", type := .int, accessFlags := 24, slot := 5, constantValue := 0 }, { name := "MIN_TREEIFY_CAPACITY", type := .int, accessFlags := 24, slot := 6, constantValue := 0 }, { name := "table", type := (.array (.object "java/util/HashMap$Node")), accessFlags := 128, slot := 2, constantValue := 0 }, { name := "entrySet", type := (.object "java/util/Set"), accessFlags := 128, slot := 3, constantValue := 0 }, { name := "size", type := .int, accessFlags := 128, slot := 4, constantValue := 0 }, { name := "modCount", type := .int, accessFlags := 128, slot := 5, constantValue := 0 }, { name := "threshold", type := .int, accessFlags := 0, slot := 6, constantValue := 0 }, { name := "loadFactor", type := .float, accessFlags := 16, slot := 7, constantValue := 0 }]
  methods := #[k15m0]
  instanceTypes := #[(.object "java/util/Set"), (.object "java/util/Collection"), (.array (.object "java/util/HashMap$Node")), (.object "java/util/Set"), .int, .int, .int, .float]
  staticTypes := #[.long, .int, .int, .float, .int, .int, .int]
  resolved := Array.replicate 629 none
  statics := none }

def pool16 : Array CpInfo := pool [(1, .class_ 2), (0, u "java/lang/Math"), (1, .class_ 6), (1, u "java/lang/Object"), (0, u "<init>"), (0, u "()V"), (89, .class_ 100), (1, u "java/lang/Math$RandomNumberGeneratorHolder"), (71, u "negativeZeroFloatBits"), (0, u "J"), (2, u "negativeZeroDoubleBits"), (21, u "max"), (46, u "$assertionsDisabled"), (0, u "Z"), (88, u "(II)I"), (2, u "twoToTheDoubleScaleDown"), (0, u "D"), (4, u "twoToTheDoubleScaleUp"), (9, u "E"), (3, u "PI"), (2, u "TAU"), (2, u "DEGREES_TO_RADIANS"), (0, u "RADIANS_TO_DEGREES")] 94

def k16m0 : Method := { name := "<init>", desc := "()V", sig := { parameters := [], returnType := none }, accessFlags := 2, code := none }
def k16c1 : Code := { maxStack := 2, maxLocals := 2, code := jdk_29_method_65_code, exceptionTable := #[], attributes := #[] }
def k16m1 : Method := { name := "max", desc := "(II)I", sig := { parameters := [.int, .int], returnType := some .int }, accessFlags := 9, code := some k16c1 }
/-- java/lang/Math -/
def k16 : Class := { plain "java/lang/Math" (some 0) with
  accessFlags := 49
  interfaces := #[]
  cf := some (fileOf pool16 1 #[.nestMembers #[98]] #[{ accessFlags := 2, nameIndex := 7, descriptorIndex := 8, attributes := #[] }, { accessFlags := 9, nameIndex := 198, descriptorIndex := 335, attributes := #[] }] 49 4 #[] #[{ accessFlags := 25, nameIndex := 354, descriptorIndex := 339, attributes := #[] }, { accessFlags := 25, nameIndex := 358, descriptorIndex := 339, attributes := #[] }, { accessFlags := 25, nameIndex := 361, descriptorIndex := 339, attributes := #[] }, { accessFlags := 26, nameIndex := 364, descriptorIndex := 339, attributes := #[] }, { accessFlags := 26, nameIndex := 365, descriptorIndex := 339, attributes := #[] }, { accessFlags := 26, nameIndex := 172, descriptorIndex := 173, attributes := #[] }, { accessFlags := 26, nameIndex := 176, descriptorIndex := 173, attributes := #[] }, { accessFlags := 8, nameIndex := 344, descriptorIndex := 339, attributes := #[] }, { accessFlags := 8, nameIndex := 338, descriptorIndex := 339, attributes := #[] }, { accessFlags := 4120, nameIndex := 245, descriptorIndex := 246, attributes := #[] }])
  fields := #[{ name := "E", type := .double, accessFlags := 25, slot := 0, constantValue := 0 }, { name := "PI", type := .double, accessFlags := 25, slot := 1, constantValue := 0 }, { name := "TAU", type := .double, accessFlags := 25, slot := 2, constantValue := 0 }, { name := "DEGREES_TO_RADIANS", type := .double, accessFlags := 26, slot := 3, constantValue := 0 }, { name := "RADIANS_TO_DEGREES", type := .double, accessFlags := 26, slot := 4, constantValue := 0 }, { name := "negativeZeroFloatBits", type := .long, accessFlags := 26, slot := 5, constantValue := 0 }, { name := "negativeZeroDoubleBits", type := .long, accessFlags := 26, slot := 6, constantValue := 0 }, { name := "twoToTheDoubleScaleUp", type := .double, accessFlags := 8, slot := 7, constantValue := 0 }, { name := "twoToTheDoubleScaleDown", type := .double, accessFlags := 8, slot := 8, constantValue := 0 }, { name := "$assertionsDisabled", type := .boolean, accessFlags := 4120, slot := 9, constantValue := 0 }]
  methods := #[k16m0, k16m1]
  instanceTypes := #[]
  staticTypes := #[.double, .double, .double, .double, .double, .long, .long, .double, .double, .boolean]
  resolved := Array.replicate 460 none
  statics := none }

/-- the primitive byte -/
def k17 : Class := { plain "byte" none with kind := .primitive 'B', accessFlags := 0x411 }
/-- [B -/
def k18 : Class := { plain "[B" (some 0) with kind := .array 17 .byte, interfaces := #[10, 11], accessFlags := 1041 }

/-- the primitive char -/
def k19 : Class := { plain "char" none with kind := .primitive 'C', accessFlags := 0x411 }
/-- [C -/
def k20 : Class := { plain "[C" (some 0) with kind := .array 19 .char, interfaces := #[10, 11], accessFlags := 1041 }

/-- the primitive int -/
def k21 : Class := { plain "int" none with kind := .primitive 'I', accessFlags := 0x411 }
/-- [I -/
def k22 : Class := { plain "[I" (some 0) with kind := .array 21 .int, interfaces := #[10, 11], accessFlags := 1041 }

/-- [Ljava/lang/Object; -/
def k23 : Class := { plain "[Ljava/lang/Object;" (some 0) with kind := .array 0 (.object "java/lang/Object"), interfaces := #[10, 11], accessFlags := 1041 }

def heap : Heap := #[{ cls := 12, slots := #[.long 0, .int 0, .ref 1, .ref 2], vm := .statics 12 },
  { cls := 23, slots := #[], vm := .none },
  { cls := 23, slots := #[], vm := .none }]
def classes : Array Class := #[k0, k1, k2, k3, k4, k5, k6, k7, k8, k9, k10, k11, k12, k13, k14, k15, k16, k17, k18, k19, k20, k21, k22, k23]
def interned : List (Array UInt16 × Addr) := []
def slotsUsed : Nat := 4
def theMethod : MethodId := ⟨1, 1⟩
def args0 : Array Value := #[.int 5, .int 6, .int 7]
def aboutOver (below : List Frame) : State where
  vm := { classes := classes, interned := interned.toArray }
  heap := heap
  slotsUsed := slotsUsed
  threads := #[{ frames := .invoking theMethod args0 :: below }]
def below0 : List Frame := [.native { method := ⟨0, 0⟩, args := #[] }]
def about1 : State := aboutOver below0
def p0 : Program := .bare "" "" ""
def e0 : Env := launch0.env 0 0 0
theorem w_frames : about1.frames = Frame.invoking theMethod args0 :: below0 := rfl
set_option maxRecDepth 65536 in
theorem w_args : argsFit about1.vm theMethod args0 = true := by decide +kernel
set_option maxRecDepth 65536 in
theorem w_heap : heapFits about1 = true := by decide +kernel
set_option maxRecDepth 65536 in
theorem w_runnable : about1.curStatus? = some .runnable := by decide +kernel
set_option maxRecDepth 65536 in
theorem w_alone : about1.alone = true := by decide +kernel
set_option maxRecDepth 65536 in
theorem w_named : about1.methodNamed? x = some theMethod := by decide +kernel
set_option maxRecDepth 65536 in
theorem w_hears : about1.hears theMethod below0 = true := by decide +kernel
set_option maxRecDepth 65536 in
theorem w_ripe : about1.ripe theMethod args0 below0 = true := by decide +kernel
theorem w_running : about1.status = .running := rfl
set_option maxRecDepth 65536 in
theorem w_room : about1.hasRoom e0.platform room_1 = true :=
  launch0.hasRoom_least _ room_1 (by decide +kernel) (by decide +kernel) (by decide +kernel) (by decide +kernel) (by decide +kernel) (by decide +kernel)
theorem allAtoms_all (ts : List Jvm.Cond) (a : Array Jvm.Value) (st : Jvm.State) : (allAtoms ts).before a st = ts.all (fun c => c.before a st) := by
  induction ts with
  | nil => rfl
  | cons c t ih =>
    show (Jvm.Cond.and c (allAtoms t)).before a st = _
    rw [Jvm.Cond.before_and, ih, List.all_cons]
def words1 : List Jvm.Cond := Jvm.Cond.code x code maxLocals ret :: tables_1
/-- a 'code' word, met by the world's own term for the bytes: nothing is compared byte by byte -/
theorem code_word {y : MethodName} {bytes : ByteArray} {mx : Nat} {rt : Option FieldType} {a : Array Value} {s : State} {m : MethodId} {meth : Method} {c : Code} (h1 : s.methodNamed? y = some m) (h2 : s.vm.method? m = some meth) (h3 : meth.code = some c) (h4 : c.code = bytes)
    (h5 : (c.maxLocals == mx && c.exceptionTable.isEmpty && decide (c.maxStack ≤ mostOperands) && decide (meth.sig.returnType = rt) && !meth.locks && decide (parseMethodDescriptor y.desc = some meth.sig)) = true) : (Jvm.Cond.code y bytes mx rt).before a s = true := by
  simp only [Bool.and_eq_true, beq_iff_eq, Bool.not_eq_true', decide_eq_true_eq] at h5
  obtain ⟨⟨⟨⟨⟨g1, g2⟩, g3⟩, g4⟩, g5⟩, g6⟩ := h5
  simp [Cond.before, Cond.holds, Cond.value, h1, h2, h3, h4, g1, g2, g3, g4, g5, g6]
def isCode : Jvm.Cond → Bool
  | .code _ _ _ _ => true
  | _ => false
theorem all_split {L : List Jvm.Cond} {P : Jvm.Cond → Bool} (h1 : L.all (fun c => isCode c || P c) = true) (h2 : ∀ c ∈ L.filter isCode, P c = true) : L.all P = true := by
  refine List.all_eq_true.mpr fun c hc => ?_
  have h := List.all_eq_true.mp h1 c hc
  rcases Bool.eq_false_or_eq_true (isCode c) with hi | hi
  · exact h2 c (List.mem_filter.mpr ⟨hc, hi⟩)
  · simpa [hi] using h
set_option maxRecDepth 65536 in
theorem w_c0 : (Jvm.Cond.code x code maxLocals ret).before args0 about1 = true := code_word (m := ⟨1, 1⟩) (meth := k1m1) (c := k1c1) (by decide +kernel) rfl rfl rfl (by decide +kernel)
set_option maxRecDepth 65536 in
theorem w_c1 : (Jvm.Cond.code ({ cls := "com/example/sprigdex/sprigdex/index/html/HtmlTree", name := "<init>", desc := "(I)V" } : Jvm.MethodName) prog_122_method_1_code (2 : Nat) (Option.none : Option Jvm.ClassFile.FieldType)).before args0 about1 = true := code_word (m := ⟨2, 0⟩) (meth := k2m0) (c := k2c0) (by decide +kernel) rfl rfl rfl (by decide +kernel)
set_option maxRecDepth 65536 in
theorem w_c2 : (Jvm.Cond.code ({ cls := "java/lang/Object", name := "<init>", desc := "()V" } : Jvm.MethodName) object_method_1_code (1 : Nat) (Option.none : Option Jvm.ClassFile.FieldType)).before args0 about1 = true := code_word (m := ⟨0, 0⟩) (meth := k0m0) (c := k0c0) (by decide +kernel) rfl rfl rfl (by decide +kernel)
set_option maxRecDepth 65536 in
theorem w_c3 : (Jvm.Cond.code ({ cls := "java/util/ArrayList", name := "<init>", desc := "()V" } : Jvm.MethodName) jdk_38_method_2_code (1 : Nat) (Option.none : Option Jvm.ClassFile.FieldType)).before args0 about1 = true := code_word (m := ⟨12, 0⟩) (meth := k12m0) (c := k12c0) (by decide +kernel) rfl rfl rfl (by decide +kernel)
set_option maxRecDepth 65536 in
theorem w_c4 : (Jvm.Cond.code ({ cls := "java/util/AbstractList", name := "<init>", desc := "()V" } : Jvm.MethodName) jdk_39_method_1_code (1 : Nat) (Option.none : Option Jvm.ClassFile.FieldType)).before args0 about1 = true := code_word (m := ⟨8, 0⟩) (meth := k8m0) (c := k8c0) (by decide +kernel) rfl rfl rfl (by decide +kernel)
set_option maxRecDepth 65536 in
theorem w_c5 : (Jvm.Cond.code ({ cls := "java/util/AbstractCollection", name := "<init>", desc := "()V" } : Jvm.MethodName) jdk_22_method_1_code (1 : Nat) (Option.none : Option Jvm.ClassFile.FieldType)).before args0 about1 = true := code_word (m := ⟨5, 0⟩) (meth := k5m0) (c := k5c0) (by decide +kernel) rfl rfl rfl (by decide +kernel)
set_option maxRecDepth 65536 in
theorem w_c6 : (Jvm.Cond.code ({ cls := "java/util/HashMap", name := "<init>", desc := "()V" } : Jvm.MethodName) jdk_69_method_7_code (1 : Nat) (Option.none : Option Jvm.ClassFile.FieldType)).before args0 about1 = true := code_word (m := ⟨15, 0⟩) (meth := k15m0) (c := k15c0) (by decide +kernel) rfl rfl rfl (by decide +kernel)
set_option maxRecDepth 65536 in
theorem w_c7 : (Jvm.Cond.code ({ cls := "java/util/AbstractMap", name := "<init>", desc := "()V" } : Jvm.MethodName) jdk_71_method_1_code (1 : Nat) (Option.none : Option Jvm.ClassFile.FieldType)).before args0 about1 = true := code_word (m := ⟨14, 0⟩) (meth := k14m0) (c := k14c0) (by decide +kernel) rfl rfl rfl (by decide +kernel)
set_option maxRecDepth 65536 in
theorem w_c8 : (Jvm.Cond.code ({ cls := "java/lang/Math", name := "max", desc := "(II)I" } : Jvm.MethodName) jdk_29_method_65_code (2 : Nat) (Option.some Jvm.ClassFile.FieldType.int)).before args0 about1 = true := code_word (m := ⟨16, 1⟩) (meth := k16m1) (c := k16c1) (by decide +kernel) rfl rfl rfl (by decide +kernel)
set_option maxRecDepth 65536 in
theorem w_c9 : (Jvm.Cond.code ({ cls := "com/example/sprigdex/sprigdex/index/html/HtmlTree", name := "grow", desc := "(I)V" } : Jvm.MethodName) prog_122_method_23_code (2 : Nat) (Option.none : Option Jvm.ClassFile.FieldType)).before args0 about1 = true := code_word (m := ⟨2, 8⟩) (meth := k2m8) (c := k2c8) (by decide +kernel) rfl rfl rfl (by decide +kernel)
set_option maxRecDepth 65536 in
theorem w_c10 : (Jvm.Cond.code ({ cls := "com/example/sprigdex/sprigdex/index/html/HtmlTree", name := "node", desc := "(I)I" } : Jvm.MethodName) prog_122_method_22_code (3 : Nat) (Option.some Jvm.ClassFile.FieldType.int)).before args0 about1 = true := code_word (m := ⟨2, 7⟩) (meth := k2m7) (c := k2c7) (by decide +kernel) rfl rfl rfl (by decide +kernel)
set_option maxRecDepth 65536 in
theorem w_c11 : (Jvm.Cond.code ({ cls := "com/example/sprigdex/sprigdex/index/html/HtmlTree", name := "copyText", desc := "(I)I" } : Jvm.MethodName) prog_122_method_10_code (3 : Nat) (Option.some Jvm.ClassFile.FieldType.int)).before args0 about1 = true := code_word (m := ⟨2, 3⟩) (meth := k2m3) (c := k2c3) (by decide +kernel) rfl rfl rfl (by decide +kernel)
set_option maxRecDepth 65536 in
theorem w_c12 : (Jvm.Cond.code ({ cls := "com/example/sprigdex/sprigdex/index/html/HtmlTree", name := "insert", desc := "(III)V" } : Jvm.MethodName) prog_122_method_5_code (5 : Nat) (Option.none : Option Jvm.ClassFile.FieldType)).before args0 about1 = true := code_word (m := ⟨2, 1⟩) (meth := k2m1) (c := k2c1) (by decide +kernel) rfl rfl rfl (by decide +kernel)
set_option maxRecDepth 65536 in
theorem w_c13 : (Jvm.Cond.code ({ cls := "com/example/sprigdex/sprigdex/index/html/HtmlTree", name := "detach", desc := "(I)V" } : Jvm.MethodName) prog_122_method_6_code (5 : Nat) (Option.none : Option Jvm.ClassFile.FieldType)).before args0 about1 = true := code_word (m := ⟨2, 2⟩) (meth := k2m2) (c := k2c2) (by decide +kernel) rfl rfl rfl (by decide +kernel)
set_option maxRecDepth 65536 in
theorem w_c14 : (Jvm.Cond.code ({ cls := "com/example/sprigdex/sprigdex/index/html/HtmlTree", name := "parent", desc := "(I)I" } : Jvm.MethodName) prog_122_method_12_code (2 : Nat) (Option.some Jvm.ClassFile.FieldType.int)).before args0 about1 = true := code_word (m := ⟨2, 4⟩) (meth := k2m4) (c := k2c4) (by decide +kernel) rfl rfl rfl (by decide +kernel)
set_option maxRecDepth 65536 in
theorem w_c15 : (Jvm.Cond.code ({ cls := "com/example/sprigdex/sprigdex/index/html/HtmlTreeDetachPinLaw", name := "chain", desc := "(Lcom/example/sprigdex/sprigdex/index/html/HtmlTree;IIII)Z" } : Jvm.MethodName) method_4_code (7 : Nat) (Option.some Jvm.ClassFile.FieldType.boolean)).before args0 about1 = true := code_word (m := ⟨1, 3⟩) (meth := k1m3) (c := k1c3) (by decide +kernel) rfl rfl rfl (by decide +kernel)
set_option maxRecDepth 65536 in
theorem w_c16 : (Jvm.Cond.code ({ cls := "com/example/sprigdex/sprigdex/index/html/HtmlTree", name := "firstChild", desc := "(I)I" } : Jvm.MethodName) prog_122_method_13_code (2 : Nat) (Option.some Jvm.ClassFile.FieldType.int)).before args0 about1 = true := code_word (m := ⟨2, 5⟩) (meth := k2m5) (c := k2c5) (by decide +kernel) rfl rfl rfl (by decide +kernel)
set_option maxRecDepth 65536 in
theorem w_c17 : (Jvm.Cond.code ({ cls := "com/example/sprigdex/sprigdex/index/html/HtmlTree", name := "nextSibling", desc := "(I)I" } : Jvm.MethodName) prog_122_method_14_code (2 : Nat) (Option.some Jvm.ClassFile.FieldType.int)).before args0 about1 = true := code_word (m := ⟨2, 6⟩) (meth := k2m6) (c := k2c6) (by decide +kernel) rfl rfl rfl (by decide +kernel)
set_option maxRecDepth 65536 in
theorem w_c18 : (Jvm.Cond.code ({ cls := "com/example/sprigdex/sprigdex/index/html/HtmlTreeDetachPinLaw", name := "at", desc := "(IIIII)I" } : Jvm.MethodName) method_3_code (5 : Nat) (Option.some Jvm.ClassFile.FieldType.int)).before args0 about1 = true := code_word (m := ⟨1, 2⟩) (meth := k1m2) (c := k1c2) (by decide +kernel) rfl rfl rfl (by decide +kernel)
def codes1 : List Jvm.Cond := [Jvm.Cond.code x code maxLocals ret, Jvm.Cond.code ({ cls := "com/example/sprigdex/sprigdex/index/html/HtmlTree", name := "<init>", desc := "(I)V" } : Jvm.MethodName) prog_122_method_1_code (2 : Nat) (Option.none : Option Jvm.ClassFile.FieldType), Jvm.Cond.code ({ cls := "java/lang/Object", name := "<init>", desc := "()V" } : Jvm.MethodName) object_method_1_code (1 : Nat) (Option.none : Option Jvm.ClassFile.FieldType), Jvm.Cond.code ({ cls := "java/util/ArrayList", name := "<init>", desc := "()V" } : Jvm.MethodName) jdk_38_method_2_code (1 : Nat) (Option.none : Option Jvm.ClassFile.FieldType), Jvm.Cond.code ({ cls := "java/util/AbstractList", name := "<init>", desc := "()V" } : Jvm.MethodName) jdk_39_method_1_code (1 : Nat) (Option.none : Option Jvm.ClassFile.FieldType), Jvm.Cond.code ({ cls := "java/util/AbstractCollection", name := "<init>", desc := "()V" } : Jvm.MethodName) jdk_22_method_1_code (1 : Nat) (Option.none : Option Jvm.ClassFile.FieldType), Jvm.Cond.code ({ cls := "java/util/HashMap", name := "<init>", desc := "()V" } : Jvm.MethodName) jdk_69_method_7_code (1 : Nat) (Option.none : Option Jvm.ClassFile.FieldType), Jvm.Cond.code ({ cls := "java/util/AbstractMap", name := "<init>", desc := "()V" } : Jvm.MethodName) jdk_71_method_1_code (1 : Nat) (Option.none : Option Jvm.ClassFile.FieldType), Jvm.Cond.code ({ cls := "java/lang/Math", name := "max", desc := "(II)I" } : Jvm.MethodName) jdk_29_method_65_code (2 : Nat) (Option.some Jvm.ClassFile.FieldType.int), Jvm.Cond.code ({ cls := "com/example/sprigdex/sprigdex/index/html/HtmlTree", name := "grow", desc := "(I)V" } : Jvm.MethodName) prog_122_method_23_code (2 : Nat) (Option.none : Option Jvm.ClassFile.FieldType), Jvm.Cond.code ({ cls := "com/example/sprigdex/sprigdex/index/html/HtmlTree", name := "node", desc := "(I)I" } : Jvm.MethodName) prog_122_method_22_code (3 : Nat) (Option.some Jvm.ClassFile.FieldType.int), Jvm.Cond.code ({ cls := "com/example/sprigdex/sprigdex/index/html/HtmlTree", name := "copyText", desc := "(I)I" } : Jvm.MethodName) prog_122_method_10_code (3 : Nat) (Option.some Jvm.ClassFile.FieldType.int), Jvm.Cond.code ({ cls := "com/example/sprigdex/sprigdex/index/html/HtmlTree", name := "insert", desc := "(III)V" } : Jvm.MethodName) prog_122_method_5_code (5 : Nat) (Option.none : Option Jvm.ClassFile.FieldType), Jvm.Cond.code ({ cls := "com/example/sprigdex/sprigdex/index/html/HtmlTree", name := "detach", desc := "(I)V" } : Jvm.MethodName) prog_122_method_6_code (5 : Nat) (Option.none : Option Jvm.ClassFile.FieldType), Jvm.Cond.code ({ cls := "com/example/sprigdex/sprigdex/index/html/HtmlTree", name := "parent", desc := "(I)I" } : Jvm.MethodName) prog_122_method_12_code (2 : Nat) (Option.some Jvm.ClassFile.FieldType.int), Jvm.Cond.code ({ cls := "com/example/sprigdex/sprigdex/index/html/HtmlTreeDetachPinLaw", name := "chain", desc := "(Lcom/example/sprigdex/sprigdex/index/html/HtmlTree;IIII)Z" } : Jvm.MethodName) method_4_code (7 : Nat) (Option.some Jvm.ClassFile.FieldType.boolean), Jvm.Cond.code ({ cls := "com/example/sprigdex/sprigdex/index/html/HtmlTree", name := "firstChild", desc := "(I)I" } : Jvm.MethodName) prog_122_method_13_code (2 : Nat) (Option.some Jvm.ClassFile.FieldType.int), Jvm.Cond.code ({ cls := "com/example/sprigdex/sprigdex/index/html/HtmlTree", name := "nextSibling", desc := "(I)I" } : Jvm.MethodName) prog_122_method_14_code (2 : Nat) (Option.some Jvm.ClassFile.FieldType.int), Jvm.Cond.code ({ cls := "com/example/sprigdex/sprigdex/index/html/HtmlTreeDetachPinLaw", name := "at", desc := "(IIIII)I" } : Jvm.MethodName) method_3_code (5 : Nat) (Option.some Jvm.ClassFile.FieldType.int)]
set_option maxRecDepth 65536 in
theorem codes_eq : words1.filter isCode = codes1 := rfl
theorem w_codes : ∀ c ∈ words1.filter isCode, c.before args0 about1 = true := by
  rw [codes_eq]
  intro c hc
  simp only [codes1, List.mem_cons, List.not_mem_nil, or_false] at hc
  rcases hc with rfl | rfl | rfl | rfl | rfl | rfl | rfl | rfl | rfl | rfl | rfl | rfl | rfl | rfl | rfl | rfl | rfl | rfl | rfl
  · exact w_c0
  · exact w_c1
  · exact w_c2
  · exact w_c3
  · exact w_c4
  · exact w_c5
  · exact w_c6
  · exact w_c7
  · exact w_c8
  · exact w_c9
  · exact w_c10
  · exact w_c11
  · exact w_c12
  · exact w_c13
  · exact w_c14
  · exact w_c15
  · exact w_c16
  · exact w_c17
  · exact w_c18
set_option maxRecDepth 65536 in
theorem w_t1 : (words1.take 24).all (fun c => isCode c || c.before args0 about1) = true := by decide +kernel
set_option maxRecDepth 65536 in
theorem w_t2 : ((words1.drop 24).take 24).all (fun c => isCode c || c.before args0 about1) = true := by decide +kernel
set_option maxRecDepth 65536 in
theorem w_t3 : (((words1.drop 24).drop 24).take 24).all (fun c => isCode c || c.before args0 about1) = true := by decide +kernel
set_option maxRecDepth 65536 in
theorem w_t4 : ((((words1.drop 24).drop 24).drop 24).take 24).all (fun c => isCode c || c.before args0 about1) = true := by decide +kernel
set_option maxRecDepth 65536 in
theorem w_t5 : (((((words1.drop 24).drop 24).drop 24).drop 24).take 24).all (fun c => isCode c || c.before args0 about1) = true := by decide +kernel
set_option maxRecDepth 65536 in
theorem w_t6 : (((((words1.drop 24).drop 24).drop 24).drop 24).drop 24).all (fun c => isCode c || c.before args0 about1) = true := by decide +kernel
theorem w_tables : (allAtoms (Jvm.Cond.code x code maxLocals ret :: tables_1)).before args0 about1 = true := by
  rw [allAtoms_all]
  show words1.all (fun c => c.before args0 about1) = true
  refine all_split ?_ w_codes
  rw [← List.take_append_drop 24 words1, List.all_append, w_t1, ← List.take_append_drop 24 (words1.drop 24), List.all_append, w_t2, ← List.take_append_drop 24 ((words1.drop 24).drop 24), List.all_append, w_t3, ← List.take_append_drop 24 (((words1.drop 24).drop 24).drop 24), List.all_append, w_t4, ← List.take_append_drop 24 ((((words1.drop 24).drop 24).drop 24).drop 24), List.all_append, w_t5, w_t6]
  rfl
set_option maxRecDepth 65536 in
theorem w_rest : rest_1_c.before args0 about1 = true := by decide +kernel
set_option maxRecDepth 65536 in
theorem w_case : (Jvm.Cond.and given_1 narrow_1).before args0 about1 = true := by decide +kernel
theorem w_applies : (headSpec (Jvm.Cond.code x code maxLocals ret :: tables_1) room_1).applies x e0.platform about1 = true :=
  (Spec.applies_iff w_frames).mpr ⟨w_running, w_runnable, w_alone, w_named, w_hears, w_ripe, w_room, w_tables⟩
theorem atStart : AtStart classFile x code maxLocals ret World_1 tables_1 room_1 Calls_1 rest_1 Pre_1 launch0 p0 e0 about1 theMethod args0 below0 :=
  ⟨lists_1, trivial, launch0.admits_env _ _ _, launch0.least_env, fairChoices_fair.cas, fairChoices_fair.clock, w_frames, w_args, w_heap, w_applies, trivial, w_rest, w_case⟩
end start1
theorem witness_1 : WitnessClaimed_1 := ⟨start1.p0, start1.e0, start1.about1, start1.theMethod, start1.args0, start1.below0, start1.atStart⟩
end Jvm.Pilot.@@N@@
