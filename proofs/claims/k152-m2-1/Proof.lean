import JvmDerived
import JvmDerived.Pilot.@@N@@Statement
import JvmDerived.Pilot.@@N@@Code
set_option linter.unusedVariables false
set_option linter.unusedSimpArgs false
namespace Jvm.Own
open Sem ClassFile Op Lib Jvm.Stand Jvm.Free Jvm.LawKit Jvm.RoadKit
/-! ### what is left to walk, and one law a step -/
def Go (p : Program) (e : Env) (below : List Frame) (P : Outcome → State → Prop) (S : State) : Prop :=
  ∃ s₂ o, Steps p.tables e below S s₂ ∧ s₂.status = .running ∧ Ended s₂ below o ∧ P o s₂
def Fini (s : State) (Q : Option Value → Heap → List Loc → Prop) (k n : Nat) (o : Outcome) (U : State) : Prop :=
  ∃ v L, o = .returned v ∧ Q v U.heap L ∧ FrameEnd s o U L k n
def Ct (l : Launch) (y : MethodName) (bytes : ByteArray) (maxL : Nat) (ret : Option FieldType) (ws : List Jvm.Cond) (rm : Room) (Z : State) (as : Array Value) (h : Heap) (Q : Option Value → Heap → List Loc → Prop) : Prop :=
  MetFree l y (head1 (Jvm.Cond.code y bytes maxL ret :: ws) rm) (fun a U => a = as ∧ Z.Warmed39 U.vm ∧ U.heap = h) (fun _ _ _ _ _ => True) (fun _ U o U' => ∃ v L, o = .returned v ∧ Q v U'.heap L ∧ FrameEnd U o U' L rm.cells rm.slots)
section Walk
variable {p : Program} {l : Launch} {e : Env} {R : Room} {s : State} {m : MethodId} {args : Array Value} {below : List Frame} {meth : Method} {c : Code} {T : State} {locs : List Loc} {cells slots : Nat} {P : Outcome → State → Prop} {Z : State} {a0 : Array Value} {h : Heap}
variable {pc : Nat} {L : Array Slot} {rest st : List Value}
theorem Go.via {A B : State} (q : ∀ t, Steps p.tables e below B t → Steps p.tables e below A t) (k : Go p e below P B) : Go p e below P A := by
  obtain ⟨s2, o, h1, h2⟩ := k
  exact ⟨s2, o, q _ h1, h2⟩
theorem Go.tr {A B : State} (q : Steps p.tables e below A B) (k : Go p e below P B) : Go p e below P A := Go.via (fun _ r => q.trans r) k
theorem enter {y : MethodName} {bytes : ByteArray} {maxL : Nat} {ret : Option FieldType} {ws : List Jvm.Cond} {rm : Room} {as : Array Value} {Q : Option Value → Heap → List Loc → Prop} (hy : plainFor y = true)
    (body : ∀ p e s m below meth c s₁, p.tables.exec = Jvm.exec → c.code = bytes → c.maxLocals = maxL → s.vm.findClass y.cls = some m.cls → meth.name = y.name → meth.sig.returnType = ret → meth.locks = false → Z.Warmed39 s.vm →
      Stand p l e rm s m as below meth c s₁ [] 0 0 → s₁.heap = h → Go p e below (Fini s Q rm.cells rm.slots) (s₁.setTop (entryFrame m as maxL))) : Ct l y bytes maxL ret ws rm Z as h Q := by
  refine MetFree.of_bodySF hy hisR ?_
  intro p e s m args below meth c s₁ Bd hml hP hK
  obtain ⟨rfl, hZ, hh⟩ := hP
  exact body p e s m below meth c s₁ Bd.exec Bd.bytes hml (findClass_of_methodNamed Bd.named) (name_of_methodNamed Bd.named Bd.method).1 Bd.returns Bd.notSynchronized hZ (Stand.of_body Bd) (by rw [← hh, Bd.state]; rfl)
theorem start {g g' : JFrame} (q : g = g') (k : Go p e below P (T.setTop g')) : Go p e below P (T.setTop g) := q ▸ k
theorem induct {α : Type} (S : α → State) (I : Nat → α → Prop) (base : ∀ a, I 0 a → Go p e below P (S a)) (step : ∀ k a, I (k + 1) a → (∀ a', I k a' → Go p e below P (S a')) → Go p e below P (S a)) {n : Nat} {a : α} (w : I n a) : Go p e below P (S a) := by
  induction n generalizing a with
  | zero => exact base a w
  | succ k ih => exact step k a w (fun a' w' => ih w')
/-! plain steps -/
theorem aloadN (X : Stand p l e R s m args below meth c T locs cells slots) (hx : p.tables.exec = Jvm.exec) {i : Fin 4} {v : Value} (hd : decode c.code pc = .ok (.aload_n i, 1)) (hl : L[i.val]? = some (.val v)) (hv : v.isRef = true) (k : Go p e below P (T.setTop (mkF m (pc + 1) L (v :: st)))) : Go p e below P (T.setTop (mkF m pc L st)) := Go.via (fun _ q => XS.aloadN X.here hx rfl hd hl hv q) k
theorem aload (X : Stand p l e R s m args below meth c T locs cells slots) (hx : p.tables.exec = Jvm.exec) {i : Nat} {v : Value} (hd : decode c.code pc = .ok (.aload i, 2)) (hl : L[i]? = some (.val v)) (hv : v.isRef = true) (k : Go p e below P (T.setTop (mkF m (pc + 2) L (v :: st)))) : Go p e below P (T.setTop (mkF m pc L st)) := Go.via (fun _ q => XS.aload X.here hx rfl hd hl hv q) k
theorem iloadN (X : Stand p l e R s m args below meth c T locs cells slots) (hx : p.tables.exec = Jvm.exec) {i : Fin 4} {v : Int32} (hd : decode c.code pc = .ok (.iload_n i, 1)) (hl : L[i.val]? = some (.val (.int v))) (k : Go p e below P (T.setTop (mkF m (pc + 1) L (.int v :: st)))) : Go p e below P (T.setTop (mkF m pc L st)) := Go.via (fun _ q => XS.iloadN X.here hx rfl hd hl q) k
theorem iload (X : Stand p l e R s m args below meth c T locs cells slots) (hx : p.tables.exec = Jvm.exec) {i : Nat} {v : Int32} (hd : decode c.code pc = .ok (.iload i, 2)) (hl : L[i]? = some (.val (.int v))) (k : Go p e below P (T.setTop (mkF m (pc + 2) L (.int v :: st)))) : Go p e below P (T.setTop (mkF m pc L st)) := Go.via (fun _ q => XS.iload X.here hx rfl hd hl q) k
theorem lloadN (X : Stand p l e R s m args below meth c T locs cells slots) (hx : p.tables.exec = Jvm.exec) {i : Fin 4} {v : Int64} (hd : decode c.code pc = .ok (.lload_n i, 1)) (hl : L[i.val]? = some (.val (.long v))) (k : Go p e below P (T.setTop (mkF m (pc + 1) L (.long v :: st)))) : Go p e below P (T.setTop (mkF m pc L st)) := Go.via (fun _ q => XT.lloadN X.here hx rfl hd hl q) k
theorem lload (X : Stand p l e R s m args below meth c T locs cells slots) (hx : p.tables.exec = Jvm.exec) {i : Nat} {v : Int64} (hd : decode c.code pc = .ok (.lload i, 2)) (hl : L[i]? = some (.val (.long v))) (k : Go p e below P (T.setTop (mkF m (pc + 2) L (.long v :: st)))) : Go p e below P (T.setTop (mkF m pc L st)) := Go.via (fun _ q => XT.lload X.here hx rfl hd hl q) k
theorem istoreN (X : Stand p l e R s m args below meth c T locs cells slots) (hx : p.tables.exec = Jvm.exec) {i : Fin 4} {v : Int32} (L' : Array Slot) (hd : decode c.code pc = .ok (.istore_n i, 1)) (hl : storeLocals L i.val (.int v) = some L') (k : Go p e below P (T.setTop (mkF m (pc + 1) L' st))) : Go p e below P (T.setTop (mkF m pc L (.int v :: st))) := Go.via (fun _ q => XS.istoreN X.here hx rfl hd rfl hl q) k
theorem istore (X : Stand p l e R s m args below meth c T locs cells slots) (hx : p.tables.exec = Jvm.exec) {i : Nat} {v : Int32} (L' : Array Slot) (hd : decode c.code pc = .ok (.istore i, 2)) (hl : storeLocals L i (.int v) = some L') (k : Go p e below P (T.setTop (mkF m (pc + 2) L' st))) : Go p e below P (T.setTop (mkF m pc L (.int v :: st))) := Go.via (fun _ q => XS.istore X.here hx rfl hd rfl hl q) k
theorem lstoreN (X : Stand p l e R s m args below meth c T locs cells slots) (hx : p.tables.exec = Jvm.exec) {i : Fin 4} {v : Int64} (L' : Array Slot) (hd : decode c.code pc = .ok (.lstore_n i, 1)) (hl : storeLocals L i.val (.long v) = some L') (k : Go p e below P (T.setTop (mkF m (pc + 1) L' st))) : Go p e below P (T.setTop (mkF m pc L (.long v :: st))) := Go.via (fun _ q => XT.lstoreN X.here hx rfl hd rfl hl q) k
theorem lstore (X : Stand p l e R s m args below meth c T locs cells slots) (hx : p.tables.exec = Jvm.exec) {i : Nat} {v : Int64} (L' : Array Slot) (hd : decode c.code pc = .ok (.lstore i, 2)) (hl : storeLocals L i (.long v) = some L') (k : Go p e below P (T.setTop (mkF m (pc + 2) L' st))) : Go p e below P (T.setTop (mkF m pc L (.long v :: st))) := Go.via (fun _ q => XT.lstore X.here hx rfl hd rfl hl q) k
theorem astoreN (X : Stand p l e R s m args below meth c T locs cells slots) (hx : p.tables.exec = Jvm.exec) {i : Fin 4} {v : Value} (L' : Array Slot) (hd : decode c.code pc = .ok (.astore_n i, 1)) (hv : v.isRef = true) (hl : storeLocals L i.val v = some L') (k : Go p e below P (T.setTop (mkF m (pc + 1) L' st))) : Go p e below P (T.setTop (mkF m pc L (v :: st))) := Go.via (fun _ q => XS.astoreN X.here hx rfl hd rfl hv hl q) k
theorem astore (X : Stand p l e R s m args below meth c T locs cells slots) (hx : p.tables.exec = Jvm.exec) {i : Nat} {v : Value} (L' : Array Slot) (hd : decode c.code pc = .ok (.astore i, 2)) (hv : v.isRef = true) (hl : storeLocals L i v = some L') (k : Go p e below P (T.setTop (mkF m (pc + 2) L' st))) : Go p e below P (T.setTop (mkF m pc L (v :: st))) := Go.via (fun _ q => XS.astore X.here hx rfl hd rfl hv hl q) k
theorem iconst (X : Stand p l e R s m args below meth c T locs cells slots) (hx : p.tables.exec = Jvm.exec) {i : Int} (v : Int32) (hd : decode c.code pc = .ok (.iconst i, 1)) (hv : Int32.ofInt i = v) (k : Go p e below P (T.setTop (mkF m (pc + 1) L (.int v :: st)))) : Go p e below P (T.setTop (mkF m pc L st)) := Go.via (fun _ q => XS.iconst X.here hx rfl hd (hv ▸ q)) k
theorem bipush (X : Stand p l e R s m args below meth c T locs cells slots) (hx : p.tables.exec = Jvm.exec) {i : Int} (v : Int32) (hd : decode c.code pc = .ok (.bipush i, 2)) (hv : (Int8.ofInt i).toInt32 = v) (k : Go p e below P (T.setTop (mkF m (pc + 2) L (.int v :: st)))) : Go p e below P (T.setTop (mkF m pc L st)) := Go.via (fun _ q => XS.bipush X.here hx rfl hd (hv ▸ q)) k
theorem sipush (X : Stand p l e R s m args below meth c T locs cells slots) (hx : p.tables.exec = Jvm.exec) {i : Int} (v : Int32) (hd : decode c.code pc = .ok (.sipush i, 3)) (hv : (Int16.ofInt i).toInt32 = v) (k : Go p e below P (T.setTop (mkF m (pc + 3) L (.int v :: st)))) : Go p e below P (T.setTop (mkF m pc L st)) := Go.via (fun _ q => XS.sipush X.here hx rfl hd (hv ▸ q)) k
theorem lconst (X : Stand p l e R s m args below meth c T locs cells slots) (hx : p.tables.exec = Jvm.exec) {i : Fin 2} (v : Int64) (hd : decode c.code pc = .ok (.lconst i, 1)) (hv : Int64.ofNat i = v) (k : Go p e below P (T.setTop (mkF m (pc + 1) L (.long v :: st)))) : Go p e below P (T.setTop (mkF m pc L st)) := Go.via (fun _ q => XT.lconst X.here hx rfl hd (hv ▸ q)) k
theorem aconstNull (X : Stand p l e R s m args below meth c T locs cells slots) (hx : p.tables.exec = Jvm.exec) (hd : decode c.code pc = .ok (.aconst_null, 1)) (k : Go p e below P (T.setTop (mkF m (pc + 1) L (.null :: st)))) : Go p e below P (T.setTop (mkF m pc L st)) := Go.via (fun _ q => XS.aconstNull X.here hx rfl hd q) k
theorem ldcI (X : Stand p l e R s m args below meth c T locs cells slots) (hx : p.tables.exec = Jvm.exec) (hZ : Z.Warmed39 s.vm) {own : String} {i : Nat} {v : Int32} (hown : s.vm.findClass own = some m.cls) (w : (Cond.constant own i v).before a0 Z = true) (hd : decode c.code pc = .ok (.ldc i, 2)) (k : Go p e below P (T.setTop (mkF m (pc + 2) L (.int v :: st)))) : Go p e below P (T.setTop (mkF m pc L st)) := Go.via (fun _ q => X.ldcI hx hown (mvT hZ w) rfl hd q) k
theorem ldcWI (X : Stand p l e R s m args below meth c T locs cells slots) (hx : p.tables.exec = Jvm.exec) (hZ : Z.Warmed39 s.vm) {own : String} {i : Nat} {v : Int32} (hown : s.vm.findClass own = some m.cls) (w : (Cond.constant own i v).before a0 Z = true) (hd : decode c.code pc = .ok (.ldc_w i, 3)) (k : Go p e below P (T.setTop (mkF m (pc + 3) L (.int v :: st)))) : Go p e below P (T.setTop (mkF m pc L st)) := Go.via (fun _ q => X.ldcWI hx hown (mvT hZ w) rfl hd q) k
theorem ldc2J (X : Stand p l e R s m args below meth c T locs cells slots) (hx : p.tables.exec = Jvm.exec) (hZ : Z.Warmed39 s.vm) {own : String} {i : Nat} {v : Int64} (hown : s.vm.findClass own = some m.cls) (w : (Cond.constantLong own i v).before a0 Z = true) (hd : decode c.code pc = .ok (.ldc2_w i, 3)) (k : Go p e below P (T.setTop (mkF m (pc + 3) L (.long v :: st)))) : Go p e below P (T.setTop (mkF m pc L st)) := Go.via (fun _ q => X.ldc2J hx hown (mvT hZ w) rfl hd q) k
theorem iinc (X : Stand p l e R s m args below meth c T locs cells slots) (hx : p.tables.exec = Jvm.exec) {i : Nat} {d : Int} {x : Int32} (v : Int32) (L' : Array Slot) (hd : decode c.code pc = .ok (.iinc i d, 3)) (hv : Int32.ofInt d = v) (hl : L[i]? = some (.val (.int x))) (hl' : storeLocals L i (.int (x + v)) = some L') (k : Go p e below P (T.setTop (mkF m (pc + 3) L' st))) : Go p e below P (T.setTop (mkF m pc L st)) := Go.via (fun _ q => XS.iinc X.here hx rfl hd hl (hv ▸ hl') q) k
theorem goto (X : Stand p l e R s m args below meth c T locs cells slots) (hx : p.tables.exec = Jvm.exec) {o : Int} (pc' : Nat) (hd : decode c.code pc = .ok (.goto o, 3)) (ho : 0 ≤ (pc : Int) + o) (hp : ((pc : Int) + o).toNat = pc') (k : Go p e below P (T.setTop (mkF m pc' L st))) : Go p e below P (T.setTop (mkF m pc L st)) := Go.via (fun _ q => XS.goto X.here hx rfl rfl hd ho hp q) k
theorem ifYes (X : Stand p l e R s m args below meth c T locs cells slots) (hx : p.tables.exec = Jvm.exec) {cd : ClassFile.Cond} {x : Int32} {o : Int} (pc' : Nat) (hd : decode c.code pc = .ok (.ifCond cd o, 3)) (hc : ifCond.holds cd x = true) (ho : 0 ≤ (pc : Int) + o) (hp : ((pc : Int) + o).toNat = pc') (k : Go p e below P (T.setTop (mkF m pc' L st))) : Go p e below P (T.setTop (mkF m pc L (.int x :: st))) := Go.via (fun _ q => XS.ifYes X.here hx rfl rfl hd rfl hc ho hp q) k
theorem ifNo (X : Stand p l e R s m args below meth c T locs cells slots) (hx : p.tables.exec = Jvm.exec) {cd : ClassFile.Cond} {x : Int32} {o : Int} (hd : decode c.code pc = .ok (.ifCond cd o, 3)) (hc : ifCond.holds cd x = false) (k : Go p e below P (T.setTop (mkF m (pc + 3) L st))) : Go p e below P (T.setTop (mkF m pc L (.int x :: st))) := Go.via (fun _ q => XS.ifNo X.here hx rfl hd rfl hc q) k
theorem icmpYes (X : Stand p l e R s m args below meth c T locs cells slots) (hx : p.tables.exec = Jvm.exec) {cd : ClassFile.Cond} {x y : Int32} {o : Int} (pc' : Nat) (hd : decode c.code pc = .ok (.if_icmp cd o, 3)) (hc : if_icmp.holds cd x y = true) (ho : 0 ≤ (pc : Int) + o) (hp : ((pc : Int) + o).toNat = pc') (k : Go p e below P (T.setTop (mkF m pc' L st))) : Go p e below P (T.setTop (mkF m pc L (.int y :: .int x :: st))) := Go.via (fun _ q => XS.icmpYes X.here hx rfl rfl hd rfl hc ho hp q) k
theorem icmpNo (X : Stand p l e R s m args below meth c T locs cells slots) (hx : p.tables.exec = Jvm.exec) {cd : ClassFile.Cond} {x y : Int32} {o : Int} (hd : decode c.code pc = .ok (.if_icmp cd o, 3)) (hc : if_icmp.holds cd x y = false) (k : Go p e below P (T.setTop (mkF m (pc + 3) L st))) : Go p e below P (T.setTop (mkF m pc L (.int y :: .int x :: st))) := Go.via (fun _ q => XS.icmpNo X.here hx rfl hd rfl hc q) k
theorem ifnullYes (X : Stand p l e R s m args below meth c T locs cells slots) (hx : p.tables.exec = Jvm.exec) {o : Int} (pc' : Nat) (hd : decode c.code pc = .ok (.ifnull o, 3)) (ho : 0 ≤ (pc : Int) + o) (hp : ((pc : Int) + o).toNat = pc') (k : Go p e below P (T.setTop (mkF m pc' L st))) : Go p e below P (T.setTop (mkF m pc L (.null :: st))) := Go.via (fun _ q => XS.ifnullYes X.here hx rfl rfl hd rfl ho hp q) k
theorem ifnullNo (X : Stand p l e R s m args below meth c T locs cells slots) (hx : p.tables.exec = Jvm.exec) {o : Int} {b : Addr} (hd : decode c.code pc = .ok (.ifnull o, 3)) (k : Go p e below P (T.setTop (mkF m (pc + 3) L st))) : Go p e below P (T.setTop (mkF m pc L (.ref b :: st))) := Go.via (fun _ q => XS.ifnullNo X.here hx rfl hd rfl q) k
theorem ifnonnullYes (X : Stand p l e R s m args below meth c T locs cells slots) (hx : p.tables.exec = Jvm.exec) {o : Int} {b : Addr} (pc' : Nat) (hd : decode c.code pc = .ok (.ifnonnull o, 3)) (ho : 0 ≤ (pc : Int) + o) (hp : ((pc : Int) + o).toNat = pc') (k : Go p e below P (T.setTop (mkF m pc' L st))) : Go p e below P (T.setTop (mkF m pc L (.ref b :: st))) := Go.via (fun _ q => XT.ifnonnullYes X.here hx rfl rfl hd rfl ho hp q) k
theorem ifnonnullNo (X : Stand p l e R s m args below meth c T locs cells slots) (hx : p.tables.exec = Jvm.exec) {o : Int} (hd : decode c.code pc = .ok (.ifnonnull o, 3)) (k : Go p e below P (T.setTop (mkF m (pc + 3) L st))) : Go p e below P (T.setTop (mkF m pc L (.null :: st))) := Go.via (fun _ q => XT.ifnonnullNo X.here hx rfl hd rfl q) k
theorem dup (X : Stand p l e R s m args below meth c T locs cells slots) (hx : p.tables.exec = Jvm.exec) {v : Value} (hd : decode c.code pc = .ok (.dup, 1)) (hc : v.category = 1) (k : Go p e below P (T.setTop (mkF m (pc + 1) L (v :: v :: st)))) : Go p e below P (T.setTop (mkF m pc L (v :: st))) := Go.via (fun _ q => XS.dup X.here hx rfl hd rfl hc q) k
theorem dup2 (X : Stand p l e R s m args below meth c T locs cells slots) (hx : p.tables.exec = Jvm.exec) {v w : Value} (hd : decode c.code pc = .ok (.dup2, 1)) (hc : v.category = 1) (hc' : w.category = 1) (k : Go p e below P (T.setTop (mkF m (pc + 1) L (v :: w :: v :: w :: st)))) : Go p e below P (T.setTop (mkF m pc L (v :: w :: st))) := Go.via (fun _ q => XT.dup2 X.here hx rfl hd rfl hc hc' q) k
theorem dup2L (X : Stand p l e R s m args below meth c T locs cells slots) (hx : p.tables.exec = Jvm.exec) {v : Int64} (hd : decode c.code pc = .ok (.dup2, 1)) (k : Go p e below P (T.setTop (mkF m (pc + 1) L (.long v :: .long v :: st)))) : Go p e below P (T.setTop (mkF m pc L (.long v :: st))) := Go.via (fun _ q => XT.dup2L X.here hx rfl hd rfl q) k
theorem dupX1 (X : Stand p l e R s m args below meth c T locs cells slots) (hx : p.tables.exec = Jvm.exec) {v w : Value} (hd : decode c.code pc = .ok (.dup_x1, 1)) (hc : v.category = 1) (hc' : w.category = 1) (k : Go p e below P (T.setTop (mkF m (pc + 1) L (v :: w :: v :: st)))) : Go p e below P (T.setTop (mkF m pc L (v :: w :: st))) := Go.via (fun _ q => XT.dupX1 X.here hx rfl hd rfl hc hc' q) k
theorem pop (X : Stand p l e R s m args below meth c T locs cells slots) (hx : p.tables.exec = Jvm.exec) {v : Value} (hd : decode c.code pc = .ok (.pop, 1)) (hc : v.category = 1) (k : Go p e below P (T.setTop (mkF m (pc + 1) L st))) : Go p e below P (T.setTop (mkF m pc L (v :: st))) := Go.via (fun _ q => XT.pop X.here hx rfl hd rfl hc q) k
theorem xdupX2 {e : Env} {below : List Frame} {T target : State} {m : MethodId} {c : Code} {g : JFrame} (h : At T m c below) (hx : p.tables.exec = Jvm.exec) (hg : g.method = m) {x y z : Value} {rest : List Value} (hd : decode c.code g.pc = .ok (.dup_x2, 1)) (hs : g.stack = x :: y :: z :: rest) (hc : x.category = 1) (hc' : y.category = 1) (hc2 : z.category = 1)
    (hr : Steps p.tables e below (T.setTop { g with pc := g.pc + 1, stack := x :: y :: z :: x :: rest }) target) : Steps p.tables e below (T.setTop g) target := by
  subst hg
  jvm_step h [h.top, hx, hd, hs, hc, hc', hc2]
  exact hr
theorem dupX2 (X : Stand p l e R s m args below meth c T locs cells slots) (hx : p.tables.exec = Jvm.exec) {v w u : Value} (hd : decode c.code pc = .ok (.dup_x2, 1)) (hc : v.category = 1) (hc' : w.category = 1) (hc2 : u.category = 1) (k : Go p e below P (T.setTop (mkF m (pc + 1) L (v :: w :: u :: v :: st)))) : Go p e below P (T.setTop (mkF m pc L (v :: w :: u :: st))) := Go.via (fun _ q => xdupX2 X.here hx rfl hd rfl hc hc' hc2 q) k
theorem xdup2X2 {e : Env} {below : List Frame} {T target : State} {m : MethodId} {c : Code} {g : JFrame} (h : At T m c below) (hx : p.tables.exec = Jvm.exec) (hg : g.method = m) {x : Int64} {y z : Value} {rest : List Value} (hd : decode c.code g.pc = .ok (.dup2_x2, 1)) (hs : g.stack = .long x :: y :: z :: rest) (hc' : y.category = 1) (hc2 : z.category = 1)
    (hr : Steps p.tables e below (T.setTop { g with pc := g.pc + 1, stack := .long x :: y :: z :: .long x :: rest }) target) : Steps p.tables e below (T.setTop g) target := by
  subst hg
  jvm_step h [h.top, hx, hd, hs, hc', hc2]
  exact hr
theorem dup2X2 (X : Stand p l e R s m args below meth c T locs cells slots) (hx : p.tables.exec = Jvm.exec) {v : Int64} {w u : Value} (hd : decode c.code pc = .ok (.dup2_x2, 1)) (hc' : w.category = 1) (hc2 : u.category = 1) (k : Go p e below P (T.setTop (mkF m (pc + 1) L (.long v :: w :: u :: .long v :: st)))) : Go p e below P (T.setTop (mkF m pc L (.long v :: w :: u :: st))) := Go.via (fun _ q => xdup2X2 X.here hx rfl hd rfl hc' hc2 q) k
theorem iadd (X : Stand p l e R s m args below meth c T locs cells slots) (hx : p.tables.exec = Jvm.exec) {x y : Int32} (hd : decode c.code pc = .ok (.iadd, 1)) (k : Go p e below P (T.setTop (mkF m (pc + 1) L (.int (x + y) :: st)))) : Go p e below P (T.setTop (mkF m pc L (.int y :: .int x :: st))) := Go.via (fun _ q => XS.iadd X.here hx rfl hd rfl q) k
theorem isub (X : Stand p l e R s m args below meth c T locs cells slots) (hx : p.tables.exec = Jvm.exec) {x y : Int32} (hd : decode c.code pc = .ok (.isub, 1)) (k : Go p e below P (T.setTop (mkF m (pc + 1) L (.int (x - y) :: st)))) : Go p e below P (T.setTop (mkF m pc L (.int y :: .int x :: st))) := Go.via (fun _ q => XS.isub X.here hx rfl hd rfl q) k
theorem imul (X : Stand p l e R s m args below meth c T locs cells slots) (hx : p.tables.exec = Jvm.exec) {x y : Int32} (hd : decode c.code pc = .ok (.imul, 1)) (k : Go p e below P (T.setTop (mkF m (pc + 1) L (.int (x * y) :: st)))) : Go p e below P (T.setTop (mkF m pc L (.int y :: .int x :: st))) := Go.via (fun _ q => XS.imul X.here hx rfl hd rfl q) k
theorem iand (X : Stand p l e R s m args below meth c T locs cells slots) (hx : p.tables.exec = Jvm.exec) {x y : Int32} (hd : decode c.code pc = .ok (.iand, 1)) (k : Go p e below P (T.setTop (mkF m (pc + 1) L (.int (x &&& y) :: st)))) : Go p e below P (T.setTop (mkF m pc L (.int y :: .int x :: st))) := Go.via (fun _ q => XS.iand X.here hx rfl hd rfl q) k
theorem ior (X : Stand p l e R s m args below meth c T locs cells slots) (hx : p.tables.exec = Jvm.exec) {x y : Int32} (hd : decode c.code pc = .ok (.ior, 1)) (k : Go p e below P (T.setTop (mkF m (pc + 1) L (.int (x ||| y) :: st)))) : Go p e below P (T.setTop (mkF m pc L (.int y :: .int x :: st))) := Go.via (fun _ q => XT.ior X.here hx rfl hd rfl q) k
theorem ixor (X : Stand p l e R s m args below meth c T locs cells slots) (hx : p.tables.exec = Jvm.exec) {x y : Int32} (hd : decode c.code pc = .ok (.ixor, 1)) (k : Go p e below P (T.setTop (mkF m (pc + 1) L (.int (x ^^^ y) :: st)))) : Go p e below P (T.setTop (mkF m pc L (.int y :: .int x :: st))) := Go.via (fun _ q => XT.ixor X.here hx rfl hd rfl q) k
theorem ishl (X : Stand p l e R s m args below meth c T locs cells slots) (hx : p.tables.exec = Jvm.exec) {x y : Int32} (hd : decode c.code pc = .ok (.ishl, 1)) (k : Go p e below P (T.setTop (mkF m (pc + 1) L (.int (x <<< (y &&& 31)) :: st)))) : Go p e below P (T.setTop (mkF m pc L (.int y :: .int x :: st))) := Go.via (fun _ q => XT.ishl X.here hx rfl hd rfl q) k
theorem ishr (X : Stand p l e R s m args below meth c T locs cells slots) (hx : p.tables.exec = Jvm.exec) {x y : Int32} (hd : decode c.code pc = .ok (.ishr, 1)) (k : Go p e below P (T.setTop (mkF m (pc + 1) L (.int (x >>> (y &&& 31)) :: st)))) : Go p e below P (T.setTop (mkF m pc L (.int y :: .int x :: st))) := Go.via (fun _ q => XT.ishr X.here hx rfl hd rfl q) k
theorem iushr (X : Stand p l e R s m args below meth c T locs cells slots) (hx : p.tables.exec = Jvm.exec) {x y : Int32} (hd : decode c.code pc = .ok (.iushr, 1)) (k : Go p e below P (T.setTop (mkF m (pc + 1) L (.int (XT.ushr x y) :: st)))) : Go p e below P (T.setTop (mkF m pc L (.int y :: .int x :: st))) := Go.via (fun _ q => XT.iushr X.here hx rfl hd rfl q) k
theorem idiv (X : Stand p l e R s m args below meth c T locs cells slots) (hx : p.tables.exec = Jvm.exec) {x y : Int32} (hd : decode c.code pc = .ok (.idiv, 1)) (hy : y ≠ 0) (k : Go p e below P (T.setTop (mkF m (pc + 1) L (.int (x / y) :: st)))) : Go p e below P (T.setTop (mkF m pc L (.int y :: .int x :: st))) := Go.via (fun _ q => XS.idiv X.here hx rfl hd rfl hy q) k
theorem irem (X : Stand p l e R s m args below meth c T locs cells slots) (hx : p.tables.exec = Jvm.exec) {x y : Int32} (hd : decode c.code pc = .ok (.irem, 1)) (hy : y ≠ 0) (k : Go p e below P (T.setTop (mkF m (pc + 1) L (.int (x % y) :: st)))) : Go p e below P (T.setTop (mkF m pc L (.int y :: .int x :: st))) := Go.via (fun _ q => iremM X hx (g := mkF m pc L (.int y :: .int x :: st)) rfl hd rfl hy q) k
theorem ladd (X : Stand p l e R s m args below meth c T locs cells slots) (hx : p.tables.exec = Jvm.exec) {x y : Int64} (hd : decode c.code pc = .ok (.ladd, 1)) (k : Go p e below P (T.setTop (mkF m (pc + 1) L (.long (x + y) :: st)))) : Go p e below P (T.setTop (mkF m pc L (.long y :: .long x :: st))) := Go.via (fun _ q => XT.ladd X.here hx rfl hd rfl q) k
theorem lsub (X : Stand p l e R s m args below meth c T locs cells slots) (hx : p.tables.exec = Jvm.exec) {x y : Int64} (hd : decode c.code pc = .ok (.lsub, 1)) (k : Go p e below P (T.setTop (mkF m (pc + 1) L (.long (x - y) :: st)))) : Go p e below P (T.setTop (mkF m pc L (.long y :: .long x :: st))) := Go.via (fun _ q => XT.lsub X.here hx rfl hd rfl q) k
theorem lmul (X : Stand p l e R s m args below meth c T locs cells slots) (hx : p.tables.exec = Jvm.exec) {x y : Int64} (hd : decode c.code pc = .ok (.lmul, 1)) (k : Go p e below P (T.setTop (mkF m (pc + 1) L (.long (x * y) :: st)))) : Go p e below P (T.setTop (mkF m pc L (.long y :: .long x :: st))) := Go.via (fun _ q => XT.lmul X.here hx rfl hd rfl q) k
theorem land (X : Stand p l e R s m args below meth c T locs cells slots) (hx : p.tables.exec = Jvm.exec) {x y : Int64} (hd : decode c.code pc = .ok (.land, 1)) (k : Go p e below P (T.setTop (mkF m (pc + 1) L (.long (x &&& y) :: st)))) : Go p e below P (T.setTop (mkF m pc L (.long y :: .long x :: st))) := Go.via (fun _ q => XT.land X.here hx rfl hd rfl q) k
theorem lor (X : Stand p l e R s m args below meth c T locs cells slots) (hx : p.tables.exec = Jvm.exec) {x y : Int64} (hd : decode c.code pc = .ok (.lor, 1)) (k : Go p e below P (T.setTop (mkF m (pc + 1) L (.long (x ||| y) :: st)))) : Go p e below P (T.setTop (mkF m pc L (.long y :: .long x :: st))) := Go.via (fun _ q => XT.lor X.here hx rfl hd rfl q) k
theorem lxor (X : Stand p l e R s m args below meth c T locs cells slots) (hx : p.tables.exec = Jvm.exec) {x y : Int64} (hd : decode c.code pc = .ok (.lxor, 1)) (k : Go p e below P (T.setTop (mkF m (pc + 1) L (.long (x ^^^ y) :: st)))) : Go p e below P (T.setTop (mkF m pc L (.long y :: .long x :: st))) := Go.via (fun _ q => XT.lxor X.here hx rfl hd rfl q) k
theorem lshl (X : Stand p l e R s m args below meth c T locs cells slots) (hx : p.tables.exec = Jvm.exec) {x : Int64} {y : Int32} (hd : decode c.code pc = .ok (.lshl, 1)) (k : Go p e below P (T.setTop (mkF m (pc + 1) L (.long (x <<< (y.toInt64 &&& 63)) :: st)))) : Go p e below P (T.setTop (mkF m pc L (.int y :: .long x :: st))) := Go.via (fun _ q => XT.lshl X.here hx rfl hd rfl q) k
theorem lshr (X : Stand p l e R s m args below meth c T locs cells slots) (hx : p.tables.exec = Jvm.exec) {x : Int64} {y : Int32} (hd : decode c.code pc = .ok (.lshr, 1)) (k : Go p e below P (T.setTop (mkF m (pc + 1) L (.long (x >>> (y.toInt64 &&& 63)) :: st)))) : Go p e below P (T.setTop (mkF m pc L (.int y :: .long x :: st))) := Go.via (fun _ q => XT.lshr X.here hx rfl hd rfl q) k
theorem lushr (X : Stand p l e R s m args below meth c T locs cells slots) (hx : p.tables.exec = Jvm.exec) {x : Int64} {y : Int32} (hd : decode c.code pc = .ok (.lushr, 1)) (k : Go p e below P (T.setTop (mkF m (pc + 1) L (.long (XT.ushrL x y) :: st)))) : Go p e below P (T.setTop (mkF m pc L (.int y :: .long x :: st))) := Go.via (fun _ q => XT.lushr X.here hx rfl hd rfl q) k
theorem ldiv (X : Stand p l e R s m args below meth c T locs cells slots) (hx : p.tables.exec = Jvm.exec) {x y : Int64} (hd : decode c.code pc = .ok (.ldiv, 1)) (hy : y ≠ 0) (k : Go p e below P (T.setTop (mkF m (pc + 1) L (.long (x / y) :: st)))) : Go p e below P (T.setTop (mkF m pc L (.long y :: .long x :: st))) := Go.via (fun _ q => XT.ldiv X.here hx rfl hd rfl hy q) k
theorem lrem (X : Stand p l e R s m args below meth c T locs cells slots) (hx : p.tables.exec = Jvm.exec) {x y : Int64} (hd : decode c.code pc = .ok (.lrem, 1)) (hy : y ≠ 0) (k : Go p e below P (T.setTop (mkF m (pc + 1) L (.long (x % y) :: st)))) : Go p e below P (T.setTop (mkF m pc L (.long y :: .long x :: st))) := Go.via (fun _ q => XT.lrem X.here hx rfl hd rfl hy (by rw [lrem_mod]; exact q)) k
theorem ineg (X : Stand p l e R s m args below meth c T locs cells slots) (hx : p.tables.exec = Jvm.exec) {x : Int32} (hd : decode c.code pc = .ok (.ineg, 1)) (k : Go p e below P (T.setTop (mkF m (pc + 1) L (.int ((-x)) :: st)))) : Go p e below P (T.setTop (mkF m pc L (.int x :: st))) := Go.via (fun _ q => XS.ineg X.here hx rfl hd rfl q) k
theorem lneg (X : Stand p l e R s m args below meth c T locs cells slots) (hx : p.tables.exec = Jvm.exec) {x : Int64} (hd : decode c.code pc = .ok (.lneg, 1)) (k : Go p e below P (T.setTop (mkF m (pc + 1) L (.long ((-x)) :: st)))) : Go p e below P (T.setTop (mkF m pc L (.long x :: st))) := Go.via (fun _ q => XT.lneg X.here hx rfl hd rfl q) k
theorem i2l (X : Stand p l e R s m args below meth c T locs cells slots) (hx : p.tables.exec = Jvm.exec) {x : Int32} (hd : decode c.code pc = .ok (.i2l, 1)) (k : Go p e below P (T.setTop (mkF m (pc + 1) L (.long (x.toInt64) :: st)))) : Go p e below P (T.setTop (mkF m pc L (.int x :: st))) := Go.via (fun _ q => XT.i2l X.here hx rfl hd rfl q) k
theorem l2i (X : Stand p l e R s m args below meth c T locs cells slots) (hx : p.tables.exec = Jvm.exec) {x : Int64} (hd : decode c.code pc = .ok (.l2i, 1)) (k : Go p e below P (T.setTop (mkF m (pc + 1) L (.int (x.toInt32) :: st)))) : Go p e below P (T.setTop (mkF m pc L (.long x :: st))) := Go.via (fun _ q => XT.l2i X.here hx rfl hd rfl q) k
theorem i2b (X : Stand p l e R s m args below meth c T locs cells slots) (hx : p.tables.exec = Jvm.exec) {x : Int32} (hd : decode c.code pc = .ok (.i2b, 1)) (k : Go p e below P (T.setTop (mkF m (pc + 1) L (.int (x.toInt8.toInt32) :: st)))) : Go p e below P (T.setTop (mkF m pc L (.int x :: st))) := Go.via (fun _ q => XT.i2b X.here hx rfl hd rfl q) k
theorem i2c (X : Stand p l e R s m args below meth c T locs cells slots) (hx : p.tables.exec = Jvm.exec) {x : Int32} (hd : decode c.code pc = .ok (.i2c, 1)) (k : Go p e below P (T.setTop (mkF m (pc + 1) L (.int (x.toUInt32.toUInt16.toUInt32.toInt32) :: st)))) : Go p e below P (T.setTop (mkF m pc L (.int x :: st))) := Go.via (fun _ q => XT.i2c X.here hx rfl hd rfl q) k
theorem i2s (X : Stand p l e R s m args below meth c T locs cells slots) (hx : p.tables.exec = Jvm.exec) {x : Int32} (hd : decode c.code pc = .ok (.i2s, 1)) (k : Go p e below P (T.setTop (mkF m (pc + 1) L (.int (x.toInt16.toInt32) :: st)))) : Go p e below P (T.setTop (mkF m pc L (.int x :: st))) := Go.via (fun _ q => XT.i2s X.here hx rfl hd rfl q) k
theorem lcmp (X : Stand p l e R s m args below meth c T locs cells slots) (hx : p.tables.exec = Jvm.exec) {x y : Int64} (hd : decode c.code pc = .ok (.lcmp, 1)) (k : Go p e below P (T.setTop (mkF m (pc + 1) L (.int (XT.cmpL x y) :: st)))) : Go p e below P (T.setTop (mkF m pc L (.long y :: .long x :: st))) := Go.via (fun _ q => XT.lcmp X.here hx rfl hd rfl q) k
theorem iincV (X : Stand p l e R s m args below meth c T locs cells slots) (hx : p.tables.exec = Jvm.exec) {i : Nat} {d : Int} {x : Int32} (v w : Int32) (L' : Array Slot) (hd : decode c.code pc = .ok (.iinc i d, 3)) (hv : Int32.ofInt d = v) (hl : L[i]? = some (.val (.int x))) (hw : x + v = w) (hl' : storeLocals L i (.int w) = some L') (k : Go p e below P (T.setTop (mkF m (pc + 3) L' st))) : Go p e below P (T.setTop (mkF m pc L st)) := Go.via (fun _ q => XS.iinc X.here hx rfl hd hl (hv ▸ hw ▸ hl') q) k
theorem topI {x y : Int32} (q : x = y) (k : Go p e below P (T.setTop (mkF m pc L (.int y :: st)))) : Go p e below P (T.setTop (mkF m pc L (.int x :: st))) := q ▸ k
theorem topJ {x y : Int64} (q : x = y) (k : Go p e below P (T.setTop (mkF m pc L (.long y :: st)))) : Go p e below P (T.setTop (mkF m pc L (.long x :: st))) := q ▸ k
/-! returns -/
theorem leaveR (X : Stand p l e R s m args below meth c T locs cells slots) (hk : meth.locks = false) {Q : Option Value → Heap → List Loc → Prop} {k n : Nat} {g : JFrame} {v : Option Value} (hv : meth.sig.returnType = none → v = none) (eT : T.heap = h) (hQ : Q v h locs) (hc : cells ≤ k) (hn : slots ≤ n)
    (st : ∀ fs, (∀ (f : JFrame) (acts : List Action), f.method = m → f.locked = none → f.entered = [] → (doReturn e (T.setTop f) acts v).1 = T.setFrames fs) → Steps p.tables e below (T.setTop g) (T.setFrames fs)) : Go p e below (Fini s Q k n) (T.setTop g) := by
  obtain ⟨fs, hr, hrun, hended, hW, hsame⟩ := X.leave (v := v) hv hk
  exact ⟨_, _, st fs hr, hrun, hended, _, _, rfl, by show Q v T.heap locs; rw [eT]; exact hQ, ⟨_, rfl⟩, hW, hsame.mono hc hn⟩
theorem ireturn (X : Stand p l e R s m args below meth c T locs cells slots) (hx : p.tables.exec = Jvm.exec) (hk : meth.locks = false) {Q : Option Value → Heap → List Loc → Prop} {k n : Nat} {t : FieldType} {z : Int32} (hret : meth.sig.returnType = some t) (ht : t = .int ∨ t = .boolean ∨ t = .byte ∨ t = .char ∨ t = .short) (hnr : narrow t (.int z) = .int z) (hd : decode c.code pc = .ok (.ireturn, 1)) (eT : T.heap = h) (hQ : Q (some (.int z)) h locs) (hc : cells ≤ k) (hn : slots ≤ n) : Go p e below (Fini s Q k n) (T.setTop (mkF m pc L (.int z :: rest))) :=
  leaveR X hk (v := some (.int z)) (fun q => by rw [hret] at q; cases q) eT hQ hc hn fun fs hr => retOut X hx hret hnr (Or.inl ⟨rfl, ht, z, rfl⟩) hd hr
theorem lreturn (X : Stand p l e R s m args below meth c T locs cells slots) (hx : p.tables.exec = Jvm.exec) (hk : meth.locks = false) {Q : Option Value → Heap → List Loc → Prop} {k n : Nat} {z : Int64} (hret : meth.sig.returnType = some .long) (hd : decode c.code pc = .ok (.lreturn, 1)) (eT : T.heap = h) (hQ : Q (some (.long z)) h locs) (hc : cells ≤ k) (hn : slots ≤ n) : Go p e below (Fini s Q k n) (T.setTop (mkF m pc L (.long z :: rest))) :=
  leaveR X hk (v := some (.long z)) (fun q => by rw [hret] at q; cases q) eT hQ hc hn fun fs hr => retOut X hx hret rfl (Or.inr (Or.inl ⟨rfl, rfl, z, rfl⟩)) hd hr
theorem areturn (X : Stand p l e R s m args below meth c T locs cells slots) (hx : p.tables.exec = Jvm.exec) (hk : meth.locks = false) {Q : Option Value → Heap → List Loc → Prop} {k n : Nat} {t : FieldType} {z : Value} (hret : meth.sig.returnType = some t) (ht : t.isReference = true) (hz : z.isRef = true) (hnr : narrow t z = z) (hd : decode c.code pc = .ok (.areturn, 1)) (eT : T.heap = h) (hQ : Q (some z) h locs) (hc : cells ≤ k) (hn : slots ≤ n) : Go p e below (Fini s Q k n) (T.setTop (mkF m pc L (z :: rest))) :=
  leaveR X hk (v := some z) (fun q => by rw [hret] at q; cases q) eT hQ hc hn fun fs hr => retOut X hx hret hnr (Or.inr (Or.inr (Or.inr (Or.inr ⟨rfl, ht, hz⟩)))) hd hr
theorem vreturn (X : Stand p l e R s m args below meth c T locs cells slots) (hx : p.tables.exec = Jvm.exec) (hk : meth.locks = false) {Q : Option Value → Heap → List Loc → Prop} {k n : Nat} (hret : meth.sig.returnType = none) (hd : decode c.code pc = .ok (.return_, 1)) (eT : T.heap = h) (hQ : Q none h locs) (hc : cells ≤ k) (hn : slots ≤ n) : Go p e below (Fini s Q k n) (T.setTop (mkF m pc L [])) :=
  leaveR X hk (v := none) (fun _ => rfl) eT hQ hc hn fun fs hr => X.returnOut hx hret hd hr
/-! String constants: the start with the tables at hand -/
def FiniW (s : State) (Q : Option Value → Heap → List Loc → Prop) (k n : Nat) (o : Outcome) (U : State) : Prop :=
  ∃ v L, o = .returned v ∧ Q v U.heap L ∧ ReturnedEndW s o U L k n
def CtW (l : Launch) (y : MethodName) (bytes : ByteArray) (maxL : Nat) (ret : Option FieldType) (ws : List Jvm.Cond) (rm : Room) (Z : State) (as : Array Value) (h : Heap) (Q : Option Value → Heap → List Loc → Prop) : Prop :=
  MetFree l y (head1 (Jvm.Cond.code y bytes maxL ret :: ws) rm) (fun a U => a = as ∧ Z.Warmed39 U.vm ∧ U.heap = h) (fun _ _ _ _ _ => True) (fun _ U o U' => ∃ v L, o = .returned v ∧ Q v U'.heap L ∧ ReturnedEndW U o U' L rm.cells rm.slots)
theorem enterW {y : MethodName} {bytes : ByteArray} {maxL : Nat} {ret : Option FieldType} {ws : List Jvm.Cond} {rm : Room} {as : Array Value} {Q : Option Value → Heap → List Loc → Prop} (hy : plainFor y = true)
    (body : ∀ p e s m below meth c s₁, p.tables.exec = Jvm.exec → c.code = bytes → c.maxLocals = maxL → s.vm.findClass y.cls = some m.cls → meth.name = y.name → meth.sig.returnType = ret → meth.locks = false → Z.Warmed39 s.vm →
      Stand p l e rm s m as below meth c s₁ [] 0 0 → s₁.heap = h → Go p e below (FiniW s Q rm.cells rm.slots) (s₁.setTop (entryFrame m as maxL))) : CtW l y bytes maxL ret ws rm Z as h Q := by
  refine MetFree.of_bodySF hy hisR ?_
  intro p e s m args below meth c s₁ Bd hml hP hK
  obtain ⟨rfl, hZ, hh⟩ := hP
  exact body p e s m below meth c s₁ Bd.exec Bd.bytes hml (findClass_of_methodNamed Bd.named) (name_of_methodNamed Bd.named Bd.method).1 Bd.returns Bd.notSynchronized hZ (Stand.of_body Bd) (by rw [← hh, Bd.state]; rfl)
theorem since0 (s : State) : s.Since s.vm 0 := State.WarmedH.since (State.WarmedH.refl s) 0
theorem ldcStr {vm0 : Vm} (X : Stand p l e R (s.setVm vm0) m args below meth c T locs cells slots) (hx : p.tables.exec = Jvm.exec) (hZ : Z.Warmed39 vm0) {own text : String} {i : Nat} (hown : vm0.findClass own = some m.cls) (w : (Cond.stringLink own i text).before a0 Z = true) (wS : ∀ a ∈ Bundle.stringAtoms, a.before a0 Z = true)
    (eT : T.heap = h) {k0 : Nat} (hS : s.Since vm0 k0) (hk : k0 ≤ h.size) (hd : decode c.code pc = .ok (.ldc i, 2)) (n : Nat) (hn : 4 * text.toList.length ≤ n) (hbig : n ≤ 536870912) (hc : cells + 2 ≤ R.cells) (hl : slots + (n + 4) ≤ R.slots)
    (k : ∀ (a : Addr) (T' : State) (h' : Heap) (k1 : Nat), Stand p l e R (s.setVm T'.vm) m args below meth c T' locs (cells + 2) (slots + (n + 4)) → T'.heap = h' → Ext h h' → s.Since T'.vm k1 → k1 ≤ h'.size → Z.Warmed39 (s.setVm T'.vm).vm → (s.setVm T'.vm).vm.findClass own = some m.cls → Go p e below P (T'.setTop (mkF m (pc + 2) L (.ref a :: st)))) : Go p e below P (T.setTop (mkF m pc L st)) := by
  obtain ⟨a, T', h', k1, X', e', E, hS', hk', hZ', hown', q⟩ := ldcS X hx hZ hown w wS eT hS hk (g := mkF m pc L st) rfl hd hn hbig hc hl
  exact Go.via q (k a T' h' k1 X' e' E hS' hk' hZ' hown')
theorem ireturnW {vm0 : Vm} (X : Stand p l e R (s.setVm vm0) m args below meth c T locs cells slots) (hx : p.tables.exec = Jvm.exec) (hk : meth.locks = false) {Q : Option Value → Heap → List Loc → Prop} {k n : Nat} {t : FieldType} {z : Int32} (hret : meth.sig.returnType = some t) (ht : t = .int ∨ t = .boolean ∨ t = .byte ∨ t = .char ∨ t = .short) (hnr : narrow t (.int z) = .int z) (hd : decode c.code pc = .ok (.ireturn, 1)) (eT : T.heap = h) {k0 : Nat} (hS : s.Since vm0 k0) (hk0 : k0 ≤ h.size) (hQ : Q (some (.int z)) h locs) (hc : cells ≤ k) (hn : slots ≤ n) : Go p e below (FiniW s Q k n) (T.setTop (mkF m pc L (.int z :: rest))) := by
  obtain ⟨fs, hr, hrun, hended, hW⟩ := X.leaveW hS (by rw [eT]; exact hk0) (v := some (.int z)) (fun q => by rw [hret] at q; cases q) hk
  exact ⟨_, _, retOut X hx hret hnr (Or.inl ⟨rfl, ht, z, rfl⟩) hd hr, hrun, hended, _, _, rfl, by show Q (some (.int z)) T.heap locs; rw [eT]; exact hQ, hW.1, hW.2.1, hW.2.2.1, hW.2.2.2.mono hc hn⟩
/-! fields, objects -/
theorem getfield (X : Stand p l e R s m args below meth c T locs cells slots) (hx : p.tables.exec = Jvm.exec) (hZ : Z.Warmed39 s.vm) {own R0 O n d host : String} {i : Nat} (hown : s.vm.findClass own = some m.cls) (w : (Cond.fieldLink own i R0 n d).before a0 Z = true ∨ (Cond.fieldLinkNest own i R0 n d host).before a0 Z = true) (via : Via Z R0 O n d)
    (eT : T.heap = h) {a : Addr} {v : Value} (F : Fld Z h a O n d v) (hd : decode c.code pc = .ok (.getfield i, 3)) (k : ∀ T', Stand p l e R s m args below meth c T' locs cells slots → T'.heap = h → Go p e below P (T'.setTop (mkF m (pc + 3) L (v :: st)))) : Go p e below P (T.setTop (mkF m pc L (.ref a :: st))) := by
  obtain ⟨T', X', e', q⟩ := getF X hx hZ hown w via eT F (g := mkF m pc L (.ref a :: st)) rfl rfl hd
  exact Go.via q (k T' X' e')
theorem putfield (X : Stand p l e R s m args below meth c T locs cells slots) (hx : p.tables.exec = Jvm.exec) (hZ : Z.Warmed39 s.vm) {own R0 O n d host C : String} {i kk : Nat} {ty : FieldType} (hown : s.vm.findClass own = some m.cls) (w : (Cond.fieldLink own i R0 n d).before a0 Z = true ∨ (Cond.fieldLinkNest own i R0 n d host).before a0 Z = true) (via : Via Z R0 O n d)
    (eT : T.heap = h) {a : Addr} {v old : Value} (F : Fld Z h a O n d old) (E : Exa Z h a C) (Ly : (Cond.lays C O n d).before a0 Z = true ∨ ((Cond.laysFinal C O n d).before a0 Z = true ∧ own = O ∧ meth.name = "<init>")) (wi : (Cond.instantiable C kk).before a0 Z = true)
    (hty : parseFieldDescriptor d = some ty) (hn : narrow ty v = v) (hf : fits ty v = true) {n0 : Nat} (N : Fr n0 locs) (ga : n0 ≤ a) (hd : decode c.code pc = .ok (.putfield i, 3))
    (k : ∀ T' h', Stand p l e R s m args below meth c T' (locs ++ [⟨a, Jvm.RoadKit.slotOf Z O n d⟩]) cells slots → T'.heap = h' → Wr h h' a (Jvm.RoadKit.slotOf Z O n d) v → Fr n0 (locs ++ [⟨a, Jvm.RoadKit.slotOf Z O n d⟩]) → Fld Z h' a O n d v → Go p e below P (T'.setTop (mkF m (pc + 3) L st))) : Go p e below P (T.setTop (mkF m pc L (v :: .ref a :: st))) := by
  obtain ⟨T', h', X', e', W, q⟩ := putF X hx hZ hown w via eT F E Ly wi hty hn hf (g := mkF m pc L (v :: .ref a :: st)) rfl rfl hd
  exact Go.via q (k T' h' X' e' W (Fr.snoc X' N ga) (F.same W))
theorem putfieldN (X : Stand p l e R s m args below meth c T locs cells slots) (hx : p.tables.exec = Jvm.exec) (hZ : Z.Warmed39 s.vm) {own R0 O n d C : String} {i kk : Nat} {ty : FieldType} (hown : s.vm.findClass own = some m.cls) (w : (Cond.fieldLink own i R0 n d).before a0 Z = true) (via : Via Z R0 O n d)
    (eT : T.heap = h) {a : Addr} {v v' old : Value} (F : Fld Z h a O n d old) (E : Exa Z h a C) (Ly : (Cond.lays C O n d).before a0 Z = true ∨ ((Cond.laysFinal C O n d).before a0 Z = true ∧ own = O ∧ meth.name = "<init>")) (wi : (Cond.instantiable C kk).before a0 Z = true)
    (hty : parseFieldDescriptor d = some ty) (hn : narrow ty v = v') (hf : fits ty v' = true) {n0 : Nat} (N : Fr n0 locs) (ga : n0 ≤ a) (hd : decode c.code pc = .ok (.putfield i, 3))
    (k : ∀ T' h', Stand p l e R s m args below meth c T' (locs ++ [⟨a, Jvm.RoadKit.slotOf Z O n d⟩]) cells slots → T'.heap = h' → Wr h h' a (Jvm.RoadKit.slotOf Z O n d) v' → Fr n0 (locs ++ [⟨a, Jvm.RoadKit.slotOf Z O n d⟩]) → Fld Z h' a O n d v' → Go p e below P (T'.setTop (mkF m (pc + 3) L st))) : Go p e below P (T.setTop (mkF m pc L (v :: .ref a :: st))) := by
  obtain ⟨T', h', X', e', W, q⟩ := putFN X hx hZ hown w via eT F E Ly wi hty hn hf (g := mkF m pc L (v :: .ref a :: st)) rfl rfl hd
  exact Go.via q (k T' h' X' e' W (Fr.snoc X' N ga) (F.same W))
theorem newobj (X : Stand p l e R s m args below meth c T locs cells slots) (hx : p.tables.exec = Jvm.exec) (hZ : Z.Warmed39 s.vm) {own C : String} {i n : Nat} (hown : s.vm.findClass own = some m.cls) (w : (Cond.classLink own i C).before a0 Z = true) (wi : (Cond.instantiable C n).before a0 Z = true) (wz : (Cond.initialized C).before a0 Z = true) (eT : T.heap = h)
    (hd : decode c.code pc = .ok (.new i, 3)) (hc : cells + 1 ≤ R.cells) (hl : slots + n ≤ R.slots)
    (k : ∀ T' h' b, b = h.size → Stand p l e R s m args below meth c T' locs (cells + 1) (slots + n) → T'.heap = h' → Ext h h' → Exa Z h' b C → (∀ {O nm d : String} {ty : FieldType}, Laid Z a0 C O nm d → parseFieldDescriptor d = some ty → Fld Z h' b O nm d (defaultValue ty)) → Go p e below P (T'.setTop (mkF m (pc + 3) L (.ref b :: st)))) : Go p e below P (T.setTop (mkF m pc L st)) := by
  obtain ⟨T', h', X', e', E, A, D, -, q⟩ := newO X hx hZ hown w wi wz eT (g := mkF m pc L st) rfl hd hc hl
  exact Go.via q (k T' h' h.size rfl X' e' E A D)
theorem initObj (X : Stand p l e R s m args below meth c T locs cells slots) (hx : p.tables.exec = Jvm.exec) (hZ : Z.Warmed39 s.vm) {own : String} {i : Nat} (hown : s.vm.findClass own = some m.cls) (w1 : (Cond.methodLink own i Lib.objectInit).before a0 Z = true) (w2 : (Cond.instanceMethod Lib.objectInit).before a0 Z = true)
    (w3 : (Cond.code Lib.objectInit ⟨#[0xb1]⟩ 1 none).before a0 Z = true) (eT : T.heap = h) (hsize : L.size = c.maxLocals) {a : Addr} (hd : decode c.code pc = .ok (.invokespecial i, 3)) (hf : 1 ≤ R.frames) (W : Nat) (hW : (st.map fun v => v.category).sum ≤ W) (hl : W + 12 ≤ R.locals)
    (k : ∀ T', Stand p l e R s m args below meth c T' locs cells slots → T'.heap = h → Go p e below P (T'.setTop (mkF m (pc + 3) L st))) : Go p e below P (T.setTop (mkF m pc L (.ref a :: st))) := by
  obtain ⟨T', X', e', q⟩ := initO X hx hZ hown w1 w2 w3 eT (g := mkF m pc L (.ref a :: st)) rfl hsize rfl hd hf (W := W) (by show 2 * 0 + _ ≤ _; omega) hl
  exact Go.via q (k T' X' e')
/-! arrays -/
/-- the array at a holds just these values -/
def VArr (Z : State) (h : Heap) (a : Addr) (ty : FieldType) (vs : List Value) : Prop := ∃ c : Cell, Arr Z h a c ty ∧ c.slots = vs.toArray ∧ vs.length < 2 ^ 31
section VA
variable {h' : Heap} {a b : Addr} {ty : FieldType} {vs : List Value} {sl : Nat} {v : Value} {ws : List Addr}
theorem VArr.lt (F : VArr Z h a ty vs) : a < h.size := by obtain ⟨c, A, -⟩ := F; exact A.lt
theorem VArr.ext (F : VArr Z h a ty vs) (E : Ext h h') : VArr Z h' a ty vs := by obtain ⟨c, A, r⟩ := F; exact ⟨c, A.ext E, r⟩
theorem VArr.other (F : VArr Z h b ty vs) (W : Wr h h' a sl v) (q : b ≠ a) : VArr Z h' b ty vs := by obtain ⟨c, A, r⟩ := F; exact ⟨c, A.other W q, r⟩
theorem VArr.keep (F : VArr Z h a ty vs) (K : Keep h h' ws) (q : a ∉ ws) : VArr Z h' a ty vs := by obtain ⟨c, A, r⟩ := F; exact ⟨c, ⟨K.2.1 a c A.1 q, A.2⟩, r⟩
theorem VArr.same (F : VArr Z h a ty vs) (W : Wr h h' a sl v) : VArr Z h' a ty (vs.set sl v) := by
  obtain ⟨c, A, r1, r2⟩ := F
  refine ⟨c.setSlot sl v, A.same W, ?_, by simpa using r2⟩
  simp [Cell.setSlot, r1]
theorem neVE {C : String} {kk : Nat} (F : VArr Z h a ty vs) (E : Exa Z h b C) (wi : (Cond.instantiable C kk).before a0 Z = true) : a ≠ b := by
  obtain ⟨c, A, -⟩ := F
  exact (ne_arr E wi A).symm
end VA
theorem in_of {vs : List Value} {v : Value} {i : Nat} {j : Int32} {c : Cell} (hn : ¬ j < 0) (hi : j.toNatClampNeg = i) (hv : vs[i]? = some v) (r : c.slots = vs.toArray) : ¬ (j < 0 ∨ c.slots.size ≤ j.toNatClampNeg) ∧ c.slots[j.toNatClampNeg]? = some v := by
  have hlt : i < vs.length := by
    obtain ⟨q, -⟩ := List.getElem?_eq_some_iff.mp hv
    exact q
  refine ⟨fun q => ?_, ?_⟩
  · rcases q with q | q
    · exact hn q
    · rw [r, hi] at q; simp at q; omega
  · rw [hi, r]; simpa using hv
theorem in_of' {vs : List Value} {i : Nat} {j : Int32} {c : Cell} (hn : ¬ j < 0) (hi : j.toNatClampNeg = i) (hv : i < vs.length) (r : c.slots = vs.toArray) : ¬ (j < 0 ∨ c.slots.size ≤ j.toNatClampNeg) := by
  intro q
  rcases q with q | q
  · exact hn q
  · rw [r, hi] at q; simp at q; omega
theorem alen (X : Stand p l e R s m args below meth c T locs cells slots) (hx : p.tables.exec = Jvm.exec) (hZ : Z.Warmed39 s.vm) (eT : T.heap = h) {a : Addr} {ty : FieldType} {vs : List Value} (V : VArr Z h a ty vs) (n : Int32) (hn : vs.length.toInt32 = n) (hd : decode c.code pc = .ok (.arraylength, 1)) (k : Go p e below P (T.setTop (mkF m (pc + 1) L (.int n :: st)))) : Go p e below P (T.setTop (mkF m pc L (.ref a :: st))) := by
  obtain ⟨cl, A, r1, -⟩ := V
  have q : cl.slots.size.toInt32 = n := by rw [r1]; simpa using hn
  exact Go.via (fun t w => X.arraylength hx (cell := cl) (by rw [eT]; exact A.1) (State.isArrayOf_alike hZ.alike A.2.1) (g := mkF m pc L (.ref a :: st)) rfl rfl hd t (by rw [q]; exact w)) k
theorem iaload (X : Stand p l e R s m args below meth c T locs cells slots) (hx : p.tables.exec = Jvm.exec) (hZ : Z.Warmed39 s.vm) (eT : T.heap = h) {a : Addr} {vs : List Value} (V : VArr Z h a .int vs) {j : Int32} {v : Value} (i : Nat) (hn : ¬ j < 0) (hi : j.toNatClampNeg = i) (hv : vs[i]? = some v) (hd : decode c.code pc = .ok (.iaload, 1)) (k : Go p e below P (T.setTop (mkF m (pc + 1) L (v :: st)))) : Go p e below P (T.setTop (mkF m pc L (.int j :: .ref a :: st))) := by
  obtain ⟨cl, A, r1, -⟩ := V
  obtain ⟨q1, q2⟩ := in_of hn hi hv r1
  exact Go.via (fun t w => X.iaload hx (by rw [eT]; exact A.1) (State.isArrayOf_alike hZ.alike A.2.1) A.2.2 q1 q2 (g := mkF m pc L (.int j :: .ref a :: st)) rfl rfl hd t w) k
theorem laload (X : Stand p l e R s m args below meth c T locs cells slots) (hx : p.tables.exec = Jvm.exec) (hZ : Z.Warmed39 s.vm) (eT : T.heap = h) {a : Addr} {vs : List Value} (V : VArr Z h a .long vs) {j : Int32} {v : Value} (i : Nat) (hn : ¬ j < 0) (hi : j.toNatClampNeg = i) (hv : vs[i]? = some v) (hd : decode c.code pc = .ok (.laload, 1)) (k : Go p e below P (T.setTop (mkF m (pc + 1) L (v :: st)))) : Go p e below P (T.setTop (mkF m pc L (.int j :: .ref a :: st))) := by
  obtain ⟨cl, A, r1, -⟩ := V
  obtain ⟨q1, q2⟩ := in_of hn hi hv r1
  exact Go.via (fun t w => X.laload hx (by rw [eT]; exact A.1) (State.isArrayOf_alike hZ.alike A.2.1) A.2.2 q1 q2 (g := mkF m pc L (.int j :: .ref a :: st)) rfl rfl hd t w) k
theorem baload (X : Stand p l e R s m args below meth c T locs cells slots) (hx : p.tables.exec = Jvm.exec) (hZ : Z.Warmed39 s.vm) (eT : T.heap = h) {a : Addr} {vs : List Value} (V : VArr Z h a .byte vs) {j : Int32} {v : Value} (i : Nat) (hn : ¬ j < 0) (hi : j.toNatClampNeg = i) (hv : vs[i]? = some v) (hd : decode c.code pc = .ok (.baload, 1)) (k : Go p e below P (T.setTop (mkF m (pc + 1) L (v :: st)))) : Go p e below P (T.setTop (mkF m pc L (.int j :: .ref a :: st))) := by
  obtain ⟨cl, A, r1, -⟩ := V
  obtain ⟨q1, q2⟩ := in_of hn hi hv r1
  exact Go.via (fun t w => X.baloadBytes hx (by rw [eT]; exact A.1) (State.isArrayOf_alike hZ.alike A.2.1) A.2.2 q1 q2 (g := mkF m pc L (.int j :: .ref a :: st)) rfl rfl hd t w) k
theorem iastore (X : Stand p l e R s m args below meth c T locs cells slots) (hx : p.tables.exec = Jvm.exec) (hZ : Z.Warmed39 s.vm) (eT : T.heap = h) {a : Addr} {vs : List Value} (V : VArr Z h a .int vs) {j x : Int32} (i : Nat) (hn : ¬ j < 0) (hi : j.toNatClampNeg = i) (hv : i < vs.length) {n0 : Nat} (N : Fr n0 locs) (ga : n0 ≤ a) (hd : decode c.code pc = .ok (.iastore, 1))
    (k : ∀ T' h', Stand p l e R s m args below meth c T' (locs ++ [⟨a, i⟩]) cells slots → T'.heap = h' → Wr h h' a i (.int x) → Fr n0 (locs ++ [⟨a, i⟩]) → VArr Z h' a .int (vs.set i (.int x)) → Go p e below P (T'.setTop (mkF m (pc + 1) L st))) : Go p e below P (T.setTop (mkF m pc L (.int x :: .int j :: .ref a :: st))) := by
  have V0 := V
  obtain ⟨cl, A, r1, -⟩ := V
  obtain ⟨T', h', X', e', W, q⟩ := stI X hx hZ eT A (in_of' hn hi hv r1) (g := mkF m pc L (.int x :: .int j :: .ref a :: st)) rfl rfl hd
  rw [hi] at X' W
  exact Go.via q (k T' h' X' e' W (Fr.snoc X' N ga) (V0.same W))
theorem lastore (X : Stand p l e R s m args below meth c T locs cells slots) (hx : p.tables.exec = Jvm.exec) (hZ : Z.Warmed39 s.vm) (eT : T.heap = h) {a : Addr} {vs : List Value} (V : VArr Z h a .long vs) {j : Int32} {x : Int64} (i : Nat) (hn : ¬ j < 0) (hi : j.toNatClampNeg = i) (hv : i < vs.length) {n0 : Nat} (N : Fr n0 locs) (ga : n0 ≤ a) (hd : decode c.code pc = .ok (.lastore, 1))
    (k : ∀ T' h', Stand p l e R s m args below meth c T' (locs ++ [⟨a, i⟩]) cells slots → T'.heap = h' → Wr h h' a i (.long x) → Fr n0 (locs ++ [⟨a, i⟩]) → VArr Z h' a .long (vs.set i (.long x)) → Go p e below P (T'.setTop (mkF m (pc + 1) L st))) : Go p e below P (T.setTop (mkF m pc L (.long x :: .int j :: .ref a :: st))) := by
  have V0 := V
  obtain ⟨cl, A, r1, -⟩ := V
  obtain ⟨T', h', X', e', W, q⟩ := stJ X hx hZ eT A (in_of' hn hi hv r1) (g := mkF m pc L (.long x :: .int j :: .ref a :: st)) rfl rfl hd
  rw [hi] at X' W
  exact Go.via q (k T' h' X' e' W (Fr.snoc X' N ga) (V0.same W))
theorem bastore (X : Stand p l e R s m args below meth c T locs cells slots) (hx : p.tables.exec = Jvm.exec) (hZ : Z.Warmed39 s.vm) (eT : T.heap = h) {a : Addr} {vs : List Value} (V : VArr Z h a .byte vs) {j x : Int32} (i : Nat) (hn : ¬ j < 0) (hi : j.toNatClampNeg = i) (hv : i < vs.length) {n0 : Nat} (N : Fr n0 locs) (ga : n0 ≤ a) (hd : decode c.code pc = .ok (.bastore, 1))
    (k : ∀ T' h', Stand p l e R s m args below meth c T' (locs ++ [⟨a, i⟩]) cells slots → T'.heap = h' → Wr h h' a i (.int x.toInt8.toInt32) → Fr n0 (locs ++ [⟨a, i⟩]) → VArr Z h' a .byte (vs.set i (.int x.toInt8.toInt32)) → Go p e below P (T'.setTop (mkF m (pc + 1) L st))) : Go p e below P (T.setTop (mkF m pc L (.int x :: .int j :: .ref a :: st))) := by
  have V0 := V
  obtain ⟨cl, A, r1, -⟩ := V
  obtain ⟨T', h', X', e', W, q⟩ := stB X hx hZ eT A (in_of' hn hi hv r1) (g := mkF m pc L (.int x :: .int j :: .ref a :: st)) rfl rfl hd
  rw [hi] at X' W
  exact Go.via q (k T' h' X' e' W (Fr.snoc X' N ga) (V0.same W))
theorem newarr (X : Stand p l e R s m args below meth c T locs cells slots) (hx : p.tables.exec = Jvm.exec) (hZ : Z.Warmed39 s.vm) {aty : ArrayType} (w : (Cond.arrayClass (newarray.typeOf aty)).before a0 Z = true) (eT : T.heap = h) (hd : decode c.code pc = .ok (.newarray aty, 2)) {n : Int32} (hn : ¬ n < 0) (i cap : Nat) (hi : n.toNatClampNeg = i) (hcap : i ≤ cap) (hb : cap * 8 ≤ 536870912) (hc : cells + 1 ≤ R.cells) (hl : slots + cap ≤ R.slots)
    (k : ∀ T' h' b, b = h.size → Stand p l e R s m args below meth c T' locs (cells + 1) (slots + cap) → T'.heap = h' → Ext h h' → VArr Z h' b (newarray.typeOf aty) (List.replicate i (defaultValue (newarray.typeOf aty))) → Go p e below P (T'.setTop (mkF m (pc + 2) L (.ref b :: st)))) : Go p e below P (T.setTop (mkF m pc L (.int n :: st))) := by
  obtain ⟨T', h', cA, X', e', E, A, q⟩ := newP X hx hZ w eT (g := mkF m pc L (.int n :: st)) rfl hd rfl hn (cap := cap) (by rw [hi]; exact hcap) hb hc hl
  refine Go.via q (k T' h' h.size rfl X' e' E ⟨_, A, ?_, ?_⟩)
  · simp [newA, hi]
  · simp; omega
/-! calls -/
theorem callStatic (X : Stand p l e R s m args below meth c T locs cells slots) (hx : p.tables.exec = Jvm.exec) (hZ : Z.Warmed39 s.vm) {own : String} {i : Nat} {y : MethodName} {bytes : ByteArray} {maxL : Nat} {ret : Option FieldType} {rm : Room} {Q : Option Value → Heap → List Loc → Prop}
    (hown : s.vm.findClass own = some m.cls) (w1 : (Cond.methodLink own i y).before a0 Z = true) (w2 : (Cond.static y).before a0 Z = true) (w3 : (Cond.initialized y.cls).before a0 Z = true) (w4 : (Cond.code y bytes maxL ret).before a0 Z = true) (hy : y.cls ≠ "java/lang/invoke/MethodHandle" ∧ y.cls ≠ "java/lang/invoke/VarHandle")
    (W : Nat) (argsL rest : List Value) (hM : Ct l y bytes maxL ret [] rm Z argsL.toArray h Q) (hf : rm.frames + 1 ≤ R.frames) (hl : W + (maxL + 11) + rm.locals ≤ R.locals) (eT : T.heap = h) (hsize : L.size = c.maxLocals) {ps : List FieldType} {rt : Option FieldType} (pd : parseMethodDescriptor y.desc = some ⟨ps, rt⟩) (hlen : argsL.length = ps.length) (hst : st = argsL.reverse ++ rest) (hW : (rest.map fun v => v.category).sum ≤ W)
    (hd : decode c.code pc = .ok (.invokestatic i, 3)) (hc : cells + rm.cells ≤ R.cells) (hn : slots + rm.slots ≤ R.slots)
    (k : ∀ T' L' v, Stand p l e R s m args below meth c T' (locs ++ L') (cells + rm.cells) (slots + rm.slots) → Q v T'.heap L' → Go p e below P (T'.setTop (mkF m (pc + 3) L (v.toList ++ rest)))) : Go p e below P (T.setTop (mkF m pc L st)) := by
  obtain ⟨v, _, ⟨T', L', k', n'⟩, -, X', ⟨Lc, hQ, l1, y1, z1⟩, q⟩ := Jvm.LawKit.callS X hx (y := y) hown (mvT hZ w1) (mvT hZ w2) (mvT hZ w3) (mvT hZ w4) hy (backOf (W := W) hM hZ w4 w3 hf hl) (g := mkF m pc L st) rfl hsize (argsL := argsL) (rest := rest) (lenOf pd hlen) hst (by show 2 * 0 + _ ≤ _; omega) hd (fun _ _ => ⟨rfl, eT, hc, hn⟩)
  dsimp only [Pt.U, Pt.locs, Pt.cells, Pt.slots] at X' l1 y1 z1 q hQ
  subst l1 y1 z1
  exact Go.via q (k T' Lc v X' hQ)
theorem callSpecial (X : Stand p l e R s m args below meth c T locs cells slots) (hx : p.tables.exec = Jvm.exec) (hZ : Z.Warmed39 s.vm) {own : String} {i : Nat} {y : MethodName} {bytes : ByteArray} {maxL : Nat} {rm : Room} {Q : Option Value → Heap → List Loc → Prop} (hy1 : y.name = "<init>")
    (hown : s.vm.findClass own = some m.cls) (w1 : (Cond.methodLink own i y).before a0 Z = true) (w2 : (Cond.instanceMethod y).before a0 Z = true) (w3 : (Cond.initialized y.cls).before a0 Z = true) (w4 : (Cond.code y bytes maxL none).before a0 Z = true) (hy : y.cls ≠ "java/lang/invoke/MethodHandle" ∧ y.cls ≠ "java/lang/invoke/VarHandle")
    (W : Nat) (a : Addr) (argsL rest : List Value) (hM : Ct l y bytes maxL none [] rm Z (.ref a :: argsL).toArray h Q) (hf : rm.frames + 1 ≤ R.frames) (hl : W + (maxL + 11) + rm.locals ≤ R.locals) (eT : T.heap = h) (hsize : L.size = c.maxLocals) {ps : List FieldType} {rt : Option FieldType} (pd : parseMethodDescriptor y.desc = some ⟨ps, rt⟩) (hlen : argsL.length = ps.length) (hst : st = argsL.reverse ++ .ref a :: rest) (hW : (rest.map fun v => v.category).sum ≤ W)
    (hd : decode c.code pc = .ok (.invokespecial i, 3)) (hc : cells + rm.cells ≤ R.cells) (hn : slots + rm.slots ≤ R.slots)
    (k : ∀ T' L' v, Stand p l e R s m args below meth c T' (locs ++ L') (cells + rm.cells) (slots + rm.slots) → Q v T'.heap L' → Go p e below P (T'.setTop (mkF m (pc + 3) L (v.toList ++ rest)))) : Go p e below P (T.setTop (mkF m pc L st)) := by
  obtain ⟨v, _, ⟨T', L', k', n'⟩, -, X', ⟨Lc, hQ, l1, y1, z1⟩, q⟩ := X.specialBack hx (y := y) hy1 hown (mvT hZ w1) (mvT hZ w2) (mvT hZ w4) hy (backOf (W := W) hM hZ w4 w3 hf hl) (g := mkF m pc L st) rfl hsize (Steps.refl _) (a := a) (argsL := argsL) (rest := rest) (lenOf pd hlen) hst (by show 2 * 0 + _ ≤ _; omega) hd (fun _ _ => ⟨rfl, eT, hc, hn⟩)
  dsimp only [Pt.U, Pt.locs, Pt.cells, Pt.slots] at X' l1 y1 z1 q hQ
  subst l1 y1 z1
  exact Go.tr q (k T' Lc v X' hQ)
theorem callVirtual (X : Stand p l e R s m args below meth c T locs cells slots) (hx : p.tables.exec = Jvm.exec) (hZ : Z.Warmed39 s.vm) {own C : String} {i : Nat} {y z : MethodName} {bytes : ByteArray} {maxL : Nat} {ret : Option FieldType} {rm : Room} {Q : Option Value → Heap → List Loc → Prop}
    (hown : s.vm.findClass own = some m.cls) (w1 : (Cond.methodLink own i y).before a0 Z = true) (w2 : (Cond.declares y).before a0 Z = true) (w3 : (Cond.selects C y z).before a0 Z = true) (w5 : (Cond.instanceMethod z).before a0 Z = true) (w6 : (Cond.initialized z.cls).before a0 Z = true) (w4 : (Cond.code z bytes maxL ret).before a0 Z = true) (w7 : (Cond.selects y.cls y y).before a0 Z = true) (hy : y.cls ≠ "java/lang/invoke/MethodHandle" ∧ y.cls ≠ "java/lang/invoke/VarHandle")
    (W : Nat) (a : Addr) (argsL rest : List Value) (E : Exa Z h a C) (hM : Ct l z bytes maxL ret [] rm Z (.ref a :: argsL).toArray h Q) (hf : rm.frames + 1 ≤ R.frames) (hl : W + (maxL + 11) + rm.locals ≤ R.locals) (eT : T.heap = h) (hsize : L.size = c.maxLocals) {ps : List FieldType} {rt : Option FieldType} (pd : parseMethodDescriptor y.desc = some ⟨ps, rt⟩) (hlen : argsL.length = ps.length) (hst : st = argsL.reverse ++ .ref a :: rest) (hW : (rest.map fun v => v.category).sum ≤ W)
    (hd : decode c.code pc = .ok (.invokevirtual i, 3)) (hc : cells + rm.cells ≤ R.cells) (hn : slots + rm.slots ≤ R.slots)
    (k : ∀ T' L' v, Stand p l e R s m args below meth c T' (locs ++ L') (cells + rm.cells) (slots + rm.slots) → Q v T'.heap L' → Go p e below P (T'.setTop (mkF m (pc + 3) L (v.toList ++ rest)))) : Go p e below P (T.setTop (mkF m pc L st)) := by
  obtain ⟨cq, kq, qa, qb, qc⟩ := isOf hZ eT E
  obtain ⟨v, _, ⟨T', L', k', n'⟩, -, X', ⟨Lc, hQ, l1, y1, z1⟩, q⟩ := X.virtualBack hx (y := y) (z := z) hown (mvT hZ w1) (mvT hZ w2) (notFace_of_selects (args := #[]) (mvT hZ w7)) (mvT hZ w3) (mvT hZ w5) hy (backOf (W := W) hM hZ w4 w6 hf hl) qa qc (g := mkF m pc L st) rfl hsize (Steps.refl _) (argsL := argsL) (rest := rest) (lenOf pd hlen) hst (by show 2 * 0 + _ ≤ _; omega) hd (fun _ _ => ⟨rfl, eT, hc, hn⟩)
  dsimp only [Pt.U, Pt.locs, Pt.cells, Pt.slots] at X' l1 y1 z1 q hQ
  subst l1 y1 z1
  exact Go.tr q (k T' Lc v X' hQ)
theorem callPrivate (X : Stand p l e R s m args below meth c T locs cells slots) (hx : p.tables.exec = Jvm.exec) (hZ : Z.Warmed39 s.vm) {own C : String} {i kk : Nat} {y : MethodName} {bytes : ByteArray} {maxL : Nat} {ret : Option FieldType} {rm : Room} {Q : Option Value → Heap → List Loc → Prop}
    (hown : s.vm.findClass own = some m.cls) (w1 : (Cond.methodLink own i y).before a0 Z = true) (w2 : (Cond.instanceMethod y).before a0 Z = true) (w3 : (Cond.privateMethod y).before a0 Z = true) (w5 : (Cond.instantiable y.cls kk).before a0 Z = true) (w6 : (Cond.initialized y.cls).before a0 Z = true) (w4 : (Cond.code y bytes maxL ret).before a0 Z = true) (hy : y.cls ≠ "java/lang/invoke/MethodHandle" ∧ y.cls ≠ "java/lang/invoke/VarHandle")
    (W : Nat) (a : Addr) (argsL rest : List Value) (E : Exa Z h a C) (hM : Ct l y bytes maxL ret [] rm Z (.ref a :: argsL).toArray h Q) (hf : rm.frames + 1 ≤ R.frames) (hl : W + (maxL + 11) + rm.locals ≤ R.locals) (eT : T.heap = h) (hsize : L.size = c.maxLocals) {ps : List FieldType} {rt : Option FieldType} (pd : parseMethodDescriptor y.desc = some ⟨ps, rt⟩) (hlen : argsL.length = ps.length) (hst : st = argsL.reverse ++ .ref a :: rest) (hW : (rest.map fun v => v.category).sum ≤ W)
    (hd : decode c.code pc = .ok (.invokevirtual i, 3)) (hc : cells + rm.cells ≤ R.cells) (hn : slots + rm.slots ≤ R.slots)
    (k : ∀ T' L' v, Stand p l e R s m args below meth c T' (locs ++ L') (cells + rm.cells) (slots + rm.slots) → Q v T'.heap L' → Go p e below P (T'.setTop (mkF m (pc + 3) L (v.toList ++ rest)))) : Go p e below P (T.setTop (mkF m pc L st)) := by
  have hP : s.PrivateAt y := Cond.privateMethod_at (args := #[]) (mvP hZ w3)
  have hsel : (Cond.selects y.cls y y).before args s = true := by
    have q : (Cond.instantiable y.cls kk).before args s = true := mvT hZ w5
    obtain ⟨c2, k2, i1, i2, -, i4, -⟩ := Cond.instantiable_spec q
    rw [Bool.or_eq_false_iff] at i4
    exact selects_self_of_private i1 i2 i4.1 hP (mvT hZ w2) hy
  obtain ⟨ce, he1, he2⟩ := E.cell
  obtain ⟨v, _, ⟨T', L', k', n'⟩, -, X', ⟨Lc, hQ, l1, y1, z1⟩, q⟩ := X.privateBack hx (y := y) hown (mvT hZ w1) (mvT hZ w2) hsel hP (mvT hZ w4) hy (backOf (W := W) hM hZ w4 w6 hf hl) (g := mkF m pc L st) rfl hsize (Steps.refl _) (a := a) (cell := ce) (by rw [eT]; exact he1) he2 (argsL := argsL) (rest := rest) (lenOf pd hlen) hst (by show 2 * 0 + _ ≤ _; omega) hd (fun _ _ => ⟨rfl, eT, hc, hn⟩)
  dsimp only [Pt.U, Pt.locs, Pt.cells, Pt.slots] at X' l1 y1 z1 q hQ
  subst l1 y1 z1
  exact Go.tr q (k T' Lc v X' hQ)
theorem getstatic (X : Stand p l e R s m args below meth c T locs cells slots) (hx : p.tables.exec = Jvm.exec) (hZ : Z.Warmed39 s.vm) {own R0 O n d : String} {i : Nat} (hown : s.vm.findClass own = some m.cls) (w : (Cond.fieldLink own i R0 n d).before a0 Z = true) (via : Via Z R0 O n d)
    (eT : T.heap = h) {v : Value} (F : Sta Z h O n d v) (hd : decode c.code pc = .ok (.getstatic i, 3)) (k : ∀ T', Stand p l e R s m args below meth c T' locs cells slots → T'.heap = h → Go p e below P (T'.setTop (mkF m (pc + 3) L (v :: st)))) : Go p e below P (T.setTop (mkF m pc L st)) := by
  obtain ⟨T', X', e', q⟩ := getS X hx hZ (host := "") hown w via eT F (g := mkF m pc L st) rfl hd
  exact Go.via q (k T' X' e')
theorem ldcFloat (X : Stand p l e R s m args below meth c T locs cells slots) (hx : p.tables.exec = Jvm.exec) (hZ : Z.Warmed39 s.vm) {own : String} {i : Nat} {b : UInt32} (hown : s.vm.findClass own = some m.cls) (w : (Cond.constantFloat own i b).before a0 Z = true) (hd : decode c.code pc = .ok (.ldc i, 2)) (k : Go p e below P (T.setTop (mkF m (pc + 2) L (.float b :: st)))) : Go p e below P (T.setTop (mkF m pc L st)) := Go.via (fun t q => X.ldcFloatC hx hown (mvT hZ w) (g := mkF m pc L st) rfl hd t q) k
theorem staKeep {O n d C : String} {v : Value} {h' : Heap} {a : Addr} (F : Sta Z h O n d v) (K : Keep h h' [a]) (E : Exa Z h a C) : Sta Z h' O n d v := by
  obtain ⟨cf, i, k, f, st, cell, h1, h2, h3, h4, h5, h6, h7⟩ := F
  obtain ⟨c2, k2, e1, -, -, e4, -⟩ := E
  have ne : st ∉ [a] := fun q => by
    cases List.mem_singleton.mp q
    cases h5.symm.trans e1
    rw [h6] at e4; cases e4
  exact ⟨cf, i, k, f, st, cell, h1, h2, h3, h4, K.2.1 _ _ h5 ne, h6, h7⟩
end Walk
end Jvm.Own
namespace Jvm.Pilot.@@N@@
open Jvm Jvm.ClassFile Sem Op Lib Jvm.Free Jvm.Stand Jvm.LawKit Jvm.RoadKit Bundle Jvm.Pilot.@@N@@.Jvm.D
theorem Wd {a0 : Array Value} {Z : State} (hw : ∀ d ∈ tables_1, d.before a0 Z = true) (i : Nat) {d : Jvm.Cond} (h : tables_1[i]? = some d) : d.before a0 Z = true := hw _ (List.mem_of_getElem? h)
theorem own_and63 (q : Int32) : q.toInt64 &&& 63 = (q &&& 0x3f).toInt64 := by rw [Int32.toInt64_and]; rfl
theorem own_ushrL0 (x : Int64) (q : Int32) : XT.ushrL x q = (x.toUInt64 >>> (q &&& 0x3f).toInt64.toUInt64).toInt64 := by
  rw [← own_and63]; rfl
theorem own_ushrL (x : Int64) (q : Int32) (k : Nat) (hk : q.toBitVec.toNat % 64 = k) (h0 : 0 < k) : (XT.ushrL x q).toInt = (x.toInt % 18446744073709551616) / (2 ^ k : Nat) := by
  rw [own_ushrL0]; exact c_lushr x q k hk h0
theorem own_shl (x : Int64) (q : Int32) (k : Nat) (hk : q.toBitVec.toNat % 64 = k) : ((x <<< (q.toInt64 &&& 63)).toInt - x.toInt * (2 ^ k : Nat)) % 18446744073709551616 = 0 := by
  rw [own_and63]; exact c_lshl x q k hk

theorem own_whole (v : Int64) : (v < (2147483640 : Int64)) ↔ ¬ (2147483639 : Int64) < v := by
  rw [Int64.lt_iff_toInt_lt, Int64.lt_iff_toInt_lt]
  have h1 : (2147483640 : Int64).toInt = 2147483640 := by decide
  have h2 : (2147483639 : Int64).toInt = 2147483639 := by decide
  omega
theorem own_mapped (v : Int64) : (v < (0 : Int64) ∨ XT.ushrL v (31 : Int32) = (0 : Int64)) ↔ ¬ (2147483647 : Int64) < v := by
  rw [Int64.lt_iff_toInt_lt, Int64.lt_iff_toInt_lt, ← Int64.toInt_inj, own_ushrL v 31 31 (by decide) (by decide)]
  have h0 : (0 : Int64).toInt = 0 := by decide
  have h2 : (2147483647 : Int64).toInt = 2147483647 := by decide
  have r := rng64 v
  omega
theorem d1_0 : decode method_2_code 0 = .ok (.iload_n 2, 1) := by decide +kernel
theorem d1_1 : decode method_2_code 1 = .ok (.iload 4, 2) := by decide +kernel
theorem d1_3 : decode method_2_code 3 = .ok (.ishr, 1) := by decide +kernel
theorem d1_4 : decode method_2_code 4 = .ok (.iconst 1, 1) := by decide +kernel
theorem d1_5 : decode method_2_code 5 = .ok (.iand, 1) := by decide +kernel
theorem d1_6 : decode method_2_code 6 = .ok (.ifCond .eq 20, 3) := by decide +kernel
theorem d1_26 : decode method_2_code 26 = .ok (.lload_n 0, 1) := by decide +kernel
theorem d1_27 : decode method_2_code 27 = .ok (.lreturn, 1) := by decide +kernel
theorem d1_9 : decode method_2_code 9 = .ok (.lload 5, 2) := by decide +kernel
theorem d1_11 : decode method_2_code 11 = .ok (.iload_n 3, 1) := by decide +kernel
theorem d1_12 : decode method_2_code 12 = .ok (.iconst 2, 1) := by decide +kernel
theorem d1_13 : decode method_2_code 13 = .ok (.iload 4, 2) := by decide +kernel
theorem d1_15 : decode method_2_code 15 = .ok (.imul, 1) := by decide +kernel
theorem d1_16 : decode method_2_code 16 = .ok (.ishr, 1) := by decide +kernel
theorem d1_17 : decode method_2_code 17 = .ok (.iconst 3, 1) := by decide +kernel
theorem d1_18 : decode method_2_code 18 = .ok (.iand, 1) := by decide +kernel
theorem d1_19 : decode method_2_code 19 = .ok (.i2l, 1) := by decide +kernel
theorem d1_20 : decode method_2_code 20 = .ok (.ladd, 1) := by decide +kernel
theorem d1_21 : decode method_2_code 21 = .ok (.ldc2_w 7, 3) := by decide +kernel
theorem d1_24 : decode method_2_code 24 = .ok (.lsub, 1) := by decide +kernel
theorem d1_25 : decode method_2_code 25 = .ok (.lreturn, 1) := by decide +kernel
theorem ef_rm1 (m : MethodId) (v : Int64) (mode : Int32) (off : Int32) (k : Int32) (lim : Int64) : entryFrame m #[(.long v), (.int mode), (.int off), (.int k), (.long lim)] 7 = mkF m 0 #[.val (.long v), .second, .val (.int mode), .val (.int off), .val (.int k), .val (.long lim), .second] [] := by first | (simp [entryFrame, mkF, argsToLocals, Value.category]; done) | rfl
theorem pn0 : plainName "com/example/sprigdex/sprigdex/index/SegmentSizeReadablePinLaw" = true := by first | (simp [plainName, overriddenIn]; done) | decide +kernel
set_option maxRecDepth 65536 in
set_option maxHeartbeats 40000000 in
theorem rm1 (l : Launch) (Z : State) (a0 : Array Value) (hw : ∀ d ∈ tables_1, d.before a0 Z = true) (v : Int64) (mode : Int32) (off : Int32) (k : Int32) (lim : Int64) (h0 : Heap) (n0 : Nat) (Z0 : n0 ≤ h0.size) :
    Own.Ct l (⟨"com/example/sprigdex/sprigdex/index/SegmentSizeReadablePinLaw", "pick", "(JIIIJ)J"⟩ : MethodName) method_2_code 7 (some .long) [] ({ frames := 0, cells := 0, slots := 0, locals := 0 } : Room) Z #[(.long v), (.int mode), (.int off), (.int k), (.long lim)] h0 (fun rV hP lC => rV = some (.long (if ((mode >>> (k &&& 31)) &&& (1 : Int32)) = (0 : Int32) then v else ((lim + ((off >>> (((2 : Int32) * k) &&& 31)) &&& (3 : Int32)).toInt64) - (2 : Int64)))) ∧ Fr n0 lC ∧ hP = h0) := by
  refine Own.enter (plainFor_of_name pn0) ?_
  intro p e s m below meth cc s₁ hx hby hml hown hnm hret hk hZ X0 e0
  have N0 := Fr.nil n0
  refine Own.start (ef_rm1 m v mode off k lim) ?_
  refine Own.iloadN X0 hx (pc := 0) (hb hby d1_0) rfl ?_
  refine Own.iload X0 hx (pc := 1) (hb hby d1_1) rfl ?_
  refine Own.ishr X0 hx (pc := 3) (hb hby d1_3) ?_
  refine Own.iconst X0 hx (pc := 4) (1 : Int32) (hb hby d1_4) (by decide) ?_
  refine Own.iand X0 hx (pc := 5) (hb hby d1_5) ?_
  by_cases c1 : ((mode >>> (k &&& 31)) &&& (1 : Int32)) = (0 : Int32)
  · refine Own.ifYes X0 hx (pc := 6) 26 (hb hby d1_6) (XT.i0_eq_t c1) (by decide) (by decide) ?_
    refine Own.lloadN X0 hx (pc := 26) (hb hby d1_26) rfl ?_
    exact Own.lreturn X0 hx hk hret (hb hby d1_27) e0 ⟨by simp [c1], N0, rfl⟩ (by decide) (by decide)
  · refine Own.ifNo X0 hx (pc := 6) (hb hby d1_6) (XT.i0_eq_f c1) ?_
    refine Own.lload X0 hx (pc := 9) (hb hby d1_9) rfl ?_
    refine Own.iloadN X0 hx (pc := 11) (hb hby d1_11) rfl ?_
    refine Own.iconst X0 hx (pc := 12) (2 : Int32) (hb hby d1_12) (by decide) ?_
    refine Own.iload X0 hx (pc := 13) (hb hby d1_13) rfl ?_
    refine Own.imul X0 hx (pc := 15) (hb hby d1_15) ?_
    refine Own.ishr X0 hx (pc := 16) (hb hby d1_16) ?_
    refine Own.iconst X0 hx (pc := 17) (3 : Int32) (hb hby d1_17) (by decide) ?_
    refine Own.iand X0 hx (pc := 18) (hb hby d1_18) ?_
    refine Own.i2l X0 hx (pc := 19) (hb hby d1_19) ?_
    refine Own.ladd X0 hx (pc := 20) (hb hby d1_20) ?_
    refine Own.ldc2J X0 hx hZ (pc := 21) hown (Wd hw 5 rfl) (hb hby d1_21) ?_
    refine Own.lsub X0 hx (pc := 24) (hb hby d1_24) ?_
    exact Own.lreturn X0 hx hk hret (hb hby d1_25) e0 ⟨by simp [c1], N0, rfl⟩ (by decide) (by decide)
theorem d3_0 : decode jdk_30_method_1_code 0 = .ok (.aload_n 0, 1) := by decide +kernel
theorem d3_1 : decode jdk_30_method_1_code 1 = .ok (.invokespecial 1, 3) := by decide +kernel
theorem d3_4 : decode jdk_30_method_1_code 4 = .ok (.return_, 1) := by decide +kernel
theorem ef_rm3 (m : MethodId) (o : Addr) : entryFrame m #[(.ref o)] 1 = mkF m 0 #[.val (.ref o)] [] := by first | (simp [entryFrame, mkF, argsToLocals, Value.category]; done) | rfl
theorem pn1 : plainName "java/lang/Record" = true := by first | (simp [plainName, overriddenIn]; done) | decide +kernel
set_option maxRecDepth 65536 in
set_option maxHeartbeats 40000000 in
theorem rm3 (l : Launch) (Z : State) (a0 : Array Value) (hw : ∀ d ∈ tables_1, d.before a0 Z = true) (o : Addr) (h0 : Heap) (n0 : Nat) (Z0 : n0 ≤ h0.size) :
    Own.Ct l (⟨"java/lang/Record", "<init>", "()V"⟩ : MethodName) jdk_30_method_1_code 1 none [] ({ frames := 1, cells := 0, slots := 0, locals := 12 } : Room) Z #[(.ref o)] h0 (fun rV hP lC => rV = none ∧ Fr n0 lC ∧ hP = h0) := by
  refine Own.enter (plainFor_of_name pn1) ?_
  intro p e s m below meth cc s₁ hx hby hml hown hnm hret hk hZ X0 e0
  have N0 := Fr.nil n0
  refine Own.start (ef_rm3 m o) ?_
  refine Own.aloadN X0 hx (pc := 0) (hb hby d3_0) rfl rfl ?_
  refine Own.initObj X0 hx hZ (pc := 1) hown (Wd hw 18 rfl) (Wd hw 19 rfl) (Wd hw 20 rfl) e0 (by rw [hml]; rfl) (hb hby d3_1) (by decide) 0 (Nat.le_of_eq rfl) (by decide) ?_
  intro T1 X1 e1
  exact Own.vreturn X1 hx hk hret (hb hby d3_4) e1 ⟨rfl, N0, rfl⟩ (by decide) (by decide)
theorem d2_0 : decode prog_100_method_1_code 0 = .ok (.aload_n 0, 1) := by decide +kernel
theorem pd2 : parseMethodDescriptor "()V" = some ⟨[], none⟩ := by decide +kernel
theorem d2_1 : decode prog_100_method_1_code 1 = .ok (.invokespecial 1, 3) := by decide +kernel
theorem d2_4 : decode prog_100_method_1_code 4 = .ok (.aload_n 0, 1) := by decide +kernel
theorem d2_5 : decode prog_100_method_1_code 5 = .ok (.lload_n 1, 1) := by decide +kernel
theorem d2_6 : decode prog_100_method_1_code 6 = .ok (.putfield 7, 3) := by decide +kernel
theorem d2_9 : decode prog_100_method_1_code 9 = .ok (.aload_n 0, 1) := by decide +kernel
theorem d2_10 : decode prog_100_method_1_code 10 = .ok (.lload_n 3, 1) := by decide +kernel
theorem d2_11 : decode prog_100_method_1_code 11 = .ok (.putfield 13, 3) := by decide +kernel
theorem d2_14 : decode prog_100_method_1_code 14 = .ok (.aload_n 0, 1) := by decide +kernel
theorem d2_15 : decode prog_100_method_1_code 15 = .ok (.lload 5, 2) := by decide +kernel
theorem d2_17 : decode prog_100_method_1_code 17 = .ok (.putfield 16, 3) := by decide +kernel
theorem d2_20 : decode prog_100_method_1_code 20 = .ok (.aload_n 0, 1) := by decide +kernel
theorem d2_21 : decode prog_100_method_1_code 21 = .ok (.lload 7, 2) := by decide +kernel
theorem d2_23 : decode prog_100_method_1_code 23 = .ok (.putfield 19, 3) := by decide +kernel
theorem d2_26 : decode prog_100_method_1_code 26 = .ok (.return_, 1) := by decide +kernel
theorem ef_rm2 (m : MethodId) (o : Addr) (d1 : Int64) (d2 : Int64) (d3 : Int64) (d4 : Int64) : entryFrame m #[(.ref o), (.long d1), (.long d2), (.long d3), (.long d4)] 9 = mkF m 0 #[.val (.ref o), .val (.long d1), .second, .val (.long d2), .second, .val (.long d3), .second, .val (.long d4), .second] [] := by first | (simp [entryFrame, mkF, argsToLocals, Value.category]; done) | rfl
theorem pn3 : plainName "com/example/sprigdex/sprigdex/index/SegmentSize" = true := by first | (simp [plainName, overriddenIn]; done) | decide +kernel
set_option maxRecDepth 65536 in
set_option maxHeartbeats 40000000 in
theorem rm2 (l : Launch) (Z : State) (a0 : Array Value) (hw : ∀ d ∈ tables_1, d.before a0 Z = true) (o : Addr) (d1 : Int64) (d2 : Int64) (d3 : Int64) (d4 : Int64) (h0 : Heap) (n0 : Nat) (Z0 : n0 ≤ h0.size) (E_o : Exa Z h0 o "com/example/sprigdex/sprigdex/index/SegmentSize") (F_o_documentBytes : Fld Z h0 o "com/example/sprigdex/sprigdex/index/SegmentSize" "documentBytes" "J" (.long (0 : Int64))) (F_o_elementBytes : Fld Z h0 o "com/example/sprigdex/sprigdex/index/SegmentSize" "elementBytes" "J" (.long (0 : Int64))) (F_o_termBytes : Fld Z h0 o "com/example/sprigdex/sprigdex/index/SegmentSize" "termBytes" "J" (.long (0 : Int64))) (F_o_termTextBytes : Fld Z h0 o "com/example/sprigdex/sprigdex/index/SegmentSize" "termTextBytes" "J" (.long (0 : Int64))) (ge_o : n0 ≤ o) :
    Own.Ct l (⟨"com/example/sprigdex/sprigdex/index/SegmentSize", "<init>", "(JJJJ)V"⟩ : MethodName) prog_100_method_1_code 9 none [] ({ frames := 2, cells := 0, slots := 0, locals := 24 } : Room) Z #[(.ref o), (.long d1), (.long d2), (.long d3), (.long d4)] h0 (fun rV hP lC => rV = none ∧ Fr n0 lC ∧ Keep h0 hP [o] ∧ Fld Z hP o "com/example/sprigdex/sprigdex/index/SegmentSize" "documentBytes" "J" (.long d1) ∧ Fld Z hP o "com/example/sprigdex/sprigdex/index/SegmentSize" "elementBytes" "J" (.long d2) ∧ Fld Z hP o "com/example/sprigdex/sprigdex/index/SegmentSize" "termBytes" "J" (.long d3) ∧ Fld Z hP o "com/example/sprigdex/sprigdex/index/SegmentSize" "termTextBytes" "J" (.long d4)) := by
  refine Own.enter (plainFor_of_name pn3) ?_
  intro p e s m below meth cc s₁ hx hby hml hown hnm hret hk hZ X0 e0
  have N0 := Fr.nil n0
  refine Own.start (ef_rm2 m o d1 d2 d3 d4) ?_
  have K : Keep h0 h0 [o] := Keep.refl _ _
  refine Own.aloadN X0 hx (pc := 0) (hb hby d2_0) rfl rfl ?_
  refine Own.callSpecial X0 hx hZ (pc := 1) (y := (⟨"java/lang/Record", "<init>", "()V"⟩ : MethodName)) rfl hown (Wd hw 13 rfl) (Wd hw 14 rfl) (Wd hw 16 rfl) (Wd hw 17 rfl) (by decide) 0 o [] [] (rm3 l Z a0 hw o h0 n0 Z0 ) (by decide) (by decide) e0 (by rw [hml]; rfl) pd2 rfl rfl (Nat.le_of_eq rfl) (hb hby d2_1) (by decide) (by decide) ?_
  intro T1 L1 v1 X1 hQ1
  obtain ⟨rfl, Nq1, e1⟩ := hQ1
  have N1 := Fr.app N0 Nq1
  show Own.Go p e below _ (T1.setTop (mkF m 4 #[.val (.ref o), .val (.long d1), .second, .val (.long d2), .second, .val (.long d3), .second, .val (.long d4), .second] []))
  refine Own.aloadN X1 hx (pc := 4) (hb hby d2_4) rfl rfl ?_
  refine Own.lloadN X1 hx (pc := 5) (hb hby d2_5) rfl ?_
  refine Own.putfield X1 hx hZ (pc := 6) hown (host := "") (Or.inl (Wd hw 21 rfl)) Via.refl e1 F_o_documentBytes E_o (Or.inr ⟨(Wd hw 22 rfl), rfl, hnm⟩) (Wd hw 8 rfl) (ty := .long) (by decide) rfl rfl N1 ge_o (hb hby d2_6) ?_
  intro T2 h2 X2 e2 W2 N2 F_o_documentBytes
  have sz2 : n0 ≤ h2.size := Nat.le_trans Z0 (Nat.le_of_eq (Wr.size W2).symm)
  have E_o := Exa.wr W2 E_o
  have F_o_elementBytes := Fld.other W2 F_o_elementBytes (Or.inr (slot_ne (Or.inr (Wd hw 24 rfl)) (Or.inr (Wd hw 22 rfl)) (by decide) (ht := (by decide : parseFieldDescriptor "J" = some .long)) (ht' := (by decide : parseFieldDescriptor "J" = some .long))))
  have F_o_termBytes := Fld.other W2 F_o_termBytes (Or.inr (slot_ne (Or.inr (Wd hw 26 rfl)) (Or.inr (Wd hw 22 rfl)) (by decide) (ht := (by decide : parseFieldDescriptor "J" = some .long)) (ht' := (by decide : parseFieldDescriptor "J" = some .long))))
  have F_o_termTextBytes := Fld.other W2 F_o_termTextBytes (Or.inr (slot_ne (Or.inr (Wd hw 28 rfl)) (Or.inr (Wd hw 22 rfl)) (by decide) (ht := (by decide : parseFieldDescriptor "J" = some .long)) (ht' := (by decide : parseFieldDescriptor "J" = some .long))))
  have K := K.wr W2 (Or.inl (by simp))
  refine Own.aloadN X2 hx (pc := 9) (hb hby d2_9) rfl rfl ?_
  refine Own.lloadN X2 hx (pc := 10) (hb hby d2_10) rfl ?_
  refine Own.putfield X2 hx hZ (pc := 11) hown (host := "") (Or.inl (Wd hw 23 rfl)) Via.refl e2 F_o_elementBytes E_o (Or.inr ⟨(Wd hw 24 rfl), rfl, hnm⟩) (Wd hw 8 rfl) (ty := .long) (by decide) rfl rfl N2 ge_o (hb hby d2_11) ?_
  intro T3 h3 X3 e3 W3 N3 F_o_elementBytes
  have sz3 : n0 ≤ h3.size := Nat.le_trans sz2 (Nat.le_of_eq (Wr.size W3).symm)
  have E_o := Exa.wr W3 E_o
  have F_o_documentBytes := Fld.other W3 F_o_documentBytes (Or.inr (slot_ne (Or.inr (Wd hw 22 rfl)) (Or.inr (Wd hw 24 rfl)) (by decide) (ht := (by decide : parseFieldDescriptor "J" = some .long)) (ht' := (by decide : parseFieldDescriptor "J" = some .long))))
  have F_o_termBytes := Fld.other W3 F_o_termBytes (Or.inr (slot_ne (Or.inr (Wd hw 26 rfl)) (Or.inr (Wd hw 24 rfl)) (by decide) (ht := (by decide : parseFieldDescriptor "J" = some .long)) (ht' := (by decide : parseFieldDescriptor "J" = some .long))))
  have F_o_termTextBytes := Fld.other W3 F_o_termTextBytes (Or.inr (slot_ne (Or.inr (Wd hw 28 rfl)) (Or.inr (Wd hw 24 rfl)) (by decide) (ht := (by decide : parseFieldDescriptor "J" = some .long)) (ht' := (by decide : parseFieldDescriptor "J" = some .long))))
  have K := K.wr W3 (Or.inl (by simp))
  refine Own.aloadN X3 hx (pc := 14) (hb hby d2_14) rfl rfl ?_
  refine Own.lload X3 hx (pc := 15) (hb hby d2_15) rfl ?_
  refine Own.putfield X3 hx hZ (pc := 17) hown (host := "") (Or.inl (Wd hw 25 rfl)) Via.refl e3 F_o_termBytes E_o (Or.inr ⟨(Wd hw 26 rfl), rfl, hnm⟩) (Wd hw 8 rfl) (ty := .long) (by decide) rfl rfl N3 ge_o (hb hby d2_17) ?_
  intro T4 h4 X4 e4 W4 N4 F_o_termBytes
  have sz4 : n0 ≤ h4.size := Nat.le_trans sz3 (Nat.le_of_eq (Wr.size W4).symm)
  have E_o := Exa.wr W4 E_o
  have F_o_documentBytes := Fld.other W4 F_o_documentBytes (Or.inr (slot_ne (Or.inr (Wd hw 22 rfl)) (Or.inr (Wd hw 26 rfl)) (by decide) (ht := (by decide : parseFieldDescriptor "J" = some .long)) (ht' := (by decide : parseFieldDescriptor "J" = some .long))))
  have F_o_elementBytes := Fld.other W4 F_o_elementBytes (Or.inr (slot_ne (Or.inr (Wd hw 24 rfl)) (Or.inr (Wd hw 26 rfl)) (by decide) (ht := (by decide : parseFieldDescriptor "J" = some .long)) (ht' := (by decide : parseFieldDescriptor "J" = some .long))))
  have F_o_termTextBytes := Fld.other W4 F_o_termTextBytes (Or.inr (slot_ne (Or.inr (Wd hw 28 rfl)) (Or.inr (Wd hw 26 rfl)) (by decide) (ht := (by decide : parseFieldDescriptor "J" = some .long)) (ht' := (by decide : parseFieldDescriptor "J" = some .long))))
  have K := K.wr W4 (Or.inl (by simp))
  refine Own.aloadN X4 hx (pc := 20) (hb hby d2_20) rfl rfl ?_
  refine Own.lload X4 hx (pc := 21) (hb hby d2_21) rfl ?_
  refine Own.putfield X4 hx hZ (pc := 23) hown (host := "") (Or.inl (Wd hw 27 rfl)) Via.refl e4 F_o_termTextBytes E_o (Or.inr ⟨(Wd hw 28 rfl), rfl, hnm⟩) (Wd hw 8 rfl) (ty := .long) (by decide) rfl rfl N4 ge_o (hb hby d2_23) ?_
  intro T5 h5 X5 e5 W5 N5 F_o_termTextBytes
  have sz5 : n0 ≤ h5.size := Nat.le_trans sz4 (Nat.le_of_eq (Wr.size W5).symm)
  have E_o := Exa.wr W5 E_o
  have F_o_documentBytes := Fld.other W5 F_o_documentBytes (Or.inr (slot_ne (Or.inr (Wd hw 22 rfl)) (Or.inr (Wd hw 28 rfl)) (by decide) (ht := (by decide : parseFieldDescriptor "J" = some .long)) (ht' := (by decide : parseFieldDescriptor "J" = some .long))))
  have F_o_elementBytes := Fld.other W5 F_o_elementBytes (Or.inr (slot_ne (Or.inr (Wd hw 24 rfl)) (Or.inr (Wd hw 28 rfl)) (by decide) (ht := (by decide : parseFieldDescriptor "J" = some .long)) (ht' := (by decide : parseFieldDescriptor "J" = some .long))))
  have F_o_termBytes := Fld.other W5 F_o_termBytes (Or.inr (slot_ne (Or.inr (Wd hw 26 rfl)) (Or.inr (Wd hw 28 rfl)) (by decide) (ht := (by decide : parseFieldDescriptor "J" = some .long)) (ht' := (by decide : parseFieldDescriptor "J" = some .long))))
  have K := K.wr W5 (Or.inl (by simp))
  exact Own.vreturn X5 hx hk hret (hb hby d2_26) e5 ⟨rfl, N5, K, F_o_documentBytes, F_o_elementBytes, F_o_termBytes, F_o_termTextBytes⟩ (by decide) (by decide)
theorem d5_0 : decode method_3_code 0 = .ok (.lload_n 0, 1) := by decide +kernel
theorem d5_1 : decode method_3_code 1 = .ok (.ldc2_w 9, 3) := by decide +kernel
theorem d5_4 : decode method_3_code 4 = .ok (.lcmp, 1) := by decide +kernel
theorem d5_5 : decode method_3_code 5 = .ok (.ifCond .ge 7, 3) := by decide +kernel
theorem d5_8 : decode method_3_code 8 = .ok (.iconst 1, 1) := by decide +kernel
theorem d5_9 : decode method_3_code 9 = .ok (.goto 4, 3) := by decide +kernel
theorem d5_13 : decode method_3_code 13 = .ok (.ireturn, 1) := by decide +kernel
theorem d5_12 : decode method_3_code 12 = .ok (.iconst 0, 1) := by decide +kernel
theorem ef_rm5 (m : MethodId) (v : Int64) : entryFrame m #[(.long v)] 2 = mkF m 0 #[.val (.long v), .second] [] := by first | (simp [entryFrame, mkF, argsToLocals, Value.category]; done) | rfl
set_option maxRecDepth 65536 in
set_option maxHeartbeats 40000000 in
theorem rm5 (l : Launch) (Z : State) (a0 : Array Value) (hw : ∀ d ∈ tables_1, d.before a0 Z = true) (v : Int64) (h0 : Heap) (n0 : Nat) (Z0 : n0 ≤ h0.size) :
    Own.Ct l (⟨"com/example/sprigdex/sprigdex/index/SegmentSizeReadablePinLaw", "fitsWhole", "(J)Z"⟩ : MethodName) method_3_code 2 (some .boolean) [] ({ frames := 0, cells := 0, slots := 0, locals := 0 } : Room) Z #[(.long v)] h0 (fun rV hP lC => rV = some (.int (if v < (2147483640 : Int64) then (1 : Int32) else 0)) ∧ Fr n0 lC ∧ hP = h0) := by
  refine Own.enter (plainFor_of_name pn0) ?_
  intro p e s m below meth cc s₁ hx hby hml hown hnm hret hk hZ X0 e0
  have N0 := Fr.nil n0
  refine Own.start (ef_rm5 m v) ?_
  refine Own.lloadN X0 hx (pc := 0) (hb hby d5_0) rfl ?_
  refine Own.ldc2J X0 hx hZ (pc := 1) hown (Wd hw 32 rfl) (hb hby d5_1) ?_
  refine Own.lcmp X0 hx (pc := 4) (hb hby d5_4) ?_
  by_cases c1 : v < (2147483640 : Int64)
  · refine Own.ifNo X0 hx (pc := 5) (hb hby d5_5) (XT.ll_ge_f c1) ?_
    refine Own.iconst X0 hx (pc := 8) (1 : Int32) (hb hby d5_8) (by decide) ?_
    refine Own.goto X0 hx (pc := 9) 13 (hb hby d5_9) (by decide) (by decide) ?_
    exact Own.ireturn X0 hx hk hret (by simp) rfl (hb hby d5_13) e0 ⟨by simp [c1], N0, rfl⟩ (by decide) (by decide)
  · refine Own.ifYes X0 hx (pc := 5) 12 (hb hby d5_5) (XT.ll_ge_t c1) (by decide) (by decide) ?_
    refine Own.iconst X0 hx (pc := 12) (0 : Int32) (hb hby d5_12) (by decide) ?_
    exact Own.ireturn X0 hx hk hret (by simp) rfl (hb hby d5_13) e0 ⟨by simp [c1], N0, rfl⟩ (by decide) (by decide)
theorem d6_0 : decode method_4_code 0 = .ok (.lload_n 0, 1) := by decide +kernel
theorem d6_1 : decode method_4_code 1 = .ok (.lconst 0, 1) := by decide +kernel
theorem d6_2 : decode method_4_code 2 = .ok (.lcmp, 1) := by decide +kernel
theorem d6_3 : decode method_4_code 3 = .ok (.ifCond .lt 12, 3) := by decide +kernel
theorem d6_15 : decode method_4_code 15 = .ok (.iconst 1, 1) := by decide +kernel
theorem d6_16 : decode method_4_code 16 = .ok (.goto 4, 3) := by decide +kernel
theorem d6_20 : decode method_4_code 20 = .ok (.ireturn, 1) := by decide +kernel
theorem d6_6 : decode method_4_code 6 = .ok (.lload_n 0, 1) := by decide +kernel
theorem d6_7 : decode method_4_code 7 = .ok (.bipush 31, 2) := by decide +kernel
theorem d6_9 : decode method_4_code 9 = .ok (.lushr, 1) := by decide +kernel
theorem d6_10 : decode method_4_code 10 = .ok (.lconst 0, 1) := by decide +kernel
theorem d6_11 : decode method_4_code 11 = .ok (.lcmp, 1) := by decide +kernel
theorem d6_12 : decode method_4_code 12 = .ok (.ifCond .ne 7, 3) := by decide +kernel
theorem d6_19 : decode method_4_code 19 = .ok (.iconst 0, 1) := by decide +kernel
theorem ef_rm6 (m : MethodId) (v : Int64) : entryFrame m #[(.long v)] 2 = mkF m 0 #[.val (.long v), .second] [] := by first | (simp [entryFrame, mkF, argsToLocals, Value.category]; done) | rfl
set_option maxRecDepth 65536 in
set_option maxHeartbeats 40000000 in
theorem rm6 (l : Launch) (Z : State) (a0 : Array Value) (hw : ∀ d ∈ tables_1, d.before a0 Z = true) (v : Int64) (h0 : Heap) (n0 : Nat) (Z0 : n0 ≤ h0.size) :
    Own.Ct l (⟨"com/example/sprigdex/sprigdex/index/SegmentSizeReadablePinLaw", "fitsMapped", "(J)Z"⟩ : MethodName) method_4_code 2 (some .boolean) [] ({ frames := 0, cells := 0, slots := 0, locals := 0 } : Room) Z #[(.long v)] h0 (fun rV hP lC => rV = some (.int (if (v < (0 : Int64) ∨ XT.ushrL v (31 : Int32) = (0 : Int64)) then (1 : Int32) else 0)) ∧ Fr n0 lC ∧ hP = h0) := by
  refine Own.enter (plainFor_of_name pn0) ?_
  intro p e s m below meth cc s₁ hx hby hml hown hnm hret hk hZ X0 e0
  have N0 := Fr.nil n0
  refine Own.start (ef_rm6 m v) ?_
  refine Own.lloadN X0 hx (pc := 0) (hb hby d6_0) rfl ?_
  refine Own.lconst X0 hx (pc := 1) (0 : Int64) (hb hby d6_1) (by decide) ?_
  refine Own.lcmp X0 hx (pc := 2) (hb hby d6_2) ?_
  by_cases c1 : v < (0 : Int64)
  · refine Own.ifYes X0 hx (pc := 3) 15 (hb hby d6_3) (XT.ll_lt_t c1) (by decide) (by decide) ?_
    refine Own.iconst X0 hx (pc := 15) (1 : Int32) (hb hby d6_15) (by decide) ?_
    refine Own.goto X0 hx (pc := 16) 20 (hb hby d6_16) (by decide) (by decide) ?_
    exact Own.ireturn X0 hx hk hret (by simp) rfl (hb hby d6_20) e0 ⟨by simp [c1], N0, rfl⟩ (by decide) (by decide)
  · refine Own.ifNo X0 hx (pc := 3) (hb hby d6_3) (XT.ll_lt_f c1) ?_
    refine Own.lloadN X0 hx (pc := 6) (hb hby d6_6) rfl ?_
    refine Own.bipush X0 hx (pc := 7) (31 : Int32) (hb hby d6_7) (by decide) ?_
    refine Own.lushr X0 hx (pc := 9) (hb hby d6_9) ?_
    refine Own.lconst X0 hx (pc := 10) (0 : Int64) (hb hby d6_10) (by decide) ?_
    refine Own.lcmp X0 hx (pc := 11) (hb hby d6_11) ?_
    by_cases c2 : (XT.ushrL v (31 : Int32)) = (0 : Int64)
    · refine Own.ifNo X0 hx (pc := 12) (hb hby d6_12) (XT.ll_ne_f c2) ?_
      refine Own.iconst X0 hx (pc := 15) (1 : Int32) (hb hby d6_15) (by decide) ?_
      refine Own.goto X0 hx (pc := 16) 20 (hb hby d6_16) (by decide) (by decide) ?_
      exact Own.ireturn X0 hx hk hret (by simp) rfl (hb hby d6_20) e0 ⟨by simp [c1, c2], N0, rfl⟩ (by decide) (by decide)
    · refine Own.ifYes X0 hx (pc := 12) 19 (hb hby d6_12) (XT.ll_ne_t c2) (by decide) (by decide) ?_
      refine Own.iconst X0 hx (pc := 19) (0 : Int32) (hb hby d6_19) (by decide) ?_
      exact Own.ireturn X0 hx hk hret (by simp) rfl (hb hby d6_20) e0 ⟨by simp [c1, c2], N0, rfl⟩ (by decide) (by decide)
theorem d7_0 : decode prog_100_method_3_code 0 = .ok (.aload_n 0, 1) := by decide +kernel
theorem d7_1 : decode prog_100_method_3_code 1 = .ok (.getfield 7, 3) := by decide +kernel
theorem d7_4 : decode prog_100_method_3_code 4 = .ok (.ldc2_w 27, 3) := by decide +kernel
theorem d7_7 : decode prog_100_method_3_code 7 = .ok (.lcmp, 1) := by decide +kernel
theorem d7_8 : decode prog_100_method_3_code 8 = .ok (.ifCond .gt 40, 3) := by decide +kernel
theorem d7_48 : decode prog_100_method_3_code 48 = .ok (.iconst 0, 1) := by decide +kernel
theorem d7_49 : decode prog_100_method_3_code 49 = .ok (.ireturn, 1) := by decide +kernel
theorem d7_11 : decode prog_100_method_3_code 11 = .ok (.aload_n 0, 1) := by decide +kernel
theorem d7_12 : decode prog_100_method_3_code 12 = .ok (.getfield 13, 3) := by decide +kernel
theorem d7_15 : decode prog_100_method_3_code 15 = .ok (.ldc2_w 29, 3) := by decide +kernel
theorem d7_18 : decode prog_100_method_3_code 18 = .ok (.lcmp, 1) := by decide +kernel
theorem d7_19 : decode prog_100_method_3_code 19 = .ok (.ifCond .gt 29, 3) := by decide +kernel
theorem d7_22 : decode prog_100_method_3_code 22 = .ok (.aload_n 0, 1) := by decide +kernel
theorem d7_23 : decode prog_100_method_3_code 23 = .ok (.getfield 16, 3) := by decide +kernel
theorem d7_26 : decode prog_100_method_3_code 26 = .ok (.ldc2_w 29, 3) := by decide +kernel
theorem d7_29 : decode prog_100_method_3_code 29 = .ok (.lcmp, 1) := by decide +kernel
theorem d7_30 : decode prog_100_method_3_code 30 = .ok (.ifCond .gt 18, 3) := by decide +kernel
theorem d7_33 : decode prog_100_method_3_code 33 = .ok (.aload_n 0, 1) := by decide +kernel
theorem d7_34 : decode prog_100_method_3_code 34 = .ok (.getfield 19, 3) := by decide +kernel
theorem d7_37 : decode prog_100_method_3_code 37 = .ok (.ldc2_w 29, 3) := by decide +kernel
theorem d7_40 : decode prog_100_method_3_code 40 = .ok (.lcmp, 1) := by decide +kernel
theorem d7_41 : decode prog_100_method_3_code 41 = .ok (.ifCond .gt 7, 3) := by decide +kernel
theorem d7_44 : decode prog_100_method_3_code 44 = .ok (.iconst 1, 1) := by decide +kernel
theorem d7_45 : decode prog_100_method_3_code 45 = .ok (.goto 4, 3) := by decide +kernel
theorem ef_rm7 (m : MethodId) (o : Addr) : entryFrame m #[(.ref o)] 1 = mkF m 0 #[.val (.ref o)] [] := by first | (simp [entryFrame, mkF, argsToLocals, Value.category]; done) | rfl
set_option maxRecDepth 65536 in
set_option maxHeartbeats 40000000 in
theorem rm7 (l : Launch) (Z : State) (a0 : Array Value) (hw : ∀ d ∈ tables_1, d.before a0 Z = true) (o : Addr) (d1 : Int64) (d2 : Int64) (d3 : Int64) (d4 : Int64) (h0 : Heap) (n0 : Nat) (Z0 : n0 ≤ h0.size) (F_o_documentBytes : Fld Z h0 o "com/example/sprigdex/sprigdex/index/SegmentSize" "documentBytes" "J" (.long d1)) (F_o_elementBytes : Fld Z h0 o "com/example/sprigdex/sprigdex/index/SegmentSize" "elementBytes" "J" (.long d2)) (F_o_termBytes : Fld Z h0 o "com/example/sprigdex/sprigdex/index/SegmentSize" "termBytes" "J" (.long d3)) (F_o_termTextBytes : Fld Z h0 o "com/example/sprigdex/sprigdex/index/SegmentSize" "termTextBytes" "J" (.long d4)) :
    Own.Ct l (⟨"com/example/sprigdex/sprigdex/index/SegmentSize", "readable", "()Z"⟩ : MethodName) prog_100_method_3_code 1 (some .boolean) [] ({ frames := 0, cells := 0, slots := 0, locals := 0 } : Room) Z #[(.ref o)] h0 (fun rV hP lC => rV = some (.int (if ((¬ (2147483639 : Int64) < d1) ∧ (¬ (2147483647 : Int64) < d2) ∧ (¬ (2147483647 : Int64) < d3) ∧ ¬ (2147483647 : Int64) < d4) then (1 : Int32) else 0)) ∧ Fr n0 lC ∧ hP = h0) := by
  refine Own.enter (plainFor_of_name pn3) ?_
  intro p e s m below meth cc s₁ hx hby hml hown hnm hret hk hZ X0 e0
  have N0 := Fr.nil n0
  refine Own.start (ef_rm7 m o) ?_
  refine Own.aloadN X0 hx (pc := 0) (hb hby d7_0) rfl rfl ?_
  refine Own.getfield X0 hx hZ (pc := 1) hown (host := "") (Or.inl (Wd hw 21 rfl)) Via.refl e0 F_o_documentBytes (hb hby d7_1) ?_
  intro T1 X1 e1
  refine Own.ldc2J X1 hx hZ (pc := 4) hown (Wd hw 41 rfl) (hb hby d7_4) ?_
  refine Own.lcmp X1 hx (pc := 7) (hb hby d7_7) ?_
  by_cases c2 : (2147483639 : Int64) < d1
  · refine Own.ifYes X1 hx (pc := 8) 48 (hb hby d7_8) (XT.ll_gt_t c2) (by decide) (by decide) ?_
    refine Own.iconst X1 hx (pc := 48) (0 : Int32) (hb hby d7_48) (by decide) ?_
    exact Own.ireturn X1 hx hk hret (by simp) rfl (hb hby d7_49) e1 ⟨by simp [c2], N0, rfl⟩ (by decide) (by decide)
  · refine Own.ifNo X1 hx (pc := 8) (hb hby d7_8) (XT.ll_gt_f c2) ?_
    refine Own.aloadN X1 hx (pc := 11) (hb hby d7_11) rfl rfl ?_
    refine Own.getfield X1 hx hZ (pc := 12) hown (host := "") (Or.inl (Wd hw 23 rfl)) Via.refl e1 F_o_elementBytes (hb hby d7_12) ?_
    intro T3 X3 e3
    refine Own.ldc2J X3 hx hZ (pc := 15) hown (Wd hw 42 rfl) (hb hby d7_15) ?_
    refine Own.lcmp X3 hx (pc := 18) (hb hby d7_18) ?_
    by_cases c4 : (2147483647 : Int64) < d2
    · refine Own.ifYes X3 hx (pc := 19) 48 (hb hby d7_19) (XT.ll_gt_t c4) (by decide) (by decide) ?_
      refine Own.iconst X3 hx (pc := 48) (0 : Int32) (hb hby d7_48) (by decide) ?_
      exact Own.ireturn X3 hx hk hret (by simp) rfl (hb hby d7_49) e3 ⟨by simp [c2, c4], N0, rfl⟩ (by decide) (by decide)
    · refine Own.ifNo X3 hx (pc := 19) (hb hby d7_19) (XT.ll_gt_f c4) ?_
      refine Own.aloadN X3 hx (pc := 22) (hb hby d7_22) rfl rfl ?_
      refine Own.getfield X3 hx hZ (pc := 23) hown (host := "") (Or.inl (Wd hw 25 rfl)) Via.refl e3 F_o_termBytes (hb hby d7_23) ?_
      intro T5 X5 e5
      refine Own.ldc2J X5 hx hZ (pc := 26) hown (Wd hw 42 rfl) (hb hby d7_26) ?_
      refine Own.lcmp X5 hx (pc := 29) (hb hby d7_29) ?_
      by_cases c6 : (2147483647 : Int64) < d3
      · refine Own.ifYes X5 hx (pc := 30) 48 (hb hby d7_30) (XT.ll_gt_t c6) (by decide) (by decide) ?_
        refine Own.iconst X5 hx (pc := 48) (0 : Int32) (hb hby d7_48) (by decide) ?_
        exact Own.ireturn X5 hx hk hret (by simp) rfl (hb hby d7_49) e5 ⟨by simp [c2, c4, c6], N0, rfl⟩ (by decide) (by decide)
      · refine Own.ifNo X5 hx (pc := 30) (hb hby d7_30) (XT.ll_gt_f c6) ?_
        refine Own.aloadN X5 hx (pc := 33) (hb hby d7_33) rfl rfl ?_
        refine Own.getfield X5 hx hZ (pc := 34) hown (host := "") (Or.inl (Wd hw 27 rfl)) Via.refl e5 F_o_termTextBytes (hb hby d7_34) ?_
        intro T7 X7 e7
        refine Own.ldc2J X7 hx hZ (pc := 37) hown (Wd hw 42 rfl) (hb hby d7_37) ?_
        refine Own.lcmp X7 hx (pc := 40) (hb hby d7_40) ?_
        by_cases c8 : (2147483647 : Int64) < d4
        · refine Own.ifYes X7 hx (pc := 41) 48 (hb hby d7_41) (XT.ll_gt_t c8) (by decide) (by decide) ?_
          refine Own.iconst X7 hx (pc := 48) (0 : Int32) (hb hby d7_48) (by decide) ?_
          exact Own.ireturn X7 hx hk hret (by simp) rfl (hb hby d7_49) e7 ⟨by simp [c2, c4, c6, c8], N0, rfl⟩ (by decide) (by decide)
        · refine Own.ifNo X7 hx (pc := 41) (hb hby d7_41) (XT.ll_gt_f c8) ?_
          refine Own.iconst X7 hx (pc := 44) (1 : Int32) (hb hby d7_44) (by decide) ?_
          refine Own.goto X7 hx (pc := 45) 49 (hb hby d7_45) (by decide) (by decide) ?_
          exact Own.ireturn X7 hx hk hret (by simp) rfl (hb hby d7_49) e7 ⟨by simp [c2, c4, c6, c8], N0, rfl⟩ (by decide) (by decide)
theorem pd4 : parseMethodDescriptor "(JIIIJ)J" = some ⟨[.long, .int, .int, .int, .long], some .long⟩ := by decide +kernel
theorem pd5 : parseMethodDescriptor "(JJJJ)V" = some ⟨[.long, .long, .long, .long], none⟩ := by decide +kernel
theorem pd6 : parseMethodDescriptor "(J)Z" = some ⟨[.long], some .boolean⟩ := by decide +kernel
theorem pd7 : parseMethodDescriptor "()Z" = some ⟨[], some .boolean⟩ := by decide +kernel
theorem ef_law (m : MethodId) (d : Int64) (ev : Int64) (t : Int64) (xv : Int64) (mode : Int32) (off : Int32) : entryFrame m #[(.long d), (.long ev), (.long t), (.long xv), (.int mode), (.int off)] maxLocals = mkF m 0 #[.val (.long d), .second, .val (.long ev), .second, .val (.long t), .second, .val (.long xv), .second, .val (.int mode), .val (.int off), .unset, .unset, .unset, .unset, .unset, .unset, .unset, .unset, .unset, .unset] [] := by first | (simp [entryFrame, mkF, argsToLocals, Value.category, maxLocals]; done) | rfl
set_option maxRecDepth 65536 in
set_option maxHeartbeats 400000000 in
theorem rm0 (l : Launch) (Z : State) (a0 : Array Value) (hw : ∀ d ∈ tables_1, d.before a0 Z = true) (d : Int64) (ev : Int64) (t : Int64) (xv : Int64) (mode : Int32) (off : Int32) (h0 : Heap) (n0 : Nat) (Z0 : n0 ≤ h0.size) :
    Own.Ct l x code maxLocals ret tables_1 room_1 Z #[(.long d), (.long ev), (.long t), (.long xv), (.int mode), (.int off)] h0 (fun v _ L => v = some (.int 1) ∧ Fr n0 L) := by
  refine Own.enter (plainFor_of_name pn0) ?_
  intro p e s m below meth cc s₁ hx hby hml0 hown hnm hret hk hZ X0 e0
  have hml : cc.maxLocals = 20 := hml0
  have N0 := Fr.nil n0
  refine Own.start (ef_law m d ev t xv mode off) ?_
  refine Own.lloadN X0 hx (pc := 0) (hb hby at_0) rfl ?_
  refine Own.iload X0 hx (pc := 1) (hb hby at_1) rfl ?_
  refine Own.iload X0 hx (pc := 3) (hb hby at_3) rfl ?_
  refine Own.iconst X0 hx (pc := 5) (0 : Int32) (hb hby at_5) (by decide) ?_
  refine Own.ldc2J X0 hx hZ (pc := 6) hown (Wd hw 0 rfl) (hb hby at_6) ?_
  refine Own.callStatic X0 hx hZ (pc := 9) (y := (⟨"com/example/sprigdex/sprigdex/index/SegmentSizeReadablePinLaw", "pick", "(JIIIJ)J"⟩ : MethodName)) hown (Wd hw 1 rfl) (Wd hw 2 rfl) (Wd hw 3 rfl) (Wd hw 4 rfl) (by decide) 0 [(.long d), (.int mode), (.int off), (.int (0 : Int32)), (.long (2147483639 : Int64))] [] (rm1 l Z a0 hw d mode off (0 : Int32) (2147483639 : Int64) h0 n0 Z0 ) (by decide) (by decide) e0 (by rw [hml]; rfl) pd4 rfl rfl (Nat.le_of_eq rfl) (hb hby at_9) (by decide) (by decide) ?_
  intro T1 L1 v1 X1 hQ1
  obtain ⟨rfl, Nq1, e1⟩ := hQ1
  have N1 := Fr.app N0 Nq1
  show Own.Go p e below _ (T1.setTop (mkF m 12 #[.val (.long d), .second, .val (.long ev), .second, .val (.long t), .second, .val (.long xv), .second, .val (.int mode), .val (.int off), .unset, .unset, .unset, .unset, .unset, .unset, .unset, .unset, .unset, .unset] [(.long (if ((mode >>> ((0 : Int32) &&& 31)) &&& (1 : Int32)) = (0 : Int32) then d else (((2147483639 : Int64) + ((off >>> (((2 : Int32) * (0 : Int32)) &&& 31)) &&& (3 : Int32)).toInt64) - (2 : Int64))))]))
  generalize qdd2 : (if ((mode >>> ((0 : Int32) &&& 31)) &&& (1 : Int32)) = (0 : Int32) then d else (((2147483639 : Int64) + ((off >>> (((2 : Int32) * (0 : Int32)) &&& 31)) &&& (3 : Int32)).toInt64) - (2 : Int64))) = dd2
  refine Own.lstore X1 hx (pc := 12) #[.val (.long d), .second, .val (.long ev), .second, .val (.long t), .second, .val (.long xv), .second, .val (.int mode), .val (.int off), .val (.long dd2), .second, .unset, .unset, .unset, .unset, .unset, .unset, .unset, .unset] (hb hby at_12) rfl ?_
  refine Own.lloadN X1 hx (pc := 14) (hb hby at_14) rfl ?_
  refine Own.iload X1 hx (pc := 15) (hb hby at_15) rfl ?_
  refine Own.iload X1 hx (pc := 17) (hb hby at_17) rfl ?_
  refine Own.iconst X1 hx (pc := 19) (1 : Int32) (hb hby at_19) (by decide) ?_
  refine Own.ldc2J X1 hx hZ (pc := 20) hown (Wd hw 6 rfl) (hb hby at_20) ?_
  refine Own.callStatic X1 hx hZ (pc := 23) (y := (⟨"com/example/sprigdex/sprigdex/index/SegmentSizeReadablePinLaw", "pick", "(JIIIJ)J"⟩ : MethodName)) hown (Wd hw 1 rfl) (Wd hw 2 rfl) (Wd hw 3 rfl) (Wd hw 4 rfl) (by decide) 0 [(.long ev), (.int mode), (.int off), (.int (1 : Int32)), (.long (2147483647 : Int64))] [] (rm1 l Z a0 hw ev mode off (1 : Int32) (2147483647 : Int64) h0 n0 Z0 ) (by decide) (by decide) e1 (by rw [hml]; rfl) pd4 rfl rfl (Nat.le_of_eq rfl) (hb hby at_23) (by decide) (by decide) ?_
  intro T3 L3 v3 X3 hQ3
  obtain ⟨rfl, Nq3, e3⟩ := hQ3
  have N3 := Fr.app N1 Nq3
  show Own.Go p e below _ (T3.setTop (mkF m 26 #[.val (.long d), .second, .val (.long ev), .second, .val (.long t), .second, .val (.long xv), .second, .val (.int mode), .val (.int off), .val (.long dd2), .second, .unset, .unset, .unset, .unset, .unset, .unset, .unset, .unset] [(.long (if ((mode >>> ((1 : Int32) &&& 31)) &&& (1 : Int32)) = (0 : Int32) then ev else (((2147483647 : Int64) + ((off >>> (((2 : Int32) * (1 : Int32)) &&& 31)) &&& (3 : Int32)).toInt64) - (2 : Int64))))]))
  generalize qee4 : (if ((mode >>> ((1 : Int32) &&& 31)) &&& (1 : Int32)) = (0 : Int32) then ev else (((2147483647 : Int64) + ((off >>> (((2 : Int32) * (1 : Int32)) &&& 31)) &&& (3 : Int32)).toInt64) - (2 : Int64))) = ee4
  refine Own.lstore X3 hx (pc := 26) #[.val (.long d), .second, .val (.long ev), .second, .val (.long t), .second, .val (.long xv), .second, .val (.int mode), .val (.int off), .val (.long dd2), .second, .val (.long ee4), .second, .unset, .unset, .unset, .unset, .unset, .unset] (hb hby at_26) rfl ?_
  refine Own.lload X3 hx (pc := 28) (hb hby at_28) rfl ?_
  refine Own.iload X3 hx (pc := 30) (hb hby at_30) rfl ?_
  refine Own.iload X3 hx (pc := 32) (hb hby at_32) rfl ?_
  refine Own.iconst X3 hx (pc := 34) (2 : Int32) (hb hby at_34) (by decide) ?_
  refine Own.ldc2J X3 hx hZ (pc := 35) hown (Wd hw 6 rfl) (hb hby at_35) ?_
  refine Own.callStatic X3 hx hZ (pc := 38) (y := (⟨"com/example/sprigdex/sprigdex/index/SegmentSizeReadablePinLaw", "pick", "(JIIIJ)J"⟩ : MethodName)) hown (Wd hw 1 rfl) (Wd hw 2 rfl) (Wd hw 3 rfl) (Wd hw 4 rfl) (by decide) 0 [(.long t), (.int mode), (.int off), (.int (2 : Int32)), (.long (2147483647 : Int64))] [] (rm1 l Z a0 hw t mode off (2 : Int32) (2147483647 : Int64) h0 n0 Z0 ) (by decide) (by decide) e3 (by rw [hml]; rfl) pd4 rfl rfl (Nat.le_of_eq rfl) (hb hby at_38) (by decide) (by decide) ?_
  intro T5 L5 v5 X5 hQ5
  obtain ⟨rfl, Nq5, e5⟩ := hQ5
  have N5 := Fr.app N3 Nq5
  show Own.Go p e below _ (T5.setTop (mkF m 41 #[.val (.long d), .second, .val (.long ev), .second, .val (.long t), .second, .val (.long xv), .second, .val (.int mode), .val (.int off), .val (.long dd2), .second, .val (.long ee4), .second, .unset, .unset, .unset, .unset, .unset, .unset] [(.long (if ((mode >>> ((2 : Int32) &&& 31)) &&& (1 : Int32)) = (0 : Int32) then t else (((2147483647 : Int64) + ((off >>> (((2 : Int32) * (2 : Int32)) &&& 31)) &&& (3 : Int32)).toInt64) - (2 : Int64))))]))
  generalize qtt6 : (if ((mode >>> ((2 : Int32) &&& 31)) &&& (1 : Int32)) = (0 : Int32) then t else (((2147483647 : Int64) + ((off >>> (((2 : Int32) * (2 : Int32)) &&& 31)) &&& (3 : Int32)).toInt64) - (2 : Int64))) = tt6
  refine Own.lstore X5 hx (pc := 41) #[.val (.long d), .second, .val (.long ev), .second, .val (.long t), .second, .val (.long xv), .second, .val (.int mode), .val (.int off), .val (.long dd2), .second, .val (.long ee4), .second, .val (.long tt6), .second, .unset, .unset, .unset, .unset] (hb hby at_41) rfl ?_
  refine Own.lload X5 hx (pc := 43) (hb hby at_43) rfl ?_
  refine Own.iload X5 hx (pc := 45) (hb hby at_45) rfl ?_
  refine Own.iload X5 hx (pc := 47) (hb hby at_47) rfl ?_
  refine Own.iconst X5 hx (pc := 49) (3 : Int32) (hb hby at_49) (by decide) ?_
  refine Own.ldc2J X5 hx hZ (pc := 50) hown (Wd hw 6 rfl) (hb hby at_50) ?_
  refine Own.callStatic X5 hx hZ (pc := 53) (y := (⟨"com/example/sprigdex/sprigdex/index/SegmentSizeReadablePinLaw", "pick", "(JIIIJ)J"⟩ : MethodName)) hown (Wd hw 1 rfl) (Wd hw 2 rfl) (Wd hw 3 rfl) (Wd hw 4 rfl) (by decide) 0 [(.long xv), (.int mode), (.int off), (.int (3 : Int32)), (.long (2147483647 : Int64))] [] (rm1 l Z a0 hw xv mode off (3 : Int32) (2147483647 : Int64) h0 n0 Z0 ) (by decide) (by decide) e5 (by rw [hml]; rfl) pd4 rfl rfl (Nat.le_of_eq rfl) (hb hby at_53) (by decide) (by decide) ?_
  intro T7 L7 v7 X7 hQ7
  obtain ⟨rfl, Nq7, e7⟩ := hQ7
  have N7 := Fr.app N5 Nq7
  show Own.Go p e below _ (T7.setTop (mkF m 56 #[.val (.long d), .second, .val (.long ev), .second, .val (.long t), .second, .val (.long xv), .second, .val (.int mode), .val (.int off), .val (.long dd2), .second, .val (.long ee4), .second, .val (.long tt6), .second, .unset, .unset, .unset, .unset] [(.long (if ((mode >>> ((3 : Int32) &&& 31)) &&& (1 : Int32)) = (0 : Int32) then xv else (((2147483647 : Int64) + ((off >>> (((2 : Int32) * (3 : Int32)) &&& 31)) &&& (3 : Int32)).toInt64) - (2 : Int64))))]))
  generalize qxx8 : (if ((mode >>> ((3 : Int32) &&& 31)) &&& (1 : Int32)) = (0 : Int32) then xv else (((2147483647 : Int64) + ((off >>> (((2 : Int32) * (3 : Int32)) &&& 31)) &&& (3 : Int32)).toInt64) - (2 : Int64))) = xx8
  refine Own.lstore X7 hx (pc := 56) #[.val (.long d), .second, .val (.long ev), .second, .val (.long t), .second, .val (.long xv), .second, .val (.int mode), .val (.int off), .val (.long dd2), .second, .val (.long ee4), .second, .val (.long tt6), .second, .val (.long xx8), .second, .unset, .unset] (hb hby at_56) rfl ?_
  refine Own.newobj X7 hx hZ (pc := 58) hown (Wd hw 7 rfl) (Wd hw 8 rfl) (Wd hw 9 rfl) e7 (hb hby at_58) (by decide) (by decide) ?_
  intro T9 h9 b9 g9 X9 e9 Ex9 E_b9 D9
  have ge_b9 : n0 ≤ b9 := g9 ▸ Z0
  have sz9 : n0 ≤ h9.size := Nat.le_trans Z0 Ex9.1
  have F_b9_documentBytes : Fld Z h9 b9 "com/example/sprigdex/sprigdex/index/SegmentSize" "documentBytes" "J" (.long (0 : Int64)) := D9 (Or.inr (Wd hw 22 rfl)) (ty := .long) (by decide)
  have F_b9_elementBytes : Fld Z h9 b9 "com/example/sprigdex/sprigdex/index/SegmentSize" "elementBytes" "J" (.long (0 : Int64)) := D9 (Or.inr (Wd hw 24 rfl)) (ty := .long) (by decide)
  have F_b9_termBytes : Fld Z h9 b9 "com/example/sprigdex/sprigdex/index/SegmentSize" "termBytes" "J" (.long (0 : Int64)) := D9 (Or.inr (Wd hw 26 rfl)) (ty := .long) (by decide)
  have F_b9_termTextBytes : Fld Z h9 b9 "com/example/sprigdex/sprigdex/index/SegmentSize" "termTextBytes" "J" (.long (0 : Int64)) := D9 (Or.inr (Wd hw 28 rfl)) (ty := .long) (by decide)
  refine Own.dup X9 hx (pc := 61) (hb hby at_61) rfl ?_
  refine Own.lload X9 hx (pc := 62) (hb hby at_62) rfl ?_
  refine Own.lload X9 hx (pc := 64) (hb hby at_64) rfl ?_
  refine Own.lload X9 hx (pc := 66) (hb hby at_66) rfl ?_
  refine Own.lload X9 hx (pc := 68) (hb hby at_68) rfl ?_
  refine Own.callSpecial X9 hx hZ (pc := 70) (y := (⟨"com/example/sprigdex/sprigdex/index/SegmentSize", "<init>", "(JJJJ)V"⟩ : MethodName)) rfl hown (Wd hw 10 rfl) (Wd hw 11 rfl) (Wd hw 9 rfl) (Wd hw 12 rfl) (by decide) 1 b9 [(.long dd2), (.long ee4), (.long tt6), (.long xx8)] [(.ref b9)] (rm2 l Z a0 hw b9 dd2 ee4 tt6 xx8 h9 n0 sz9 E_b9 F_b9_documentBytes F_b9_elementBytes F_b9_termBytes F_b9_termTextBytes ge_b9) (by decide) (by decide) e9 (by rw [hml]; rfl) pd5 rfl rfl (Nat.le_of_eq rfl) (hb hby at_70) (by decide) (by decide) ?_
  intro T10 L10 v10 X10 hQ10
  obtain ⟨rfl, Nq10, K10, F_b9_documentBytes', F_b9_elementBytes', F_b9_termBytes', F_b9_termTextBytes'⟩ := hQ10
  have e10 : T10.heap = T10.heap := rfl
  have E_b9 := E_b9.keep K10
  have sz10 : n0 ≤ T10.heap.size := Nat.le_trans sz9 K10.1
  have F_b9_documentBytes := F_b9_documentBytes'
  have F_b9_elementBytes := F_b9_elementBytes'
  have F_b9_termBytes := F_b9_termBytes'
  have F_b9_termTextBytes := F_b9_termTextBytes'
  have N10 := Fr.app N7 Nq10
  show Own.Go p e below _ (T10.setTop (mkF m 73 #[.val (.long d), .second, .val (.long ev), .second, .val (.long t), .second, .val (.long xv), .second, .val (.int mode), .val (.int off), .val (.long dd2), .second, .val (.long ee4), .second, .val (.long tt6), .second, .val (.long xx8), .second, .unset, .unset] [(.ref b9)]))
  refine Own.astore X10 hx (pc := 73) #[.val (.long d), .second, .val (.long ev), .second, .val (.long t), .second, .val (.long xv), .second, .val (.int mode), .val (.int off), .val (.long dd2), .second, .val (.long ee4), .second, .val (.long tt6), .second, .val (.long xx8), .second, .val (.ref b9), .unset] (hb hby at_73) rfl rfl ?_
  refine Own.lload X10 hx (pc := 75) (hb hby at_75) rfl ?_
  refine Own.callStatic X10 hx hZ (pc := 77) (y := (⟨"com/example/sprigdex/sprigdex/index/SegmentSizeReadablePinLaw", "fitsWhole", "(J)Z"⟩ : MethodName)) hown (Wd hw 29 rfl) (Wd hw 30 rfl) (Wd hw 3 rfl) (Wd hw 31 rfl) (by decide) 0 [(.long dd2)] [] (rm5 l Z a0 hw dd2 T10.heap n0 sz10 ) (by decide) (by decide) e10 (by rw [hml]; rfl) pd6 rfl rfl (Nat.le_of_eq rfl) (hb hby at_77) (by decide) (by decide) ?_
  intro T11 L11 v11 X11 hQ11
  obtain ⟨rfl, Nq11, e11⟩ := hQ11
  have N11 := Fr.app N10 Nq11
  show Own.Go p e below _ (T11.setTop (mkF m 80 #[.val (.long d), .second, .val (.long ev), .second, .val (.long t), .second, .val (.long xv), .second, .val (.int mode), .val (.int off), .val (.long dd2), .second, .val (.long ee4), .second, .val (.long tt6), .second, .val (.long xx8), .second, .val (.ref b9), .unset] [(.int (if dd2 < (2147483640 : Int64) then (1 : Int32) else 0))]))
  by_cases c12 : dd2 < (2147483640 : Int64)
  · rw [if_pos c12]
    refine Own.ifNo X11 hx (pc := 80) (hb hby at_80) (by decide) ?_
    refine Own.lload X11 hx (pc := 83) (hb hby at_83) rfl ?_
    refine Own.callStatic X11 hx hZ (pc := 85) (y := (⟨"com/example/sprigdex/sprigdex/index/SegmentSizeReadablePinLaw", "fitsMapped", "(J)Z"⟩ : MethodName)) hown (Wd hw 33 rfl) (Wd hw 34 rfl) (Wd hw 3 rfl) (Wd hw 35 rfl) (by decide) 0 [(.long ee4)] [] (rm6 l Z a0 hw ee4 T10.heap n0 sz10 ) (by decide) (by decide) e11 (by rw [hml]; rfl) pd6 rfl rfl (Nat.le_of_eq rfl) (hb hby at_85) (by decide) (by decide) ?_
    intro T13 L13 v13 X13 hQ13
    obtain ⟨rfl, Nq13, e13⟩ := hQ13
    have N13 := Fr.app N11 Nq13
    show Own.Go p e below _ (T13.setTop (mkF m 88 #[.val (.long d), .second, .val (.long ev), .second, .val (.long t), .second, .val (.long xv), .second, .val (.int mode), .val (.int off), .val (.long dd2), .second, .val (.long ee4), .second, .val (.long tt6), .second, .val (.long xx8), .second, .val (.ref b9), .unset] [(.int (if (ee4 < (0 : Int64) ∨ XT.ushrL ee4 (31 : Int32) = (0 : Int64)) then (1 : Int32) else 0))]))
    by_cases c14 : (ee4 < (0 : Int64) ∨ XT.ushrL ee4 (31 : Int32) = (0 : Int64))
    · rw [if_pos c14]
      refine Own.ifNo X13 hx (pc := 88) (hb hby at_88) (by decide) ?_
      refine Own.lload X13 hx (pc := 91) (hb hby at_91) rfl ?_
      refine Own.callStatic X13 hx hZ (pc := 93) (y := (⟨"com/example/sprigdex/sprigdex/index/SegmentSizeReadablePinLaw", "fitsMapped", "(J)Z"⟩ : MethodName)) hown (Wd hw 33 rfl) (Wd hw 34 rfl) (Wd hw 3 rfl) (Wd hw 35 rfl) (by decide) 0 [(.long tt6)] [] (rm6 l Z a0 hw tt6 T10.heap n0 sz10 ) (by decide) (by decide) e13 (by rw [hml]; rfl) pd6 rfl rfl (Nat.le_of_eq rfl) (hb hby at_93) (by decide) (by decide) ?_
      intro T15 L15 v15 X15 hQ15
      obtain ⟨rfl, Nq15, e15⟩ := hQ15
      have N15 := Fr.app N13 Nq15
      show Own.Go p e below _ (T15.setTop (mkF m 96 #[.val (.long d), .second, .val (.long ev), .second, .val (.long t), .second, .val (.long xv), .second, .val (.int mode), .val (.int off), .val (.long dd2), .second, .val (.long ee4), .second, .val (.long tt6), .second, .val (.long xx8), .second, .val (.ref b9), .unset] [(.int (if (tt6 < (0 : Int64) ∨ XT.ushrL tt6 (31 : Int32) = (0 : Int64)) then (1 : Int32) else 0))]))
      by_cases c16 : (tt6 < (0 : Int64) ∨ XT.ushrL tt6 (31 : Int32) = (0 : Int64))
      · rw [if_pos c16]
        refine Own.ifNo X15 hx (pc := 96) (hb hby at_96) (by decide) ?_
        refine Own.lload X15 hx (pc := 99) (hb hby at_99) rfl ?_
        refine Own.callStatic X15 hx hZ (pc := 101) (y := (⟨"com/example/sprigdex/sprigdex/index/SegmentSizeReadablePinLaw", "fitsMapped", "(J)Z"⟩ : MethodName)) hown (Wd hw 33 rfl) (Wd hw 34 rfl) (Wd hw 3 rfl) (Wd hw 35 rfl) (by decide) 0 [(.long xx8)] [] (rm6 l Z a0 hw xx8 T10.heap n0 sz10 ) (by decide) (by decide) e15 (by rw [hml]; rfl) pd6 rfl rfl (Nat.le_of_eq rfl) (hb hby at_101) (by decide) (by decide) ?_
        intro T17 L17 v17 X17 hQ17
        obtain ⟨rfl, Nq17, e17⟩ := hQ17
        have N17 := Fr.app N15 Nq17
        show Own.Go p e below _ (T17.setTop (mkF m 104 #[.val (.long d), .second, .val (.long ev), .second, .val (.long t), .second, .val (.long xv), .second, .val (.int mode), .val (.int off), .val (.long dd2), .second, .val (.long ee4), .second, .val (.long tt6), .second, .val (.long xx8), .second, .val (.ref b9), .unset] [(.int (if (xx8 < (0 : Int64) ∨ XT.ushrL xx8 (31 : Int32) = (0 : Int64)) then (1 : Int32) else 0))]))
        by_cases c18 : (xx8 < (0 : Int64) ∨ XT.ushrL xx8 (31 : Int32) = (0 : Int64))
        · rw [if_pos c18]
          refine Own.ifNo X17 hx (pc := 104) (hb hby at_104) (by decide) ?_
          refine Own.iconst X17 hx (pc := 107) (1 : Int32) (hb hby at_107) (by decide) ?_
          refine Own.goto X17 hx (pc := 108) 112 (hb hby at_108) (by decide) (by decide) ?_
          refine Own.istore X17 hx (pc := 112) #[.val (.long d), .second, .val (.long ev), .second, .val (.long t), .second, .val (.long xv), .second, .val (.int mode), .val (.int off), .val (.long dd2), .second, .val (.long ee4), .second, .val (.long tt6), .second, .val (.long xx8), .second, .val (.ref b9), .val (.int (1 : Int32))] (hb hby at_112) rfl ?_
          refine Own.aload X17 hx (pc := 114) (hb hby at_114) rfl rfl ?_
          refine Own.callVirtual X17 hx hZ (pc := 116) (y := (⟨"com/example/sprigdex/sprigdex/index/SegmentSize", "readable", "()Z"⟩ : MethodName)) (z := (⟨"com/example/sprigdex/sprigdex/index/SegmentSize", "readable", "()Z"⟩ : MethodName)) hown (Wd hw 36 rfl) (Wd hw 37 rfl) (Wd hw 39 rfl) (Wd hw 38 rfl) (Wd hw 9 rfl) (Wd hw 40 rfl) (Wd hw 39 rfl) (by decide) 0 b9 [] [] E_b9 (rm7 l Z a0 hw b9 dd2 ee4 tt6 xx8 T10.heap n0 sz10 F_b9_documentBytes F_b9_elementBytes F_b9_termBytes F_b9_termTextBytes) (by decide) (by decide) e17 (by rw [hml]; rfl) pd7 rfl rfl (Nat.le_of_eq rfl) (hb hby at_116) (by decide) (by decide) ?_
          intro T19 L19 v19 X19 hQ19
          obtain ⟨rfl, Nq19, e19⟩ := hQ19
          have N19 := Fr.app N17 Nq19
          show Own.Go p e below _ (T19.setTop (mkF m 119 #[.val (.long d), .second, .val (.long ev), .second, .val (.long t), .second, .val (.long xv), .second, .val (.int mode), .val (.int off), .val (.long dd2), .second, .val (.long ee4), .second, .val (.long tt6), .second, .val (.long xx8), .second, .val (.ref b9), .val (.int (1 : Int32))] [(.int (if ((¬ (2147483639 : Int64) < dd2) ∧ (¬ (2147483647 : Int64) < ee4) ∧ (¬ (2147483647 : Int64) < tt6) ∧ ¬ (2147483647 : Int64) < xx8) then (1 : Int32) else 0))]))
          refine Own.iload X19 hx (pc := 119) (hb hby at_119) rfl ?_
          by_cases c20 : ((¬ (2147483639 : Int64) < dd2) ∧ (¬ (2147483647 : Int64) < ee4) ∧ (¬ (2147483647 : Int64) < tt6) ∧ ¬ (2147483647 : Int64) < xx8)
          · rw [if_pos c20]
            refine Own.icmpNo X19 hx (pc := 121) (hb hby at_121) (by decide) ?_
            refine Own.iconst X19 hx (pc := 124) (1 : Int32) (hb hby at_124) (by decide) ?_
            refine Own.goto X19 hx (pc := 125) 129 (hb hby at_125) (by decide) (by decide) ?_
            exact Own.ireturn X19 hx hk hret (by simp) rfl (hb hby at_129) e19 ⟨rfl, N19⟩ (by decide) (by decide)
          · rw [if_neg c20]
            refine Own.icmpYes X19 hx (pc := 121) 128 (hb hby at_121) (by decide) (by decide) (by decide) ?_
            refine Own.iconst X19 hx (pc := 128) (0 : Int32) (hb hby at_128) (by decide) ?_
            rw [own_whole] at c12
            rw [own_mapped] at c14
            rw [own_mapped] at c16
            rw [own_mapped] at c18
            exfalso
            simp [c12, c14, c16, c18] at c20
        · rw [if_neg c18]
          refine Own.ifYes X17 hx (pc := 104) 111 (hb hby at_104) (by decide) (by decide) (by decide) ?_
          refine Own.iconst X17 hx (pc := 111) (0 : Int32) (hb hby at_111) (by decide) ?_
          refine Own.istore X17 hx (pc := 112) #[.val (.long d), .second, .val (.long ev), .second, .val (.long t), .second, .val (.long xv), .second, .val (.int mode), .val (.int off), .val (.long dd2), .second, .val (.long ee4), .second, .val (.long tt6), .second, .val (.long xx8), .second, .val (.ref b9), .val (.int (0 : Int32))] (hb hby at_112) rfl ?_
          refine Own.aload X17 hx (pc := 114) (hb hby at_114) rfl rfl ?_
          refine Own.callVirtual X17 hx hZ (pc := 116) (y := (⟨"com/example/sprigdex/sprigdex/index/SegmentSize", "readable", "()Z"⟩ : MethodName)) (z := (⟨"com/example/sprigdex/sprigdex/index/SegmentSize", "readable", "()Z"⟩ : MethodName)) hown (Wd hw 36 rfl) (Wd hw 37 rfl) (Wd hw 39 rfl) (Wd hw 38 rfl) (Wd hw 9 rfl) (Wd hw 40 rfl) (Wd hw 39 rfl) (by decide) 0 b9 [] [] E_b9 (rm7 l Z a0 hw b9 dd2 ee4 tt6 xx8 T10.heap n0 sz10 F_b9_documentBytes F_b9_elementBytes F_b9_termBytes F_b9_termTextBytes) (by decide) (by decide) e17 (by rw [hml]; rfl) pd7 rfl rfl (Nat.le_of_eq rfl) (hb hby at_116) (by decide) (by decide) ?_
          intro T21 L21 v21 X21 hQ21
          obtain ⟨rfl, Nq21, e21⟩ := hQ21
          have N21 := Fr.app N17 Nq21
          show Own.Go p e below _ (T21.setTop (mkF m 119 #[.val (.long d), .second, .val (.long ev), .second, .val (.long t), .second, .val (.long xv), .second, .val (.int mode), .val (.int off), .val (.long dd2), .second, .val (.long ee4), .second, .val (.long tt6), .second, .val (.long xx8), .second, .val (.ref b9), .val (.int (0 : Int32))] [(.int (if ((¬ (2147483639 : Int64) < dd2) ∧ (¬ (2147483647 : Int64) < ee4) ∧ (¬ (2147483647 : Int64) < tt6) ∧ ¬ (2147483647 : Int64) < xx8) then (1 : Int32) else 0))]))
          refine Own.iload X21 hx (pc := 119) (hb hby at_119) rfl ?_
          by_cases c22 : ((¬ (2147483639 : Int64) < dd2) ∧ (¬ (2147483647 : Int64) < ee4) ∧ (¬ (2147483647 : Int64) < tt6) ∧ ¬ (2147483647 : Int64) < xx8)
          · rw [if_pos c22]
            refine Own.icmpYes X21 hx (pc := 121) 128 (hb hby at_121) (by decide) (by decide) (by decide) ?_
            refine Own.iconst X21 hx (pc := 128) (0 : Int32) (hb hby at_128) (by decide) ?_
            rw [own_whole] at c12
            rw [own_mapped] at c14
            rw [own_mapped] at c16
            rw [own_mapped] at c18
            exfalso
            simp [c12, c14, c16, c18] at c22
          · rw [if_neg c22]
            refine Own.icmpNo X21 hx (pc := 121) (hb hby at_121) (by decide) ?_
            refine Own.iconst X21 hx (pc := 124) (1 : Int32) (hb hby at_124) (by decide) ?_
            refine Own.goto X21 hx (pc := 125) 129 (hb hby at_125) (by decide) (by decide) ?_
            exact Own.ireturn X21 hx hk hret (by simp) rfl (hb hby at_129) e21 ⟨rfl, N21⟩ (by decide) (by decide)
      · rw [if_neg c16]
        refine Own.ifYes X15 hx (pc := 96) 111 (hb hby at_96) (by decide) (by decide) (by decide) ?_
        refine Own.iconst X15 hx (pc := 111) (0 : Int32) (hb hby at_111) (by decide) ?_
        refine Own.istore X15 hx (pc := 112) #[.val (.long d), .second, .val (.long ev), .second, .val (.long t), .second, .val (.long xv), .second, .val (.int mode), .val (.int off), .val (.long dd2), .second, .val (.long ee4), .second, .val (.long tt6), .second, .val (.long xx8), .second, .val (.ref b9), .val (.int (0 : Int32))] (hb hby at_112) rfl ?_
        refine Own.aload X15 hx (pc := 114) (hb hby at_114) rfl rfl ?_
        refine Own.callVirtual X15 hx hZ (pc := 116) (y := (⟨"com/example/sprigdex/sprigdex/index/SegmentSize", "readable", "()Z"⟩ : MethodName)) (z := (⟨"com/example/sprigdex/sprigdex/index/SegmentSize", "readable", "()Z"⟩ : MethodName)) hown (Wd hw 36 rfl) (Wd hw 37 rfl) (Wd hw 39 rfl) (Wd hw 38 rfl) (Wd hw 9 rfl) (Wd hw 40 rfl) (Wd hw 39 rfl) (by decide) 0 b9 [] [] E_b9 (rm7 l Z a0 hw b9 dd2 ee4 tt6 xx8 T10.heap n0 sz10 F_b9_documentBytes F_b9_elementBytes F_b9_termBytes F_b9_termTextBytes) (by decide) (by decide) e15 (by rw [hml]; rfl) pd7 rfl rfl (Nat.le_of_eq rfl) (hb hby at_116) (by decide) (by decide) ?_
        intro T23 L23 v23 X23 hQ23
        obtain ⟨rfl, Nq23, e23⟩ := hQ23
        have N23 := Fr.app N15 Nq23
        show Own.Go p e below _ (T23.setTop (mkF m 119 #[.val (.long d), .second, .val (.long ev), .second, .val (.long t), .second, .val (.long xv), .second, .val (.int mode), .val (.int off), .val (.long dd2), .second, .val (.long ee4), .second, .val (.long tt6), .second, .val (.long xx8), .second, .val (.ref b9), .val (.int (0 : Int32))] [(.int (if ((¬ (2147483639 : Int64) < dd2) ∧ (¬ (2147483647 : Int64) < ee4) ∧ (¬ (2147483647 : Int64) < tt6) ∧ ¬ (2147483647 : Int64) < xx8) then (1 : Int32) else 0))]))
        refine Own.iload X23 hx (pc := 119) (hb hby at_119) rfl ?_
        by_cases c24 : ((¬ (2147483639 : Int64) < dd2) ∧ (¬ (2147483647 : Int64) < ee4) ∧ (¬ (2147483647 : Int64) < tt6) ∧ ¬ (2147483647 : Int64) < xx8)
        · rw [if_pos c24]
          refine Own.icmpYes X23 hx (pc := 121) 128 (hb hby at_121) (by decide) (by decide) (by decide) ?_
          refine Own.iconst X23 hx (pc := 128) (0 : Int32) (hb hby at_128) (by decide) ?_
          rw [own_whole] at c12
          rw [own_mapped] at c14
          rw [own_mapped] at c16
          exfalso
          simp [c12, c14, c16] at c24
        · rw [if_neg c24]
          refine Own.icmpNo X23 hx (pc := 121) (hb hby at_121) (by decide) ?_
          refine Own.iconst X23 hx (pc := 124) (1 : Int32) (hb hby at_124) (by decide) ?_
          refine Own.goto X23 hx (pc := 125) 129 (hb hby at_125) (by decide) (by decide) ?_
          exact Own.ireturn X23 hx hk hret (by simp) rfl (hb hby at_129) e23 ⟨rfl, N23⟩ (by decide) (by decide)
    · rw [if_neg c14]
      refine Own.ifYes X13 hx (pc := 88) 111 (hb hby at_88) (by decide) (by decide) (by decide) ?_
      refine Own.iconst X13 hx (pc := 111) (0 : Int32) (hb hby at_111) (by decide) ?_
      refine Own.istore X13 hx (pc := 112) #[.val (.long d), .second, .val (.long ev), .second, .val (.long t), .second, .val (.long xv), .second, .val (.int mode), .val (.int off), .val (.long dd2), .second, .val (.long ee4), .second, .val (.long tt6), .second, .val (.long xx8), .second, .val (.ref b9), .val (.int (0 : Int32))] (hb hby at_112) rfl ?_
      refine Own.aload X13 hx (pc := 114) (hb hby at_114) rfl rfl ?_
      refine Own.callVirtual X13 hx hZ (pc := 116) (y := (⟨"com/example/sprigdex/sprigdex/index/SegmentSize", "readable", "()Z"⟩ : MethodName)) (z := (⟨"com/example/sprigdex/sprigdex/index/SegmentSize", "readable", "()Z"⟩ : MethodName)) hown (Wd hw 36 rfl) (Wd hw 37 rfl) (Wd hw 39 rfl) (Wd hw 38 rfl) (Wd hw 9 rfl) (Wd hw 40 rfl) (Wd hw 39 rfl) (by decide) 0 b9 [] [] E_b9 (rm7 l Z a0 hw b9 dd2 ee4 tt6 xx8 T10.heap n0 sz10 F_b9_documentBytes F_b9_elementBytes F_b9_termBytes F_b9_termTextBytes) (by decide) (by decide) e13 (by rw [hml]; rfl) pd7 rfl rfl (Nat.le_of_eq rfl) (hb hby at_116) (by decide) (by decide) ?_
      intro T25 L25 v25 X25 hQ25
      obtain ⟨rfl, Nq25, e25⟩ := hQ25
      have N25 := Fr.app N13 Nq25
      show Own.Go p e below _ (T25.setTop (mkF m 119 #[.val (.long d), .second, .val (.long ev), .second, .val (.long t), .second, .val (.long xv), .second, .val (.int mode), .val (.int off), .val (.long dd2), .second, .val (.long ee4), .second, .val (.long tt6), .second, .val (.long xx8), .second, .val (.ref b9), .val (.int (0 : Int32))] [(.int (if ((¬ (2147483639 : Int64) < dd2) ∧ (¬ (2147483647 : Int64) < ee4) ∧ (¬ (2147483647 : Int64) < tt6) ∧ ¬ (2147483647 : Int64) < xx8) then (1 : Int32) else 0))]))
      refine Own.iload X25 hx (pc := 119) (hb hby at_119) rfl ?_
      by_cases c26 : ((¬ (2147483639 : Int64) < dd2) ∧ (¬ (2147483647 : Int64) < ee4) ∧ (¬ (2147483647 : Int64) < tt6) ∧ ¬ (2147483647 : Int64) < xx8)
      · rw [if_pos c26]
        refine Own.icmpYes X25 hx (pc := 121) 128 (hb hby at_121) (by decide) (by decide) (by decide) ?_
        refine Own.iconst X25 hx (pc := 128) (0 : Int32) (hb hby at_128) (by decide) ?_
        rw [own_whole] at c12
        rw [own_mapped] at c14
        exfalso
        simp [c12, c14] at c26
      · rw [if_neg c26]
        refine Own.icmpNo X25 hx (pc := 121) (hb hby at_121) (by decide) ?_
        refine Own.iconst X25 hx (pc := 124) (1 : Int32) (hb hby at_124) (by decide) ?_
        refine Own.goto X25 hx (pc := 125) 129 (hb hby at_125) (by decide) (by decide) ?_
        exact Own.ireturn X25 hx hk hret (by simp) rfl (hb hby at_129) e25 ⟨rfl, N25⟩ (by decide) (by decide)
  · rw [if_neg c12]
    refine Own.ifYes X11 hx (pc := 80) 111 (hb hby at_80) (by decide) (by decide) (by decide) ?_
    refine Own.iconst X11 hx (pc := 111) (0 : Int32) (hb hby at_111) (by decide) ?_
    refine Own.istore X11 hx (pc := 112) #[.val (.long d), .second, .val (.long ev), .second, .val (.long t), .second, .val (.long xv), .second, .val (.int mode), .val (.int off), .val (.long dd2), .second, .val (.long ee4), .second, .val (.long tt6), .second, .val (.long xx8), .second, .val (.ref b9), .val (.int (0 : Int32))] (hb hby at_112) rfl ?_
    refine Own.aload X11 hx (pc := 114) (hb hby at_114) rfl rfl ?_
    refine Own.callVirtual X11 hx hZ (pc := 116) (y := (⟨"com/example/sprigdex/sprigdex/index/SegmentSize", "readable", "()Z"⟩ : MethodName)) (z := (⟨"com/example/sprigdex/sprigdex/index/SegmentSize", "readable", "()Z"⟩ : MethodName)) hown (Wd hw 36 rfl) (Wd hw 37 rfl) (Wd hw 39 rfl) (Wd hw 38 rfl) (Wd hw 9 rfl) (Wd hw 40 rfl) (Wd hw 39 rfl) (by decide) 0 b9 [] [] E_b9 (rm7 l Z a0 hw b9 dd2 ee4 tt6 xx8 T10.heap n0 sz10 F_b9_documentBytes F_b9_elementBytes F_b9_termBytes F_b9_termTextBytes) (by decide) (by decide) e11 (by rw [hml]; rfl) pd7 rfl rfl (Nat.le_of_eq rfl) (hb hby at_116) (by decide) (by decide) ?_
    intro T27 L27 v27 X27 hQ27
    obtain ⟨rfl, Nq27, e27⟩ := hQ27
    have N27 := Fr.app N11 Nq27
    show Own.Go p e below _ (T27.setTop (mkF m 119 #[.val (.long d), .second, .val (.long ev), .second, .val (.long t), .second, .val (.long xv), .second, .val (.int mode), .val (.int off), .val (.long dd2), .second, .val (.long ee4), .second, .val (.long tt6), .second, .val (.long xx8), .second, .val (.ref b9), .val (.int (0 : Int32))] [(.int (if ((¬ (2147483639 : Int64) < dd2) ∧ (¬ (2147483647 : Int64) < ee4) ∧ (¬ (2147483647 : Int64) < tt6) ∧ ¬ (2147483647 : Int64) < xx8) then (1 : Int32) else 0))]))
    refine Own.iload X27 hx (pc := 119) (hb hby at_119) rfl ?_
    by_cases c28 : ((¬ (2147483639 : Int64) < dd2) ∧ (¬ (2147483647 : Int64) < ee4) ∧ (¬ (2147483647 : Int64) < tt6) ∧ ¬ (2147483647 : Int64) < xx8)
    · rw [if_pos c28]
      refine Own.icmpYes X27 hx (pc := 121) 128 (hb hby at_121) (by decide) (by decide) (by decide) ?_
      refine Own.iconst X27 hx (pc := 128) (0 : Int32) (hb hby at_128) (by decide) ?_
      rw [own_whole] at c12
      exfalso
      simp [c12] at c28
    · rw [if_neg c28]
      refine Own.icmpNo X27 hx (pc := 121) (hb hby at_121) (by decide) ?_
      refine Own.iconst X27 hx (pc := 124) (1 : Int32) (hb hby at_124) (by decide) ?_
      refine Own.goto X27 hx (pc := 125) 129 (hb hby at_125) (by decide) (by decide) ?_
      exact Own.ireturn X27 hx hk hret (by simp) rfl (hb hby at_129) e27 ⟨rfl, N27⟩ (by decide) (by decide)
set_option maxRecDepth 65536 in
set_option maxHeartbeats 40000000 in
theorem comes_1 {Post : Tables → Env → Array Value → State → Outcome → State → Prop} (hpost : ∀ tb e args s v u, (limb_1_1.after args s (.returned v) u = true ∧ limb_1_2.after args s (.returned v) u = true ∧ True) → FrameEnd s (.returned v) u (Jvm.fieldLocs frame_1_writes args s ++ Jvm.arrayLocs frame_1_arrays args s ++ Jvm.staticLocs frame_1_statics s) 16 128 → Post tb e args s (.returned v) u) :
    ArmFor flags0 classFile x code maxLocals ret World_1 tables_1 room_1 Calls_1 rest_1 Pre_1 Post := by
  intro l hfl _ _ p e ha hc hk s m args below hf hA hF happ hP
  obtain ⟨hcalls, hrest, hpre⟩ := hP
  obtain ⟨-, -, -, hnamed, -, -, -, hat⟩ := (Spec.applies_iff hf).mp happ
  obtain ⟨hg, hn⟩ := and_e (Cond.before_iff.mp (show (Jvm.Cond.and given_1 narrow_1).before args s = true from hpre))
  obtain ⟨hcount, r0⟩ := and_e hg
  obtain ⟨g0, r1⟩ := and_e r0
  obtain ⟨g1, r2⟩ := and_e r1
  obtain ⟨g2, r3⟩ := and_e r2
  obtain ⟨g3, r4⟩ := and_e r3
  obtain ⟨g4, r5⟩ := and_e r4
  obtain ⟨w0, w1, w2, w3, w4, w5, rfl⟩ : ∃ w0 w1 w2 w3 w4 w5 : Value, args = #[w0, w1, w2, w3, w4, w5] := by
    have hs : args.size = 6 := by simpa [Cond.value, given_1] using hcount
    obtain ⟨L⟩ := args
    match L, hs with
    | [w0, w1, w2, w3, w4, w5], _ => exact ⟨w0, w1, w2, w3, w4, w5, rfl⟩
  have hw := fun d (hd : d ∈ tables_1) => atoms_spec (ws := Jvm.Cond.code x code maxLocals ret :: tables_1) hat d (List.mem_cons_of_mem _ hd)
  obtain ⟨i0, e0⟩ := isL_v g0
  obtain rfl : w0 = (.long i0) := Option.some.inj e0
  obtain ⟨i1, e1⟩ := isL_v g1
  obtain rfl : w1 = (.long i1) := Option.some.inj e1
  obtain ⟨i2, e2⟩ := isL_v g2
  obtain rfl : w2 = (.long i2) := Option.some.inj e2
  obtain ⟨i3, e3⟩ := isL_v g3
  obtain rfl : w3 = (.long i3) := Option.some.inj e3
  obtain ⟨i4, e4⟩ := is_v g4
  obtain rfl : w4 = (.int i4) := Option.some.inj e4
  obtain ⟨i5, e5⟩ := is_v r5
  obtain rfl : w5 = (.int i5) := Option.some.inj e5
  obtain ⟨n, o, h1, h2, h3, _, L, rfl, ⟨rfl, N⟩, hq⟩ := rm0 l s _ hw i0 i1 i2 i3 i4 i5 s.heap s.heap.size (Nat.le_refl _) p e ha hc hk s m _ below hf ((Spec.applies_iff_loose hf).mp happ).1 ⟨rfl, State.Warmed39.refl s, rfl⟩ trivial
  refine ⟨n, _, h1, h2, h3, hpost _ _ _ _ _ _ ⟨Cond.after_iff.mpr rfl, Cond.after_iff.mpr (eq_i res_at (Term.int_eval (1)) rfl), trivial⟩ ⟨hq.1, hq.2.1, (hq.2.2.sift fun y hy => Or.inr (N y hy)).mono (by decide) (by decide)⟩⟩
theorem main_1_1 : Claimed_1_1 := comes_1 fun _ _ _ _ _ _ h hF => ⟨h.1, hF⟩
theorem main_1_2 : Claimed_1_2 := comes_1 fun _ _ _ _ _ _ h hF => ⟨h.2.1, hF⟩
end Jvm.Pilot.@@N@@
namespace Jvm.Pilot.@@N@@
open Jvm Jvm.ClassFile Sem Op Lib Jvm.Free Jvm.Stand Jvm.Pilot.@@N@@.Jvm.D
/-! MADE BY PROGRAM (witnessworld.py) out of the Statement's table words and the real class files: 10 classes; the members and pool entries that the words name. The judged class is class 1, her method 4. -/
namespace start1
open Jvm.ClassFile
def u (s : String) : CpInfo := .utf8 (stringToUtf16 s)
/-- a pool by its gaps: so many unusable entries, then the entry; so many at the end -/
def gap : Nat → List CpInfo → List CpInfo
  | 0, r => r
  | n + 1, r => .unusable :: gap n r
def poolList (es : List (Nat × CpInfo)) (last : Nat) : List CpInfo := es.foldr (fun e r => gap e.1 (e.2 :: r)) (gap last [])
def pool (es : List (Nat × CpInfo)) (last : Nat) : Array CpInfo := ⟨poolList es last⟩
def fileOf (pool : Array CpInfo) (this : Nat) (attrs : Array Attribute := #[]) (ms : Array MethodInfo := #[]) (fl : Nat := 33) (sup : Nat := 0) (ifs : Array Nat := #[]) (fds : Array FieldInfo := #[]) : ClassFile where
  minorVersion := 0
  majorVersion := 65
  constantPool := pool
  accessFlags := fl
  thisClass := this
  superClass := sup
  interfaces := ifs
  fields := fds
  methods := ms
  attributes := attrs
def plain (name : String) (sup : Option ClassId) : Class where
  name := name
  kind := .ordinary
  loader := none
  accessFlags := 33
  super := sup
  interfaces := #[]
  cf := none
  fields := #[]
  methods := #[]
  instanceTypes := #[]
  staticTypes := #[]
  resolved := #[]
  callSites := []
  init := .initialized
  statics := none
  mirror := none

def pool0 : Array CpInfo := pool [(5, u "<init>"), (0, u "()V"), (1, .class_ 10), (1, u "java/lang/Object")] 113

def k0c0 : Code := { maxStack := 0, maxLocals := 1, code := object_method_1_code, exceptionTable := #[], attributes := #[] }
def k0m0 : Method := { name := "<init>", desc := "()V", sig := { parameters := [], returnType := none }, accessFlags := 1, code := some k0c0 }
/-- java/lang/Object -/
def k0 : Class := { plain "java/lang/Object" none with
  accessFlags := 33
  interfaces := #[]
  cf := some (fileOf pool0 8 #[] #[{ accessFlags := 1, nameIndex := 5, descriptorIndex := 6, attributes := #[] }] 33 0 #[] #[])
  fields := #[]
  methods := #[k0m0]
  instanceTypes := #[]
  staticTypes := #[]
  resolved := Array.replicate 124 none
  statics := none }

def pool1 : Array CpInfo := pool [(2, .class_ 4), (1, u "java/lang/Object"), (0, u "<init>"), (0, u "()V"), (0, .long 2), (1, .long 2147483640), (1, .long 2147483639), (1, .methodref 14 15), (0, .class_ 16), (0, .nameAndType 17 18), (0, u "com/example/sprigdex/sprigdex/index/SegmentSizeReadablePinLaw"), (0, u "pick"), (0, u "(JIIIJ)J"), (0, .long 2147483647), (1, .class_ 22), (0, u "com/example/sprigdex/sprigdex/index/SegmentSize"), (0, .methodref 21 24), (0, .nameAndType 5 25), (0, u "(JJJJ)V"), (0, .methodref 14 27), (0, .nameAndType 28 29), (0, u "fitsWhole"), (0, u "(J)Z"), (0, .methodref 14 31), (0, .nameAndType 32 29), (0, u "fitsMapped"), (0, .methodref 21 34), (0, .nameAndType 35 36), (0, u "readable"), (0, u "()Z"), (3, u "law"), (0, u "(JJJJII)Z")] 2

def k1m0 : Method := { name := "<init>", desc := "()V", sig := { parameters := [], returnType := none }, accessFlags := 2, code := none }
def k1c1 : Code := { maxStack := 5, maxLocals := 7, code := method_2_code, exceptionTable := #[], attributes := #[] }
def k1m1 : Method := { name := "pick", desc := "(JIIIJ)J", sig := { parameters := [.long, .int, .int, .int, .long], returnType := some .long }, accessFlags := 10, code := some k1c1 }
def k1c2 : Code := { maxStack := 4, maxLocals := 2, code := method_3_code, exceptionTable := #[], attributes := #[] }
def k1m2 : Method := { name := "fitsWhole", desc := "(J)Z", sig := { parameters := [.long], returnType := some .boolean }, accessFlags := 10, code := some k1c2 }
def k1c3 : Code := { maxStack := 4, maxLocals := 2, code := method_4_code, exceptionTable := #[], attributes := #[] }
def k1m3 : Method := { name := "fitsMapped", desc := "(J)Z", sig := { parameters := [.long], returnType := some .boolean }, accessFlags := 10, code := some k1c3 }
def k1c4 : Code := { maxStack := 10, maxLocals := 20, code := code, exceptionTable := #[], attributes := #[] }
def k1m4 : Method := { name := "law", desc := "(JJJJII)Z", sig := { parameters := [.long, .long, .long, .long, .int, .int], returnType := some .boolean }, accessFlags := 9, code := some k1c4 }
/-- com/example/sprigdex/sprigdex/index/SegmentSizeReadablePinLaw -/
def k1 : Class := { plain "com/example/sprigdex/sprigdex/index/SegmentSizeReadablePinLaw" (some 0) with
  accessFlags := 49
  interfaces := #[]
  cf := some (fileOf pool1 14 #[] #[{ accessFlags := 2, nameIndex := 5, descriptorIndex := 6, attributes := #[] }, { accessFlags := 10, nameIndex := 17, descriptorIndex := 18, attributes := #[] }, { accessFlags := 10, nameIndex := 28, descriptorIndex := 29, attributes := #[] }, { accessFlags := 10, nameIndex := 32, descriptorIndex := 29, attributes := #[] }, { accessFlags := 9, nameIndex := 40, descriptorIndex := 41, attributes := #[] }] 49 2 #[] #[])
  fields := #[]
  methods := #[k1m0, k1m1, k1m2, k1m3, k1m4]
  instanceTypes := #[]
  staticTypes := #[]
  resolved := Array.replicate 44 none
  statics := none }

def pool2 : Array CpInfo := pool [(1, .methodref 2 3), (0, .class_ 4), (0, .nameAndType 5 6), (0, u "java/lang/Object"), (0, u "<init>"), (0, u "()V"), (0, .class_ 8), (0, u "java/lang/Record")] 13

def k2c0 : Code := { maxStack := 1, maxLocals := 1, code := jdk_30_method_1_code, exceptionTable := #[], attributes := #[] }
def k2m0 : Method := { name := "<init>", desc := "()V", sig := { parameters := [], returnType := none }, accessFlags := 4, code := some k2c0 }
/-- java/lang/Record -/
def k2 : Class := { plain "java/lang/Record" (some 0) with
  accessFlags := 1057
  interfaces := #[]
  cf := some (fileOf pool2 7 #[] #[{ accessFlags := 4, nameIndex := 5, descriptorIndex := 6, attributes := #[] }] 1057 2 #[] #[])
  fields := #[]
  methods := #[k2m0]
  instanceTypes := #[]
  staticTypes := #[]
  resolved := Array.replicate 22 none
  statics := none }

def pool3 : Array CpInfo := pool [(1, .methodref 2 3), (0, .class_ 4), (0, .nameAndType 5 6), (0, u "java/lang/Record"), (0, u "<init>"), (0, u "()V"), (0, .fieldref 8 9), (0, .class_ 10), (0, .nameAndType 11 12), (0, u "com/example/sprigdex/sprigdex/index/SegmentSize"), (0, u "documentBytes"), (0, u "J"), (0, .fieldref 8 14), (0, .nameAndType 15 12), (0, u "elementBytes"), (0, .fieldref 8 17), (0, .nameAndType 18 12), (0, u "termBytes"), (0, .fieldref 8 20), (0, .nameAndType 21 12), (0, u "termTextBytes"), (2, u "(JJJJ)V"), (2, .long 2147483639), (1, .long 2147483647), (15, u "EMPTY"), (0, u "Lcom/example/sprigdex/sprigdex/index/SegmentSize;"), (5, u "readable"), (0, u "()Z")] 29

def k3c0 : Code := { maxStack := 3, maxLocals := 9, code := prog_100_method_1_code, exceptionTable := #[], attributes := #[] }
def k3m0 : Method := { name := "<init>", desc := "(JJJJ)V", sig := { parameters := [.long, .long, .long, .long], returnType := none }, accessFlags := 0, code := some k3c0 }
def k3c1 : Code := { maxStack := 4, maxLocals := 1, code := prog_100_method_3_code, exceptionTable := #[], attributes := #[] }
def k3m1 : Method := { name := "readable", desc := "()Z", sig := { parameters := [], returnType := some .boolean }, accessFlags := 0, code := some k3c1 }
/-- com/example/sprigdex/sprigdex/index/SegmentSize -/
def k3 : Class := { plain "com/example/sprigdex/sprigdex/index/SegmentSize" (some 2) with
  accessFlags := 48
  interfaces := #[]
  cf := some (fileOf pool3 8 #[] #[{ accessFlags := 0, nameIndex := 5, descriptorIndex := 24, attributes := #[] }, { accessFlags := 0, nameIndex := 52, descriptorIndex := 53, attributes := #[] }] 48 2 #[] #[{ accessFlags := 18, nameIndex := 11, descriptorIndex := 12, attributes := #[] }, { accessFlags := 18, nameIndex := 15, descriptorIndex := 12, attributes := #[] }, { accessFlags := 18, nameIndex := 18, descriptorIndex := 12, attributes := #[] }, { accessFlags := 18, nameIndex := 21, descriptorIndex := 12, attributes := #[] }, { accessFlags := 24, nameIndex := 45, descriptorIndex := 46, attributes := #[] }])
  fields := #[{ name := "documentBytes", type := .long, accessFlags := 18, slot := 0, constantValue := 0 }, { name := "elementBytes", type := .long, accessFlags := 18, slot := 1, constantValue := 0 }, { name := "termBytes", type := .long, accessFlags := 18, slot := 2, constantValue := 0 }, { name := "termTextBytes", type := .long, accessFlags := 18, slot := 3, constantValue := 0 }, { name := "EMPTY", type := (.object "com/example/sprigdex/sprigdex/index/SegmentSize"), accessFlags := 24, slot := 0, constantValue := 0 }]
  methods := #[k3m0, k3m1]
  instanceTypes := #[.long, .long, .long, .long]
  staticTypes := #[(.object "com/example/sprigdex/sprigdex/index/SegmentSize")]
  resolved := Array.replicate 83 none
  statics := none }

def pool4 : Array CpInfo := pool [(1, u "java/lang/Cloneable"), (0, .class_ 1), (0, u "java/lang/Object"), (0, .class_ 3)] 3

/-- java/lang/Cloneable -/
def k4 : Class := { plain "java/lang/Cloneable" (some 0) with
  accessFlags := 1537
  interfaces := #[]
  cf := some (fileOf pool4 2 #[] #[] 1537 4 #[] #[])
  fields := #[]
  methods := #[]
  instanceTypes := #[]
  staticTypes := #[]
  resolved := Array.replicate 8 none
  statics := none }

def pool5 : Array CpInfo := pool [(1, u "java/io/Serializable"), (0, .class_ 1), (0, u "java/lang/Object"), (0, .class_ 3)] 3

/-- java/io/Serializable -/
def k5 : Class := { plain "java/io/Serializable" (some 0) with
  accessFlags := 1537
  interfaces := #[]
  cf := some (fileOf pool5 2 #[] #[] 1537 4 #[] #[])
  fields := #[]
  methods := #[]
  instanceTypes := #[]
  staticTypes := #[]
  resolved := Array.replicate 8 none
  statics := none }

/-- the primitive byte -/
def k6 : Class := { plain "byte" none with kind := .primitive 'B', accessFlags := 0x411 }
/-- [B -/
def k7 : Class := { plain "[B" (some 0) with kind := .array 6 .byte, interfaces := #[4, 5], accessFlags := 1041 }

/-- the primitive int -/
def k8 : Class := { plain "int" none with kind := .primitive 'I', accessFlags := 0x411 }
/-- [I -/
def k9 : Class := { plain "[I" (some 0) with kind := .array 8 .int, interfaces := #[4, 5], accessFlags := 1041 }

def heap : Heap := #[]
def classes : Array Class := #[k0, k1, k2, k3, k4, k5, k6, k7, k8, k9]
def interned : List (Array UInt16 × Addr) := []
def slotsUsed : Nat := 0
def theMethod : MethodId := ⟨1, 4⟩
def args0 : Array Value := #[.long 5, .long 6, .long 7, .long 8, .int 0, .int 0]
def aboutOver (below : List Frame) : State where
  vm := { classes := classes, interned := interned.toArray }
  heap := heap
  slotsUsed := slotsUsed
  threads := #[{ frames := .invoking theMethod args0 :: below }]
def below0 : List Frame := [.native { method := ⟨0, 0⟩, args := #[] }]
def about1 : State := aboutOver below0
def p0 : Program := .bare "" "" ""
def e0 : Env := launch0.env 0 0 0
theorem w_frames : about1.frames = Frame.invoking theMethod args0 :: below0 := rfl
set_option maxRecDepth 65536 in
theorem w_args : argsFit about1.vm theMethod args0 = true := by decide +kernel
set_option maxRecDepth 65536 in
theorem w_heap : heapFits about1 = true := by decide +kernel
set_option maxRecDepth 65536 in
theorem w_runnable : about1.curStatus? = some .runnable := by decide +kernel
set_option maxRecDepth 65536 in
theorem w_alone : about1.alone = true := by decide +kernel
set_option maxRecDepth 65536 in
theorem w_named : about1.methodNamed? x = some theMethod := by decide +kernel
set_option maxRecDepth 65536 in
theorem w_hears : about1.hears theMethod below0 = true := by decide +kernel
set_option maxRecDepth 65536 in
theorem w_ripe : about1.ripe theMethod args0 below0 = true := by decide +kernel
theorem w_running : about1.status = .running := rfl
set_option maxRecDepth 65536 in
theorem w_room : about1.hasRoom e0.platform room_1 = true :=
  launch0.hasRoom_least _ room_1 (by decide +kernel) (by decide +kernel) (by decide +kernel) (by decide +kernel) (by decide +kernel) (by decide +kernel)
theorem allAtoms_all (ts : List Jvm.Cond) (a : Array Jvm.Value) (st : Jvm.State) : (allAtoms ts).before a st = ts.all (fun c => c.before a st) := by
  induction ts with
  | nil => rfl
  | cons c t ih =>
    show (Jvm.Cond.and c (allAtoms t)).before a st = _
    rw [Jvm.Cond.before_and, ih, List.all_cons]
def words1 : List Jvm.Cond := Jvm.Cond.code x code maxLocals ret :: tables_1
/-- a 'code' word, met by the world's own term for the bytes: nothing is compared byte by byte -/
theorem code_word {y : MethodName} {bytes : ByteArray} {mx : Nat} {rt : Option FieldType} {a : Array Value} {s : State} {m : MethodId} {meth : Method} {c : Code} (h1 : s.methodNamed? y = some m) (h2 : s.vm.method? m = some meth) (h3 : meth.code = some c) (h4 : c.code = bytes)
    (h5 : (c.maxLocals == mx && c.exceptionTable.isEmpty && decide (c.maxStack ≤ mostOperands) && decide (meth.sig.returnType = rt) && !meth.locks && decide (parseMethodDescriptor y.desc = some meth.sig)) = true) : (Jvm.Cond.code y bytes mx rt).before a s = true := by
  simp only [Bool.and_eq_true, beq_iff_eq, Bool.not_eq_true', decide_eq_true_eq] at h5
  obtain ⟨⟨⟨⟨⟨g1, g2⟩, g3⟩, g4⟩, g5⟩, g6⟩ := h5
  simp [Cond.before, Cond.holds, Cond.value, h1, h2, h3, h4, g1, g2, g3, g4, g5, g6]
def isCode : Jvm.Cond → Bool
  | .code _ _ _ _ => true
  | _ => false
theorem all_split {L : List Jvm.Cond} {P : Jvm.Cond → Bool} (h1 : L.all (fun c => isCode c || P c) = true) (h2 : ∀ c ∈ L.filter isCode, P c = true) : L.all P = true := by
  refine List.all_eq_true.mpr fun c hc => ?_
  have h := List.all_eq_true.mp h1 c hc
  rcases Bool.eq_false_or_eq_true (isCode c) with hi | hi
  · exact h2 c (List.mem_filter.mpr ⟨hc, hi⟩)
  · simpa [hi] using h
set_option maxRecDepth 65536 in
theorem w_c0 : (Jvm.Cond.code x code maxLocals ret).before args0 about1 = true := code_word (m := ⟨1, 4⟩) (meth := k1m4) (c := k1c4) (by decide +kernel) rfl rfl rfl (by decide +kernel)
set_option maxRecDepth 65536 in
theorem w_c1 : (Jvm.Cond.code ({ cls := "com/example/sprigdex/sprigdex/index/SegmentSizeReadablePinLaw", name := "pick", desc := "(JIIIJ)J" } : Jvm.MethodName) method_2_code (7 : Nat) (Option.some Jvm.ClassFile.FieldType.long)).before args0 about1 = true := code_word (m := ⟨1, 1⟩) (meth := k1m1) (c := k1c1) (by decide +kernel) rfl rfl rfl (by decide +kernel)
set_option maxRecDepth 65536 in
theorem w_c2 : (Jvm.Cond.code ({ cls := "com/example/sprigdex/sprigdex/index/SegmentSize", name := "<init>", desc := "(JJJJ)V" } : Jvm.MethodName) prog_100_method_1_code (9 : Nat) (Option.none : Option Jvm.ClassFile.FieldType)).before args0 about1 = true := code_word (m := ⟨3, 0⟩) (meth := k3m0) (c := k3c0) (by decide +kernel) rfl rfl rfl (by decide +kernel)
set_option maxRecDepth 65536 in
theorem w_c3 : (Jvm.Cond.code ({ cls := "java/lang/Record", name := "<init>", desc := "()V" } : Jvm.MethodName) jdk_30_method_1_code (1 : Nat) (Option.none : Option Jvm.ClassFile.FieldType)).before args0 about1 = true := code_word (m := ⟨2, 0⟩) (meth := k2m0) (c := k2c0) (by decide +kernel) rfl rfl rfl (by decide +kernel)
set_option maxRecDepth 65536 in
theorem w_c4 : (Jvm.Cond.code ({ cls := "java/lang/Object", name := "<init>", desc := "()V" } : Jvm.MethodName) object_method_1_code (1 : Nat) (Option.none : Option Jvm.ClassFile.FieldType)).before args0 about1 = true := code_word (m := ⟨0, 0⟩) (meth := k0m0) (c := k0c0) (by decide +kernel) rfl rfl rfl (by decide +kernel)
set_option maxRecDepth 65536 in
theorem w_c5 : (Jvm.Cond.code ({ cls := "com/example/sprigdex/sprigdex/index/SegmentSizeReadablePinLaw", name := "fitsWhole", desc := "(J)Z" } : Jvm.MethodName) method_3_code (2 : Nat) (Option.some Jvm.ClassFile.FieldType.boolean)).before args0 about1 = true := code_word (m := ⟨1, 2⟩) (meth := k1m2) (c := k1c2) (by decide +kernel) rfl rfl rfl (by decide +kernel)
set_option maxRecDepth 65536 in
theorem w_c6 : (Jvm.Cond.code ({ cls := "com/example/sprigdex/sprigdex/index/SegmentSizeReadablePinLaw", name := "fitsMapped", desc := "(J)Z" } : Jvm.MethodName) method_4_code (2 : Nat) (Option.some Jvm.ClassFile.FieldType.boolean)).before args0 about1 = true := code_word (m := ⟨1, 3⟩) (meth := k1m3) (c := k1c3) (by decide +kernel) rfl rfl rfl (by decide +kernel)
set_option maxRecDepth 65536 in
theorem w_c7 : (Jvm.Cond.code ({ cls := "com/example/sprigdex/sprigdex/index/SegmentSize", name := "readable", desc := "()Z" } : Jvm.MethodName) prog_100_method_3_code (1 : Nat) (Option.some Jvm.ClassFile.FieldType.boolean)).before args0 about1 = true := code_word (m := ⟨3, 1⟩) (meth := k3m1) (c := k3c1) (by decide +kernel) rfl rfl rfl (by decide +kernel)
def codes1 : List Jvm.Cond := [Jvm.Cond.code x code maxLocals ret, Jvm.Cond.code ({ cls := "com/example/sprigdex/sprigdex/index/SegmentSizeReadablePinLaw", name := "pick", desc := "(JIIIJ)J" } : Jvm.MethodName) method_2_code (7 : Nat) (Option.some Jvm.ClassFile.FieldType.long), Jvm.Cond.code ({ cls := "com/example/sprigdex/sprigdex/index/SegmentSize", name := "<init>", desc := "(JJJJ)V" } : Jvm.MethodName) prog_100_method_1_code (9 : Nat) (Option.none : Option Jvm.ClassFile.FieldType), Jvm.Cond.code ({ cls := "java/lang/Record", name := "<init>", desc := "()V" } : Jvm.MethodName) jdk_30_method_1_code (1 : Nat) (Option.none : Option Jvm.ClassFile.FieldType), Jvm.Cond.code ({ cls := "java/lang/Object", name := "<init>", desc := "()V" } : Jvm.MethodName) object_method_1_code (1 : Nat) (Option.none : Option Jvm.ClassFile.FieldType), Jvm.Cond.code ({ cls := "com/example/sprigdex/sprigdex/index/SegmentSizeReadablePinLaw", name := "fitsWhole", desc := "(J)Z" } : Jvm.MethodName) method_3_code (2 : Nat) (Option.some Jvm.ClassFile.FieldType.boolean), Jvm.Cond.code ({ cls := "com/example/sprigdex/sprigdex/index/SegmentSizeReadablePinLaw", name := "fitsMapped", desc := "(J)Z" } : Jvm.MethodName) method_4_code (2 : Nat) (Option.some Jvm.ClassFile.FieldType.boolean), Jvm.Cond.code ({ cls := "com/example/sprigdex/sprigdex/index/SegmentSize", name := "readable", desc := "()Z" } : Jvm.MethodName) prog_100_method_3_code (1 : Nat) (Option.some Jvm.ClassFile.FieldType.boolean)]
set_option maxRecDepth 65536 in
theorem codes_eq : words1.filter isCode = codes1 := rfl
theorem w_codes : ∀ c ∈ words1.filter isCode, c.before args0 about1 = true := by
  rw [codes_eq]
  intro c hc
  simp only [codes1, List.mem_cons, List.not_mem_nil, or_false] at hc
  rcases hc with rfl | rfl | rfl | rfl | rfl | rfl | rfl | rfl
  · exact w_c0
  · exact w_c1
  · exact w_c2
  · exact w_c3
  · exact w_c4
  · exact w_c5
  · exact w_c6
  · exact w_c7
set_option maxRecDepth 65536 in
theorem w_t1 : (words1.take 24).all (fun c => isCode c || c.before args0 about1) = true := by decide +kernel
set_option maxRecDepth 65536 in
theorem w_t2 : (words1.drop 24).all (fun c => isCode c || c.before args0 about1) = true := by decide +kernel
theorem w_tables : (allAtoms (Jvm.Cond.code x code maxLocals ret :: tables_1)).before args0 about1 = true := by
  rw [allAtoms_all]
  show words1.all (fun c => c.before args0 about1) = true
  refine all_split ?_ w_codes
  rw [← List.take_append_drop 24 words1, List.all_append, w_t1, w_t2]
  rfl
set_option maxRecDepth 65536 in
theorem w_case : (Jvm.Cond.and given_1 narrow_1).before args0 about1 = true := by decide +kernel
theorem w_applies : (headSpec (Jvm.Cond.code x code maxLocals ret :: tables_1) room_1).applies x e0.platform about1 = true :=
  (Spec.applies_iff w_frames).mpr ⟨w_running, w_runnable, w_alone, w_named, w_hears, w_ripe, w_room, w_tables⟩
theorem atStart : AtStart classFile x code maxLocals ret World_1 tables_1 room_1 Calls_1 rest_1 Pre_1 launch0 p0 e0 about1 theMethod args0 below0 :=
  ⟨lists_1, trivial, launch0.admits_env _ _ _, launch0.least_env, fairChoices_fair.cas, fairChoices_fair.clock, w_frames, w_args, w_heap, w_applies, trivial, trivial, w_case⟩
end start1
theorem witness_1 : WitnessClaimed_1 := ⟨start1.p0, start1.e0, start1.about1, start1.theMethod, start1.args0, start1.below0, start1.atStart⟩
end Jvm.Pilot.@@N@@
