import JvmDerived
import JvmDerived.Pilot.@@N@@Statement
import JvmDerived.Pilot.@@N@@Code
set_option linter.unusedVariables false
set_option linter.unusedSimpArgs false
namespace Jvm.Own
open Sem ClassFile Op Lib Jvm.Stand Jvm.Free Jvm.LawKit Jvm.RoadKit
/-! ### what is left to walk, and one law a step -/
def Go (p : Program) (e : Env) (below : List Frame) (P : Outcome → State → Prop) (S : State) : Prop :=
  ∃ s₂ o, Steps p.tables e below S s₂ ∧ s₂.status = .running ∧ Ended s₂ below o ∧ P o s₂
def Fini (s : State) (Q : Option Value → Heap → List Loc → Prop) (k n : Nat) (o : Outcome) (U : State) : Prop :=
  ∃ v L, o = .returned v ∧ Q v U.heap L ∧ FrameEnd s o U L k n
def Ct (l : Launch) (y : MethodName) (bytes : ByteArray) (maxL : Nat) (ret : Option FieldType) (ws : List Jvm.Cond) (rm : Room) (Z : State) (as : Array Value) (h : Heap) (Q : Option Value → Heap → List Loc → Prop) : Prop :=
  MetFree l y (head1 (Jvm.Cond.code y bytes maxL ret :: ws) rm) (fun a U => a = as ∧ Z.Warmed39 U.vm ∧ U.heap = h) (fun _ _ _ _ _ => True) (fun _ U o U' => ∃ v L, o = .returned v ∧ Q v U'.heap L ∧ FrameEnd U o U' L rm.cells rm.slots)
section Walk
variable {p : Program} {l : Launch} {e : Env} {R : Room} {s : State} {m : MethodId} {args : Array Value} {below : List Frame} {meth : Method} {c : Code} {T : State} {locs : List Loc} {cells slots : Nat} {P : Outcome → State → Prop} {Z : State} {a0 : Array Value} {h : Heap}
variable {pc : Nat} {L : Array Slot} {rest st : List Value}
theorem Go.via {A B : State} (q : ∀ t, Steps p.tables e below B t → Steps p.tables e below A t) (k : Go p e below P B) : Go p e below P A := by
  obtain ⟨s2, o, h1, h2⟩ := k
  exact ⟨s2, o, q _ h1, h2⟩
theorem Go.tr {A B : State} (q : Steps p.tables e below A B) (k : Go p e below P B) : Go p e below P A := Go.via (fun _ r => q.trans r) k
theorem enter {y : MethodName} {bytes : ByteArray} {maxL : Nat} {ret : Option FieldType} {ws : List Jvm.Cond} {rm : Room} {as : Array Value} {Q : Option Value → Heap → List Loc → Prop} (hy : plainFor y = true)
    (body : ∀ p e s m below meth c s₁, p.tables.exec = Jvm.exec → c.code = bytes → c.maxLocals = maxL → s.vm.findClass y.cls = some m.cls → meth.name = y.name → meth.sig.returnType = ret → meth.locks = false → Z.Warmed39 s.vm →
      Stand p l e rm s m as below meth c s₁ [] 0 0 → s₁.heap = h → Go p e below (Fini s Q rm.cells rm.slots) (s₁.setTop (entryFrame m as maxL))) : Ct l y bytes maxL ret ws rm Z as h Q := by
  refine MetFree.of_bodySF hy hisR ?_
  intro p e s m args below meth c s₁ Bd hml hP hK
  obtain ⟨rfl, hZ, hh⟩ := hP
  exact body p e s m below meth c s₁ Bd.exec Bd.bytes hml (findClass_of_methodNamed Bd.named) (name_of_methodNamed Bd.named Bd.method).1 Bd.returns Bd.notSynchronized hZ (Stand.of_body Bd) (by rw [← hh, Bd.state]; rfl)
theorem start {g g' : JFrame} (q : g = g') (k : Go p e below P (T.setTop g')) : Go p e below P (T.setTop g) := q ▸ k
theorem induct {α : Type} (S : α → State) (I : Nat → α → Prop) (base : ∀ a, I 0 a → Go p e below P (S a)) (step : ∀ k a, I (k + 1) a → (∀ a', I k a' → Go p e below P (S a')) → Go p e below P (S a)) {n : Nat} {a : α} (w : I n a) : Go p e below P (S a) := by
  induction n generalizing a with
  | zero => exact base a w
  | succ k ih => exact step k a w (fun a' w' => ih w')
/-! plain steps -/
theorem aloadN (X : Stand p l e R s m args below meth c T locs cells slots) (hx : p.tables.exec = Jvm.exec) {i : Fin 4} {v : Value} (hd : decode c.code pc = .ok (.aload_n i, 1)) (hl : L[i.val]? = some (.val v)) (hv : v.isRef = true) (k : Go p e below P (T.setTop (mkF m (pc + 1) L (v :: st)))) : Go p e below P (T.setTop (mkF m pc L st)) := Go.via (fun _ q => XS.aloadN X.here hx rfl hd hl hv q) k
theorem aload (X : Stand p l e R s m args below meth c T locs cells slots) (hx : p.tables.exec = Jvm.exec) {i : Nat} {v : Value} (hd : decode c.code pc = .ok (.aload i, 2)) (hl : L[i]? = some (.val v)) (hv : v.isRef = true) (k : Go p e below P (T.setTop (mkF m (pc + 2) L (v :: st)))) : Go p e below P (T.setTop (mkF m pc L st)) := Go.via (fun _ q => XS.aload X.here hx rfl hd hl hv q) k
theorem iloadN (X : Stand p l e R s m args below meth c T locs cells slots) (hx : p.tables.exec = Jvm.exec) {i : Fin 4} {v : Int32} (hd : decode c.code pc = .ok (.iload_n i, 1)) (hl : L[i.val]? = some (.val (.int v))) (k : Go p e below P (T.setTop (mkF m (pc + 1) L (.int v :: st)))) : Go p e below P (T.setTop (mkF m pc L st)) := Go.via (fun _ q => XS.iloadN X.here hx rfl hd hl q) k
theorem iload (X : Stand p l e R s m args below meth c T locs cells slots) (hx : p.tables.exec = Jvm.exec) {i : Nat} {v : Int32} (hd : decode c.code pc = .ok (.iload i, 2)) (hl : L[i]? = some (.val (.int v))) (k : Go p e below P (T.setTop (mkF m (pc + 2) L (.int v :: st)))) : Go p e below P (T.setTop (mkF m pc L st)) := Go.via (fun _ q => XS.iload X.here hx rfl hd hl q) k
theorem lloadN (X : Stand p l e R s m args below meth c T locs cells slots) (hx : p.tables.exec = Jvm.exec) {i : Fin 4} {v : Int64} (hd : decode c.code pc = .ok (.lload_n i, 1)) (hl : L[i.val]? = some (.val (.long v))) (k : Go p e below P (T.setTop (mkF m (pc + 1) L (.long v :: st)))) : Go p e below P (T.setTop (mkF m pc L st)) := Go.via (fun _ q => XT.lloadN X.here hx rfl hd hl q) k
theorem lload (X : Stand p l e R s m args below meth c T locs cells slots) (hx : p.tables.exec = Jvm.exec) {i : Nat} {v : Int64} (hd : decode c.code pc = .ok (.lload i, 2)) (hl : L[i]? = some (.val (.long v))) (k : Go p e below P (T.setTop (mkF m (pc + 2) L (.long v :: st)))) : Go p e below P (T.setTop (mkF m pc L st)) := Go.via (fun _ q => XT.lload X.here hx rfl hd hl q) k
theorem istoreN (X : Stand p l e R s m args below meth c T locs cells slots) (hx : p.tables.exec = Jvm.exec) {i : Fin 4} {v : Int32} (L' : Array Slot) (hd : decode c.code pc = .ok (.istore_n i, 1)) (hl : storeLocals L i.val (.int v) = some L') (k : Go p e below P (T.setTop (mkF m (pc + 1) L' st))) : Go p e below P (T.setTop (mkF m pc L (.int v :: st))) := Go.via (fun _ q => XS.istoreN X.here hx rfl hd rfl hl q) k
theorem istore (X : Stand p l e R s m args below meth c T locs cells slots) (hx : p.tables.exec = Jvm.exec) {i : Nat} {v : Int32} (L' : Array Slot) (hd : decode c.code pc = .ok (.istore i, 2)) (hl : storeLocals L i (.int v) = some L') (k : Go p e below P (T.setTop (mkF m (pc + 2) L' st))) : Go p e below P (T.setTop (mkF m pc L (.int v :: st))) := Go.via (fun _ q => XS.istore X.here hx rfl hd rfl hl q) k
theorem lstoreN (X : Stand p l e R s m args below meth c T locs cells slots) (hx : p.tables.exec = Jvm.exec) {i : Fin 4} {v : Int64} (L' : Array Slot) (hd : decode c.code pc = .ok (.lstore_n i, 1)) (hl : storeLocals L i.val (.long v) = some L') (k : Go p e below P (T.setTop (mkF m (pc + 1) L' st))) : Go p e below P (T.setTop (mkF m pc L (.long v :: st))) := Go.via (fun _ q => XT.lstoreN X.here hx rfl hd rfl hl q) k
theorem lstore (X : Stand p l e R s m args below meth c T locs cells slots) (hx : p.tables.exec = Jvm.exec) {i : Nat} {v : Int64} (L' : Array Slot) (hd : decode c.code pc = .ok (.lstore i, 2)) (hl : storeLocals L i (.long v) = some L') (k : Go p e below P (T.setTop (mkF m (pc + 2) L' st))) : Go p e below P (T.setTop (mkF m pc L (.long v :: st))) := Go.via (fun _ q => XT.lstore X.here hx rfl hd rfl hl q) k
theorem astoreN (X : Stand p l e R s m args below meth c T locs cells slots) (hx : p.tables.exec = Jvm.exec) {i : Fin 4} {v : Value} (L' : Array Slot) (hd : decode c.code pc = .ok (.astore_n i, 1)) (hv : v.isRef = true) (hl : storeLocals L i.val v = some L') (k : Go p e below P (T.setTop (mkF m (pc + 1) L' st))) : Go p e below P (T.setTop (mkF m pc L (v :: st))) := Go.via (fun _ q => XS.astoreN X.here hx rfl hd rfl hv hl q) k
theorem astore (X : Stand p l e R s m args below meth c T locs cells slots) (hx : p.tables.exec = Jvm.exec) {i : Nat} {v : Value} (L' : Array Slot) (hd : decode c.code pc = .ok (.astore i, 2)) (hv : v.isRef = true) (hl : storeLocals L i v = some L') (k : Go p e below P (T.setTop (mkF m (pc + 2) L' st))) : Go p e below P (T.setTop (mkF m pc L (v :: st))) := Go.via (fun _ q => XS.astore X.here hx rfl hd rfl hv hl q) k
theorem iconst (X : Stand p l e R s m args below meth c T locs cells slots) (hx : p.tables.exec = Jvm.exec) {i : Int} (v : Int32) (hd : decode c.code pc = .ok (.iconst i, 1)) (hv : Int32.ofInt i = v) (k : Go p e below P (T.setTop (mkF m (pc + 1) L (.int v :: st)))) : Go p e below P (T.setTop (mkF m pc L st)) := Go.via (fun _ q => XS.iconst X.here hx rfl hd (hv ▸ q)) k
theorem bipush (X : Stand p l e R s m args below meth c T locs cells slots) (hx : p.tables.exec = Jvm.exec) {i : Int} (v : Int32) (hd : decode c.code pc = .ok (.bipush i, 2)) (hv : (Int8.ofInt i).toInt32 = v) (k : Go p e below P (T.setTop (mkF m (pc + 2) L (.int v :: st)))) : Go p e below P (T.setTop (mkF m pc L st)) := Go.via (fun _ q => XS.bipush X.here hx rfl hd (hv ▸ q)) k
theorem sipush (X : Stand p l e R s m args below meth c T locs cells slots) (hx : p.tables.exec = Jvm.exec) {i : Int} (v : Int32) (hd : decode c.code pc = .ok (.sipush i, 3)) (hv : (Int16.ofInt i).toInt32 = v) (k : Go p e below P (T.setTop (mkF m (pc + 3) L (.int v :: st)))) : Go p e below P (T.setTop (mkF m pc L st)) := Go.via (fun _ q => XS.sipush X.here hx rfl hd (hv ▸ q)) k
theorem lconst (X : Stand p l e R s m args below meth c T locs cells slots) (hx : p.tables.exec = Jvm.exec) {i : Fin 2} (v : Int64) (hd : decode c.code pc = .ok (.lconst i, 1)) (hv : Int64.ofNat i = v) (k : Go p e below P (T.setTop (mkF m (pc + 1) L (.long v :: st)))) : Go p e below P (T.setTop (mkF m pc L st)) := Go.via (fun _ q => XT.lconst X.here hx rfl hd (hv ▸ q)) k
theorem aconstNull (X : Stand p l e R s m args below meth c T locs cells slots) (hx : p.tables.exec = Jvm.exec) (hd : decode c.code pc = .ok (.aconst_null, 1)) (k : Go p e below P (T.setTop (mkF m (pc + 1) L (.null :: st)))) : Go p e below P (T.setTop (mkF m pc L st)) := Go.via (fun _ q => XS.aconstNull X.here hx rfl hd q) k
theorem ldcI (X : Stand p l e R s m args below meth c T locs cells slots) (hx : p.tables.exec = Jvm.exec) (hZ : Z.Warmed39 s.vm) {own : String} {i : Nat} {v : Int32} (hown : s.vm.findClass own = some m.cls) (w : (Cond.constant own i v).before a0 Z = true) (hd : decode c.code pc = .ok (.ldc i, 2)) (k : Go p e below P (T.setTop (mkF m (pc + 2) L (.int v :: st)))) : Go p e below P (T.setTop (mkF m pc L st)) := Go.via (fun _ q => X.ldcI hx hown (mvT hZ w) rfl hd q) k
theorem ldcWI (X : Stand p l e R s m args below meth c T locs cells slots) (hx : p.tables.exec = Jvm.exec) (hZ : Z.Warmed39 s.vm) {own : String} {i : Nat} {v : Int32} (hown : s.vm.findClass own = some m.cls) (w : (Cond.constant own i v).before a0 Z = true) (hd : decode c.code pc = .ok (.ldc_w i, 3)) (k : Go p e below P (T.setTop (mkF m (pc + 3) L (.int v :: st)))) : Go p e below P (T.setTop (mkF m pc L st)) := Go.via (fun _ q => X.ldcWI hx hown (mvT hZ w) rfl hd q) k
theorem ldc2J (X : Stand p l e R s m args below meth c T locs cells slots) (hx : p.tables.exec = Jvm.exec) (hZ : Z.Warmed39 s.vm) {own : String} {i : Nat} {v : Int64} (hown : s.vm.findClass own = some m.cls) (w : (Cond.constantLong own i v).before a0 Z = true) (hd : decode c.code pc = .ok (.ldc2_w i, 3)) (k : Go p e below P (T.setTop (mkF m (pc + 3) L (.long v :: st)))) : Go p e below P (T.setTop (mkF m pc L st)) := Go.via (fun _ q => X.ldc2J hx hown (mvT hZ w) rfl hd q) k
theorem iinc (X : Stand p l e R s m args below meth c T locs cells slots) (hx : p.tables.exec = Jvm.exec) {i : Nat} {d : Int} {x : Int32} (v : Int32) (L' : Array Slot) (hd : decode c.code pc = .ok (.iinc i d, 3)) (hv : Int32.ofInt d = v) (hl : L[i]? = some (.val (.int x))) (hl' : storeLocals L i (.int (x + v)) = some L') (k : Go p e below P (T.setTop (mkF m (pc + 3) L' st))) : Go p e below P (T.setTop (mkF m pc L st)) := Go.via (fun _ q => XS.iinc X.here hx rfl hd hl (hv ▸ hl') q) k
theorem goto (X : Stand p l e R s m args below meth c T locs cells slots) (hx : p.tables.exec = Jvm.exec) {o : Int} (pc' : Nat) (hd : decode c.code pc = .ok (.goto o, 3)) (ho : 0 ≤ (pc : Int) + o) (hp : ((pc : Int) + o).toNat = pc') (k : Go p e below P (T.setTop (mkF m pc' L st))) : Go p e below P (T.setTop (mkF m pc L st)) := Go.via (fun _ q => XS.goto X.here hx rfl rfl hd ho hp q) k
theorem ifYes (X : Stand p l e R s m args below meth c T locs cells slots) (hx : p.tables.exec = Jvm.exec) {cd : ClassFile.Cond} {x : Int32} {o : Int} (pc' : Nat) (hd : decode c.code pc = .ok (.ifCond cd o, 3)) (hc : ifCond.holds cd x = true) (ho : 0 ≤ (pc : Int) + o) (hp : ((pc : Int) + o).toNat = pc') (k : Go p e below P (T.setTop (mkF m pc' L st))) : Go p e below P (T.setTop (mkF m pc L (.int x :: st))) := Go.via (fun _ q => XS.ifYes X.here hx rfl rfl hd rfl hc ho hp q) k
theorem ifNo (X : Stand p l e R s m args below meth c T locs cells slots) (hx : p.tables.exec = Jvm.exec) {cd : ClassFile.Cond} {x : Int32} {o : Int} (hd : decode c.code pc = .ok (.ifCond cd o, 3)) (hc : ifCond.holds cd x = false) (k : Go p e below P (T.setTop (mkF m (pc + 3) L st))) : Go p e below P (T.setTop (mkF m pc L (.int x :: st))) := Go.via (fun _ q => XS.ifNo X.here hx rfl hd rfl hc q) k
theorem icmpYes (X : Stand p l e R s m args below meth c T locs cells slots) (hx : p.tables.exec = Jvm.exec) {cd : ClassFile.Cond} {x y : Int32} {o : Int} (pc' : Nat) (hd : decode c.code pc = .ok (.if_icmp cd o, 3)) (hc : if_icmp.holds cd x y = true) (ho : 0 ≤ (pc : Int) + o) (hp : ((pc : Int) + o).toNat = pc') (k : Go p e below P (T.setTop (mkF m pc' L st))) : Go p e below P (T.setTop (mkF m pc L (.int y :: .int x :: st))) := Go.via (fun _ q => XS.icmpYes X.here hx rfl rfl hd rfl hc ho hp q) k
theorem icmpNo (X : Stand p l e R s m args below meth c T locs cells slots) (hx : p.tables.exec = Jvm.exec) {cd : ClassFile.Cond} {x y : Int32} {o : Int} (hd : decode c.code pc = .ok (.if_icmp cd o, 3)) (hc : if_icmp.holds cd x y = false) (k : Go p e below P (T.setTop (mkF m (pc + 3) L st))) : Go p e below P (T.setTop (mkF m pc L (.int y :: .int x :: st))) := Go.via (fun _ q => XS.icmpNo X.here hx rfl hd rfl hc q) k
theorem ifnullYes (X : Stand p l e R s m args below meth c T locs cells slots) (hx : p.tables.exec = Jvm.exec) {o : Int} (pc' : Nat) (hd : decode c.code pc = .ok (.ifnull o, 3)) (ho : 0 ≤ (pc : Int) + o) (hp : ((pc : Int) + o).toNat = pc') (k : Go p e below P (T.setTop (mkF m pc' L st))) : Go p e below P (T.setTop (mkF m pc L (.null :: st))) := Go.via (fun _ q => XS.ifnullYes X.here hx rfl rfl hd rfl ho hp q) k
theorem ifnullNo (X : Stand p l e R s m args below meth c T locs cells slots) (hx : p.tables.exec = Jvm.exec) {o : Int} {b : Addr} (hd : decode c.code pc = .ok (.ifnull o, 3)) (k : Go p e below P (T.setTop (mkF m (pc + 3) L st))) : Go p e below P (T.setTop (mkF m pc L (.ref b :: st))) := Go.via (fun _ q => XS.ifnullNo X.here hx rfl hd rfl q) k
theorem ifnonnullYes (X : Stand p l e R s m args below meth c T locs cells slots) (hx : p.tables.exec = Jvm.exec) {o : Int} {b : Addr} (pc' : Nat) (hd : decode c.code pc = .ok (.ifnonnull o, 3)) (ho : 0 ≤ (pc : Int) + o) (hp : ((pc : Int) + o).toNat = pc') (k : Go p e below P (T.setTop (mkF m pc' L st))) : Go p e below P (T.setTop (mkF m pc L (.ref b :: st))) := Go.via (fun _ q => XT.ifnonnullYes X.here hx rfl rfl hd rfl ho hp q) k
theorem ifnonnullNo (X : Stand p l e R s m args below meth c T locs cells slots) (hx : p.tables.exec = Jvm.exec) {o : Int} (hd : decode c.code pc = .ok (.ifnonnull o, 3)) (k : Go p e below P (T.setTop (mkF m (pc + 3) L st))) : Go p e below P (T.setTop (mkF m pc L (.null :: st))) := Go.via (fun _ q => XT.ifnonnullNo X.here hx rfl hd rfl q) k
theorem dup (X : Stand p l e R s m args below meth c T locs cells slots) (hx : p.tables.exec = Jvm.exec) {v : Value} (hd : decode c.code pc = .ok (.dup, 1)) (hc : v.category = 1) (k : Go p e below P (T.setTop (mkF m (pc + 1) L (v :: v :: st)))) : Go p e below P (T.setTop (mkF m pc L (v :: st))) := Go.via (fun _ q => XS.dup X.here hx rfl hd rfl hc q) k
theorem dup2 (X : Stand p l e R s m args below meth c T locs cells slots) (hx : p.tables.exec = Jvm.exec) {v w : Value} (hd : decode c.code pc = .ok (.dup2, 1)) (hc : v.category = 1) (hc' : w.category = 1) (k : Go p e below P (T.setTop (mkF m (pc + 1) L (v :: w :: v :: w :: st)))) : Go p e below P (T.setTop (mkF m pc L (v :: w :: st))) := Go.via (fun _ q => XT.dup2 X.here hx rfl hd rfl hc hc' q) k
theorem dup2L (X : Stand p l e R s m args below meth c T locs cells slots) (hx : p.tables.exec = Jvm.exec) {v : Int64} (hd : decode c.code pc = .ok (.dup2, 1)) (k : Go p e below P (T.setTop (mkF m (pc + 1) L (.long v :: .long v :: st)))) : Go p e below P (T.setTop (mkF m pc L (.long v :: st))) := Go.via (fun _ q => XT.dup2L X.here hx rfl hd rfl q) k
theorem dupX1 (X : Stand p l e R s m args below meth c T locs cells slots) (hx : p.tables.exec = Jvm.exec) {v w : Value} (hd : decode c.code pc = .ok (.dup_x1, 1)) (hc : v.category = 1) (hc' : w.category = 1) (k : Go p e below P (T.setTop (mkF m (pc + 1) L (v :: w :: v :: st)))) : Go p e below P (T.setTop (mkF m pc L (v :: w :: st))) := Go.via (fun _ q => XT.dupX1 X.here hx rfl hd rfl hc hc' q) k
theorem pop (X : Stand p l e R s m args below meth c T locs cells slots) (hx : p.tables.exec = Jvm.exec) {v : Value} (hd : decode c.code pc = .ok (.pop, 1)) (hc : v.category = 1) (k : Go p e below P (T.setTop (mkF m (pc + 1) L st))) : Go p e below P (T.setTop (mkF m pc L (v :: st))) := Go.via (fun _ q => XT.pop X.here hx rfl hd rfl hc q) k
theorem xdupX2 {e : Env} {below : List Frame} {T target : State} {m : MethodId} {c : Code} {g : JFrame} (h : At T m c below) (hx : p.tables.exec = Jvm.exec) (hg : g.method = m) {x y z : Value} {rest : List Value} (hd : decode c.code g.pc = .ok (.dup_x2, 1)) (hs : g.stack = x :: y :: z :: rest) (hc : x.category = 1) (hc' : y.category = 1) (hc2 : z.category = 1)
    (hr : Steps p.tables e below (T.setTop { g with pc := g.pc + 1, stack := x :: y :: z :: x :: rest }) target) : Steps p.tables e below (T.setTop g) target := by
  subst hg
  jvm_step h [h.top, hx, hd, hs, hc, hc', hc2]
  exact hr
theorem dupX2 (X : Stand p l e R s m args below meth c T locs cells slots) (hx : p.tables.exec = Jvm.exec) {v w u : Value} (hd : decode c.code pc = .ok (.dup_x2, 1)) (hc : v.category = 1) (hc' : w.category = 1) (hc2 : u.category = 1) (k : Go p e below P (T.setTop (mkF m (pc + 1) L (v :: w :: u :: v :: st)))) : Go p e below P (T.setTop (mkF m pc L (v :: w :: u :: st))) := Go.via (fun _ q => xdupX2 X.here hx rfl hd rfl hc hc' hc2 q) k
theorem xdup2X2 {e : Env} {below : List Frame} {T target : State} {m : MethodId} {c : Code} {g : JFrame} (h : At T m c below) (hx : p.tables.exec = Jvm.exec) (hg : g.method = m) {x : Int64} {y z : Value} {rest : List Value} (hd : decode c.code g.pc = .ok (.dup2_x2, 1)) (hs : g.stack = .long x :: y :: z :: rest) (hc' : y.category = 1) (hc2 : z.category = 1)
    (hr : Steps p.tables e below (T.setTop { g with pc := g.pc + 1, stack := .long x :: y :: z :: .long x :: rest }) target) : Steps p.tables e below (T.setTop g) target := by
  subst hg
  jvm_step h [h.top, hx, hd, hs, hc', hc2]
  exact hr
theorem dup2X2 (X : Stand p l e R s m args below meth c T locs cells slots) (hx : p.tables.exec = Jvm.exec) {v : Int64} {w u : Value} (hd : decode c.code pc = .ok (.dup2_x2, 1)) (hc' : w.category = 1) (hc2 : u.category = 1) (k : Go p e below P (T.setTop (mkF m (pc + 1) L (.long v :: w :: u :: .long v :: st)))) : Go p e below P (T.setTop (mkF m pc L (.long v :: w :: u :: st))) := Go.via (fun _ q => xdup2X2 X.here hx rfl hd rfl hc' hc2 q) k
theorem iadd (X : Stand p l e R s m args below meth c T locs cells slots) (hx : p.tables.exec = Jvm.exec) {x y : Int32} (hd : decode c.code pc = .ok (.iadd, 1)) (k : Go p e below P (T.setTop (mkF m (pc + 1) L (.int (x + y) :: st)))) : Go p e below P (T.setTop (mkF m pc L (.int y :: .int x :: st))) := Go.via (fun _ q => XS.iadd X.here hx rfl hd rfl q) k
theorem isub (X : Stand p l e R s m args below meth c T locs cells slots) (hx : p.tables.exec = Jvm.exec) {x y : Int32} (hd : decode c.code pc = .ok (.isub, 1)) (k : Go p e below P (T.setTop (mkF m (pc + 1) L (.int (x - y) :: st)))) : Go p e below P (T.setTop (mkF m pc L (.int y :: .int x :: st))) := Go.via (fun _ q => XS.isub X.here hx rfl hd rfl q) k
theorem imul (X : Stand p l e R s m args below meth c T locs cells slots) (hx : p.tables.exec = Jvm.exec) {x y : Int32} (hd : decode c.code pc = .ok (.imul, 1)) (k : Go p e below P (T.setTop (mkF m (pc + 1) L (.int (x * y) :: st)))) : Go p e below P (T.setTop (mkF m pc L (.int y :: .int x :: st))) := Go.via (fun _ q => XS.imul X.here hx rfl hd rfl q) k
theorem iand (X : Stand p l e R s m args below meth c T locs cells slots) (hx : p.tables.exec = Jvm.exec) {x y : Int32} (hd : decode c.code pc = .ok (.iand, 1)) (k : Go p e below P (T.setTop (mkF m (pc + 1) L (.int (x &&& y) :: st)))) : Go p e below P (T.setTop (mkF m pc L (.int y :: .int x :: st))) := Go.via (fun _ q => XS.iand X.here hx rfl hd rfl q) k
theorem ior (X : Stand p l e R s m args below meth c T locs cells slots) (hx : p.tables.exec = Jvm.exec) {x y : Int32} (hd : decode c.code pc = .ok (.ior, 1)) (k : Go p e below P (T.setTop (mkF m (pc + 1) L (.int (x ||| y) :: st)))) : Go p e below P (T.setTop (mkF m pc L (.int y :: .int x :: st))) := Go.via (fun _ q => XT.ior X.here hx rfl hd rfl q) k
theorem ixor (X : Stand p l e R s m args below meth c T locs cells slots) (hx : p.tables.exec = Jvm.exec) {x y : Int32} (hd : decode c.code pc = .ok (.ixor, 1)) (k : Go p e below P (T.setTop (mkF m (pc + 1) L (.int (x ^^^ y) :: st)))) : Go p e below P (T.setTop (mkF m pc L (.int y :: .int x :: st))) := Go.via (fun _ q => XT.ixor X.here hx rfl hd rfl q) k
theorem ishl (X : Stand p l e R s m args below meth c T locs cells slots) (hx : p.tables.exec = Jvm.exec) {x y : Int32} (hd : decode c.code pc = .ok (.ishl, 1)) (k : Go p e below P (T.setTop (mkF m (pc + 1) L (.int (x <<< (y &&& 31)) :: st)))) : Go p e below P (T.setTop (mkF m pc L (.int y :: .int x :: st))) := Go.via (fun _ q => XT.ishl X.here hx rfl hd rfl q) k
theorem ishr (X : Stand p l e R s m args below meth c T locs cells slots) (hx : p.tables.exec = Jvm.exec) {x y : Int32} (hd : decode c.code pc = .ok (.ishr, 1)) (k : Go p e below P (T.setTop (mkF m (pc + 1) L (.int (x >>> (y &&& 31)) :: st)))) : Go p e below P (T.setTop (mkF m pc L (.int y :: .int x :: st))) := Go.via (fun _ q => XT.ishr X.here hx rfl hd rfl q) k
theorem iushr (X : Stand p l e R s m args below meth c T locs cells slots) (hx : p.tables.exec = Jvm.exec) {x y : Int32} (hd : decode c.code pc = .ok (.iushr, 1)) (k : Go p e below P (T.setTop (mkF m (pc + 1) L (.int (XT.ushr x y) :: st)))) : Go p e below P (T.setTop (mkF m pc L (.int y :: .int x :: st))) := Go.via (fun _ q => XT.iushr X.here hx rfl hd rfl q) k
theorem idiv (X : Stand p l e R s m args below meth c T locs cells slots) (hx : p.tables.exec = Jvm.exec) {x y : Int32} (hd : decode c.code pc = .ok (.idiv, 1)) (hy : y ≠ 0) (k : Go p e below P (T.setTop (mkF m (pc + 1) L (.int (x / y) :: st)))) : Go p e below P (T.setTop (mkF m pc L (.int y :: .int x :: st))) := Go.via (fun _ q => XS.idiv X.here hx rfl hd rfl hy q) k
theorem irem (X : Stand p l e R s m args below meth c T locs cells slots) (hx : p.tables.exec = Jvm.exec) {x y : Int32} (hd : decode c.code pc = .ok (.irem, 1)) (hy : y ≠ 0) (k : Go p e below P (T.setTop (mkF m (pc + 1) L (.int (x % y) :: st)))) : Go p e below P (T.setTop (mkF m pc L (.int y :: .int x :: st))) := Go.via (fun _ q => iremM X hx (g := mkF m pc L (.int y :: .int x :: st)) rfl hd rfl hy q) k
theorem ladd (X : Stand p l e R s m args below meth c T locs cells slots) (hx : p.tables.exec = Jvm.exec) {x y : Int64} (hd : decode c.code pc = .ok (.ladd, 1)) (k : Go p e below P (T.setTop (mkF m (pc + 1) L (.long (x + y) :: st)))) : Go p e below P (T.setTop (mkF m pc L (.long y :: .long x :: st))) := Go.via (fun _ q => XT.ladd X.here hx rfl hd rfl q) k
theorem lsub (X : Stand p l e R s m args below meth c T locs cells slots) (hx : p.tables.exec = Jvm.exec) {x y : Int64} (hd : decode c.code pc = .ok (.lsub, 1)) (k : Go p e below P (T.setTop (mkF m (pc + 1) L (.long (x - y) :: st)))) : Go p e below P (T.setTop (mkF m pc L (.long y :: .long x :: st))) := Go.via (fun _ q => XT.lsub X.here hx rfl hd rfl q) k
theorem lmul (X : Stand p l e R s m args below meth c T locs cells slots) (hx : p.tables.exec = Jvm.exec) {x y : Int64} (hd : decode c.code pc = .ok (.lmul, 1)) (k : Go p e below P (T.setTop (mkF m (pc + 1) L (.long (x * y) :: st)))) : Go p e below P (T.setTop (mkF m pc L (.long y :: .long x :: st))) := Go.via (fun _ q => XT.lmul X.here hx rfl hd rfl q) k
theorem land (X : Stand p l e R s m args below meth c T locs cells slots) (hx : p.tables.exec = Jvm.exec) {x y : Int64} (hd : decode c.code pc = .ok (.land, 1)) (k : Go p e below P (T.setTop (mkF m (pc + 1) L (.long (x &&& y) :: st)))) : Go p e below P (T.setTop (mkF m pc L (.long y :: .long x :: st))) := Go.via (fun _ q => XT.land X.here hx rfl hd rfl q) k
theorem lor (X : Stand p l e R s m args below meth c T locs cells slots) (hx : p.tables.exec = Jvm.exec) {x y : Int64} (hd : decode c.code pc = .ok (.lor, 1)) (k : Go p e below P (T.setTop (mkF m (pc + 1) L (.long (x ||| y) :: st)))) : Go p e below P (T.setTop (mkF m pc L (.long y :: .long x :: st))) := Go.via (fun _ q => XT.lor X.here hx rfl hd rfl q) k
theorem lxor (X : Stand p l e R s m args below meth c T locs cells slots) (hx : p.tables.exec = Jvm.exec) {x y : Int64} (hd : decode c.code pc = .ok (.lxor, 1)) (k : Go p e below P (T.setTop (mkF m (pc + 1) L (.long (x ^^^ y) :: st)))) : Go p e below P (T.setTop (mkF m pc L (.long y :: .long x :: st))) := Go.via (fun _ q => XT.lxor X.here hx rfl hd rfl q) k
theorem lshl (X : Stand p l e R s m args below meth c T locs cells slots) (hx : p.tables.exec = Jvm.exec) {x : Int64} {y : Int32} (hd : decode c.code pc = .ok (.lshl, 1)) (k : Go p e below P (T.setTop (mkF m (pc + 1) L (.long (x <<< (y.toInt64 &&& 63)) :: st)))) : Go p e below P (T.setTop (mkF m pc L (.int y :: .long x :: st))) := Go.via (fun _ q => XT.lshl X.here hx rfl hd rfl q) k
theorem lshr (X : Stand p l e R s m args below meth c T locs cells slots) (hx : p.tables.exec = Jvm.exec) {x : Int64} {y : Int32} (hd : decode c.code pc = .ok (.lshr, 1)) (k : Go p e below P (T.setTop (mkF m (pc + 1) L (.long (x >>> (y.toInt64 &&& 63)) :: st)))) : Go p e below P (T.setTop (mkF m pc L (.int y :: .long x :: st))) := Go.via (fun _ q => XT.lshr X.here hx rfl hd rfl q) k
theorem lushr (X : Stand p l e R s m args below meth c T locs cells slots) (hx : p.tables.exec = Jvm.exec) {x : Int64} {y : Int32} (hd : decode c.code pc = .ok (.lushr, 1)) (k : Go p e below P (T.setTop (mkF m (pc + 1) L (.long (XT.ushrL x y) :: st)))) : Go p e below P (T.setTop (mkF m pc L (.int y :: .long x :: st))) := Go.via (fun _ q => XT.lushr X.here hx rfl hd rfl q) k
theorem ldiv (X : Stand p l e R s m args below meth c T locs cells slots) (hx : p.tables.exec = Jvm.exec) {x y : Int64} (hd : decode c.code pc = .ok (.ldiv, 1)) (hy : y ≠ 0) (k : Go p e below P (T.setTop (mkF m (pc + 1) L (.long (x / y) :: st)))) : Go p e below P (T.setTop (mkF m pc L (.long y :: .long x :: st))) := Go.via (fun _ q => XT.ldiv X.here hx rfl hd rfl hy q) k
theorem lrem (X : Stand p l e R s m args below meth c T locs cells slots) (hx : p.tables.exec = Jvm.exec) {x y : Int64} (hd : decode c.code pc = .ok (.lrem, 1)) (hy : y ≠ 0) (k : Go p e below P (T.setTop (mkF m (pc + 1) L (.long (x % y) :: st)))) : Go p e below P (T.setTop (mkF m pc L (.long y :: .long x :: st))) := Go.via (fun _ q => XT.lrem X.here hx rfl hd rfl hy (by rw [lrem_mod]; exact q)) k
theorem ineg (X : Stand p l e R s m args below meth c T locs cells slots) (hx : p.tables.exec = Jvm.exec) {x : Int32} (hd : decode c.code pc = .ok (.ineg, 1)) (k : Go p e below P (T.setTop (mkF m (pc + 1) L (.int ((-x)) :: st)))) : Go p e below P (T.setTop (mkF m pc L (.int x :: st))) := Go.via (fun _ q => XS.ineg X.here hx rfl hd rfl q) k
theorem lneg (X : Stand p l e R s m args below meth c T locs cells slots) (hx : p.tables.exec = Jvm.exec) {x : Int64} (hd : decode c.code pc = .ok (.lneg, 1)) (k : Go p e below P (T.setTop (mkF m (pc + 1) L (.long ((-x)) :: st)))) : Go p e below P (T.setTop (mkF m pc L (.long x :: st))) := Go.via (fun _ q => XT.lneg X.here hx rfl hd rfl q) k
theorem i2l (X : Stand p l e R s m args below meth c T locs cells slots) (hx : p.tables.exec = Jvm.exec) {x : Int32} (hd : decode c.code pc = .ok (.i2l, 1)) (k : Go p e below P (T.setTop (mkF m (pc + 1) L (.long (x.toInt64) :: st)))) : Go p e below P (T.setTop (mkF m pc L (.int x :: st))) := Go.via (fun _ q => XT.i2l X.here hx rfl hd rfl q) k
theorem l2i (X : Stand p l e R s m args below meth c T locs cells slots) (hx : p.tables.exec = Jvm.exec) {x : Int64} (hd : decode c.code pc = .ok (.l2i, 1)) (k : Go p e below P (T.setTop (mkF m (pc + 1) L (.int (x.toInt32) :: st)))) : Go p e below P (T.setTop (mkF m pc L (.long x :: st))) := Go.via (fun _ q => XT.l2i X.here hx rfl hd rfl q) k
theorem i2b (X : Stand p l e R s m args below meth c T locs cells slots) (hx : p.tables.exec = Jvm.exec) {x : Int32} (hd : decode c.code pc = .ok (.i2b, 1)) (k : Go p e below P (T.setTop (mkF m (pc + 1) L (.int (x.toInt8.toInt32) :: st)))) : Go p e below P (T.setTop (mkF m pc L (.int x :: st))) := Go.via (fun _ q => XT.i2b X.here hx rfl hd rfl q) k
theorem i2c (X : Stand p l e R s m args below meth c T locs cells slots) (hx : p.tables.exec = Jvm.exec) {x : Int32} (hd : decode c.code pc = .ok (.i2c, 1)) (k : Go p e below P (T.setTop (mkF m (pc + 1) L (.int (x.toUInt32.toUInt16.toUInt32.toInt32) :: st)))) : Go p e below P (T.setTop (mkF m pc L (.int x :: st))) := Go.via (fun _ q => XT.i2c X.here hx rfl hd rfl q) k
theorem i2s (X : Stand p l e R s m args below meth c T locs cells slots) (hx : p.tables.exec = Jvm.exec) {x : Int32} (hd : decode c.code pc = .ok (.i2s, 1)) (k : Go p e below P (T.setTop (mkF m (pc + 1) L (.int (x.toInt16.toInt32) :: st)))) : Go p e below P (T.setTop (mkF m pc L (.int x :: st))) := Go.via (fun _ q => XT.i2s X.here hx rfl hd rfl q) k
theorem lcmp (X : Stand p l e R s m args below meth c T locs cells slots) (hx : p.tables.exec = Jvm.exec) {x y : Int64} (hd : decode c.code pc = .ok (.lcmp, 1)) (k : Go p e below P (T.setTop (mkF m (pc + 1) L (.int (XT.cmpL x y) :: st)))) : Go p e below P (T.setTop (mkF m pc L (.long y :: .long x :: st))) := Go.via (fun _ q => XT.lcmp X.here hx rfl hd rfl q) k
theorem iincV (X : Stand p l e R s m args below meth c T locs cells slots) (hx : p.tables.exec = Jvm.exec) {i : Nat} {d : Int} {x : Int32} (v w : Int32) (L' : Array Slot) (hd : decode c.code pc = .ok (.iinc i d, 3)) (hv : Int32.ofInt d = v) (hl : L[i]? = some (.val (.int x))) (hw : x + v = w) (hl' : storeLocals L i (.int w) = some L') (k : Go p e below P (T.setTop (mkF m (pc + 3) L' st))) : Go p e below P (T.setTop (mkF m pc L st)) := Go.via (fun _ q => XS.iinc X.here hx rfl hd hl (hv ▸ hw ▸ hl') q) k
theorem topI {x y : Int32} (q : x = y) (k : Go p e below P (T.setTop (mkF m pc L (.int y :: st)))) : Go p e below P (T.setTop (mkF m pc L (.int x :: st))) := q ▸ k
theorem topJ {x y : Int64} (q : x = y) (k : Go p e below P (T.setTop (mkF m pc L (.long y :: st)))) : Go p e below P (T.setTop (mkF m pc L (.long x :: st))) := q ▸ k
/-! returns -/
theorem leaveR (X : Stand p l e R s m args below meth c T locs cells slots) (hk : meth.locks = false) {Q : Option Value → Heap → List Loc → Prop} {k n : Nat} {g : JFrame} {v : Option Value} (hv : meth.sig.returnType = none → v = none) (eT : T.heap = h) (hQ : Q v h locs) (hc : cells ≤ k) (hn : slots ≤ n)
    (st : ∀ fs, (∀ (f : JFrame) (acts : List Action), f.method = m → f.locked = none → f.entered = [] → (doReturn e (T.setTop f) acts v).1 = T.setFrames fs) → Steps p.tables e below (T.setTop g) (T.setFrames fs)) : Go p e below (Fini s Q k n) (T.setTop g) := by
  obtain ⟨fs, hr, hrun, hended, hW, hsame⟩ := X.leave (v := v) hv hk
  exact ⟨_, _, st fs hr, hrun, hended, _, _, rfl, by show Q v T.heap locs; rw [eT]; exact hQ, ⟨_, rfl⟩, hW, hsame.mono hc hn⟩
theorem ireturn (X : Stand p l e R s m args below meth c T locs cells slots) (hx : p.tables.exec = Jvm.exec) (hk : meth.locks = false) {Q : Option Value → Heap → List Loc → Prop} {k n : Nat} {t : FieldType} {z : Int32} (hret : meth.sig.returnType = some t) (ht : t = .int ∨ t = .boolean ∨ t = .byte ∨ t = .char ∨ t = .short) (hnr : narrow t (.int z) = .int z) (hd : decode c.code pc = .ok (.ireturn, 1)) (eT : T.heap = h) (hQ : Q (some (.int z)) h locs) (hc : cells ≤ k) (hn : slots ≤ n) : Go p e below (Fini s Q k n) (T.setTop (mkF m pc L (.int z :: rest))) :=
  leaveR X hk (v := some (.int z)) (fun q => by rw [hret] at q; cases q) eT hQ hc hn fun fs hr => retOut X hx hret hnr (Or.inl ⟨rfl, ht, z, rfl⟩) hd hr
theorem lreturn (X : Stand p l e R s m args below meth c T locs cells slots) (hx : p.tables.exec = Jvm.exec) (hk : meth.locks = false) {Q : Option Value → Heap → List Loc → Prop} {k n : Nat} {z : Int64} (hret : meth.sig.returnType = some .long) (hd : decode c.code pc = .ok (.lreturn, 1)) (eT : T.heap = h) (hQ : Q (some (.long z)) h locs) (hc : cells ≤ k) (hn : slots ≤ n) : Go p e below (Fini s Q k n) (T.setTop (mkF m pc L (.long z :: rest))) :=
  leaveR X hk (v := some (.long z)) (fun q => by rw [hret] at q; cases q) eT hQ hc hn fun fs hr => retOut X hx hret rfl (Or.inr (Or.inl ⟨rfl, rfl, z, rfl⟩)) hd hr
theorem areturn (X : Stand p l e R s m args below meth c T locs cells slots) (hx : p.tables.exec = Jvm.exec) (hk : meth.locks = false) {Q : Option Value → Heap → List Loc → Prop} {k n : Nat} {t : FieldType} {z : Value} (hret : meth.sig.returnType = some t) (ht : t.isReference = true) (hz : z.isRef = true) (hnr : narrow t z = z) (hd : decode c.code pc = .ok (.areturn, 1)) (eT : T.heap = h) (hQ : Q (some z) h locs) (hc : cells ≤ k) (hn : slots ≤ n) : Go p e below (Fini s Q k n) (T.setTop (mkF m pc L (z :: rest))) :=
  leaveR X hk (v := some z) (fun q => by rw [hret] at q; cases q) eT hQ hc hn fun fs hr => retOut X hx hret hnr (Or.inr (Or.inr (Or.inr (Or.inr ⟨rfl, ht, hz⟩)))) hd hr
theorem vreturn (X : Stand p l e R s m args below meth c T locs cells slots) (hx : p.tables.exec = Jvm.exec) (hk : meth.locks = false) {Q : Option Value → Heap → List Loc → Prop} {k n : Nat} (hret : meth.sig.returnType = none) (hd : decode c.code pc = .ok (.return_, 1)) (eT : T.heap = h) (hQ : Q none h locs) (hc : cells ≤ k) (hn : slots ≤ n) : Go p e below (Fini s Q k n) (T.setTop (mkF m pc L [])) :=
  leaveR X hk (v := none) (fun _ => rfl) eT hQ hc hn fun fs hr => X.returnOut hx hret hd hr
/-! String constants: the start with the tables at hand -/
def FiniW (s : State) (Q : Option Value → Heap → List Loc → Prop) (k n : Nat) (o : Outcome) (U : State) : Prop :=
  ∃ v L, o = .returned v ∧ Q v U.heap L ∧ ReturnedEndW s o U L k n
def CtW (l : Launch) (y : MethodName) (bytes : ByteArray) (maxL : Nat) (ret : Option FieldType) (ws : List Jvm.Cond) (rm : Room) (Z : State) (as : Array Value) (h : Heap) (Q : Option Value → Heap → List Loc → Prop) : Prop :=
  MetFree l y (head1 (Jvm.Cond.code y bytes maxL ret :: ws) rm) (fun a U => a = as ∧ Z.Warmed39 U.vm ∧ U.heap = h) (fun _ _ _ _ _ => True) (fun _ U o U' => ∃ v L, o = .returned v ∧ Q v U'.heap L ∧ ReturnedEndW U o U' L rm.cells rm.slots)
theorem enterW {y : MethodName} {bytes : ByteArray} {maxL : Nat} {ret : Option FieldType} {ws : List Jvm.Cond} {rm : Room} {as : Array Value} {Q : Option Value → Heap → List Loc → Prop} (hy : plainFor y = true)
    (body : ∀ p e s m below meth c s₁, p.tables.exec = Jvm.exec → c.code = bytes → c.maxLocals = maxL → s.vm.findClass y.cls = some m.cls → meth.name = y.name → meth.sig.returnType = ret → meth.locks = false → Z.Warmed39 s.vm →
      Stand p l e rm s m as below meth c s₁ [] 0 0 → s₁.heap = h → Go p e below (FiniW s Q rm.cells rm.slots) (s₁.setTop (entryFrame m as maxL))) : CtW l y bytes maxL ret ws rm Z as h Q := by
  refine MetFree.of_bodySF hy hisR ?_
  intro p e s m args below meth c s₁ Bd hml hP hK
  obtain ⟨rfl, hZ, hh⟩ := hP
  exact body p e s m below meth c s₁ Bd.exec Bd.bytes hml (findClass_of_methodNamed Bd.named) (name_of_methodNamed Bd.named Bd.method).1 Bd.returns Bd.notSynchronized hZ (Stand.of_body Bd) (by rw [← hh, Bd.state]; rfl)
theorem since0 (s : State) : s.Since s.vm 0 := State.WarmedH.since (State.WarmedH.refl s) 0
theorem ldcStr {vm0 : Vm} (X : Stand p l e R (s.setVm vm0) m args below meth c T locs cells slots) (hx : p.tables.exec = Jvm.exec) (hZ : Z.Warmed39 vm0) {own text : String} {i : Nat} (hown : vm0.findClass own = some m.cls) (w : (Cond.stringLink own i text).before a0 Z = true) (wS : ∀ a ∈ Bundle.stringAtoms, a.before a0 Z = true)
    (eT : T.heap = h) {k0 : Nat} (hS : s.Since vm0 k0) (hk : k0 ≤ h.size) (hd : decode c.code pc = .ok (.ldc i, 2)) (n : Nat) (hn : 4 * text.toList.length ≤ n) (hbig : n ≤ 536870912) (hc : cells + 2 ≤ R.cells) (hl : slots + (n + 4) ≤ R.slots)
    (k : ∀ (a : Addr) (T' : State) (h' : Heap) (k1 : Nat), Stand p l e R (s.setVm T'.vm) m args below meth c T' locs (cells + 2) (slots + (n + 4)) → T'.heap = h' → Ext h h' → s.Since T'.vm k1 → k1 ≤ h'.size → Z.Warmed39 (s.setVm T'.vm).vm → (s.setVm T'.vm).vm.findClass own = some m.cls → Go p e below P (T'.setTop (mkF m (pc + 2) L (.ref a :: st)))) : Go p e below P (T.setTop (mkF m pc L st)) := by
  obtain ⟨a, T', h', k1, X', e', E, hS', hk', hZ', hown', q⟩ := ldcS X hx hZ hown w wS eT hS hk (g := mkF m pc L st) rfl hd hn hbig hc hl
  exact Go.via q (k a T' h' k1 X' e' E hS' hk' hZ' hown')
theorem ireturnW {vm0 : Vm} (X : Stand p l e R (s.setVm vm0) m args below meth c T locs cells slots) (hx : p.tables.exec = Jvm.exec) (hk : meth.locks = false) {Q : Option Value → Heap → List Loc → Prop} {k n : Nat} {t : FieldType} {z : Int32} (hret : meth.sig.returnType = some t) (ht : t = .int ∨ t = .boolean ∨ t = .byte ∨ t = .char ∨ t = .short) (hnr : narrow t (.int z) = .int z) (hd : decode c.code pc = .ok (.ireturn, 1)) (eT : T.heap = h) {k0 : Nat} (hS : s.Since vm0 k0) (hk0 : k0 ≤ h.size) (hQ : Q (some (.int z)) h locs) (hc : cells ≤ k) (hn : slots ≤ n) : Go p e below (FiniW s Q k n) (T.setTop (mkF m pc L (.int z :: rest))) := by
  obtain ⟨fs, hr, hrun, hended, hW⟩ := X.leaveW hS (by rw [eT]; exact hk0) (v := some (.int z)) (fun q => by rw [hret] at q; cases q) hk
  exact ⟨_, _, retOut X hx hret hnr (Or.inl ⟨rfl, ht, z, rfl⟩) hd hr, hrun, hended, _, _, rfl, by show Q (some (.int z)) T.heap locs; rw [eT]; exact hQ, hW.1, hW.2.1, hW.2.2.1, hW.2.2.2.mono hc hn⟩
/-! fields, objects -/
theorem getfield (X : Stand p l e R s m args below meth c T locs cells slots) (hx : p.tables.exec = Jvm.exec) (hZ : Z.Warmed39 s.vm) {own R0 O n d host : String} {i : Nat} (hown : s.vm.findClass own = some m.cls) (w : (Cond.fieldLink own i R0 n d).before a0 Z = true ∨ (Cond.fieldLinkNest own i R0 n d host).before a0 Z = true) (via : Via Z R0 O n d)
    (eT : T.heap = h) {a : Addr} {v : Value} (F : Fld Z h a O n d v) (hd : decode c.code pc = .ok (.getfield i, 3)) (k : ∀ T', Stand p l e R s m args below meth c T' locs cells slots → T'.heap = h → Go p e below P (T'.setTop (mkF m (pc + 3) L (v :: st)))) : Go p e below P (T.setTop (mkF m pc L (.ref a :: st))) := by
  obtain ⟨T', X', e', q⟩ := getF X hx hZ hown w via eT F (g := mkF m pc L (.ref a :: st)) rfl rfl hd
  exact Go.via q (k T' X' e')
theorem putfield (X : Stand p l e R s m args below meth c T locs cells slots) (hx : p.tables.exec = Jvm.exec) (hZ : Z.Warmed39 s.vm) {own R0 O n d host C : String} {i kk : Nat} {ty : FieldType} (hown : s.vm.findClass own = some m.cls) (w : (Cond.fieldLink own i R0 n d).before a0 Z = true ∨ (Cond.fieldLinkNest own i R0 n d host).before a0 Z = true) (via : Via Z R0 O n d)
    (eT : T.heap = h) {a : Addr} {v old : Value} (F : Fld Z h a O n d old) (E : Exa Z h a C) (Ly : (Cond.lays C O n d).before a0 Z = true ∨ ((Cond.laysFinal C O n d).before a0 Z = true ∧ own = O ∧ meth.name = "<init>")) (wi : (Cond.instantiable C kk).before a0 Z = true)
    (hty : parseFieldDescriptor d = some ty) (hn : narrow ty v = v) (hf : fits ty v = true) {n0 : Nat} (N : Fr n0 locs) (ga : n0 ≤ a) (hd : decode c.code pc = .ok (.putfield i, 3))
    (k : ∀ T' h', Stand p l e R s m args below meth c T' (locs ++ [⟨a, Jvm.RoadKit.slotOf Z O n d⟩]) cells slots → T'.heap = h' → Wr h h' a (Jvm.RoadKit.slotOf Z O n d) v → Fr n0 (locs ++ [⟨a, Jvm.RoadKit.slotOf Z O n d⟩]) → Fld Z h' a O n d v → Go p e below P (T'.setTop (mkF m (pc + 3) L st))) : Go p e below P (T.setTop (mkF m pc L (v :: .ref a :: st))) := by
  obtain ⟨T', h', X', e', W, q⟩ := putF X hx hZ hown w via eT F E Ly wi hty hn hf (g := mkF m pc L (v :: .ref a :: st)) rfl rfl hd
  exact Go.via q (k T' h' X' e' W (Fr.snoc X' N ga) (F.same W))
theorem putfieldN (X : Stand p l e R s m args below meth c T locs cells slots) (hx : p.tables.exec = Jvm.exec) (hZ : Z.Warmed39 s.vm) {own R0 O n d C : String} {i kk : Nat} {ty : FieldType} (hown : s.vm.findClass own = some m.cls) (w : (Cond.fieldLink own i R0 n d).before a0 Z = true) (via : Via Z R0 O n d)
    (eT : T.heap = h) {a : Addr} {v v' old : Value} (F : Fld Z h a O n d old) (E : Exa Z h a C) (Ly : (Cond.lays C O n d).before a0 Z = true ∨ ((Cond.laysFinal C O n d).before a0 Z = true ∧ own = O ∧ meth.name = "<init>")) (wi : (Cond.instantiable C kk).before a0 Z = true)
    (hty : parseFieldDescriptor d = some ty) (hn : narrow ty v = v') (hf : fits ty v' = true) {n0 : Nat} (N : Fr n0 locs) (ga : n0 ≤ a) (hd : decode c.code pc = .ok (.putfield i, 3))
    (k : ∀ T' h', Stand p l e R s m args below meth c T' (locs ++ [⟨a, Jvm.RoadKit.slotOf Z O n d⟩]) cells slots → T'.heap = h' → Wr h h' a (Jvm.RoadKit.slotOf Z O n d) v' → Fr n0 (locs ++ [⟨a, Jvm.RoadKit.slotOf Z O n d⟩]) → Fld Z h' a O n d v' → Go p e below P (T'.setTop (mkF m (pc + 3) L st))) : Go p e below P (T.setTop (mkF m pc L (v :: .ref a :: st))) := by
  obtain ⟨T', h', X', e', W, q⟩ := putFN X hx hZ hown w via eT F E Ly wi hty hn hf (g := mkF m pc L (v :: .ref a :: st)) rfl rfl hd
  exact Go.via q (k T' h' X' e' W (Fr.snoc X' N ga) (F.same W))
theorem newobj (X : Stand p l e R s m args below meth c T locs cells slots) (hx : p.tables.exec = Jvm.exec) (hZ : Z.Warmed39 s.vm) {own C : String} {i n : Nat} (hown : s.vm.findClass own = some m.cls) (w : (Cond.classLink own i C).before a0 Z = true) (wi : (Cond.instantiable C n).before a0 Z = true) (wz : (Cond.initialized C).before a0 Z = true) (eT : T.heap = h)
    (hd : decode c.code pc = .ok (.new i, 3)) (hc : cells + 1 ≤ R.cells) (hl : slots + n ≤ R.slots)
    (k : ∀ T' h' b, b = h.size → Stand p l e R s m args below meth c T' locs (cells + 1) (slots + n) → T'.heap = h' → Ext h h' → Exa Z h' b C → (∀ {O nm d : String} {ty : FieldType}, Laid Z a0 C O nm d → parseFieldDescriptor d = some ty → Fld Z h' b O nm d (defaultValue ty)) → Go p e below P (T'.setTop (mkF m (pc + 3) L (.ref b :: st)))) : Go p e below P (T.setTop (mkF m pc L st)) := by
  obtain ⟨T', h', X', e', E, A, D, -, q⟩ := newO X hx hZ hown w wi wz eT (g := mkF m pc L st) rfl hd hc hl
  exact Go.via q (k T' h' h.size rfl X' e' E A D)
theorem initObj (X : Stand p l e R s m args below meth c T locs cells slots) (hx : p.tables.exec = Jvm.exec) (hZ : Z.Warmed39 s.vm) {own : String} {i : Nat} (hown : s.vm.findClass own = some m.cls) (w1 : (Cond.methodLink own i Lib.objectInit).before a0 Z = true) (w2 : (Cond.instanceMethod Lib.objectInit).before a0 Z = true)
    (w3 : (Cond.code Lib.objectInit ⟨#[0xb1]⟩ 1 none).before a0 Z = true) (eT : T.heap = h) (hsize : L.size = c.maxLocals) {a : Addr} (hd : decode c.code pc = .ok (.invokespecial i, 3)) (hf : 1 ≤ R.frames) (W : Nat) (hW : (st.map fun v => v.category).sum ≤ W) (hl : W + 12 ≤ R.locals)
    (k : ∀ T', Stand p l e R s m args below meth c T' locs cells slots → T'.heap = h → Go p e below P (T'.setTop (mkF m (pc + 3) L st))) : Go p e below P (T.setTop (mkF m pc L (.ref a :: st))) := by
  obtain ⟨T', X', e', q⟩ := initO X hx hZ hown w1 w2 w3 eT (g := mkF m pc L (.ref a :: st)) rfl hsize rfl hd hf (W := W) (by show 2 * 0 + _ ≤ _; omega) hl
  exact Go.via q (k T' X' e')
/-! arrays -/
/-- the array at a holds just these values -/
def VArr (Z : State) (h : Heap) (a : Addr) (ty : FieldType) (vs : List Value) : Prop := ∃ c : Cell, Arr Z h a c ty ∧ c.slots = vs.toArray ∧ vs.length < 2 ^ 31
section VA
variable {h' : Heap} {a b : Addr} {ty : FieldType} {vs : List Value} {sl : Nat} {v : Value} {ws : List Addr}
theorem VArr.lt (F : VArr Z h a ty vs) : a < h.size := by obtain ⟨c, A, -⟩ := F; exact A.lt
theorem VArr.ext (F : VArr Z h a ty vs) (E : Ext h h') : VArr Z h' a ty vs := by obtain ⟨c, A, r⟩ := F; exact ⟨c, A.ext E, r⟩
theorem VArr.other (F : VArr Z h b ty vs) (W : Wr h h' a sl v) (q : b ≠ a) : VArr Z h' b ty vs := by obtain ⟨c, A, r⟩ := F; exact ⟨c, A.other W q, r⟩
theorem VArr.keep (F : VArr Z h a ty vs) (K : Keep h h' ws) (q : a ∉ ws) : VArr Z h' a ty vs := by obtain ⟨c, A, r⟩ := F; exact ⟨c, ⟨K.2.1 a c A.1 q, A.2⟩, r⟩
theorem VArr.same (F : VArr Z h a ty vs) (W : Wr h h' a sl v) : VArr Z h' a ty (vs.set sl v) := by
  obtain ⟨c, A, r1, r2⟩ := F
  refine ⟨c.setSlot sl v, A.same W, ?_, by simpa using r2⟩
  simp [Cell.setSlot, r1]
theorem neVE {C : String} {kk : Nat} (F : VArr Z h a ty vs) (E : Exa Z h b C) (wi : (Cond.instantiable C kk).before a0 Z = true) : a ≠ b := by
  obtain ⟨c, A, -⟩ := F
  exact (ne_arr E wi A).symm
end VA
theorem in_of {vs : List Value} {v : Value} {i : Nat} {j : Int32} {c : Cell} (hn : ¬ j < 0) (hi : j.toNatClampNeg = i) (hv : vs[i]? = some v) (r : c.slots = vs.toArray) : ¬ (j < 0 ∨ c.slots.size ≤ j.toNatClampNeg) ∧ c.slots[j.toNatClampNeg]? = some v := by
  have hlt : i < vs.length := by
    obtain ⟨q, -⟩ := List.getElem?_eq_some_iff.mp hv
    exact q
  refine ⟨fun q => ?_, ?_⟩
  · rcases q with q | q
    · exact hn q
    · rw [r, hi] at q; simp at q; omega
  · rw [hi, r]; simpa using hv
theorem in_of' {vs : List Value} {i : Nat} {j : Int32} {c : Cell} (hn : ¬ j < 0) (hi : j.toNatClampNeg = i) (hv : i < vs.length) (r : c.slots = vs.toArray) : ¬ (j < 0 ∨ c.slots.size ≤ j.toNatClampNeg) := by
  intro q
  rcases q with q | q
  · exact hn q
  · rw [r, hi] at q; simp at q; omega
theorem alen (X : Stand p l e R s m args below meth c T locs cells slots) (hx : p.tables.exec = Jvm.exec) (hZ : Z.Warmed39 s.vm) (eT : T.heap = h) {a : Addr} {ty : FieldType} {vs : List Value} (V : VArr Z h a ty vs) (n : Int32) (hn : vs.length.toInt32 = n) (hd : decode c.code pc = .ok (.arraylength, 1)) (k : Go p e below P (T.setTop (mkF m (pc + 1) L (.int n :: st)))) : Go p e below P (T.setTop (mkF m pc L (.ref a :: st))) := by
  obtain ⟨cl, A, r1, -⟩ := V
  have q : cl.slots.size.toInt32 = n := by rw [r1]; simpa using hn
  exact Go.via (fun t w => X.arraylength hx (cell := cl) (by rw [eT]; exact A.1) (State.isArrayOf_alike hZ.alike A.2.1) (g := mkF m pc L (.ref a :: st)) rfl rfl hd t (by rw [q]; exact w)) k
theorem iaload (X : Stand p l e R s m args below meth c T locs cells slots) (hx : p.tables.exec = Jvm.exec) (hZ : Z.Warmed39 s.vm) (eT : T.heap = h) {a : Addr} {vs : List Value} (V : VArr Z h a .int vs) {j : Int32} {v : Value} (i : Nat) (hn : ¬ j < 0) (hi : j.toNatClampNeg = i) (hv : vs[i]? = some v) (hd : decode c.code pc = .ok (.iaload, 1)) (k : Go p e below P (T.setTop (mkF m (pc + 1) L (v :: st)))) : Go p e below P (T.setTop (mkF m pc L (.int j :: .ref a :: st))) := by
  obtain ⟨cl, A, r1, -⟩ := V
  obtain ⟨q1, q2⟩ := in_of hn hi hv r1
  exact Go.via (fun t w => X.iaload hx (by rw [eT]; exact A.1) (State.isArrayOf_alike hZ.alike A.2.1) A.2.2 q1 q2 (g := mkF m pc L (.int j :: .ref a :: st)) rfl rfl hd t w) k
theorem laload (X : Stand p l e R s m args below meth c T locs cells slots) (hx : p.tables.exec = Jvm.exec) (hZ : Z.Warmed39 s.vm) (eT : T.heap = h) {a : Addr} {vs : List Value} (V : VArr Z h a .long vs) {j : Int32} {v : Value} (i : Nat) (hn : ¬ j < 0) (hi : j.toNatClampNeg = i) (hv : vs[i]? = some v) (hd : decode c.code pc = .ok (.laload, 1)) (k : Go p e below P (T.setTop (mkF m (pc + 1) L (v :: st)))) : Go p e below P (T.setTop (mkF m pc L (.int j :: .ref a :: st))) := by
  obtain ⟨cl, A, r1, -⟩ := V
  obtain ⟨q1, q2⟩ := in_of hn hi hv r1
  exact Go.via (fun t w => X.laload hx (by rw [eT]; exact A.1) (State.isArrayOf_alike hZ.alike A.2.1) A.2.2 q1 q2 (g := mkF m pc L (.int j :: .ref a :: st)) rfl rfl hd t w) k
theorem baload (X : Stand p l e R s m args below meth c T locs cells slots) (hx : p.tables.exec = Jvm.exec) (hZ : Z.Warmed39 s.vm) (eT : T.heap = h) {a : Addr} {vs : List Value} (V : VArr Z h a .byte vs) {j : Int32} {v : Value} (i : Nat) (hn : ¬ j < 0) (hi : j.toNatClampNeg = i) (hv : vs[i]? = some v) (hd : decode c.code pc = .ok (.baload, 1)) (k : Go p e below P (T.setTop (mkF m (pc + 1) L (v :: st)))) : Go p e below P (T.setTop (mkF m pc L (.int j :: .ref a :: st))) := by
  obtain ⟨cl, A, r1, -⟩ := V
  obtain ⟨q1, q2⟩ := in_of hn hi hv r1
  exact Go.via (fun t w => X.baloadBytes hx (by rw [eT]; exact A.1) (State.isArrayOf_alike hZ.alike A.2.1) A.2.2 q1 q2 (g := mkF m pc L (.int j :: .ref a :: st)) rfl rfl hd t w) k
theorem iastore (X : Stand p l e R s m args below meth c T locs cells slots) (hx : p.tables.exec = Jvm.exec) (hZ : Z.Warmed39 s.vm) (eT : T.heap = h) {a : Addr} {vs : List Value} (V : VArr Z h a .int vs) {j x : Int32} (i : Nat) (hn : ¬ j < 0) (hi : j.toNatClampNeg = i) (hv : i < vs.length) {n0 : Nat} (N : Fr n0 locs) (ga : n0 ≤ a) (hd : decode c.code pc = .ok (.iastore, 1))
    (k : ∀ T' h', Stand p l e R s m args below meth c T' (locs ++ [⟨a, i⟩]) cells slots → T'.heap = h' → Wr h h' a i (.int x) → Fr n0 (locs ++ [⟨a, i⟩]) → VArr Z h' a .int (vs.set i (.int x)) → Go p e below P (T'.setTop (mkF m (pc + 1) L st))) : Go p e below P (T.setTop (mkF m pc L (.int x :: .int j :: .ref a :: st))) := by
  have V0 := V
  obtain ⟨cl, A, r1, -⟩ := V
  obtain ⟨T', h', X', e', W, q⟩ := stI X hx hZ eT A (in_of' hn hi hv r1) (g := mkF m pc L (.int x :: .int j :: .ref a :: st)) rfl rfl hd
  rw [hi] at X' W
  exact Go.via q (k T' h' X' e' W (Fr.snoc X' N ga) (V0.same W))
theorem lastore (X : Stand p l e R s m args below meth c T locs cells slots) (hx : p.tables.exec = Jvm.exec) (hZ : Z.Warmed39 s.vm) (eT : T.heap = h) {a : Addr} {vs : List Value} (V : VArr Z h a .long vs) {j : Int32} {x : Int64} (i : Nat) (hn : ¬ j < 0) (hi : j.toNatClampNeg = i) (hv : i < vs.length) {n0 : Nat} (N : Fr n0 locs) (ga : n0 ≤ a) (hd : decode c.code pc = .ok (.lastore, 1))
    (k : ∀ T' h', Stand p l e R s m args below meth c T' (locs ++ [⟨a, i⟩]) cells slots → T'.heap = h' → Wr h h' a i (.long x) → Fr n0 (locs ++ [⟨a, i⟩]) → VArr Z h' a .long (vs.set i (.long x)) → Go p e below P (T'.setTop (mkF m (pc + 1) L st))) : Go p e below P (T.setTop (mkF m pc L (.long x :: .int j :: .ref a :: st))) := by
  have V0 := V
  obtain ⟨cl, A, r1, -⟩ := V
  obtain ⟨T', h', X', e', W, q⟩ := stJ X hx hZ eT A (in_of' hn hi hv r1) (g := mkF m pc L (.long x :: .int j :: .ref a :: st)) rfl rfl hd
  rw [hi] at X' W
  exact Go.via q (k T' h' X' e' W (Fr.snoc X' N ga) (V0.same W))
theorem bastore (X : Stand p l e R s m args below meth c T locs cells slots) (hx : p.tables.exec = Jvm.exec) (hZ : Z.Warmed39 s.vm) (eT : T.heap = h) {a : Addr} {vs : List Value} (V : VArr Z h a .byte vs) {j x : Int32} (i : Nat) (hn : ¬ j < 0) (hi : j.toNatClampNeg = i) (hv : i < vs.length) {n0 : Nat} (N : Fr n0 locs) (ga : n0 ≤ a) (hd : decode c.code pc = .ok (.bastore, 1))
    (k : ∀ T' h', Stand p l e R s m args below meth c T' (locs ++ [⟨a, i⟩]) cells slots → T'.heap = h' → Wr h h' a i (.int x.toInt8.toInt32) → Fr n0 (locs ++ [⟨a, i⟩]) → VArr Z h' a .byte (vs.set i (.int x.toInt8.toInt32)) → Go p e below P (T'.setTop (mkF m (pc + 1) L st))) : Go p e below P (T.setTop (mkF m pc L (.int x :: .int j :: .ref a :: st))) := by
  have V0 := V
  obtain ⟨cl, A, r1, -⟩ := V
  obtain ⟨T', h', X', e', W, q⟩ := stB X hx hZ eT A (in_of' hn hi hv r1) (g := mkF m pc L (.int x :: .int j :: .ref a :: st)) rfl rfl hd
  rw [hi] at X' W
  exact Go.via q (k T' h' X' e' W (Fr.snoc X' N ga) (V0.same W))
theorem newarr (X : Stand p l e R s m args below meth c T locs cells slots) (hx : p.tables.exec = Jvm.exec) (hZ : Z.Warmed39 s.vm) {aty : ArrayType} (w : (Cond.arrayClass (newarray.typeOf aty)).before a0 Z = true) (eT : T.heap = h) (hd : decode c.code pc = .ok (.newarray aty, 2)) {n : Int32} (hn : ¬ n < 0) (i cap : Nat) (hi : n.toNatClampNeg = i) (hcap : i ≤ cap) (hb : cap * 8 ≤ 536870912) (hc : cells + 1 ≤ R.cells) (hl : slots + cap ≤ R.slots)
    (k : ∀ T' h' b, b = h.size → Stand p l e R s m args below meth c T' locs (cells + 1) (slots + cap) → T'.heap = h' → Ext h h' → VArr Z h' b (newarray.typeOf aty) (List.replicate i (defaultValue (newarray.typeOf aty))) → Go p e below P (T'.setTop (mkF m (pc + 2) L (.ref b :: st)))) : Go p e below P (T.setTop (mkF m pc L (.int n :: st))) := by
  obtain ⟨T', h', cA, X', e', E, A, q⟩ := newP X hx hZ w eT (g := mkF m pc L (.int n :: st)) rfl hd rfl hn (cap := cap) (by rw [hi]; exact hcap) hb hc hl
  refine Go.via q (k T' h' h.size rfl X' e' E ⟨_, A, ?_, ?_⟩)
  · simp [newA, hi]
  · simp; omega
/-! calls -/
theorem callStatic (X : Stand p l e R s m args below meth c T locs cells slots) (hx : p.tables.exec = Jvm.exec) (hZ : Z.Warmed39 s.vm) {own : String} {i : Nat} {y : MethodName} {bytes : ByteArray} {maxL : Nat} {ret : Option FieldType} {rm : Room} {Q : Option Value → Heap → List Loc → Prop}
    (hown : s.vm.findClass own = some m.cls) (w1 : (Cond.methodLink own i y).before a0 Z = true) (w2 : (Cond.static y).before a0 Z = true) (w3 : (Cond.initialized y.cls).before a0 Z = true) (w4 : (Cond.code y bytes maxL ret).before a0 Z = true) (hy : y.cls ≠ "java/lang/invoke/MethodHandle" ∧ y.cls ≠ "java/lang/invoke/VarHandle")
    (W : Nat) (argsL rest : List Value) (hM : Ct l y bytes maxL ret [] rm Z argsL.toArray h Q) (hf : rm.frames + 1 ≤ R.frames) (hl : W + (maxL + 11) + rm.locals ≤ R.locals) (eT : T.heap = h) (hsize : L.size = c.maxLocals) {ps : List FieldType} {rt : Option FieldType} (pd : parseMethodDescriptor y.desc = some ⟨ps, rt⟩) (hlen : argsL.length = ps.length) (hst : st = argsL.reverse ++ rest) (hW : (rest.map fun v => v.category).sum ≤ W)
    (hd : decode c.code pc = .ok (.invokestatic i, 3)) (hc : cells + rm.cells ≤ R.cells) (hn : slots + rm.slots ≤ R.slots)
    (k : ∀ T' L' v, Stand p l e R s m args below meth c T' (locs ++ L') (cells + rm.cells) (slots + rm.slots) → Q v T'.heap L' → Go p e below P (T'.setTop (mkF m (pc + 3) L (v.toList ++ rest)))) : Go p e below P (T.setTop (mkF m pc L st)) := by
  obtain ⟨v, _, ⟨T', L', k', n'⟩, -, X', ⟨Lc, hQ, l1, y1, z1⟩, q⟩ := Jvm.LawKit.callS X hx (y := y) hown (mvT hZ w1) (mvT hZ w2) (mvT hZ w3) (mvT hZ w4) hy (backOf (W := W) hM hZ w4 w3 hf hl) (g := mkF m pc L st) rfl hsize (argsL := argsL) (rest := rest) (lenOf pd hlen) hst (by show 2 * 0 + _ ≤ _; omega) hd (fun _ _ => ⟨rfl, eT, hc, hn⟩)
  dsimp only [Pt.U, Pt.locs, Pt.cells, Pt.slots] at X' l1 y1 z1 q hQ
  subst l1 y1 z1
  exact Go.via q (k T' Lc v X' hQ)
theorem callSpecial (X : Stand p l e R s m args below meth c T locs cells slots) (hx : p.tables.exec = Jvm.exec) (hZ : Z.Warmed39 s.vm) {own : String} {i : Nat} {y : MethodName} {bytes : ByteArray} {maxL : Nat} {rm : Room} {Q : Option Value → Heap → List Loc → Prop} (hy1 : y.name = "<init>")
    (hown : s.vm.findClass own = some m.cls) (w1 : (Cond.methodLink own i y).before a0 Z = true) (w2 : (Cond.instanceMethod y).before a0 Z = true) (w3 : (Cond.initialized y.cls).before a0 Z = true) (w4 : (Cond.code y bytes maxL none).before a0 Z = true) (hy : y.cls ≠ "java/lang/invoke/MethodHandle" ∧ y.cls ≠ "java/lang/invoke/VarHandle")
    (W : Nat) (a : Addr) (argsL rest : List Value) (hM : Ct l y bytes maxL none [] rm Z (.ref a :: argsL).toArray h Q) (hf : rm.frames + 1 ≤ R.frames) (hl : W + (maxL + 11) + rm.locals ≤ R.locals) (eT : T.heap = h) (hsize : L.size = c.maxLocals) {ps : List FieldType} {rt : Option FieldType} (pd : parseMethodDescriptor y.desc = some ⟨ps, rt⟩) (hlen : argsL.length = ps.length) (hst : st = argsL.reverse ++ .ref a :: rest) (hW : (rest.map fun v => v.category).sum ≤ W)
    (hd : decode c.code pc = .ok (.invokespecial i, 3)) (hc : cells + rm.cells ≤ R.cells) (hn : slots + rm.slots ≤ R.slots)
    (k : ∀ T' L' v, Stand p l e R s m args below meth c T' (locs ++ L') (cells + rm.cells) (slots + rm.slots) → Q v T'.heap L' → Go p e below P (T'.setTop (mkF m (pc + 3) L (v.toList ++ rest)))) : Go p e below P (T.setTop (mkF m pc L st)) := by
  obtain ⟨v, _, ⟨T', L', k', n'⟩, -, X', ⟨Lc, hQ, l1, y1, z1⟩, q⟩ := X.specialBack hx (y := y) hy1 hown (mvT hZ w1) (mvT hZ w2) (mvT hZ w4) hy (backOf (W := W) hM hZ w4 w3 hf hl) (g := mkF m pc L st) rfl hsize (Steps.refl _) (a := a) (argsL := argsL) (rest := rest) (lenOf pd hlen) hst (by show 2 * 0 + _ ≤ _; omega) hd (fun _ _ => ⟨rfl, eT, hc, hn⟩)
  dsimp only [Pt.U, Pt.locs, Pt.cells, Pt.slots] at X' l1 y1 z1 q hQ
  subst l1 y1 z1
  exact Go.tr q (k T' Lc v X' hQ)
theorem callVirtual (X : Stand p l e R s m args below meth c T locs cells slots) (hx : p.tables.exec = Jvm.exec) (hZ : Z.Warmed39 s.vm) {own C : String} {i : Nat} {y z : MethodName} {bytes : ByteArray} {maxL : Nat} {ret : Option FieldType} {rm : Room} {Q : Option Value → Heap → List Loc → Prop}
    (hown : s.vm.findClass own = some m.cls) (w1 : (Cond.methodLink own i y).before a0 Z = true) (w2 : (Cond.declares y).before a0 Z = true) (w3 : (Cond.selects C y z).before a0 Z = true) (w5 : (Cond.instanceMethod z).before a0 Z = true) (w6 : (Cond.initialized z.cls).before a0 Z = true) (w4 : (Cond.code z bytes maxL ret).before a0 Z = true) (w7 : (Cond.selects y.cls y y).before a0 Z = true) (hy : y.cls ≠ "java/lang/invoke/MethodHandle" ∧ y.cls ≠ "java/lang/invoke/VarHandle")
    (W : Nat) (a : Addr) (argsL rest : List Value) (E : Exa Z h a C) (hM : Ct l z bytes maxL ret [] rm Z (.ref a :: argsL).toArray h Q) (hf : rm.frames + 1 ≤ R.frames) (hl : W + (maxL + 11) + rm.locals ≤ R.locals) (eT : T.heap = h) (hsize : L.size = c.maxLocals) {ps : List FieldType} {rt : Option FieldType} (pd : parseMethodDescriptor y.desc = some ⟨ps, rt⟩) (hlen : argsL.length = ps.length) (hst : st = argsL.reverse ++ .ref a :: rest) (hW : (rest.map fun v => v.category).sum ≤ W)
    (hd : decode c.code pc = .ok (.invokevirtual i, 3)) (hc : cells + rm.cells ≤ R.cells) (hn : slots + rm.slots ≤ R.slots)
    (k : ∀ T' L' v, Stand p l e R s m args below meth c T' (locs ++ L') (cells + rm.cells) (slots + rm.slots) → Q v T'.heap L' → Go p e below P (T'.setTop (mkF m (pc + 3) L (v.toList ++ rest)))) : Go p e below P (T.setTop (mkF m pc L st)) := by
  obtain ⟨cq, kq, qa, qb, qc⟩ := isOf hZ eT E
  obtain ⟨v, _, ⟨T', L', k', n'⟩, -, X', ⟨Lc, hQ, l1, y1, z1⟩, q⟩ := X.virtualBack hx (y := y) (z := z) hown (mvT hZ w1) (mvT hZ w2) (notFace_of_selects (args := #[]) (mvT hZ w7)) (mvT hZ w3) (mvT hZ w5) hy (backOf (W := W) hM hZ w4 w6 hf hl) qa qc (g := mkF m pc L st) rfl hsize (Steps.refl _) (argsL := argsL) (rest := rest) (lenOf pd hlen) hst (by show 2 * 0 + _ ≤ _; omega) hd (fun _ _ => ⟨rfl, eT, hc, hn⟩)
  dsimp only [Pt.U, Pt.locs, Pt.cells, Pt.slots] at X' l1 y1 z1 q hQ
  subst l1 y1 z1
  exact Go.tr q (k T' Lc v X' hQ)
theorem callPrivate (X : Stand p l e R s m args below meth c T locs cells slots) (hx : p.tables.exec = Jvm.exec) (hZ : Z.Warmed39 s.vm) {own C : String} {i kk : Nat} {y : MethodName} {bytes : ByteArray} {maxL : Nat} {ret : Option FieldType} {rm : Room} {Q : Option Value → Heap → List Loc → Prop}
    (hown : s.vm.findClass own = some m.cls) (w1 : (Cond.methodLink own i y).before a0 Z = true) (w2 : (Cond.instanceMethod y).before a0 Z = true) (w3 : (Cond.privateMethod y).before a0 Z = true) (w5 : (Cond.instantiable y.cls kk).before a0 Z = true) (w6 : (Cond.initialized y.cls).before a0 Z = true) (w4 : (Cond.code y bytes maxL ret).before a0 Z = true) (hy : y.cls ≠ "java/lang/invoke/MethodHandle" ∧ y.cls ≠ "java/lang/invoke/VarHandle")
    (W : Nat) (a : Addr) (argsL rest : List Value) (E : Exa Z h a C) (hM : Ct l y bytes maxL ret [] rm Z (.ref a :: argsL).toArray h Q) (hf : rm.frames + 1 ≤ R.frames) (hl : W + (maxL + 11) + rm.locals ≤ R.locals) (eT : T.heap = h) (hsize : L.size = c.maxLocals) {ps : List FieldType} {rt : Option FieldType} (pd : parseMethodDescriptor y.desc = some ⟨ps, rt⟩) (hlen : argsL.length = ps.length) (hst : st = argsL.reverse ++ .ref a :: rest) (hW : (rest.map fun v => v.category).sum ≤ W)
    (hd : decode c.code pc = .ok (.invokevirtual i, 3)) (hc : cells + rm.cells ≤ R.cells) (hn : slots + rm.slots ≤ R.slots)
    (k : ∀ T' L' v, Stand p l e R s m args below meth c T' (locs ++ L') (cells + rm.cells) (slots + rm.slots) → Q v T'.heap L' → Go p e below P (T'.setTop (mkF m (pc + 3) L (v.toList ++ rest)))) : Go p e below P (T.setTop (mkF m pc L st)) := by
  have hP : s.PrivateAt y := Cond.privateMethod_at (args := #[]) (mvP hZ w3)
  have hsel : (Cond.selects y.cls y y).before args s = true := by
    have q : (Cond.instantiable y.cls kk).before args s = true := mvT hZ w5
    obtain ⟨c2, k2, i1, i2, -, i4, -⟩ := Cond.instantiable_spec q
    rw [Bool.or_eq_false_iff] at i4
    exact selects_self_of_private i1 i2 i4.1 hP (mvT hZ w2) hy
  obtain ⟨ce, he1, he2⟩ := E.cell
  obtain ⟨v, _, ⟨T', L', k', n'⟩, -, X', ⟨Lc, hQ, l1, y1, z1⟩, q⟩ := X.privateBack hx (y := y) hown (mvT hZ w1) (mvT hZ w2) hsel hP (mvT hZ w4) hy (backOf (W := W) hM hZ w4 w6 hf hl) (g := mkF m pc L st) rfl hsize (Steps.refl _) (a := a) (cell := ce) (by rw [eT]; exact he1) he2 (argsL := argsL) (rest := rest) (lenOf pd hlen) hst (by show 2 * 0 + _ ≤ _; omega) hd (fun _ _ => ⟨rfl, eT, hc, hn⟩)
  dsimp only [Pt.U, Pt.locs, Pt.cells, Pt.slots] at X' l1 y1 z1 q hQ
  subst l1 y1 z1
  exact Go.tr q (k T' Lc v X' hQ)
theorem getstatic (X : Stand p l e R s m args below meth c T locs cells slots) (hx : p.tables.exec = Jvm.exec) (hZ : Z.Warmed39 s.vm) {own R0 O n d : String} {i : Nat} (hown : s.vm.findClass own = some m.cls) (w : (Cond.fieldLink own i R0 n d).before a0 Z = true) (via : Via Z R0 O n d)
    (eT : T.heap = h) {v : Value} (F : Sta Z h O n d v) (hd : decode c.code pc = .ok (.getstatic i, 3)) (k : ∀ T', Stand p l e R s m args below meth c T' locs cells slots → T'.heap = h → Go p e below P (T'.setTop (mkF m (pc + 3) L (v :: st)))) : Go p e below P (T.setTop (mkF m pc L st)) := by
  obtain ⟨T', X', e', q⟩ := getS X hx hZ (host := "") hown w via eT F (g := mkF m pc L st) rfl hd
  exact Go.via q (k T' X' e')
theorem ldcFloat (X : Stand p l e R s m args below meth c T locs cells slots) (hx : p.tables.exec = Jvm.exec) (hZ : Z.Warmed39 s.vm) {own : String} {i : Nat} {b : UInt32} (hown : s.vm.findClass own = some m.cls) (w : (Cond.constantFloat own i b).before a0 Z = true) (hd : decode c.code pc = .ok (.ldc i, 2)) (k : Go p e below P (T.setTop (mkF m (pc + 2) L (.float b :: st)))) : Go p e below P (T.setTop (mkF m pc L st)) := Go.via (fun t q => X.ldcFloatC hx hown (mvT hZ w) (g := mkF m pc L st) rfl hd t q) k
theorem staKeep {O n d C : String} {v : Value} {h' : Heap} {a : Addr} (F : Sta Z h O n d v) (K : Keep h h' [a]) (E : Exa Z h a C) : Sta Z h' O n d v := by
  obtain ⟨cf, i, k, f, st, cell, h1, h2, h3, h4, h5, h6, h7⟩ := F
  obtain ⟨c2, k2, e1, -, -, e4, -⟩ := E
  have ne : st ∉ [a] := fun q => by
    cases List.mem_singleton.mp q
    cases h5.symm.trans e1
    rw [h6] at e4; cases e4
  exact ⟨cf, i, k, f, st, cell, h1, h2, h3, h4, K.2.1 _ _ h5 ne, h6, h7⟩
end Walk
end Jvm.Own
namespace Jvm.Pilot.@@N@@
open Jvm Jvm.ClassFile Sem Op Lib Jvm.Free Jvm.Stand Jvm.LawKit Jvm.RoadKit Bundle Jvm.Pilot.@@N@@.Jvm.D
theorem Wd {a0 : Array Value} {Z : State} (hw : ∀ d ∈ tables_1, d.before a0 Z = true) (i : Nat) {d : Jvm.Cond} (h : tables_1[i]? = some d) : d.before a0 Z = true := hw _ (List.mem_of_getElem? h)

def own_kr (l i n : Int32) : Int64 := if i < n ∧ ¬ l < 1 then (1 : Int64) <<< (Int32.toInt64 ((63 : Int32) - l) &&& 63) else 0
def own_part (t s n lt ls : Int32) : Int64 := if ¬ t < n ∨ t = s then 0 else if ¬ lt < 1 ∧ lt < ls then (1 : Int64) <<< (Int32.toInt64 (ls - lt) &&& 63) else if lt = ls ∧ t < s then 1 else 0
def own_ex (l0 l1 l2 l3 s n ls : Int32) : Int64 := ((own_part 0 s n l0 ls + own_part 1 s n l1 ls) + own_part 2 s n l2 ls) + own_part 3 s n l3 ls
def own_cl (f : Nat → Int64) : List Value := (List.range 64).map (fun k => Value.long (f k))
def own_up (f : Nat → Int64) (x k : Nat) : Int64 := if k = x then f k + 1 else f k
def own_fst (f : Nat → Int64) : Nat → Int64
  | 0 => 0
  | j + 1 => (own_fst f j + f (j + 1)) <<< (Int32.toInt64 (1 : Int32) &&& 63)
def own_mid (f : Nat → Int64) (j k : Nat) : Int64 := if k = 0 then f 0 else if k ≤ j then own_fst f (k - 1) else f k
theorem own_get {f : Nat → Int64} {i : Nat} (h : i < 64) : (own_cl f)[i]? = some (.long (f i)) := by simp [own_cl, h]
theorem own_len (f : Nat → Int64) : (own_cl f).length = 64 := by simp [own_cl]
theorem own_lext {f g : Nat → Int64} (h : ∀ k, k < 64 → f k = g k) : own_cl f = own_cl g := by
  refine List.map_congr_left fun k hk => ?_
  rw [h k (List.mem_range.mp hk)]
theorem own_lset {f g : Nat → Int64} {i : Nat} {x : Int64} (h : i < 64) (hi : g i = x) (ho : ∀ k, k < 64 → k ≠ i → g k = f k) : (own_cl f).set i (.long x) = own_cl g := by
  refine List.ext_getElem? fun k => ?_
  rw [List.getElem?_set]
  by_cases e : i = k
  · subst e; rw [if_pos rfl, if_pos (by rw [own_len]; exact h), own_get h, hi]
  · rw [if_neg e]
    by_cases hk : k < 64
    · rw [own_get hk, own_get hk, ho k hk (Ne.symm e)]
    · rw [List.getElem?_eq_none (by rw [own_len]; omega), List.getElem?_eq_none (by rw [own_len]; omega)]
theorem own_upset {f : Nat → Int64} {i : Nat} (h : i < 64) : (own_cl f).set i (.long (f i + 1)) = own_cl (own_up f i) := own_lset h (by simp [own_up]) fun k _ e => by simp [own_up, e]
theorem own_mget {f : Nat → Int64} {j : Nat} (h : j + 1 < 64) : (own_cl (own_mid f j))[j + 1]? = some (.long (f (j + 1))) := by
  rw [own_get h]; simp only [own_mid]; rw [if_neg (by omega), if_neg (by omega)]
theorem own_mset {f : Nat → Int64} {j : Nat} (h : j + 1 < 64) : (own_cl (own_mid f j)).set (j + 1) (.long (own_fst f j)) = own_cl (own_mid f (j + 1)) := own_lset h (by simp [own_mid]) fun k _ e => by
  simp only [own_mid]
  by_cases q : k = 0
  · rw [if_pos q, if_pos q]
  · rw [if_neg q, if_neg q]
    by_cases r : k ≤ j
    · rw [if_pos r, if_pos (by omega)]
    · rw [if_neg r, if_neg (by omega)]
theorem own_m0 (f : Nat → Int64) : own_cl f = own_cl (own_mid f 0) := own_lext fun k _ => by
  simp only [own_mid]
  by_cases q : k = 0
  · rw [if_pos q, q]
  · rw [if_neg q, if_neg (by omega)]
theorem own_of {i : Nat} (h : i < 100) : (Int32.ofNat i).toInt = i := Int32.toInt_ofNat_small (by omega)
theorem own_ocl {i : Nat} (h : i < 100) : (Int32.ofNat i).toNatClampNeg = i := by
  have e : (Int32.ofNat i).toNatClampNeg = (Int32.ofNat i).toInt.toNat := rfl
  rw [e, own_of h]; simp
theorem own_onn {i : Nat} (h : i < 100) : ¬ Int32.ofNat i < 0 := fun q => by
  have := Int32.lt_iff_toInt_lt.mp q
  rw [own_of h] at this
  have h0 : (0 : Int32).toInt = 0 := by decide
  omega
theorem own_64 {i : Nat} (h : i < 100) : Int32.ofNat i < (64 : Int32) ↔ i < 64 := by
  rw [Int32.lt_iff_toInt_lt, own_of h]
  have h0 : (64 : Int32).toInt = 64 := by decide
  omega
theorem own_inc (i : Nat) : Int32.ofNat i + (1 : Int32) = Int32.ofNat (i + 1) := by rw [Int32.ofNat_add]; rfl
theorem own_nn {x : Int32} (h : 0 ≤ x.toInt) : ¬ x < 0 := fun q => by
  have := Int32.lt_iff_toInt_lt.mp q
  have h0 : (0 : Int32).toInt = 0 := by decide
  omega
theorem own_c {x : Int32} (h : 0 ≤ x.toInt ∧ x.toInt < 64) : x.toNatClampNeg < 64 := by
  have e : x.toNatClampNeg = x.toInt.toNat := rfl
  rw [e]; omega
theorem own_l (a : Int32) : 0 ≤ (a &&& (63 : Int32)).toInt ∧ (a &&& (63 : Int32)).toInt < 64 := by
  have h := c_and a 63 (by decide)
  have h3 : (63 : Int32).toInt = 63 := by decide
  omega
theorem own_n (p : Int32) {x : Int32} (e : (p &&& (7 : Int32)) % (5 : Int32) = x) : x = 0 ∨ x = 1 ∨ x = 2 ∨ x = 3 ∨ x = 4 := by
  have h := c_and p 7 (by decide)
  have h5 : (5 : Int32).toInt = 5 := by decide
  have c := (c_iremV (p &&& (7 : Int32)) (5 : Int32)).1 h.1 (by omega)
  rw [e] at c
  have q : x.toInt = 0 ∨ x.toInt = 1 ∨ x.toInt = 2 ∨ x.toInt = 3 ∨ x.toInt = 4 := by omega
  simp only [← Int32.toInt_inj]
  exact q
theorem own_and63 (q : Int32) : q.toInt64 &&& 63 = (q &&& 0x3f).toInt64 := by rw [Int32.toInt64_and]; rfl
theorem own_ushrL0 (x : Int64) (q : Int32) : XT.ushrL x q = (x.toUInt64 >>> (q &&& 0x3f).toInt64.toUInt64).toInt64 := by
  rw [← own_and63]; rfl
theorem own_ushrL (x : Int64) (q : Int32) (k : Nat) (hk : q.toBitVec.toNat % 64 = k) (h0 : 0 < k) : (XT.ushrL x q).toInt = (x.toInt % 18446744073709551616) / (2 ^ k : Nat) := by
  rw [own_ushrL0]; exact c_lushr x q k hk h0
theorem own_shl (x : Int64) (q : Int32) (k : Nat) (hk : q.toBitVec.toNat % 64 = k) : ((x <<< (q.toInt64 &&& 63)).toInt - x.toInt * (2 ^ k : Nat)) % 18446744073709551616 = 0 := by
  rw [own_and63]; exact c_lshl x q k hk

theorem own_sl (x : Int64) : x <<< (Int32.toInt64 (1 : Int32) &&& 63) = x + x := by
  have a := own_shl x (1 : Int32) 1 (by decide)
  have b := c_ladd x x
  have c := rng64 (x + x)
  have d := rng64 (x <<< (Int32.toInt64 (1 : Int32) &&& 63))
  apply Int64.toInt_inj.mp
  omega
def own_pw (m : Nat) : Int64 := (1 : Int64) <<< (Int32.toInt64 (Int32.ofNat m) &&& 63)
theorem own_pws (m : Nat) (h : m < 63) : own_pw m + own_pw m = own_pw (m + 1) := by
  have q : ∀ i : Fin 63, own_pw i.val + own_pw i.val = own_pw (i.val + 1) := by decide +kernel
  exact q ⟨m, h⟩
def own_dl (x j : Nat) : Int64 := if 1 ≤ x ∧ x ≤ j then own_pw (j + 1 - x) else 0
def own_e (x k : Nat) : Int64 := if k = x then 1 else 0
theorem own_upv (f : Nat → Int64) (x k : Nat) : own_up f x k = f k + own_e x k := by
  simp only [own_up, own_e]
  by_cases q : k = x
  · rw [if_pos q, if_pos q]
  · rw [if_neg q, if_neg q]; simp
theorem own_fst0 : ∀ j, own_fst (fun _ => 0) j = 0
  | 0 => rfl
  | j + 1 => by simp only [own_fst]; rw [own_fst0 j]; rfl
theorem own_dls (x j : Nat) (h : j + 1 ≤ 62) : (own_dl x j + own_e x (j + 1)) + (own_dl x j + own_e x (j + 1)) = own_dl x (j + 1) := by
  simp only [own_dl, own_e]
  by_cases a : 1 ≤ x ∧ x ≤ j
  · rw [if_pos a, if_neg (by omega), if_pos (by omega)]
    simp only [Int64.add_zero]
    rw [own_pws _ (by omega)]
    congr 1
    omega
  · rw [if_neg a]
    by_cases b : j + 1 = x
    · rw [if_pos b, if_pos (by omega), ← b]
      have : j + 1 + 1 - (j + 1) = 1 := by omega
      rw [this]; decide
    · rw [if_neg b, if_neg (by omega)]; rfl
theorem own_fup (f : Nat → Int64) (x : Nat) : ∀ j, j ≤ 62 → own_fst (own_up f x) j = own_fst f j + own_dl x j
  | 0, _ => by
    have : own_dl x 0 = 0 := by simp only [own_dl]; rw [if_neg (by omega)]
    rw [this]; rfl
  | j + 1, h => by
    simp only [own_fst]
    rw [own_fup f x j (by omega), own_upv, own_sl, own_sl, ← own_dls x j h]
    ac_rfl
theorem own_midv (f : Nat → Int64) (k : Nat) (h1 : 1 ≤ k) (h2 : k < 64) : own_mid f 63 k = own_fst f (k - 1) := by
  simp only [own_mid]
  rw [if_neg (by omega), if_pos (by omega)]
theorem own_cn (x : Int32) : x.toNatClampNeg = x.toInt.toNat := rfl
theorem own_z {x : Int32} (h : 0 ≤ x.toInt ∧ x.toInt < 64) (z : ¬ x = 0) : 1 ≤ x.toNatClampNeg ∧ x.toNatClampNeg < 64 := by
  rw [own_cn]
  have : x.toInt ≠ 0 := fun q => z (Int32.toInt_inj.mp q)
  omega
theorem own_pwd {a b : Int32} (ha : 0 ≤ a.toInt ∧ a.toInt < 64) (hb : 0 ≤ b.toInt ∧ b.toInt < 64) (h : a.toInt ≤ b.toInt) : (1 : Int64) <<< (Int32.toInt64 (b - a) &&& 63) = own_pw (b.toNatClampNeg - a.toNatClampNeg) := by
  have e : b - a = Int32.ofNat (b.toNatClampNeg - a.toNatClampNeg) := by
    apply Int32.toInt_inj.mp
    rw [own_cn, own_cn, own_of (by omega)]
    have c := c_isub b a
    have r := rng32 (b - a)
    omega
  rw [e]; rfl
theorem own_lt1 (x : Int32) : x < 1 ↔ x.toInt < 1 := by rw [Int32.lt_iff_toInt_lt]; rfl
theorem own_pC {t s n a b : Int32} (h : ¬ t < n ∨ t = s) : own_part t s n a b = 0 := by simp only [own_part]; rw [if_pos h]
theorem own_pA {t s n a b : Int32} (ha : 0 ≤ a.toInt ∧ a.toInt < 64) (hb : 0 ≤ b.toInt ∧ b.toInt < 64) (hz : ¬ b = 0) (h : ¬ (¬ t < n ∨ t = s)) (hts : t < s) : own_part t s n a b = own_dl a.toNatClampNeg (b.toNatClampNeg - 1) + own_e a.toNatClampNeg b.toNatClampNeg := by
  have z := own_z hb hz
  simp only [own_part, own_dl, own_e]
  rw [if_neg h]
  rw [own_cn] at z
  by_cases q : ¬ a < 1 ∧ a < b
  · have q1 := q
    rw [own_lt1, Int32.lt_iff_toInt_lt] at q1
    rw [if_pos q, if_pos (by rw [own_cn, own_cn]; omega), if_neg (by rw [own_cn, own_cn]; omega), own_pwd ha hb (by omega)]
    simp only [Int64.add_zero]
    congr 1
    rw [own_cn, own_cn]; omega
  · have q1 := q
    rw [own_lt1, Int32.lt_iff_toInt_lt] at q1
    by_cases r : a = b
    · rw [if_neg q, if_pos ⟨r, hts⟩, if_neg (by rw [own_cn, own_cn]; omega), if_pos (by rw [r])]; rfl
    · rw [if_neg q, if_neg (fun w => r w.1), if_neg (by rw [own_cn, own_cn]; omega), if_neg (by rw [own_cn, own_cn]; exact fun w => r (Int32.toInt_inj.mp (by omega)))]; rfl
theorem own_pB {t s n a b : Int32} (ha : 0 ≤ a.toInt ∧ a.toInt < 64) (hb : 0 ≤ b.toInt ∧ b.toInt < 64) (hz : ¬ b = 0) (h : ¬ (¬ t < n ∨ t = s)) (hts : ¬ t < s) : own_part t s n a b = own_dl a.toNatClampNeg (b.toNatClampNeg - 1) := by
  have z := own_z hb hz
  simp only [own_part, own_dl]
  rw [if_neg h]
  rw [own_cn] at z
  by_cases q : ¬ a < 1 ∧ a < b
  · have q1 := q
    rw [own_lt1, Int32.lt_iff_toInt_lt] at q1
    rw [if_pos q, if_pos (by rw [own_cn, own_cn]; omega), own_pwd ha hb (by omega)]
    congr 1
    rw [own_cn, own_cn]; omega
  · have q1 := q
    rw [own_lt1, Int32.lt_iff_toInt_lt] at q1
    rw [if_neg q, if_neg (fun w => hts w.2), if_neg (by rw [own_cn, own_cn]; omega)]
theorem own_dself {b : Int32} (hb : 0 ≤ b.toInt ∧ b.toInt < 64) : own_dl b.toNatClampNeg (b.toNatClampNeg - 1) = 0 := by
  simp only [own_dl]
  rw [if_neg (by omega)]

theorem own_num1_0 (l0 l1 l2 l3 : Int32) (h0 : 0 ≤ l0.toInt ∧ l0.toInt < 64) (h1 : 0 ≤ l1.toInt ∧ l1.toInt < 64) (h2 : 0 ≤ l2.toInt ∧ l2.toInt < 64) (h3 : 0 ≤ l3.toInt ∧ l3.toInt < 64) : l0 = 0 ∨ ((own_mid (own_up (fun _ => 0) l0.toNatClampNeg) 63) l0.toNatClampNeg) = own_ex l0 l1 l2 l3 (0 : Int32) (1 : Int32) l0 := by
  by_cases z : l0 = 0
  · exact Or.inl z
  · right
    have k := own_z h0 z
    have p0 : own_part (0 : Int32) (0 : Int32) (1 : Int32) l0 l0 = 0 := own_pC (by decide)
    have p1 : own_part (1 : Int32) (0 : Int32) (1 : Int32) l1 l0 = 0 := own_pC (by decide)
    have p2 : own_part (2 : Int32) (0 : Int32) (1 : Int32) l2 l0 = 0 := own_pC (by decide)
    have p3 : own_part (3 : Int32) (0 : Int32) (1 : Int32) l3 l0 = 0 := own_pC (by decide)
    have d := own_dself h0
    have j : l0.toNatClampNeg - 1 ≤ 62 := by omega
    rw [own_midv _ _ k.1 k.2, own_fup _ _ _ j, own_fst0]
    simp only [own_ex, p0, p1, p2, p3, d, Int64.add_zero, Int64.zero_add]
    try ac_rfl
theorem own_num2_0 (l0 l1 l2 l3 : Int32) (h0 : 0 ≤ l0.toInt ∧ l0.toInt < 64) (h1 : 0 ≤ l1.toInt ∧ l1.toInt < 64) (h2 : 0 ≤ l2.toInt ∧ l2.toInt < 64) (h3 : 0 ≤ l3.toInt ∧ l3.toInt < 64) : l0 = 0 ∨ ((own_mid (own_up (own_up (fun _ => 0) l0.toNatClampNeg) l1.toNatClampNeg) 63) l0.toNatClampNeg) = own_ex l0 l1 l2 l3 (0 : Int32) (2 : Int32) l0 := by
  by_cases z : l0 = 0
  · exact Or.inl z
  · right
    have k := own_z h0 z
    have p0 : own_part (0 : Int32) (0 : Int32) (2 : Int32) l0 l0 = 0 := own_pC (by decide)
    have p1 := own_pB (t := (1 : Int32)) (s := (0 : Int32)) (n := (2 : Int32)) h1 h0 z (by decide) (by decide)
    have p2 : own_part (2 : Int32) (0 : Int32) (2 : Int32) l2 l0 = 0 := own_pC (by decide)
    have p3 : own_part (3 : Int32) (0 : Int32) (2 : Int32) l3 l0 = 0 := own_pC (by decide)
    have d := own_dself h0
    have j : l0.toNatClampNeg - 1 ≤ 62 := by omega
    rw [own_midv _ _ k.1 k.2, own_fup _ _ _ j, own_fup _ _ _ j, own_fst0]
    simp only [own_ex, p0, p1, p2, p3, d, Int64.add_zero, Int64.zero_add]
    try ac_rfl
theorem own_num2_1 (l0 l1 l2 l3 : Int32) (h0 : 0 ≤ l0.toInt ∧ l0.toInt < 64) (h1 : 0 ≤ l1.toInt ∧ l1.toInt < 64) (h2 : 0 ≤ l2.toInt ∧ l2.toInt < 64) (h3 : 0 ≤ l3.toInt ∧ l3.toInt < 64) : l1 = 0 ∨ ((own_up (own_mid (own_up (own_up (fun _ => 0) l0.toNatClampNeg) l1.toNatClampNeg) 63) l0.toNatClampNeg) l1.toNatClampNeg) = own_ex l0 l1 l2 l3 (1 : Int32) (2 : Int32) l1 := by
  by_cases z : l1 = 0
  · exact Or.inl z
  · right
    have k := own_z h1 z
    have p0 := own_pA (t := (0 : Int32)) (s := (1 : Int32)) (n := (2 : Int32)) h0 h1 z (by decide) (by decide)
    have p1 : own_part (1 : Int32) (1 : Int32) (2 : Int32) l1 l1 = 0 := own_pC (by decide)
    have p2 : own_part (2 : Int32) (1 : Int32) (2 : Int32) l2 l1 = 0 := own_pC (by decide)
    have p3 : own_part (3 : Int32) (1 : Int32) (2 : Int32) l3 l1 = 0 := own_pC (by decide)
    have d := own_dself h1
    have j : l1.toNatClampNeg - 1 ≤ 62 := by omega
    rw [own_upv, own_midv _ _ k.1 k.2, own_fup _ _ _ j, own_fup _ _ _ j, own_fst0]
    simp only [own_ex, p0, p1, p2, p3, d, Int64.add_zero, Int64.zero_add]
    try ac_rfl
theorem own_num3_0 (l0 l1 l2 l3 : Int32) (h0 : 0 ≤ l0.toInt ∧ l0.toInt < 64) (h1 : 0 ≤ l1.toInt ∧ l1.toInt < 64) (h2 : 0 ≤ l2.toInt ∧ l2.toInt < 64) (h3 : 0 ≤ l3.toInt ∧ l3.toInt < 64) : l0 = 0 ∨ ((own_mid (own_up (own_up (own_up (fun _ => 0) l0.toNatClampNeg) l1.toNatClampNeg) l2.toNatClampNeg) 63) l0.toNatClampNeg) = own_ex l0 l1 l2 l3 (0 : Int32) (3 : Int32) l0 := by
  by_cases z : l0 = 0
  · exact Or.inl z
  · right
    have k := own_z h0 z
    have p0 : own_part (0 : Int32) (0 : Int32) (3 : Int32) l0 l0 = 0 := own_pC (by decide)
    have p1 := own_pB (t := (1 : Int32)) (s := (0 : Int32)) (n := (3 : Int32)) h1 h0 z (by decide) (by decide)
    have p2 := own_pB (t := (2 : Int32)) (s := (0 : Int32)) (n := (3 : Int32)) h2 h0 z (by decide) (by decide)
    have p3 : own_part (3 : Int32) (0 : Int32) (3 : Int32) l3 l0 = 0 := own_pC (by decide)
    have d := own_dself h0
    have j : l0.toNatClampNeg - 1 ≤ 62 := by omega
    rw [own_midv _ _ k.1 k.2, own_fup _ _ _ j, own_fup _ _ _ j, own_fup _ _ _ j, own_fst0]
    simp only [own_ex, p0, p1, p2, p3, d, Int64.add_zero, Int64.zero_add]
    try ac_rfl
theorem own_num3_1 (l0 l1 l2 l3 : Int32) (h0 : 0 ≤ l0.toInt ∧ l0.toInt < 64) (h1 : 0 ≤ l1.toInt ∧ l1.toInt < 64) (h2 : 0 ≤ l2.toInt ∧ l2.toInt < 64) (h3 : 0 ≤ l3.toInt ∧ l3.toInt < 64) : l1 = 0 ∨ ((own_up (own_mid (own_up (own_up (own_up (fun _ => 0) l0.toNatClampNeg) l1.toNatClampNeg) l2.toNatClampNeg) 63) l0.toNatClampNeg) l1.toNatClampNeg) = own_ex l0 l1 l2 l3 (1 : Int32) (3 : Int32) l1 := by
  by_cases z : l1 = 0
  · exact Or.inl z
  · right
    have k := own_z h1 z
    have p0 := own_pA (t := (0 : Int32)) (s := (1 : Int32)) (n := (3 : Int32)) h0 h1 z (by decide) (by decide)
    have p1 : own_part (1 : Int32) (1 : Int32) (3 : Int32) l1 l1 = 0 := own_pC (by decide)
    have p2 := own_pB (t := (2 : Int32)) (s := (1 : Int32)) (n := (3 : Int32)) h2 h1 z (by decide) (by decide)
    have p3 : own_part (3 : Int32) (1 : Int32) (3 : Int32) l3 l1 = 0 := own_pC (by decide)
    have d := own_dself h1
    have j : l1.toNatClampNeg - 1 ≤ 62 := by omega
    rw [own_upv, own_midv _ _ k.1 k.2, own_fup _ _ _ j, own_fup _ _ _ j, own_fup _ _ _ j, own_fst0]
    simp only [own_ex, p0, p1, p2, p3, d, Int64.add_zero, Int64.zero_add]
    try ac_rfl
theorem own_num3_2 (l0 l1 l2 l3 : Int32) (h0 : 0 ≤ l0.toInt ∧ l0.toInt < 64) (h1 : 0 ≤ l1.toInt ∧ l1.toInt < 64) (h2 : 0 ≤ l2.toInt ∧ l2.toInt < 64) (h3 : 0 ≤ l3.toInt ∧ l3.toInt < 64) : l2 = 0 ∨ ((own_up (own_up (own_mid (own_up (own_up (own_up (fun _ => 0) l0.toNatClampNeg) l1.toNatClampNeg) l2.toNatClampNeg) 63) l0.toNatClampNeg) l1.toNatClampNeg) l2.toNatClampNeg) = own_ex l0 l1 l2 l3 (2 : Int32) (3 : Int32) l2 := by
  by_cases z : l2 = 0
  · exact Or.inl z
  · right
    have k := own_z h2 z
    have p0 := own_pA (t := (0 : Int32)) (s := (2 : Int32)) (n := (3 : Int32)) h0 h2 z (by decide) (by decide)
    have p1 := own_pA (t := (1 : Int32)) (s := (2 : Int32)) (n := (3 : Int32)) h1 h2 z (by decide) (by decide)
    have p2 : own_part (2 : Int32) (2 : Int32) (3 : Int32) l2 l2 = 0 := own_pC (by decide)
    have p3 : own_part (3 : Int32) (2 : Int32) (3 : Int32) l3 l2 = 0 := own_pC (by decide)
    have d := own_dself h2
    have j : l2.toNatClampNeg - 1 ≤ 62 := by omega
    rw [own_upv, own_upv, own_midv _ _ k.1 k.2, own_fup _ _ _ j, own_fup _ _ _ j, own_fup _ _ _ j, own_fst0]
    simp only [own_ex, p0, p1, p2, p3, d, Int64.add_zero, Int64.zero_add]
    try ac_rfl
theorem own_num4_0 (l0 l1 l2 l3 : Int32) (h0 : 0 ≤ l0.toInt ∧ l0.toInt < 64) (h1 : 0 ≤ l1.toInt ∧ l1.toInt < 64) (h2 : 0 ≤ l2.toInt ∧ l2.toInt < 64) (h3 : 0 ≤ l3.toInt ∧ l3.toInt < 64) : l0 = 0 ∨ ((own_mid (own_up (own_up (own_up (own_up (fun _ => 0) l0.toNatClampNeg) l1.toNatClampNeg) l2.toNatClampNeg) l3.toNatClampNeg) 63) l0.toNatClampNeg) = own_ex l0 l1 l2 l3 (0 : Int32) (4 : Int32) l0 := by
  by_cases z : l0 = 0
  · exact Or.inl z
  · right
    have k := own_z h0 z
    have p0 : own_part (0 : Int32) (0 : Int32) (4 : Int32) l0 l0 = 0 := own_pC (by decide)
    have p1 := own_pB (t := (1 : Int32)) (s := (0 : Int32)) (n := (4 : Int32)) h1 h0 z (by decide) (by decide)
    have p2 := own_pB (t := (2 : Int32)) (s := (0 : Int32)) (n := (4 : Int32)) h2 h0 z (by decide) (by decide)
    have p3 := own_pB (t := (3 : Int32)) (s := (0 : Int32)) (n := (4 : Int32)) h3 h0 z (by decide) (by decide)
    have d := own_dself h0
    have j : l0.toNatClampNeg - 1 ≤ 62 := by omega
    rw [own_midv _ _ k.1 k.2, own_fup _ _ _ j, own_fup _ _ _ j, own_fup _ _ _ j, own_fup _ _ _ j, own_fst0]
    simp only [own_ex, p0, p1, p2, p3, d, Int64.add_zero, Int64.zero_add]
    try ac_rfl
theorem own_num4_1 (l0 l1 l2 l3 : Int32) (h0 : 0 ≤ l0.toInt ∧ l0.toInt < 64) (h1 : 0 ≤ l1.toInt ∧ l1.toInt < 64) (h2 : 0 ≤ l2.toInt ∧ l2.toInt < 64) (h3 : 0 ≤ l3.toInt ∧ l3.toInt < 64) : l1 = 0 ∨ ((own_up (own_mid (own_up (own_up (own_up (own_up (fun _ => 0) l0.toNatClampNeg) l1.toNatClampNeg) l2.toNatClampNeg) l3.toNatClampNeg) 63) l0.toNatClampNeg) l1.toNatClampNeg) = own_ex l0 l1 l2 l3 (1 : Int32) (4 : Int32) l1 := by
  by_cases z : l1 = 0
  · exact Or.inl z
  · right
    have k := own_z h1 z
    have p0 := own_pA (t := (0 : Int32)) (s := (1 : Int32)) (n := (4 : Int32)) h0 h1 z (by decide) (by decide)
    have p1 : own_part (1 : Int32) (1 : Int32) (4 : Int32) l1 l1 = 0 := own_pC (by decide)
    have p2 := own_pB (t := (2 : Int32)) (s := (1 : Int32)) (n := (4 : Int32)) h2 h1 z (by decide) (by decide)
    have p3 := own_pB (t := (3 : Int32)) (s := (1 : Int32)) (n := (4 : Int32)) h3 h1 z (by decide) (by decide)
    have d := own_dself h1
    have j : l1.toNatClampNeg - 1 ≤ 62 := by omega
    rw [own_upv, own_midv _ _ k.1 k.2, own_fup _ _ _ j, own_fup _ _ _ j, own_fup _ _ _ j, own_fup _ _ _ j, own_fst0]
    simp only [own_ex, p0, p1, p2, p3, d, Int64.add_zero, Int64.zero_add]
    try ac_rfl
theorem own_num4_2 (l0 l1 l2 l3 : Int32) (h0 : 0 ≤ l0.toInt ∧ l0.toInt < 64) (h1 : 0 ≤ l1.toInt ∧ l1.toInt < 64) (h2 : 0 ≤ l2.toInt ∧ l2.toInt < 64) (h3 : 0 ≤ l3.toInt ∧ l3.toInt < 64) : l2 = 0 ∨ ((own_up (own_up (own_mid (own_up (own_up (own_up (own_up (fun _ => 0) l0.toNatClampNeg) l1.toNatClampNeg) l2.toNatClampNeg) l3.toNatClampNeg) 63) l0.toNatClampNeg) l1.toNatClampNeg) l2.toNatClampNeg) = own_ex l0 l1 l2 l3 (2 : Int32) (4 : Int32) l2 := by
  by_cases z : l2 = 0
  · exact Or.inl z
  · right
    have k := own_z h2 z
    have p0 := own_pA (t := (0 : Int32)) (s := (2 : Int32)) (n := (4 : Int32)) h0 h2 z (by decide) (by decide)
    have p1 := own_pA (t := (1 : Int32)) (s := (2 : Int32)) (n := (4 : Int32)) h1 h2 z (by decide) (by decide)
    have p2 : own_part (2 : Int32) (2 : Int32) (4 : Int32) l2 l2 = 0 := own_pC (by decide)
    have p3 := own_pB (t := (3 : Int32)) (s := (2 : Int32)) (n := (4 : Int32)) h3 h2 z (by decide) (by decide)
    have d := own_dself h2
    have j : l2.toNatClampNeg - 1 ≤ 62 := by omega
    rw [own_upv, own_upv, own_midv _ _ k.1 k.2, own_fup _ _ _ j, own_fup _ _ _ j, own_fup _ _ _ j, own_fup _ _ _ j, own_fst0]
    simp only [own_ex, p0, p1, p2, p3, d, Int64.add_zero, Int64.zero_add]
    try ac_rfl
theorem own_num4_3 (l0 l1 l2 l3 : Int32) (h0 : 0 ≤ l0.toInt ∧ l0.toInt < 64) (h1 : 0 ≤ l1.toInt ∧ l1.toInt < 64) (h2 : 0 ≤ l2.toInt ∧ l2.toInt < 64) (h3 : 0 ≤ l3.toInt ∧ l3.toInt < 64) : l3 = 0 ∨ ((own_up (own_up (own_up (own_mid (own_up (own_up (own_up (own_up (fun _ => 0) l0.toNatClampNeg) l1.toNatClampNeg) l2.toNatClampNeg) l3.toNatClampNeg) 63) l0.toNatClampNeg) l1.toNatClampNeg) l2.toNatClampNeg) l3.toNatClampNeg) = own_ex l0 l1 l2 l3 (3 : Int32) (4 : Int32) l3 := by
  by_cases z : l3 = 0
  · exact Or.inl z
  · right
    have k := own_z h3 z
    have p0 := own_pA (t := (0 : Int32)) (s := (3 : Int32)) (n := (4 : Int32)) h0 h3 z (by decide) (by decide)
    have p1 := own_pA (t := (1 : Int32)) (s := (3 : Int32)) (n := (4 : Int32)) h1 h3 z (by decide) (by decide)
    have p2 := own_pA (t := (2 : Int32)) (s := (3 : Int32)) (n := (4 : Int32)) h2 h3 z (by decide) (by decide)
    have p3 : own_part (3 : Int32) (3 : Int32) (4 : Int32) l3 l3 = 0 := own_pC (by decide)
    have d := own_dself h3
    have j : l3.toNatClampNeg - 1 ≤ 62 := by omega
    rw [own_upv, own_upv, own_upv, own_midv _ _ k.1 k.2, own_fup _ _ _ j, own_fup _ _ _ j, own_fup _ _ _ j, own_fup _ _ _ j, own_fst0]
    simp only [own_ex, p0, p1, p2, p3, d, Int64.add_zero, Int64.zero_add]
    try ac_rfl
theorem d1_0 : decode method_3_code 0 = .ok (.iload_n 1, 1) := by decide +kernel
theorem d1_1 : decode method_3_code 1 = .ok (.iload_n 2, 1) := by decide +kernel
theorem d1_2 : decode method_3_code 2 = .ok (.if_icmp .ge 15, 3) := by decide +kernel
theorem d1_5 : decode method_3_code 5 = .ok (.iload_n 0, 1) := by decide +kernel
theorem d1_6 : decode method_3_code 6 = .ok (.iconst 1, 1) := by decide +kernel
theorem d1_7 : decode method_3_code 7 = .ok (.if_icmp .lt 10, 3) := by decide +kernel
theorem d1_17 : decode method_3_code 17 = .ok (.lconst 0, 1) := by decide +kernel
theorem d1_18 : decode method_3_code 18 = .ok (.lreturn, 1) := by decide +kernel
theorem d1_10 : decode method_3_code 10 = .ok (.lconst 1, 1) := by decide +kernel
theorem d1_11 : decode method_3_code 11 = .ok (.bipush 63, 2) := by decide +kernel
theorem d1_13 : decode method_3_code 13 = .ok (.iload_n 0, 1) := by decide +kernel
theorem d1_14 : decode method_3_code 14 = .ok (.isub, 1) := by decide +kernel
theorem d1_15 : decode method_3_code 15 = .ok (.lshl, 1) := by decide +kernel
theorem d1_16 : decode method_3_code 16 = .ok (.lreturn, 1) := by decide +kernel
theorem ef_rm1 (m : MethodId) (lx : Int32) (i : Int32) (n : Int32) : entryFrame m #[(.int lx), (.int i), (.int n)] 3 = mkF m 0 #[.val (.int lx), .val (.int i), .val (.int n)] [] := by first | (simp [entryFrame, mkF, argsToLocals, Value.category]; done) | rfl
theorem pn0 : plainName "shortleaf/CanonicalCodeNumbersPinLaw" = true := by first | (simp [plainName, overriddenIn]; done) | decide +kernel
set_option maxRecDepth 65536 in
set_option maxHeartbeats 40000000 in
theorem rm1 (l : Launch) (Z : State) (a0 : Array Value) (hw : ∀ d ∈ tables_1, d.before a0 Z = true) (lx : Int32) (i : Int32) (n : Int32) (h0 : Heap) (n0 : Nat) (Z0 : n0 ≤ h0.size) :
    Own.Ct l (⟨"shortleaf/CanonicalCodeNumbersPinLaw", "kraft", "(III)J"⟩ : MethodName) method_3_code 3 (some .long) [] ({ frames := 0, cells := 0, slots := 0, locals := 0 } : Room) Z #[(.int lx), (.int i), (.int n)] h0 (fun rV hP lC => rV = some (.long (own_kr lx i n)) ∧ Fr n0 lC ∧ hP = h0) := by
  refine Own.enter (plainFor_of_name pn0) ?_
  intro p e s m below meth cc s₁ hx hby hml hown hnm hret hk hZ X0 e0
  have N0 := Fr.nil n0
  refine Own.start (ef_rm1 m lx i n) ?_
  refine Own.iloadN X0 hx (pc := 0) (hb hby d1_0) rfl ?_
  refine Own.iloadN X0 hx (pc := 1) (hb hby d1_1) rfl ?_
  by_cases c1 : i < n
  · refine Own.icmpNo X0 hx (pc := 2) (hb hby d1_2) (XT.ii_ge_f c1) ?_
    refine Own.iloadN X0 hx (pc := 5) (hb hby d1_5) rfl ?_
    refine Own.iconst X0 hx (pc := 6) (1 : Int32) (hb hby d1_6) (by decide) ?_
    by_cases c2 : lx < (1 : Int32)
    · refine Own.icmpYes X0 hx (pc := 7) 17 (hb hby d1_7) (XT.ii_lt_t c2) (by decide) (by decide) ?_
      refine Own.lconst X0 hx (pc := 17) (0 : Int64) (hb hby d1_17) (by decide) ?_
      exact Own.lreturn X0 hx hk hret (hb hby d1_18) e0 ⟨by simp [own_kr, c1, c2], N0, rfl⟩ (by decide) (by decide)
    · refine Own.icmpNo X0 hx (pc := 7) (hb hby d1_7) (XT.ii_lt_f c2) ?_
      refine Own.lconst X0 hx (pc := 10) (1 : Int64) (hb hby d1_10) (by decide) ?_
      refine Own.bipush X0 hx (pc := 11) (63 : Int32) (hb hby d1_11) (by decide) ?_
      refine Own.iloadN X0 hx (pc := 13) (hb hby d1_13) rfl ?_
      refine Own.isub X0 hx (pc := 14) (hb hby d1_14) ?_
      refine Own.lshl X0 hx (pc := 15) (hb hby d1_15) ?_
      exact Own.lreturn X0 hx hk hret (hb hby d1_16) e0 ⟨by simp [own_kr, c1, c2], N0, rfl⟩ (by decide) (by decide)
  · refine Own.icmpYes X0 hx (pc := 2) 17 (hb hby d1_2) (XT.ii_ge_t c1) (by decide) (by decide) ?_
    refine Own.lconst X0 hx (pc := 17) (0 : Int64) (hb hby d1_17) (by decide) ?_
    exact Own.lreturn X0 hx hk hret (hb hby d1_18) e0 ⟨by simp [own_kr, c1], N0, rfl⟩ (by decide) (by decide)
theorem d2_0 : decode prog_8_method_10_code 0 = .ok (.bipush 64, 2) := by decide +kernel
theorem d2_2 : decode prog_8_method_10_code 2 = .ok (.newarray .long, 2) := by decide +kernel
theorem d2_4 : decode prog_8_method_10_code 4 = .ok (.astore_n 3, 1) := by decide +kernel
theorem d2_5 : decode prog_8_method_10_code 5 = .ok (.iconst 0, 1) := by decide +kernel
theorem d2_6 : decode prog_8_method_10_code 6 = .ok (.istore 4, 2) := by decide +kernel
theorem d2_8 : decode prog_8_method_10_code 8 = .ok (.iload 4, 2) := by decide +kernel
theorem d2_10 : decode prog_8_method_10_code 10 = .ok (.iload_n 1, 1) := by decide +kernel
theorem d2_11 : decode prog_8_method_10_code 11 = .ok (.if_icmp .ge 19, 3) := by decide +kernel
theorem d2_30 : decode prog_8_method_10_code 30 = .ok (.lconst 0, 1) := by decide +kernel
theorem d2_31 : decode prog_8_method_10_code 31 = .ok (.lstore 4, 2) := by decide +kernel
theorem d2_33 : decode prog_8_method_10_code 33 = .ok (.iconst 1, 1) := by decide +kernel
theorem d2_34 : decode prog_8_method_10_code 34 = .ok (.istore 6, 2) := by decide +kernel
theorem d2_36 : decode prog_8_method_10_code 36 = .ok (.iload 6, 2) := by decide +kernel
theorem d2_38 : decode prog_8_method_10_code 38 = .ok (.bipush 64, 2) := by decide +kernel
theorem d2_40 : decode prog_8_method_10_code 40 = .ok (.if_icmp .ge 30, 3) := by decide +kernel
theorem d2_43 : decode prog_8_method_10_code 43 = .ok (.aload_n 3, 1) := by decide +kernel
theorem d2_44 : decode prog_8_method_10_code 44 = .ok (.iload 6, 2) := by decide +kernel
theorem d2_46 : decode prog_8_method_10_code 46 = .ok (.laload, 1) := by decide +kernel
theorem d2_47 : decode prog_8_method_10_code 47 = .ok (.lstore 7, 2) := by decide +kernel
theorem d2_49 : decode prog_8_method_10_code 49 = .ok (.aload_n 3, 1) := by decide +kernel
theorem d2_50 : decode prog_8_method_10_code 50 = .ok (.iload 6, 2) := by decide +kernel
theorem d2_52 : decode prog_8_method_10_code 52 = .ok (.lload 4, 2) := by decide +kernel
theorem d2_54 : decode prog_8_method_10_code 54 = .ok (.lastore, 1) := by decide +kernel
theorem d2_55 : decode prog_8_method_10_code 55 = .ok (.lload 4, 2) := by decide +kernel
theorem d2_57 : decode prog_8_method_10_code 57 = .ok (.lload 7, 2) := by decide +kernel
theorem d2_59 : decode prog_8_method_10_code 59 = .ok (.ladd, 1) := by decide +kernel
theorem d2_60 : decode prog_8_method_10_code 60 = .ok (.iconst 1, 1) := by decide +kernel
theorem d2_61 : decode prog_8_method_10_code 61 = .ok (.lshl, 1) := by decide +kernel
theorem d2_62 : decode prog_8_method_10_code 62 = .ok (.lstore 4, 2) := by decide +kernel
theorem d2_64 : decode prog_8_method_10_code 64 = .ok (.iinc 6 1, 3) := by decide +kernel
theorem d2_67 : decode prog_8_method_10_code 67 = .ok (.goto (-31), 3) := by decide +kernel
theorem d2_70 : decode prog_8_method_10_code 70 = .ok (.iconst 0, 1) := by decide +kernel
theorem d2_71 : decode prog_8_method_10_code 71 = .ok (.istore 6, 2) := by decide +kernel
theorem d2_73 : decode prog_8_method_10_code 73 = .ok (.iload 6, 2) := by decide +kernel
theorem d2_75 : decode prog_8_method_10_code 75 = .ok (.iload_n 1, 1) := by decide +kernel
theorem d2_76 : decode prog_8_method_10_code 76 = .ok (.if_icmp .ge 24, 3) := by decide +kernel
theorem d2_100 : decode prog_8_method_10_code 100 = .ok (.return_, 1) := by decide +kernel
theorem ef_rm2_0 (m : MethodId) (la : Addr) (na : Addr) : entryFrame m #[(.ref la), (.int (0 : Int32)), (.ref na)] 9 = mkF m 0 #[.val (.ref la), .val (.int (0 : Int32)), .val (.ref na), .unset, .unset, .unset, .unset, .unset, .unset] [] := by first | (simp [entryFrame, mkF, argsToLocals, Value.category]; done) | rfl
theorem pn1 : plainName "shortleaf/CanonicalCode" = true := by first | (simp [plainName, overriddenIn]; done) | decide +kernel
set_option maxRecDepth 65536 in
set_option maxHeartbeats 40000000 in
theorem rm2_0 (l : Launch) (Z : State) (a0 : Array Value) (hw : ∀ d ∈ tables_1, d.before a0 Z = true) (la : Addr) (na : Addr) (l0 : Int32) (l1 : Int32) (l2 : Int32) (l3 : Int32) (fill : Int64) (h0 : Heap) (n0 : Nat) (Z0 : n0 ≤ h0.size) (V_la : Own.VArr Z h0 la .int [(.int l0), (.int l1), (.int l2), (.int l3)]) (V_na : Own.VArr Z h0 na .long [(.long fill), (.long fill), (.long fill), (.long fill)]) (ge_na : n0 ≤ na) (hne : la ≠ na) (hl0 : 0 ≤ l0.toInt ∧ l0.toInt < 64) (hl1 : 0 ≤ l1.toInt ∧ l1.toInt < 64) (hl2 : 0 ≤ l2.toInt ∧ l2.toInt < 64) (hl3 : 0 ≤ l3.toInt ∧ l3.toInt < 64) :
    Own.Ct l (⟨"shortleaf/CanonicalCode", "numbers", "([II[J)V"⟩ : MethodName) prog_8_method_10_code 9 none [] ({ frames := 0, cells := 1, slots := 64, locals := 0 } : Room) Z #[(.ref la), (.int (0 : Int32)), (.ref na)] h0 (fun rV hP lC => rV = none ∧ Fr n0 lC ∧ Keep h0 hP [na] ∧ Own.VArr Z hP na .long [(.long fill), (.long fill), (.long fill), (.long fill)]) := by
  refine Own.enter (plainFor_of_name pn1) ?_
  intro p e s m below meth cc s₁ hx hby hml hown hnm hret hk hZ X0 e0
  have N0 := Fr.nil n0
  refine Own.start (ef_rm2_0 m la na) ?_
  have K : Keep h0 h0 [na] := Keep.refl _ _
  refine Own.bipush X0 hx (pc := 0) (64 : Int32) (hb hby d2_0) (by decide) ?_
  refine Own.newarr X0 hx hZ (pc := 2) (aty := .long) (Wd hw 8 rfl) e0 (hb hby d2_2) (by decide) 64 64 (by decide) (by decide) (by decide) (by decide) (by decide) ?_
  intro T1 h1 b1 g1 X1 e1 Ex1 V_b1
  have ne_la_b1 : la ≠ b1 := Nat.ne_of_lt (g1 ▸ V_la.lt)
  have ne_na_b1 : na ≠ b1 := Nat.ne_of_lt (g1 ▸ V_na.lt)
  have V_la := V_la.ext Ex1
  have V_na := V_na.ext Ex1
  have ge_b1 : n0 ≤ b1 := g1 ▸ Z0
  have sz1 : n0 ≤ h1.size := Nat.le_trans Z0 Ex1.1
  have szo_b1 : h0.size ≤ b1 := g1 ▸ K.1
  have K := K.ext Ex1
  replace V_b1 : Own.VArr Z h1 b1 .long (List.replicate 64 (.long (0 : Int64))) := V_b1
  replace V_b1 : Own.VArr Z h1 b1 .long (own_cl (fun _ => 0)) := by rw [show own_cl (fun _ => 0) = List.replicate 64 (.long (0 : Int64)) from rfl]; exact V_b1
  refine Own.astoreN X1 hx (pc := 4) #[.val (.ref la), .val (.int (0 : Int32)), .val (.ref na), .val (.ref b1), .unset, .unset, .unset, .unset, .unset] (hb hby d2_4) rfl rfl ?_
  refine Own.iconst X1 hx (pc := 5) (0 : Int32) (hb hby d2_5) (by decide) ?_
  refine Own.istore X1 hx (pc := 6) #[.val (.ref la), .val (.int (0 : Int32)), .val (.ref na), .val (.ref b1), .val (.int (0 : Int32)), .unset, .unset, .unset, .unset] (hb hby d2_6) rfl ?_
  refine Own.iload X1 hx (pc := 8) (hb hby d2_8) rfl ?_
  refine Own.iloadN X1 hx (pc := 10) (hb hby d2_10) rfl ?_
  refine Own.icmpYes X1 hx (pc := 11) 30 (hb hby d2_11) (by decide) (by decide) (by decide) ?_
  refine Own.lconst X1 hx (pc := 30) (0 : Int64) (hb hby d2_30) (by decide) ?_
  refine Own.lstore X1 hx (pc := 31) #[.val (.ref la), .val (.int (0 : Int32)), .val (.ref na), .val (.ref b1), .val (.long (0 : Int64)), .second, .unset, .unset, .unset] (hb hby d2_31) rfl ?_
  refine Own.iconst X1 hx (pc := 33) (1 : Int32) (hb hby d2_33) (by decide) ?_
  refine Own.istore X1 hx (pc := 34) #[.val (.ref la), .val (.int (0 : Int32)), .val (.ref na), .val (.ref b1), .val (.long (0 : Int64)), .second, .val (.int (1 : Int32)), .unset, .unset] (hb hby d2_34) rfl ?_
  rw [own_m0 (fun _ => 0)] at V_b1
  show Own.Go p e below _ (T1.setTop (mkF m 36 #[.val (.ref la), .val (.int (0 : Int32)), .val (.ref na), .val (.ref b1), .val (.long (own_fst (fun _ => 0) 0)), .second, .val (.int (Int32.ofNat (0 + 1))), .unset, .unset] []))
  refine Own.iload X1 hx (pc := 36) (hb hby d2_36) rfl ?_
  refine Own.bipush X1 hx (pc := 38) (64 : Int32) (hb hby d2_38) (by decide) ?_
  refine Own.icmpNo X1 hx (pc := 40) (hb hby d2_40) (XT.ii_ge_f ((own_64 (by omega)).mpr (by omega))) ?_
  refine Own.aloadN X1 hx (pc := 43) (hb hby d2_43) rfl rfl ?_
  refine Own.iload X1 hx (pc := 44) (hb hby d2_44) rfl ?_
  refine Own.laload X1 hx hZ (pc := 46) e1 V_b1 (v := (.long ((fun _ => 0) (0 + 1)))) (0 + 1) (own_onn (by omega)) (own_ocl (by omega)) (own_mget (by omega)) (hb hby d2_46) ?_
  refine Own.lstore X1 hx (pc := 47) #[.val (.ref la), .val (.int (0 : Int32)), .val (.ref na), .val (.ref b1), .val (.long (own_fst (fun _ => 0) 0)), .second, .val (.int (Int32.ofNat (0 + 1))), .val (.long ((fun _ => 0) (0 + 1))), .second] (hb hby d2_47) rfl ?_
  refine Own.aloadN X1 hx (pc := 49) (hb hby d2_49) rfl rfl ?_
  refine Own.iload X1 hx (pc := 50) (hb hby d2_50) rfl ?_
  refine Own.lload X1 hx (pc := 52) (hb hby d2_52) rfl ?_
  refine Own.lastore X1 hx hZ (pc := 54) e1 V_b1 (0 + 1) (own_onn (by omega)) (own_ocl (by omega)) (by rw [own_len]; omega) N0 ge_b1 (hb hby d2_54) ?_
  intro T2 h2 X2 e2 W2 N2 V_b1
  rw [own_mset (by omega)] at V_b1
  have sz2 : n0 ≤ h2.size := Nat.le_trans sz1 (Nat.le_of_eq (Wr.size W2).symm)
  have V_la := V_la.other W2 ne_la_b1
  have V_na := V_na.other W2 ne_na_b1
  have K := K.wr W2 (Or.inr szo_b1)
  refine Own.lload X2 hx (pc := 55) (hb hby d2_55) rfl ?_
  refine Own.lload X2 hx (pc := 57) (hb hby d2_57) rfl ?_
  refine Own.ladd X2 hx (pc := 59) (hb hby d2_59) ?_
  refine Own.iconst X2 hx (pc := 60) (1 : Int32) (hb hby d2_60) (by decide) ?_
  refine Own.lshl X2 hx (pc := 61) (hb hby d2_61) ?_
  show Own.Go p e below _ (T2.setTop (mkF m 62 #[.val (.ref la), .val (.int (0 : Int32)), .val (.ref na), .val (.ref b1), .val (.long (own_fst (fun _ => 0) 0)), .second, .val (.int (Int32.ofNat (0 + 1))), .val (.long ((fun _ => 0) (0 + 1))), .second] [(.long (own_fst (fun _ => 0) (0 + 1)))]))
  refine Own.lstore X2 hx (pc := 62) #[.val (.ref la), .val (.int (0 : Int32)), .val (.ref na), .val (.ref b1), .val (.long (own_fst (fun _ => 0) (0 + 1))), .second, .val (.int (Int32.ofNat (0 + 1))), .val (.long ((fun _ => 0) (0 + 1))), .second] (hb hby d2_62) rfl ?_
  refine Own.iincV X2 hx (pc := 64) (1 : Int32) (Int32.ofNat ((0 + 1) + 1)) #[.val (.ref la), .val (.int (0 : Int32)), .val (.ref na), .val (.ref b1), .val (.long (own_fst (fun _ => 0) (0 + 1))), .second, .val (.int (Int32.ofNat ((0 + 1) + 1))), .val (.long ((fun _ => 0) (0 + 1))), .second] (hb hby d2_64) (by decide) rfl (own_inc (0 + 1)) rfl ?_
  refine Own.goto X2 hx (pc := 67) 36 (hb hby d2_67) (by decide) (by decide) ?_
  refine Own.induct (fun q : State × Heap × List Loc × Nat => q.1.setTop (mkF m 36 #[.val (.ref la), .val (.int (0 : Int32)), .val (.ref na), .val (.ref b1), .val (.long (own_fst (fun _ => 0) q.2.2.2)), .second, .val (.int (Int32.ofNat (q.2.2.2 + 1))), .val (.long ((fun _ => 0) q.2.2.2)), .second] [])) (fun k q => q.2.2.2 + k = 63 ∧ Stand p l e ({ frames := 0, cells := 1, slots := 64, locals := 0 } : Room) s m #[(.ref la), (.int (0 : Int32)), (.ref na)] below meth cc q.1 q.2.2.1 1 64 ∧ q.1.heap = q.2.1 ∧ Fr n0 q.2.2.1 ∧ Keep h0 q.2.1 [na] ∧ Own.VArr Z q.2.1 la .int [(.int l0), (.int l1), (.int l2), (.int l3)] ∧ Own.VArr Z q.2.1 na .long [(.long fill), (.long fill), (.long fill), (.long fill)] ∧ Own.VArr Z q.2.1 b1 .long (own_cl (own_mid (fun _ => 0) q.2.2.2))) ?_ ?_ (n := 62) (a := (_, _, _, 0 + 1)) ⟨rfl, X2, e2, N2, K, V_la, V_na, V_b1⟩
  · rintro ⟨T, h, lc, j⟩ ⟨hi, X, eT, N, K, V_la, V_na, V_b1⟩
    dsimp only at hi X eT N K V_la V_na V_b1
    have sz : n0 ≤ h.size := Nat.le_trans Z0 K.1
    obtain rfl : j = 63 := by omega
    show Own.Go p e below _ (T.setTop (mkF m 36 #[.val (.ref la), .val (.int (0 : Int32)), .val (.ref na), .val (.ref b1), .val (.long (own_fst (fun _ => 0) 63)), .second, .val (.int (Int32.ofNat (63 + 1))), .val (.long ((fun _ => 0) 63)), .second] []))
    refine Own.iload X hx (pc := 36) (hb hby d2_36) rfl ?_
    refine Own.bipush X hx (pc := 38) (64 : Int32) (hb hby d2_38) (by decide) ?_
    refine Own.icmpYes X hx (pc := 40) 70 (hb hby d2_40) (XT.ii_ge_t (mt (own_64 (by decide)).mp (by decide))) (by decide) (by decide) ?_
    refine Own.iconst X hx (pc := 70) (0 : Int32) (hb hby d2_70) (by decide) ?_
    refine Own.istore X hx (pc := 71) #[.val (.ref la), .val (.int (0 : Int32)), .val (.ref na), .val (.ref b1), .val (.long (own_fst (fun _ => 0) 63)), .second, .val (.int (0 : Int32)), .val (.long ((fun _ => 0) 63)), .second] (hb hby d2_71) rfl ?_
    refine Own.iload X hx (pc := 73) (hb hby d2_73) rfl ?_
    refine Own.iloadN X hx (pc := 75) (hb hby d2_75) rfl ?_
    refine Own.icmpYes X hx (pc := 76) 100 (hb hby d2_76) (by decide) (by decide) (by decide) ?_
    exact Own.vreturn X hx hk hret (hb hby d2_100) eT ⟨rfl, N, K, V_na⟩ (by decide) (by decide)
  · rintro k ⟨T, h, lc, j⟩ ⟨hi, X, eT, N, K, V_la, V_na, V_b1⟩ ih
    dsimp only at hi X eT N K V_la V_na V_b1
    have sz : n0 ≤ h.size := Nat.le_trans Z0 K.1
    show Own.Go p e below _ (T.setTop (mkF m 36 #[.val (.ref la), .val (.int (0 : Int32)), .val (.ref na), .val (.ref b1), .val (.long (own_fst (fun _ => 0) j)), .second, .val (.int (Int32.ofNat (j + 1))), .val (.long ((fun _ => 0) j)), .second] []))
    refine Own.iload X hx (pc := 36) (hb hby d2_36) rfl ?_
    refine Own.bipush X hx (pc := 38) (64 : Int32) (hb hby d2_38) (by decide) ?_
    refine Own.icmpNo X hx (pc := 40) (hb hby d2_40) (XT.ii_ge_f ((own_64 (by omega)).mpr (by omega))) ?_
    refine Own.aloadN X hx (pc := 43) (hb hby d2_43) rfl rfl ?_
    refine Own.iload X hx (pc := 44) (hb hby d2_44) rfl ?_
    refine Own.laload X hx hZ (pc := 46) eT V_b1 (v := (.long ((fun _ => 0) (j + 1)))) (j + 1) (own_onn (by omega)) (own_ocl (by omega)) (own_mget (by omega)) (hb hby d2_46) ?_
    refine Own.lstore X hx (pc := 47) #[.val (.ref la), .val (.int (0 : Int32)), .val (.ref na), .val (.ref b1), .val (.long (own_fst (fun _ => 0) j)), .second, .val (.int (Int32.ofNat (j + 1))), .val (.long ((fun _ => 0) (j + 1))), .second] (hb hby d2_47) rfl ?_
    refine Own.aloadN X hx (pc := 49) (hb hby d2_49) rfl rfl ?_
    refine Own.iload X hx (pc := 50) (hb hby d2_50) rfl ?_
    refine Own.lload X hx (pc := 52) (hb hby d2_52) rfl ?_
    refine Own.lastore X hx hZ (pc := 54) eT V_b1 (j + 1) (own_onn (by omega)) (own_ocl (by omega)) (by rw [own_len]; omega) N ge_b1 (hb hby d2_54) ?_
    intro T3 h3 X3 e3 W3 N3 V_b1
    rw [own_mset (by omega)] at V_b1
    have sz3 : n0 ≤ h3.size := Nat.le_trans sz (Nat.le_of_eq (Wr.size W3).symm)
    have V_la := V_la.other W3 ne_la_b1
    have V_na := V_na.other W3 ne_na_b1
    have K := K.wr W3 (Or.inr szo_b1)
    refine Own.lload X3 hx (pc := 55) (hb hby d2_55) rfl ?_
    refine Own.lload X3 hx (pc := 57) (hb hby d2_57) rfl ?_
    refine Own.ladd X3 hx (pc := 59) (hb hby d2_59) ?_
    refine Own.iconst X3 hx (pc := 60) (1 : Int32) (hb hby d2_60) (by decide) ?_
    refine Own.lshl X3 hx (pc := 61) (hb hby d2_61) ?_
    show Own.Go p e below _ (T3.setTop (mkF m 62 #[.val (.ref la), .val (.int (0 : Int32)), .val (.ref na), .val (.ref b1), .val (.long (own_fst (fun _ => 0) j)), .second, .val (.int (Int32.ofNat (j + 1))), .val (.long ((fun _ => 0) (j + 1))), .second] [(.long (own_fst (fun _ => 0) (j + 1)))]))
    refine Own.lstore X3 hx (pc := 62) #[.val (.ref la), .val (.int (0 : Int32)), .val (.ref na), .val (.ref b1), .val (.long (own_fst (fun _ => 0) (j + 1))), .second, .val (.int (Int32.ofNat (j + 1))), .val (.long ((fun _ => 0) (j + 1))), .second] (hb hby d2_62) rfl ?_
    refine Own.iincV X3 hx (pc := 64) (1 : Int32) (Int32.ofNat ((j + 1) + 1)) #[.val (.ref la), .val (.int (0 : Int32)), .val (.ref na), .val (.ref b1), .val (.long (own_fst (fun _ => 0) (j + 1))), .second, .val (.int (Int32.ofNat ((j + 1) + 1))), .val (.long ((fun _ => 0) (j + 1))), .second] (hb hby d2_64) (by decide) rfl (own_inc (j + 1)) rfl ?_
    refine Own.goto X3 hx (pc := 67) 36 (hb hby d2_67) (by decide) (by decide) ?_
    exact ih (_, _, _, j + 1) ⟨by show (j + 1) + k = 63; omega, X3, e3, N3, K, V_la, V_na, V_b1⟩
theorem d2_14 : decode prog_8_method_10_code 14 = .ok (.aload_n 3, 1) := by decide +kernel
theorem d2_15 : decode prog_8_method_10_code 15 = .ok (.aload_n 0, 1) := by decide +kernel
theorem d2_16 : decode prog_8_method_10_code 16 = .ok (.iload 4, 2) := by decide +kernel
theorem d2_18 : decode prog_8_method_10_code 18 = .ok (.iaload, 1) := by decide +kernel
theorem d2_19 : decode prog_8_method_10_code 19 = .ok (.dup2, 1) := by decide +kernel
theorem d2_20 : decode prog_8_method_10_code 20 = .ok (.laload, 1) := by decide +kernel
theorem d2_21 : decode prog_8_method_10_code 21 = .ok (.lconst 1, 1) := by decide +kernel
theorem d2_22 : decode prog_8_method_10_code 22 = .ok (.ladd, 1) := by decide +kernel
theorem d2_23 : decode prog_8_method_10_code 23 = .ok (.lastore, 1) := by decide +kernel
theorem d2_24 : decode prog_8_method_10_code 24 = .ok (.iinc 4 1, 3) := by decide +kernel
theorem d2_27 : decode prog_8_method_10_code 27 = .ok (.goto (-19), 3) := by decide +kernel
theorem d2_79 : decode prog_8_method_10_code 79 = .ok (.aload_n 2, 1) := by decide +kernel
theorem d2_80 : decode prog_8_method_10_code 80 = .ok (.iload 6, 2) := by decide +kernel
theorem d2_82 : decode prog_8_method_10_code 82 = .ok (.aload_n 3, 1) := by decide +kernel
theorem d2_83 : decode prog_8_method_10_code 83 = .ok (.aload_n 0, 1) := by decide +kernel
theorem d2_84 : decode prog_8_method_10_code 84 = .ok (.iload 6, 2) := by decide +kernel
theorem d2_86 : decode prog_8_method_10_code 86 = .ok (.iaload, 1) := by decide +kernel
theorem d2_87 : decode prog_8_method_10_code 87 = .ok (.dup2, 1) := by decide +kernel
theorem d2_88 : decode prog_8_method_10_code 88 = .ok (.laload, 1) := by decide +kernel
theorem d2_89 : decode prog_8_method_10_code 89 = .ok (.dup2_x2, 1) := by decide +kernel
theorem d2_90 : decode prog_8_method_10_code 90 = .ok (.lconst 1, 1) := by decide +kernel
theorem d2_91 : decode prog_8_method_10_code 91 = .ok (.ladd, 1) := by decide +kernel
theorem d2_92 : decode prog_8_method_10_code 92 = .ok (.lastore, 1) := by decide +kernel
theorem d2_93 : decode prog_8_method_10_code 93 = .ok (.lastore, 1) := by decide +kernel
theorem d2_94 : decode prog_8_method_10_code 94 = .ok (.iinc 6 1, 3) := by decide +kernel
theorem d2_97 : decode prog_8_method_10_code 97 = .ok (.goto (-24), 3) := by decide +kernel
theorem ef_rm2_1 (m : MethodId) (la : Addr) (na : Addr) : entryFrame m #[(.ref la), (.int (1 : Int32)), (.ref na)] 9 = mkF m 0 #[.val (.ref la), .val (.int (1 : Int32)), .val (.ref na), .unset, .unset, .unset, .unset, .unset, .unset] [] := by first | (simp [entryFrame, mkF, argsToLocals, Value.category]; done) | rfl
set_option maxRecDepth 65536 in
set_option maxHeartbeats 40000000 in
theorem rm2_1 (l : Launch) (Z : State) (a0 : Array Value) (hw : ∀ d ∈ tables_1, d.before a0 Z = true) (la : Addr) (na : Addr) (l0 : Int32) (l1 : Int32) (l2 : Int32) (l3 : Int32) (fill : Int64) (h0 : Heap) (n0 : Nat) (Z0 : n0 ≤ h0.size) (V_la : Own.VArr Z h0 la .int [(.int l0), (.int l1), (.int l2), (.int l3)]) (V_na : Own.VArr Z h0 na .long [(.long fill), (.long fill), (.long fill), (.long fill)]) (ge_na : n0 ≤ na) (hne : la ≠ na) (hl0 : 0 ≤ l0.toInt ∧ l0.toInt < 64) (hl1 : 0 ≤ l1.toInt ∧ l1.toInt < 64) (hl2 : 0 ≤ l2.toInt ∧ l2.toInt < 64) (hl3 : 0 ≤ l3.toInt ∧ l3.toInt < 64) :
    Own.Ct l (⟨"shortleaf/CanonicalCode", "numbers", "([II[J)V"⟩ : MethodName) prog_8_method_10_code 9 none [] ({ frames := 0, cells := 1, slots := 64, locals := 0 } : Room) Z #[(.ref la), (.int (1 : Int32)), (.ref na)] h0 (fun rV hP lC => rV = none ∧ Fr n0 lC ∧ Keep h0 hP [na] ∧ Own.VArr Z hP na .long [(.long ((own_mid (own_up (fun _ => 0) l0.toNatClampNeg) 63) l0.toNatClampNeg)), (.long fill), (.long fill), (.long fill)]) := by
  refine Own.enter (plainFor_of_name pn1) ?_
  intro p e s m below meth cc s₁ hx hby hml hown hnm hret hk hZ X0 e0
  have N0 := Fr.nil n0
  refine Own.start (ef_rm2_1 m la na) ?_
  have K : Keep h0 h0 [na] := Keep.refl _ _
  refine Own.bipush X0 hx (pc := 0) (64 : Int32) (hb hby d2_0) (by decide) ?_
  refine Own.newarr X0 hx hZ (pc := 2) (aty := .long) (Wd hw 8 rfl) e0 (hb hby d2_2) (by decide) 64 64 (by decide) (by decide) (by decide) (by decide) (by decide) ?_
  intro T1 h1 b1 g1 X1 e1 Ex1 V_b1
  have ne_la_b1 : la ≠ b1 := Nat.ne_of_lt (g1 ▸ V_la.lt)
  have ne_na_b1 : na ≠ b1 := Nat.ne_of_lt (g1 ▸ V_na.lt)
  have V_la := V_la.ext Ex1
  have V_na := V_na.ext Ex1
  have ge_b1 : n0 ≤ b1 := g1 ▸ Z0
  have sz1 : n0 ≤ h1.size := Nat.le_trans Z0 Ex1.1
  have szo_b1 : h0.size ≤ b1 := g1 ▸ K.1
  have K := K.ext Ex1
  replace V_b1 : Own.VArr Z h1 b1 .long (List.replicate 64 (.long (0 : Int64))) := V_b1
  replace V_b1 : Own.VArr Z h1 b1 .long (own_cl (fun _ => 0)) := by rw [show own_cl (fun _ => 0) = List.replicate 64 (.long (0 : Int64)) from rfl]; exact V_b1
  refine Own.astoreN X1 hx (pc := 4) #[.val (.ref la), .val (.int (1 : Int32)), .val (.ref na), .val (.ref b1), .unset, .unset, .unset, .unset, .unset] (hb hby d2_4) rfl rfl ?_
  refine Own.iconst X1 hx (pc := 5) (0 : Int32) (hb hby d2_5) (by decide) ?_
  refine Own.istore X1 hx (pc := 6) #[.val (.ref la), .val (.int (1 : Int32)), .val (.ref na), .val (.ref b1), .val (.int (0 : Int32)), .unset, .unset, .unset, .unset] (hb hby d2_6) rfl ?_
  refine Own.iload X1 hx (pc := 8) (hb hby d2_8) rfl ?_
  refine Own.iloadN X1 hx (pc := 10) (hb hby d2_10) rfl ?_
  refine Own.icmpNo X1 hx (pc := 11) (hb hby d2_11) (by decide) ?_
  refine Own.aloadN X1 hx (pc := 14) (hb hby d2_14) rfl rfl ?_
  refine Own.aloadN X1 hx (pc := 15) (hb hby d2_15) rfl rfl ?_
  refine Own.iload X1 hx (pc := 16) (hb hby d2_16) rfl ?_
  refine Own.iaload X1 hx hZ (pc := 18) e1 V_la (v := (.int l0)) 0 (by decide) (by decide) rfl (hb hby d2_18) ?_
  refine Own.dup2 X1 hx (pc := 19) (hb hby d2_19) rfl rfl ?_
  refine Own.laload X1 hx hZ (pc := 20) e1 V_b1 (v := (.long ((fun _ => 0) l0.toNatClampNeg))) l0.toNatClampNeg (own_nn hl0.1) rfl (own_get (own_c hl0)) (hb hby d2_20) ?_
  refine Own.lconst X1 hx (pc := 21) (1 : Int64) (hb hby d2_21) (by decide) ?_
  refine Own.ladd X1 hx (pc := 22) (hb hby d2_22) ?_
  refine Own.lastore X1 hx hZ (pc := 23) e1 V_b1 l0.toNatClampNeg (own_nn hl0.1) rfl (by rw [own_len]; exact own_c hl0) N0 ge_b1 (hb hby d2_23) ?_
  intro T2 h2 X2 e2 W2 N2 V_b1
  rw [own_upset (own_c hl0)] at V_b1
  have sz2 : n0 ≤ h2.size := Nat.le_trans sz1 (Nat.le_of_eq (Wr.size W2).symm)
  have V_la := V_la.other W2 ne_la_b1
  have V_na := V_na.other W2 ne_na_b1
  have K := K.wr W2 (Or.inr szo_b1)
  refine Own.iincV X2 hx (pc := 24) (1 : Int32) (1 : Int32) #[.val (.ref la), .val (.int (1 : Int32)), .val (.ref na), .val (.ref b1), .val (.int (1 : Int32)), .unset, .unset, .unset, .unset] (hb hby d2_24) (by decide) rfl (by decide) rfl ?_
  refine Own.goto X2 hx (pc := 27) 8 (hb hby d2_27) (by decide) (by decide) ?_
  refine Own.iload X2 hx (pc := 8) (hb hby d2_8) rfl ?_
  refine Own.iloadN X2 hx (pc := 10) (hb hby d2_10) rfl ?_
  refine Own.icmpYes X2 hx (pc := 11) 30 (hb hby d2_11) (by decide) (by decide) (by decide) ?_
  refine Own.lconst X2 hx (pc := 30) (0 : Int64) (hb hby d2_30) (by decide) ?_
  refine Own.lstore X2 hx (pc := 31) #[.val (.ref la), .val (.int (1 : Int32)), .val (.ref na), .val (.ref b1), .val (.long (0 : Int64)), .second, .unset, .unset, .unset] (hb hby d2_31) rfl ?_
  refine Own.iconst X2 hx (pc := 33) (1 : Int32) (hb hby d2_33) (by decide) ?_
  refine Own.istore X2 hx (pc := 34) #[.val (.ref la), .val (.int (1 : Int32)), .val (.ref na), .val (.ref b1), .val (.long (0 : Int64)), .second, .val (.int (1 : Int32)), .unset, .unset] (hb hby d2_34) rfl ?_
  rw [own_m0 (own_up (fun _ => 0) l0.toNatClampNeg)] at V_b1
  show Own.Go p e below _ (T2.setTop (mkF m 36 #[.val (.ref la), .val (.int (1 : Int32)), .val (.ref na), .val (.ref b1), .val (.long (own_fst (own_up (fun _ => 0) l0.toNatClampNeg) 0)), .second, .val (.int (Int32.ofNat (0 + 1))), .unset, .unset] []))
  refine Own.iload X2 hx (pc := 36) (hb hby d2_36) rfl ?_
  refine Own.bipush X2 hx (pc := 38) (64 : Int32) (hb hby d2_38) (by decide) ?_
  refine Own.icmpNo X2 hx (pc := 40) (hb hby d2_40) (XT.ii_ge_f ((own_64 (by omega)).mpr (by omega))) ?_
  refine Own.aloadN X2 hx (pc := 43) (hb hby d2_43) rfl rfl ?_
  refine Own.iload X2 hx (pc := 44) (hb hby d2_44) rfl ?_
  refine Own.laload X2 hx hZ (pc := 46) e2 V_b1 (v := (.long ((own_up (fun _ => 0) l0.toNatClampNeg) (0 + 1)))) (0 + 1) (own_onn (by omega)) (own_ocl (by omega)) (own_mget (by omega)) (hb hby d2_46) ?_
  refine Own.lstore X2 hx (pc := 47) #[.val (.ref la), .val (.int (1 : Int32)), .val (.ref na), .val (.ref b1), .val (.long (own_fst (own_up (fun _ => 0) l0.toNatClampNeg) 0)), .second, .val (.int (Int32.ofNat (0 + 1))), .val (.long ((own_up (fun _ => 0) l0.toNatClampNeg) (0 + 1))), .second] (hb hby d2_47) rfl ?_
  refine Own.aloadN X2 hx (pc := 49) (hb hby d2_49) rfl rfl ?_
  refine Own.iload X2 hx (pc := 50) (hb hby d2_50) rfl ?_
  refine Own.lload X2 hx (pc := 52) (hb hby d2_52) rfl ?_
  refine Own.lastore X2 hx hZ (pc := 54) e2 V_b1 (0 + 1) (own_onn (by omega)) (own_ocl (by omega)) (by rw [own_len]; omega) N2 ge_b1 (hb hby d2_54) ?_
  intro T3 h3 X3 e3 W3 N3 V_b1
  rw [own_mset (by omega)] at V_b1
  have sz3 : n0 ≤ h3.size := Nat.le_trans sz2 (Nat.le_of_eq (Wr.size W3).symm)
  have V_la := V_la.other W3 ne_la_b1
  have V_na := V_na.other W3 ne_na_b1
  have K := K.wr W3 (Or.inr szo_b1)
  refine Own.lload X3 hx (pc := 55) (hb hby d2_55) rfl ?_
  refine Own.lload X3 hx (pc := 57) (hb hby d2_57) rfl ?_
  refine Own.ladd X3 hx (pc := 59) (hb hby d2_59) ?_
  refine Own.iconst X3 hx (pc := 60) (1 : Int32) (hb hby d2_60) (by decide) ?_
  refine Own.lshl X3 hx (pc := 61) (hb hby d2_61) ?_
  show Own.Go p e below _ (T3.setTop (mkF m 62 #[.val (.ref la), .val (.int (1 : Int32)), .val (.ref na), .val (.ref b1), .val (.long (own_fst (own_up (fun _ => 0) l0.toNatClampNeg) 0)), .second, .val (.int (Int32.ofNat (0 + 1))), .val (.long ((own_up (fun _ => 0) l0.toNatClampNeg) (0 + 1))), .second] [(.long (own_fst (own_up (fun _ => 0) l0.toNatClampNeg) (0 + 1)))]))
  refine Own.lstore X3 hx (pc := 62) #[.val (.ref la), .val (.int (1 : Int32)), .val (.ref na), .val (.ref b1), .val (.long (own_fst (own_up (fun _ => 0) l0.toNatClampNeg) (0 + 1))), .second, .val (.int (Int32.ofNat (0 + 1))), .val (.long ((own_up (fun _ => 0) l0.toNatClampNeg) (0 + 1))), .second] (hb hby d2_62) rfl ?_
  refine Own.iincV X3 hx (pc := 64) (1 : Int32) (Int32.ofNat ((0 + 1) + 1)) #[.val (.ref la), .val (.int (1 : Int32)), .val (.ref na), .val (.ref b1), .val (.long (own_fst (own_up (fun _ => 0) l0.toNatClampNeg) (0 + 1))), .second, .val (.int (Int32.ofNat ((0 + 1) + 1))), .val (.long ((own_up (fun _ => 0) l0.toNatClampNeg) (0 + 1))), .second] (hb hby d2_64) (by decide) rfl (own_inc (0 + 1)) rfl ?_
  refine Own.goto X3 hx (pc := 67) 36 (hb hby d2_67) (by decide) (by decide) ?_
  refine Own.induct (fun q : State × Heap × List Loc × Nat => q.1.setTop (mkF m 36 #[.val (.ref la), .val (.int (1 : Int32)), .val (.ref na), .val (.ref b1), .val (.long (own_fst (own_up (fun _ => 0) l0.toNatClampNeg) q.2.2.2)), .second, .val (.int (Int32.ofNat (q.2.2.2 + 1))), .val (.long ((own_up (fun _ => 0) l0.toNatClampNeg) q.2.2.2)), .second] [])) (fun k q => q.2.2.2 + k = 63 ∧ Stand p l e ({ frames := 0, cells := 1, slots := 64, locals := 0 } : Room) s m #[(.ref la), (.int (1 : Int32)), (.ref na)] below meth cc q.1 q.2.2.1 1 64 ∧ q.1.heap = q.2.1 ∧ Fr n0 q.2.2.1 ∧ Keep h0 q.2.1 [na] ∧ Own.VArr Z q.2.1 la .int [(.int l0), (.int l1), (.int l2), (.int l3)] ∧ Own.VArr Z q.2.1 na .long [(.long fill), (.long fill), (.long fill), (.long fill)] ∧ Own.VArr Z q.2.1 b1 .long (own_cl (own_mid (own_up (fun _ => 0) l0.toNatClampNeg) q.2.2.2))) ?_ ?_ (n := 62) (a := (_, _, _, 0 + 1)) ⟨rfl, X3, e3, N3, K, V_la, V_na, V_b1⟩
  · rintro ⟨T, h, lc, j⟩ ⟨hi, X, eT, N, K, V_la, V_na, V_b1⟩
    dsimp only at hi X eT N K V_la V_na V_b1
    have sz : n0 ≤ h.size := Nat.le_trans Z0 K.1
    obtain rfl : j = 63 := by omega
    show Own.Go p e below _ (T.setTop (mkF m 36 #[.val (.ref la), .val (.int (1 : Int32)), .val (.ref na), .val (.ref b1), .val (.long (own_fst (own_up (fun _ => 0) l0.toNatClampNeg) 63)), .second, .val (.int (Int32.ofNat (63 + 1))), .val (.long ((own_up (fun _ => 0) l0.toNatClampNeg) 63)), .second] []))
    refine Own.iload X hx (pc := 36) (hb hby d2_36) rfl ?_
    refine Own.bipush X hx (pc := 38) (64 : Int32) (hb hby d2_38) (by decide) ?_
    refine Own.icmpYes X hx (pc := 40) 70 (hb hby d2_40) (XT.ii_ge_t (mt (own_64 (by decide)).mp (by decide))) (by decide) (by decide) ?_
    refine Own.iconst X hx (pc := 70) (0 : Int32) (hb hby d2_70) (by decide) ?_
    refine Own.istore X hx (pc := 71) #[.val (.ref la), .val (.int (1 : Int32)), .val (.ref na), .val (.ref b1), .val (.long (own_fst (own_up (fun _ => 0) l0.toNatClampNeg) 63)), .second, .val (.int (0 : Int32)), .val (.long ((own_up (fun _ => 0) l0.toNatClampNeg) 63)), .second] (hb hby d2_71) rfl ?_
    refine Own.iload X hx (pc := 73) (hb hby d2_73) rfl ?_
    refine Own.iloadN X hx (pc := 75) (hb hby d2_75) rfl ?_
    refine Own.icmpNo X hx (pc := 76) (hb hby d2_76) (by decide) ?_
    refine Own.aloadN X hx (pc := 79) (hb hby d2_79) rfl rfl ?_
    refine Own.iload X hx (pc := 80) (hb hby d2_80) rfl ?_
    refine Own.aloadN X hx (pc := 82) (hb hby d2_82) rfl rfl ?_
    refine Own.aloadN X hx (pc := 83) (hb hby d2_83) rfl rfl ?_
    refine Own.iload X hx (pc := 84) (hb hby d2_84) rfl ?_
    refine Own.iaload X hx hZ (pc := 86) eT V_la (v := (.int l0)) 0 (by decide) (by decide) rfl (hb hby d2_86) ?_
    refine Own.dup2 X hx (pc := 87) (hb hby d2_87) rfl rfl ?_
    refine Own.laload X hx hZ (pc := 88) eT V_b1 (v := (.long ((own_mid (own_up (fun _ => 0) l0.toNatClampNeg) 63) l0.toNatClampNeg))) l0.toNatClampNeg (own_nn hl0.1) rfl (own_get (own_c hl0)) (hb hby d2_88) ?_
    refine Own.dup2X2 X hx (pc := 89) (hb hby d2_89) rfl rfl ?_
    refine Own.lconst X hx (pc := 90) (1 : Int64) (hb hby d2_90) (by decide) ?_
    refine Own.ladd X hx (pc := 91) (hb hby d2_91) ?_
    refine Own.lastore X hx hZ (pc := 92) eT V_b1 l0.toNatClampNeg (own_nn hl0.1) rfl (by rw [own_len]; exact own_c hl0) N ge_b1 (hb hby d2_92) ?_
    intro T4 h4 X4 e4 W4 N4 V_b1
    rw [own_upset (own_c hl0)] at V_b1
    have sz4 : n0 ≤ h4.size := Nat.le_trans sz (Nat.le_of_eq (Wr.size W4).symm)
    have V_la := V_la.other W4 ne_la_b1
    have V_na := V_na.other W4 ne_na_b1
    have K := K.wr W4 (Or.inr szo_b1)
    refine Own.lastore X4 hx hZ (pc := 93) e4 V_na 0 (by decide) (by decide) (of_decide_eq_true rfl) N4 ge_na (hb hby d2_93) ?_
    intro T5 h5 X5 e5 W5 N5 V_na
    replace V_na : Own.VArr Z h5 na .long [(.long ((own_mid (own_up (fun _ => 0) l0.toNatClampNeg) 63) l0.toNatClampNeg)), (.long fill), (.long fill), (.long fill)] := V_na
    have sz5 : n0 ≤ h5.size := Nat.le_trans sz4 (Nat.le_of_eq (Wr.size W5).symm)
    have V_la := V_la.other W5 hne
    have V_b1 := V_b1.other W5 (Ne.symm ne_na_b1)
    have K := K.wr W5 (Or.inl (by simp))
    refine Own.iincV X5 hx (pc := 94) (1 : Int32) (1 : Int32) #[.val (.ref la), .val (.int (1 : Int32)), .val (.ref na), .val (.ref b1), .val (.long (own_fst (own_up (fun _ => 0) l0.toNatClampNeg) 63)), .second, .val (.int (1 : Int32)), .val (.long ((own_up (fun _ => 0) l0.toNatClampNeg) 63)), .second] (hb hby d2_94) (by decide) rfl (by decide) rfl ?_
    refine Own.goto X5 hx (pc := 97) 73 (hb hby d2_97) (by decide) (by decide) ?_
    refine Own.iload X5 hx (pc := 73) (hb hby d2_73) rfl ?_
    refine Own.iloadN X5 hx (pc := 75) (hb hby d2_75) rfl ?_
    refine Own.icmpYes X5 hx (pc := 76) 100 (hb hby d2_76) (by decide) (by decide) (by decide) ?_
    exact Own.vreturn X5 hx hk hret (hb hby d2_100) e5 ⟨rfl, N5, K, V_na⟩ (by decide) (by decide)
  · rintro k ⟨T, h, lc, j⟩ ⟨hi, X, eT, N, K, V_la, V_na, V_b1⟩ ih
    dsimp only at hi X eT N K V_la V_na V_b1
    have sz : n0 ≤ h.size := Nat.le_trans Z0 K.1
    show Own.Go p e below _ (T.setTop (mkF m 36 #[.val (.ref la), .val (.int (1 : Int32)), .val (.ref na), .val (.ref b1), .val (.long (own_fst (own_up (fun _ => 0) l0.toNatClampNeg) j)), .second, .val (.int (Int32.ofNat (j + 1))), .val (.long ((own_up (fun _ => 0) l0.toNatClampNeg) j)), .second] []))
    refine Own.iload X hx (pc := 36) (hb hby d2_36) rfl ?_
    refine Own.bipush X hx (pc := 38) (64 : Int32) (hb hby d2_38) (by decide) ?_
    refine Own.icmpNo X hx (pc := 40) (hb hby d2_40) (XT.ii_ge_f ((own_64 (by omega)).mpr (by omega))) ?_
    refine Own.aloadN X hx (pc := 43) (hb hby d2_43) rfl rfl ?_
    refine Own.iload X hx (pc := 44) (hb hby d2_44) rfl ?_
    refine Own.laload X hx hZ (pc := 46) eT V_b1 (v := (.long ((own_up (fun _ => 0) l0.toNatClampNeg) (j + 1)))) (j + 1) (own_onn (by omega)) (own_ocl (by omega)) (own_mget (by omega)) (hb hby d2_46) ?_
    refine Own.lstore X hx (pc := 47) #[.val (.ref la), .val (.int (1 : Int32)), .val (.ref na), .val (.ref b1), .val (.long (own_fst (own_up (fun _ => 0) l0.toNatClampNeg) j)), .second, .val (.int (Int32.ofNat (j + 1))), .val (.long ((own_up (fun _ => 0) l0.toNatClampNeg) (j + 1))), .second] (hb hby d2_47) rfl ?_
    refine Own.aloadN X hx (pc := 49) (hb hby d2_49) rfl rfl ?_
    refine Own.iload X hx (pc := 50) (hb hby d2_50) rfl ?_
    refine Own.lload X hx (pc := 52) (hb hby d2_52) rfl ?_
    refine Own.lastore X hx hZ (pc := 54) eT V_b1 (j + 1) (own_onn (by omega)) (own_ocl (by omega)) (by rw [own_len]; omega) N ge_b1 (hb hby d2_54) ?_
    intro T6 h6 X6 e6 W6 N6 V_b1
    rw [own_mset (by omega)] at V_b1
    have sz6 : n0 ≤ h6.size := Nat.le_trans sz (Nat.le_of_eq (Wr.size W6).symm)
    have V_la := V_la.other W6 ne_la_b1
    have V_na := V_na.other W6 ne_na_b1
    have K := K.wr W6 (Or.inr szo_b1)
    refine Own.lload X6 hx (pc := 55) (hb hby d2_55) rfl ?_
    refine Own.lload X6 hx (pc := 57) (hb hby d2_57) rfl ?_
    refine Own.ladd X6 hx (pc := 59) (hb hby d2_59) ?_
    refine Own.iconst X6 hx (pc := 60) (1 : Int32) (hb hby d2_60) (by decide) ?_
    refine Own.lshl X6 hx (pc := 61) (hb hby d2_61) ?_
    show Own.Go p e below _ (T6.setTop (mkF m 62 #[.val (.ref la), .val (.int (1 : Int32)), .val (.ref na), .val (.ref b1), .val (.long (own_fst (own_up (fun _ => 0) l0.toNatClampNeg) j)), .second, .val (.int (Int32.ofNat (j + 1))), .val (.long ((own_up (fun _ => 0) l0.toNatClampNeg) (j + 1))), .second] [(.long (own_fst (own_up (fun _ => 0) l0.toNatClampNeg) (j + 1)))]))
    refine Own.lstore X6 hx (pc := 62) #[.val (.ref la), .val (.int (1 : Int32)), .val (.ref na), .val (.ref b1), .val (.long (own_fst (own_up (fun _ => 0) l0.toNatClampNeg) (j + 1))), .second, .val (.int (Int32.ofNat (j + 1))), .val (.long ((own_up (fun _ => 0) l0.toNatClampNeg) (j + 1))), .second] (hb hby d2_62) rfl ?_
    refine Own.iincV X6 hx (pc := 64) (1 : Int32) (Int32.ofNat ((j + 1) + 1)) #[.val (.ref la), .val (.int (1 : Int32)), .val (.ref na), .val (.ref b1), .val (.long (own_fst (own_up (fun _ => 0) l0.toNatClampNeg) (j + 1))), .second, .val (.int (Int32.ofNat ((j + 1) + 1))), .val (.long ((own_up (fun _ => 0) l0.toNatClampNeg) (j + 1))), .second] (hb hby d2_64) (by decide) rfl (own_inc (j + 1)) rfl ?_
    refine Own.goto X6 hx (pc := 67) 36 (hb hby d2_67) (by decide) (by decide) ?_
    exact ih (_, _, _, j + 1) ⟨by show (j + 1) + k = 63; omega, X6, e6, N6, K, V_la, V_na, V_b1⟩
theorem ef_rm2_2 (m : MethodId) (la : Addr) (na : Addr) : entryFrame m #[(.ref la), (.int (2 : Int32)), (.ref na)] 9 = mkF m 0 #[.val (.ref la), .val (.int (2 : Int32)), .val (.ref na), .unset, .unset, .unset, .unset, .unset, .unset] [] := by first | (simp [entryFrame, mkF, argsToLocals, Value.category]; done) | rfl
set_option maxRecDepth 65536 in
set_option maxHeartbeats 40000000 in
theorem rm2_2 (l : Launch) (Z : State) (a0 : Array Value) (hw : ∀ d ∈ tables_1, d.before a0 Z = true) (la : Addr) (na : Addr) (l0 : Int32) (l1 : Int32) (l2 : Int32) (l3 : Int32) (fill : Int64) (h0 : Heap) (n0 : Nat) (Z0 : n0 ≤ h0.size) (V_la : Own.VArr Z h0 la .int [(.int l0), (.int l1), (.int l2), (.int l3)]) (V_na : Own.VArr Z h0 na .long [(.long fill), (.long fill), (.long fill), (.long fill)]) (ge_na : n0 ≤ na) (hne : la ≠ na) (hl0 : 0 ≤ l0.toInt ∧ l0.toInt < 64) (hl1 : 0 ≤ l1.toInt ∧ l1.toInt < 64) (hl2 : 0 ≤ l2.toInt ∧ l2.toInt < 64) (hl3 : 0 ≤ l3.toInt ∧ l3.toInt < 64) :
    Own.Ct l (⟨"shortleaf/CanonicalCode", "numbers", "([II[J)V"⟩ : MethodName) prog_8_method_10_code 9 none [] ({ frames := 0, cells := 1, slots := 64, locals := 0 } : Room) Z #[(.ref la), (.int (2 : Int32)), (.ref na)] h0 (fun rV hP lC => rV = none ∧ Fr n0 lC ∧ Keep h0 hP [na] ∧ Own.VArr Z hP na .long [(.long ((own_mid (own_up (own_up (fun _ => 0) l0.toNatClampNeg) l1.toNatClampNeg) 63) l0.toNatClampNeg)), (.long ((own_up (own_mid (own_up (own_up (fun _ => 0) l0.toNatClampNeg) l1.toNatClampNeg) 63) l0.toNatClampNeg) l1.toNatClampNeg)), (.long fill), (.long fill)]) := by
  refine Own.enter (plainFor_of_name pn1) ?_
  intro p e s m below meth cc s₁ hx hby hml hown hnm hret hk hZ X0 e0
  have N0 := Fr.nil n0
  refine Own.start (ef_rm2_2 m la na) ?_
  have K : Keep h0 h0 [na] := Keep.refl _ _
  refine Own.bipush X0 hx (pc := 0) (64 : Int32) (hb hby d2_0) (by decide) ?_
  refine Own.newarr X0 hx hZ (pc := 2) (aty := .long) (Wd hw 8 rfl) e0 (hb hby d2_2) (by decide) 64 64 (by decide) (by decide) (by decide) (by decide) (by decide) ?_
  intro T1 h1 b1 g1 X1 e1 Ex1 V_b1
  have ne_la_b1 : la ≠ b1 := Nat.ne_of_lt (g1 ▸ V_la.lt)
  have ne_na_b1 : na ≠ b1 := Nat.ne_of_lt (g1 ▸ V_na.lt)
  have V_la := V_la.ext Ex1
  have V_na := V_na.ext Ex1
  have ge_b1 : n0 ≤ b1 := g1 ▸ Z0
  have sz1 : n0 ≤ h1.size := Nat.le_trans Z0 Ex1.1
  have szo_b1 : h0.size ≤ b1 := g1 ▸ K.1
  have K := K.ext Ex1
  replace V_b1 : Own.VArr Z h1 b1 .long (List.replicate 64 (.long (0 : Int64))) := V_b1
  replace V_b1 : Own.VArr Z h1 b1 .long (own_cl (fun _ => 0)) := by rw [show own_cl (fun _ => 0) = List.replicate 64 (.long (0 : Int64)) from rfl]; exact V_b1
  refine Own.astoreN X1 hx (pc := 4) #[.val (.ref la), .val (.int (2 : Int32)), .val (.ref na), .val (.ref b1), .unset, .unset, .unset, .unset, .unset] (hb hby d2_4) rfl rfl ?_
  refine Own.iconst X1 hx (pc := 5) (0 : Int32) (hb hby d2_5) (by decide) ?_
  refine Own.istore X1 hx (pc := 6) #[.val (.ref la), .val (.int (2 : Int32)), .val (.ref na), .val (.ref b1), .val (.int (0 : Int32)), .unset, .unset, .unset, .unset] (hb hby d2_6) rfl ?_
  refine Own.iload X1 hx (pc := 8) (hb hby d2_8) rfl ?_
  refine Own.iloadN X1 hx (pc := 10) (hb hby d2_10) rfl ?_
  refine Own.icmpNo X1 hx (pc := 11) (hb hby d2_11) (by decide) ?_
  refine Own.aloadN X1 hx (pc := 14) (hb hby d2_14) rfl rfl ?_
  refine Own.aloadN X1 hx (pc := 15) (hb hby d2_15) rfl rfl ?_
  refine Own.iload X1 hx (pc := 16) (hb hby d2_16) rfl ?_
  refine Own.iaload X1 hx hZ (pc := 18) e1 V_la (v := (.int l0)) 0 (by decide) (by decide) rfl (hb hby d2_18) ?_
  refine Own.dup2 X1 hx (pc := 19) (hb hby d2_19) rfl rfl ?_
  refine Own.laload X1 hx hZ (pc := 20) e1 V_b1 (v := (.long ((fun _ => 0) l0.toNatClampNeg))) l0.toNatClampNeg (own_nn hl0.1) rfl (own_get (own_c hl0)) (hb hby d2_20) ?_
  refine Own.lconst X1 hx (pc := 21) (1 : Int64) (hb hby d2_21) (by decide) ?_
  refine Own.ladd X1 hx (pc := 22) (hb hby d2_22) ?_
  refine Own.lastore X1 hx hZ (pc := 23) e1 V_b1 l0.toNatClampNeg (own_nn hl0.1) rfl (by rw [own_len]; exact own_c hl0) N0 ge_b1 (hb hby d2_23) ?_
  intro T2 h2 X2 e2 W2 N2 V_b1
  rw [own_upset (own_c hl0)] at V_b1
  have sz2 : n0 ≤ h2.size := Nat.le_trans sz1 (Nat.le_of_eq (Wr.size W2).symm)
  have V_la := V_la.other W2 ne_la_b1
  have V_na := V_na.other W2 ne_na_b1
  have K := K.wr W2 (Or.inr szo_b1)
  refine Own.iincV X2 hx (pc := 24) (1 : Int32) (1 : Int32) #[.val (.ref la), .val (.int (2 : Int32)), .val (.ref na), .val (.ref b1), .val (.int (1 : Int32)), .unset, .unset, .unset, .unset] (hb hby d2_24) (by decide) rfl (by decide) rfl ?_
  refine Own.goto X2 hx (pc := 27) 8 (hb hby d2_27) (by decide) (by decide) ?_
  refine Own.iload X2 hx (pc := 8) (hb hby d2_8) rfl ?_
  refine Own.iloadN X2 hx (pc := 10) (hb hby d2_10) rfl ?_
  refine Own.icmpNo X2 hx (pc := 11) (hb hby d2_11) (by decide) ?_
  refine Own.aloadN X2 hx (pc := 14) (hb hby d2_14) rfl rfl ?_
  refine Own.aloadN X2 hx (pc := 15) (hb hby d2_15) rfl rfl ?_
  refine Own.iload X2 hx (pc := 16) (hb hby d2_16) rfl ?_
  refine Own.iaload X2 hx hZ (pc := 18) e2 V_la (v := (.int l1)) 1 (by decide) (by decide) rfl (hb hby d2_18) ?_
  refine Own.dup2 X2 hx (pc := 19) (hb hby d2_19) rfl rfl ?_
  refine Own.laload X2 hx hZ (pc := 20) e2 V_b1 (v := (.long ((own_up (fun _ => 0) l0.toNatClampNeg) l1.toNatClampNeg))) l1.toNatClampNeg (own_nn hl1.1) rfl (own_get (own_c hl1)) (hb hby d2_20) ?_
  refine Own.lconst X2 hx (pc := 21) (1 : Int64) (hb hby d2_21) (by decide) ?_
  refine Own.ladd X2 hx (pc := 22) (hb hby d2_22) ?_
  refine Own.lastore X2 hx hZ (pc := 23) e2 V_b1 l1.toNatClampNeg (own_nn hl1.1) rfl (by rw [own_len]; exact own_c hl1) N2 ge_b1 (hb hby d2_23) ?_
  intro T3 h3 X3 e3 W3 N3 V_b1
  rw [own_upset (own_c hl1)] at V_b1
  have sz3 : n0 ≤ h3.size := Nat.le_trans sz2 (Nat.le_of_eq (Wr.size W3).symm)
  have V_la := V_la.other W3 ne_la_b1
  have V_na := V_na.other W3 ne_na_b1
  have K := K.wr W3 (Or.inr szo_b1)
  refine Own.iincV X3 hx (pc := 24) (1 : Int32) (2 : Int32) #[.val (.ref la), .val (.int (2 : Int32)), .val (.ref na), .val (.ref b1), .val (.int (2 : Int32)), .unset, .unset, .unset, .unset] (hb hby d2_24) (by decide) rfl (by decide) rfl ?_
  refine Own.goto X3 hx (pc := 27) 8 (hb hby d2_27) (by decide) (by decide) ?_
  refine Own.iload X3 hx (pc := 8) (hb hby d2_8) rfl ?_
  refine Own.iloadN X3 hx (pc := 10) (hb hby d2_10) rfl ?_
  refine Own.icmpYes X3 hx (pc := 11) 30 (hb hby d2_11) (by decide) (by decide) (by decide) ?_
  refine Own.lconst X3 hx (pc := 30) (0 : Int64) (hb hby d2_30) (by decide) ?_
  refine Own.lstore X3 hx (pc := 31) #[.val (.ref la), .val (.int (2 : Int32)), .val (.ref na), .val (.ref b1), .val (.long (0 : Int64)), .second, .unset, .unset, .unset] (hb hby d2_31) rfl ?_
  refine Own.iconst X3 hx (pc := 33) (1 : Int32) (hb hby d2_33) (by decide) ?_
  refine Own.istore X3 hx (pc := 34) #[.val (.ref la), .val (.int (2 : Int32)), .val (.ref na), .val (.ref b1), .val (.long (0 : Int64)), .second, .val (.int (1 : Int32)), .unset, .unset] (hb hby d2_34) rfl ?_
  rw [own_m0 (own_up (own_up (fun _ => 0) l0.toNatClampNeg) l1.toNatClampNeg)] at V_b1
  show Own.Go p e below _ (T3.setTop (mkF m 36 #[.val (.ref la), .val (.int (2 : Int32)), .val (.ref na), .val (.ref b1), .val (.long (own_fst (own_up (own_up (fun _ => 0) l0.toNatClampNeg) l1.toNatClampNeg) 0)), .second, .val (.int (Int32.ofNat (0 + 1))), .unset, .unset] []))
  refine Own.iload X3 hx (pc := 36) (hb hby d2_36) rfl ?_
  refine Own.bipush X3 hx (pc := 38) (64 : Int32) (hb hby d2_38) (by decide) ?_
  refine Own.icmpNo X3 hx (pc := 40) (hb hby d2_40) (XT.ii_ge_f ((own_64 (by omega)).mpr (by omega))) ?_
  refine Own.aloadN X3 hx (pc := 43) (hb hby d2_43) rfl rfl ?_
  refine Own.iload X3 hx (pc := 44) (hb hby d2_44) rfl ?_
  refine Own.laload X3 hx hZ (pc := 46) e3 V_b1 (v := (.long ((own_up (own_up (fun _ => 0) l0.toNatClampNeg) l1.toNatClampNeg) (0 + 1)))) (0 + 1) (own_onn (by omega)) (own_ocl (by omega)) (own_mget (by omega)) (hb hby d2_46) ?_
  refine Own.lstore X3 hx (pc := 47) #[.val (.ref la), .val (.int (2 : Int32)), .val (.ref na), .val (.ref b1), .val (.long (own_fst (own_up (own_up (fun _ => 0) l0.toNatClampNeg) l1.toNatClampNeg) 0)), .second, .val (.int (Int32.ofNat (0 + 1))), .val (.long ((own_up (own_up (fun _ => 0) l0.toNatClampNeg) l1.toNatClampNeg) (0 + 1))), .second] (hb hby d2_47) rfl ?_
  refine Own.aloadN X3 hx (pc := 49) (hb hby d2_49) rfl rfl ?_
  refine Own.iload X3 hx (pc := 50) (hb hby d2_50) rfl ?_
  refine Own.lload X3 hx (pc := 52) (hb hby d2_52) rfl ?_
  refine Own.lastore X3 hx hZ (pc := 54) e3 V_b1 (0 + 1) (own_onn (by omega)) (own_ocl (by omega)) (by rw [own_len]; omega) N3 ge_b1 (hb hby d2_54) ?_
  intro T4 h4 X4 e4 W4 N4 V_b1
  rw [own_mset (by omega)] at V_b1
  have sz4 : n0 ≤ h4.size := Nat.le_trans sz3 (Nat.le_of_eq (Wr.size W4).symm)
  have V_la := V_la.other W4 ne_la_b1
  have V_na := V_na.other W4 ne_na_b1
  have K := K.wr W4 (Or.inr szo_b1)
  refine Own.lload X4 hx (pc := 55) (hb hby d2_55) rfl ?_
  refine Own.lload X4 hx (pc := 57) (hb hby d2_57) rfl ?_
  refine Own.ladd X4 hx (pc := 59) (hb hby d2_59) ?_
  refine Own.iconst X4 hx (pc := 60) (1 : Int32) (hb hby d2_60) (by decide) ?_
  refine Own.lshl X4 hx (pc := 61) (hb hby d2_61) ?_
  show Own.Go p e below _ (T4.setTop (mkF m 62 #[.val (.ref la), .val (.int (2 : Int32)), .val (.ref na), .val (.ref b1), .val (.long (own_fst (own_up (own_up (fun _ => 0) l0.toNatClampNeg) l1.toNatClampNeg) 0)), .second, .val (.int (Int32.ofNat (0 + 1))), .val (.long ((own_up (own_up (fun _ => 0) l0.toNatClampNeg) l1.toNatClampNeg) (0 + 1))), .second] [(.long (own_fst (own_up (own_up (fun _ => 0) l0.toNatClampNeg) l1.toNatClampNeg) (0 + 1)))]))
  refine Own.lstore X4 hx (pc := 62) #[.val (.ref la), .val (.int (2 : Int32)), .val (.ref na), .val (.ref b1), .val (.long (own_fst (own_up (own_up (fun _ => 0) l0.toNatClampNeg) l1.toNatClampNeg) (0 + 1))), .second, .val (.int (Int32.ofNat (0 + 1))), .val (.long ((own_up (own_up (fun _ => 0) l0.toNatClampNeg) l1.toNatClampNeg) (0 + 1))), .second] (hb hby d2_62) rfl ?_
  refine Own.iincV X4 hx (pc := 64) (1 : Int32) (Int32.ofNat ((0 + 1) + 1)) #[.val (.ref la), .val (.int (2 : Int32)), .val (.ref na), .val (.ref b1), .val (.long (own_fst (own_up (own_up (fun _ => 0) l0.toNatClampNeg) l1.toNatClampNeg) (0 + 1))), .second, .val (.int (Int32.ofNat ((0 + 1) + 1))), .val (.long ((own_up (own_up (fun _ => 0) l0.toNatClampNeg) l1.toNatClampNeg) (0 + 1))), .second] (hb hby d2_64) (by decide) rfl (own_inc (0 + 1)) rfl ?_
  refine Own.goto X4 hx (pc := 67) 36 (hb hby d2_67) (by decide) (by decide) ?_
  refine Own.induct (fun q : State × Heap × List Loc × Nat => q.1.setTop (mkF m 36 #[.val (.ref la), .val (.int (2 : Int32)), .val (.ref na), .val (.ref b1), .val (.long (own_fst (own_up (own_up (fun _ => 0) l0.toNatClampNeg) l1.toNatClampNeg) q.2.2.2)), .second, .val (.int (Int32.ofNat (q.2.2.2 + 1))), .val (.long ((own_up (own_up (fun _ => 0) l0.toNatClampNeg) l1.toNatClampNeg) q.2.2.2)), .second] [])) (fun k q => q.2.2.2 + k = 63 ∧ Stand p l e ({ frames := 0, cells := 1, slots := 64, locals := 0 } : Room) s m #[(.ref la), (.int (2 : Int32)), (.ref na)] below meth cc q.1 q.2.2.1 1 64 ∧ q.1.heap = q.2.1 ∧ Fr n0 q.2.2.1 ∧ Keep h0 q.2.1 [na] ∧ Own.VArr Z q.2.1 la .int [(.int l0), (.int l1), (.int l2), (.int l3)] ∧ Own.VArr Z q.2.1 na .long [(.long fill), (.long fill), (.long fill), (.long fill)] ∧ Own.VArr Z q.2.1 b1 .long (own_cl (own_mid (own_up (own_up (fun _ => 0) l0.toNatClampNeg) l1.toNatClampNeg) q.2.2.2))) ?_ ?_ (n := 62) (a := (_, _, _, 0 + 1)) ⟨rfl, X4, e4, N4, K, V_la, V_na, V_b1⟩
  · rintro ⟨T, h, lc, j⟩ ⟨hi, X, eT, N, K, V_la, V_na, V_b1⟩
    dsimp only at hi X eT N K V_la V_na V_b1
    have sz : n0 ≤ h.size := Nat.le_trans Z0 K.1
    obtain rfl : j = 63 := by omega
    show Own.Go p e below _ (T.setTop (mkF m 36 #[.val (.ref la), .val (.int (2 : Int32)), .val (.ref na), .val (.ref b1), .val (.long (own_fst (own_up (own_up (fun _ => 0) l0.toNatClampNeg) l1.toNatClampNeg) 63)), .second, .val (.int (Int32.ofNat (63 + 1))), .val (.long ((own_up (own_up (fun _ => 0) l0.toNatClampNeg) l1.toNatClampNeg) 63)), .second] []))
    refine Own.iload X hx (pc := 36) (hb hby d2_36) rfl ?_
    refine Own.bipush X hx (pc := 38) (64 : Int32) (hb hby d2_38) (by decide) ?_
    refine Own.icmpYes X hx (pc := 40) 70 (hb hby d2_40) (XT.ii_ge_t (mt (own_64 (by decide)).mp (by decide))) (by decide) (by decide) ?_
    refine Own.iconst X hx (pc := 70) (0 : Int32) (hb hby d2_70) (by decide) ?_
    refine Own.istore X hx (pc := 71) #[.val (.ref la), .val (.int (2 : Int32)), .val (.ref na), .val (.ref b1), .val (.long (own_fst (own_up (own_up (fun _ => 0) l0.toNatClampNeg) l1.toNatClampNeg) 63)), .second, .val (.int (0 : Int32)), .val (.long ((own_up (own_up (fun _ => 0) l0.toNatClampNeg) l1.toNatClampNeg) 63)), .second] (hb hby d2_71) rfl ?_
    refine Own.iload X hx (pc := 73) (hb hby d2_73) rfl ?_
    refine Own.iloadN X hx (pc := 75) (hb hby d2_75) rfl ?_
    refine Own.icmpNo X hx (pc := 76) (hb hby d2_76) (by decide) ?_
    refine Own.aloadN X hx (pc := 79) (hb hby d2_79) rfl rfl ?_
    refine Own.iload X hx (pc := 80) (hb hby d2_80) rfl ?_
    refine Own.aloadN X hx (pc := 82) (hb hby d2_82) rfl rfl ?_
    refine Own.aloadN X hx (pc := 83) (hb hby d2_83) rfl rfl ?_
    refine Own.iload X hx (pc := 84) (hb hby d2_84) rfl ?_
    refine Own.iaload X hx hZ (pc := 86) eT V_la (v := (.int l0)) 0 (by decide) (by decide) rfl (hb hby d2_86) ?_
    refine Own.dup2 X hx (pc := 87) (hb hby d2_87) rfl rfl ?_
    refine Own.laload X hx hZ (pc := 88) eT V_b1 (v := (.long ((own_mid (own_up (own_up (fun _ => 0) l0.toNatClampNeg) l1.toNatClampNeg) 63) l0.toNatClampNeg))) l0.toNatClampNeg (own_nn hl0.1) rfl (own_get (own_c hl0)) (hb hby d2_88) ?_
    refine Own.dup2X2 X hx (pc := 89) (hb hby d2_89) rfl rfl ?_
    refine Own.lconst X hx (pc := 90) (1 : Int64) (hb hby d2_90) (by decide) ?_
    refine Own.ladd X hx (pc := 91) (hb hby d2_91) ?_
    refine Own.lastore X hx hZ (pc := 92) eT V_b1 l0.toNatClampNeg (own_nn hl0.1) rfl (by rw [own_len]; exact own_c hl0) N ge_b1 (hb hby d2_92) ?_
    intro T5 h5 X5 e5 W5 N5 V_b1
    rw [own_upset (own_c hl0)] at V_b1
    have sz5 : n0 ≤ h5.size := Nat.le_trans sz (Nat.le_of_eq (Wr.size W5).symm)
    have V_la := V_la.other W5 ne_la_b1
    have V_na := V_na.other W5 ne_na_b1
    have K := K.wr W5 (Or.inr szo_b1)
    refine Own.lastore X5 hx hZ (pc := 93) e5 V_na 0 (by decide) (by decide) (of_decide_eq_true rfl) N5 ge_na (hb hby d2_93) ?_
    intro T6 h6 X6 e6 W6 N6 V_na
    replace V_na : Own.VArr Z h6 na .long [(.long ((own_mid (own_up (own_up (fun _ => 0) l0.toNatClampNeg) l1.toNatClampNeg) 63) l0.toNatClampNeg)), (.long fill), (.long fill), (.long fill)] := V_na
    have sz6 : n0 ≤ h6.size := Nat.le_trans sz5 (Nat.le_of_eq (Wr.size W6).symm)
    have V_la := V_la.other W6 hne
    have V_b1 := V_b1.other W6 (Ne.symm ne_na_b1)
    have K := K.wr W6 (Or.inl (by simp))
    refine Own.iincV X6 hx (pc := 94) (1 : Int32) (1 : Int32) #[.val (.ref la), .val (.int (2 : Int32)), .val (.ref na), .val (.ref b1), .val (.long (own_fst (own_up (own_up (fun _ => 0) l0.toNatClampNeg) l1.toNatClampNeg) 63)), .second, .val (.int (1 : Int32)), .val (.long ((own_up (own_up (fun _ => 0) l0.toNatClampNeg) l1.toNatClampNeg) 63)), .second] (hb hby d2_94) (by decide) rfl (by decide) rfl ?_
    refine Own.goto X6 hx (pc := 97) 73 (hb hby d2_97) (by decide) (by decide) ?_
    refine Own.iload X6 hx (pc := 73) (hb hby d2_73) rfl ?_
    refine Own.iloadN X6 hx (pc := 75) (hb hby d2_75) rfl ?_
    refine Own.icmpNo X6 hx (pc := 76) (hb hby d2_76) (by decide) ?_
    refine Own.aloadN X6 hx (pc := 79) (hb hby d2_79) rfl rfl ?_
    refine Own.iload X6 hx (pc := 80) (hb hby d2_80) rfl ?_
    refine Own.aloadN X6 hx (pc := 82) (hb hby d2_82) rfl rfl ?_
    refine Own.aloadN X6 hx (pc := 83) (hb hby d2_83) rfl rfl ?_
    refine Own.iload X6 hx (pc := 84) (hb hby d2_84) rfl ?_
    refine Own.iaload X6 hx hZ (pc := 86) e6 V_la (v := (.int l1)) 1 (by decide) (by decide) rfl (hb hby d2_86) ?_
    refine Own.dup2 X6 hx (pc := 87) (hb hby d2_87) rfl rfl ?_
    refine Own.laload X6 hx hZ (pc := 88) e6 V_b1 (v := (.long ((own_up (own_mid (own_up (own_up (fun _ => 0) l0.toNatClampNeg) l1.toNatClampNeg) 63) l0.toNatClampNeg) l1.toNatClampNeg))) l1.toNatClampNeg (own_nn hl1.1) rfl (own_get (own_c hl1)) (hb hby d2_88) ?_
    refine Own.dup2X2 X6 hx (pc := 89) (hb hby d2_89) rfl rfl ?_
    refine Own.lconst X6 hx (pc := 90) (1 : Int64) (hb hby d2_90) (by decide) ?_
    refine Own.ladd X6 hx (pc := 91) (hb hby d2_91) ?_
    refine Own.lastore X6 hx hZ (pc := 92) e6 V_b1 l1.toNatClampNeg (own_nn hl1.1) rfl (by rw [own_len]; exact own_c hl1) N6 ge_b1 (hb hby d2_92) ?_
    intro T7 h7 X7 e7 W7 N7 V_b1
    rw [own_upset (own_c hl1)] at V_b1
    have sz7 : n0 ≤ h7.size := Nat.le_trans sz6 (Nat.le_of_eq (Wr.size W7).symm)
    have V_la := V_la.other W7 ne_la_b1
    have V_na := V_na.other W7 ne_na_b1
    have K := K.wr W7 (Or.inr szo_b1)
    refine Own.lastore X7 hx hZ (pc := 93) e7 V_na 1 (by decide) (by decide) (of_decide_eq_true rfl) N7 ge_na (hb hby d2_93) ?_
    intro T8 h8 X8 e8 W8 N8 V_na
    replace V_na : Own.VArr Z h8 na .long [(.long ((own_mid (own_up (own_up (fun _ => 0) l0.toNatClampNeg) l1.toNatClampNeg) 63) l0.toNatClampNeg)), (.long ((own_up (own_mid (own_up (own_up (fun _ => 0) l0.toNatClampNeg) l1.toNatClampNeg) 63) l0.toNatClampNeg) l1.toNatClampNeg)), (.long fill), (.long fill)] := V_na
    have sz8 : n0 ≤ h8.size := Nat.le_trans sz7 (Nat.le_of_eq (Wr.size W8).symm)
    have V_la := V_la.other W8 hne
    have V_b1 := V_b1.other W8 (Ne.symm ne_na_b1)
    have K := K.wr W8 (Or.inl (by simp))
    refine Own.iincV X8 hx (pc := 94) (1 : Int32) (2 : Int32) #[.val (.ref la), .val (.int (2 : Int32)), .val (.ref na), .val (.ref b1), .val (.long (own_fst (own_up (own_up (fun _ => 0) l0.toNatClampNeg) l1.toNatClampNeg) 63)), .second, .val (.int (2 : Int32)), .val (.long ((own_up (own_up (fun _ => 0) l0.toNatClampNeg) l1.toNatClampNeg) 63)), .second] (hb hby d2_94) (by decide) rfl (by decide) rfl ?_
    refine Own.goto X8 hx (pc := 97) 73 (hb hby d2_97) (by decide) (by decide) ?_
    refine Own.iload X8 hx (pc := 73) (hb hby d2_73) rfl ?_
    refine Own.iloadN X8 hx (pc := 75) (hb hby d2_75) rfl ?_
    refine Own.icmpYes X8 hx (pc := 76) 100 (hb hby d2_76) (by decide) (by decide) (by decide) ?_
    exact Own.vreturn X8 hx hk hret (hb hby d2_100) e8 ⟨rfl, N8, K, V_na⟩ (by decide) (by decide)
  · rintro k ⟨T, h, lc, j⟩ ⟨hi, X, eT, N, K, V_la, V_na, V_b1⟩ ih
    dsimp only at hi X eT N K V_la V_na V_b1
    have sz : n0 ≤ h.size := Nat.le_trans Z0 K.1
    show Own.Go p e below _ (T.setTop (mkF m 36 #[.val (.ref la), .val (.int (2 : Int32)), .val (.ref na), .val (.ref b1), .val (.long (own_fst (own_up (own_up (fun _ => 0) l0.toNatClampNeg) l1.toNatClampNeg) j)), .second, .val (.int (Int32.ofNat (j + 1))), .val (.long ((own_up (own_up (fun _ => 0) l0.toNatClampNeg) l1.toNatClampNeg) j)), .second] []))
    refine Own.iload X hx (pc := 36) (hb hby d2_36) rfl ?_
    refine Own.bipush X hx (pc := 38) (64 : Int32) (hb hby d2_38) (by decide) ?_
    refine Own.icmpNo X hx (pc := 40) (hb hby d2_40) (XT.ii_ge_f ((own_64 (by omega)).mpr (by omega))) ?_
    refine Own.aloadN X hx (pc := 43) (hb hby d2_43) rfl rfl ?_
    refine Own.iload X hx (pc := 44) (hb hby d2_44) rfl ?_
    refine Own.laload X hx hZ (pc := 46) eT V_b1 (v := (.long ((own_up (own_up (fun _ => 0) l0.toNatClampNeg) l1.toNatClampNeg) (j + 1)))) (j + 1) (own_onn (by omega)) (own_ocl (by omega)) (own_mget (by omega)) (hb hby d2_46) ?_
    refine Own.lstore X hx (pc := 47) #[.val (.ref la), .val (.int (2 : Int32)), .val (.ref na), .val (.ref b1), .val (.long (own_fst (own_up (own_up (fun _ => 0) l0.toNatClampNeg) l1.toNatClampNeg) j)), .second, .val (.int (Int32.ofNat (j + 1))), .val (.long ((own_up (own_up (fun _ => 0) l0.toNatClampNeg) l1.toNatClampNeg) (j + 1))), .second] (hb hby d2_47) rfl ?_
    refine Own.aloadN X hx (pc := 49) (hb hby d2_49) rfl rfl ?_
    refine Own.iload X hx (pc := 50) (hb hby d2_50) rfl ?_
    refine Own.lload X hx (pc := 52) (hb hby d2_52) rfl ?_
    refine Own.lastore X hx hZ (pc := 54) eT V_b1 (j + 1) (own_onn (by omega)) (own_ocl (by omega)) (by rw [own_len]; omega) N ge_b1 (hb hby d2_54) ?_
    intro T9 h9 X9 e9 W9 N9 V_b1
    rw [own_mset (by omega)] at V_b1
    have sz9 : n0 ≤ h9.size := Nat.le_trans sz (Nat.le_of_eq (Wr.size W9).symm)
    have V_la := V_la.other W9 ne_la_b1
    have V_na := V_na.other W9 ne_na_b1
    have K := K.wr W9 (Or.inr szo_b1)
    refine Own.lload X9 hx (pc := 55) (hb hby d2_55) rfl ?_
    refine Own.lload X9 hx (pc := 57) (hb hby d2_57) rfl ?_
    refine Own.ladd X9 hx (pc := 59) (hb hby d2_59) ?_
    refine Own.iconst X9 hx (pc := 60) (1 : Int32) (hb hby d2_60) (by decide) ?_
    refine Own.lshl X9 hx (pc := 61) (hb hby d2_61) ?_
    show Own.Go p e below _ (T9.setTop (mkF m 62 #[.val (.ref la), .val (.int (2 : Int32)), .val (.ref na), .val (.ref b1), .val (.long (own_fst (own_up (own_up (fun _ => 0) l0.toNatClampNeg) l1.toNatClampNeg) j)), .second, .val (.int (Int32.ofNat (j + 1))), .val (.long ((own_up (own_up (fun _ => 0) l0.toNatClampNeg) l1.toNatClampNeg) (j + 1))), .second] [(.long (own_fst (own_up (own_up (fun _ => 0) l0.toNatClampNeg) l1.toNatClampNeg) (j + 1)))]))
    refine Own.lstore X9 hx (pc := 62) #[.val (.ref la), .val (.int (2 : Int32)), .val (.ref na), .val (.ref b1), .val (.long (own_fst (own_up (own_up (fun _ => 0) l0.toNatClampNeg) l1.toNatClampNeg) (j + 1))), .second, .val (.int (Int32.ofNat (j + 1))), .val (.long ((own_up (own_up (fun _ => 0) l0.toNatClampNeg) l1.toNatClampNeg) (j + 1))), .second] (hb hby d2_62) rfl ?_
    refine Own.iincV X9 hx (pc := 64) (1 : Int32) (Int32.ofNat ((j + 1) + 1)) #[.val (.ref la), .val (.int (2 : Int32)), .val (.ref na), .val (.ref b1), .val (.long (own_fst (own_up (own_up (fun _ => 0) l0.toNatClampNeg) l1.toNatClampNeg) (j + 1))), .second, .val (.int (Int32.ofNat ((j + 1) + 1))), .val (.long ((own_up (own_up (fun _ => 0) l0.toNatClampNeg) l1.toNatClampNeg) (j + 1))), .second] (hb hby d2_64) (by decide) rfl (own_inc (j + 1)) rfl ?_
    refine Own.goto X9 hx (pc := 67) 36 (hb hby d2_67) (by decide) (by decide) ?_
    exact ih (_, _, _, j + 1) ⟨by show (j + 1) + k = 63; omega, X9, e9, N9, K, V_la, V_na, V_b1⟩
theorem ef_rm2_3 (m : MethodId) (la : Addr) (na : Addr) : entryFrame m #[(.ref la), (.int (3 : Int32)), (.ref na)] 9 = mkF m 0 #[.val (.ref la), .val (.int (3 : Int32)), .val (.ref na), .unset, .unset, .unset, .unset, .unset, .unset] [] := by first | (simp [entryFrame, mkF, argsToLocals, Value.category]; done) | rfl
set_option maxRecDepth 65536 in
set_option maxHeartbeats 40000000 in
theorem rm2_3 (l : Launch) (Z : State) (a0 : Array Value) (hw : ∀ d ∈ tables_1, d.before a0 Z = true) (la : Addr) (na : Addr) (l0 : Int32) (l1 : Int32) (l2 : Int32) (l3 : Int32) (fill : Int64) (h0 : Heap) (n0 : Nat) (Z0 : n0 ≤ h0.size) (V_la : Own.VArr Z h0 la .int [(.int l0), (.int l1), (.int l2), (.int l3)]) (V_na : Own.VArr Z h0 na .long [(.long fill), (.long fill), (.long fill), (.long fill)]) (ge_na : n0 ≤ na) (hne : la ≠ na) (hl0 : 0 ≤ l0.toInt ∧ l0.toInt < 64) (hl1 : 0 ≤ l1.toInt ∧ l1.toInt < 64) (hl2 : 0 ≤ l2.toInt ∧ l2.toInt < 64) (hl3 : 0 ≤ l3.toInt ∧ l3.toInt < 64) :
    Own.Ct l (⟨"shortleaf/CanonicalCode", "numbers", "([II[J)V"⟩ : MethodName) prog_8_method_10_code 9 none [] ({ frames := 0, cells := 1, slots := 64, locals := 0 } : Room) Z #[(.ref la), (.int (3 : Int32)), (.ref na)] h0 (fun rV hP lC => rV = none ∧ Fr n0 lC ∧ Keep h0 hP [na] ∧ Own.VArr Z hP na .long [(.long ((own_mid (own_up (own_up (own_up (fun _ => 0) l0.toNatClampNeg) l1.toNatClampNeg) l2.toNatClampNeg) 63) l0.toNatClampNeg)), (.long ((own_up (own_mid (own_up (own_up (own_up (fun _ => 0) l0.toNatClampNeg) l1.toNatClampNeg) l2.toNatClampNeg) 63) l0.toNatClampNeg) l1.toNatClampNeg)), (.long ((own_up (own_up (own_mid (own_up (own_up (own_up (fun _ => 0) l0.toNatClampNeg) l1.toNatClampNeg) l2.toNatClampNeg) 63) l0.toNatClampNeg) l1.toNatClampNeg) l2.toNatClampNeg)), (.long fill)]) := by
  refine Own.enter (plainFor_of_name pn1) ?_
  intro p e s m below meth cc s₁ hx hby hml hown hnm hret hk hZ X0 e0
  have N0 := Fr.nil n0
  refine Own.start (ef_rm2_3 m la na) ?_
  have K : Keep h0 h0 [na] := Keep.refl _ _
  refine Own.bipush X0 hx (pc := 0) (64 : Int32) (hb hby d2_0) (by decide) ?_
  refine Own.newarr X0 hx hZ (pc := 2) (aty := .long) (Wd hw 8 rfl) e0 (hb hby d2_2) (by decide) 64 64 (by decide) (by decide) (by decide) (by decide) (by decide) ?_
  intro T1 h1 b1 g1 X1 e1 Ex1 V_b1
  have ne_la_b1 : la ≠ b1 := Nat.ne_of_lt (g1 ▸ V_la.lt)
  have ne_na_b1 : na ≠ b1 := Nat.ne_of_lt (g1 ▸ V_na.lt)
  have V_la := V_la.ext Ex1
  have V_na := V_na.ext Ex1
  have ge_b1 : n0 ≤ b1 := g1 ▸ Z0
  have sz1 : n0 ≤ h1.size := Nat.le_trans Z0 Ex1.1
  have szo_b1 : h0.size ≤ b1 := g1 ▸ K.1
  have K := K.ext Ex1
  replace V_b1 : Own.VArr Z h1 b1 .long (List.replicate 64 (.long (0 : Int64))) := V_b1
  replace V_b1 : Own.VArr Z h1 b1 .long (own_cl (fun _ => 0)) := by rw [show own_cl (fun _ => 0) = List.replicate 64 (.long (0 : Int64)) from rfl]; exact V_b1
  refine Own.astoreN X1 hx (pc := 4) #[.val (.ref la), .val (.int (3 : Int32)), .val (.ref na), .val (.ref b1), .unset, .unset, .unset, .unset, .unset] (hb hby d2_4) rfl rfl ?_
  refine Own.iconst X1 hx (pc := 5) (0 : Int32) (hb hby d2_5) (by decide) ?_
  refine Own.istore X1 hx (pc := 6) #[.val (.ref la), .val (.int (3 : Int32)), .val (.ref na), .val (.ref b1), .val (.int (0 : Int32)), .unset, .unset, .unset, .unset] (hb hby d2_6) rfl ?_
  refine Own.iload X1 hx (pc := 8) (hb hby d2_8) rfl ?_
  refine Own.iloadN X1 hx (pc := 10) (hb hby d2_10) rfl ?_
  refine Own.icmpNo X1 hx (pc := 11) (hb hby d2_11) (by decide) ?_
  refine Own.aloadN X1 hx (pc := 14) (hb hby d2_14) rfl rfl ?_
  refine Own.aloadN X1 hx (pc := 15) (hb hby d2_15) rfl rfl ?_
  refine Own.iload X1 hx (pc := 16) (hb hby d2_16) rfl ?_
  refine Own.iaload X1 hx hZ (pc := 18) e1 V_la (v := (.int l0)) 0 (by decide) (by decide) rfl (hb hby d2_18) ?_
  refine Own.dup2 X1 hx (pc := 19) (hb hby d2_19) rfl rfl ?_
  refine Own.laload X1 hx hZ (pc := 20) e1 V_b1 (v := (.long ((fun _ => 0) l0.toNatClampNeg))) l0.toNatClampNeg (own_nn hl0.1) rfl (own_get (own_c hl0)) (hb hby d2_20) ?_
  refine Own.lconst X1 hx (pc := 21) (1 : Int64) (hb hby d2_21) (by decide) ?_
  refine Own.ladd X1 hx (pc := 22) (hb hby d2_22) ?_
  refine Own.lastore X1 hx hZ (pc := 23) e1 V_b1 l0.toNatClampNeg (own_nn hl0.1) rfl (by rw [own_len]; exact own_c hl0) N0 ge_b1 (hb hby d2_23) ?_
  intro T2 h2 X2 e2 W2 N2 V_b1
  rw [own_upset (own_c hl0)] at V_b1
  have sz2 : n0 ≤ h2.size := Nat.le_trans sz1 (Nat.le_of_eq (Wr.size W2).symm)
  have V_la := V_la.other W2 ne_la_b1
  have V_na := V_na.other W2 ne_na_b1
  have K := K.wr W2 (Or.inr szo_b1)
  refine Own.iincV X2 hx (pc := 24) (1 : Int32) (1 : Int32) #[.val (.ref la), .val (.int (3 : Int32)), .val (.ref na), .val (.ref b1), .val (.int (1 : Int32)), .unset, .unset, .unset, .unset] (hb hby d2_24) (by decide) rfl (by decide) rfl ?_
  refine Own.goto X2 hx (pc := 27) 8 (hb hby d2_27) (by decide) (by decide) ?_
  refine Own.iload X2 hx (pc := 8) (hb hby d2_8) rfl ?_
  refine Own.iloadN X2 hx (pc := 10) (hb hby d2_10) rfl ?_
  refine Own.icmpNo X2 hx (pc := 11) (hb hby d2_11) (by decide) ?_
  refine Own.aloadN X2 hx (pc := 14) (hb hby d2_14) rfl rfl ?_
  refine Own.aloadN X2 hx (pc := 15) (hb hby d2_15) rfl rfl ?_
  refine Own.iload X2 hx (pc := 16) (hb hby d2_16) rfl ?_
  refine Own.iaload X2 hx hZ (pc := 18) e2 V_la (v := (.int l1)) 1 (by decide) (by decide) rfl (hb hby d2_18) ?_
  refine Own.dup2 X2 hx (pc := 19) (hb hby d2_19) rfl rfl ?_
  refine Own.laload X2 hx hZ (pc := 20) e2 V_b1 (v := (.long ((own_up (fun _ => 0) l0.toNatClampNeg) l1.toNatClampNeg))) l1.toNatClampNeg (own_nn hl1.1) rfl (own_get (own_c hl1)) (hb hby d2_20) ?_
  refine Own.lconst X2 hx (pc := 21) (1 : Int64) (hb hby d2_21) (by decide) ?_
  refine Own.ladd X2 hx (pc := 22) (hb hby d2_22) ?_
  refine Own.lastore X2 hx hZ (pc := 23) e2 V_b1 l1.toNatClampNeg (own_nn hl1.1) rfl (by rw [own_len]; exact own_c hl1) N2 ge_b1 (hb hby d2_23) ?_
  intro T3 h3 X3 e3 W3 N3 V_b1
  rw [own_upset (own_c hl1)] at V_b1
  have sz3 : n0 ≤ h3.size := Nat.le_trans sz2 (Nat.le_of_eq (Wr.size W3).symm)
  have V_la := V_la.other W3 ne_la_b1
  have V_na := V_na.other W3 ne_na_b1
  have K := K.wr W3 (Or.inr szo_b1)
  refine Own.iincV X3 hx (pc := 24) (1 : Int32) (2 : Int32) #[.val (.ref la), .val (.int (3 : Int32)), .val (.ref na), .val (.ref b1), .val (.int (2 : Int32)), .unset, .unset, .unset, .unset] (hb hby d2_24) (by decide) rfl (by decide) rfl ?_
  refine Own.goto X3 hx (pc := 27) 8 (hb hby d2_27) (by decide) (by decide) ?_
  refine Own.iload X3 hx (pc := 8) (hb hby d2_8) rfl ?_
  refine Own.iloadN X3 hx (pc := 10) (hb hby d2_10) rfl ?_
  refine Own.icmpNo X3 hx (pc := 11) (hb hby d2_11) (by decide) ?_
  refine Own.aloadN X3 hx (pc := 14) (hb hby d2_14) rfl rfl ?_
  refine Own.aloadN X3 hx (pc := 15) (hb hby d2_15) rfl rfl ?_
  refine Own.iload X3 hx (pc := 16) (hb hby d2_16) rfl ?_
  refine Own.iaload X3 hx hZ (pc := 18) e3 V_la (v := (.int l2)) 2 (by decide) (by decide) rfl (hb hby d2_18) ?_
  refine Own.dup2 X3 hx (pc := 19) (hb hby d2_19) rfl rfl ?_
  refine Own.laload X3 hx hZ (pc := 20) e3 V_b1 (v := (.long ((own_up (own_up (fun _ => 0) l0.toNatClampNeg) l1.toNatClampNeg) l2.toNatClampNeg))) l2.toNatClampNeg (own_nn hl2.1) rfl (own_get (own_c hl2)) (hb hby d2_20) ?_
  refine Own.lconst X3 hx (pc := 21) (1 : Int64) (hb hby d2_21) (by decide) ?_
  refine Own.ladd X3 hx (pc := 22) (hb hby d2_22) ?_
  refine Own.lastore X3 hx hZ (pc := 23) e3 V_b1 l2.toNatClampNeg (own_nn hl2.1) rfl (by rw [own_len]; exact own_c hl2) N3 ge_b1 (hb hby d2_23) ?_
  intro T4 h4 X4 e4 W4 N4 V_b1
  rw [own_upset (own_c hl2)] at V_b1
  have sz4 : n0 ≤ h4.size := Nat.le_trans sz3 (Nat.le_of_eq (Wr.size W4).symm)
  have V_la := V_la.other W4 ne_la_b1
  have V_na := V_na.other W4 ne_na_b1
  have K := K.wr W4 (Or.inr szo_b1)
  refine Own.iincV X4 hx (pc := 24) (1 : Int32) (3 : Int32) #[.val (.ref la), .val (.int (3 : Int32)), .val (.ref na), .val (.ref b1), .val (.int (3 : Int32)), .unset, .unset, .unset, .unset] (hb hby d2_24) (by decide) rfl (by decide) rfl ?_
  refine Own.goto X4 hx (pc := 27) 8 (hb hby d2_27) (by decide) (by decide) ?_
  refine Own.iload X4 hx (pc := 8) (hb hby d2_8) rfl ?_
  refine Own.iloadN X4 hx (pc := 10) (hb hby d2_10) rfl ?_
  refine Own.icmpYes X4 hx (pc := 11) 30 (hb hby d2_11) (by decide) (by decide) (by decide) ?_
  refine Own.lconst X4 hx (pc := 30) (0 : Int64) (hb hby d2_30) (by decide) ?_
  refine Own.lstore X4 hx (pc := 31) #[.val (.ref la), .val (.int (3 : Int32)), .val (.ref na), .val (.ref b1), .val (.long (0 : Int64)), .second, .unset, .unset, .unset] (hb hby d2_31) rfl ?_
  refine Own.iconst X4 hx (pc := 33) (1 : Int32) (hb hby d2_33) (by decide) ?_
  refine Own.istore X4 hx (pc := 34) #[.val (.ref la), .val (.int (3 : Int32)), .val (.ref na), .val (.ref b1), .val (.long (0 : Int64)), .second, .val (.int (1 : Int32)), .unset, .unset] (hb hby d2_34) rfl ?_
  rw [own_m0 (own_up (own_up (own_up (fun _ => 0) l0.toNatClampNeg) l1.toNatClampNeg) l2.toNatClampNeg)] at V_b1
  show Own.Go p e below _ (T4.setTop (mkF m 36 #[.val (.ref la), .val (.int (3 : Int32)), .val (.ref na), .val (.ref b1), .val (.long (own_fst (own_up (own_up (own_up (fun _ => 0) l0.toNatClampNeg) l1.toNatClampNeg) l2.toNatClampNeg) 0)), .second, .val (.int (Int32.ofNat (0 + 1))), .unset, .unset] []))
  refine Own.iload X4 hx (pc := 36) (hb hby d2_36) rfl ?_
  refine Own.bipush X4 hx (pc := 38) (64 : Int32) (hb hby d2_38) (by decide) ?_
  refine Own.icmpNo X4 hx (pc := 40) (hb hby d2_40) (XT.ii_ge_f ((own_64 (by omega)).mpr (by omega))) ?_
  refine Own.aloadN X4 hx (pc := 43) (hb hby d2_43) rfl rfl ?_
  refine Own.iload X4 hx (pc := 44) (hb hby d2_44) rfl ?_
  refine Own.laload X4 hx hZ (pc := 46) e4 V_b1 (v := (.long ((own_up (own_up (own_up (fun _ => 0) l0.toNatClampNeg) l1.toNatClampNeg) l2.toNatClampNeg) (0 + 1)))) (0 + 1) (own_onn (by omega)) (own_ocl (by omega)) (own_mget (by omega)) (hb hby d2_46) ?_
  refine Own.lstore X4 hx (pc := 47) #[.val (.ref la), .val (.int (3 : Int32)), .val (.ref na), .val (.ref b1), .val (.long (own_fst (own_up (own_up (own_up (fun _ => 0) l0.toNatClampNeg) l1.toNatClampNeg) l2.toNatClampNeg) 0)), .second, .val (.int (Int32.ofNat (0 + 1))), .val (.long ((own_up (own_up (own_up (fun _ => 0) l0.toNatClampNeg) l1.toNatClampNeg) l2.toNatClampNeg) (0 + 1))), .second] (hb hby d2_47) rfl ?_
  refine Own.aloadN X4 hx (pc := 49) (hb hby d2_49) rfl rfl ?_
  refine Own.iload X4 hx (pc := 50) (hb hby d2_50) rfl ?_
  refine Own.lload X4 hx (pc := 52) (hb hby d2_52) rfl ?_
  refine Own.lastore X4 hx hZ (pc := 54) e4 V_b1 (0 + 1) (own_onn (by omega)) (own_ocl (by omega)) (by rw [own_len]; omega) N4 ge_b1 (hb hby d2_54) ?_
  intro T5 h5 X5 e5 W5 N5 V_b1
  rw [own_mset (by omega)] at V_b1
  have sz5 : n0 ≤ h5.size := Nat.le_trans sz4 (Nat.le_of_eq (Wr.size W5).symm)
  have V_la := V_la.other W5 ne_la_b1
  have V_na := V_na.other W5 ne_na_b1
  have K := K.wr W5 (Or.inr szo_b1)
  refine Own.lload X5 hx (pc := 55) (hb hby d2_55) rfl ?_
  refine Own.lload X5 hx (pc := 57) (hb hby d2_57) rfl ?_
  refine Own.ladd X5 hx (pc := 59) (hb hby d2_59) ?_
  refine Own.iconst X5 hx (pc := 60) (1 : Int32) (hb hby d2_60) (by decide) ?_
  refine Own.lshl X5 hx (pc := 61) (hb hby d2_61) ?_
  show Own.Go p e below _ (T5.setTop (mkF m 62 #[.val (.ref la), .val (.int (3 : Int32)), .val (.ref na), .val (.ref b1), .val (.long (own_fst (own_up (own_up (own_up (fun _ => 0) l0.toNatClampNeg) l1.toNatClampNeg) l2.toNatClampNeg) 0)), .second, .val (.int (Int32.ofNat (0 + 1))), .val (.long ((own_up (own_up (own_up (fun _ => 0) l0.toNatClampNeg) l1.toNatClampNeg) l2.toNatClampNeg) (0 + 1))), .second] [(.long (own_fst (own_up (own_up (own_up (fun _ => 0) l0.toNatClampNeg) l1.toNatClampNeg) l2.toNatClampNeg) (0 + 1)))]))
  refine Own.lstore X5 hx (pc := 62) #[.val (.ref la), .val (.int (3 : Int32)), .val (.ref na), .val (.ref b1), .val (.long (own_fst (own_up (own_up (own_up (fun _ => 0) l0.toNatClampNeg) l1.toNatClampNeg) l2.toNatClampNeg) (0 + 1))), .second, .val (.int (Int32.ofNat (0 + 1))), .val (.long ((own_up (own_up (own_up (fun _ => 0) l0.toNatClampNeg) l1.toNatClampNeg) l2.toNatClampNeg) (0 + 1))), .second] (hb hby d2_62) rfl ?_
  refine Own.iincV X5 hx (pc := 64) (1 : Int32) (Int32.ofNat ((0 + 1) + 1)) #[.val (.ref la), .val (.int (3 : Int32)), .val (.ref na), .val (.ref b1), .val (.long (own_fst (own_up (own_up (own_up (fun _ => 0) l0.toNatClampNeg) l1.toNatClampNeg) l2.toNatClampNeg) (0 + 1))), .second, .val (.int (Int32.ofNat ((0 + 1) + 1))), .val (.long ((own_up (own_up (own_up (fun _ => 0) l0.toNatClampNeg) l1.toNatClampNeg) l2.toNatClampNeg) (0 + 1))), .second] (hb hby d2_64) (by decide) rfl (own_inc (0 + 1)) rfl ?_
  refine Own.goto X5 hx (pc := 67) 36 (hb hby d2_67) (by decide) (by decide) ?_
  refine Own.induct (fun q : State × Heap × List Loc × Nat => q.1.setTop (mkF m 36 #[.val (.ref la), .val (.int (3 : Int32)), .val (.ref na), .val (.ref b1), .val (.long (own_fst (own_up (own_up (own_up (fun _ => 0) l0.toNatClampNeg) l1.toNatClampNeg) l2.toNatClampNeg) q.2.2.2)), .second, .val (.int (Int32.ofNat (q.2.2.2 + 1))), .val (.long ((own_up (own_up (own_up (fun _ => 0) l0.toNatClampNeg) l1.toNatClampNeg) l2.toNatClampNeg) q.2.2.2)), .second] [])) (fun k q => q.2.2.2 + k = 63 ∧ Stand p l e ({ frames := 0, cells := 1, slots := 64, locals := 0 } : Room) s m #[(.ref la), (.int (3 : Int32)), (.ref na)] below meth cc q.1 q.2.2.1 1 64 ∧ q.1.heap = q.2.1 ∧ Fr n0 q.2.2.1 ∧ Keep h0 q.2.1 [na] ∧ Own.VArr Z q.2.1 la .int [(.int l0), (.int l1), (.int l2), (.int l3)] ∧ Own.VArr Z q.2.1 na .long [(.long fill), (.long fill), (.long fill), (.long fill)] ∧ Own.VArr Z q.2.1 b1 .long (own_cl (own_mid (own_up (own_up (own_up (fun _ => 0) l0.toNatClampNeg) l1.toNatClampNeg) l2.toNatClampNeg) q.2.2.2))) ?_ ?_ (n := 62) (a := (_, _, _, 0 + 1)) ⟨rfl, X5, e5, N5, K, V_la, V_na, V_b1⟩
  · rintro ⟨T, h, lc, j⟩ ⟨hi, X, eT, N, K, V_la, V_na, V_b1⟩
    dsimp only at hi X eT N K V_la V_na V_b1
    have sz : n0 ≤ h.size := Nat.le_trans Z0 K.1
    obtain rfl : j = 63 := by omega
    show Own.Go p e below _ (T.setTop (mkF m 36 #[.val (.ref la), .val (.int (3 : Int32)), .val (.ref na), .val (.ref b1), .val (.long (own_fst (own_up (own_up (own_up (fun _ => 0) l0.toNatClampNeg) l1.toNatClampNeg) l2.toNatClampNeg) 63)), .second, .val (.int (Int32.ofNat (63 + 1))), .val (.long ((own_up (own_up (own_up (fun _ => 0) l0.toNatClampNeg) l1.toNatClampNeg) l2.toNatClampNeg) 63)), .second] []))
    refine Own.iload X hx (pc := 36) (hb hby d2_36) rfl ?_
    refine Own.bipush X hx (pc := 38) (64 : Int32) (hb hby d2_38) (by decide) ?_
    refine Own.icmpYes X hx (pc := 40) 70 (hb hby d2_40) (XT.ii_ge_t (mt (own_64 (by decide)).mp (by decide))) (by decide) (by decide) ?_
    refine Own.iconst X hx (pc := 70) (0 : Int32) (hb hby d2_70) (by decide) ?_
    refine Own.istore X hx (pc := 71) #[.val (.ref la), .val (.int (3 : Int32)), .val (.ref na), .val (.ref b1), .val (.long (own_fst (own_up (own_up (own_up (fun _ => 0) l0.toNatClampNeg) l1.toNatClampNeg) l2.toNatClampNeg) 63)), .second, .val (.int (0 : Int32)), .val (.long ((own_up (own_up (own_up (fun _ => 0) l0.toNatClampNeg) l1.toNatClampNeg) l2.toNatClampNeg) 63)), .second] (hb hby d2_71) rfl ?_
    refine Own.iload X hx (pc := 73) (hb hby d2_73) rfl ?_
    refine Own.iloadN X hx (pc := 75) (hb hby d2_75) rfl ?_
    refine Own.icmpNo X hx (pc := 76) (hb hby d2_76) (by decide) ?_
    refine Own.aloadN X hx (pc := 79) (hb hby d2_79) rfl rfl ?_
    refine Own.iload X hx (pc := 80) (hb hby d2_80) rfl ?_
    refine Own.aloadN X hx (pc := 82) (hb hby d2_82) rfl rfl ?_
    refine Own.aloadN X hx (pc := 83) (hb hby d2_83) rfl rfl ?_
    refine Own.iload X hx (pc := 84) (hb hby d2_84) rfl ?_
    refine Own.iaload X hx hZ (pc := 86) eT V_la (v := (.int l0)) 0 (by decide) (by decide) rfl (hb hby d2_86) ?_
    refine Own.dup2 X hx (pc := 87) (hb hby d2_87) rfl rfl ?_
    refine Own.laload X hx hZ (pc := 88) eT V_b1 (v := (.long ((own_mid (own_up (own_up (own_up (fun _ => 0) l0.toNatClampNeg) l1.toNatClampNeg) l2.toNatClampNeg) 63) l0.toNatClampNeg))) l0.toNatClampNeg (own_nn hl0.1) rfl (own_get (own_c hl0)) (hb hby d2_88) ?_
    refine Own.dup2X2 X hx (pc := 89) (hb hby d2_89) rfl rfl ?_
    refine Own.lconst X hx (pc := 90) (1 : Int64) (hb hby d2_90) (by decide) ?_
    refine Own.ladd X hx (pc := 91) (hb hby d2_91) ?_
    refine Own.lastore X hx hZ (pc := 92) eT V_b1 l0.toNatClampNeg (own_nn hl0.1) rfl (by rw [own_len]; exact own_c hl0) N ge_b1 (hb hby d2_92) ?_
    intro T6 h6 X6 e6 W6 N6 V_b1
    rw [own_upset (own_c hl0)] at V_b1
    have sz6 : n0 ≤ h6.size := Nat.le_trans sz (Nat.le_of_eq (Wr.size W6).symm)
    have V_la := V_la.other W6 ne_la_b1
    have V_na := V_na.other W6 ne_na_b1
    have K := K.wr W6 (Or.inr szo_b1)
    refine Own.lastore X6 hx hZ (pc := 93) e6 V_na 0 (by decide) (by decide) (of_decide_eq_true rfl) N6 ge_na (hb hby d2_93) ?_
    intro T7 h7 X7 e7 W7 N7 V_na
    replace V_na : Own.VArr Z h7 na .long [(.long ((own_mid (own_up (own_up (own_up (fun _ => 0) l0.toNatClampNeg) l1.toNatClampNeg) l2.toNatClampNeg) 63) l0.toNatClampNeg)), (.long fill), (.long fill), (.long fill)] := V_na
    have sz7 : n0 ≤ h7.size := Nat.le_trans sz6 (Nat.le_of_eq (Wr.size W7).symm)
    have V_la := V_la.other W7 hne
    have V_b1 := V_b1.other W7 (Ne.symm ne_na_b1)
    have K := K.wr W7 (Or.inl (by simp))
    refine Own.iincV X7 hx (pc := 94) (1 : Int32) (1 : Int32) #[.val (.ref la), .val (.int (3 : Int32)), .val (.ref na), .val (.ref b1), .val (.long (own_fst (own_up (own_up (own_up (fun _ => 0) l0.toNatClampNeg) l1.toNatClampNeg) l2.toNatClampNeg) 63)), .second, .val (.int (1 : Int32)), .val (.long ((own_up (own_up (own_up (fun _ => 0) l0.toNatClampNeg) l1.toNatClampNeg) l2.toNatClampNeg) 63)), .second] (hb hby d2_94) (by decide) rfl (by decide) rfl ?_
    refine Own.goto X7 hx (pc := 97) 73 (hb hby d2_97) (by decide) (by decide) ?_
    refine Own.iload X7 hx (pc := 73) (hb hby d2_73) rfl ?_
    refine Own.iloadN X7 hx (pc := 75) (hb hby d2_75) rfl ?_
    refine Own.icmpNo X7 hx (pc := 76) (hb hby d2_76) (by decide) ?_
    refine Own.aloadN X7 hx (pc := 79) (hb hby d2_79) rfl rfl ?_
    refine Own.iload X7 hx (pc := 80) (hb hby d2_80) rfl ?_
    refine Own.aloadN X7 hx (pc := 82) (hb hby d2_82) rfl rfl ?_
    refine Own.aloadN X7 hx (pc := 83) (hb hby d2_83) rfl rfl ?_
    refine Own.iload X7 hx (pc := 84) (hb hby d2_84) rfl ?_
    refine Own.iaload X7 hx hZ (pc := 86) e7 V_la (v := (.int l1)) 1 (by decide) (by decide) rfl (hb hby d2_86) ?_
    refine Own.dup2 X7 hx (pc := 87) (hb hby d2_87) rfl rfl ?_
    refine Own.laload X7 hx hZ (pc := 88) e7 V_b1 (v := (.long ((own_up (own_mid (own_up (own_up (own_up (fun _ => 0) l0.toNatClampNeg) l1.toNatClampNeg) l2.toNatClampNeg) 63) l0.toNatClampNeg) l1.toNatClampNeg))) l1.toNatClampNeg (own_nn hl1.1) rfl (own_get (own_c hl1)) (hb hby d2_88) ?_
    refine Own.dup2X2 X7 hx (pc := 89) (hb hby d2_89) rfl rfl ?_
    refine Own.lconst X7 hx (pc := 90) (1 : Int64) (hb hby d2_90) (by decide) ?_
    refine Own.ladd X7 hx (pc := 91) (hb hby d2_91) ?_
    refine Own.lastore X7 hx hZ (pc := 92) e7 V_b1 l1.toNatClampNeg (own_nn hl1.1) rfl (by rw [own_len]; exact own_c hl1) N7 ge_b1 (hb hby d2_92) ?_
    intro T8 h8 X8 e8 W8 N8 V_b1
    rw [own_upset (own_c hl1)] at V_b1
    have sz8 : n0 ≤ h8.size := Nat.le_trans sz7 (Nat.le_of_eq (Wr.size W8).symm)
    have V_la := V_la.other W8 ne_la_b1
    have V_na := V_na.other W8 ne_na_b1
    have K := K.wr W8 (Or.inr szo_b1)
    refine Own.lastore X8 hx hZ (pc := 93) e8 V_na 1 (by decide) (by decide) (of_decide_eq_true rfl) N8 ge_na (hb hby d2_93) ?_
    intro T9 h9 X9 e9 W9 N9 V_na
    replace V_na : Own.VArr Z h9 na .long [(.long ((own_mid (own_up (own_up (own_up (fun _ => 0) l0.toNatClampNeg) l1.toNatClampNeg) l2.toNatClampNeg) 63) l0.toNatClampNeg)), (.long ((own_up (own_mid (own_up (own_up (own_up (fun _ => 0) l0.toNatClampNeg) l1.toNatClampNeg) l2.toNatClampNeg) 63) l0.toNatClampNeg) l1.toNatClampNeg)), (.long fill), (.long fill)] := V_na
    have sz9 : n0 ≤ h9.size := Nat.le_trans sz8 (Nat.le_of_eq (Wr.size W9).symm)
    have V_la := V_la.other W9 hne
    have V_b1 := V_b1.other W9 (Ne.symm ne_na_b1)
    have K := K.wr W9 (Or.inl (by simp))
    refine Own.iincV X9 hx (pc := 94) (1 : Int32) (2 : Int32) #[.val (.ref la), .val (.int (3 : Int32)), .val (.ref na), .val (.ref b1), .val (.long (own_fst (own_up (own_up (own_up (fun _ => 0) l0.toNatClampNeg) l1.toNatClampNeg) l2.toNatClampNeg) 63)), .second, .val (.int (2 : Int32)), .val (.long ((own_up (own_up (own_up (fun _ => 0) l0.toNatClampNeg) l1.toNatClampNeg) l2.toNatClampNeg) 63)), .second] (hb hby d2_94) (by decide) rfl (by decide) rfl ?_
    refine Own.goto X9 hx (pc := 97) 73 (hb hby d2_97) (by decide) (by decide) ?_
    refine Own.iload X9 hx (pc := 73) (hb hby d2_73) rfl ?_
    refine Own.iloadN X9 hx (pc := 75) (hb hby d2_75) rfl ?_
    refine Own.icmpNo X9 hx (pc := 76) (hb hby d2_76) (by decide) ?_
    refine Own.aloadN X9 hx (pc := 79) (hb hby d2_79) rfl rfl ?_
    refine Own.iload X9 hx (pc := 80) (hb hby d2_80) rfl ?_
    refine Own.aloadN X9 hx (pc := 82) (hb hby d2_82) rfl rfl ?_
    refine Own.aloadN X9 hx (pc := 83) (hb hby d2_83) rfl rfl ?_
    refine Own.iload X9 hx (pc := 84) (hb hby d2_84) rfl ?_
    refine Own.iaload X9 hx hZ (pc := 86) e9 V_la (v := (.int l2)) 2 (by decide) (by decide) rfl (hb hby d2_86) ?_
    refine Own.dup2 X9 hx (pc := 87) (hb hby d2_87) rfl rfl ?_
    refine Own.laload X9 hx hZ (pc := 88) e9 V_b1 (v := (.long ((own_up (own_up (own_mid (own_up (own_up (own_up (fun _ => 0) l0.toNatClampNeg) l1.toNatClampNeg) l2.toNatClampNeg) 63) l0.toNatClampNeg) l1.toNatClampNeg) l2.toNatClampNeg))) l2.toNatClampNeg (own_nn hl2.1) rfl (own_get (own_c hl2)) (hb hby d2_88) ?_
    refine Own.dup2X2 X9 hx (pc := 89) (hb hby d2_89) rfl rfl ?_
    refine Own.lconst X9 hx (pc := 90) (1 : Int64) (hb hby d2_90) (by decide) ?_
    refine Own.ladd X9 hx (pc := 91) (hb hby d2_91) ?_
    refine Own.lastore X9 hx hZ (pc := 92) e9 V_b1 l2.toNatClampNeg (own_nn hl2.1) rfl (by rw [own_len]; exact own_c hl2) N9 ge_b1 (hb hby d2_92) ?_
    intro T10 h10 X10 e10 W10 N10 V_b1
    rw [own_upset (own_c hl2)] at V_b1
    have sz10 : n0 ≤ h10.size := Nat.le_trans sz9 (Nat.le_of_eq (Wr.size W10).symm)
    have V_la := V_la.other W10 ne_la_b1
    have V_na := V_na.other W10 ne_na_b1
    have K := K.wr W10 (Or.inr szo_b1)
    refine Own.lastore X10 hx hZ (pc := 93) e10 V_na 2 (by decide) (by decide) (of_decide_eq_true rfl) N10 ge_na (hb hby d2_93) ?_
    intro T11 h11 X11 e11 W11 N11 V_na
    replace V_na : Own.VArr Z h11 na .long [(.long ((own_mid (own_up (own_up (own_up (fun _ => 0) l0.toNatClampNeg) l1.toNatClampNeg) l2.toNatClampNeg) 63) l0.toNatClampNeg)), (.long ((own_up (own_mid (own_up (own_up (own_up (fun _ => 0) l0.toNatClampNeg) l1.toNatClampNeg) l2.toNatClampNeg) 63) l0.toNatClampNeg) l1.toNatClampNeg)), (.long ((own_up (own_up (own_mid (own_up (own_up (own_up (fun _ => 0) l0.toNatClampNeg) l1.toNatClampNeg) l2.toNatClampNeg) 63) l0.toNatClampNeg) l1.toNatClampNeg) l2.toNatClampNeg)), (.long fill)] := V_na
    have sz11 : n0 ≤ h11.size := Nat.le_trans sz10 (Nat.le_of_eq (Wr.size W11).symm)
    have V_la := V_la.other W11 hne
    have V_b1 := V_b1.other W11 (Ne.symm ne_na_b1)
    have K := K.wr W11 (Or.inl (by simp))
    refine Own.iincV X11 hx (pc := 94) (1 : Int32) (3 : Int32) #[.val (.ref la), .val (.int (3 : Int32)), .val (.ref na), .val (.ref b1), .val (.long (own_fst (own_up (own_up (own_up (fun _ => 0) l0.toNatClampNeg) l1.toNatClampNeg) l2.toNatClampNeg) 63)), .second, .val (.int (3 : Int32)), .val (.long ((own_up (own_up (own_up (fun _ => 0) l0.toNatClampNeg) l1.toNatClampNeg) l2.toNatClampNeg) 63)), .second] (hb hby d2_94) (by decide) rfl (by decide) rfl ?_
    refine Own.goto X11 hx (pc := 97) 73 (hb hby d2_97) (by decide) (by decide) ?_
    refine Own.iload X11 hx (pc := 73) (hb hby d2_73) rfl ?_
    refine Own.iloadN X11 hx (pc := 75) (hb hby d2_75) rfl ?_
    refine Own.icmpYes X11 hx (pc := 76) 100 (hb hby d2_76) (by decide) (by decide) (by decide) ?_
    exact Own.vreturn X11 hx hk hret (hb hby d2_100) e11 ⟨rfl, N11, K, V_na⟩ (by decide) (by decide)
  · rintro k ⟨T, h, lc, j⟩ ⟨hi, X, eT, N, K, V_la, V_na, V_b1⟩ ih
    dsimp only at hi X eT N K V_la V_na V_b1
    have sz : n0 ≤ h.size := Nat.le_trans Z0 K.1
    show Own.Go p e below _ (T.setTop (mkF m 36 #[.val (.ref la), .val (.int (3 : Int32)), .val (.ref na), .val (.ref b1), .val (.long (own_fst (own_up (own_up (own_up (fun _ => 0) l0.toNatClampNeg) l1.toNatClampNeg) l2.toNatClampNeg) j)), .second, .val (.int (Int32.ofNat (j + 1))), .val (.long ((own_up (own_up (own_up (fun _ => 0) l0.toNatClampNeg) l1.toNatClampNeg) l2.toNatClampNeg) j)), .second] []))
    refine Own.iload X hx (pc := 36) (hb hby d2_36) rfl ?_
    refine Own.bipush X hx (pc := 38) (64 : Int32) (hb hby d2_38) (by decide) ?_
    refine Own.icmpNo X hx (pc := 40) (hb hby d2_40) (XT.ii_ge_f ((own_64 (by omega)).mpr (by omega))) ?_
    refine Own.aloadN X hx (pc := 43) (hb hby d2_43) rfl rfl ?_
    refine Own.iload X hx (pc := 44) (hb hby d2_44) rfl ?_
    refine Own.laload X hx hZ (pc := 46) eT V_b1 (v := (.long ((own_up (own_up (own_up (fun _ => 0) l0.toNatClampNeg) l1.toNatClampNeg) l2.toNatClampNeg) (j + 1)))) (j + 1) (own_onn (by omega)) (own_ocl (by omega)) (own_mget (by omega)) (hb hby d2_46) ?_
    refine Own.lstore X hx (pc := 47) #[.val (.ref la), .val (.int (3 : Int32)), .val (.ref na), .val (.ref b1), .val (.long (own_fst (own_up (own_up (own_up (fun _ => 0) l0.toNatClampNeg) l1.toNatClampNeg) l2.toNatClampNeg) j)), .second, .val (.int (Int32.ofNat (j + 1))), .val (.long ((own_up (own_up (own_up (fun _ => 0) l0.toNatClampNeg) l1.toNatClampNeg) l2.toNatClampNeg) (j + 1))), .second] (hb hby d2_47) rfl ?_
    refine Own.aloadN X hx (pc := 49) (hb hby d2_49) rfl rfl ?_
    refine Own.iload X hx (pc := 50) (hb hby d2_50) rfl ?_
    refine Own.lload X hx (pc := 52) (hb hby d2_52) rfl ?_
    refine Own.lastore X hx hZ (pc := 54) eT V_b1 (j + 1) (own_onn (by omega)) (own_ocl (by omega)) (by rw [own_len]; omega) N ge_b1 (hb hby d2_54) ?_
    intro T12 h12 X12 e12 W12 N12 V_b1
    rw [own_mset (by omega)] at V_b1
    have sz12 : n0 ≤ h12.size := Nat.le_trans sz (Nat.le_of_eq (Wr.size W12).symm)
    have V_la := V_la.other W12 ne_la_b1
    have V_na := V_na.other W12 ne_na_b1
    have K := K.wr W12 (Or.inr szo_b1)
    refine Own.lload X12 hx (pc := 55) (hb hby d2_55) rfl ?_
    refine Own.lload X12 hx (pc := 57) (hb hby d2_57) rfl ?_
    refine Own.ladd X12 hx (pc := 59) (hb hby d2_59) ?_
    refine Own.iconst X12 hx (pc := 60) (1 : Int32) (hb hby d2_60) (by decide) ?_
    refine Own.lshl X12 hx (pc := 61) (hb hby d2_61) ?_
    show Own.Go p e below _ (T12.setTop (mkF m 62 #[.val (.ref la), .val (.int (3 : Int32)), .val (.ref na), .val (.ref b1), .val (.long (own_fst (own_up (own_up (own_up (fun _ => 0) l0.toNatClampNeg) l1.toNatClampNeg) l2.toNatClampNeg) j)), .second, .val (.int (Int32.ofNat (j + 1))), .val (.long ((own_up (own_up (own_up (fun _ => 0) l0.toNatClampNeg) l1.toNatClampNeg) l2.toNatClampNeg) (j + 1))), .second] [(.long (own_fst (own_up (own_up (own_up (fun _ => 0) l0.toNatClampNeg) l1.toNatClampNeg) l2.toNatClampNeg) (j + 1)))]))
    refine Own.lstore X12 hx (pc := 62) #[.val (.ref la), .val (.int (3 : Int32)), .val (.ref na), .val (.ref b1), .val (.long (own_fst (own_up (own_up (own_up (fun _ => 0) l0.toNatClampNeg) l1.toNatClampNeg) l2.toNatClampNeg) (j + 1))), .second, .val (.int (Int32.ofNat (j + 1))), .val (.long ((own_up (own_up (own_up (fun _ => 0) l0.toNatClampNeg) l1.toNatClampNeg) l2.toNatClampNeg) (j + 1))), .second] (hb hby d2_62) rfl ?_
    refine Own.iincV X12 hx (pc := 64) (1 : Int32) (Int32.ofNat ((j + 1) + 1)) #[.val (.ref la), .val (.int (3 : Int32)), .val (.ref na), .val (.ref b1), .val (.long (own_fst (own_up (own_up (own_up (fun _ => 0) l0.toNatClampNeg) l1.toNatClampNeg) l2.toNatClampNeg) (j + 1))), .second, .val (.int (Int32.ofNat ((j + 1) + 1))), .val (.long ((own_up (own_up (own_up (fun _ => 0) l0.toNatClampNeg) l1.toNatClampNeg) l2.toNatClampNeg) (j + 1))), .second] (hb hby d2_64) (by decide) rfl (own_inc (j + 1)) rfl ?_
    refine Own.goto X12 hx (pc := 67) 36 (hb hby d2_67) (by decide) (by decide) ?_
    exact ih (_, _, _, j + 1) ⟨by show (j + 1) + k = 63; omega, X12, e12, N12, K, V_la, V_na, V_b1⟩
theorem ef_rm2_4 (m : MethodId) (la : Addr) (na : Addr) : entryFrame m #[(.ref la), (.int (4 : Int32)), (.ref na)] 9 = mkF m 0 #[.val (.ref la), .val (.int (4 : Int32)), .val (.ref na), .unset, .unset, .unset, .unset, .unset, .unset] [] := by first | (simp [entryFrame, mkF, argsToLocals, Value.category]; done) | rfl
set_option maxRecDepth 65536 in
set_option maxHeartbeats 40000000 in
theorem rm2_4 (l : Launch) (Z : State) (a0 : Array Value) (hw : ∀ d ∈ tables_1, d.before a0 Z = true) (la : Addr) (na : Addr) (l0 : Int32) (l1 : Int32) (l2 : Int32) (l3 : Int32) (fill : Int64) (h0 : Heap) (n0 : Nat) (Z0 : n0 ≤ h0.size) (V_la : Own.VArr Z h0 la .int [(.int l0), (.int l1), (.int l2), (.int l3)]) (V_na : Own.VArr Z h0 na .long [(.long fill), (.long fill), (.long fill), (.long fill)]) (ge_na : n0 ≤ na) (hne : la ≠ na) (hl0 : 0 ≤ l0.toInt ∧ l0.toInt < 64) (hl1 : 0 ≤ l1.toInt ∧ l1.toInt < 64) (hl2 : 0 ≤ l2.toInt ∧ l2.toInt < 64) (hl3 : 0 ≤ l3.toInt ∧ l3.toInt < 64) :
    Own.Ct l (⟨"shortleaf/CanonicalCode", "numbers", "([II[J)V"⟩ : MethodName) prog_8_method_10_code 9 none [] ({ frames := 0, cells := 1, slots := 64, locals := 0 } : Room) Z #[(.ref la), (.int (4 : Int32)), (.ref na)] h0 (fun rV hP lC => rV = none ∧ Fr n0 lC ∧ Keep h0 hP [na] ∧ Own.VArr Z hP na .long [(.long ((own_mid (own_up (own_up (own_up (own_up (fun _ => 0) l0.toNatClampNeg) l1.toNatClampNeg) l2.toNatClampNeg) l3.toNatClampNeg) 63) l0.toNatClampNeg)), (.long ((own_up (own_mid (own_up (own_up (own_up (own_up (fun _ => 0) l0.toNatClampNeg) l1.toNatClampNeg) l2.toNatClampNeg) l3.toNatClampNeg) 63) l0.toNatClampNeg) l1.toNatClampNeg)), (.long ((own_up (own_up (own_mid (own_up (own_up (own_up (own_up (fun _ => 0) l0.toNatClampNeg) l1.toNatClampNeg) l2.toNatClampNeg) l3.toNatClampNeg) 63) l0.toNatClampNeg) l1.toNatClampNeg) l2.toNatClampNeg)), (.long ((own_up (own_up (own_up (own_mid (own_up (own_up (own_up (own_up (fun _ => 0) l0.toNatClampNeg) l1.toNatClampNeg) l2.toNatClampNeg) l3.toNatClampNeg) 63) l0.toNatClampNeg) l1.toNatClampNeg) l2.toNatClampNeg) l3.toNatClampNeg))]) := by
  refine Own.enter (plainFor_of_name pn1) ?_
  intro p e s m below meth cc s₁ hx hby hml hown hnm hret hk hZ X0 e0
  have N0 := Fr.nil n0
  refine Own.start (ef_rm2_4 m la na) ?_
  have K : Keep h0 h0 [na] := Keep.refl _ _
  refine Own.bipush X0 hx (pc := 0) (64 : Int32) (hb hby d2_0) (by decide) ?_
  refine Own.newarr X0 hx hZ (pc := 2) (aty := .long) (Wd hw 8 rfl) e0 (hb hby d2_2) (by decide) 64 64 (by decide) (by decide) (by decide) (by decide) (by decide) ?_
  intro T1 h1 b1 g1 X1 e1 Ex1 V_b1
  have ne_la_b1 : la ≠ b1 := Nat.ne_of_lt (g1 ▸ V_la.lt)
  have ne_na_b1 : na ≠ b1 := Nat.ne_of_lt (g1 ▸ V_na.lt)
  have V_la := V_la.ext Ex1
  have V_na := V_na.ext Ex1
  have ge_b1 : n0 ≤ b1 := g1 ▸ Z0
  have sz1 : n0 ≤ h1.size := Nat.le_trans Z0 Ex1.1
  have szo_b1 : h0.size ≤ b1 := g1 ▸ K.1
  have K := K.ext Ex1
  replace V_b1 : Own.VArr Z h1 b1 .long (List.replicate 64 (.long (0 : Int64))) := V_b1
  replace V_b1 : Own.VArr Z h1 b1 .long (own_cl (fun _ => 0)) := by rw [show own_cl (fun _ => 0) = List.replicate 64 (.long (0 : Int64)) from rfl]; exact V_b1
  refine Own.astoreN X1 hx (pc := 4) #[.val (.ref la), .val (.int (4 : Int32)), .val (.ref na), .val (.ref b1), .unset, .unset, .unset, .unset, .unset] (hb hby d2_4) rfl rfl ?_
  refine Own.iconst X1 hx (pc := 5) (0 : Int32) (hb hby d2_5) (by decide) ?_
  refine Own.istore X1 hx (pc := 6) #[.val (.ref la), .val (.int (4 : Int32)), .val (.ref na), .val (.ref b1), .val (.int (0 : Int32)), .unset, .unset, .unset, .unset] (hb hby d2_6) rfl ?_
  refine Own.iload X1 hx (pc := 8) (hb hby d2_8) rfl ?_
  refine Own.iloadN X1 hx (pc := 10) (hb hby d2_10) rfl ?_
  refine Own.icmpNo X1 hx (pc := 11) (hb hby d2_11) (by decide) ?_
  refine Own.aloadN X1 hx (pc := 14) (hb hby d2_14) rfl rfl ?_
  refine Own.aloadN X1 hx (pc := 15) (hb hby d2_15) rfl rfl ?_
  refine Own.iload X1 hx (pc := 16) (hb hby d2_16) rfl ?_
  refine Own.iaload X1 hx hZ (pc := 18) e1 V_la (v := (.int l0)) 0 (by decide) (by decide) rfl (hb hby d2_18) ?_
  refine Own.dup2 X1 hx (pc := 19) (hb hby d2_19) rfl rfl ?_
  refine Own.laload X1 hx hZ (pc := 20) e1 V_b1 (v := (.long ((fun _ => 0) l0.toNatClampNeg))) l0.toNatClampNeg (own_nn hl0.1) rfl (own_get (own_c hl0)) (hb hby d2_20) ?_
  refine Own.lconst X1 hx (pc := 21) (1 : Int64) (hb hby d2_21) (by decide) ?_
  refine Own.ladd X1 hx (pc := 22) (hb hby d2_22) ?_
  refine Own.lastore X1 hx hZ (pc := 23) e1 V_b1 l0.toNatClampNeg (own_nn hl0.1) rfl (by rw [own_len]; exact own_c hl0) N0 ge_b1 (hb hby d2_23) ?_
  intro T2 h2 X2 e2 W2 N2 V_b1
  rw [own_upset (own_c hl0)] at V_b1
  have sz2 : n0 ≤ h2.size := Nat.le_trans sz1 (Nat.le_of_eq (Wr.size W2).symm)
  have V_la := V_la.other W2 ne_la_b1
  have V_na := V_na.other W2 ne_na_b1
  have K := K.wr W2 (Or.inr szo_b1)
  refine Own.iincV X2 hx (pc := 24) (1 : Int32) (1 : Int32) #[.val (.ref la), .val (.int (4 : Int32)), .val (.ref na), .val (.ref b1), .val (.int (1 : Int32)), .unset, .unset, .unset, .unset] (hb hby d2_24) (by decide) rfl (by decide) rfl ?_
  refine Own.goto X2 hx (pc := 27) 8 (hb hby d2_27) (by decide) (by decide) ?_
  refine Own.iload X2 hx (pc := 8) (hb hby d2_8) rfl ?_
  refine Own.iloadN X2 hx (pc := 10) (hb hby d2_10) rfl ?_
  refine Own.icmpNo X2 hx (pc := 11) (hb hby d2_11) (by decide) ?_
  refine Own.aloadN X2 hx (pc := 14) (hb hby d2_14) rfl rfl ?_
  refine Own.aloadN X2 hx (pc := 15) (hb hby d2_15) rfl rfl ?_
  refine Own.iload X2 hx (pc := 16) (hb hby d2_16) rfl ?_
  refine Own.iaload X2 hx hZ (pc := 18) e2 V_la (v := (.int l1)) 1 (by decide) (by decide) rfl (hb hby d2_18) ?_
  refine Own.dup2 X2 hx (pc := 19) (hb hby d2_19) rfl rfl ?_
  refine Own.laload X2 hx hZ (pc := 20) e2 V_b1 (v := (.long ((own_up (fun _ => 0) l0.toNatClampNeg) l1.toNatClampNeg))) l1.toNatClampNeg (own_nn hl1.1) rfl (own_get (own_c hl1)) (hb hby d2_20) ?_
  refine Own.lconst X2 hx (pc := 21) (1 : Int64) (hb hby d2_21) (by decide) ?_
  refine Own.ladd X2 hx (pc := 22) (hb hby d2_22) ?_
  refine Own.lastore X2 hx hZ (pc := 23) e2 V_b1 l1.toNatClampNeg (own_nn hl1.1) rfl (by rw [own_len]; exact own_c hl1) N2 ge_b1 (hb hby d2_23) ?_
  intro T3 h3 X3 e3 W3 N3 V_b1
  rw [own_upset (own_c hl1)] at V_b1
  have sz3 : n0 ≤ h3.size := Nat.le_trans sz2 (Nat.le_of_eq (Wr.size W3).symm)
  have V_la := V_la.other W3 ne_la_b1
  have V_na := V_na.other W3 ne_na_b1
  have K := K.wr W3 (Or.inr szo_b1)
  refine Own.iincV X3 hx (pc := 24) (1 : Int32) (2 : Int32) #[.val (.ref la), .val (.int (4 : Int32)), .val (.ref na), .val (.ref b1), .val (.int (2 : Int32)), .unset, .unset, .unset, .unset] (hb hby d2_24) (by decide) rfl (by decide) rfl ?_
  refine Own.goto X3 hx (pc := 27) 8 (hb hby d2_27) (by decide) (by decide) ?_
  refine Own.iload X3 hx (pc := 8) (hb hby d2_8) rfl ?_
  refine Own.iloadN X3 hx (pc := 10) (hb hby d2_10) rfl ?_
  refine Own.icmpNo X3 hx (pc := 11) (hb hby d2_11) (by decide) ?_
  refine Own.aloadN X3 hx (pc := 14) (hb hby d2_14) rfl rfl ?_
  refine Own.aloadN X3 hx (pc := 15) (hb hby d2_15) rfl rfl ?_
  refine Own.iload X3 hx (pc := 16) (hb hby d2_16) rfl ?_
  refine Own.iaload X3 hx hZ (pc := 18) e3 V_la (v := (.int l2)) 2 (by decide) (by decide) rfl (hb hby d2_18) ?_
  refine Own.dup2 X3 hx (pc := 19) (hb hby d2_19) rfl rfl ?_
  refine Own.laload X3 hx hZ (pc := 20) e3 V_b1 (v := (.long ((own_up (own_up (fun _ => 0) l0.toNatClampNeg) l1.toNatClampNeg) l2.toNatClampNeg))) l2.toNatClampNeg (own_nn hl2.1) rfl (own_get (own_c hl2)) (hb hby d2_20) ?_
  refine Own.lconst X3 hx (pc := 21) (1 : Int64) (hb hby d2_21) (by decide) ?_
  refine Own.ladd X3 hx (pc := 22) (hb hby d2_22) ?_
  refine Own.lastore X3 hx hZ (pc := 23) e3 V_b1 l2.toNatClampNeg (own_nn hl2.1) rfl (by rw [own_len]; exact own_c hl2) N3 ge_b1 (hb hby d2_23) ?_
  intro T4 h4 X4 e4 W4 N4 V_b1
  rw [own_upset (own_c hl2)] at V_b1
  have sz4 : n0 ≤ h4.size := Nat.le_trans sz3 (Nat.le_of_eq (Wr.size W4).symm)
  have V_la := V_la.other W4 ne_la_b1
  have V_na := V_na.other W4 ne_na_b1
  have K := K.wr W4 (Or.inr szo_b1)
  refine Own.iincV X4 hx (pc := 24) (1 : Int32) (3 : Int32) #[.val (.ref la), .val (.int (4 : Int32)), .val (.ref na), .val (.ref b1), .val (.int (3 : Int32)), .unset, .unset, .unset, .unset] (hb hby d2_24) (by decide) rfl (by decide) rfl ?_
  refine Own.goto X4 hx (pc := 27) 8 (hb hby d2_27) (by decide) (by decide) ?_
  refine Own.iload X4 hx (pc := 8) (hb hby d2_8) rfl ?_
  refine Own.iloadN X4 hx (pc := 10) (hb hby d2_10) rfl ?_
  refine Own.icmpNo X4 hx (pc := 11) (hb hby d2_11) (by decide) ?_
  refine Own.aloadN X4 hx (pc := 14) (hb hby d2_14) rfl rfl ?_
  refine Own.aloadN X4 hx (pc := 15) (hb hby d2_15) rfl rfl ?_
  refine Own.iload X4 hx (pc := 16) (hb hby d2_16) rfl ?_
  refine Own.iaload X4 hx hZ (pc := 18) e4 V_la (v := (.int l3)) 3 (by decide) (by decide) rfl (hb hby d2_18) ?_
  refine Own.dup2 X4 hx (pc := 19) (hb hby d2_19) rfl rfl ?_
  refine Own.laload X4 hx hZ (pc := 20) e4 V_b1 (v := (.long ((own_up (own_up (own_up (fun _ => 0) l0.toNatClampNeg) l1.toNatClampNeg) l2.toNatClampNeg) l3.toNatClampNeg))) l3.toNatClampNeg (own_nn hl3.1) rfl (own_get (own_c hl3)) (hb hby d2_20) ?_
  refine Own.lconst X4 hx (pc := 21) (1 : Int64) (hb hby d2_21) (by decide) ?_
  refine Own.ladd X4 hx (pc := 22) (hb hby d2_22) ?_
  refine Own.lastore X4 hx hZ (pc := 23) e4 V_b1 l3.toNatClampNeg (own_nn hl3.1) rfl (by rw [own_len]; exact own_c hl3) N4 ge_b1 (hb hby d2_23) ?_
  intro T5 h5 X5 e5 W5 N5 V_b1
  rw [own_upset (own_c hl3)] at V_b1
  have sz5 : n0 ≤ h5.size := Nat.le_trans sz4 (Nat.le_of_eq (Wr.size W5).symm)
  have V_la := V_la.other W5 ne_la_b1
  have V_na := V_na.other W5 ne_na_b1
  have K := K.wr W5 (Or.inr szo_b1)
  refine Own.iincV X5 hx (pc := 24) (1 : Int32) (4 : Int32) #[.val (.ref la), .val (.int (4 : Int32)), .val (.ref na), .val (.ref b1), .val (.int (4 : Int32)), .unset, .unset, .unset, .unset] (hb hby d2_24) (by decide) rfl (by decide) rfl ?_
  refine Own.goto X5 hx (pc := 27) 8 (hb hby d2_27) (by decide) (by decide) ?_
  refine Own.iload X5 hx (pc := 8) (hb hby d2_8) rfl ?_
  refine Own.iloadN X5 hx (pc := 10) (hb hby d2_10) rfl ?_
  refine Own.icmpYes X5 hx (pc := 11) 30 (hb hby d2_11) (by decide) (by decide) (by decide) ?_
  refine Own.lconst X5 hx (pc := 30) (0 : Int64) (hb hby d2_30) (by decide) ?_
  refine Own.lstore X5 hx (pc := 31) #[.val (.ref la), .val (.int (4 : Int32)), .val (.ref na), .val (.ref b1), .val (.long (0 : Int64)), .second, .unset, .unset, .unset] (hb hby d2_31) rfl ?_
  refine Own.iconst X5 hx (pc := 33) (1 : Int32) (hb hby d2_33) (by decide) ?_
  refine Own.istore X5 hx (pc := 34) #[.val (.ref la), .val (.int (4 : Int32)), .val (.ref na), .val (.ref b1), .val (.long (0 : Int64)), .second, .val (.int (1 : Int32)), .unset, .unset] (hb hby d2_34) rfl ?_
  rw [own_m0 (own_up (own_up (own_up (own_up (fun _ => 0) l0.toNatClampNeg) l1.toNatClampNeg) l2.toNatClampNeg) l3.toNatClampNeg)] at V_b1
  show Own.Go p e below _ (T5.setTop (mkF m 36 #[.val (.ref la), .val (.int (4 : Int32)), .val (.ref na), .val (.ref b1), .val (.long (own_fst (own_up (own_up (own_up (own_up (fun _ => 0) l0.toNatClampNeg) l1.toNatClampNeg) l2.toNatClampNeg) l3.toNatClampNeg) 0)), .second, .val (.int (Int32.ofNat (0 + 1))), .unset, .unset] []))
  refine Own.iload X5 hx (pc := 36) (hb hby d2_36) rfl ?_
  refine Own.bipush X5 hx (pc := 38) (64 : Int32) (hb hby d2_38) (by decide) ?_
  refine Own.icmpNo X5 hx (pc := 40) (hb hby d2_40) (XT.ii_ge_f ((own_64 (by omega)).mpr (by omega))) ?_
  refine Own.aloadN X5 hx (pc := 43) (hb hby d2_43) rfl rfl ?_
  refine Own.iload X5 hx (pc := 44) (hb hby d2_44) rfl ?_
  refine Own.laload X5 hx hZ (pc := 46) e5 V_b1 (v := (.long ((own_up (own_up (own_up (own_up (fun _ => 0) l0.toNatClampNeg) l1.toNatClampNeg) l2.toNatClampNeg) l3.toNatClampNeg) (0 + 1)))) (0 + 1) (own_onn (by omega)) (own_ocl (by omega)) (own_mget (by omega)) (hb hby d2_46) ?_
  refine Own.lstore X5 hx (pc := 47) #[.val (.ref la), .val (.int (4 : Int32)), .val (.ref na), .val (.ref b1), .val (.long (own_fst (own_up (own_up (own_up (own_up (fun _ => 0) l0.toNatClampNeg) l1.toNatClampNeg) l2.toNatClampNeg) l3.toNatClampNeg) 0)), .second, .val (.int (Int32.ofNat (0 + 1))), .val (.long ((own_up (own_up (own_up (own_up (fun _ => 0) l0.toNatClampNeg) l1.toNatClampNeg) l2.toNatClampNeg) l3.toNatClampNeg) (0 + 1))), .second] (hb hby d2_47) rfl ?_
  refine Own.aloadN X5 hx (pc := 49) (hb hby d2_49) rfl rfl ?_
  refine Own.iload X5 hx (pc := 50) (hb hby d2_50) rfl ?_
  refine Own.lload X5 hx (pc := 52) (hb hby d2_52) rfl ?_
  refine Own.lastore X5 hx hZ (pc := 54) e5 V_b1 (0 + 1) (own_onn (by omega)) (own_ocl (by omega)) (by rw [own_len]; omega) N5 ge_b1 (hb hby d2_54) ?_
  intro T6 h6 X6 e6 W6 N6 V_b1
  rw [own_mset (by omega)] at V_b1
  have sz6 : n0 ≤ h6.size := Nat.le_trans sz5 (Nat.le_of_eq (Wr.size W6).symm)
  have V_la := V_la.other W6 ne_la_b1
  have V_na := V_na.other W6 ne_na_b1
  have K := K.wr W6 (Or.inr szo_b1)
  refine Own.lload X6 hx (pc := 55) (hb hby d2_55) rfl ?_
  refine Own.lload X6 hx (pc := 57) (hb hby d2_57) rfl ?_
  refine Own.ladd X6 hx (pc := 59) (hb hby d2_59) ?_
  refine Own.iconst X6 hx (pc := 60) (1 : Int32) (hb hby d2_60) (by decide) ?_
  refine Own.lshl X6 hx (pc := 61) (hb hby d2_61) ?_
  show Own.Go p e below _ (T6.setTop (mkF m 62 #[.val (.ref la), .val (.int (4 : Int32)), .val (.ref na), .val (.ref b1), .val (.long (own_fst (own_up (own_up (own_up (own_up (fun _ => 0) l0.toNatClampNeg) l1.toNatClampNeg) l2.toNatClampNeg) l3.toNatClampNeg) 0)), .second, .val (.int (Int32.ofNat (0 + 1))), .val (.long ((own_up (own_up (own_up (own_up (fun _ => 0) l0.toNatClampNeg) l1.toNatClampNeg) l2.toNatClampNeg) l3.toNatClampNeg) (0 + 1))), .second] [(.long (own_fst (own_up (own_up (own_up (own_up (fun _ => 0) l0.toNatClampNeg) l1.toNatClampNeg) l2.toNatClampNeg) l3.toNatClampNeg) (0 + 1)))]))
  refine Own.lstore X6 hx (pc := 62) #[.val (.ref la), .val (.int (4 : Int32)), .val (.ref na), .val (.ref b1), .val (.long (own_fst (own_up (own_up (own_up (own_up (fun _ => 0) l0.toNatClampNeg) l1.toNatClampNeg) l2.toNatClampNeg) l3.toNatClampNeg) (0 + 1))), .second, .val (.int (Int32.ofNat (0 + 1))), .val (.long ((own_up (own_up (own_up (own_up (fun _ => 0) l0.toNatClampNeg) l1.toNatClampNeg) l2.toNatClampNeg) l3.toNatClampNeg) (0 + 1))), .second] (hb hby d2_62) rfl ?_
  refine Own.iincV X6 hx (pc := 64) (1 : Int32) (Int32.ofNat ((0 + 1) + 1)) #[.val (.ref la), .val (.int (4 : Int32)), .val (.ref na), .val (.ref b1), .val (.long (own_fst (own_up (own_up (own_up (own_up (fun _ => 0) l0.toNatClampNeg) l1.toNatClampNeg) l2.toNatClampNeg) l3.toNatClampNeg) (0 + 1))), .second, .val (.int (Int32.ofNat ((0 + 1) + 1))), .val (.long ((own_up (own_up (own_up (own_up (fun _ => 0) l0.toNatClampNeg) l1.toNatClampNeg) l2.toNatClampNeg) l3.toNatClampNeg) (0 + 1))), .second] (hb hby d2_64) (by decide) rfl (own_inc (0 + 1)) rfl ?_
  refine Own.goto X6 hx (pc := 67) 36 (hb hby d2_67) (by decide) (by decide) ?_
  refine Own.induct (fun q : State × Heap × List Loc × Nat => q.1.setTop (mkF m 36 #[.val (.ref la), .val (.int (4 : Int32)), .val (.ref na), .val (.ref b1), .val (.long (own_fst (own_up (own_up (own_up (own_up (fun _ => 0) l0.toNatClampNeg) l1.toNatClampNeg) l2.toNatClampNeg) l3.toNatClampNeg) q.2.2.2)), .second, .val (.int (Int32.ofNat (q.2.2.2 + 1))), .val (.long ((own_up (own_up (own_up (own_up (fun _ => 0) l0.toNatClampNeg) l1.toNatClampNeg) l2.toNatClampNeg) l3.toNatClampNeg) q.2.2.2)), .second] [])) (fun k q => q.2.2.2 + k = 63 ∧ Stand p l e ({ frames := 0, cells := 1, slots := 64, locals := 0 } : Room) s m #[(.ref la), (.int (4 : Int32)), (.ref na)] below meth cc q.1 q.2.2.1 1 64 ∧ q.1.heap = q.2.1 ∧ Fr n0 q.2.2.1 ∧ Keep h0 q.2.1 [na] ∧ Own.VArr Z q.2.1 la .int [(.int l0), (.int l1), (.int l2), (.int l3)] ∧ Own.VArr Z q.2.1 na .long [(.long fill), (.long fill), (.long fill), (.long fill)] ∧ Own.VArr Z q.2.1 b1 .long (own_cl (own_mid (own_up (own_up (own_up (own_up (fun _ => 0) l0.toNatClampNeg) l1.toNatClampNeg) l2.toNatClampNeg) l3.toNatClampNeg) q.2.2.2))) ?_ ?_ (n := 62) (a := (_, _, _, 0 + 1)) ⟨rfl, X6, e6, N6, K, V_la, V_na, V_b1⟩
  · rintro ⟨T, h, lc, j⟩ ⟨hi, X, eT, N, K, V_la, V_na, V_b1⟩
    dsimp only at hi X eT N K V_la V_na V_b1
    have sz : n0 ≤ h.size := Nat.le_trans Z0 K.1
    obtain rfl : j = 63 := by omega
    show Own.Go p e below _ (T.setTop (mkF m 36 #[.val (.ref la), .val (.int (4 : Int32)), .val (.ref na), .val (.ref b1), .val (.long (own_fst (own_up (own_up (own_up (own_up (fun _ => 0) l0.toNatClampNeg) l1.toNatClampNeg) l2.toNatClampNeg) l3.toNatClampNeg) 63)), .second, .val (.int (Int32.ofNat (63 + 1))), .val (.long ((own_up (own_up (own_up (own_up (fun _ => 0) l0.toNatClampNeg) l1.toNatClampNeg) l2.toNatClampNeg) l3.toNatClampNeg) 63)), .second] []))
    refine Own.iload X hx (pc := 36) (hb hby d2_36) rfl ?_
    refine Own.bipush X hx (pc := 38) (64 : Int32) (hb hby d2_38) (by decide) ?_
    refine Own.icmpYes X hx (pc := 40) 70 (hb hby d2_40) (XT.ii_ge_t (mt (own_64 (by decide)).mp (by decide))) (by decide) (by decide) ?_
    refine Own.iconst X hx (pc := 70) (0 : Int32) (hb hby d2_70) (by decide) ?_
    refine Own.istore X hx (pc := 71) #[.val (.ref la), .val (.int (4 : Int32)), .val (.ref na), .val (.ref b1), .val (.long (own_fst (own_up (own_up (own_up (own_up (fun _ => 0) l0.toNatClampNeg) l1.toNatClampNeg) l2.toNatClampNeg) l3.toNatClampNeg) 63)), .second, .val (.int (0 : Int32)), .val (.long ((own_up (own_up (own_up (own_up (fun _ => 0) l0.toNatClampNeg) l1.toNatClampNeg) l2.toNatClampNeg) l3.toNatClampNeg) 63)), .second] (hb hby d2_71) rfl ?_
    refine Own.iload X hx (pc := 73) (hb hby d2_73) rfl ?_
    refine Own.iloadN X hx (pc := 75) (hb hby d2_75) rfl ?_
    refine Own.icmpNo X hx (pc := 76) (hb hby d2_76) (by decide) ?_
    refine Own.aloadN X hx (pc := 79) (hb hby d2_79) rfl rfl ?_
    refine Own.iload X hx (pc := 80) (hb hby d2_80) rfl ?_
    refine Own.aloadN X hx (pc := 82) (hb hby d2_82) rfl rfl ?_
    refine Own.aloadN X hx (pc := 83) (hb hby d2_83) rfl rfl ?_
    refine Own.iload X hx (pc := 84) (hb hby d2_84) rfl ?_
    refine Own.iaload X hx hZ (pc := 86) eT V_la (v := (.int l0)) 0 (by decide) (by decide) rfl (hb hby d2_86) ?_
    refine Own.dup2 X hx (pc := 87) (hb hby d2_87) rfl rfl ?_
    refine Own.laload X hx hZ (pc := 88) eT V_b1 (v := (.long ((own_mid (own_up (own_up (own_up (own_up (fun _ => 0) l0.toNatClampNeg) l1.toNatClampNeg) l2.toNatClampNeg) l3.toNatClampNeg) 63) l0.toNatClampNeg))) l0.toNatClampNeg (own_nn hl0.1) rfl (own_get (own_c hl0)) (hb hby d2_88) ?_
    refine Own.dup2X2 X hx (pc := 89) (hb hby d2_89) rfl rfl ?_
    refine Own.lconst X hx (pc := 90) (1 : Int64) (hb hby d2_90) (by decide) ?_
    refine Own.ladd X hx (pc := 91) (hb hby d2_91) ?_
    refine Own.lastore X hx hZ (pc := 92) eT V_b1 l0.toNatClampNeg (own_nn hl0.1) rfl (by rw [own_len]; exact own_c hl0) N ge_b1 (hb hby d2_92) ?_
    intro T7 h7 X7 e7 W7 N7 V_b1
    rw [own_upset (own_c hl0)] at V_b1
    have sz7 : n0 ≤ h7.size := Nat.le_trans sz (Nat.le_of_eq (Wr.size W7).symm)
    have V_la := V_la.other W7 ne_la_b1
    have V_na := V_na.other W7 ne_na_b1
    have K := K.wr W7 (Or.inr szo_b1)
    refine Own.lastore X7 hx hZ (pc := 93) e7 V_na 0 (by decide) (by decide) (of_decide_eq_true rfl) N7 ge_na (hb hby d2_93) ?_
    intro T8 h8 X8 e8 W8 N8 V_na
    replace V_na : Own.VArr Z h8 na .long [(.long ((own_mid (own_up (own_up (own_up (own_up (fun _ => 0) l0.toNatClampNeg) l1.toNatClampNeg) l2.toNatClampNeg) l3.toNatClampNeg) 63) l0.toNatClampNeg)), (.long fill), (.long fill), (.long fill)] := V_na
    have sz8 : n0 ≤ h8.size := Nat.le_trans sz7 (Nat.le_of_eq (Wr.size W8).symm)
    have V_la := V_la.other W8 hne
    have V_b1 := V_b1.other W8 (Ne.symm ne_na_b1)
    have K := K.wr W8 (Or.inl (by simp))
    refine Own.iincV X8 hx (pc := 94) (1 : Int32) (1 : Int32) #[.val (.ref la), .val (.int (4 : Int32)), .val (.ref na), .val (.ref b1), .val (.long (own_fst (own_up (own_up (own_up (own_up (fun _ => 0) l0.toNatClampNeg) l1.toNatClampNeg) l2.toNatClampNeg) l3.toNatClampNeg) 63)), .second, .val (.int (1 : Int32)), .val (.long ((own_up (own_up (own_up (own_up (fun _ => 0) l0.toNatClampNeg) l1.toNatClampNeg) l2.toNatClampNeg) l3.toNatClampNeg) 63)), .second] (hb hby d2_94) (by decide) rfl (by decide) rfl ?_
    refine Own.goto X8 hx (pc := 97) 73 (hb hby d2_97) (by decide) (by decide) ?_
    refine Own.iload X8 hx (pc := 73) (hb hby d2_73) rfl ?_
    refine Own.iloadN X8 hx (pc := 75) (hb hby d2_75) rfl ?_
    refine Own.icmpNo X8 hx (pc := 76) (hb hby d2_76) (by decide) ?_
    refine Own.aloadN X8 hx (pc := 79) (hb hby d2_79) rfl rfl ?_
    refine Own.iload X8 hx (pc := 80) (hb hby d2_80) rfl ?_
    refine Own.aloadN X8 hx (pc := 82) (hb hby d2_82) rfl rfl ?_
    refine Own.aloadN X8 hx (pc := 83) (hb hby d2_83) rfl rfl ?_
    refine Own.iload X8 hx (pc := 84) (hb hby d2_84) rfl ?_
    refine Own.iaload X8 hx hZ (pc := 86) e8 V_la (v := (.int l1)) 1 (by decide) (by decide) rfl (hb hby d2_86) ?_
    refine Own.dup2 X8 hx (pc := 87) (hb hby d2_87) rfl rfl ?_
    refine Own.laload X8 hx hZ (pc := 88) e8 V_b1 (v := (.long ((own_up (own_mid (own_up (own_up (own_up (own_up (fun _ => 0) l0.toNatClampNeg) l1.toNatClampNeg) l2.toNatClampNeg) l3.toNatClampNeg) 63) l0.toNatClampNeg) l1.toNatClampNeg))) l1.toNatClampNeg (own_nn hl1.1) rfl (own_get (own_c hl1)) (hb hby d2_88) ?_
    refine Own.dup2X2 X8 hx (pc := 89) (hb hby d2_89) rfl rfl ?_
    refine Own.lconst X8 hx (pc := 90) (1 : Int64) (hb hby d2_90) (by decide) ?_
    refine Own.ladd X8 hx (pc := 91) (hb hby d2_91) ?_
    refine Own.lastore X8 hx hZ (pc := 92) e8 V_b1 l1.toNatClampNeg (own_nn hl1.1) rfl (by rw [own_len]; exact own_c hl1) N8 ge_b1 (hb hby d2_92) ?_
    intro T9 h9 X9 e9 W9 N9 V_b1
    rw [own_upset (own_c hl1)] at V_b1
    have sz9 : n0 ≤ h9.size := Nat.le_trans sz8 (Nat.le_of_eq (Wr.size W9).symm)
    have V_la := V_la.other W9 ne_la_b1
    have V_na := V_na.other W9 ne_na_b1
    have K := K.wr W9 (Or.inr szo_b1)
    refine Own.lastore X9 hx hZ (pc := 93) e9 V_na 1 (by decide) (by decide) (of_decide_eq_true rfl) N9 ge_na (hb hby d2_93) ?_
    intro T10 h10 X10 e10 W10 N10 V_na
    replace V_na : Own.VArr Z h10 na .long [(.long ((own_mid (own_up (own_up (own_up (own_up (fun _ => 0) l0.toNatClampNeg) l1.toNatClampNeg) l2.toNatClampNeg) l3.toNatClampNeg) 63) l0.toNatClampNeg)), (.long ((own_up (own_mid (own_up (own_up (own_up (own_up (fun _ => 0) l0.toNatClampNeg) l1.toNatClampNeg) l2.toNatClampNeg) l3.toNatClampNeg) 63) l0.toNatClampNeg) l1.toNatClampNeg)), (.long fill), (.long fill)] := V_na
    have sz10 : n0 ≤ h10.size := Nat.le_trans sz9 (Nat.le_of_eq (Wr.size W10).symm)
    have V_la := V_la.other W10 hne
    have V_b1 := V_b1.other W10 (Ne.symm ne_na_b1)
    have K := K.wr W10 (Or.inl (by simp))
    refine Own.iincV X10 hx (pc := 94) (1 : Int32) (2 : Int32) #[.val (.ref la), .val (.int (4 : Int32)), .val (.ref na), .val (.ref b1), .val (.long (own_fst (own_up (own_up (own_up (own_up (fun _ => 0) l0.toNatClampNeg) l1.toNatClampNeg) l2.toNatClampNeg) l3.toNatClampNeg) 63)), .second, .val (.int (2 : Int32)), .val (.long ((own_up (own_up (own_up (own_up (fun _ => 0) l0.toNatClampNeg) l1.toNatClampNeg) l2.toNatClampNeg) l3.toNatClampNeg) 63)), .second] (hb hby d2_94) (by decide) rfl (by decide) rfl ?_
    refine Own.goto X10 hx (pc := 97) 73 (hb hby d2_97) (by decide) (by decide) ?_
    refine Own.iload X10 hx (pc := 73) (hb hby d2_73) rfl ?_
    refine Own.iloadN X10 hx (pc := 75) (hb hby d2_75) rfl ?_
    refine Own.icmpNo X10 hx (pc := 76) (hb hby d2_76) (by decide) ?_
    refine Own.aloadN X10 hx (pc := 79) (hb hby d2_79) rfl rfl ?_
    refine Own.iload X10 hx (pc := 80) (hb hby d2_80) rfl ?_
    refine Own.aloadN X10 hx (pc := 82) (hb hby d2_82) rfl rfl ?_
    refine Own.aloadN X10 hx (pc := 83) (hb hby d2_83) rfl rfl ?_
    refine Own.iload X10 hx (pc := 84) (hb hby d2_84) rfl ?_
    refine Own.iaload X10 hx hZ (pc := 86) e10 V_la (v := (.int l2)) 2 (by decide) (by decide) rfl (hb hby d2_86) ?_
    refine Own.dup2 X10 hx (pc := 87) (hb hby d2_87) rfl rfl ?_
    refine Own.laload X10 hx hZ (pc := 88) e10 V_b1 (v := (.long ((own_up (own_up (own_mid (own_up (own_up (own_up (own_up (fun _ => 0) l0.toNatClampNeg) l1.toNatClampNeg) l2.toNatClampNeg) l3.toNatClampNeg) 63) l0.toNatClampNeg) l1.toNatClampNeg) l2.toNatClampNeg))) l2.toNatClampNeg (own_nn hl2.1) rfl (own_get (own_c hl2)) (hb hby d2_88) ?_
    refine Own.dup2X2 X10 hx (pc := 89) (hb hby d2_89) rfl rfl ?_
    refine Own.lconst X10 hx (pc := 90) (1 : Int64) (hb hby d2_90) (by decide) ?_
    refine Own.ladd X10 hx (pc := 91) (hb hby d2_91) ?_
    refine Own.lastore X10 hx hZ (pc := 92) e10 V_b1 l2.toNatClampNeg (own_nn hl2.1) rfl (by rw [own_len]; exact own_c hl2) N10 ge_b1 (hb hby d2_92) ?_
    intro T11 h11 X11 e11 W11 N11 V_b1
    rw [own_upset (own_c hl2)] at V_b1
    have sz11 : n0 ≤ h11.size := Nat.le_trans sz10 (Nat.le_of_eq (Wr.size W11).symm)
    have V_la := V_la.other W11 ne_la_b1
    have V_na := V_na.other W11 ne_na_b1
    have K := K.wr W11 (Or.inr szo_b1)
    refine Own.lastore X11 hx hZ (pc := 93) e11 V_na 2 (by decide) (by decide) (of_decide_eq_true rfl) N11 ge_na (hb hby d2_93) ?_
    intro T12 h12 X12 e12 W12 N12 V_na
    replace V_na : Own.VArr Z h12 na .long [(.long ((own_mid (own_up (own_up (own_up (own_up (fun _ => 0) l0.toNatClampNeg) l1.toNatClampNeg) l2.toNatClampNeg) l3.toNatClampNeg) 63) l0.toNatClampNeg)), (.long ((own_up (own_mid (own_up (own_up (own_up (own_up (fun _ => 0) l0.toNatClampNeg) l1.toNatClampNeg) l2.toNatClampNeg) l3.toNatClampNeg) 63) l0.toNatClampNeg) l1.toNatClampNeg)), (.long ((own_up (own_up (own_mid (own_up (own_up (own_up (own_up (fun _ => 0) l0.toNatClampNeg) l1.toNatClampNeg) l2.toNatClampNeg) l3.toNatClampNeg) 63) l0.toNatClampNeg) l1.toNatClampNeg) l2.toNatClampNeg)), (.long fill)] := V_na
    have sz12 : n0 ≤ h12.size := Nat.le_trans sz11 (Nat.le_of_eq (Wr.size W12).symm)
    have V_la := V_la.other W12 hne
    have V_b1 := V_b1.other W12 (Ne.symm ne_na_b1)
    have K := K.wr W12 (Or.inl (by simp))
    refine Own.iincV X12 hx (pc := 94) (1 : Int32) (3 : Int32) #[.val (.ref la), .val (.int (4 : Int32)), .val (.ref na), .val (.ref b1), .val (.long (own_fst (own_up (own_up (own_up (own_up (fun _ => 0) l0.toNatClampNeg) l1.toNatClampNeg) l2.toNatClampNeg) l3.toNatClampNeg) 63)), .second, .val (.int (3 : Int32)), .val (.long ((own_up (own_up (own_up (own_up (fun _ => 0) l0.toNatClampNeg) l1.toNatClampNeg) l2.toNatClampNeg) l3.toNatClampNeg) 63)), .second] (hb hby d2_94) (by decide) rfl (by decide) rfl ?_
    refine Own.goto X12 hx (pc := 97) 73 (hb hby d2_97) (by decide) (by decide) ?_
    refine Own.iload X12 hx (pc := 73) (hb hby d2_73) rfl ?_
    refine Own.iloadN X12 hx (pc := 75) (hb hby d2_75) rfl ?_
    refine Own.icmpNo X12 hx (pc := 76) (hb hby d2_76) (by decide) ?_
    refine Own.aloadN X12 hx (pc := 79) (hb hby d2_79) rfl rfl ?_
    refine Own.iload X12 hx (pc := 80) (hb hby d2_80) rfl ?_
    refine Own.aloadN X12 hx (pc := 82) (hb hby d2_82) rfl rfl ?_
    refine Own.aloadN X12 hx (pc := 83) (hb hby d2_83) rfl rfl ?_
    refine Own.iload X12 hx (pc := 84) (hb hby d2_84) rfl ?_
    refine Own.iaload X12 hx hZ (pc := 86) e12 V_la (v := (.int l3)) 3 (by decide) (by decide) rfl (hb hby d2_86) ?_
    refine Own.dup2 X12 hx (pc := 87) (hb hby d2_87) rfl rfl ?_
    refine Own.laload X12 hx hZ (pc := 88) e12 V_b1 (v := (.long ((own_up (own_up (own_up (own_mid (own_up (own_up (own_up (own_up (fun _ => 0) l0.toNatClampNeg) l1.toNatClampNeg) l2.toNatClampNeg) l3.toNatClampNeg) 63) l0.toNatClampNeg) l1.toNatClampNeg) l2.toNatClampNeg) l3.toNatClampNeg))) l3.toNatClampNeg (own_nn hl3.1) rfl (own_get (own_c hl3)) (hb hby d2_88) ?_
    refine Own.dup2X2 X12 hx (pc := 89) (hb hby d2_89) rfl rfl ?_
    refine Own.lconst X12 hx (pc := 90) (1 : Int64) (hb hby d2_90) (by decide) ?_
    refine Own.ladd X12 hx (pc := 91) (hb hby d2_91) ?_
    refine Own.lastore X12 hx hZ (pc := 92) e12 V_b1 l3.toNatClampNeg (own_nn hl3.1) rfl (by rw [own_len]; exact own_c hl3) N12 ge_b1 (hb hby d2_92) ?_
    intro T13 h13 X13 e13 W13 N13 V_b1
    rw [own_upset (own_c hl3)] at V_b1
    have sz13 : n0 ≤ h13.size := Nat.le_trans sz12 (Nat.le_of_eq (Wr.size W13).symm)
    have V_la := V_la.other W13 ne_la_b1
    have V_na := V_na.other W13 ne_na_b1
    have K := K.wr W13 (Or.inr szo_b1)
    refine Own.lastore X13 hx hZ (pc := 93) e13 V_na 3 (by decide) (by decide) (of_decide_eq_true rfl) N13 ge_na (hb hby d2_93) ?_
    intro T14 h14 X14 e14 W14 N14 V_na
    replace V_na : Own.VArr Z h14 na .long [(.long ((own_mid (own_up (own_up (own_up (own_up (fun _ => 0) l0.toNatClampNeg) l1.toNatClampNeg) l2.toNatClampNeg) l3.toNatClampNeg) 63) l0.toNatClampNeg)), (.long ((own_up (own_mid (own_up (own_up (own_up (own_up (fun _ => 0) l0.toNatClampNeg) l1.toNatClampNeg) l2.toNatClampNeg) l3.toNatClampNeg) 63) l0.toNatClampNeg) l1.toNatClampNeg)), (.long ((own_up (own_up (own_mid (own_up (own_up (own_up (own_up (fun _ => 0) l0.toNatClampNeg) l1.toNatClampNeg) l2.toNatClampNeg) l3.toNatClampNeg) 63) l0.toNatClampNeg) l1.toNatClampNeg) l2.toNatClampNeg)), (.long ((own_up (own_up (own_up (own_mid (own_up (own_up (own_up (own_up (fun _ => 0) l0.toNatClampNeg) l1.toNatClampNeg) l2.toNatClampNeg) l3.toNatClampNeg) 63) l0.toNatClampNeg) l1.toNatClampNeg) l2.toNatClampNeg) l3.toNatClampNeg))] := V_na
    have sz14 : n0 ≤ h14.size := Nat.le_trans sz13 (Nat.le_of_eq (Wr.size W14).symm)
    have V_la := V_la.other W14 hne
    have V_b1 := V_b1.other W14 (Ne.symm ne_na_b1)
    have K := K.wr W14 (Or.inl (by simp))
    refine Own.iincV X14 hx (pc := 94) (1 : Int32) (4 : Int32) #[.val (.ref la), .val (.int (4 : Int32)), .val (.ref na), .val (.ref b1), .val (.long (own_fst (own_up (own_up (own_up (own_up (fun _ => 0) l0.toNatClampNeg) l1.toNatClampNeg) l2.toNatClampNeg) l3.toNatClampNeg) 63)), .second, .val (.int (4 : Int32)), .val (.long ((own_up (own_up (own_up (own_up (fun _ => 0) l0.toNatClampNeg) l1.toNatClampNeg) l2.toNatClampNeg) l3.toNatClampNeg) 63)), .second] (hb hby d2_94) (by decide) rfl (by decide) rfl ?_
    refine Own.goto X14 hx (pc := 97) 73 (hb hby d2_97) (by decide) (by decide) ?_
    refine Own.iload X14 hx (pc := 73) (hb hby d2_73) rfl ?_
    refine Own.iloadN X14 hx (pc := 75) (hb hby d2_75) rfl ?_
    refine Own.icmpYes X14 hx (pc := 76) 100 (hb hby d2_76) (by decide) (by decide) (by decide) ?_
    exact Own.vreturn X14 hx hk hret (hb hby d2_100) e14 ⟨rfl, N14, K, V_na⟩ (by decide) (by decide)
  · rintro k ⟨T, h, lc, j⟩ ⟨hi, X, eT, N, K, V_la, V_na, V_b1⟩ ih
    dsimp only at hi X eT N K V_la V_na V_b1
    have sz : n0 ≤ h.size := Nat.le_trans Z0 K.1
    show Own.Go p e below _ (T.setTop (mkF m 36 #[.val (.ref la), .val (.int (4 : Int32)), .val (.ref na), .val (.ref b1), .val (.long (own_fst (own_up (own_up (own_up (own_up (fun _ => 0) l0.toNatClampNeg) l1.toNatClampNeg) l2.toNatClampNeg) l3.toNatClampNeg) j)), .second, .val (.int (Int32.ofNat (j + 1))), .val (.long ((own_up (own_up (own_up (own_up (fun _ => 0) l0.toNatClampNeg) l1.toNatClampNeg) l2.toNatClampNeg) l3.toNatClampNeg) j)), .second] []))
    refine Own.iload X hx (pc := 36) (hb hby d2_36) rfl ?_
    refine Own.bipush X hx (pc := 38) (64 : Int32) (hb hby d2_38) (by decide) ?_
    refine Own.icmpNo X hx (pc := 40) (hb hby d2_40) (XT.ii_ge_f ((own_64 (by omega)).mpr (by omega))) ?_
    refine Own.aloadN X hx (pc := 43) (hb hby d2_43) rfl rfl ?_
    refine Own.iload X hx (pc := 44) (hb hby d2_44) rfl ?_
    refine Own.laload X hx hZ (pc := 46) eT V_b1 (v := (.long ((own_up (own_up (own_up (own_up (fun _ => 0) l0.toNatClampNeg) l1.toNatClampNeg) l2.toNatClampNeg) l3.toNatClampNeg) (j + 1)))) (j + 1) (own_onn (by omega)) (own_ocl (by omega)) (own_mget (by omega)) (hb hby d2_46) ?_
    refine Own.lstore X hx (pc := 47) #[.val (.ref la), .val (.int (4 : Int32)), .val (.ref na), .val (.ref b1), .val (.long (own_fst (own_up (own_up (own_up (own_up (fun _ => 0) l0.toNatClampNeg) l1.toNatClampNeg) l2.toNatClampNeg) l3.toNatClampNeg) j)), .second, .val (.int (Int32.ofNat (j + 1))), .val (.long ((own_up (own_up (own_up (own_up (fun _ => 0) l0.toNatClampNeg) l1.toNatClampNeg) l2.toNatClampNeg) l3.toNatClampNeg) (j + 1))), .second] (hb hby d2_47) rfl ?_
    refine Own.aloadN X hx (pc := 49) (hb hby d2_49) rfl rfl ?_
    refine Own.iload X hx (pc := 50) (hb hby d2_50) rfl ?_
    refine Own.lload X hx (pc := 52) (hb hby d2_52) rfl ?_
    refine Own.lastore X hx hZ (pc := 54) eT V_b1 (j + 1) (own_onn (by omega)) (own_ocl (by omega)) (by rw [own_len]; omega) N ge_b1 (hb hby d2_54) ?_
    intro T15 h15 X15 e15 W15 N15 V_b1
    rw [own_mset (by omega)] at V_b1
    have sz15 : n0 ≤ h15.size := Nat.le_trans sz (Nat.le_of_eq (Wr.size W15).symm)
    have V_la := V_la.other W15 ne_la_b1
    have V_na := V_na.other W15 ne_na_b1
    have K := K.wr W15 (Or.inr szo_b1)
    refine Own.lload X15 hx (pc := 55) (hb hby d2_55) rfl ?_
    refine Own.lload X15 hx (pc := 57) (hb hby d2_57) rfl ?_
    refine Own.ladd X15 hx (pc := 59) (hb hby d2_59) ?_
    refine Own.iconst X15 hx (pc := 60) (1 : Int32) (hb hby d2_60) (by decide) ?_
    refine Own.lshl X15 hx (pc := 61) (hb hby d2_61) ?_
    show Own.Go p e below _ (T15.setTop (mkF m 62 #[.val (.ref la), .val (.int (4 : Int32)), .val (.ref na), .val (.ref b1), .val (.long (own_fst (own_up (own_up (own_up (own_up (fun _ => 0) l0.toNatClampNeg) l1.toNatClampNeg) l2.toNatClampNeg) l3.toNatClampNeg) j)), .second, .val (.int (Int32.ofNat (j + 1))), .val (.long ((own_up (own_up (own_up (own_up (fun _ => 0) l0.toNatClampNeg) l1.toNatClampNeg) l2.toNatClampNeg) l3.toNatClampNeg) (j + 1))), .second] [(.long (own_fst (own_up (own_up (own_up (own_up (fun _ => 0) l0.toNatClampNeg) l1.toNatClampNeg) l2.toNatClampNeg) l3.toNatClampNeg) (j + 1)))]))
    refine Own.lstore X15 hx (pc := 62) #[.val (.ref la), .val (.int (4 : Int32)), .val (.ref na), .val (.ref b1), .val (.long (own_fst (own_up (own_up (own_up (own_up (fun _ => 0) l0.toNatClampNeg) l1.toNatClampNeg) l2.toNatClampNeg) l3.toNatClampNeg) (j + 1))), .second, .val (.int (Int32.ofNat (j + 1))), .val (.long ((own_up (own_up (own_up (own_up (fun _ => 0) l0.toNatClampNeg) l1.toNatClampNeg) l2.toNatClampNeg) l3.toNatClampNeg) (j + 1))), .second] (hb hby d2_62) rfl ?_
    refine Own.iincV X15 hx (pc := 64) (1 : Int32) (Int32.ofNat ((j + 1) + 1)) #[.val (.ref la), .val (.int (4 : Int32)), .val (.ref na), .val (.ref b1), .val (.long (own_fst (own_up (own_up (own_up (own_up (fun _ => 0) l0.toNatClampNeg) l1.toNatClampNeg) l2.toNatClampNeg) l3.toNatClampNeg) (j + 1))), .second, .val (.int (Int32.ofNat ((j + 1) + 1))), .val (.long ((own_up (own_up (own_up (own_up (fun _ => 0) l0.toNatClampNeg) l1.toNatClampNeg) l2.toNatClampNeg) l3.toNatClampNeg) (j + 1))), .second] (hb hby d2_64) (by decide) rfl (own_inc (j + 1)) rfl ?_
    refine Own.goto X15 hx (pc := 67) 36 (hb hby d2_67) (by decide) (by decide) ?_
    exact ih (_, _, _, j + 1) ⟨by show (j + 1) + k = 63; omega, X15, e15, N15, K, V_la, V_na, V_b1⟩
theorem d4_0 : decode method_5_code 0 = .ok (.iload_n 0, 1) := by decide +kernel
theorem d4_1 : decode method_5_code 1 = .ok (.iload_n 2, 1) := by decide +kernel
theorem d4_2 : decode method_5_code 2 = .ok (.if_icmp .ge 8, 3) := by decide +kernel
theorem d4_5 : decode method_5_code 5 = .ok (.iload_n 0, 1) := by decide +kernel
theorem d4_6 : decode method_5_code 6 = .ok (.iload_n 1, 1) := by decide +kernel
theorem d4_7 : decode method_5_code 7 = .ok (.if_icmp .ne 5, 3) := by decide +kernel
theorem d4_10 : decode method_5_code 10 = .ok (.lconst 0, 1) := by decide +kernel
theorem d4_11 : decode method_5_code 11 = .ok (.lreturn, 1) := by decide +kernel
theorem d4_12 : decode method_5_code 12 = .ok (.aload_n 3, 1) := by decide +kernel
theorem d4_13 : decode method_5_code 13 = .ok (.iload_n 0, 1) := by decide +kernel
theorem d4_14 : decode method_5_code 14 = .ok (.iaload, 1) := by decide +kernel
theorem d4_15 : decode method_5_code 15 = .ok (.istore 5, 2) := by decide +kernel
theorem d4_17 : decode method_5_code 17 = .ok (.iload 5, 2) := by decide +kernel
theorem d4_19 : decode method_5_code 19 = .ok (.iconst 1, 1) := by decide +kernel
theorem d4_20 : decode method_5_code 20 = .ok (.if_icmp .lt 18, 3) := by decide +kernel
theorem d4_38 : decode method_5_code 38 = .ok (.iload 5, 2) := by decide +kernel
theorem d4_40 : decode method_5_code 40 = .ok (.iload 4, 2) := by decide +kernel
theorem d4_42 : decode method_5_code 42 = .ok (.if_icmp .ne 10, 3) := by decide +kernel
theorem d4_45 : decode method_5_code 45 = .ok (.iload_n 0, 1) := by decide +kernel
theorem d4_46 : decode method_5_code 46 = .ok (.iload_n 1, 1) := by decide +kernel
theorem d4_47 : decode method_5_code 47 = .ok (.if_icmp .ge 5, 3) := by decide +kernel
theorem d4_50 : decode method_5_code 50 = .ok (.lconst 1, 1) := by decide +kernel
theorem d4_51 : decode method_5_code 51 = .ok (.lreturn, 1) := by decide +kernel
theorem d4_52 : decode method_5_code 52 = .ok (.lconst 0, 1) := by decide +kernel
theorem d4_53 : decode method_5_code 53 = .ok (.lreturn, 1) := by decide +kernel
theorem d4_23 : decode method_5_code 23 = .ok (.iload 5, 2) := by decide +kernel
theorem d4_25 : decode method_5_code 25 = .ok (.iload 4, 2) := by decide +kernel
theorem d4_27 : decode method_5_code 27 = .ok (.if_icmp .ge 11, 3) := by decide +kernel
theorem d4_30 : decode method_5_code 30 = .ok (.lconst 1, 1) := by decide +kernel
theorem d4_31 : decode method_5_code 31 = .ok (.iload 4, 2) := by decide +kernel
theorem d4_33 : decode method_5_code 33 = .ok (.iload 5, 2) := by decide +kernel
theorem d4_35 : decode method_5_code 35 = .ok (.isub, 1) := by decide +kernel
theorem d4_36 : decode method_5_code 36 = .ok (.lshl, 1) := by decide +kernel
theorem d4_37 : decode method_5_code 37 = .ok (.lreturn, 1) := by decide +kernel
theorem ef_rm4 (m : MethodId) (t : Int32) (s0 : Int32) (n : Int32) (la : Addr) (ls : Int32) : entryFrame m #[(.int t), (.int s0), (.int n), (.ref la), (.int ls)] 6 = mkF m 0 #[.val (.int t), .val (.int s0), .val (.int n), .val (.ref la), .val (.int ls), .unset] [] := by first | (simp [entryFrame, mkF, argsToLocals, Value.category]; done) | rfl
set_option maxRecDepth 65536 in
set_option maxHeartbeats 40000000 in
theorem rm4 (l : Launch) (Z : State) (a0 : Array Value) (hw : ∀ d ∈ tables_1, d.before a0 Z = true) (t : Int32) (s0 : Int32) (n : Int32) (la : Addr) (ls : Int32) (vs : List Value) (lt : Int32) (h0 : Heap) (n0 : Nat) (Z0 : n0 ≤ h0.size) (V_la : Own.VArr Z h0 la .int vs) (hnt : ¬ t < 0) (hvt : vs[t.toNatClampNeg]? = some (.int lt)) :
    Own.Ct l (⟨"shortleaf/CanonicalCodeNumbersPinLaw", "part", "(III[II)J"⟩ : MethodName) method_5_code 6 (some .long) [] ({ frames := 0, cells := 0, slots := 0, locals := 0 } : Room) Z #[(.int t), (.int s0), (.int n), (.ref la), (.int ls)] h0 (fun rV hP lC => rV = some (.long (own_part t s0 n lt ls)) ∧ Fr n0 lC ∧ hP = h0) := by
  refine Own.enter (plainFor_of_name pn0) ?_
  intro p e s m below meth cc s₁ hx hby hml hown hnm hret hk hZ X0 e0
  have N0 := Fr.nil n0
  refine Own.start (ef_rm4 m t s0 n la ls) ?_
  refine Own.iloadN X0 hx (pc := 0) (hb hby d4_0) rfl ?_
  refine Own.iloadN X0 hx (pc := 1) (hb hby d4_1) rfl ?_
  by_cases c1 : t < n
  · refine Own.icmpNo X0 hx (pc := 2) (hb hby d4_2) (XT.ii_ge_f c1) ?_
    refine Own.iloadN X0 hx (pc := 5) (hb hby d4_5) rfl ?_
    refine Own.iloadN X0 hx (pc := 6) (hb hby d4_6) rfl ?_
    by_cases c2 : t = s0
    · refine Own.icmpNo X0 hx (pc := 7) (hb hby d4_7) (XT.ii_ne_f c2) ?_
      refine Own.lconst X0 hx (pc := 10) (0 : Int64) (hb hby d4_10) (by decide) ?_
      exact Own.lreturn X0 hx hk hret (hb hby d4_11) e0 ⟨by simp [own_part, c1, c2], N0, rfl⟩ (by decide) (by decide)
    · refine Own.icmpYes X0 hx (pc := 7) 12 (hb hby d4_7) (XT.ii_ne_t c2) (by decide) (by decide) ?_
      refine Own.aloadN X0 hx (pc := 12) (hb hby d4_12) rfl rfl ?_
      refine Own.iloadN X0 hx (pc := 13) (hb hby d4_13) rfl ?_
      refine Own.iaload X0 hx hZ (pc := 14) e0 V_la (v := (.int lt)) t.toNatClampNeg hnt rfl hvt (hb hby d4_14) ?_
      refine Own.istore X0 hx (pc := 15) #[.val (.int t), .val (.int s0), .val (.int n), .val (.ref la), .val (.int ls), .val (.int lt)] (hb hby d4_15) rfl ?_
      refine Own.iload X0 hx (pc := 17) (hb hby d4_17) rfl ?_
      refine Own.iconst X0 hx (pc := 19) (1 : Int32) (hb hby d4_19) (by decide) ?_
      by_cases c3 : lt < (1 : Int32)
      · refine Own.icmpYes X0 hx (pc := 20) 38 (hb hby d4_20) (XT.ii_lt_t c3) (by decide) (by decide) ?_
        refine Own.iload X0 hx (pc := 38) (hb hby d4_38) rfl ?_
        refine Own.iload X0 hx (pc := 40) (hb hby d4_40) rfl ?_
        by_cases c4 : lt = ls
        · refine Own.icmpNo X0 hx (pc := 42) (hb hby d4_42) (XT.ii_ne_f c4) ?_
          refine Own.iloadN X0 hx (pc := 45) (hb hby d4_45) rfl ?_
          refine Own.iloadN X0 hx (pc := 46) (hb hby d4_46) rfl ?_
          by_cases c5 : t < s0
          · refine Own.icmpNo X0 hx (pc := 47) (hb hby d4_47) (XT.ii_ge_f c5) ?_
            refine Own.lconst X0 hx (pc := 50) (1 : Int64) (hb hby d4_50) (by decide) ?_
            exact Own.lreturn X0 hx hk hret (hb hby d4_51) e0 ⟨by simp [own_part, c1, c2, c3, c4, c5], N0, rfl⟩ (by decide) (by decide)
          · refine Own.icmpYes X0 hx (pc := 47) 52 (hb hby d4_47) (XT.ii_ge_t c5) (by decide) (by decide) ?_
            refine Own.lconst X0 hx (pc := 52) (0 : Int64) (hb hby d4_52) (by decide) ?_
            exact Own.lreturn X0 hx hk hret (hb hby d4_53) e0 ⟨by simp [own_part, c1, c2, c3, c4, c5], N0, rfl⟩ (by decide) (by decide)
        · refine Own.icmpYes X0 hx (pc := 42) 52 (hb hby d4_42) (XT.ii_ne_t c4) (by decide) (by decide) ?_
          refine Own.lconst X0 hx (pc := 52) (0 : Int64) (hb hby d4_52) (by decide) ?_
          exact Own.lreturn X0 hx hk hret (hb hby d4_53) e0 ⟨by simp [own_part, c1, c2, c3, c4], N0, rfl⟩ (by decide) (by decide)
      · refine Own.icmpNo X0 hx (pc := 20) (hb hby d4_20) (XT.ii_lt_f c3) ?_
        refine Own.iload X0 hx (pc := 23) (hb hby d4_23) rfl ?_
        refine Own.iload X0 hx (pc := 25) (hb hby d4_25) rfl ?_
        by_cases c6 : lt < ls
        · refine Own.icmpNo X0 hx (pc := 27) (hb hby d4_27) (XT.ii_ge_f c6) ?_
          refine Own.lconst X0 hx (pc := 30) (1 : Int64) (hb hby d4_30) (by decide) ?_
          refine Own.iload X0 hx (pc := 31) (hb hby d4_31) rfl ?_
          refine Own.iload X0 hx (pc := 33) (hb hby d4_33) rfl ?_
          refine Own.isub X0 hx (pc := 35) (hb hby d4_35) ?_
          refine Own.lshl X0 hx (pc := 36) (hb hby d4_36) ?_
          exact Own.lreturn X0 hx hk hret (hb hby d4_37) e0 ⟨by simp [own_part, c1, c2, c3, c6], N0, rfl⟩ (by decide) (by decide)
        · refine Own.icmpYes X0 hx (pc := 27) 38 (hb hby d4_27) (XT.ii_ge_t c6) (by decide) (by decide) ?_
          refine Own.iload X0 hx (pc := 38) (hb hby d4_38) rfl ?_
          refine Own.iload X0 hx (pc := 40) (hb hby d4_40) rfl ?_
          by_cases c7 : lt = ls
          · refine Own.icmpNo X0 hx (pc := 42) (hb hby d4_42) (XT.ii_ne_f c7) ?_
            refine Own.iloadN X0 hx (pc := 45) (hb hby d4_45) rfl ?_
            refine Own.iloadN X0 hx (pc := 46) (hb hby d4_46) rfl ?_
            by_cases c8 : t < s0
            · refine Own.icmpNo X0 hx (pc := 47) (hb hby d4_47) (XT.ii_ge_f c8) ?_
              refine Own.lconst X0 hx (pc := 50) (1 : Int64) (hb hby d4_50) (by decide) ?_
              exact Own.lreturn X0 hx hk hret (hb hby d4_51) e0 ⟨by simp [own_part, c1, c2, c3, c6, c7, c8], N0, rfl⟩ (by decide) (by decide)
            · refine Own.icmpYes X0 hx (pc := 47) 52 (hb hby d4_47) (XT.ii_ge_t c8) (by decide) (by decide) ?_
              refine Own.lconst X0 hx (pc := 52) (0 : Int64) (hb hby d4_52) (by decide) ?_
              exact Own.lreturn X0 hx hk hret (hb hby d4_53) e0 ⟨by simp [own_part, c1, c2, c3, c6, c7, c8], N0, rfl⟩ (by decide) (by decide)
          · refine Own.icmpYes X0 hx (pc := 42) 52 (hb hby d4_42) (XT.ii_ne_t c7) (by decide) (by decide) ?_
            refine Own.lconst X0 hx (pc := 52) (0 : Int64) (hb hby d4_52) (by decide) ?_
            exact Own.lreturn X0 hx hk hret (hb hby d4_53) e0 ⟨by simp [own_part, c1, c2, c3, c6, c7], N0, rfl⟩ (by decide) (by decide)
  · refine Own.icmpYes X0 hx (pc := 2) 10 (hb hby d4_2) (XT.ii_ge_t c1) (by decide) (by decide) ?_
    refine Own.lconst X0 hx (pc := 10) (0 : Int64) (hb hby d4_10) (by decide) ?_
    exact Own.lreturn X0 hx hk hret (hb hby d4_11) e0 ⟨by simp [own_part, c1], N0, rfl⟩ (by decide) (by decide)
theorem d3_0 : decode method_4_code 0 = .ok (.iload_n 0, 1) := by decide +kernel
theorem d3_1 : decode method_4_code 1 = .ok (.iload_n 1, 1) := by decide +kernel
theorem d3_2 : decode method_4_code 2 = .ok (.if_icmp .lt 18, 3) := by decide +kernel
theorem d3_20 : decode method_4_code 20 = .ok (.aload_n 2, 1) := by decide +kernel
theorem d3_21 : decode method_4_code 21 = .ok (.iload_n 0, 1) := by decide +kernel
theorem d3_22 : decode method_4_code 22 = .ok (.iaload, 1) := by decide +kernel
theorem d3_23 : decode method_4_code 23 = .ok (.istore 6, 2) := by decide +kernel
theorem d3_25 : decode method_4_code 25 = .ok (.iload 6, 2) := by decide +kernel
theorem d3_27 : decode method_4_code 27 = .ok (.ifCond .ne 5, 3) := by decide +kernel
theorem d3_30 : decode method_4_code 30 = .ok (.iconst 1, 1) := by decide +kernel
theorem d3_31 : decode method_4_code 31 = .ok (.ireturn, 1) := by decide +kernel
theorem d3_32 : decode method_4_code 32 = .ok (.iconst 0, 1) := by decide +kernel
theorem d3_33 : decode method_4_code 33 = .ok (.iload_n 0, 1) := by decide +kernel
theorem d3_34 : decode method_4_code 34 = .ok (.iload_n 1, 1) := by decide +kernel
theorem d3_35 : decode method_4_code 35 = .ok (.aload_n 2, 1) := by decide +kernel
theorem d3_36 : decode method_4_code 36 = .ok (.iload 6, 2) := by decide +kernel
theorem pd2 : parseMethodDescriptor "(III[II)J" = some ⟨[.int, .int, .int, (.array .int), .int], some .long⟩ := by decide +kernel
theorem d3_38 : decode method_4_code 38 = .ok (.invokestatic 29, 3) := by decide +kernel
theorem d3_41 : decode method_4_code 41 = .ok (.iconst 1, 1) := by decide +kernel
theorem d3_42 : decode method_4_code 42 = .ok (.iload_n 0, 1) := by decide +kernel
theorem d3_43 : decode method_4_code 43 = .ok (.iload_n 1, 1) := by decide +kernel
theorem d3_44 : decode method_4_code 44 = .ok (.aload_n 2, 1) := by decide +kernel
theorem d3_45 : decode method_4_code 45 = .ok (.iload 6, 2) := by decide +kernel
theorem d3_47 : decode method_4_code 47 = .ok (.invokestatic 29, 3) := by decide +kernel
theorem d3_50 : decode method_4_code 50 = .ok (.ladd, 1) := by decide +kernel
theorem d3_51 : decode method_4_code 51 = .ok (.iconst 2, 1) := by decide +kernel
theorem d3_52 : decode method_4_code 52 = .ok (.iload_n 0, 1) := by decide +kernel
theorem d3_53 : decode method_4_code 53 = .ok (.iload_n 1, 1) := by decide +kernel
theorem d3_54 : decode method_4_code 54 = .ok (.aload_n 2, 1) := by decide +kernel
theorem d3_55 : decode method_4_code 55 = .ok (.iload 6, 2) := by decide +kernel
theorem d3_57 : decode method_4_code 57 = .ok (.invokestatic 29, 3) := by decide +kernel
theorem d3_60 : decode method_4_code 60 = .ok (.ladd, 1) := by decide +kernel
theorem d3_61 : decode method_4_code 61 = .ok (.iconst 3, 1) := by decide +kernel
theorem d3_62 : decode method_4_code 62 = .ok (.iload_n 0, 1) := by decide +kernel
theorem d3_63 : decode method_4_code 63 = .ok (.iload_n 1, 1) := by decide +kernel
theorem d3_64 : decode method_4_code 64 = .ok (.aload_n 2, 1) := by decide +kernel
theorem d3_65 : decode method_4_code 65 = .ok (.iload 6, 2) := by decide +kernel
theorem d3_67 : decode method_4_code 67 = .ok (.invokestatic 29, 3) := by decide +kernel
theorem d3_70 : decode method_4_code 70 = .ok (.ladd, 1) := by decide +kernel
theorem d3_71 : decode method_4_code 71 = .ok (.lstore 7, 2) := by decide +kernel
theorem d3_73 : decode method_4_code 73 = .ok (.aload_n 3, 1) := by decide +kernel
theorem d3_74 : decode method_4_code 74 = .ok (.iload_n 0, 1) := by decide +kernel
theorem d3_75 : decode method_4_code 75 = .ok (.laload, 1) := by decide +kernel
theorem d3_76 : decode method_4_code 76 = .ok (.lload 7, 2) := by decide +kernel
theorem d3_78 : decode method_4_code 78 = .ok (.lcmp, 1) := by decide +kernel
theorem d3_79 : decode method_4_code 79 = .ok (.ifCond .ne 7, 3) := by decide +kernel
theorem d3_82 : decode method_4_code 82 = .ok (.iconst 1, 1) := by decide +kernel
theorem d3_83 : decode method_4_code 83 = .ok (.goto 4, 3) := by decide +kernel
theorem d3_87 : decode method_4_code 87 = .ok (.ireturn, 1) := by decide +kernel
theorem d3_86 : decode method_4_code 86 = .ok (.iconst 0, 1) := by decide +kernel
theorem d3_5 : decode method_4_code 5 = .ok (.aload_n 3, 1) := by decide +kernel
theorem d3_6 : decode method_4_code 6 = .ok (.iload_n 0, 1) := by decide +kernel
theorem d3_7 : decode method_4_code 7 = .ok (.laload, 1) := by decide +kernel
theorem d3_8 : decode method_4_code 8 = .ok (.lload 4, 2) := by decide +kernel
theorem d3_10 : decode method_4_code 10 = .ok (.lcmp, 1) := by decide +kernel
theorem d3_11 : decode method_4_code 11 = .ok (.ifCond .ne 7, 3) := by decide +kernel
theorem d3_14 : decode method_4_code 14 = .ok (.iconst 1, 1) := by decide +kernel
theorem d3_15 : decode method_4_code 15 = .ok (.goto 4, 3) := by decide +kernel
theorem d3_19 : decode method_4_code 19 = .ok (.ireturn, 1) := by decide +kernel
theorem d3_18 : decode method_4_code 18 = .ok (.iconst 0, 1) := by decide +kernel
theorem ef_rm3 (m : MethodId) (s0 : Int32) (n : Int32) (la : Addr) (na : Addr) (fill : Int64) : entryFrame m #[(.int s0), (.int n), (.ref la), (.ref na), (.long fill)] 9 = mkF m 0 #[.val (.int s0), .val (.int n), .val (.ref la), .val (.ref na), .val (.long fill), .second, .unset, .unset, .unset] [] := by first | (simp [entryFrame, mkF, argsToLocals, Value.category]; done) | rfl
set_option maxRecDepth 65536 in
set_option maxHeartbeats 40000000 in
theorem rm3 (l : Launch) (Z : State) (a0 : Array Value) (hw : ∀ d ∈ tables_1, d.before a0 Z = true) (s0 : Int32) (n : Int32) (la : Addr) (na : Addr) (fill : Int64) (l0 : Int32) (l1 : Int32) (l2 : Int32) (l3 : Int32) (nv : List Value) (ls : Int32) (y : Int64) (h0 : Heap) (n0 : Nat) (Z0 : n0 ≤ h0.size) (V_la : Own.VArr Z h0 la .int [(.int l0), (.int l1), (.int l2), (.int l3)]) (V_na : Own.VArr Z h0 na .long nv) (hns : ¬ s0 < 0) (hvs : ([(.int l0), (.int l1), (.int l2), (.int l3)] : List Value)[s0.toNatClampNeg]? = some (.int ls)) (hvy : nv[s0.toNatClampNeg]? = some (.long y)) :
    Own.Ct l (⟨"shortleaf/CanonicalCodeNumbersPinLaw", "ok", "(II[I[JJ)Z"⟩ : MethodName) method_4_code 9 (some .boolean) [] ({ frames := 1, cells := 0, slots := 0, locals := 19 } : Room) Z #[(.int s0), (.int n), (.ref la), (.ref na), (.long fill)] h0 (fun rV hP lC => rV = some (.int (if ((¬ s0 < n ∧ y = fill) ∨ (s0 < n ∧ (ls = 0 ∨ y = own_ex l0 l1 l2 l3 s0 n ls))) then (1 : Int32) else 0)) ∧ Fr n0 lC ∧ hP = h0) := by
  refine Own.enter (plainFor_of_name pn0) ?_
  intro p e s m below meth cc s₁ hx hby hml hown hnm hret hk hZ X0 e0
  have N0 := Fr.nil n0
  refine Own.start (ef_rm3 m s0 n la na fill) ?_
  refine Own.iloadN X0 hx (pc := 0) (hb hby d3_0) rfl ?_
  refine Own.iloadN X0 hx (pc := 1) (hb hby d3_1) rfl ?_
  by_cases c1 : s0 < n
  · refine Own.icmpYes X0 hx (pc := 2) 20 (hb hby d3_2) (XT.ii_lt_t c1) (by decide) (by decide) ?_
    refine Own.aloadN X0 hx (pc := 20) (hb hby d3_20) rfl rfl ?_
    refine Own.iloadN X0 hx (pc := 21) (hb hby d3_21) rfl ?_
    refine Own.iaload X0 hx hZ (pc := 22) e0 V_la (v := (.int ls)) s0.toNatClampNeg hns rfl hvs (hb hby d3_22) ?_
    refine Own.istore X0 hx (pc := 23) #[.val (.int s0), .val (.int n), .val (.ref la), .val (.ref na), .val (.long fill), .second, .val (.int ls), .unset, .unset] (hb hby d3_23) rfl ?_
    refine Own.iload X0 hx (pc := 25) (hb hby d3_25) rfl ?_
    by_cases c2 : ls = (0 : Int32)
    · refine Own.ifNo X0 hx (pc := 27) (hb hby d3_27) (XT.i0_ne_f c2) ?_
      refine Own.iconst X0 hx (pc := 30) (1 : Int32) (hb hby d3_30) (by decide) ?_
      exact Own.ireturn X0 hx hk hret (by simp) rfl (hb hby d3_31) e0 ⟨by simp [c1, c2], N0, rfl⟩ (by decide) (by decide)
    · refine Own.ifYes X0 hx (pc := 27) 32 (hb hby d3_27) (XT.i0_ne_t c2) (by decide) (by decide) ?_
      refine Own.iconst X0 hx (pc := 32) (0 : Int32) (hb hby d3_32) (by decide) ?_
      refine Own.iloadN X0 hx (pc := 33) (hb hby d3_33) rfl ?_
      refine Own.iloadN X0 hx (pc := 34) (hb hby d3_34) rfl ?_
      refine Own.aloadN X0 hx (pc := 35) (hb hby d3_35) rfl rfl ?_
      refine Own.iload X0 hx (pc := 36) (hb hby d3_36) rfl ?_
      refine Own.callStatic X0 hx hZ (pc := 38) (y := (⟨"shortleaf/CanonicalCodeNumbersPinLaw", "part", "(III[II)J"⟩ : MethodName)) hown (Wd hw 16 rfl) (Wd hw 17 rfl) (Wd hw 2 rfl) (Wd hw 18 rfl) (by decide) 0 [(.int (0 : Int32)), (.int s0), (.int n), (.ref la), (.int ls)] [] (rm4 l Z a0 hw (0 : Int32) s0 n la ls ([(.int l0), (.int l1), (.int l2), (.int l3)]) l0 h0 n0 Z0 V_la (by decide) rfl) (by decide) (by decide) e0 (by rw [hml]; rfl) pd2 rfl rfl (Nat.le_of_eq rfl) (hb hby d3_38) (by decide) (by decide) ?_
      intro T3 L3 v3 X3 hQ3
      obtain ⟨rfl, Nq3, e3⟩ := hQ3
      have N3 := Fr.app N0 Nq3
      show Own.Go p e below _ (T3.setTop (mkF m 41 #[.val (.int s0), .val (.int n), .val (.ref la), .val (.ref na), .val (.long fill), .second, .val (.int ls), .unset, .unset] [(.long (own_part (0 : Int32) s0 n l0 ls))]))
      refine Own.iconst X3 hx (pc := 41) (1 : Int32) (hb hby d3_41) (by decide) ?_
      refine Own.iloadN X3 hx (pc := 42) (hb hby d3_42) rfl ?_
      refine Own.iloadN X3 hx (pc := 43) (hb hby d3_43) rfl ?_
      refine Own.aloadN X3 hx (pc := 44) (hb hby d3_44) rfl rfl ?_
      refine Own.iload X3 hx (pc := 45) (hb hby d3_45) rfl ?_
      refine Own.callStatic X3 hx hZ (pc := 47) (y := (⟨"shortleaf/CanonicalCodeNumbersPinLaw", "part", "(III[II)J"⟩ : MethodName)) hown (Wd hw 16 rfl) (Wd hw 17 rfl) (Wd hw 2 rfl) (Wd hw 18 rfl) (by decide) 2 [(.int (1 : Int32)), (.int s0), (.int n), (.ref la), (.int ls)] [(.long (own_part (0 : Int32) s0 n l0 ls))] (rm4 l Z a0 hw (1 : Int32) s0 n la ls ([(.int l0), (.int l1), (.int l2), (.int l3)]) l1 h0 n0 Z0 V_la (by decide) rfl) (by decide) (by decide) e3 (by rw [hml]; rfl) pd2 rfl rfl (Nat.le_of_eq rfl) (hb hby d3_47) (by decide) (by decide) ?_
      intro T4 L4 v4 X4 hQ4
      obtain ⟨rfl, Nq4, e4⟩ := hQ4
      have N4 := Fr.app N3 Nq4
      show Own.Go p e below _ (T4.setTop (mkF m 50 #[.val (.int s0), .val (.int n), .val (.ref la), .val (.ref na), .val (.long fill), .second, .val (.int ls), .unset, .unset] [(.long (own_part (1 : Int32) s0 n l1 ls)), (.long (own_part (0 : Int32) s0 n l0 ls))]))
      refine Own.ladd X4 hx (pc := 50) (hb hby d3_50) ?_
      refine Own.iconst X4 hx (pc := 51) (2 : Int32) (hb hby d3_51) (by decide) ?_
      refine Own.iloadN X4 hx (pc := 52) (hb hby d3_52) rfl ?_
      refine Own.iloadN X4 hx (pc := 53) (hb hby d3_53) rfl ?_
      refine Own.aloadN X4 hx (pc := 54) (hb hby d3_54) rfl rfl ?_
      refine Own.iload X4 hx (pc := 55) (hb hby d3_55) rfl ?_
      refine Own.callStatic X4 hx hZ (pc := 57) (y := (⟨"shortleaf/CanonicalCodeNumbersPinLaw", "part", "(III[II)J"⟩ : MethodName)) hown (Wd hw 16 rfl) (Wd hw 17 rfl) (Wd hw 2 rfl) (Wd hw 18 rfl) (by decide) 2 [(.int (2 : Int32)), (.int s0), (.int n), (.ref la), (.int ls)] [(.long ((own_part (0 : Int32) s0 n l0 ls) + (own_part (1 : Int32) s0 n l1 ls)))] (rm4 l Z a0 hw (2 : Int32) s0 n la ls ([(.int l0), (.int l1), (.int l2), (.int l3)]) l2 h0 n0 Z0 V_la (by decide) rfl) (by decide) (by decide) e4 (by rw [hml]; rfl) pd2 rfl rfl (Nat.le_of_eq rfl) (hb hby d3_57) (by decide) (by decide) ?_
      intro T5 L5 v5 X5 hQ5
      obtain ⟨rfl, Nq5, e5⟩ := hQ5
      have N5 := Fr.app N4 Nq5
      show Own.Go p e below _ (T5.setTop (mkF m 60 #[.val (.int s0), .val (.int n), .val (.ref la), .val (.ref na), .val (.long fill), .second, .val (.int ls), .unset, .unset] [(.long (own_part (2 : Int32) s0 n l2 ls)), (.long ((own_part (0 : Int32) s0 n l0 ls) + (own_part (1 : Int32) s0 n l1 ls)))]))
      refine Own.ladd X5 hx (pc := 60) (hb hby d3_60) ?_
      refine Own.iconst X5 hx (pc := 61) (3 : Int32) (hb hby d3_61) (by decide) ?_
      refine Own.iloadN X5 hx (pc := 62) (hb hby d3_62) rfl ?_
      refine Own.iloadN X5 hx (pc := 63) (hb hby d3_63) rfl ?_
      refine Own.aloadN X5 hx (pc := 64) (hb hby d3_64) rfl rfl ?_
      refine Own.iload X5 hx (pc := 65) (hb hby d3_65) rfl ?_
      refine Own.callStatic X5 hx hZ (pc := 67) (y := (⟨"shortleaf/CanonicalCodeNumbersPinLaw", "part", "(III[II)J"⟩ : MethodName)) hown (Wd hw 16 rfl) (Wd hw 17 rfl) (Wd hw 2 rfl) (Wd hw 18 rfl) (by decide) 2 [(.int (3 : Int32)), (.int s0), (.int n), (.ref la), (.int ls)] [(.long (((own_part (0 : Int32) s0 n l0 ls) + (own_part (1 : Int32) s0 n l1 ls)) + (own_part (2 : Int32) s0 n l2 ls)))] (rm4 l Z a0 hw (3 : Int32) s0 n la ls ([(.int l0), (.int l1), (.int l2), (.int l3)]) l3 h0 n0 Z0 V_la (by decide) rfl) (by decide) (by decide) e5 (by rw [hml]; rfl) pd2 rfl rfl (Nat.le_of_eq rfl) (hb hby d3_67) (by decide) (by decide) ?_
      intro T6 L6 v6 X6 hQ6
      obtain ⟨rfl, Nq6, e6⟩ := hQ6
      have N6 := Fr.app N5 Nq6
      show Own.Go p e below _ (T6.setTop (mkF m 70 #[.val (.int s0), .val (.int n), .val (.ref la), .val (.ref na), .val (.long fill), .second, .val (.int ls), .unset, .unset] [(.long (own_part (3 : Int32) s0 n l3 ls)), (.long (((own_part (0 : Int32) s0 n l0 ls) + (own_part (1 : Int32) s0 n l1 ls)) + (own_part (2 : Int32) s0 n l2 ls)))]))
      refine Own.ladd X6 hx (pc := 70) (hb hby d3_70) ?_
      show Own.Go p e below _ (T6.setTop (mkF m 71 #[.val (.int s0), .val (.int n), .val (.ref la), .val (.ref na), .val (.long fill), .second, .val (.int ls), .unset, .unset] [(.long (own_ex l0 l1 l2 l3 s0 n ls))]))
      refine Own.lstore X6 hx (pc := 71) #[.val (.int s0), .val (.int n), .val (.ref la), .val (.ref na), .val (.long fill), .second, .val (.int ls), .val (.long (own_ex l0 l1 l2 l3 s0 n ls)), .second] (hb hby d3_71) rfl ?_
      refine Own.aloadN X6 hx (pc := 73) (hb hby d3_73) rfl rfl ?_
      refine Own.iloadN X6 hx (pc := 74) (hb hby d3_74) rfl ?_
      refine Own.laload X6 hx hZ (pc := 75) e6 V_na (v := (.long y)) s0.toNatClampNeg hns rfl hvy (hb hby d3_75) ?_
      refine Own.lload X6 hx (pc := 76) (hb hby d3_76) rfl ?_
      refine Own.lcmp X6 hx (pc := 78) (hb hby d3_78) ?_
      by_cases c7 : y = (own_ex l0 l1 l2 l3 s0 n ls)
      · refine Own.ifNo X6 hx (pc := 79) (hb hby d3_79) (XT.ll_ne_f c7) ?_
        refine Own.iconst X6 hx (pc := 82) (1 : Int32) (hb hby d3_82) (by decide) ?_
        refine Own.goto X6 hx (pc := 83) 87 (hb hby d3_83) (by decide) (by decide) ?_
        exact Own.ireturn X6 hx hk hret (by simp) rfl (hb hby d3_87) e6 ⟨by simp [c1, c2, c7], N6, rfl⟩ (by decide) (by decide)
      · refine Own.ifYes X6 hx (pc := 79) 86 (hb hby d3_79) (XT.ll_ne_t c7) (by decide) (by decide) ?_
        refine Own.iconst X6 hx (pc := 86) (0 : Int32) (hb hby d3_86) (by decide) ?_
        exact Own.ireturn X6 hx hk hret (by simp) rfl (hb hby d3_87) e6 ⟨by simp [c1, c2, c7], N6, rfl⟩ (by decide) (by decide)
  · refine Own.icmpNo X0 hx (pc := 2) (hb hby d3_2) (XT.ii_lt_f c1) ?_
    refine Own.aloadN X0 hx (pc := 5) (hb hby d3_5) rfl rfl ?_
    refine Own.iloadN X0 hx (pc := 6) (hb hby d3_6) rfl ?_
    refine Own.laload X0 hx hZ (pc := 7) e0 V_na (v := (.long y)) s0.toNatClampNeg hns rfl hvy (hb hby d3_7) ?_
    refine Own.lload X0 hx (pc := 8) (hb hby d3_8) rfl ?_
    refine Own.lcmp X0 hx (pc := 10) (hb hby d3_10) ?_
    by_cases c8 : y = fill
    · refine Own.ifNo X0 hx (pc := 11) (hb hby d3_11) (XT.ll_ne_f c8) ?_
      refine Own.iconst X0 hx (pc := 14) (1 : Int32) (hb hby d3_14) (by decide) ?_
      refine Own.goto X0 hx (pc := 15) 19 (hb hby d3_15) (by decide) (by decide) ?_
      exact Own.ireturn X0 hx hk hret (by simp) rfl (hb hby d3_19) e0 ⟨by simp [c1, c8], N0, rfl⟩ (by decide) (by decide)
    · refine Own.ifYes X0 hx (pc := 11) 18 (hb hby d3_11) (XT.ll_ne_t c8) (by decide) (by decide) ?_
      refine Own.iconst X0 hx (pc := 18) (0 : Int32) (hb hby d3_18) (by decide) ?_
      exact Own.ireturn X0 hx hk hret (by simp) rfl (hb hby d3_19) e0 ⟨by simp [c1, c8], N0, rfl⟩ (by decide) (by decide)
theorem pd3 : parseMethodDescriptor "(III)J" = some ⟨[.int, .int, .int], some .long⟩ := by decide +kernel
theorem pd4 : parseMethodDescriptor "([II[J)V" = some ⟨[(.array .int), .int, (.array .long)], none⟩ := by decide +kernel
theorem pd5 : parseMethodDescriptor "(II[I[JJ)Z" = some ⟨[.int, .int, (.array .int), (.array .long), .long], some .boolean⟩ := by decide +kernel
theorem ef_law (m : MethodId) (a : Int32) (b : Int32) (c0 : Int32) (d : Int32) (k0 : Int32) (fill : Int64) : entryFrame m #[(.int a), (.int b), (.int c0), (.int d), (.int k0), (.long fill)] maxLocals = mkF m 0 #[.val (.int a), .val (.int b), .val (.int c0), .val (.int d), .val (.int k0), .val (.long fill), .second, .unset, .unset, .unset, .unset, .unset, .unset, .unset, .unset, .unset, .unset, .unset] [] := by first | (simp [entryFrame, mkF, argsToLocals, Value.category, maxLocals]; done) | rfl
set_option maxRecDepth 65536 in
set_option maxHeartbeats 400000000 in
theorem rm0 (l : Launch) (Z : State) (a0 : Array Value) (hw : ∀ d ∈ tables_1, d.before a0 Z = true) (a : Int32) (b : Int32) (c0 : Int32) (d : Int32) (k0 : Int32) (fill : Int64) (h0 : Heap) (n0 : Nat) (Z0 : n0 ≤ h0.size) :
    Own.Ct l x code maxLocals ret tables_1 room_1 Z #[(.int a), (.int b), (.int c0), (.int d), (.int k0), (.long fill)] h0 (fun v _ L => v = some (.int 1) ∧ Fr n0 L) := by
  refine Own.enter (plainFor_of_name pn0) ?_
  intro p e s m below meth cc s₁ hx hby hml0 hown hnm hret hk hZ X0 e0
  have hml : cc.maxLocals = 18 := hml0
  have N0 := Fr.nil n0
  refine Own.start (ef_law m a b c0 d k0 fill) ?_
  refine Own.iloadN X0 hx (pc := 0) (hb hby at_0) rfl ?_
  refine Own.bipush X0 hx (pc := 1) (63 : Int32) (hb hby at_1) (by decide) ?_
  refine Own.iand X0 hx (pc := 3) (hb hby at_3) ?_
  generalize ql1 : (a &&& (63 : Int32)) = l1
  have hl0 := own_l a
  rw [ql1] at hl0
  refine Own.istore X0 hx (pc := 4) #[.val (.int a), .val (.int b), .val (.int c0), .val (.int d), .val (.int k0), .val (.long fill), .second, .val (.int l1), .unset, .unset, .unset, .unset, .unset, .unset, .unset, .unset, .unset, .unset] (hb hby at_4) rfl ?_
  refine Own.iloadN X0 hx (pc := 6) (hb hby at_6) rfl ?_
  refine Own.bipush X0 hx (pc := 7) (63 : Int32) (hb hby at_7) (by decide) ?_
  refine Own.iand X0 hx (pc := 9) (hb hby at_9) ?_
  generalize ql2 : (b &&& (63 : Int32)) = l2
  have hl1 := own_l b
  rw [ql2] at hl1
  refine Own.istore X0 hx (pc := 10) #[.val (.int a), .val (.int b), .val (.int c0), .val (.int d), .val (.int k0), .val (.long fill), .second, .val (.int l1), .val (.int l2), .unset, .unset, .unset, .unset, .unset, .unset, .unset, .unset, .unset] (hb hby at_10) rfl ?_
  refine Own.iloadN X0 hx (pc := 12) (hb hby at_12) rfl ?_
  refine Own.bipush X0 hx (pc := 13) (63 : Int32) (hb hby at_13) (by decide) ?_
  refine Own.iand X0 hx (pc := 15) (hb hby at_15) ?_
  generalize ql3 : (c0 &&& (63 : Int32)) = l3
  have hl2 := own_l c0
  rw [ql3] at hl2
  refine Own.istore X0 hx (pc := 16) #[.val (.int a), .val (.int b), .val (.int c0), .val (.int d), .val (.int k0), .val (.long fill), .second, .val (.int l1), .val (.int l2), .val (.int l3), .unset, .unset, .unset, .unset, .unset, .unset, .unset, .unset] (hb hby at_16) rfl ?_
  refine Own.iloadN X0 hx (pc := 18) (hb hby at_18) rfl ?_
  refine Own.bipush X0 hx (pc := 19) (63 : Int32) (hb hby at_19) (by decide) ?_
  refine Own.iand X0 hx (pc := 21) (hb hby at_21) ?_
  generalize ql4 : (d &&& (63 : Int32)) = l4
  have hl3 := own_l d
  rw [ql4] at hl3
  refine Own.istore X0 hx (pc := 22) #[.val (.int a), .val (.int b), .val (.int c0), .val (.int d), .val (.int k0), .val (.long fill), .second, .val (.int l1), .val (.int l2), .val (.int l3), .val (.int l4), .unset, .unset, .unset, .unset, .unset, .unset, .unset] (hb hby at_22) rfl ?_
  refine Own.iload X0 hx (pc := 24) (hb hby at_24) rfl ?_
  refine Own.bipush X0 hx (pc := 26) (7 : Int32) (hb hby at_26) (by decide) ?_
  refine Own.iand X0 hx (pc := 28) (hb hby at_28) ?_
  refine Own.iconst X0 hx (pc := 29) (5 : Int32) (hb hby at_29) (by decide) ?_
  refine Own.irem X0 hx (pc := 30) (hb hby at_30) (by decide) ?_
  generalize qn5 : ((k0 &&& (7 : Int32)) % (5 : Int32)) = n5
  refine Own.istore X0 hx (pc := 31) #[.val (.int a), .val (.int b), .val (.int c0), .val (.int d), .val (.int k0), .val (.long fill), .second, .val (.int l1), .val (.int l2), .val (.int l3), .val (.int l4), .val (.int n5), .unset, .unset, .unset, .unset, .unset, .unset] (hb hby at_31) rfl ?_
  refine Own.iload X0 hx (pc := 33) (hb hby at_33) rfl ?_
  refine Own.iconst X0 hx (pc := 35) (0 : Int32) (hb hby at_35) (by decide) ?_
  refine Own.iload X0 hx (pc := 36) (hb hby at_36) rfl ?_
  refine Own.callStatic X0 hx hZ (pc := 38) (y := (⟨"shortleaf/CanonicalCodeNumbersPinLaw", "kraft", "(III)J"⟩ : MethodName)) hown (Wd hw 0 rfl) (Wd hw 1 rfl) (Wd hw 2 rfl) (Wd hw 3 rfl) (by decide) 0 [(.int l1), (.int (0 : Int32)), (.int n5)] [] (rm1 l Z a0 hw l1 (0 : Int32) n5 h0 n0 Z0 ) (by decide) (by decide) e0 (by rw [hml]; rfl) pd3 rfl rfl (Nat.le_of_eq rfl) (hb hby at_38) (by decide) (by decide) ?_
  intro T6 L6 v6 X6 hQ6
  obtain ⟨rfl, Nq6, e6⟩ := hQ6
  have N6 := Fr.app N0 Nq6
  show Own.Go p e below _ (T6.setTop (mkF m 41 #[.val (.int a), .val (.int b), .val (.int c0), .val (.int d), .val (.int k0), .val (.long fill), .second, .val (.int l1), .val (.int l2), .val (.int l3), .val (.int l4), .val (.int n5), .unset, .unset, .unset, .unset, .unset, .unset] [(.long (own_kr l1 (0 : Int32) n5))]))
  refine Own.iconst X6 hx (pc := 41) (2 : Int32) (hb hby at_41) (by decide) ?_
  refine Own.lushr X6 hx (pc := 42) (hb hby at_42) ?_
  refine Own.iload X6 hx (pc := 43) (hb hby at_43) rfl ?_
  refine Own.iconst X6 hx (pc := 45) (1 : Int32) (hb hby at_45) (by decide) ?_
  refine Own.iload X6 hx (pc := 46) (hb hby at_46) rfl ?_
  refine Own.callStatic X6 hx hZ (pc := 48) (y := (⟨"shortleaf/CanonicalCodeNumbersPinLaw", "kraft", "(III)J"⟩ : MethodName)) hown (Wd hw 0 rfl) (Wd hw 1 rfl) (Wd hw 2 rfl) (Wd hw 3 rfl) (by decide) 2 [(.int l2), (.int (1 : Int32)), (.int n5)] [(.long (XT.ushrL (own_kr l1 (0 : Int32) n5) (2 : Int32)))] (rm1 l Z a0 hw l2 (1 : Int32) n5 h0 n0 Z0 ) (by decide) (by decide) e6 (by rw [hml]; rfl) pd3 rfl rfl (Nat.le_of_eq rfl) (hb hby at_48) (by decide) (by decide) ?_
  intro T7 L7 v7 X7 hQ7
  obtain ⟨rfl, Nq7, e7⟩ := hQ7
  have N7 := Fr.app N6 Nq7
  show Own.Go p e below _ (T7.setTop (mkF m 51 #[.val (.int a), .val (.int b), .val (.int c0), .val (.int d), .val (.int k0), .val (.long fill), .second, .val (.int l1), .val (.int l2), .val (.int l3), .val (.int l4), .val (.int n5), .unset, .unset, .unset, .unset, .unset, .unset] [(.long (own_kr l2 (1 : Int32) n5)), (.long (XT.ushrL (own_kr l1 (0 : Int32) n5) (2 : Int32)))]))
  refine Own.iconst X7 hx (pc := 51) (2 : Int32) (hb hby at_51) (by decide) ?_
  refine Own.lushr X7 hx (pc := 52) (hb hby at_52) ?_
  refine Own.ladd X7 hx (pc := 53) (hb hby at_53) ?_
  refine Own.iload X7 hx (pc := 54) (hb hby at_54) rfl ?_
  refine Own.iconst X7 hx (pc := 56) (2 : Int32) (hb hby at_56) (by decide) ?_
  refine Own.iload X7 hx (pc := 57) (hb hby at_57) rfl ?_
  refine Own.callStatic X7 hx hZ (pc := 59) (y := (⟨"shortleaf/CanonicalCodeNumbersPinLaw", "kraft", "(III)J"⟩ : MethodName)) hown (Wd hw 0 rfl) (Wd hw 1 rfl) (Wd hw 2 rfl) (Wd hw 3 rfl) (by decide) 2 [(.int l3), (.int (2 : Int32)), (.int n5)] [(.long ((XT.ushrL (own_kr l1 (0 : Int32) n5) (2 : Int32)) + (XT.ushrL (own_kr l2 (1 : Int32) n5) (2 : Int32))))] (rm1 l Z a0 hw l3 (2 : Int32) n5 h0 n0 Z0 ) (by decide) (by decide) e7 (by rw [hml]; rfl) pd3 rfl rfl (Nat.le_of_eq rfl) (hb hby at_59) (by decide) (by decide) ?_
  intro T8 L8 v8 X8 hQ8
  obtain ⟨rfl, Nq8, e8⟩ := hQ8
  have N8 := Fr.app N7 Nq8
  show Own.Go p e below _ (T8.setTop (mkF m 62 #[.val (.int a), .val (.int b), .val (.int c0), .val (.int d), .val (.int k0), .val (.long fill), .second, .val (.int l1), .val (.int l2), .val (.int l3), .val (.int l4), .val (.int n5), .unset, .unset, .unset, .unset, .unset, .unset] [(.long (own_kr l3 (2 : Int32) n5)), (.long ((XT.ushrL (own_kr l1 (0 : Int32) n5) (2 : Int32)) + (XT.ushrL (own_kr l2 (1 : Int32) n5) (2 : Int32))))]))
  refine Own.iconst X8 hx (pc := 62) (2 : Int32) (hb hby at_62) (by decide) ?_
  refine Own.lushr X8 hx (pc := 63) (hb hby at_63) ?_
  refine Own.ladd X8 hx (pc := 64) (hb hby at_64) ?_
  refine Own.iload X8 hx (pc := 65) (hb hby at_65) rfl ?_
  refine Own.iconst X8 hx (pc := 67) (3 : Int32) (hb hby at_67) (by decide) ?_
  refine Own.iload X8 hx (pc := 68) (hb hby at_68) rfl ?_
  refine Own.callStatic X8 hx hZ (pc := 70) (y := (⟨"shortleaf/CanonicalCodeNumbersPinLaw", "kraft", "(III)J"⟩ : MethodName)) hown (Wd hw 0 rfl) (Wd hw 1 rfl) (Wd hw 2 rfl) (Wd hw 3 rfl) (by decide) 2 [(.int l4), (.int (3 : Int32)), (.int n5)] [(.long (((XT.ushrL (own_kr l1 (0 : Int32) n5) (2 : Int32)) + (XT.ushrL (own_kr l2 (1 : Int32) n5) (2 : Int32))) + (XT.ushrL (own_kr l3 (2 : Int32) n5) (2 : Int32))))] (rm1 l Z a0 hw l4 (3 : Int32) n5 h0 n0 Z0 ) (by decide) (by decide) e8 (by rw [hml]; rfl) pd3 rfl rfl (Nat.le_of_eq rfl) (hb hby at_70) (by decide) (by decide) ?_
  intro T9 L9 v9 X9 hQ9
  obtain ⟨rfl, Nq9, e9⟩ := hQ9
  have N9 := Fr.app N8 Nq9
  show Own.Go p e below _ (T9.setTop (mkF m 73 #[.val (.int a), .val (.int b), .val (.int c0), .val (.int d), .val (.int k0), .val (.long fill), .second, .val (.int l1), .val (.int l2), .val (.int l3), .val (.int l4), .val (.int n5), .unset, .unset, .unset, .unset, .unset, .unset] [(.long (own_kr l4 (3 : Int32) n5)), (.long (((XT.ushrL (own_kr l1 (0 : Int32) n5) (2 : Int32)) + (XT.ushrL (own_kr l2 (1 : Int32) n5) (2 : Int32))) + (XT.ushrL (own_kr l3 (2 : Int32) n5) (2 : Int32))))]))
  refine Own.iconst X9 hx (pc := 73) (2 : Int32) (hb hby at_73) (by decide) ?_
  refine Own.lushr X9 hx (pc := 74) (hb hby at_74) ?_
  refine Own.ladd X9 hx (pc := 75) (hb hby at_75) ?_
  generalize qy10 : ((((XT.ushrL (own_kr l1 (0 : Int32) n5) (2 : Int32)) + (XT.ushrL (own_kr l2 (1 : Int32) n5) (2 : Int32))) + (XT.ushrL (own_kr l3 (2 : Int32) n5) (2 : Int32))) + (XT.ushrL (own_kr l4 (3 : Int32) n5) (2 : Int32))) = y10
  refine Own.lstore X9 hx (pc := 76) #[.val (.int a), .val (.int b), .val (.int c0), .val (.int d), .val (.int k0), .val (.long fill), .second, .val (.int l1), .val (.int l2), .val (.int l3), .val (.int l4), .val (.int n5), .val (.long y10), .second, .unset, .unset, .unset, .unset] (hb hby at_76) rfl ?_
  refine Own.iload X9 hx (pc := 78) (hb hby at_78) rfl ?_
  refine Own.iconst X9 hx (pc := 80) (0 : Int32) (hb hby at_80) (by decide) ?_
  refine Own.iload X9 hx (pc := 81) (hb hby at_81) rfl ?_
  refine Own.callStatic X9 hx hZ (pc := 83) (y := (⟨"shortleaf/CanonicalCodeNumbersPinLaw", "kraft", "(III)J"⟩ : MethodName)) hown (Wd hw 0 rfl) (Wd hw 1 rfl) (Wd hw 2 rfl) (Wd hw 3 rfl) (by decide) 0 [(.int l1), (.int (0 : Int32)), (.int n5)] [] (rm1 l Z a0 hw l1 (0 : Int32) n5 h0 n0 Z0 ) (by decide) (by decide) e9 (by rw [hml]; rfl) pd3 rfl rfl (Nat.le_of_eq rfl) (hb hby at_83) (by decide) (by decide) ?_
  intro T11 L11 v11 X11 hQ11
  obtain ⟨rfl, Nq11, e11⟩ := hQ11
  have N11 := Fr.app N9 Nq11
  show Own.Go p e below _ (T11.setTop (mkF m 86 #[.val (.int a), .val (.int b), .val (.int c0), .val (.int d), .val (.int k0), .val (.long fill), .second, .val (.int l1), .val (.int l2), .val (.int l3), .val (.int l4), .val (.int n5), .val (.long y10), .second, .unset, .unset, .unset, .unset] [(.long (own_kr l1 (0 : Int32) n5))]))
  refine Own.ldc2J X11 hx hZ (pc := 86) hown (Wd hw 4 rfl) (hb hby at_86) ?_
  refine Own.land X11 hx (pc := 89) (hb hby at_89) ?_
  refine Own.iload X11 hx (pc := 90) (hb hby at_90) rfl ?_
  refine Own.iconst X11 hx (pc := 92) (1 : Int32) (hb hby at_92) (by decide) ?_
  refine Own.iload X11 hx (pc := 93) (hb hby at_93) rfl ?_
  refine Own.callStatic X11 hx hZ (pc := 95) (y := (⟨"shortleaf/CanonicalCodeNumbersPinLaw", "kraft", "(III)J"⟩ : MethodName)) hown (Wd hw 0 rfl) (Wd hw 1 rfl) (Wd hw 2 rfl) (Wd hw 3 rfl) (by decide) 2 [(.int l2), (.int (1 : Int32)), (.int n5)] [(.long ((own_kr l1 (0 : Int32) n5) &&& (3 : Int64)))] (rm1 l Z a0 hw l2 (1 : Int32) n5 h0 n0 Z0 ) (by decide) (by decide) e11 (by rw [hml]; rfl) pd3 rfl rfl (Nat.le_of_eq rfl) (hb hby at_95) (by decide) (by decide) ?_
  intro T12 L12 v12 X12 hQ12
  obtain ⟨rfl, Nq12, e12⟩ := hQ12
  have N12 := Fr.app N11 Nq12
  show Own.Go p e below _ (T12.setTop (mkF m 98 #[.val (.int a), .val (.int b), .val (.int c0), .val (.int d), .val (.int k0), .val (.long fill), .second, .val (.int l1), .val (.int l2), .val (.int l3), .val (.int l4), .val (.int n5), .val (.long y10), .second, .unset, .unset, .unset, .unset] [(.long (own_kr l2 (1 : Int32) n5)), (.long ((own_kr l1 (0 : Int32) n5) &&& (3 : Int64)))]))
  refine Own.ldc2J X12 hx hZ (pc := 98) hown (Wd hw 4 rfl) (hb hby at_98) ?_
  refine Own.land X12 hx (pc := 101) (hb hby at_101) ?_
  refine Own.ladd X12 hx (pc := 102) (hb hby at_102) ?_
  refine Own.iload X12 hx (pc := 103) (hb hby at_103) rfl ?_
  refine Own.iconst X12 hx (pc := 105) (2 : Int32) (hb hby at_105) (by decide) ?_
  refine Own.iload X12 hx (pc := 106) (hb hby at_106) rfl ?_
  refine Own.callStatic X12 hx hZ (pc := 108) (y := (⟨"shortleaf/CanonicalCodeNumbersPinLaw", "kraft", "(III)J"⟩ : MethodName)) hown (Wd hw 0 rfl) (Wd hw 1 rfl) (Wd hw 2 rfl) (Wd hw 3 rfl) (by decide) 2 [(.int l3), (.int (2 : Int32)), (.int n5)] [(.long (((own_kr l1 (0 : Int32) n5) &&& (3 : Int64)) + ((own_kr l2 (1 : Int32) n5) &&& (3 : Int64))))] (rm1 l Z a0 hw l3 (2 : Int32) n5 h0 n0 Z0 ) (by decide) (by decide) e12 (by rw [hml]; rfl) pd3 rfl rfl (Nat.le_of_eq rfl) (hb hby at_108) (by decide) (by decide) ?_
  intro T13 L13 v13 X13 hQ13
  obtain ⟨rfl, Nq13, e13⟩ := hQ13
  have N13 := Fr.app N12 Nq13
  show Own.Go p e below _ (T13.setTop (mkF m 111 #[.val (.int a), .val (.int b), .val (.int c0), .val (.int d), .val (.int k0), .val (.long fill), .second, .val (.int l1), .val (.int l2), .val (.int l3), .val (.int l4), .val (.int n5), .val (.long y10), .second, .unset, .unset, .unset, .unset] [(.long (own_kr l3 (2 : Int32) n5)), (.long (((own_kr l1 (0 : Int32) n5) &&& (3 : Int64)) + ((own_kr l2 (1 : Int32) n5) &&& (3 : Int64))))]))
  refine Own.ldc2J X13 hx hZ (pc := 111) hown (Wd hw 4 rfl) (hb hby at_111) ?_
  refine Own.land X13 hx (pc := 114) (hb hby at_114) ?_
  refine Own.ladd X13 hx (pc := 115) (hb hby at_115) ?_
  refine Own.iload X13 hx (pc := 116) (hb hby at_116) rfl ?_
  refine Own.iconst X13 hx (pc := 118) (3 : Int32) (hb hby at_118) (by decide) ?_
  refine Own.iload X13 hx (pc := 119) (hb hby at_119) rfl ?_
  refine Own.callStatic X13 hx hZ (pc := 121) (y := (⟨"shortleaf/CanonicalCodeNumbersPinLaw", "kraft", "(III)J"⟩ : MethodName)) hown (Wd hw 0 rfl) (Wd hw 1 rfl) (Wd hw 2 rfl) (Wd hw 3 rfl) (by decide) 2 [(.int l4), (.int (3 : Int32)), (.int n5)] [(.long ((((own_kr l1 (0 : Int32) n5) &&& (3 : Int64)) + ((own_kr l2 (1 : Int32) n5) &&& (3 : Int64))) + ((own_kr l3 (2 : Int32) n5) &&& (3 : Int64))))] (rm1 l Z a0 hw l4 (3 : Int32) n5 h0 n0 Z0 ) (by decide) (by decide) e13 (by rw [hml]; rfl) pd3 rfl rfl (Nat.le_of_eq rfl) (hb hby at_121) (by decide) (by decide) ?_
  intro T14 L14 v14 X14 hQ14
  obtain ⟨rfl, Nq14, e14⟩ := hQ14
  have N14 := Fr.app N13 Nq14
  show Own.Go p e below _ (T14.setTop (mkF m 124 #[.val (.int a), .val (.int b), .val (.int c0), .val (.int d), .val (.int k0), .val (.long fill), .second, .val (.int l1), .val (.int l2), .val (.int l3), .val (.int l4), .val (.int n5), .val (.long y10), .second, .unset, .unset, .unset, .unset] [(.long (own_kr l4 (3 : Int32) n5)), (.long ((((own_kr l1 (0 : Int32) n5) &&& (3 : Int64)) + ((own_kr l2 (1 : Int32) n5) &&& (3 : Int64))) + ((own_kr l3 (2 : Int32) n5) &&& (3 : Int64))))]))
  refine Own.ldc2J X14 hx hZ (pc := 124) hown (Wd hw 4 rfl) (hb hby at_124) ?_
  refine Own.land X14 hx (pc := 127) (hb hby at_127) ?_
  refine Own.ladd X14 hx (pc := 128) (hb hby at_128) ?_
  generalize qy15 : (((((own_kr l1 (0 : Int32) n5) &&& (3 : Int64)) + ((own_kr l2 (1 : Int32) n5) &&& (3 : Int64))) + ((own_kr l3 (2 : Int32) n5) &&& (3 : Int64))) + ((own_kr l4 (3 : Int32) n5) &&& (3 : Int64))) = y15
  refine Own.lstore X14 hx (pc := 129) #[.val (.int a), .val (.int b), .val (.int c0), .val (.int d), .val (.int k0), .val (.long fill), .second, .val (.int l1), .val (.int l2), .val (.int l3), .val (.int l4), .val (.int n5), .val (.long y10), .second, .val (.long y15), .second, .unset, .unset] (hb hby at_129) rfl ?_
  refine Own.lload X14 hx (pc := 131) (hb hby at_131) rfl ?_
  refine Own.lload X14 hx (pc := 133) (hb hby at_133) rfl ?_
  refine Own.ldc2J X14 hx hZ (pc := 135) hown (Wd hw 4 rfl) (hb hby at_135) ?_
  refine Own.ladd X14 hx (pc := 138) (hb hby at_138) ?_
  refine Own.ldc2J X14 hx hZ (pc := 139) hown (Wd hw 5 rfl) (hb hby at_139) ?_
  refine Own.ldiv X14 hx (pc := 142) (hb hby at_142) (by decide) ?_
  refine Own.ladd X14 hx (pc := 143) (hb hby at_143) ?_
  refine Own.ldc2J X14 hx hZ (pc := 144) hown (Wd hw 6 rfl) (hb hby at_144) ?_
  refine Own.lcmp X14 hx (pc := 147) (hb hby at_147) ?_
  by_cases c16 : (2305843009213693952 : Int64) < (y10 + ((y15 + (3 : Int64)) / (4 : Int64)))
  · refine Own.ifNo X14 hx (pc := 148) (hb hby at_148) (XT.ll_le_f c16) ?_
    refine Own.iconst X14 hx (pc := 151) (1 : Int32) (hb hby at_151) (by decide) ?_
    exact Own.ireturn X14 hx hk hret (by simp) rfl (hb hby at_152) e14 ⟨rfl, N14⟩ (by decide) (by decide)
  · refine Own.ifYes X14 hx (pc := 148) 153 (hb hby at_148) (XT.ll_le_t c16) (by decide) (by decide) ?_
    refine Own.iconst X14 hx (pc := 153) (4 : Int32) (hb hby at_153) (by decide) ?_
    refine Own.newarr X14 hx hZ (pc := 154) (aty := .int) (Wd hw 7 rfl) e14 (hb hby at_154) (by decide) 4 4 (by decide) (by decide) (by decide) (by decide) (by decide) ?_
    intro T17 h17 b17 g17 X17 e17 Ex17 V_b17
    have ge_b17 : n0 ≤ b17 := g17 ▸ Z0
    have sz17 : n0 ≤ h17.size := Nat.le_trans Z0 Ex17.1
    replace V_b17 : Own.VArr Z h17 b17 .int [(.int (0 : Int32)), (.int (0 : Int32)), (.int (0 : Int32)), (.int (0 : Int32))] := V_b17
    refine Own.dup X17 hx (pc := 156) (hb hby at_156) rfl ?_
    refine Own.iconst X17 hx (pc := 157) (0 : Int32) (hb hby at_157) (by decide) ?_
    refine Own.iload X17 hx (pc := 158) (hb hby at_158) rfl ?_
    refine Own.iastore X17 hx hZ (pc := 160) e17 V_b17 0 (by decide) (by decide) (of_decide_eq_true rfl) N14 ge_b17 (hb hby at_160) ?_
    intro T18 h18 X18 e18 W18 N18 V_b17
    replace V_b17 : Own.VArr Z h18 b17 .int [(.int l1), (.int (0 : Int32)), (.int (0 : Int32)), (.int (0 : Int32))] := V_b17
    have sz18 : n0 ≤ h18.size := Nat.le_trans sz17 (Nat.le_of_eq (Wr.size W18).symm)
    refine Own.dup X18 hx (pc := 161) (hb hby at_161) rfl ?_
    refine Own.iconst X18 hx (pc := 162) (1 : Int32) (hb hby at_162) (by decide) ?_
    refine Own.iload X18 hx (pc := 163) (hb hby at_163) rfl ?_
    refine Own.iastore X18 hx hZ (pc := 165) e18 V_b17 1 (by decide) (by decide) (of_decide_eq_true rfl) N18 ge_b17 (hb hby at_165) ?_
    intro T19 h19 X19 e19 W19 N19 V_b17
    replace V_b17 : Own.VArr Z h19 b17 .int [(.int l1), (.int l2), (.int (0 : Int32)), (.int (0 : Int32))] := V_b17
    have sz19 : n0 ≤ h19.size := Nat.le_trans sz18 (Nat.le_of_eq (Wr.size W19).symm)
    refine Own.dup X19 hx (pc := 166) (hb hby at_166) rfl ?_
    refine Own.iconst X19 hx (pc := 167) (2 : Int32) (hb hby at_167) (by decide) ?_
    refine Own.iload X19 hx (pc := 168) (hb hby at_168) rfl ?_
    refine Own.iastore X19 hx hZ (pc := 170) e19 V_b17 2 (by decide) (by decide) (of_decide_eq_true rfl) N19 ge_b17 (hb hby at_170) ?_
    intro T20 h20 X20 e20 W20 N20 V_b17
    replace V_b17 : Own.VArr Z h20 b17 .int [(.int l1), (.int l2), (.int l3), (.int (0 : Int32))] := V_b17
    have sz20 : n0 ≤ h20.size := Nat.le_trans sz19 (Nat.le_of_eq (Wr.size W20).symm)
    refine Own.dup X20 hx (pc := 171) (hb hby at_171) rfl ?_
    refine Own.iconst X20 hx (pc := 172) (3 : Int32) (hb hby at_172) (by decide) ?_
    refine Own.iload X20 hx (pc := 173) (hb hby at_173) rfl ?_
    refine Own.iastore X20 hx hZ (pc := 175) e20 V_b17 3 (by decide) (by decide) (of_decide_eq_true rfl) N20 ge_b17 (hb hby at_175) ?_
    intro T21 h21 X21 e21 W21 N21 V_b17
    replace V_b17 : Own.VArr Z h21 b17 .int [(.int l1), (.int l2), (.int l3), (.int l4)] := V_b17
    have sz21 : n0 ≤ h21.size := Nat.le_trans sz20 (Nat.le_of_eq (Wr.size W21).symm)
    refine Own.astore X21 hx (pc := 176) #[.val (.int a), .val (.int b), .val (.int c0), .val (.int d), .val (.int k0), .val (.long fill), .second, .val (.int l1), .val (.int l2), .val (.int l3), .val (.int l4), .val (.int n5), .val (.long y10), .second, .val (.long y15), .second, .val (.ref b17), .unset] (hb hby at_176) rfl rfl ?_
    refine Own.iconst X21 hx (pc := 178) (4 : Int32) (hb hby at_178) (by decide) ?_
    refine Own.newarr X21 hx hZ (pc := 179) (aty := .long) (Wd hw 8 rfl) e21 (hb hby at_179) (by decide) 4 4 (by decide) (by decide) (by decide) (by decide) (by decide) ?_
    intro T22 h22 b22 g22 X22 e22 Ex22 V_b22
    have ne_b17_b22 : b17 ≠ b22 := Nat.ne_of_lt (g22 ▸ V_b17.lt)
    have V_b17 := V_b17.ext Ex22
    have ge_b22 : n0 ≤ b22 := g22 ▸ sz21
    have sz22 : n0 ≤ h22.size := Nat.le_trans sz21 Ex22.1
    replace V_b22 : Own.VArr Z h22 b22 .long [(.long (0 : Int64)), (.long (0 : Int64)), (.long (0 : Int64)), (.long (0 : Int64))] := V_b22
    refine Own.dup X22 hx (pc := 181) (hb hby at_181) rfl ?_
    refine Own.iconst X22 hx (pc := 182) (0 : Int32) (hb hby at_182) (by decide) ?_
    refine Own.lload X22 hx (pc := 183) (hb hby at_183) rfl ?_
    refine Own.lastore X22 hx hZ (pc := 185) e22 V_b22 0 (by decide) (by decide) (of_decide_eq_true rfl) N21 ge_b22 (hb hby at_185) ?_
    intro T23 h23 X23 e23 W23 N23 V_b22
    replace V_b22 : Own.VArr Z h23 b22 .long [(.long fill), (.long (0 : Int64)), (.long (0 : Int64)), (.long (0 : Int64))] := V_b22
    have sz23 : n0 ≤ h23.size := Nat.le_trans sz22 (Nat.le_of_eq (Wr.size W23).symm)
    have V_b17 := V_b17.other W23 ne_b17_b22
    refine Own.dup X23 hx (pc := 186) (hb hby at_186) rfl ?_
    refine Own.iconst X23 hx (pc := 187) (1 : Int32) (hb hby at_187) (by decide) ?_
    refine Own.lload X23 hx (pc := 188) (hb hby at_188) rfl ?_
    refine Own.lastore X23 hx hZ (pc := 190) e23 V_b22 1 (by decide) (by decide) (of_decide_eq_true rfl) N23 ge_b22 (hb hby at_190) ?_
    intro T24 h24 X24 e24 W24 N24 V_b22
    replace V_b22 : Own.VArr Z h24 b22 .long [(.long fill), (.long fill), (.long (0 : Int64)), (.long (0 : Int64))] := V_b22
    have sz24 : n0 ≤ h24.size := Nat.le_trans sz23 (Nat.le_of_eq (Wr.size W24).symm)
    have V_b17 := V_b17.other W24 ne_b17_b22
    refine Own.dup X24 hx (pc := 191) (hb hby at_191) rfl ?_
    refine Own.iconst X24 hx (pc := 192) (2 : Int32) (hb hby at_192) (by decide) ?_
    refine Own.lload X24 hx (pc := 193) (hb hby at_193) rfl ?_
    refine Own.lastore X24 hx hZ (pc := 195) e24 V_b22 2 (by decide) (by decide) (of_decide_eq_true rfl) N24 ge_b22 (hb hby at_195) ?_
    intro T25 h25 X25 e25 W25 N25 V_b22
    replace V_b22 : Own.VArr Z h25 b22 .long [(.long fill), (.long fill), (.long fill), (.long (0 : Int64))] := V_b22
    have sz25 : n0 ≤ h25.size := Nat.le_trans sz24 (Nat.le_of_eq (Wr.size W25).symm)
    have V_b17 := V_b17.other W25 ne_b17_b22
    refine Own.dup X25 hx (pc := 196) (hb hby at_196) rfl ?_
    refine Own.iconst X25 hx (pc := 197) (3 : Int32) (hb hby at_197) (by decide) ?_
    refine Own.lload X25 hx (pc := 198) (hb hby at_198) rfl ?_
    refine Own.lastore X25 hx hZ (pc := 200) e25 V_b22 3 (by decide) (by decide) (of_decide_eq_true rfl) N25 ge_b22 (hb hby at_200) ?_
    intro T26 h26 X26 e26 W26 N26 V_b22
    replace V_b22 : Own.VArr Z h26 b22 .long [(.long fill), (.long fill), (.long fill), (.long fill)] := V_b22
    have sz26 : n0 ≤ h26.size := Nat.le_trans sz25 (Nat.le_of_eq (Wr.size W26).symm)
    have V_b17 := V_b17.other W26 ne_b17_b22
    refine Own.astore X26 hx (pc := 201) #[.val (.int a), .val (.int b), .val (.int c0), .val (.int d), .val (.int k0), .val (.long fill), .second, .val (.int l1), .val (.int l2), .val (.int l3), .val (.int l4), .val (.int n5), .val (.long y10), .second, .val (.long y15), .second, .val (.ref b17), .val (.ref b22)] (hb hby at_201) rfl rfl ?_
    rcases own_n _ qn5 with rfl | rfl | rfl | rfl | rfl
    · refine Own.aload X26 hx (pc := 203) (hb hby at_203) rfl rfl ?_
      refine Own.iload X26 hx (pc := 205) (hb hby at_205) rfl ?_
      refine Own.aload X26 hx (pc := 207) (hb hby at_207) rfl rfl ?_
      refine Own.callStatic X26 hx hZ (pc := 209) (y := (⟨"shortleaf/CanonicalCode", "numbers", "([II[J)V"⟩ : MethodName)) hown (Wd hw 9 rfl) (Wd hw 10 rfl) (Wd hw 11 rfl) (Wd hw 12 rfl) (by decide) 0 [(.ref b17), (.int (0 : Int32)), (.ref b22)] [] (rm2_0 l Z a0 hw b17 b22 l1 l2 l3 l4 fill h26 n0 sz26 V_b17 V_b22 ge_b22 ne_b17_b22 hl0 hl1 hl2 hl3) (by decide) (by decide) e26 (by rw [hml]; rfl) pd4 rfl rfl (Nat.le_of_eq rfl) (hb hby at_209) (by decide) (by decide) ?_
      intro T27 L27 v27 X27 hQ27
      obtain ⟨rfl, Nq27, K27, V_b22'⟩ := hQ27
      have e27 : T27.heap = T27.heap := rfl
      have V_b17 := V_b17.keep K27 (ninS ne_b17_b22 nin0)
      have sz27 : n0 ≤ T27.heap.size := Nat.le_trans sz26 K27.1
      have V_b22 := V_b22'
      have N27 := Fr.app N26 Nq27
      show Own.Go p e below _ (T27.setTop (mkF m 212 #[.val (.int a), .val (.int b), .val (.int c0), .val (.int d), .val (.int k0), .val (.long fill), .second, .val (.int l1), .val (.int l2), .val (.int l3), .val (.int l4), .val (.int (0 : Int32)), .val (.long y10), .second, .val (.long y15), .second, .val (.ref b17), .val (.ref b22)] []))
      refine Own.iconst X27 hx (pc := 212) (0 : Int32) (hb hby at_212) (by decide) ?_
      refine Own.iload X27 hx (pc := 213) (hb hby at_213) rfl ?_
      refine Own.aload X27 hx (pc := 215) (hb hby at_215) rfl rfl ?_
      refine Own.aload X27 hx (pc := 217) (hb hby at_217) rfl rfl ?_
      refine Own.lload X27 hx (pc := 219) (hb hby at_219) rfl ?_
      refine Own.callStatic X27 hx hZ (pc := 221) (y := (⟨"shortleaf/CanonicalCodeNumbersPinLaw", "ok", "(II[I[JJ)Z"⟩ : MethodName)) hown (Wd hw 13 rfl) (Wd hw 14 rfl) (Wd hw 2 rfl) (Wd hw 15 rfl) (by decide) 0 [(.int (0 : Int32)), (.int (0 : Int32)), (.ref b17), (.ref b22), (.long fill)] [] (rm3 l Z a0 hw (0 : Int32) (0 : Int32) b17 b22 fill l1 l2 l3 l4 ([(.long fill), (.long fill), (.long fill), (.long fill)]) l1 fill T27.heap n0 sz27 V_b17 V_b22 (by decide) rfl rfl) (by decide) (by decide) e27 (by rw [hml]; rfl) pd5 rfl rfl (Nat.le_of_eq rfl) (hb hby at_221) (by decide) (by decide) ?_
      intro T28 L28 v28 X28 hQ28
      obtain ⟨rfl, Nq28, e28⟩ := hQ28
      have N28 := Fr.app N27 Nq28
      show Own.Go p e below _ (T28.setTop (mkF m 224 #[.val (.int a), .val (.int b), .val (.int c0), .val (.int d), .val (.int k0), .val (.long fill), .second, .val (.int l1), .val (.int l2), .val (.int l3), .val (.int l4), .val (.int (0 : Int32)), .val (.long y10), .second, .val (.long y15), .second, .val (.ref b17), .val (.ref b22)] [(.int (if ((¬ (0 : Int32) < (0 : Int32) ∧ fill = fill) ∨ ((0 : Int32) < (0 : Int32) ∧ (l1 = 0 ∨ fill = own_ex l1 l2 l3 l4 (0 : Int32) (0 : Int32) l1))) then (1 : Int32) else 0))]))
      rw [if_pos (Or.inl ⟨by decide, rfl⟩)]
      refine Own.ifNo X28 hx (pc := 224) (hb hby at_224) (by decide) ?_
      refine Own.iconst X28 hx (pc := 227) (1 : Int32) (hb hby at_227) (by decide) ?_
      refine Own.iload X28 hx (pc := 228) (hb hby at_228) rfl ?_
      refine Own.aload X28 hx (pc := 230) (hb hby at_230) rfl rfl ?_
      refine Own.aload X28 hx (pc := 232) (hb hby at_232) rfl rfl ?_
      refine Own.lload X28 hx (pc := 234) (hb hby at_234) rfl ?_
      refine Own.callStatic X28 hx hZ (pc := 236) (y := (⟨"shortleaf/CanonicalCodeNumbersPinLaw", "ok", "(II[I[JJ)Z"⟩ : MethodName)) hown (Wd hw 13 rfl) (Wd hw 14 rfl) (Wd hw 2 rfl) (Wd hw 15 rfl) (by decide) 0 [(.int (1 : Int32)), (.int (0 : Int32)), (.ref b17), (.ref b22), (.long fill)] [] (rm3 l Z a0 hw (1 : Int32) (0 : Int32) b17 b22 fill l1 l2 l3 l4 ([(.long fill), (.long fill), (.long fill), (.long fill)]) l2 fill T27.heap n0 sz27 V_b17 V_b22 (by decide) rfl rfl) (by decide) (by decide) e28 (by rw [hml]; rfl) pd5 rfl rfl (Nat.le_of_eq rfl) (hb hby at_236) (by decide) (by decide) ?_
      intro T29 L29 v29 X29 hQ29
      obtain ⟨rfl, Nq29, e29⟩ := hQ29
      have N29 := Fr.app N28 Nq29
      show Own.Go p e below _ (T29.setTop (mkF m 239 #[.val (.int a), .val (.int b), .val (.int c0), .val (.int d), .val (.int k0), .val (.long fill), .second, .val (.int l1), .val (.int l2), .val (.int l3), .val (.int l4), .val (.int (0 : Int32)), .val (.long y10), .second, .val (.long y15), .second, .val (.ref b17), .val (.ref b22)] [(.int (if ((¬ (1 : Int32) < (0 : Int32) ∧ fill = fill) ∨ ((1 : Int32) < (0 : Int32) ∧ (l2 = 0 ∨ fill = own_ex l1 l2 l3 l4 (1 : Int32) (0 : Int32) l2))) then (1 : Int32) else 0))]))
      rw [if_pos (Or.inl ⟨by decide, rfl⟩)]
      refine Own.ifNo X29 hx (pc := 239) (hb hby at_239) (by decide) ?_
      refine Own.iconst X29 hx (pc := 242) (2 : Int32) (hb hby at_242) (by decide) ?_
      refine Own.iload X29 hx (pc := 243) (hb hby at_243) rfl ?_
      refine Own.aload X29 hx (pc := 245) (hb hby at_245) rfl rfl ?_
      refine Own.aload X29 hx (pc := 247) (hb hby at_247) rfl rfl ?_
      refine Own.lload X29 hx (pc := 249) (hb hby at_249) rfl ?_
      refine Own.callStatic X29 hx hZ (pc := 251) (y := (⟨"shortleaf/CanonicalCodeNumbersPinLaw", "ok", "(II[I[JJ)Z"⟩ : MethodName)) hown (Wd hw 13 rfl) (Wd hw 14 rfl) (Wd hw 2 rfl) (Wd hw 15 rfl) (by decide) 0 [(.int (2 : Int32)), (.int (0 : Int32)), (.ref b17), (.ref b22), (.long fill)] [] (rm3 l Z a0 hw (2 : Int32) (0 : Int32) b17 b22 fill l1 l2 l3 l4 ([(.long fill), (.long fill), (.long fill), (.long fill)]) l3 fill T27.heap n0 sz27 V_b17 V_b22 (by decide) rfl rfl) (by decide) (by decide) e29 (by rw [hml]; rfl) pd5 rfl rfl (Nat.le_of_eq rfl) (hb hby at_251) (by decide) (by decide) ?_
      intro T30 L30 v30 X30 hQ30
      obtain ⟨rfl, Nq30, e30⟩ := hQ30
      have N30 := Fr.app N29 Nq30
      show Own.Go p e below _ (T30.setTop (mkF m 254 #[.val (.int a), .val (.int b), .val (.int c0), .val (.int d), .val (.int k0), .val (.long fill), .second, .val (.int l1), .val (.int l2), .val (.int l3), .val (.int l4), .val (.int (0 : Int32)), .val (.long y10), .second, .val (.long y15), .second, .val (.ref b17), .val (.ref b22)] [(.int (if ((¬ (2 : Int32) < (0 : Int32) ∧ fill = fill) ∨ ((2 : Int32) < (0 : Int32) ∧ (l3 = 0 ∨ fill = own_ex l1 l2 l3 l4 (2 : Int32) (0 : Int32) l3))) then (1 : Int32) else 0))]))
      rw [if_pos (Or.inl ⟨by decide, rfl⟩)]
      refine Own.ifNo X30 hx (pc := 254) (hb hby at_254) (by decide) ?_
      refine Own.iconst X30 hx (pc := 257) (3 : Int32) (hb hby at_257) (by decide) ?_
      refine Own.iload X30 hx (pc := 258) (hb hby at_258) rfl ?_
      refine Own.aload X30 hx (pc := 260) (hb hby at_260) rfl rfl ?_
      refine Own.aload X30 hx (pc := 262) (hb hby at_262) rfl rfl ?_
      refine Own.lload X30 hx (pc := 264) (hb hby at_264) rfl ?_
      refine Own.callStatic X30 hx hZ (pc := 266) (y := (⟨"shortleaf/CanonicalCodeNumbersPinLaw", "ok", "(II[I[JJ)Z"⟩ : MethodName)) hown (Wd hw 13 rfl) (Wd hw 14 rfl) (Wd hw 2 rfl) (Wd hw 15 rfl) (by decide) 0 [(.int (3 : Int32)), (.int (0 : Int32)), (.ref b17), (.ref b22), (.long fill)] [] (rm3 l Z a0 hw (3 : Int32) (0 : Int32) b17 b22 fill l1 l2 l3 l4 ([(.long fill), (.long fill), (.long fill), (.long fill)]) l4 fill T27.heap n0 sz27 V_b17 V_b22 (by decide) rfl rfl) (by decide) (by decide) e30 (by rw [hml]; rfl) pd5 rfl rfl (Nat.le_of_eq rfl) (hb hby at_266) (by decide) (by decide) ?_
      intro T31 L31 v31 X31 hQ31
      obtain ⟨rfl, Nq31, e31⟩ := hQ31
      have N31 := Fr.app N30 Nq31
      show Own.Go p e below _ (T31.setTop (mkF m 269 #[.val (.int a), .val (.int b), .val (.int c0), .val (.int d), .val (.int k0), .val (.long fill), .second, .val (.int l1), .val (.int l2), .val (.int l3), .val (.int l4), .val (.int (0 : Int32)), .val (.long y10), .second, .val (.long y15), .second, .val (.ref b17), .val (.ref b22)] [(.int (if ((¬ (3 : Int32) < (0 : Int32) ∧ fill = fill) ∨ ((3 : Int32) < (0 : Int32) ∧ (l4 = 0 ∨ fill = own_ex l1 l2 l3 l4 (3 : Int32) (0 : Int32) l4))) then (1 : Int32) else 0))]))
      rw [if_pos (Or.inl ⟨by decide, rfl⟩)]
      refine Own.ifNo X31 hx (pc := 269) (hb hby at_269) (by decide) ?_
      refine Own.iconst X31 hx (pc := 272) (1 : Int32) (hb hby at_272) (by decide) ?_
      refine Own.goto X31 hx (pc := 273) 277 (hb hby at_273) (by decide) (by decide) ?_
      exact Own.ireturn X31 hx hk hret (by simp) rfl (hb hby at_277) e31 ⟨rfl, N31⟩ (by decide) (by decide)
    · refine Own.aload X26 hx (pc := 203) (hb hby at_203) rfl rfl ?_
      refine Own.iload X26 hx (pc := 205) (hb hby at_205) rfl ?_
      refine Own.aload X26 hx (pc := 207) (hb hby at_207) rfl rfl ?_
      refine Own.callStatic X26 hx hZ (pc := 209) (y := (⟨"shortleaf/CanonicalCode", "numbers", "([II[J)V"⟩ : MethodName)) hown (Wd hw 9 rfl) (Wd hw 10 rfl) (Wd hw 11 rfl) (Wd hw 12 rfl) (by decide) 0 [(.ref b17), (.int (1 : Int32)), (.ref b22)] [] (rm2_1 l Z a0 hw b17 b22 l1 l2 l3 l4 fill h26 n0 sz26 V_b17 V_b22 ge_b22 ne_b17_b22 hl0 hl1 hl2 hl3) (by decide) (by decide) e26 (by rw [hml]; rfl) pd4 rfl rfl (Nat.le_of_eq rfl) (hb hby at_209) (by decide) (by decide) ?_
      intro T32 L32 v32 X32 hQ32
      obtain ⟨rfl, Nq32, K32, V_b22'⟩ := hQ32
      have e32 : T32.heap = T32.heap := rfl
      have V_b17 := V_b17.keep K32 (ninS ne_b17_b22 nin0)
      have sz32 : n0 ≤ T32.heap.size := Nat.le_trans sz26 K32.1
      have V_b22 := V_b22'
      have N32 := Fr.app N26 Nq32
      show Own.Go p e below _ (T32.setTop (mkF m 212 #[.val (.int a), .val (.int b), .val (.int c0), .val (.int d), .val (.int k0), .val (.long fill), .second, .val (.int l1), .val (.int l2), .val (.int l3), .val (.int l4), .val (.int (1 : Int32)), .val (.long y10), .second, .val (.long y15), .second, .val (.ref b17), .val (.ref b22)] []))
      refine Own.iconst X32 hx (pc := 212) (0 : Int32) (hb hby at_212) (by decide) ?_
      refine Own.iload X32 hx (pc := 213) (hb hby at_213) rfl ?_
      refine Own.aload X32 hx (pc := 215) (hb hby at_215) rfl rfl ?_
      refine Own.aload X32 hx (pc := 217) (hb hby at_217) rfl rfl ?_
      refine Own.lload X32 hx (pc := 219) (hb hby at_219) rfl ?_
      refine Own.callStatic X32 hx hZ (pc := 221) (y := (⟨"shortleaf/CanonicalCodeNumbersPinLaw", "ok", "(II[I[JJ)Z"⟩ : MethodName)) hown (Wd hw 13 rfl) (Wd hw 14 rfl) (Wd hw 2 rfl) (Wd hw 15 rfl) (by decide) 0 [(.int (0 : Int32)), (.int (1 : Int32)), (.ref b17), (.ref b22), (.long fill)] [] (rm3 l Z a0 hw (0 : Int32) (1 : Int32) b17 b22 fill l1 l2 l3 l4 ([(.long ((own_mid (own_up (fun _ => 0) l1.toNatClampNeg) 63) l1.toNatClampNeg)), (.long fill), (.long fill), (.long fill)]) l1 ((own_mid (own_up (fun _ => 0) l1.toNatClampNeg) 63) l1.toNatClampNeg) T32.heap n0 sz32 V_b17 V_b22 (by decide) rfl rfl) (by decide) (by decide) e32 (by rw [hml]; rfl) pd5 rfl rfl (Nat.le_of_eq rfl) (hb hby at_221) (by decide) (by decide) ?_
      intro T33 L33 v33 X33 hQ33
      obtain ⟨rfl, Nq33, e33⟩ := hQ33
      have N33 := Fr.app N32 Nq33
      show Own.Go p e below _ (T33.setTop (mkF m 224 #[.val (.int a), .val (.int b), .val (.int c0), .val (.int d), .val (.int k0), .val (.long fill), .second, .val (.int l1), .val (.int l2), .val (.int l3), .val (.int l4), .val (.int (1 : Int32)), .val (.long y10), .second, .val (.long y15), .second, .val (.ref b17), .val (.ref b22)] [(.int (if ((¬ (0 : Int32) < (1 : Int32) ∧ ((own_mid (own_up (fun _ => 0) l1.toNatClampNeg) 63) l1.toNatClampNeg) = fill) ∨ ((0 : Int32) < (1 : Int32) ∧ (l1 = 0 ∨ ((own_mid (own_up (fun _ => 0) l1.toNatClampNeg) 63) l1.toNatClampNeg) = own_ex l1 l2 l3 l4 (0 : Int32) (1 : Int32) l1))) then (1 : Int32) else 0))]))
      rw [if_pos (Or.inr ⟨by decide, own_num1_0 _ _ _ _ hl0 hl1 hl2 hl3⟩)]
      refine Own.ifNo X33 hx (pc := 224) (hb hby at_224) (by decide) ?_
      refine Own.iconst X33 hx (pc := 227) (1 : Int32) (hb hby at_227) (by decide) ?_
      refine Own.iload X33 hx (pc := 228) (hb hby at_228) rfl ?_
      refine Own.aload X33 hx (pc := 230) (hb hby at_230) rfl rfl ?_
      refine Own.aload X33 hx (pc := 232) (hb hby at_232) rfl rfl ?_
      refine Own.lload X33 hx (pc := 234) (hb hby at_234) rfl ?_
      refine Own.callStatic X33 hx hZ (pc := 236) (y := (⟨"shortleaf/CanonicalCodeNumbersPinLaw", "ok", "(II[I[JJ)Z"⟩ : MethodName)) hown (Wd hw 13 rfl) (Wd hw 14 rfl) (Wd hw 2 rfl) (Wd hw 15 rfl) (by decide) 0 [(.int (1 : Int32)), (.int (1 : Int32)), (.ref b17), (.ref b22), (.long fill)] [] (rm3 l Z a0 hw (1 : Int32) (1 : Int32) b17 b22 fill l1 l2 l3 l4 ([(.long ((own_mid (own_up (fun _ => 0) l1.toNatClampNeg) 63) l1.toNatClampNeg)), (.long fill), (.long fill), (.long fill)]) l2 fill T32.heap n0 sz32 V_b17 V_b22 (by decide) rfl rfl) (by decide) (by decide) e33 (by rw [hml]; rfl) pd5 rfl rfl (Nat.le_of_eq rfl) (hb hby at_236) (by decide) (by decide) ?_
      intro T34 L34 v34 X34 hQ34
      obtain ⟨rfl, Nq34, e34⟩ := hQ34
      have N34 := Fr.app N33 Nq34
      show Own.Go p e below _ (T34.setTop (mkF m 239 #[.val (.int a), .val (.int b), .val (.int c0), .val (.int d), .val (.int k0), .val (.long fill), .second, .val (.int l1), .val (.int l2), .val (.int l3), .val (.int l4), .val (.int (1 : Int32)), .val (.long y10), .second, .val (.long y15), .second, .val (.ref b17), .val (.ref b22)] [(.int (if ((¬ (1 : Int32) < (1 : Int32) ∧ fill = fill) ∨ ((1 : Int32) < (1 : Int32) ∧ (l2 = 0 ∨ fill = own_ex l1 l2 l3 l4 (1 : Int32) (1 : Int32) l2))) then (1 : Int32) else 0))]))
      rw [if_pos (Or.inl ⟨by decide, rfl⟩)]
      refine Own.ifNo X34 hx (pc := 239) (hb hby at_239) (by decide) ?_
      refine Own.iconst X34 hx (pc := 242) (2 : Int32) (hb hby at_242) (by decide) ?_
      refine Own.iload X34 hx (pc := 243) (hb hby at_243) rfl ?_
      refine Own.aload X34 hx (pc := 245) (hb hby at_245) rfl rfl ?_
      refine Own.aload X34 hx (pc := 247) (hb hby at_247) rfl rfl ?_
      refine Own.lload X34 hx (pc := 249) (hb hby at_249) rfl ?_
      refine Own.callStatic X34 hx hZ (pc := 251) (y := (⟨"shortleaf/CanonicalCodeNumbersPinLaw", "ok", "(II[I[JJ)Z"⟩ : MethodName)) hown (Wd hw 13 rfl) (Wd hw 14 rfl) (Wd hw 2 rfl) (Wd hw 15 rfl) (by decide) 0 [(.int (2 : Int32)), (.int (1 : Int32)), (.ref b17), (.ref b22), (.long fill)] [] (rm3 l Z a0 hw (2 : Int32) (1 : Int32) b17 b22 fill l1 l2 l3 l4 ([(.long ((own_mid (own_up (fun _ => 0) l1.toNatClampNeg) 63) l1.toNatClampNeg)), (.long fill), (.long fill), (.long fill)]) l3 fill T32.heap n0 sz32 V_b17 V_b22 (by decide) rfl rfl) (by decide) (by decide) e34 (by rw [hml]; rfl) pd5 rfl rfl (Nat.le_of_eq rfl) (hb hby at_251) (by decide) (by decide) ?_
      intro T35 L35 v35 X35 hQ35
      obtain ⟨rfl, Nq35, e35⟩ := hQ35
      have N35 := Fr.app N34 Nq35
      show Own.Go p e below _ (T35.setTop (mkF m 254 #[.val (.int a), .val (.int b), .val (.int c0), .val (.int d), .val (.int k0), .val (.long fill), .second, .val (.int l1), .val (.int l2), .val (.int l3), .val (.int l4), .val (.int (1 : Int32)), .val (.long y10), .second, .val (.long y15), .second, .val (.ref b17), .val (.ref b22)] [(.int (if ((¬ (2 : Int32) < (1 : Int32) ∧ fill = fill) ∨ ((2 : Int32) < (1 : Int32) ∧ (l3 = 0 ∨ fill = own_ex l1 l2 l3 l4 (2 : Int32) (1 : Int32) l3))) then (1 : Int32) else 0))]))
      rw [if_pos (Or.inl ⟨by decide, rfl⟩)]
      refine Own.ifNo X35 hx (pc := 254) (hb hby at_254) (by decide) ?_
      refine Own.iconst X35 hx (pc := 257) (3 : Int32) (hb hby at_257) (by decide) ?_
      refine Own.iload X35 hx (pc := 258) (hb hby at_258) rfl ?_
      refine Own.aload X35 hx (pc := 260) (hb hby at_260) rfl rfl ?_
      refine Own.aload X35 hx (pc := 262) (hb hby at_262) rfl rfl ?_
      refine Own.lload X35 hx (pc := 264) (hb hby at_264) rfl ?_
      refine Own.callStatic X35 hx hZ (pc := 266) (y := (⟨"shortleaf/CanonicalCodeNumbersPinLaw", "ok", "(II[I[JJ)Z"⟩ : MethodName)) hown (Wd hw 13 rfl) (Wd hw 14 rfl) (Wd hw 2 rfl) (Wd hw 15 rfl) (by decide) 0 [(.int (3 : Int32)), (.int (1 : Int32)), (.ref b17), (.ref b22), (.long fill)] [] (rm3 l Z a0 hw (3 : Int32) (1 : Int32) b17 b22 fill l1 l2 l3 l4 ([(.long ((own_mid (own_up (fun _ => 0) l1.toNatClampNeg) 63) l1.toNatClampNeg)), (.long fill), (.long fill), (.long fill)]) l4 fill T32.heap n0 sz32 V_b17 V_b22 (by decide) rfl rfl) (by decide) (by decide) e35 (by rw [hml]; rfl) pd5 rfl rfl (Nat.le_of_eq rfl) (hb hby at_266) (by decide) (by decide) ?_
      intro T36 L36 v36 X36 hQ36
      obtain ⟨rfl, Nq36, e36⟩ := hQ36
      have N36 := Fr.app N35 Nq36
      show Own.Go p e below _ (T36.setTop (mkF m 269 #[.val (.int a), .val (.int b), .val (.int c0), .val (.int d), .val (.int k0), .val (.long fill), .second, .val (.int l1), .val (.int l2), .val (.int l3), .val (.int l4), .val (.int (1 : Int32)), .val (.long y10), .second, .val (.long y15), .second, .val (.ref b17), .val (.ref b22)] [(.int (if ((¬ (3 : Int32) < (1 : Int32) ∧ fill = fill) ∨ ((3 : Int32) < (1 : Int32) ∧ (l4 = 0 ∨ fill = own_ex l1 l2 l3 l4 (3 : Int32) (1 : Int32) l4))) then (1 : Int32) else 0))]))
      rw [if_pos (Or.inl ⟨by decide, rfl⟩)]
      refine Own.ifNo X36 hx (pc := 269) (hb hby at_269) (by decide) ?_
      refine Own.iconst X36 hx (pc := 272) (1 : Int32) (hb hby at_272) (by decide) ?_
      refine Own.goto X36 hx (pc := 273) 277 (hb hby at_273) (by decide) (by decide) ?_
      exact Own.ireturn X36 hx hk hret (by simp) rfl (hb hby at_277) e36 ⟨rfl, N36⟩ (by decide) (by decide)
    · refine Own.aload X26 hx (pc := 203) (hb hby at_203) rfl rfl ?_
      refine Own.iload X26 hx (pc := 205) (hb hby at_205) rfl ?_
      refine Own.aload X26 hx (pc := 207) (hb hby at_207) rfl rfl ?_
      refine Own.callStatic X26 hx hZ (pc := 209) (y := (⟨"shortleaf/CanonicalCode", "numbers", "([II[J)V"⟩ : MethodName)) hown (Wd hw 9 rfl) (Wd hw 10 rfl) (Wd hw 11 rfl) (Wd hw 12 rfl) (by decide) 0 [(.ref b17), (.int (2 : Int32)), (.ref b22)] [] (rm2_2 l Z a0 hw b17 b22 l1 l2 l3 l4 fill h26 n0 sz26 V_b17 V_b22 ge_b22 ne_b17_b22 hl0 hl1 hl2 hl3) (by decide) (by decide) e26 (by rw [hml]; rfl) pd4 rfl rfl (Nat.le_of_eq rfl) (hb hby at_209) (by decide) (by decide) ?_
      intro T37 L37 v37 X37 hQ37
      obtain ⟨rfl, Nq37, K37, V_b22'⟩ := hQ37
      have e37 : T37.heap = T37.heap := rfl
      have V_b17 := V_b17.keep K37 (ninS ne_b17_b22 nin0)
      have sz37 : n0 ≤ T37.heap.size := Nat.le_trans sz26 K37.1
      have V_b22 := V_b22'
      have N37 := Fr.app N26 Nq37
      show Own.Go p e below _ (T37.setTop (mkF m 212 #[.val (.int a), .val (.int b), .val (.int c0), .val (.int d), .val (.int k0), .val (.long fill), .second, .val (.int l1), .val (.int l2), .val (.int l3), .val (.int l4), .val (.int (2 : Int32)), .val (.long y10), .second, .val (.long y15), .second, .val (.ref b17), .val (.ref b22)] []))
      refine Own.iconst X37 hx (pc := 212) (0 : Int32) (hb hby at_212) (by decide) ?_
      refine Own.iload X37 hx (pc := 213) (hb hby at_213) rfl ?_
      refine Own.aload X37 hx (pc := 215) (hb hby at_215) rfl rfl ?_
      refine Own.aload X37 hx (pc := 217) (hb hby at_217) rfl rfl ?_
      refine Own.lload X37 hx (pc := 219) (hb hby at_219) rfl ?_
      refine Own.callStatic X37 hx hZ (pc := 221) (y := (⟨"shortleaf/CanonicalCodeNumbersPinLaw", "ok", "(II[I[JJ)Z"⟩ : MethodName)) hown (Wd hw 13 rfl) (Wd hw 14 rfl) (Wd hw 2 rfl) (Wd hw 15 rfl) (by decide) 0 [(.int (0 : Int32)), (.int (2 : Int32)), (.ref b17), (.ref b22), (.long fill)] [] (rm3 l Z a0 hw (0 : Int32) (2 : Int32) b17 b22 fill l1 l2 l3 l4 ([(.long ((own_mid (own_up (own_up (fun _ => 0) l1.toNatClampNeg) l2.toNatClampNeg) 63) l1.toNatClampNeg)), (.long ((own_up (own_mid (own_up (own_up (fun _ => 0) l1.toNatClampNeg) l2.toNatClampNeg) 63) l1.toNatClampNeg) l2.toNatClampNeg)), (.long fill), (.long fill)]) l1 ((own_mid (own_up (own_up (fun _ => 0) l1.toNatClampNeg) l2.toNatClampNeg) 63) l1.toNatClampNeg) T37.heap n0 sz37 V_b17 V_b22 (by decide) rfl rfl) (by decide) (by decide) e37 (by rw [hml]; rfl) pd5 rfl rfl (Nat.le_of_eq rfl) (hb hby at_221) (by decide) (by decide) ?_
      intro T38 L38 v38 X38 hQ38
      obtain ⟨rfl, Nq38, e38⟩ := hQ38
      have N38 := Fr.app N37 Nq38
      show Own.Go p e below _ (T38.setTop (mkF m 224 #[.val (.int a), .val (.int b), .val (.int c0), .val (.int d), .val (.int k0), .val (.long fill), .second, .val (.int l1), .val (.int l2), .val (.int l3), .val (.int l4), .val (.int (2 : Int32)), .val (.long y10), .second, .val (.long y15), .second, .val (.ref b17), .val (.ref b22)] [(.int (if ((¬ (0 : Int32) < (2 : Int32) ∧ ((own_mid (own_up (own_up (fun _ => 0) l1.toNatClampNeg) l2.toNatClampNeg) 63) l1.toNatClampNeg) = fill) ∨ ((0 : Int32) < (2 : Int32) ∧ (l1 = 0 ∨ ((own_mid (own_up (own_up (fun _ => 0) l1.toNatClampNeg) l2.toNatClampNeg) 63) l1.toNatClampNeg) = own_ex l1 l2 l3 l4 (0 : Int32) (2 : Int32) l1))) then (1 : Int32) else 0))]))
      rw [if_pos (Or.inr ⟨by decide, own_num2_0 _ _ _ _ hl0 hl1 hl2 hl3⟩)]
      refine Own.ifNo X38 hx (pc := 224) (hb hby at_224) (by decide) ?_
      refine Own.iconst X38 hx (pc := 227) (1 : Int32) (hb hby at_227) (by decide) ?_
      refine Own.iload X38 hx (pc := 228) (hb hby at_228) rfl ?_
      refine Own.aload X38 hx (pc := 230) (hb hby at_230) rfl rfl ?_
      refine Own.aload X38 hx (pc := 232) (hb hby at_232) rfl rfl ?_
      refine Own.lload X38 hx (pc := 234) (hb hby at_234) rfl ?_
      refine Own.callStatic X38 hx hZ (pc := 236) (y := (⟨"shortleaf/CanonicalCodeNumbersPinLaw", "ok", "(II[I[JJ)Z"⟩ : MethodName)) hown (Wd hw 13 rfl) (Wd hw 14 rfl) (Wd hw 2 rfl) (Wd hw 15 rfl) (by decide) 0 [(.int (1 : Int32)), (.int (2 : Int32)), (.ref b17), (.ref b22), (.long fill)] [] (rm3 l Z a0 hw (1 : Int32) (2 : Int32) b17 b22 fill l1 l2 l3 l4 ([(.long ((own_mid (own_up (own_up (fun _ => 0) l1.toNatClampNeg) l2.toNatClampNeg) 63) l1.toNatClampNeg)), (.long ((own_up (own_mid (own_up (own_up (fun _ => 0) l1.toNatClampNeg) l2.toNatClampNeg) 63) l1.toNatClampNeg) l2.toNatClampNeg)), (.long fill), (.long fill)]) l2 ((own_up (own_mid (own_up (own_up (fun _ => 0) l1.toNatClampNeg) l2.toNatClampNeg) 63) l1.toNatClampNeg) l2.toNatClampNeg) T37.heap n0 sz37 V_b17 V_b22 (by decide) rfl rfl) (by decide) (by decide) e38 (by rw [hml]; rfl) pd5 rfl rfl (Nat.le_of_eq rfl) (hb hby at_236) (by decide) (by decide) ?_
      intro T39 L39 v39 X39 hQ39
      obtain ⟨rfl, Nq39, e39⟩ := hQ39
      have N39 := Fr.app N38 Nq39
      show Own.Go p e below _ (T39.setTop (mkF m 239 #[.val (.int a), .val (.int b), .val (.int c0), .val (.int d), .val (.int k0), .val (.long fill), .second, .val (.int l1), .val (.int l2), .val (.int l3), .val (.int l4), .val (.int (2 : Int32)), .val (.long y10), .second, .val (.long y15), .second, .val (.ref b17), .val (.ref b22)] [(.int (if ((¬ (1 : Int32) < (2 : Int32) ∧ ((own_up (own_mid (own_up (own_up (fun _ => 0) l1.toNatClampNeg) l2.toNatClampNeg) 63) l1.toNatClampNeg) l2.toNatClampNeg) = fill) ∨ ((1 : Int32) < (2 : Int32) ∧ (l2 = 0 ∨ ((own_up (own_mid (own_up (own_up (fun _ => 0) l1.toNatClampNeg) l2.toNatClampNeg) 63) l1.toNatClampNeg) l2.toNatClampNeg) = own_ex l1 l2 l3 l4 (1 : Int32) (2 : Int32) l2))) then (1 : Int32) else 0))]))
      rw [if_pos (Or.inr ⟨by decide, own_num2_1 _ _ _ _ hl0 hl1 hl2 hl3⟩)]
      refine Own.ifNo X39 hx (pc := 239) (hb hby at_239) (by decide) ?_
      refine Own.iconst X39 hx (pc := 242) (2 : Int32) (hb hby at_242) (by decide) ?_
      refine Own.iload X39 hx (pc := 243) (hb hby at_243) rfl ?_
      refine Own.aload X39 hx (pc := 245) (hb hby at_245) rfl rfl ?_
      refine Own.aload X39 hx (pc := 247) (hb hby at_247) rfl rfl ?_
      refine Own.lload X39 hx (pc := 249) (hb hby at_249) rfl ?_
      refine Own.callStatic X39 hx hZ (pc := 251) (y := (⟨"shortleaf/CanonicalCodeNumbersPinLaw", "ok", "(II[I[JJ)Z"⟩ : MethodName)) hown (Wd hw 13 rfl) (Wd hw 14 rfl) (Wd hw 2 rfl) (Wd hw 15 rfl) (by decide) 0 [(.int (2 : Int32)), (.int (2 : Int32)), (.ref b17), (.ref b22), (.long fill)] [] (rm3 l Z a0 hw (2 : Int32) (2 : Int32) b17 b22 fill l1 l2 l3 l4 ([(.long ((own_mid (own_up (own_up (fun _ => 0) l1.toNatClampNeg) l2.toNatClampNeg) 63) l1.toNatClampNeg)), (.long ((own_up (own_mid (own_up (own_up (fun _ => 0) l1.toNatClampNeg) l2.toNatClampNeg) 63) l1.toNatClampNeg) l2.toNatClampNeg)), (.long fill), (.long fill)]) l3 fill T37.heap n0 sz37 V_b17 V_b22 (by decide) rfl rfl) (by decide) (by decide) e39 (by rw [hml]; rfl) pd5 rfl rfl (Nat.le_of_eq rfl) (hb hby at_251) (by decide) (by decide) ?_
      intro T40 L40 v40 X40 hQ40
      obtain ⟨rfl, Nq40, e40⟩ := hQ40
      have N40 := Fr.app N39 Nq40
      show Own.Go p e below _ (T40.setTop (mkF m 254 #[.val (.int a), .val (.int b), .val (.int c0), .val (.int d), .val (.int k0), .val (.long fill), .second, .val (.int l1), .val (.int l2), .val (.int l3), .val (.int l4), .val (.int (2 : Int32)), .val (.long y10), .second, .val (.long y15), .second, .val (.ref b17), .val (.ref b22)] [(.int (if ((¬ (2 : Int32) < (2 : Int32) ∧ fill = fill) ∨ ((2 : Int32) < (2 : Int32) ∧ (l3 = 0 ∨ fill = own_ex l1 l2 l3 l4 (2 : Int32) (2 : Int32) l3))) then (1 : Int32) else 0))]))
      rw [if_pos (Or.inl ⟨by decide, rfl⟩)]
      refine Own.ifNo X40 hx (pc := 254) (hb hby at_254) (by decide) ?_
      refine Own.iconst X40 hx (pc := 257) (3 : Int32) (hb hby at_257) (by decide) ?_
      refine Own.iload X40 hx (pc := 258) (hb hby at_258) rfl ?_
      refine Own.aload X40 hx (pc := 260) (hb hby at_260) rfl rfl ?_
      refine Own.aload X40 hx (pc := 262) (hb hby at_262) rfl rfl ?_
      refine Own.lload X40 hx (pc := 264) (hb hby at_264) rfl ?_
      refine Own.callStatic X40 hx hZ (pc := 266) (y := (⟨"shortleaf/CanonicalCodeNumbersPinLaw", "ok", "(II[I[JJ)Z"⟩ : MethodName)) hown (Wd hw 13 rfl) (Wd hw 14 rfl) (Wd hw 2 rfl) (Wd hw 15 rfl) (by decide) 0 [(.int (3 : Int32)), (.int (2 : Int32)), (.ref b17), (.ref b22), (.long fill)] [] (rm3 l Z a0 hw (3 : Int32) (2 : Int32) b17 b22 fill l1 l2 l3 l4 ([(.long ((own_mid (own_up (own_up (fun _ => 0) l1.toNatClampNeg) l2.toNatClampNeg) 63) l1.toNatClampNeg)), (.long ((own_up (own_mid (own_up (own_up (fun _ => 0) l1.toNatClampNeg) l2.toNatClampNeg) 63) l1.toNatClampNeg) l2.toNatClampNeg)), (.long fill), (.long fill)]) l4 fill T37.heap n0 sz37 V_b17 V_b22 (by decide) rfl rfl) (by decide) (by decide) e40 (by rw [hml]; rfl) pd5 rfl rfl (Nat.le_of_eq rfl) (hb hby at_266) (by decide) (by decide) ?_
      intro T41 L41 v41 X41 hQ41
      obtain ⟨rfl, Nq41, e41⟩ := hQ41
      have N41 := Fr.app N40 Nq41
      show Own.Go p e below _ (T41.setTop (mkF m 269 #[.val (.int a), .val (.int b), .val (.int c0), .val (.int d), .val (.int k0), .val (.long fill), .second, .val (.int l1), .val (.int l2), .val (.int l3), .val (.int l4), .val (.int (2 : Int32)), .val (.long y10), .second, .val (.long y15), .second, .val (.ref b17), .val (.ref b22)] [(.int (if ((¬ (3 : Int32) < (2 : Int32) ∧ fill = fill) ∨ ((3 : Int32) < (2 : Int32) ∧ (l4 = 0 ∨ fill = own_ex l1 l2 l3 l4 (3 : Int32) (2 : Int32) l4))) then (1 : Int32) else 0))]))
      rw [if_pos (Or.inl ⟨by decide, rfl⟩)]
      refine Own.ifNo X41 hx (pc := 269) (hb hby at_269) (by decide) ?_
      refine Own.iconst X41 hx (pc := 272) (1 : Int32) (hb hby at_272) (by decide) ?_
      refine Own.goto X41 hx (pc := 273) 277 (hb hby at_273) (by decide) (by decide) ?_
      exact Own.ireturn X41 hx hk hret (by simp) rfl (hb hby at_277) e41 ⟨rfl, N41⟩ (by decide) (by decide)
    · refine Own.aload X26 hx (pc := 203) (hb hby at_203) rfl rfl ?_
      refine Own.iload X26 hx (pc := 205) (hb hby at_205) rfl ?_
      refine Own.aload X26 hx (pc := 207) (hb hby at_207) rfl rfl ?_
      refine Own.callStatic X26 hx hZ (pc := 209) (y := (⟨"shortleaf/CanonicalCode", "numbers", "([II[J)V"⟩ : MethodName)) hown (Wd hw 9 rfl) (Wd hw 10 rfl) (Wd hw 11 rfl) (Wd hw 12 rfl) (by decide) 0 [(.ref b17), (.int (3 : Int32)), (.ref b22)] [] (rm2_3 l Z a0 hw b17 b22 l1 l2 l3 l4 fill h26 n0 sz26 V_b17 V_b22 ge_b22 ne_b17_b22 hl0 hl1 hl2 hl3) (by decide) (by decide) e26 (by rw [hml]; rfl) pd4 rfl rfl (Nat.le_of_eq rfl) (hb hby at_209) (by decide) (by decide) ?_
      intro T42 L42 v42 X42 hQ42
      obtain ⟨rfl, Nq42, K42, V_b22'⟩ := hQ42
      have e42 : T42.heap = T42.heap := rfl
      have V_b17 := V_b17.keep K42 (ninS ne_b17_b22 nin0)
      have sz42 : n0 ≤ T42.heap.size := Nat.le_trans sz26 K42.1
      have V_b22 := V_b22'
      have N42 := Fr.app N26 Nq42
      show Own.Go p e below _ (T42.setTop (mkF m 212 #[.val (.int a), .val (.int b), .val (.int c0), .val (.int d), .val (.int k0), .val (.long fill), .second, .val (.int l1), .val (.int l2), .val (.int l3), .val (.int l4), .val (.int (3 : Int32)), .val (.long y10), .second, .val (.long y15), .second, .val (.ref b17), .val (.ref b22)] []))
      refine Own.iconst X42 hx (pc := 212) (0 : Int32) (hb hby at_212) (by decide) ?_
      refine Own.iload X42 hx (pc := 213) (hb hby at_213) rfl ?_
      refine Own.aload X42 hx (pc := 215) (hb hby at_215) rfl rfl ?_
      refine Own.aload X42 hx (pc := 217) (hb hby at_217) rfl rfl ?_
      refine Own.lload X42 hx (pc := 219) (hb hby at_219) rfl ?_
      refine Own.callStatic X42 hx hZ (pc := 221) (y := (⟨"shortleaf/CanonicalCodeNumbersPinLaw", "ok", "(II[I[JJ)Z"⟩ : MethodName)) hown (Wd hw 13 rfl) (Wd hw 14 rfl) (Wd hw 2 rfl) (Wd hw 15 rfl) (by decide) 0 [(.int (0 : Int32)), (.int (3 : Int32)), (.ref b17), (.ref b22), (.long fill)] [] (rm3 l Z a0 hw (0 : Int32) (3 : Int32) b17 b22 fill l1 l2 l3 l4 ([(.long ((own_mid (own_up (own_up (own_up (fun _ => 0) l1.toNatClampNeg) l2.toNatClampNeg) l3.toNatClampNeg) 63) l1.toNatClampNeg)), (.long ((own_up (own_mid (own_up (own_up (own_up (fun _ => 0) l1.toNatClampNeg) l2.toNatClampNeg) l3.toNatClampNeg) 63) l1.toNatClampNeg) l2.toNatClampNeg)), (.long ((own_up (own_up (own_mid (own_up (own_up (own_up (fun _ => 0) l1.toNatClampNeg) l2.toNatClampNeg) l3.toNatClampNeg) 63) l1.toNatClampNeg) l2.toNatClampNeg) l3.toNatClampNeg)), (.long fill)]) l1 ((own_mid (own_up (own_up (own_up (fun _ => 0) l1.toNatClampNeg) l2.toNatClampNeg) l3.toNatClampNeg) 63) l1.toNatClampNeg) T42.heap n0 sz42 V_b17 V_b22 (by decide) rfl rfl) (by decide) (by decide) e42 (by rw [hml]; rfl) pd5 rfl rfl (Nat.le_of_eq rfl) (hb hby at_221) (by decide) (by decide) ?_
      intro T43 L43 v43 X43 hQ43
      obtain ⟨rfl, Nq43, e43⟩ := hQ43
      have N43 := Fr.app N42 Nq43
      show Own.Go p e below _ (T43.setTop (mkF m 224 #[.val (.int a), .val (.int b), .val (.int c0), .val (.int d), .val (.int k0), .val (.long fill), .second, .val (.int l1), .val (.int l2), .val (.int l3), .val (.int l4), .val (.int (3 : Int32)), .val (.long y10), .second, .val (.long y15), .second, .val (.ref b17), .val (.ref b22)] [(.int (if ((¬ (0 : Int32) < (3 : Int32) ∧ ((own_mid (own_up (own_up (own_up (fun _ => 0) l1.toNatClampNeg) l2.toNatClampNeg) l3.toNatClampNeg) 63) l1.toNatClampNeg) = fill) ∨ ((0 : Int32) < (3 : Int32) ∧ (l1 = 0 ∨ ((own_mid (own_up (own_up (own_up (fun _ => 0) l1.toNatClampNeg) l2.toNatClampNeg) l3.toNatClampNeg) 63) l1.toNatClampNeg) = own_ex l1 l2 l3 l4 (0 : Int32) (3 : Int32) l1))) then (1 : Int32) else 0))]))
      rw [if_pos (Or.inr ⟨by decide, own_num3_0 _ _ _ _ hl0 hl1 hl2 hl3⟩)]
      refine Own.ifNo X43 hx (pc := 224) (hb hby at_224) (by decide) ?_
      refine Own.iconst X43 hx (pc := 227) (1 : Int32) (hb hby at_227) (by decide) ?_
      refine Own.iload X43 hx (pc := 228) (hb hby at_228) rfl ?_
      refine Own.aload X43 hx (pc := 230) (hb hby at_230) rfl rfl ?_
      refine Own.aload X43 hx (pc := 232) (hb hby at_232) rfl rfl ?_
      refine Own.lload X43 hx (pc := 234) (hb hby at_234) rfl ?_
      refine Own.callStatic X43 hx hZ (pc := 236) (y := (⟨"shortleaf/CanonicalCodeNumbersPinLaw", "ok", "(II[I[JJ)Z"⟩ : MethodName)) hown (Wd hw 13 rfl) (Wd hw 14 rfl) (Wd hw 2 rfl) (Wd hw 15 rfl) (by decide) 0 [(.int (1 : Int32)), (.int (3 : Int32)), (.ref b17), (.ref b22), (.long fill)] [] (rm3 l Z a0 hw (1 : Int32) (3 : Int32) b17 b22 fill l1 l2 l3 l4 ([(.long ((own_mid (own_up (own_up (own_up (fun _ => 0) l1.toNatClampNeg) l2.toNatClampNeg) l3.toNatClampNeg) 63) l1.toNatClampNeg)), (.long ((own_up (own_mid (own_up (own_up (own_up (fun _ => 0) l1.toNatClampNeg) l2.toNatClampNeg) l3.toNatClampNeg) 63) l1.toNatClampNeg) l2.toNatClampNeg)), (.long ((own_up (own_up (own_mid (own_up (own_up (own_up (fun _ => 0) l1.toNatClampNeg) l2.toNatClampNeg) l3.toNatClampNeg) 63) l1.toNatClampNeg) l2.toNatClampNeg) l3.toNatClampNeg)), (.long fill)]) l2 ((own_up (own_mid (own_up (own_up (own_up (fun _ => 0) l1.toNatClampNeg) l2.toNatClampNeg) l3.toNatClampNeg) 63) l1.toNatClampNeg) l2.toNatClampNeg) T42.heap n0 sz42 V_b17 V_b22 (by decide) rfl rfl) (by decide) (by decide) e43 (by rw [hml]; rfl) pd5 rfl rfl (Nat.le_of_eq rfl) (hb hby at_236) (by decide) (by decide) ?_
      intro T44 L44 v44 X44 hQ44
      obtain ⟨rfl, Nq44, e44⟩ := hQ44
      have N44 := Fr.app N43 Nq44
      show Own.Go p e below _ (T44.setTop (mkF m 239 #[.val (.int a), .val (.int b), .val (.int c0), .val (.int d), .val (.int k0), .val (.long fill), .second, .val (.int l1), .val (.int l2), .val (.int l3), .val (.int l4), .val (.int (3 : Int32)), .val (.long y10), .second, .val (.long y15), .second, .val (.ref b17), .val (.ref b22)] [(.int (if ((¬ (1 : Int32) < (3 : Int32) ∧ ((own_up (own_mid (own_up (own_up (own_up (fun _ => 0) l1.toNatClampNeg) l2.toNatClampNeg) l3.toNatClampNeg) 63) l1.toNatClampNeg) l2.toNatClampNeg) = fill) ∨ ((1 : Int32) < (3 : Int32) ∧ (l2 = 0 ∨ ((own_up (own_mid (own_up (own_up (own_up (fun _ => 0) l1.toNatClampNeg) l2.toNatClampNeg) l3.toNatClampNeg) 63) l1.toNatClampNeg) l2.toNatClampNeg) = own_ex l1 l2 l3 l4 (1 : Int32) (3 : Int32) l2))) then (1 : Int32) else 0))]))
      rw [if_pos (Or.inr ⟨by decide, own_num3_1 _ _ _ _ hl0 hl1 hl2 hl3⟩)]
      refine Own.ifNo X44 hx (pc := 239) (hb hby at_239) (by decide) ?_
      refine Own.iconst X44 hx (pc := 242) (2 : Int32) (hb hby at_242) (by decide) ?_
      refine Own.iload X44 hx (pc := 243) (hb hby at_243) rfl ?_
      refine Own.aload X44 hx (pc := 245) (hb hby at_245) rfl rfl ?_
      refine Own.aload X44 hx (pc := 247) (hb hby at_247) rfl rfl ?_
      refine Own.lload X44 hx (pc := 249) (hb hby at_249) rfl ?_
      refine Own.callStatic X44 hx hZ (pc := 251) (y := (⟨"shortleaf/CanonicalCodeNumbersPinLaw", "ok", "(II[I[JJ)Z"⟩ : MethodName)) hown (Wd hw 13 rfl) (Wd hw 14 rfl) (Wd hw 2 rfl) (Wd hw 15 rfl) (by decide) 0 [(.int (2 : Int32)), (.int (3 : Int32)), (.ref b17), (.ref b22), (.long fill)] [] (rm3 l Z a0 hw (2 : Int32) (3 : Int32) b17 b22 fill l1 l2 l3 l4 ([(.long ((own_mid (own_up (own_up (own_up (fun _ => 0) l1.toNatClampNeg) l2.toNatClampNeg) l3.toNatClampNeg) 63) l1.toNatClampNeg)), (.long ((own_up (own_mid (own_up (own_up (own_up (fun _ => 0) l1.toNatClampNeg) l2.toNatClampNeg) l3.toNatClampNeg) 63) l1.toNatClampNeg) l2.toNatClampNeg)), (.long ((own_up (own_up (own_mid (own_up (own_up (own_up (fun _ => 0) l1.toNatClampNeg) l2.toNatClampNeg) l3.toNatClampNeg) 63) l1.toNatClampNeg) l2.toNatClampNeg) l3.toNatClampNeg)), (.long fill)]) l3 ((own_up (own_up (own_mid (own_up (own_up (own_up (fun _ => 0) l1.toNatClampNeg) l2.toNatClampNeg) l3.toNatClampNeg) 63) l1.toNatClampNeg) l2.toNatClampNeg) l3.toNatClampNeg) T42.heap n0 sz42 V_b17 V_b22 (by decide) rfl rfl) (by decide) (by decide) e44 (by rw [hml]; rfl) pd5 rfl rfl (Nat.le_of_eq rfl) (hb hby at_251) (by decide) (by decide) ?_
      intro T45 L45 v45 X45 hQ45
      obtain ⟨rfl, Nq45, e45⟩ := hQ45
      have N45 := Fr.app N44 Nq45
      show Own.Go p e below _ (T45.setTop (mkF m 254 #[.val (.int a), .val (.int b), .val (.int c0), .val (.int d), .val (.int k0), .val (.long fill), .second, .val (.int l1), .val (.int l2), .val (.int l3), .val (.int l4), .val (.int (3 : Int32)), .val (.long y10), .second, .val (.long y15), .second, .val (.ref b17), .val (.ref b22)] [(.int (if ((¬ (2 : Int32) < (3 : Int32) ∧ ((own_up (own_up (own_mid (own_up (own_up (own_up (fun _ => 0) l1.toNatClampNeg) l2.toNatClampNeg) l3.toNatClampNeg) 63) l1.toNatClampNeg) l2.toNatClampNeg) l3.toNatClampNeg) = fill) ∨ ((2 : Int32) < (3 : Int32) ∧ (l3 = 0 ∨ ((own_up (own_up (own_mid (own_up (own_up (own_up (fun _ => 0) l1.toNatClampNeg) l2.toNatClampNeg) l3.toNatClampNeg) 63) l1.toNatClampNeg) l2.toNatClampNeg) l3.toNatClampNeg) = own_ex l1 l2 l3 l4 (2 : Int32) (3 : Int32) l3))) then (1 : Int32) else 0))]))
      rw [if_pos (Or.inr ⟨by decide, own_num3_2 _ _ _ _ hl0 hl1 hl2 hl3⟩)]
      refine Own.ifNo X45 hx (pc := 254) (hb hby at_254) (by decide) ?_
      refine Own.iconst X45 hx (pc := 257) (3 : Int32) (hb hby at_257) (by decide) ?_
      refine Own.iload X45 hx (pc := 258) (hb hby at_258) rfl ?_
      refine Own.aload X45 hx (pc := 260) (hb hby at_260) rfl rfl ?_
      refine Own.aload X45 hx (pc := 262) (hb hby at_262) rfl rfl ?_
      refine Own.lload X45 hx (pc := 264) (hb hby at_264) rfl ?_
      refine Own.callStatic X45 hx hZ (pc := 266) (y := (⟨"shortleaf/CanonicalCodeNumbersPinLaw", "ok", "(II[I[JJ)Z"⟩ : MethodName)) hown (Wd hw 13 rfl) (Wd hw 14 rfl) (Wd hw 2 rfl) (Wd hw 15 rfl) (by decide) 0 [(.int (3 : Int32)), (.int (3 : Int32)), (.ref b17), (.ref b22), (.long fill)] [] (rm3 l Z a0 hw (3 : Int32) (3 : Int32) b17 b22 fill l1 l2 l3 l4 ([(.long ((own_mid (own_up (own_up (own_up (fun _ => 0) l1.toNatClampNeg) l2.toNatClampNeg) l3.toNatClampNeg) 63) l1.toNatClampNeg)), (.long ((own_up (own_mid (own_up (own_up (own_up (fun _ => 0) l1.toNatClampNeg) l2.toNatClampNeg) l3.toNatClampNeg) 63) l1.toNatClampNeg) l2.toNatClampNeg)), (.long ((own_up (own_up (own_mid (own_up (own_up (own_up (fun _ => 0) l1.toNatClampNeg) l2.toNatClampNeg) l3.toNatClampNeg) 63) l1.toNatClampNeg) l2.toNatClampNeg) l3.toNatClampNeg)), (.long fill)]) l4 fill T42.heap n0 sz42 V_b17 V_b22 (by decide) rfl rfl) (by decide) (by decide) e45 (by rw [hml]; rfl) pd5 rfl rfl (Nat.le_of_eq rfl) (hb hby at_266) (by decide) (by decide) ?_
      intro T46 L46 v46 X46 hQ46
      obtain ⟨rfl, Nq46, e46⟩ := hQ46
      have N46 := Fr.app N45 Nq46
      show Own.Go p e below _ (T46.setTop (mkF m 269 #[.val (.int a), .val (.int b), .val (.int c0), .val (.int d), .val (.int k0), .val (.long fill), .second, .val (.int l1), .val (.int l2), .val (.int l3), .val (.int l4), .val (.int (3 : Int32)), .val (.long y10), .second, .val (.long y15), .second, .val (.ref b17), .val (.ref b22)] [(.int (if ((¬ (3 : Int32) < (3 : Int32) ∧ fill = fill) ∨ ((3 : Int32) < (3 : Int32) ∧ (l4 = 0 ∨ fill = own_ex l1 l2 l3 l4 (3 : Int32) (3 : Int32) l4))) then (1 : Int32) else 0))]))
      rw [if_pos (Or.inl ⟨by decide, rfl⟩)]
      refine Own.ifNo X46 hx (pc := 269) (hb hby at_269) (by decide) ?_
      refine Own.iconst X46 hx (pc := 272) (1 : Int32) (hb hby at_272) (by decide) ?_
      refine Own.goto X46 hx (pc := 273) 277 (hb hby at_273) (by decide) (by decide) ?_
      exact Own.ireturn X46 hx hk hret (by simp) rfl (hb hby at_277) e46 ⟨rfl, N46⟩ (by decide) (by decide)
    · refine Own.aload X26 hx (pc := 203) (hb hby at_203) rfl rfl ?_
      refine Own.iload X26 hx (pc := 205) (hb hby at_205) rfl ?_
      refine Own.aload X26 hx (pc := 207) (hb hby at_207) rfl rfl ?_
      refine Own.callStatic X26 hx hZ (pc := 209) (y := (⟨"shortleaf/CanonicalCode", "numbers", "([II[J)V"⟩ : MethodName)) hown (Wd hw 9 rfl) (Wd hw 10 rfl) (Wd hw 11 rfl) (Wd hw 12 rfl) (by decide) 0 [(.ref b17), (.int (4 : Int32)), (.ref b22)] [] (rm2_4 l Z a0 hw b17 b22 l1 l2 l3 l4 fill h26 n0 sz26 V_b17 V_b22 ge_b22 ne_b17_b22 hl0 hl1 hl2 hl3) (by decide) (by decide) e26 (by rw [hml]; rfl) pd4 rfl rfl (Nat.le_of_eq rfl) (hb hby at_209) (by decide) (by decide) ?_
      intro T47 L47 v47 X47 hQ47
      obtain ⟨rfl, Nq47, K47, V_b22'⟩ := hQ47
      have e47 : T47.heap = T47.heap := rfl
      have V_b17 := V_b17.keep K47 (ninS ne_b17_b22 nin0)
      have sz47 : n0 ≤ T47.heap.size := Nat.le_trans sz26 K47.1
      have V_b22 := V_b22'
      have N47 := Fr.app N26 Nq47
      show Own.Go p e below _ (T47.setTop (mkF m 212 #[.val (.int a), .val (.int b), .val (.int c0), .val (.int d), .val (.int k0), .val (.long fill), .second, .val (.int l1), .val (.int l2), .val (.int l3), .val (.int l4), .val (.int (4 : Int32)), .val (.long y10), .second, .val (.long y15), .second, .val (.ref b17), .val (.ref b22)] []))
      refine Own.iconst X47 hx (pc := 212) (0 : Int32) (hb hby at_212) (by decide) ?_
      refine Own.iload X47 hx (pc := 213) (hb hby at_213) rfl ?_
      refine Own.aload X47 hx (pc := 215) (hb hby at_215) rfl rfl ?_
      refine Own.aload X47 hx (pc := 217) (hb hby at_217) rfl rfl ?_
      refine Own.lload X47 hx (pc := 219) (hb hby at_219) rfl ?_
      refine Own.callStatic X47 hx hZ (pc := 221) (y := (⟨"shortleaf/CanonicalCodeNumbersPinLaw", "ok", "(II[I[JJ)Z"⟩ : MethodName)) hown (Wd hw 13 rfl) (Wd hw 14 rfl) (Wd hw 2 rfl) (Wd hw 15 rfl) (by decide) 0 [(.int (0 : Int32)), (.int (4 : Int32)), (.ref b17), (.ref b22), (.long fill)] [] (rm3 l Z a0 hw (0 : Int32) (4 : Int32) b17 b22 fill l1 l2 l3 l4 ([(.long ((own_mid (own_up (own_up (own_up (own_up (fun _ => 0) l1.toNatClampNeg) l2.toNatClampNeg) l3.toNatClampNeg) l4.toNatClampNeg) 63) l1.toNatClampNeg)), (.long ((own_up (own_mid (own_up (own_up (own_up (own_up (fun _ => 0) l1.toNatClampNeg) l2.toNatClampNeg) l3.toNatClampNeg) l4.toNatClampNeg) 63) l1.toNatClampNeg) l2.toNatClampNeg)), (.long ((own_up (own_up (own_mid (own_up (own_up (own_up (own_up (fun _ => 0) l1.toNatClampNeg) l2.toNatClampNeg) l3.toNatClampNeg) l4.toNatClampNeg) 63) l1.toNatClampNeg) l2.toNatClampNeg) l3.toNatClampNeg)), (.long ((own_up (own_up (own_up (own_mid (own_up (own_up (own_up (own_up (fun _ => 0) l1.toNatClampNeg) l2.toNatClampNeg) l3.toNatClampNeg) l4.toNatClampNeg) 63) l1.toNatClampNeg) l2.toNatClampNeg) l3.toNatClampNeg) l4.toNatClampNeg))]) l1 ((own_mid (own_up (own_up (own_up (own_up (fun _ => 0) l1.toNatClampNeg) l2.toNatClampNeg) l3.toNatClampNeg) l4.toNatClampNeg) 63) l1.toNatClampNeg) T47.heap n0 sz47 V_b17 V_b22 (by decide) rfl rfl) (by decide) (by decide) e47 (by rw [hml]; rfl) pd5 rfl rfl (Nat.le_of_eq rfl) (hb hby at_221) (by decide) (by decide) ?_
      intro T48 L48 v48 X48 hQ48
      obtain ⟨rfl, Nq48, e48⟩ := hQ48
      have N48 := Fr.app N47 Nq48
      show Own.Go p e below _ (T48.setTop (mkF m 224 #[.val (.int a), .val (.int b), .val (.int c0), .val (.int d), .val (.int k0), .val (.long fill), .second, .val (.int l1), .val (.int l2), .val (.int l3), .val (.int l4), .val (.int (4 : Int32)), .val (.long y10), .second, .val (.long y15), .second, .val (.ref b17), .val (.ref b22)] [(.int (if ((¬ (0 : Int32) < (4 : Int32) ∧ ((own_mid (own_up (own_up (own_up (own_up (fun _ => 0) l1.toNatClampNeg) l2.toNatClampNeg) l3.toNatClampNeg) l4.toNatClampNeg) 63) l1.toNatClampNeg) = fill) ∨ ((0 : Int32) < (4 : Int32) ∧ (l1 = 0 ∨ ((own_mid (own_up (own_up (own_up (own_up (fun _ => 0) l1.toNatClampNeg) l2.toNatClampNeg) l3.toNatClampNeg) l4.toNatClampNeg) 63) l1.toNatClampNeg) = own_ex l1 l2 l3 l4 (0 : Int32) (4 : Int32) l1))) then (1 : Int32) else 0))]))
      rw [if_pos (Or.inr ⟨by decide, own_num4_0 _ _ _ _ hl0 hl1 hl2 hl3⟩)]
      refine Own.ifNo X48 hx (pc := 224) (hb hby at_224) (by decide) ?_
      refine Own.iconst X48 hx (pc := 227) (1 : Int32) (hb hby at_227) (by decide) ?_
      refine Own.iload X48 hx (pc := 228) (hb hby at_228) rfl ?_
      refine Own.aload X48 hx (pc := 230) (hb hby at_230) rfl rfl ?_
      refine Own.aload X48 hx (pc := 232) (hb hby at_232) rfl rfl ?_
      refine Own.lload X48 hx (pc := 234) (hb hby at_234) rfl ?_
      refine Own.callStatic X48 hx hZ (pc := 236) (y := (⟨"shortleaf/CanonicalCodeNumbersPinLaw", "ok", "(II[I[JJ)Z"⟩ : MethodName)) hown (Wd hw 13 rfl) (Wd hw 14 rfl) (Wd hw 2 rfl) (Wd hw 15 rfl) (by decide) 0 [(.int (1 : Int32)), (.int (4 : Int32)), (.ref b17), (.ref b22), (.long fill)] [] (rm3 l Z a0 hw (1 : Int32) (4 : Int32) b17 b22 fill l1 l2 l3 l4 ([(.long ((own_mid (own_up (own_up (own_up (own_up (fun _ => 0) l1.toNatClampNeg) l2.toNatClampNeg) l3.toNatClampNeg) l4.toNatClampNeg) 63) l1.toNatClampNeg)), (.long ((own_up (own_mid (own_up (own_up (own_up (own_up (fun _ => 0) l1.toNatClampNeg) l2.toNatClampNeg) l3.toNatClampNeg) l4.toNatClampNeg) 63) l1.toNatClampNeg) l2.toNatClampNeg)), (.long ((own_up (own_up (own_mid (own_up (own_up (own_up (own_up (fun _ => 0) l1.toNatClampNeg) l2.toNatClampNeg) l3.toNatClampNeg) l4.toNatClampNeg) 63) l1.toNatClampNeg) l2.toNatClampNeg) l3.toNatClampNeg)), (.long ((own_up (own_up (own_up (own_mid (own_up (own_up (own_up (own_up (fun _ => 0) l1.toNatClampNeg) l2.toNatClampNeg) l3.toNatClampNeg) l4.toNatClampNeg) 63) l1.toNatClampNeg) l2.toNatClampNeg) l3.toNatClampNeg) l4.toNatClampNeg))]) l2 ((own_up (own_mid (own_up (own_up (own_up (own_up (fun _ => 0) l1.toNatClampNeg) l2.toNatClampNeg) l3.toNatClampNeg) l4.toNatClampNeg) 63) l1.toNatClampNeg) l2.toNatClampNeg) T47.heap n0 sz47 V_b17 V_b22 (by decide) rfl rfl) (by decide) (by decide) e48 (by rw [hml]; rfl) pd5 rfl rfl (Nat.le_of_eq rfl) (hb hby at_236) (by decide) (by decide) ?_
      intro T49 L49 v49 X49 hQ49
      obtain ⟨rfl, Nq49, e49⟩ := hQ49
      have N49 := Fr.app N48 Nq49
      show Own.Go p e below _ (T49.setTop (mkF m 239 #[.val (.int a), .val (.int b), .val (.int c0), .val (.int d), .val (.int k0), .val (.long fill), .second, .val (.int l1), .val (.int l2), .val (.int l3), .val (.int l4), .val (.int (4 : Int32)), .val (.long y10), .second, .val (.long y15), .second, .val (.ref b17), .val (.ref b22)] [(.int (if ((¬ (1 : Int32) < (4 : Int32) ∧ ((own_up (own_mid (own_up (own_up (own_up (own_up (fun _ => 0) l1.toNatClampNeg) l2.toNatClampNeg) l3.toNatClampNeg) l4.toNatClampNeg) 63) l1.toNatClampNeg) l2.toNatClampNeg) = fill) ∨ ((1 : Int32) < (4 : Int32) ∧ (l2 = 0 ∨ ((own_up (own_mid (own_up (own_up (own_up (own_up (fun _ => 0) l1.toNatClampNeg) l2.toNatClampNeg) l3.toNatClampNeg) l4.toNatClampNeg) 63) l1.toNatClampNeg) l2.toNatClampNeg) = own_ex l1 l2 l3 l4 (1 : Int32) (4 : Int32) l2))) then (1 : Int32) else 0))]))
      rw [if_pos (Or.inr ⟨by decide, own_num4_1 _ _ _ _ hl0 hl1 hl2 hl3⟩)]
      refine Own.ifNo X49 hx (pc := 239) (hb hby at_239) (by decide) ?_
      refine Own.iconst X49 hx (pc := 242) (2 : Int32) (hb hby at_242) (by decide) ?_
      refine Own.iload X49 hx (pc := 243) (hb hby at_243) rfl ?_
      refine Own.aload X49 hx (pc := 245) (hb hby at_245) rfl rfl ?_
      refine Own.aload X49 hx (pc := 247) (hb hby at_247) rfl rfl ?_
      refine Own.lload X49 hx (pc := 249) (hb hby at_249) rfl ?_
      refine Own.callStatic X49 hx hZ (pc := 251) (y := (⟨"shortleaf/CanonicalCodeNumbersPinLaw", "ok", "(II[I[JJ)Z"⟩ : MethodName)) hown (Wd hw 13 rfl) (Wd hw 14 rfl) (Wd hw 2 rfl) (Wd hw 15 rfl) (by decide) 0 [(.int (2 : Int32)), (.int (4 : Int32)), (.ref b17), (.ref b22), (.long fill)] [] (rm3 l Z a0 hw (2 : Int32) (4 : Int32) b17 b22 fill l1 l2 l3 l4 ([(.long ((own_mid (own_up (own_up (own_up (own_up (fun _ => 0) l1.toNatClampNeg) l2.toNatClampNeg) l3.toNatClampNeg) l4.toNatClampNeg) 63) l1.toNatClampNeg)), (.long ((own_up (own_mid (own_up (own_up (own_up (own_up (fun _ => 0) l1.toNatClampNeg) l2.toNatClampNeg) l3.toNatClampNeg) l4.toNatClampNeg) 63) l1.toNatClampNeg) l2.toNatClampNeg)), (.long ((own_up (own_up (own_mid (own_up (own_up (own_up (own_up (fun _ => 0) l1.toNatClampNeg) l2.toNatClampNeg) l3.toNatClampNeg) l4.toNatClampNeg) 63) l1.toNatClampNeg) l2.toNatClampNeg) l3.toNatClampNeg)), (.long ((own_up (own_up (own_up (own_mid (own_up (own_up (own_up (own_up (fun _ => 0) l1.toNatClampNeg) l2.toNatClampNeg) l3.toNatClampNeg) l4.toNatClampNeg) 63) l1.toNatClampNeg) l2.toNatClampNeg) l3.toNatClampNeg) l4.toNatClampNeg))]) l3 ((own_up (own_up (own_mid (own_up (own_up (own_up (own_up (fun _ => 0) l1.toNatClampNeg) l2.toNatClampNeg) l3.toNatClampNeg) l4.toNatClampNeg) 63) l1.toNatClampNeg) l2.toNatClampNeg) l3.toNatClampNeg) T47.heap n0 sz47 V_b17 V_b22 (by decide) rfl rfl) (by decide) (by decide) e49 (by rw [hml]; rfl) pd5 rfl rfl (Nat.le_of_eq rfl) (hb hby at_251) (by decide) (by decide) ?_
      intro T50 L50 v50 X50 hQ50
      obtain ⟨rfl, Nq50, e50⟩ := hQ50
      have N50 := Fr.app N49 Nq50
      show Own.Go p e below _ (T50.setTop (mkF m 254 #[.val (.int a), .val (.int b), .val (.int c0), .val (.int d), .val (.int k0), .val (.long fill), .second, .val (.int l1), .val (.int l2), .val (.int l3), .val (.int l4), .val (.int (4 : Int32)), .val (.long y10), .second, .val (.long y15), .second, .val (.ref b17), .val (.ref b22)] [(.int (if ((¬ (2 : Int32) < (4 : Int32) ∧ ((own_up (own_up (own_mid (own_up (own_up (own_up (own_up (fun _ => 0) l1.toNatClampNeg) l2.toNatClampNeg) l3.toNatClampNeg) l4.toNatClampNeg) 63) l1.toNatClampNeg) l2.toNatClampNeg) l3.toNatClampNeg) = fill) ∨ ((2 : Int32) < (4 : Int32) ∧ (l3 = 0 ∨ ((own_up (own_up (own_mid (own_up (own_up (own_up (own_up (fun _ => 0) l1.toNatClampNeg) l2.toNatClampNeg) l3.toNatClampNeg) l4.toNatClampNeg) 63) l1.toNatClampNeg) l2.toNatClampNeg) l3.toNatClampNeg) = own_ex l1 l2 l3 l4 (2 : Int32) (4 : Int32) l3))) then (1 : Int32) else 0))]))
      rw [if_pos (Or.inr ⟨by decide, own_num4_2 _ _ _ _ hl0 hl1 hl2 hl3⟩)]
      refine Own.ifNo X50 hx (pc := 254) (hb hby at_254) (by decide) ?_
      refine Own.iconst X50 hx (pc := 257) (3 : Int32) (hb hby at_257) (by decide) ?_
      refine Own.iload X50 hx (pc := 258) (hb hby at_258) rfl ?_
      refine Own.aload X50 hx (pc := 260) (hb hby at_260) rfl rfl ?_
      refine Own.aload X50 hx (pc := 262) (hb hby at_262) rfl rfl ?_
      refine Own.lload X50 hx (pc := 264) (hb hby at_264) rfl ?_
      refine Own.callStatic X50 hx hZ (pc := 266) (y := (⟨"shortleaf/CanonicalCodeNumbersPinLaw", "ok", "(II[I[JJ)Z"⟩ : MethodName)) hown (Wd hw 13 rfl) (Wd hw 14 rfl) (Wd hw 2 rfl) (Wd hw 15 rfl) (by decide) 0 [(.int (3 : Int32)), (.int (4 : Int32)), (.ref b17), (.ref b22), (.long fill)] [] (rm3 l Z a0 hw (3 : Int32) (4 : Int32) b17 b22 fill l1 l2 l3 l4 ([(.long ((own_mid (own_up (own_up (own_up (own_up (fun _ => 0) l1.toNatClampNeg) l2.toNatClampNeg) l3.toNatClampNeg) l4.toNatClampNeg) 63) l1.toNatClampNeg)), (.long ((own_up (own_mid (own_up (own_up (own_up (own_up (fun _ => 0) l1.toNatClampNeg) l2.toNatClampNeg) l3.toNatClampNeg) l4.toNatClampNeg) 63) l1.toNatClampNeg) l2.toNatClampNeg)), (.long ((own_up (own_up (own_mid (own_up (own_up (own_up (own_up (fun _ => 0) l1.toNatClampNeg) l2.toNatClampNeg) l3.toNatClampNeg) l4.toNatClampNeg) 63) l1.toNatClampNeg) l2.toNatClampNeg) l3.toNatClampNeg)), (.long ((own_up (own_up (own_up (own_mid (own_up (own_up (own_up (own_up (fun _ => 0) l1.toNatClampNeg) l2.toNatClampNeg) l3.toNatClampNeg) l4.toNatClampNeg) 63) l1.toNatClampNeg) l2.toNatClampNeg) l3.toNatClampNeg) l4.toNatClampNeg))]) l4 ((own_up (own_up (own_up (own_mid (own_up (own_up (own_up (own_up (fun _ => 0) l1.toNatClampNeg) l2.toNatClampNeg) l3.toNatClampNeg) l4.toNatClampNeg) 63) l1.toNatClampNeg) l2.toNatClampNeg) l3.toNatClampNeg) l4.toNatClampNeg) T47.heap n0 sz47 V_b17 V_b22 (by decide) rfl rfl) (by decide) (by decide) e50 (by rw [hml]; rfl) pd5 rfl rfl (Nat.le_of_eq rfl) (hb hby at_266) (by decide) (by decide) ?_
      intro T51 L51 v51 X51 hQ51
      obtain ⟨rfl, Nq51, e51⟩ := hQ51
      have N51 := Fr.app N50 Nq51
      show Own.Go p e below _ (T51.setTop (mkF m 269 #[.val (.int a), .val (.int b), .val (.int c0), .val (.int d), .val (.int k0), .val (.long fill), .second, .val (.int l1), .val (.int l2), .val (.int l3), .val (.int l4), .val (.int (4 : Int32)), .val (.long y10), .second, .val (.long y15), .second, .val (.ref b17), .val (.ref b22)] [(.int (if ((¬ (3 : Int32) < (4 : Int32) ∧ ((own_up (own_up (own_up (own_mid (own_up (own_up (own_up (own_up (fun _ => 0) l1.toNatClampNeg) l2.toNatClampNeg) l3.toNatClampNeg) l4.toNatClampNeg) 63) l1.toNatClampNeg) l2.toNatClampNeg) l3.toNatClampNeg) l4.toNatClampNeg) = fill) ∨ ((3 : Int32) < (4 : Int32) ∧ (l4 = 0 ∨ ((own_up (own_up (own_up (own_mid (own_up (own_up (own_up (own_up (fun _ => 0) l1.toNatClampNeg) l2.toNatClampNeg) l3.toNatClampNeg) l4.toNatClampNeg) 63) l1.toNatClampNeg) l2.toNatClampNeg) l3.toNatClampNeg) l4.toNatClampNeg) = own_ex l1 l2 l3 l4 (3 : Int32) (4 : Int32) l4))) then (1 : Int32) else 0))]))
      rw [if_pos (Or.inr ⟨by decide, own_num4_3 _ _ _ _ hl0 hl1 hl2 hl3⟩)]
      refine Own.ifNo X51 hx (pc := 269) (hb hby at_269) (by decide) ?_
      refine Own.iconst X51 hx (pc := 272) (1 : Int32) (hb hby at_272) (by decide) ?_
      refine Own.goto X51 hx (pc := 273) 277 (hb hby at_273) (by decide) (by decide) ?_
      exact Own.ireturn X51 hx hk hret (by simp) rfl (hb hby at_277) e51 ⟨rfl, N51⟩ (by decide) (by decide)
set_option maxRecDepth 65536 in
set_option maxHeartbeats 40000000 in
theorem comes_1 {Post : Tables → Env → Array Value → State → Outcome → State → Prop} (hpost : ∀ tb e args s v u, (limb_1_1.after args s (.returned v) u = true ∧ limb_1_2.after args s (.returned v) u = true ∧ True) → FrameEnd s (.returned v) u (Jvm.fieldLocs frame_1_writes args s ++ Jvm.arrayLocs frame_1_arrays args s ++ Jvm.staticLocs frame_1_statics s) 16 256 → Post tb e args s (.returned v) u) :
    ArmFor flags0 classFile x code maxLocals ret World_1 tables_1 room_1 Calls_1 rest_1 Pre_1 Post := by
  intro l hfl _ _ p e ha hc hk s m args below hf hA hF happ hP
  obtain ⟨hcalls, hrest, hpre⟩ := hP
  obtain ⟨-, -, -, hnamed, -, -, -, hat⟩ := (Spec.applies_iff hf).mp happ
  obtain ⟨hg, hn⟩ := and_e (Cond.before_iff.mp (show (Jvm.Cond.and given_1 narrow_1).before args s = true from hpre))
  obtain ⟨hcount, r0⟩ := and_e hg
  obtain ⟨g0, r1⟩ := and_e r0
  obtain ⟨g1, r2⟩ := and_e r1
  obtain ⟨g2, r3⟩ := and_e r2
  obtain ⟨g3, r4⟩ := and_e r3
  obtain ⟨g4, r5⟩ := and_e r4
  obtain ⟨w0, w1, w2, w3, w4, w5, rfl⟩ : ∃ w0 w1 w2 w3 w4 w5 : Value, args = #[w0, w1, w2, w3, w4, w5] := by
    have hs : args.size = 6 := by simpa [Cond.value, given_1] using hcount
    obtain ⟨L⟩ := args
    match L, hs with
    | [w0, w1, w2, w3, w4, w5], _ => exact ⟨w0, w1, w2, w3, w4, w5, rfl⟩
  have hw := fun d (hd : d ∈ tables_1) => atoms_spec (ws := Jvm.Cond.code x code maxLocals ret :: tables_1) hat d (List.mem_cons_of_mem _ hd)
  obtain ⟨i0, e0⟩ := is_v g0
  obtain rfl : w0 = (.int i0) := Option.some.inj e0
  obtain ⟨i1, e1⟩ := is_v g1
  obtain rfl : w1 = (.int i1) := Option.some.inj e1
  obtain ⟨i2, e2⟩ := is_v g2
  obtain rfl : w2 = (.int i2) := Option.some.inj e2
  obtain ⟨i3, e3⟩ := is_v g3
  obtain rfl : w3 = (.int i3) := Option.some.inj e3
  obtain ⟨i4, e4⟩ := is_v g4
  obtain rfl : w4 = (.int i4) := Option.some.inj e4
  obtain ⟨i5, e5⟩ := isL_v r5
  obtain rfl : w5 = (.long i5) := Option.some.inj e5
  obtain ⟨n, o, h1, h2, h3, _, L, rfl, ⟨rfl, N⟩, hq⟩ := rm0 l s _ hw i0 i1 i2 i3 i4 i5 s.heap s.heap.size (Nat.le_refl _) p e ha hc hk s m _ below hf ((Spec.applies_iff_loose hf).mp happ).1 ⟨rfl, State.Warmed39.refl s, rfl⟩ trivial
  refine ⟨n, _, h1, h2, h3, hpost _ _ _ _ _ _ ⟨Cond.after_iff.mpr rfl, Cond.after_iff.mpr (eq_i res_at (Term.int_eval (1)) rfl), trivial⟩ ⟨hq.1, hq.2.1, (hq.2.2.sift fun y hy => Or.inr (N y hy)).mono (by decide) (by decide)⟩⟩
theorem main_1_1 : Claimed_1_1 := comes_1 fun _ _ _ _ _ _ h hF => ⟨h.1, hF⟩
theorem main_1_2 : Claimed_1_2 := comes_1 fun _ _ _ _ _ _ h hF => ⟨h.2.1, hF⟩
end Jvm.Pilot.@@N@@
namespace Jvm.Pilot.@@N@@
open Jvm Jvm.ClassFile Sem Op Lib Jvm.Free Jvm.Stand Jvm.Pilot.@@N@@.Jvm.D
/-! MADE BY PROGRAM (witnessworld.py) out of the Statement's table words and the real class files: 11 classes; the members and pool entries that the words name. The judged class is class 1, her method 1. -/
namespace start1
open Jvm.ClassFile
def u (s : String) : CpInfo := .utf8 (stringToUtf16 s)
/-- a pool by its gaps: so many unusable entries, then the entry; so many at the end -/
def gap : Nat → List CpInfo → List CpInfo
  | 0, r => r
  | n + 1, r => .unusable :: gap n r
def poolList (es : List (Nat × CpInfo)) (last : Nat) : List CpInfo := es.foldr (fun e r => gap e.1 (e.2 :: r)) (gap last [])
def pool (es : List (Nat × CpInfo)) (last : Nat) : Array CpInfo := ⟨poolList es last⟩
def fileOf (pool : Array CpInfo) (this : Nat) (attrs : Array Attribute := #[]) (ms : Array MethodInfo := #[]) (fl : Nat := 33) (sup : Nat := 0) (ifs : Array Nat := #[]) (fds : Array FieldInfo := #[]) : ClassFile where
  minorVersion := 0
  majorVersion := 65
  constantPool := pool
  accessFlags := fl
  thisClass := this
  superClass := sup
  interfaces := ifs
  fields := fds
  methods := ms
  attributes := attrs
def plain (name : String) (sup : Option ClassId) : Class where
  name := name
  kind := .ordinary
  loader := none
  accessFlags := 33
  super := sup
  interfaces := #[]
  cf := none
  fields := #[]
  methods := #[]
  instanceTypes := #[]
  staticTypes := #[]
  resolved := #[]
  callSites := []
  init := .initialized
  statics := none
  mirror := none

def pool0 : Array CpInfo := pool [(5, u "<init>"), (0, u "()V"), (1, .class_ 10), (1, u "java/lang/Object")] 113

def k0m0 : Method := { name := "<init>", desc := "()V", sig := { parameters := [], returnType := none }, accessFlags := 1, code := none }
/-- java/lang/Object -/
def k0 : Class := { plain "java/lang/Object" none with
  accessFlags := 33
  interfaces := #[]
  cf := some (fileOf pool0 8 #[] #[{ accessFlags := 1, nameIndex := 5, descriptorIndex := 6, attributes := #[] }] 33 0 #[] #[])
  fields := #[]
  methods := #[k0m0]
  instanceTypes := #[]
  staticTypes := #[]
  resolved := Array.replicate 124 none
  statics := none }

def pool1 : Array CpInfo := pool [(2, .class_ 4), (1, u "java/lang/Object"), (0, u "<init>"), (0, u "()V"), (0, .methodref 8 9), (0, .class_ 10), (0, .nameAndType 11 12), (0, u "shortleaf/CanonicalCodeNumbersPinLaw"), (0, u "kraft"), (0, u "(III)J"), (0, .long 3), (1, .long 4), (1, .long 2305843009213693952), (1, .methodref 20 21), (0, .class_ 22), (0, .nameAndType 23 24), (0, u "shortleaf/CanonicalCode"), (0, u "numbers"), (0, u "([II[J)V"), (0, .methodref 8 26), (0, .nameAndType 27 28), (0, u "ok"), (0, u "(II[I[JJ)Z"), (0, .methodref 8 30), (0, .nameAndType 31 32), (0, u "part"), (0, u "(III[II)J"), (2, u "law"), (0, u "(IIIIIJ)Z")] 7

def k1m0 : Method := { name := "<init>", desc := "()V", sig := { parameters := [], returnType := none }, accessFlags := 1, code := none }
def k1c1 : Code := { maxStack := 6, maxLocals := 18, code := code, exceptionTable := #[], attributes := #[] }
def k1m1 : Method := { name := "law", desc := "(IIIIIJ)Z", sig := { parameters := [.int, .int, .int, .int, .int, .long], returnType := some .boolean }, accessFlags := 9, code := some k1c1 }
def k1c2 : Code := { maxStack := 4, maxLocals := 3, code := method_3_code, exceptionTable := #[], attributes := #[] }
def k1m2 : Method := { name := "kraft", desc := "(III)J", sig := { parameters := [.int, .int, .int], returnType := some .long }, accessFlags := 10, code := some k1c2 }
def k1c3 : Code := { maxStack := 7, maxLocals := 9, code := method_4_code, exceptionTable := #[], attributes := #[] }
def k1m3 : Method := { name := "ok", desc := "(II[I[JJ)Z", sig := { parameters := [.int, .int, (.array .int), (.array .long), .long], returnType := some .boolean }, accessFlags := 10, code := some k1c3 }
def k1c4 : Code := { maxStack := 4, maxLocals := 6, code := method_5_code, exceptionTable := #[], attributes := #[] }
def k1m4 : Method := { name := "part", desc := "(III[II)J", sig := { parameters := [.int, .int, .int, (.array .int), .int], returnType := some .long }, accessFlags := 10, code := some k1c4 }
/-- shortleaf/CanonicalCodeNumbersPinLaw -/
def k1 : Class := { plain "shortleaf/CanonicalCodeNumbersPinLaw" (some 0) with
  accessFlags := 49
  interfaces := #[]
  cf := some (fileOf pool1 8 #[] #[{ accessFlags := 1, nameIndex := 5, descriptorIndex := 6, attributes := #[] }, { accessFlags := 9, nameIndex := 35, descriptorIndex := 36, attributes := #[] }, { accessFlags := 10, nameIndex := 11, descriptorIndex := 12, attributes := #[] }, { accessFlags := 10, nameIndex := 27, descriptorIndex := 28, attributes := #[] }, { accessFlags := 10, nameIndex := 31, descriptorIndex := 32, attributes := #[] }] 49 2 #[] #[])
  fields := #[]
  methods := #[k1m0, k1m1, k1m2, k1m3, k1m4]
  instanceTypes := #[]
  staticTypes := #[]
  resolved := Array.replicate 44 none
  statics := none }

def pool2 : Array CpInfo := pool [(2, .class_ 4), (1, u "java/lang/Object"), (5, u "[I"), (3, .class_ 16), (1, u "shortleaf/CanonicalCode"), (0, u "lengths"), (2, u "counts"), (5, u "order"), (106, .class_ 135), (1, u "shortleaf/CanonicalCode$BitSource"), (28, u "numbers"), (0, u "([II[J)V")] 50

def k2c0 : Code := { maxStack := 10, maxLocals := 9, code := prog_8_method_10_code, exceptionTable := #[], attributes := #[] }
def k2m0 : Method := { name := "numbers", desc := "([II[J)V", sig := { parameters := [(.array .int), .int, (.array .long)], returnType := none }, accessFlags := 8, code := some k2c0 }
/-- shortleaf/CanonicalCode -/
def k2 : Class := { plain "shortleaf/CanonicalCode" (some 0) with
  accessFlags := 48
  interfaces := #[]
  cf := some (fileOf pool2 14 #[.nestMembers #[133]] #[{ accessFlags := 8, nameIndex := 164, descriptorIndex := 165, attributes := #[] }] 48 2 #[] #[{ accessFlags := 18, nameIndex := 17, descriptorIndex := 10, attributes := #[] }, { accessFlags := 18, nameIndex := 20, descriptorIndex := 10, attributes := #[] }, { accessFlags := 18, nameIndex := 26, descriptorIndex := 10, attributes := #[] }])
  fields := #[{ name := "lengths", type := (.array .int), accessFlags := 18, slot := 0, constantValue := 0 }, { name := "counts", type := (.array .int), accessFlags := 18, slot := 1, constantValue := 0 }, { name := "order", type := (.array .int), accessFlags := 18, slot := 2, constantValue := 0 }]
  methods := #[k2m0]
  instanceTypes := #[(.array .int), (.array .int), (.array .int)]
  staticTypes := #[]
  resolved := Array.replicate 216 none
  statics := none }

def pool3 : Array CpInfo := pool [(1, u "java/lang/Cloneable"), (0, .class_ 1), (0, u "java/lang/Object"), (0, .class_ 3)] 3

/-- java/lang/Cloneable -/
def k3 : Class := { plain "java/lang/Cloneable" (some 0) with
  accessFlags := 1537
  interfaces := #[]
  cf := some (fileOf pool3 2 #[] #[] 1537 4 #[] #[])
  fields := #[]
  methods := #[]
  instanceTypes := #[]
  staticTypes := #[]
  resolved := Array.replicate 8 none
  statics := none }

def pool4 : Array CpInfo := pool [(1, u "java/io/Serializable"), (0, .class_ 1), (0, u "java/lang/Object"), (0, .class_ 3)] 3

/-- java/io/Serializable -/
def k4 : Class := { plain "java/io/Serializable" (some 0) with
  accessFlags := 1537
  interfaces := #[]
  cf := some (fileOf pool4 2 #[] #[] 1537 4 #[] #[])
  fields := #[]
  methods := #[]
  instanceTypes := #[]
  staticTypes := #[]
  resolved := Array.replicate 8 none
  statics := none }

/-- the primitive byte -/
def k5 : Class := { plain "byte" none with kind := .primitive 'B', accessFlags := 0x411 }
/-- [B -/
def k6 : Class := { plain "[B" (some 0) with kind := .array 5 .byte, interfaces := #[3, 4], accessFlags := 1041 }

/-- the primitive int -/
def k7 : Class := { plain "int" none with kind := .primitive 'I', accessFlags := 0x411 }
/-- [I -/
def k8 : Class := { plain "[I" (some 0) with kind := .array 7 .int, interfaces := #[3, 4], accessFlags := 1041 }

/-- the primitive long -/
def k9 : Class := { plain "long" none with kind := .primitive 'J', accessFlags := 0x411 }
/-- [J -/
def k10 : Class := { plain "[J" (some 0) with kind := .array 9 .long, interfaces := #[3, 4], accessFlags := 1041 }

def heap : Heap := #[]
def classes : Array Class := #[k0, k1, k2, k3, k4, k5, k6, k7, k8, k9, k10]
def interned : List (Array UInt16 × Addr) := []
def slotsUsed : Nat := 0
def theMethod : MethodId := ⟨1, 1⟩
def args0 : Array Value := #[.int 5, .int 6, .int 7, .int 8, .int 1, .long 9]
def aboutOver (below : List Frame) : State where
  vm := { classes := classes, interned := interned.toArray }
  heap := heap
  slotsUsed := slotsUsed
  threads := #[{ frames := .invoking theMethod args0 :: below }]
def below0 : List Frame := [.native { method := ⟨0, 0⟩, args := #[] }]
def about1 : State := aboutOver below0
def p0 : Program := .bare "" "" ""
def e0 : Env := launch0.env 0 0 0
theorem w_frames : about1.frames = Frame.invoking theMethod args0 :: below0 := rfl
set_option maxRecDepth 65536 in
theorem w_args : argsFit about1.vm theMethod args0 = true := by decide +kernel
set_option maxRecDepth 65536 in
theorem w_heap : heapFits about1 = true := by decide +kernel
set_option maxRecDepth 65536 in
theorem w_runnable : about1.curStatus? = some .runnable := by decide +kernel
set_option maxRecDepth 65536 in
theorem w_alone : about1.alone = true := by decide +kernel
set_option maxRecDepth 65536 in
theorem w_named : about1.methodNamed? x = some theMethod := by decide +kernel
set_option maxRecDepth 65536 in
theorem w_hears : about1.hears theMethod below0 = true := by decide +kernel
set_option maxRecDepth 65536 in
theorem w_ripe : about1.ripe theMethod args0 below0 = true := by decide +kernel
theorem w_running : about1.status = .running := rfl
set_option maxRecDepth 65536 in
theorem w_room : about1.hasRoom e0.platform room_1 = true :=
  launch0.hasRoom_least _ room_1 (by decide +kernel) (by decide +kernel) (by decide +kernel) (by decide +kernel) (by decide +kernel) (by decide +kernel)
theorem allAtoms_all (ts : List Jvm.Cond) (a : Array Jvm.Value) (st : Jvm.State) : (allAtoms ts).before a st = ts.all (fun c => c.before a st) := by
  induction ts with
  | nil => rfl
  | cons c t ih =>
    show (Jvm.Cond.and c (allAtoms t)).before a st = _
    rw [Jvm.Cond.before_and, ih, List.all_cons]
def words1 : List Jvm.Cond := Jvm.Cond.code x code maxLocals ret :: tables_1
/-- a 'code' word, met by the world's own term for the bytes: nothing is compared byte by byte -/
theorem code_word {y : MethodName} {bytes : ByteArray} {mx : Nat} {rt : Option FieldType} {a : Array Value} {s : State} {m : MethodId} {meth : Method} {c : Code} (h1 : s.methodNamed? y = some m) (h2 : s.vm.method? m = some meth) (h3 : meth.code = some c) (h4 : c.code = bytes)
    (h5 : (c.maxLocals == mx && c.exceptionTable.isEmpty && decide (c.maxStack ≤ mostOperands) && decide (meth.sig.returnType = rt) && !meth.locks && decide (parseMethodDescriptor y.desc = some meth.sig)) = true) : (Jvm.Cond.code y bytes mx rt).before a s = true := by
  simp only [Bool.and_eq_true, beq_iff_eq, Bool.not_eq_true', decide_eq_true_eq] at h5
  obtain ⟨⟨⟨⟨⟨g1, g2⟩, g3⟩, g4⟩, g5⟩, g6⟩ := h5
  simp [Cond.before, Cond.holds, Cond.value, h1, h2, h3, h4, g1, g2, g3, g4, g5, g6]
def isCode : Jvm.Cond → Bool
  | .code _ _ _ _ => true
  | _ => false
theorem all_split {L : List Jvm.Cond} {P : Jvm.Cond → Bool} (h1 : L.all (fun c => isCode c || P c) = true) (h2 : ∀ c ∈ L.filter isCode, P c = true) : L.all P = true := by
  refine List.all_eq_true.mpr fun c hc => ?_
  have h := List.all_eq_true.mp h1 c hc
  rcases Bool.eq_false_or_eq_true (isCode c) with hi | hi
  · exact h2 c (List.mem_filter.mpr ⟨hc, hi⟩)
  · simpa [hi] using h
set_option maxRecDepth 65536 in
theorem w_c0 : (Jvm.Cond.code x code maxLocals ret).before args0 about1 = true := code_word (m := ⟨1, 1⟩) (meth := k1m1) (c := k1c1) (by decide +kernel) rfl rfl rfl (by decide +kernel)
set_option maxRecDepth 65536 in
theorem w_c1 : (Jvm.Cond.code ({ cls := "shortleaf/CanonicalCodeNumbersPinLaw", name := "kraft", desc := "(III)J" } : Jvm.MethodName) method_3_code (3 : Nat) (Option.some Jvm.ClassFile.FieldType.long)).before args0 about1 = true := code_word (m := ⟨1, 2⟩) (meth := k1m2) (c := k1c2) (by decide +kernel) rfl rfl rfl (by decide +kernel)
set_option maxRecDepth 65536 in
theorem w_c2 : (Jvm.Cond.code ({ cls := "shortleaf/CanonicalCode", name := "numbers", desc := "([II[J)V" } : Jvm.MethodName) prog_8_method_10_code (9 : Nat) (Option.none : Option Jvm.ClassFile.FieldType)).before args0 about1 = true := code_word (m := ⟨2, 0⟩) (meth := k2m0) (c := k2c0) (by decide +kernel) rfl rfl rfl (by decide +kernel)
set_option maxRecDepth 65536 in
theorem w_c3 : (Jvm.Cond.code ({ cls := "shortleaf/CanonicalCodeNumbersPinLaw", name := "ok", desc := "(II[I[JJ)Z" } : Jvm.MethodName) method_4_code (9 : Nat) (Option.some Jvm.ClassFile.FieldType.boolean)).before args0 about1 = true := code_word (m := ⟨1, 3⟩) (meth := k1m3) (c := k1c3) (by decide +kernel) rfl rfl rfl (by decide +kernel)
set_option maxRecDepth 65536 in
theorem w_c4 : (Jvm.Cond.code ({ cls := "shortleaf/CanonicalCodeNumbersPinLaw", name := "part", desc := "(III[II)J" } : Jvm.MethodName) method_5_code (6 : Nat) (Option.some Jvm.ClassFile.FieldType.long)).before args0 about1 = true := code_word (m := ⟨1, 4⟩) (meth := k1m4) (c := k1c4) (by decide +kernel) rfl rfl rfl (by decide +kernel)
def codes1 : List Jvm.Cond := [Jvm.Cond.code x code maxLocals ret, Jvm.Cond.code ({ cls := "shortleaf/CanonicalCodeNumbersPinLaw", name := "kraft", desc := "(III)J" } : Jvm.MethodName) method_3_code (3 : Nat) (Option.some Jvm.ClassFile.FieldType.long), Jvm.Cond.code ({ cls := "shortleaf/CanonicalCode", name := "numbers", desc := "([II[J)V" } : Jvm.MethodName) prog_8_method_10_code (9 : Nat) (Option.none : Option Jvm.ClassFile.FieldType), Jvm.Cond.code ({ cls := "shortleaf/CanonicalCodeNumbersPinLaw", name := "ok", desc := "(II[I[JJ)Z" } : Jvm.MethodName) method_4_code (9 : Nat) (Option.some Jvm.ClassFile.FieldType.boolean), Jvm.Cond.code ({ cls := "shortleaf/CanonicalCodeNumbersPinLaw", name := "part", desc := "(III[II)J" } : Jvm.MethodName) method_5_code (6 : Nat) (Option.some Jvm.ClassFile.FieldType.long)]
set_option maxRecDepth 65536 in
theorem codes_eq : words1.filter isCode = codes1 := rfl
theorem w_codes : ∀ c ∈ words1.filter isCode, c.before args0 about1 = true := by
  rw [codes_eq]
  intro c hc
  simp only [codes1, List.mem_cons, List.not_mem_nil, or_false] at hc
  rcases hc with rfl | rfl | rfl | rfl | rfl
  · exact w_c0
  · exact w_c1
  · exact w_c2
  · exact w_c3
  · exact w_c4
set_option maxRecDepth 65536 in
theorem w_t1 : words1.all (fun c => isCode c || c.before args0 about1) = true := by decide +kernel
theorem w_tables : (allAtoms (Jvm.Cond.code x code maxLocals ret :: tables_1)).before args0 about1 = true := by
  rw [allAtoms_all]
  show words1.all (fun c => c.before args0 about1) = true
  refine all_split ?_ w_codes
  rw [w_t1]
set_option maxRecDepth 65536 in
theorem w_case : (Jvm.Cond.and given_1 narrow_1).before args0 about1 = true := by decide +kernel
theorem w_applies : (headSpec (Jvm.Cond.code x code maxLocals ret :: tables_1) room_1).applies x e0.platform about1 = true :=
  (Spec.applies_iff w_frames).mpr ⟨w_running, w_runnable, w_alone, w_named, w_hears, w_ripe, w_room, w_tables⟩
theorem atStart : AtStart classFile x code maxLocals ret World_1 tables_1 room_1 Calls_1 rest_1 Pre_1 launch0 p0 e0 about1 theMethod args0 below0 :=
  ⟨lists_1, trivial, launch0.admits_env _ _ _, launch0.least_env, fairChoices_fair.cas, fairChoices_fair.clock, w_frames, w_args, w_heap, w_applies, trivial, trivial, w_case⟩
end start1
theorem witness_1 : WitnessClaimed_1 := ⟨start1.p0, start1.e0, start1.about1, start1.theMethod, start1.args0, start1.below0, start1.atStart⟩
end Jvm.Pilot.@@N@@
