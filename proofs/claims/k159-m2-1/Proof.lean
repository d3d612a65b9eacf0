import JvmDerived
import JvmDerived.Pilot.@@N@@Statement
import JvmDerived.Pilot.@@N@@Code
set_option linter.unusedVariables false
set_option linter.unusedSimpArgs false
namespace Jvm.Own
open Sem ClassFile Op Lib Jvm.Stand Jvm.Free Jvm.LawKit Jvm.RoadKit
/-! ### what is left to walk, and one law a step -/
def Go (p : Program) (e : Env) (below : List Frame) (P : Outcome → State → Prop) (S : State) : Prop :=
  ∃ s₂ o, Steps p.tables e below S s₂ ∧ s₂.status = .running ∧ Ended s₂ below o ∧ P o s₂
def Fini (s : State) (Q : Option Value → Heap → List Loc → Prop) (k n : Nat) (o : Outcome) (U : State) : Prop :=
  ∃ v L, o = .returned v ∧ Q v U.heap L ∧ FrameEnd s o U L k n
def Ct (l : Launch) (y : MethodName) (bytes : ByteArray) (maxL : Nat) (ret : Option FieldType) (ws : List Jvm.Cond) (rm : Room) (Z : State) (as : Array Value) (h : Heap) (Q : Option Value → Heap → List Loc → Prop) : Prop :=
  MetFree l y (head1 (Jvm.Cond.code y bytes maxL ret :: ws) rm) (fun a U => a = as ∧ Z.Warmed39 U.vm ∧ U.heap = h) (fun _ _ _ _ _ => True) (fun _ U o U' => ∃ v L, o = .returned v ∧ Q v U'.heap L ∧ FrameEnd U o U' L rm.cells rm.slots)
section Walk
variable {p : Program} {l : Launch} {e : Env} {R : Room} {s : State} {m : MethodId} {args : Array Value} {below : List Frame} {meth : Method} {c : Code} {T : State} {locs : List Loc} {cells slots : Nat} {P : Outcome → State → Prop} {Z : State} {a0 : Array Value} {h : Heap}
variable {pc : Nat} {L : Array Slot} {rest st : List Value}
theorem Go.via {A B : State} (q : ∀ t, Steps p.tables e below B t → Steps p.tables e below A t) (k : Go p e below P B) : Go p e below P A := by
  obtain ⟨s2, o, h1, h2⟩ := k
  exact ⟨s2, o, q _ h1, h2⟩
theorem Go.tr {A B : State} (q : Steps p.tables e below A B) (k : Go p e below P B) : Go p e below P A := Go.via (fun _ r => q.trans r) k
theorem enter {y : MethodName} {bytes : ByteArray} {maxL : Nat} {ret : Option FieldType} {ws : List Jvm.Cond} {rm : Room} {as : Array Value} {Q : Option Value → Heap → List Loc → Prop} (hy : plainFor y = true)
    (body : ∀ p e s m below meth c s₁, p.tables.exec = Jvm.exec → c.code = bytes → c.maxLocals = maxL → s.vm.findClass y.cls = some m.cls → meth.name = y.name → meth.sig.returnType = ret → meth.locks = false → Z.Warmed39 s.vm →
      Stand p l e rm s m as below meth c s₁ [] 0 0 → s₁.heap = h → Go p e below (Fini s Q rm.cells rm.slots) (s₁.setTop (entryFrame m as maxL))) : Ct l y bytes maxL ret ws rm Z as h Q := by
  refine MetFree.of_bodySF hy hisR ?_
  intro p e s m args below meth c s₁ Bd hml hP hK
  obtain ⟨rfl, hZ, hh⟩ := hP
  exact body p e s m below meth c s₁ Bd.exec Bd.bytes hml (findClass_of_methodNamed Bd.named) (name_of_methodNamed Bd.named Bd.method).1 Bd.returns Bd.notSynchronized hZ (Stand.of_body Bd) (by rw [← hh, Bd.state]; rfl)
theorem start {g g' : JFrame} (q : g = g') (k : Go p e below P (T.setTop g')) : Go p e below P (T.setTop g) := q ▸ k
theorem induct {α : Type} (S : α → State) (I : Nat → α → Prop) (base : ∀ a, I 0 a → Go p e below P (S a)) (step : ∀ k a, I (k + 1) a → (∀ a', I k a' → Go p e below P (S a')) → Go p e below P (S a)) {n : Nat} {a : α} (w : I n a) : Go p e below P (S a) := by
  induction n generalizing a with
  | zero => exact base a w
  | succ k ih => exact step k a w (fun a' w' => ih w')
/-! plain steps -/
theorem aloadN (X : Stand p l e R s m args below meth c T locs cells slots) (hx : p.tables.exec = Jvm.exec) {i : Fin 4} {v : Value} (hd : decode c.code pc = .ok (.aload_n i, 1)) (hl : L[i.val]? = some (.val v)) (hv : v.isRef = true) (k : Go p e below P (T.setTop (mkF m (pc + 1) L (v :: st)))) : Go p e below P (T.setTop (mkF m pc L st)) := Go.via (fun _ q => XS.aloadN X.here hx rfl hd hl hv q) k
theorem aload (X : Stand p l e R s m args below meth c T locs cells slots) (hx : p.tables.exec = Jvm.exec) {i : Nat} {v : Value} (hd : decode c.code pc = .ok (.aload i, 2)) (hl : L[i]? = some (.val v)) (hv : v.isRef = true) (k : Go p e below P (T.setTop (mkF m (pc + 2) L (v :: st)))) : Go p e below P (T.setTop (mkF m pc L st)) := Go.via (fun _ q => XS.aload X.here hx rfl hd hl hv q) k
theorem iloadN (X : Stand p l e R s m args below meth c T locs cells slots) (hx : p.tables.exec = Jvm.exec) {i : Fin 4} {v : Int32} (hd : decode c.code pc = .ok (.iload_n i, 1)) (hl : L[i.val]? = some (.val (.int v))) (k : Go p e below P (T.setTop (mkF m (pc + 1) L (.int v :: st)))) : Go p e below P (T.setTop (mkF m pc L st)) := Go.via (fun _ q => XS.iloadN X.here hx rfl hd hl q) k
theorem iload (X : Stand p l e R s m args below meth c T locs cells slots) (hx : p.tables.exec = Jvm.exec) {i : Nat} {v : Int32} (hd : decode c.code pc = .ok (.iload i, 2)) (hl : L[i]? = some (.val (.int v))) (k : Go p e below P (T.setTop (mkF m (pc + 2) L (.int v :: st)))) : Go p e below P (T.setTop (mkF m pc L st)) := Go.via (fun _ q => XS.iload X.here hx rfl hd hl q) k
theorem lloadN (X : Stand p l e R s m args below meth c T locs cells slots) (hx : p.tables.exec = Jvm.exec) {i : Fin 4} {v : Int64} (hd : decode c.code pc = .ok (.lload_n i, 1)) (hl : L[i.val]? = some (.val (.long v))) (k : Go p e below P (T.setTop (mkF m (pc + 1) L (.long v :: st)))) : Go p e below P (T.setTop (mkF m pc L st)) := Go.via (fun _ q => XT.lloadN X.here hx rfl hd hl q) k
theorem lload (X : Stand p l e R s m args below meth c T locs cells slots) (hx : p.tables.exec = Jvm.exec) {i : Nat} {v : Int64} (hd : decode c.code pc = .ok (.lload i, 2)) (hl : L[i]? = some (.val (.long v))) (k : Go p e below P (T.setTop (mkF m (pc + 2) L (.long v :: st)))) : Go p e below P (T.setTop (mkF m pc L st)) := Go.via (fun _ q => XT.lload X.here hx rfl hd hl q) k
theorem istoreN (X : Stand p l e R s m args below meth c T locs cells slots) (hx : p.tables.exec = Jvm.exec) {i : Fin 4} {v : Int32} (L' : Array Slot) (hd : decode c.code pc = .ok (.istore_n i, 1)) (hl : storeLocals L i.val (.int v) = some L') (k : Go p e below P (T.setTop (mkF m (pc + 1) L' st))) : Go p e below P (T.setTop (mkF m pc L (.int v :: st))) := Go.via (fun _ q => XS.istoreN X.here hx rfl hd rfl hl q) k
theorem istore (X : Stand p l e R s m args below meth c T locs cells slots) (hx : p.tables.exec = Jvm.exec) {i : Nat} {v : Int32} (L' : Array Slot) (hd : decode c.code pc = .ok (.istore i, 2)) (hl : storeLocals L i (.int v) = some L') (k : Go p e below P (T.setTop (mkF m (pc + 2) L' st))) : Go p e below P (T.setTop (mkF m pc L (.int v :: st))) := Go.via (fun _ q => XS.istore X.here hx rfl hd rfl hl q) k
theorem lstoreN (X : Stand p l e R s m args below meth c T locs cells slots) (hx : p.tables.exec = Jvm.exec) {i : Fin 4} {v : Int64} (L' : Array Slot) (hd : decode c.code pc = .ok (.lstore_n i, 1)) (hl : storeLocals L i.val (.long v) = some L') (k : Go p e below P (T.setTop (mkF m (pc + 1) L' st))) : Go p e below P (T.setTop (mkF m pc L (.long v :: st))) := Go.via (fun _ q => XT.lstoreN X.here hx rfl hd rfl hl q) k
theorem lstore (X : Stand p l e R s m args below meth c T locs cells slots) (hx : p.tables.exec = Jvm.exec) {i : Nat} {v : Int64} (L' : Array Slot) (hd : decode c.code pc = .ok (.lstore i, 2)) (hl : storeLocals L i (.long v) = some L') (k : Go p e below P (T.setTop (mkF m (pc + 2) L' st))) : Go p e below P (T.setTop (mkF m pc L (.long v :: st))) := Go.via (fun _ q => XT.lstore X.here hx rfl hd rfl hl q) k
theorem astoreN (X : Stand p l e R s m args below meth c T locs cells slots) (hx : p.tables.exec = Jvm.exec) {i : Fin 4} {v : Value} (L' : Array Slot) (hd : decode c.code pc = .ok (.astore_n i, 1)) (hv : v.isRef = true) (hl : storeLocals L i.val v = some L') (k : Go p e below P (T.setTop (mkF m (pc + 1) L' st))) : Go p e below P (T.setTop (mkF m pc L (v :: st))) := Go.via (fun _ q => XS.astoreN X.here hx rfl hd rfl hv hl q) k
theorem astore (X : Stand p l e R s m args below meth c T locs cells slots) (hx : p.tables.exec = Jvm.exec) {i : Nat} {v : Value} (L' : Array Slot) (hd : decode c.code pc = .ok (.astore i, 2)) (hv : v.isRef = true) (hl : storeLocals L i v = some L') (k : Go p e below P (T.setTop (mkF m (pc + 2) L' st))) : Go p e below P (T.setTop (mkF m pc L (v :: st))) := Go.via (fun _ q => XS.astore X.here hx rfl hd rfl hv hl q) k
theorem iconst (X : Stand p l e R s m args below meth c T locs cells slots) (hx : p.tables.exec = Jvm.exec) {i : Int} (v : Int32) (hd : decode c.code pc = .ok (.iconst i, 1)) (hv : Int32.ofInt i = v) (k : Go p e below P (T.setTop (mkF m (pc + 1) L (.int v :: st)))) : Go p e below P (T.setTop (mkF m pc L st)) := Go.via (fun _ q => XS.iconst X.here hx rfl hd (hv ▸ q)) k
theorem bipush (X : Stand p l e R s m args below meth c T locs cells slots) (hx : p.tables.exec = Jvm.exec) {i : Int} (v : Int32) (hd : decode c.code pc = .ok (.bipush i, 2)) (hv : (Int8.ofInt i).toInt32 = v) (k : Go p e below P (T.setTop (mkF m (pc + 2) L (.int v :: st)))) : Go p e below P (T.setTop (mkF m pc L st)) := Go.via (fun _ q => XS.bipush X.here hx rfl hd (hv ▸ q)) k
theorem sipush (X : Stand p l e R s m args below meth c T locs cells slots) (hx : p.tables.exec = Jvm.exec) {i : Int} (v : Int32) (hd : decode c.code pc = .ok (.sipush i, 3)) (hv : (Int16.ofInt i).toInt32 = v) (k : Go p e below P (T.setTop (mkF m (pc + 3) L (.int v :: st)))) : Go p e below P (T.setTop (mkF m pc L st)) := Go.via (fun _ q => XS.sipush X.here hx rfl hd (hv ▸ q)) k
theorem lconst (X : Stand p l e R s m args below meth c T locs cells slots) (hx : p.tables.exec = Jvm.exec) {i : Fin 2} (v : Int64) (hd : decode c.code pc = .ok (.lconst i, 1)) (hv : Int64.ofNat i = v) (k : Go p e below P (T.setTop (mkF m (pc + 1) L (.long v :: st)))) : Go p e below P (T.setTop (mkF m pc L st)) := Go.via (fun _ q => XT.lconst X.here hx rfl hd (hv ▸ q)) k
theorem aconstNull (X : Stand p l e R s m args below meth c T locs cells slots) (hx : p.tables.exec = Jvm.exec) (hd : decode c.code pc = .ok (.aconst_null, 1)) (k : Go p e below P (T.setTop (mkF m (pc + 1) L (.null :: st)))) : Go p e below P (T.setTop (mkF m pc L st)) := Go.via (fun _ q => XS.aconstNull X.here hx rfl hd q) k
theorem ldcI (X : Stand p l e R s m args below meth c T locs cells slots) (hx : p.tables.exec = Jvm.exec) (hZ : Z.Warmed39 s.vm) {own : String} {i : Nat} {v : Int32} (hown : s.vm.findClass own = some m.cls) (w : (Cond.constant own i v).before a0 Z = true) (hd : decode c.code pc = .ok (.ldc i, 2)) (k : Go p e below P (T.setTop (mkF m (pc + 2) L (.int v :: st)))) : Go p e below P (T.setTop (mkF m pc L st)) := Go.via (fun _ q => X.ldcI hx hown (mvT hZ w) rfl hd q) k
theorem ldcWI (X : Stand p l e R s m args below meth c T locs cells slots) (hx : p.tables.exec = Jvm.exec) (hZ : Z.Warmed39 s.vm) {own : String} {i : Nat} {v : Int32} (hown : s.vm.findClass own = some m.cls) (w : (Cond.constant own i v).before a0 Z = true) (hd : decode c.code pc = .ok (.ldc_w i, 3)) (k : Go p e below P (T.setTop (mkF m (pc + 3) L (.int v :: st)))) : Go p e below P (T.setTop (mkF m pc L st)) := Go.via (fun _ q => X.ldcWI hx hown (mvT hZ w) rfl hd q) k
theorem ldc2J (X : Stand p l e R s m args below meth c T locs cells slots) (hx : p.tables.exec = Jvm.exec) (hZ : Z.Warmed39 s.vm) {own : String} {i : Nat} {v : Int64} (hown : s.vm.findClass own = some m.cls) (w : (Cond.constantLong own i v).before a0 Z = true) (hd : decode c.code pc = .ok (.ldc2_w i, 3)) (k : Go p e below P (T.setTop (mkF m (pc + 3) L (.long v :: st)))) : Go p e below P (T.setTop (mkF m pc L st)) := Go.via (fun _ q => X.ldc2J hx hown (mvT hZ w) rfl hd q) k
theorem iinc (X : Stand p l e R s m args below meth c T locs cells slots) (hx : p.tables.exec = Jvm.exec) {i : Nat} {d : Int} {x : Int32} (v : Int32) (L' : Array Slot) (hd : decode c.code pc = .ok (.iinc i d, 3)) (hv : Int32.ofInt d = v) (hl : L[i]? = some (.val (.int x))) (hl' : storeLocals L i (.int (x + v)) = some L') (k : Go p e below P (T.setTop (mkF m (pc + 3) L' st))) : Go p e below P (T.setTop (mkF m pc L st)) := Go.via (fun _ q => XS.iinc X.here hx rfl hd hl (hv ▸ hl') q) k
theorem goto (X : Stand p l e R s m args below meth c T locs cells slots) (hx : p.tables.exec = Jvm.exec) {o : Int} (pc' : Nat) (hd : decode c.code pc = .ok (.goto o, 3)) (ho : 0 ≤ (pc : Int) + o) (hp : ((pc : Int) + o).toNat = pc') (k : Go p e below P (T.setTop (mkF m pc' L st))) : Go p e below P (T.setTop (mkF m pc L st)) := Go.via (fun _ q => XS.goto X.here hx rfl rfl hd ho hp q) k
theorem ifYes (X : Stand p l e R s m args below meth c T locs cells slots) (hx : p.tables.exec = Jvm.exec) {cd : ClassFile.Cond} {x : Int32} {o : Int} (pc' : Nat) (hd : decode c.code pc = .ok (.ifCond cd o, 3)) (hc : ifCond.holds cd x = true) (ho : 0 ≤ (pc : Int) + o) (hp : ((pc : Int) + o).toNat = pc') (k : Go p e below P (T.setTop (mkF m pc' L st))) : Go p e below P (T.setTop (mkF m pc L (.int x :: st))) := Go.via (fun _ q => XS.ifYes X.here hx rfl rfl hd rfl hc ho hp q) k
theorem ifNo (X : Stand p l e R s m args below meth c T locs cells slots) (hx : p.tables.exec = Jvm.exec) {cd : ClassFile.Cond} {x : Int32} {o : Int} (hd : decode c.code pc = .ok (.ifCond cd o, 3)) (hc : ifCond.holds cd x = false) (k : Go p e below P (T.setTop (mkF m (pc + 3) L st))) : Go p e below P (T.setTop (mkF m pc L (.int x :: st))) := Go.via (fun _ q => XS.ifNo X.here hx rfl hd rfl hc q) k
theorem icmpYes (X : Stand p l e R s m args below meth c T locs cells slots) (hx : p.tables.exec = Jvm.exec) {cd : ClassFile.Cond} {x y : Int32} {o : Int} (pc' : Nat) (hd : decode c.code pc = .ok (.if_icmp cd o, 3)) (hc : if_icmp.holds cd x y = true) (ho : 0 ≤ (pc : Int) + o) (hp : ((pc : Int) + o).toNat = pc') (k : Go p e below P (T.setTop (mkF m pc' L st))) : Go p e below P (T.setTop (mkF m pc L (.int y :: .int x :: st))) := Go.via (fun _ q => XS.icmpYes X.here hx rfl rfl hd rfl hc ho hp q) k
theorem icmpNo (X : Stand p l e R s m args below meth c T locs cells slots) (hx : p.tables.exec = Jvm.exec) {cd : ClassFile.Cond} {x y : Int32} {o : Int} (hd : decode c.code pc = .ok (.if_icmp cd o, 3)) (hc : if_icmp.holds cd x y = false) (k : Go p e below P (T.setTop (mkF m (pc + 3) L st))) : Go p e below P (T.setTop (mkF m pc L (.int y :: .int x :: st))) := Go.via (fun _ q => XS.icmpNo X.here hx rfl hd rfl hc q) k
theorem ifnullYes (X : Stand p l e R s m args below meth c T locs cells slots) (hx : p.tables.exec = Jvm.exec) {o : Int} (pc' : Nat) (hd : decode c.code pc = .ok (.ifnull o, 3)) (ho : 0 ≤ (pc : Int) + o) (hp : ((pc : Int) + o).toNat = pc') (k : Go p e below P (T.setTop (mkF m pc' L st))) : Go p e below P (T.setTop (mkF m pc L (.null :: st))) := Go.via (fun _ q => XS.ifnullYes X.here hx rfl rfl hd rfl ho hp q) k
theorem ifnullNo (X : Stand p l e R s m args below meth c T locs cells slots) (hx : p.tables.exec = Jvm.exec) {o : Int} {b : Addr} (hd : decode c.code pc = .ok (.ifnull o, 3)) (k : Go p e below P (T.setTop (mkF m (pc + 3) L st))) : Go p e below P (T.setTop (mkF m pc L (.ref b :: st))) := Go.via (fun _ q => XS.ifnullNo X.here hx rfl hd rfl q) k
theorem ifnonnullYes (X : Stand p l e R s m args below meth c T locs cells slots) (hx : p.tables.exec = Jvm.exec) {o : Int} {b : Addr} (pc' : Nat) (hd : decode c.code pc = .ok (.ifnonnull o, 3)) (ho : 0 ≤ (pc : Int) + o) (hp : ((pc : Int) + o).toNat = pc') (k : Go p e below P (T.setTop (mkF m pc' L st))) : Go p e below P (T.setTop (mkF m pc L (.ref b :: st))) := Go.via (fun _ q => XT.ifnonnullYes X.here hx rfl rfl hd rfl ho hp q) k
theorem ifnonnullNo (X : Stand p l e R s m args below meth c T locs cells slots) (hx : p.tables.exec = Jvm.exec) {o : Int} (hd : decode c.code pc = .ok (.ifnonnull o, 3)) (k : Go p e below P (T.setTop (mkF m (pc + 3) L st))) : Go p e below P (T.setTop (mkF m pc L (.null :: st))) := Go.via (fun _ q => XT.ifnonnullNo X.here hx rfl hd rfl q) k
theorem dup (X : Stand p l e R s m args below meth c T locs cells slots) (hx : p.tables.exec = Jvm.exec) {v : Value} (hd : decode c.code pc = .ok (.dup, 1)) (hc : v.category = 1) (k : Go p e below P (T.setTop (mkF m (pc + 1) L (v :: v :: st)))) : Go p e below P (T.setTop (mkF m pc L (v :: st))) := Go.via (fun _ q => XS.dup X.here hx rfl hd rfl hc q) k
theorem dup2 (X : Stand p l e R s m args below meth c T locs cells slots) (hx : p.tables.exec = Jvm.exec) {v w : Value} (hd : decode c.code pc = .ok (.dup2, 1)) (hc : v.category = 1) (hc' : w.category = 1) (k : Go p e below P (T.setTop (mkF m (pc + 1) L (v :: w :: v :: w :: st)))) : Go p e below P (T.setTop (mkF m pc L (v :: w :: st))) := Go.via (fun _ q => XT.dup2 X.here hx rfl hd rfl hc hc' q) k
theorem dup2L (X : Stand p l e R s m args below meth c T locs cells slots) (hx : p.tables.exec = Jvm.exec) {v : Int64} (hd : decode c.code pc = .ok (.dup2, 1)) (k : Go p e below P (T.setTop (mkF m (pc + 1) L (.long v :: .long v :: st)))) : Go p e below P (T.setTop (mkF m pc L (.long v :: st))) := Go.via (fun _ q => XT.dup2L X.here hx rfl hd rfl q) k
theorem dupX1 (X : Stand p l e R s m args below meth c T locs cells slots) (hx : p.tables.exec = Jvm.exec) {v w : Value} (hd : decode c.code pc = .ok (.dup_x1, 1)) (hc : v.category = 1) (hc' : w.category = 1) (k : Go p e below P (T.setTop (mkF m (pc + 1) L (v :: w :: v :: st)))) : Go p e below P (T.setTop (mkF m pc L (v :: w :: st))) := Go.via (fun _ q => XT.dupX1 X.here hx rfl hd rfl hc hc' q) k
theorem pop (X : Stand p l e R s m args below meth c T locs cells slots) (hx : p.tables.exec = Jvm.exec) {v : Value} (hd : decode c.code pc = .ok (.pop, 1)) (hc : v.category = 1) (k : Go p e below P (T.setTop (mkF m (pc + 1) L st))) : Go p e below P (T.setTop (mkF m pc L (v :: st))) := Go.via (fun _ q => XT.pop X.here hx rfl hd rfl hc q) k
theorem xdupX2 {e : Env} {below : List Frame} {T target : State} {m : MethodId} {c : Code} {g : JFrame} (h : At T m c below) (hx : p.tables.exec = Jvm.exec) (hg : g.method = m) {x y z : Value} {rest : List Value} (hd : decode c.code g.pc = .ok (.dup_x2, 1)) (hs : g.stack = x :: y :: z :: rest) (hc : x.category = 1) (hc' : y.category = 1) (hc2 : z.category = 1)
    (hr : Steps p.tables e below (T.setTop { g with pc := g.pc + 1, stack := x :: y :: z :: x :: rest }) target) : Steps p.tables e below (T.setTop g) target := by
  subst hg
  jvm_step h [h.top, hx, hd, hs, hc, hc', hc2]
  exact hr
theorem dupX2 (X : Stand p l e R s m args below meth c T locs cells slots) (hx : p.tables.exec = Jvm.exec) {v w u : Value} (hd : decode c.code pc = .ok (.dup_x2, 1)) (hc : v.category = 1) (hc' : w.category = 1) (hc2 : u.category = 1) (k : Go p e below P (T.setTop (mkF m (pc + 1) L (v :: w :: u :: v :: st)))) : Go p e below P (T.setTop (mkF m pc L (v :: w :: u :: st))) := Go.via (fun _ q => xdupX2 X.here hx rfl hd rfl hc hc' hc2 q) k
theorem xdup2X2 {e : Env} {below : List Frame} {T target : State} {m : MethodId} {c : Code} {g : JFrame} (h : At T m c below) (hx : p.tables.exec = Jvm.exec) (hg : g.method = m) {x : Int64} {y z : Value} {rest : List Value} (hd : decode c.code g.pc = .ok (.dup2_x2, 1)) (hs : g.stack = .long x :: y :: z :: rest) (hc' : y.category = 1) (hc2 : z.category = 1)
    (hr : Steps p.tables e below (T.setTop { g with pc := g.pc + 1, stack := .long x :: y :: z :: .long x :: rest }) target) : Steps p.tables e below (T.setTop g) target := by
  subst hg
  jvm_step h [h.top, hx, hd, hs, hc', hc2]
  exact hr
theorem dup2X2 (X : Stand p l e R s m args below meth c T locs cells slots) (hx : p.tables.exec = Jvm.exec) {v : Int64} {w u : Value} (hd : decode c.code pc = .ok (.dup2_x2, 1)) (hc' : w.category = 1) (hc2 : u.category = 1) (k : Go p e below P (T.setTop (mkF m (pc + 1) L (.long v :: w :: u :: .long v :: st)))) : Go p e below P (T.setTop (mkF m pc L (.long v :: w :: u :: st))) := Go.via (fun _ q => xdup2X2 X.here hx rfl hd rfl hc' hc2 q) k
theorem iadd (X : Stand p l e R s m args below meth c T locs cells slots) (hx : p.tables.exec = Jvm.exec) {x y : Int32} (hd : decode c.code pc = .ok (.iadd, 1)) (k : Go p e below P (T.setTop (mkF m (pc + 1) L (.int (x + y) :: st)))) : Go p e below P (T.setTop (mkF m pc L (.int y :: .int x :: st))) := Go.via (fun _ q => XS.iadd X.here hx rfl hd rfl q) k
theorem isub (X : Stand p l e R s m args below meth c T locs cells slots) (hx : p.tables.exec = Jvm.exec) {x y : Int32} (hd : decode c.code pc = .ok (.isub, 1)) (k : Go p e below P (T.setTop (mkF m (pc + 1) L (.int (x - y) :: st)))) : Go p e below P (T.setTop (mkF m pc L (.int y :: .int x :: st))) := Go.via (fun _ q => XS.isub X.here hx rfl hd rfl q) k
theorem imul (X : Stand p l e R s m args below meth c T locs cells slots) (hx : p.tables.exec = Jvm.exec) {x y : Int32} (hd : decode c.code pc = .ok (.imul, 1)) (k : Go p e below P (T.setTop (mkF m (pc + 1) L (.int (x * y) :: st)))) : Go p e below P (T.setTop (mkF m pc L (.int y :: .int x :: st))) := Go.via (fun _ q => XS.imul X.here hx rfl hd rfl q) k
theorem iand (X : Stand p l e R s m args below meth c T locs cells slots) (hx : p.tables.exec = Jvm.exec) {x y : Int32} (hd : decode c.code pc = .ok (.iand, 1)) (k : Go p e below P (T.setTop (mkF m (pc + 1) L (.int (x &&& y) :: st)))) : Go p e below P (T.setTop (mkF m pc L (.int y :: .int x :: st))) := Go.via (fun _ q => XS.iand X.here hx rfl hd rfl q) k
theorem ior (X : Stand p l e R s m args below meth c T locs cells slots) (hx : p.tables.exec = Jvm.exec) {x y : Int32} (hd : decode c.code pc = .ok (.ior, 1)) (k : Go p e below P (T.setTop (mkF m (pc + 1) L (.int (x ||| y) :: st)))) : Go p e below P (T.setTop (mkF m pc L (.int y :: .int x :: st))) := Go.via (fun _ q => XT.ior X.here hx rfl hd rfl q) k
theorem ixor (X : Stand p l e R s m args below meth c T locs cells slots) (hx : p.tables.exec = Jvm.exec) {x y : Int32} (hd : decode c.code pc = .ok (.ixor, 1)) (k : Go p e below P (T.setTop (mkF m (pc + 1) L (.int (x ^^^ y) :: st)))) : Go p e below P (T.setTop (mkF m pc L (.int y :: .int x :: st))) := Go.via (fun _ q => XT.ixor X.here hx rfl hd rfl q) k
theorem ishl (X : Stand p l e R s m args below meth c T locs cells slots) (hx : p.tables.exec = Jvm.exec) {x y : Int32} (hd : decode c.code pc = .ok (.ishl, 1)) (k : Go p e below P (T.setTop (mkF m (pc + 1) L (.int (x <<< (y &&& 31)) :: st)))) : Go p e below P (T.setTop (mkF m pc L (.int y :: .int x :: st))) := Go.via (fun _ q => XT.ishl X.here hx rfl hd rfl q) k
theorem ishr (X : Stand p l e R s m args below meth c T locs cells slots) (hx : p.tables.exec = Jvm.exec) {x y : Int32} (hd : decode c.code pc = .ok (.ishr, 1)) (k : Go p e below P (T.setTop (mkF m (pc + 1) L (.int (x >>> (y &&& 31)) :: st)))) : Go p e below P (T.setTop (mkF m pc L (.int y :: .int x :: st))) := Go.via (fun _ q => XT.ishr X.here hx rfl hd rfl q) k
theorem iushr (X : Stand p l e R s m args below meth c T locs cells slots) (hx : p.tables.exec = Jvm.exec) {x y : Int32} (hd : decode c.code pc = .ok (.iushr, 1)) (k : Go p e below P (T.setTop (mkF m (pc + 1) L (.int (XT.ushr x y) :: st)))) : Go p e below P (T.setTop (mkF m pc L (.int y :: .int x :: st))) := Go.via (fun _ q => XT.iushr X.here hx rfl hd rfl q) k
theorem idiv (X : Stand p l e R s m args below meth c T locs cells slots) (hx : p.tables.exec = Jvm.exec) {x y : Int32} (hd : decode c.code pc = .ok (.idiv, 1)) (hy : y ≠ 0) (k : Go p e below P (T.setTop (mkF m (pc + 1) L (.int (x / y) :: st)))) : Go p e below P (T.setTop (mkF m pc L (.int y :: .int x :: st))) := Go.via (fun _ q => XS.idiv X.here hx rfl hd rfl hy q) k
theorem irem (X : Stand p l e R s m args below meth c T locs cells slots) (hx : p.tables.exec = Jvm.exec) {x y : Int32} (hd : decode c.code pc = .ok (.irem, 1)) (hy : y ≠ 0) (k : Go p e below P (T.setTop (mkF m (pc + 1) L (.int (x % y) :: st)))) : Go p e below P (T.setTop (mkF m pc L (.int y :: .int x :: st))) := Go.via (fun _ q => iremM X hx (g := mkF m pc L (.int y :: .int x :: st)) rfl hd rfl hy q) k
theorem ladd (X : Stand p l e R s m args below meth c T locs cells slots) (hx : p.tables.exec = Jvm.exec) {x y : Int64} (hd : decode c.code pc = .ok (.ladd, 1)) (k : Go p e below P (T.setTop (mkF m (pc + 1) L (.long (x + y) :: st)))) : Go p e below P (T.setTop (mkF m pc L (.long y :: .long x :: st))) := Go.via (fun _ q => XT.ladd X.here hx rfl hd rfl q) k
theorem lsub (X : Stand p l e R s m args below meth c T locs cells slots) (hx : p.tables.exec = Jvm.exec) {x y : Int64} (hd : decode c.code pc = .ok (.lsub, 1)) (k : Go p e below P (T.setTop (mkF m (pc + 1) L (.long (x - y) :: st)))) : Go p e below P (T.setTop (mkF m pc L (.long y :: .long x :: st))) := Go.via (fun _ q => XT.lsub X.here hx rfl hd rfl q) k
theorem lmul (X : Stand p l e R s m args below meth c T locs cells slots) (hx : p.tables.exec = Jvm.exec) {x y : Int64} (hd : decode c.code pc = .ok (.lmul, 1)) (k : Go p e below P (T.setTop (mkF m (pc + 1) L (.long (x * y) :: st)))) : Go p e below P (T.setTop (mkF m pc L (.long y :: .long x :: st))) := Go.via (fun _ q => XT.lmul X.here hx rfl hd rfl q) k
theorem land (X : Stand p l e R s m args below meth c T locs cells slots) (hx : p.tables.exec = Jvm.exec) {x y : Int64} (hd : decode c.code pc = .ok (.land, 1)) (k : Go p e below P (T.setTop (mkF m (pc + 1) L (.long (x &&& y) :: st)))) : Go p e below P (T.setTop (mkF m pc L (.long y :: .long x :: st))) := Go.via (fun _ q => XT.land X.here hx rfl hd rfl q) k
theorem lor (X : Stand p l e R s m args below meth c T locs cells slots) (hx : p.tables.exec = Jvm.exec) {x y : Int64} (hd : decode c.code pc = .ok (.lor, 1)) (k : Go p e below P (T.setTop (mkF m (pc + 1) L (.long (x ||| y) :: st)))) : Go p e below P (T.setTop (mkF m pc L (.long y :: .long x :: st))) := Go.via (fun _ q => XT.lor X.here hx rfl hd rfl q) k
theorem lxor (X : Stand p l e R s m args below meth c T locs cells slots) (hx : p.tables.exec = Jvm.exec) {x y : Int64} (hd : decode c.code pc = .ok (.lxor, 1)) (k : Go p e below P (T.setTop (mkF m (pc + 1) L (.long (x ^^^ y) :: st)))) : Go p e below P (T.setTop (mkF m pc L (.long y :: .long x :: st))) := Go.via (fun _ q => XT.lxor X.here hx rfl hd rfl q) k
theorem lshl (X : Stand p l e R s m args below meth c T locs cells slots) (hx : p.tables.exec = Jvm.exec) {x : Int64} {y : Int32} (hd : decode c.code pc = .ok (.lshl, 1)) (k : Go p e below P (T.setTop (mkF m (pc + 1) L (.long (x <<< (y.toInt64 &&& 63)) :: st)))) : Go p e below P (T.setTop (mkF m pc L (.int y :: .long x :: st))) := Go.via (fun _ q => XT.lshl X.here hx rfl hd rfl q) k
theorem lshr (X : Stand p l e R s m args below meth c T locs cells slots) (hx : p.tables.exec = Jvm.exec) {x : Int64} {y : Int32} (hd : decode c.code pc = .ok (.lshr, 1)) (k : Go p e below P (T.setTop (mkF m (pc + 1) L (.long (x >>> (y.toInt64 &&& 63)) :: st)))) : Go p e below P (T.setTop (mkF m pc L (.int y :: .long x :: st))) := Go.via (fun _ q => XT.lshr X.here hx rfl hd rfl q) k
theorem lushr (X : Stand p l e R s m args below meth c T locs cells slots) (hx : p.tables.exec = Jvm.exec) {x : Int64} {y : Int32} (hd : decode c.code pc = .ok (.lushr, 1)) (k : Go p e below P (T.setTop (mkF m (pc + 1) L (.long (XT.ushrL x y) :: st)))) : Go p e below P (T.setTop (mkF m pc L (.int y :: .long x :: st))) := Go.via (fun _ q => XT.lushr X.here hx rfl hd rfl q) k
theorem ldiv (X : Stand p l e R s m args below meth c T locs cells slots) (hx : p.tables.exec = Jvm.exec) {x y : Int64} (hd : decode c.code pc = .ok (.ldiv, 1)) (hy : y ≠ 0) (k : Go p e below P (T.setTop (mkF m (pc + 1) L (.long (x / y) :: st)))) : Go p e below P (T.setTop (mkF m pc L (.long y :: .long x :: st))) := Go.via (fun _ q => XT.ldiv X.here hx rfl hd rfl hy q) k
theorem lrem (X : Stand p l e R s m args below meth c T locs cells slots) (hx : p.tables.exec = Jvm.exec) {x y : Int64} (hd : decode c.code pc = .ok (.lrem, 1)) (hy : y ≠ 0) (k : Go p e below P (T.setTop (mkF m (pc + 1) L (.long (x % y) :: st)))) : Go p e below P (T.setTop (mkF m pc L (.long y :: .long x :: st))) := Go.via (fun _ q => XT.lrem X.here hx rfl hd rfl hy (by rw [lrem_mod]; exact q)) k
theorem ineg (X : Stand p l e R s m args below meth c T locs cells slots) (hx : p.tables.exec = Jvm.exec) {x : Int32} (hd : decode c.code pc = .ok (.ineg, 1)) (k : Go p e below P (T.setTop (mkF m (pc + 1) L (.int ((-x)) :: st)))) : Go p e below P (T.setTop (mkF m pc L (.int x :: st))) := Go.via (fun _ q => XS.ineg X.here hx rfl hd rfl q) k
theorem lneg (X : Stand p l e R s m args below meth c T locs cells slots) (hx : p.tables.exec = Jvm.exec) {x : Int64} (hd : decode c.code pc = .ok (.lneg, 1)) (k : Go p e below P (T.setTop (mkF m (pc + 1) L (.long ((-x)) :: st)))) : Go p e below P (T.setTop (mkF m pc L (.long x :: st))) := Go.via (fun _ q => XT.lneg X.here hx rfl hd rfl q) k
theorem i2l (X : Stand p l e R s m args below meth c T locs cells slots) (hx : p.tables.exec = Jvm.exec) {x : Int32} (hd : decode c.code pc = .ok (.i2l, 1)) (k : Go p e below P (T.setTop (mkF m (pc + 1) L (.long (x.toInt64) :: st)))) : Go p e below P (T.setTop (mkF m pc L (.int x :: st))) := Go.via (fun _ q => XT.i2l X.here hx rfl hd rfl q) k
theorem l2i (X : Stand p l e R s m args below meth c T locs cells slots) (hx : p.tables.exec = Jvm.exec) {x : Int64} (hd : decode c.code pc = .ok (.l2i, 1)) (k : Go p e below P (T.setTop (mkF m (pc + 1) L (.int (x.toInt32) :: st)))) : Go p e below P (T.setTop (mkF m pc L (.long x :: st))) := Go.via (fun _ q => XT.l2i X.here hx rfl hd rfl q) k
theorem i2b (X : Stand p l e R s m args below meth c T locs cells slots) (hx : p.tables.exec = Jvm.exec) {x : Int32} (hd : decode c.code pc = .ok (.i2b, 1)) (k : Go p e below P (T.setTop (mkF m (pc + 1) L (.int (x.toInt8.toInt32) :: st)))) : Go p e below P (T.setTop (mkF m pc L (.int x :: st))) := Go.via (fun _ q => XT.i2b X.here hx rfl hd rfl q) k
theorem i2c (X : Stand p l e R s m args below meth c T locs cells slots) (hx : p.tables.exec = Jvm.exec) {x : Int32} (hd : decode c.code pc = .ok (.i2c, 1)) (k : Go p e below P (T.setTop (mkF m (pc + 1) L (.int (x.toUInt32.toUInt16.toUInt32.toInt32) :: st)))) : Go p e below P (T.setTop (mkF m pc L (.int x :: st))) := Go.via (fun _ q => XT.i2c X.here hx rfl hd rfl q) k
theorem i2s (X : Stand p l e R s m args below meth c T locs cells slots) (hx : p.tables.exec = Jvm.exec) {x : Int32} (hd : decode c.code pc = .ok (.i2s, 1)) (k : Go p e below P (T.setTop (mkF m (pc + 1) L (.int (x.toInt16.toInt32) :: st)))) : Go p e below P (T.setTop (mkF m pc L (.int x :: st))) := Go.via (fun _ q => XT.i2s X.here hx rfl hd rfl q) k
theorem lcmp (X : Stand p l e R s m args below meth c T locs cells slots) (hx : p.tables.exec = Jvm.exec) {x y : Int64} (hd : decode c.code pc = .ok (.lcmp, 1)) (k : Go p e below P (T.setTop (mkF m (pc + 1) L (.int (XT.cmpL x y) :: st)))) : Go p e below P (T.setTop (mkF m pc L (.long y :: .long x :: st))) := Go.via (fun _ q => XT.lcmp X.here hx rfl hd rfl q) k
theorem iincV (X : Stand p l e R s m args below meth c T locs cells slots) (hx : p.tables.exec = Jvm.exec) {i : Nat} {d : Int} {x : Int32} (v w : Int32) (L' : Array Slot) (hd : decode c.code pc = .ok (.iinc i d, 3)) (hv : Int32.ofInt d = v) (hl : L[i]? = some (.val (.int x))) (hw : x + v = w) (hl' : storeLocals L i (.int w) = some L') (k : Go p e below P (T.setTop (mkF m (pc + 3) L' st))) : Go p e below P (T.setTop (mkF m pc L st)) := Go.via (fun _ q => XS.iinc X.here hx rfl hd hl (hv ▸ hw ▸ hl') q) k
theorem topI {x y : Int32} (q : x = y) (k : Go p e below P (T.setTop (mkF m pc L (.int y :: st)))) : Go p e below P (T.setTop (mkF m pc L (.int x :: st))) := q ▸ k
theorem topJ {x y : Int64} (q : x = y) (k : Go p e below P (T.setTop (mkF m pc L (.long y :: st)))) : Go p e below P (T.setTop (mkF m pc L (.long x :: st))) := q ▸ k
/-! returns -/
theorem leaveR (X : Stand p l e R s m args below meth c T locs cells slots) (hk : meth.locks = false) {Q : Option Value → Heap → List Loc → Prop} {k n : Nat} {g : JFrame} {v : Option Value} (hv : meth.sig.returnType = none → v = none) (eT : T.heap = h) (hQ : Q v h locs) (hc : cells ≤ k) (hn : slots ≤ n)
    (st : ∀ fs, (∀ (f : JFrame) (acts : List Action), f.method = m → f.locked = none → f.entered = [] → (doReturn e (T.setTop f) acts v).1 = T.setFrames fs) → Steps p.tables e below (T.setTop g) (T.setFrames fs)) : Go p e below (Fini s Q k n) (T.setTop g) := by
  obtain ⟨fs, hr, hrun, hended, hW, hsame⟩ := X.leave (v := v) hv hk
  exact ⟨_, _, st fs hr, hrun, hended, _, _, rfl, by show Q v T.heap locs; rw [eT]; exact hQ, ⟨_, rfl⟩, hW, hsame.mono hc hn⟩
theorem ireturn (X : Stand p l e R s m args below meth c T locs cells slots) (hx : p.tables.exec = Jvm.exec) (hk : meth.locks = false) {Q : Option Value → Heap → List Loc → Prop} {k n : Nat} {t : FieldType} {z : Int32} (hret : meth.sig.returnType = some t) (ht : t = .int ∨ t = .boolean ∨ t = .byte ∨ t = .char ∨ t = .short) (hnr : narrow t (.int z) = .int z) (hd : decode c.code pc = .ok (.ireturn, 1)) (eT : T.heap = h) (hQ : Q (some (.int z)) h locs) (hc : cells ≤ k) (hn : slots ≤ n) : Go p e below (Fini s Q k n) (T.setTop (mkF m pc L (.int z :: rest))) :=
  leaveR X hk (v := some (.int z)) (fun q => by rw [hret] at q; cases q) eT hQ hc hn fun fs hr => retOut X hx hret hnr (Or.inl ⟨rfl, ht, z, rfl⟩) hd hr
theorem lreturn (X : Stand p l e R s m args below meth c T locs cells slots) (hx : p.tables.exec = Jvm.exec) (hk : meth.locks = false) {Q : Option Value → Heap → List Loc → Prop} {k n : Nat} {z : Int64} (hret : meth.sig.returnType = some .long) (hd : decode c.code pc = .ok (.lreturn, 1)) (eT : T.heap = h) (hQ : Q (some (.long z)) h locs) (hc : cells ≤ k) (hn : slots ≤ n) : Go p e below (Fini s Q k n) (T.setTop (mkF m pc L (.long z :: rest))) :=
  leaveR X hk (v := some (.long z)) (fun q => by rw [hret] at q; cases q) eT hQ hc hn fun fs hr => retOut X hx hret rfl (Or.inr (Or.inl ⟨rfl, rfl, z, rfl⟩)) hd hr
theorem areturn (X : Stand p l e R s m args below meth c T locs cells slots) (hx : p.tables.exec = Jvm.exec) (hk : meth.locks = false) {Q : Option Value → Heap → List Loc → Prop} {k n : Nat} {t : FieldType} {z : Value} (hret : meth.sig.returnType = some t) (ht : t.isReference = true) (hz : z.isRef = true) (hnr : narrow t z = z) (hd : decode c.code pc = .ok (.areturn, 1)) (eT : T.heap = h) (hQ : Q (some z) h locs) (hc : cells ≤ k) (hn : slots ≤ n) : Go p e below (Fini s Q k n) (T.setTop (mkF m pc L (z :: rest))) :=
  leaveR X hk (v := some z) (fun q => by rw [hret] at q; cases q) eT hQ hc hn fun fs hr => retOut X hx hret hnr (Or.inr (Or.inr (Or.inr (Or.inr ⟨rfl, ht, hz⟩)))) hd hr
theorem vreturn (X : Stand p l e R s m args below meth c T locs cells slots) (hx : p.tables.exec = Jvm.exec) (hk : meth.locks = false) {Q : Option Value → Heap → List Loc → Prop} {k n : Nat} (hret : meth.sig.returnType = none) (hd : decode c.code pc = .ok (.return_, 1)) (eT : T.heap = h) (hQ : Q none h locs) (hc : cells ≤ k) (hn : slots ≤ n) : Go p e below (Fini s Q k n) (T.setTop (mkF m pc L [])) :=
  leaveR X hk (v := none) (fun _ => rfl) eT hQ hc hn fun fs hr => X.returnOut hx hret hd hr
/-! String constants: the start with the tables at hand -/
def FiniW (s : State) (Q : Option Value → Heap → List Loc → Prop) (k n : Nat) (o : Outcome) (U : State) : Prop :=
  ∃ v L, o = .returned v ∧ Q v U.heap L ∧ ReturnedEndW s o U L k n
def CtW (l : Launch) (y : MethodName) (bytes : ByteArray) (maxL : Nat) (ret : Option FieldType) (ws : List Jvm.Cond) (rm : Room) (Z : State) (as : Array Value) (h : Heap) (Q : Option Value → Heap → List Loc → Prop) : Prop :=
  MetFree l y (head1 (Jvm.Cond.code y bytes maxL ret :: ws) rm) (fun a U => a = as ∧ Z.Warmed39 U.vm ∧ U.heap = h) (fun _ _ _ _ _ => True) (fun _ U o U' => ∃ v L, o = .returned v ∧ Q v U'.heap L ∧ ReturnedEndW U o U' L rm.cells rm.slots)
theorem enterW {y : MethodName} {bytes : ByteArray} {maxL : Nat} {ret : Option FieldType} {ws : List Jvm.Cond} {rm : Room} {as : Array Value} {Q : Option Value → Heap → List Loc → Prop} (hy : plainFor y = true)
    (body : ∀ p e s m below meth c s₁, p.tables.exec = Jvm.exec → c.code = bytes → c.maxLocals = maxL → s.vm.findClass y.cls = some m.cls → meth.name = y.name → meth.sig.returnType = ret → meth.locks = false → Z.Warmed39 s.vm →
      Stand p l e rm s m as below meth c s₁ [] 0 0 → s₁.heap = h → Go p e below (FiniW s Q rm.cells rm.slots) (s₁.setTop (entryFrame m as maxL))) : CtW l y bytes maxL ret ws rm Z as h Q := by
  refine MetFree.of_bodySF hy hisR ?_
  intro p e s m args below meth c s₁ Bd hml hP hK
  obtain ⟨rfl, hZ, hh⟩ := hP
  exact body p e s m below meth c s₁ Bd.exec Bd.bytes hml (findClass_of_methodNamed Bd.named) (name_of_methodNamed Bd.named Bd.method).1 Bd.returns Bd.notSynchronized hZ (Stand.of_body Bd) (by rw [← hh, Bd.state]; rfl)
theorem since0 (s : State) : s.Since s.vm 0 := State.WarmedH.since (State.WarmedH.refl s) 0
theorem ldcStr {vm0 : Vm} (X : Stand p l e R (s.setVm vm0) m args below meth c T locs cells slots) (hx : p.tables.exec = Jvm.exec) (hZ : Z.Warmed39 vm0) {own text : String} {i : Nat} (hown : vm0.findClass own = some m.cls) (w : (Cond.stringLink own i text).before a0 Z = true) (wS : ∀ a ∈ Bundle.stringAtoms, a.before a0 Z = true)
    (eT : T.heap = h) {k0 : Nat} (hS : s.Since vm0 k0) (hk : k0 ≤ h.size) (hd : decode c.code pc = .ok (.ldc i, 2)) (n : Nat) (hn : 4 * text.toList.length ≤ n) (hbig : n ≤ 536870912) (hc : cells + 2 ≤ R.cells) (hl : slots + (n + 4) ≤ R.slots)
    (k : ∀ (a : Addr) (T' : State) (h' : Heap) (k1 : Nat), Stand p l e R (s.setVm T'.vm) m args below meth c T' locs (cells + 2) (slots + (n + 4)) → T'.heap = h' → Ext h h' → s.Since T'.vm k1 → k1 ≤ h'.size → Z.Warmed39 (s.setVm T'.vm).vm → (s.setVm T'.vm).vm.findClass own = some m.cls → Go p e below P (T'.setTop (mkF m (pc + 2) L (.ref a :: st)))) : Go p e below P (T.setTop (mkF m pc L st)) := by
  obtain ⟨a, T', h', k1, X', e', E, hS', hk', hZ', hown', q⟩ := ldcS X hx hZ hown w wS eT hS hk (g := mkF m pc L st) rfl hd hn hbig hc hl
  exact Go.via q (k a T' h' k1 X' e' E hS' hk' hZ' hown')
theorem ireturnW {vm0 : Vm} (X : Stand p l e R (s.setVm vm0) m args below meth c T locs cells slots) (hx : p.tables.exec = Jvm.exec) (hk : meth.locks = false) {Q : Option Value → Heap → List Loc → Prop} {k n : Nat} {t : FieldType} {z : Int32} (hret : meth.sig.returnType = some t) (ht : t = .int ∨ t = .boolean ∨ t = .byte ∨ t = .char ∨ t = .short) (hnr : narrow t (.int z) = .int z) (hd : decode c.code pc = .ok (.ireturn, 1)) (eT : T.heap = h) {k0 : Nat} (hS : s.Since vm0 k0) (hk0 : k0 ≤ h.size) (hQ : Q (some (.int z)) h locs) (hc : cells ≤ k) (hn : slots ≤ n) : Go p e below (FiniW s Q k n) (T.setTop (mkF m pc L (.int z :: rest))) := by
  obtain ⟨fs, hr, hrun, hended, hW⟩ := X.leaveW hS (by rw [eT]; exact hk0) (v := some (.int z)) (fun q => by rw [hret] at q; cases q) hk
  exact ⟨_, _, retOut X hx hret hnr (Or.inl ⟨rfl, ht, z, rfl⟩) hd hr, hrun, hended, _, _, rfl, by show Q (some (.int z)) T.heap locs; rw [eT]; exact hQ, hW.1, hW.2.1, hW.2.2.1, hW.2.2.2.mono hc hn⟩
/-! fields, objects -/
theorem getfield (X : Stand p l e R s m args below meth c T locs cells slots) (hx : p.tables.exec = Jvm.exec) (hZ : Z.Warmed39 s.vm) {own R0 O n d host : String} {i : Nat} (hown : s.vm.findClass own = some m.cls) (w : (Cond.fieldLink own i R0 n d).before a0 Z = true ∨ (Cond.fieldLinkNest own i R0 n d host).before a0 Z = true) (via : Via Z R0 O n d)
    (eT : T.heap = h) {a : Addr} {v : Value} (F : Fld Z h a O n d v) (hd : decode c.code pc = .ok (.getfield i, 3)) (k : ∀ T', Stand p l e R s m args below meth c T' locs cells slots → T'.heap = h → Go p e below P (T'.setTop (mkF m (pc + 3) L (v :: st)))) : Go p e below P (T.setTop (mkF m pc L (.ref a :: st))) := by
  obtain ⟨T', X', e', q⟩ := getF X hx hZ hown w via eT F (g := mkF m pc L (.ref a :: st)) rfl rfl hd
  exact Go.via q (k T' X' e')
theorem putfield (X : Stand p l e R s m args below meth c T locs cells slots) (hx : p.tables.exec = Jvm.exec) (hZ : Z.Warmed39 s.vm) {own R0 O n d host C : String} {i kk : Nat} {ty : FieldType} (hown : s.vm.findClass own = some m.cls) (w : (Cond.fieldLink own i R0 n d).before a0 Z = true ∨ (Cond.fieldLinkNest own i R0 n d host).before a0 Z = true) (via : Via Z R0 O n d)
    (eT : T.heap = h) {a : Addr} {v old : Value} (F : Fld Z h a O n d old) (E : Exa Z h a C) (Ly : (Cond.lays C O n d).before a0 Z = true ∨ ((Cond.laysFinal C O n d).before a0 Z = true ∧ own = O ∧ meth.name = "<init>")) (wi : (Cond.instantiable C kk).before a0 Z = true)
    (hty : parseFieldDescriptor d = some ty) (hn : narrow ty v = v) (hf : fits ty v = true) {n0 : Nat} (N : Fr n0 locs) (ga : n0 ≤ a) (hd : decode c.code pc = .ok (.putfield i, 3))
    (k : ∀ T' h', Stand p l e R s m args below meth c T' (locs ++ [⟨a, Jvm.RoadKit.slotOf Z O n d⟩]) cells slots → T'.heap = h' → Wr h h' a (Jvm.RoadKit.slotOf Z O n d) v → Fr n0 (locs ++ [⟨a, Jvm.RoadKit.slotOf Z O n d⟩]) → Fld Z h' a O n d v → Go p e below P (T'.setTop (mkF m (pc + 3) L st))) : Go p e below P (T.setTop (mkF m pc L (v :: .ref a :: st))) := by
  obtain ⟨T', h', X', e', W, q⟩ := putF X hx hZ hown w via eT F E Ly wi hty hn hf (g := mkF m pc L (v :: .ref a :: st)) rfl rfl hd
  exact Go.via q (k T' h' X' e' W (Fr.snoc X' N ga) (F.same W))
theorem putfieldN (X : Stand p l e R s m args below meth c T locs cells slots) (hx : p.tables.exec = Jvm.exec) (hZ : Z.Warmed39 s.vm) {own R0 O n d C : String} {i kk : Nat} {ty : FieldType} (hown : s.vm.findClass own = some m.cls) (w : (Cond.fieldLink own i R0 n d).before a0 Z = true) (via : Via Z R0 O n d)
    (eT : T.heap = h) {a : Addr} {v v' old : Value} (F : Fld Z h a O n d old) (E : Exa Z h a C) (Ly : (Cond.lays C O n d).before a0 Z = true ∨ ((Cond.laysFinal C O n d).before a0 Z = true ∧ own = O ∧ meth.name = "<init>")) (wi : (Cond.instantiable C kk).before a0 Z = true)
    (hty : parseFieldDescriptor d = some ty) (hn : narrow ty v = v') (hf : fits ty v' = true) {n0 : Nat} (N : Fr n0 locs) (ga : n0 ≤ a) (hd : decode c.code pc = .ok (.putfield i, 3))
    (k : ∀ T' h', Stand p l e R s m args below meth c T' (locs ++ [⟨a, Jvm.RoadKit.slotOf Z O n d⟩]) cells slots → T'.heap = h' → Wr h h' a (Jvm.RoadKit.slotOf Z O n d) v' → Fr n0 (locs ++ [⟨a, Jvm.RoadKit.slotOf Z O n d⟩]) → Fld Z h' a O n d v' → Go p e below P (T'.setTop (mkF m (pc + 3) L st))) : Go p e below P (T.setTop (mkF m pc L (v :: .ref a :: st))) := by
  obtain ⟨T', h', X', e', W, q⟩ := putFN X hx hZ hown w via eT F E Ly wi hty hn hf (g := mkF m pc L (v :: .ref a :: st)) rfl rfl hd
  exact Go.via q (k T' h' X' e' W (Fr.snoc X' N ga) (F.same W))
theorem newobj (X : Stand p l e R s m args below meth c T locs cells slots) (hx : p.tables.exec = Jvm.exec) (hZ : Z.Warmed39 s.vm) {own C : String} {i n : Nat} (hown : s.vm.findClass own = some m.cls) (w : (Cond.classLink own i C).before a0 Z = true) (wi : (Cond.instantiable C n).before a0 Z = true) (wz : (Cond.initialized C).before a0 Z = true) (eT : T.heap = h)
    (hd : decode c.code pc = .ok (.new i, 3)) (hc : cells + 1 ≤ R.cells) (hl : slots + n ≤ R.slots)
    (k : ∀ T' h' b, b = h.size → Stand p l e R s m args below meth c T' locs (cells + 1) (slots + n) → T'.heap = h' → Ext h h' → Exa Z h' b C → (∀ {O nm d : String} {ty : FieldType}, Laid Z a0 C O nm d → parseFieldDescriptor d = some ty → Fld Z h' b O nm d (defaultValue ty)) → Go p e below P (T'.setTop (mkF m (pc + 3) L (.ref b :: st)))) : Go p e below P (T.setTop (mkF m pc L st)) := by
  obtain ⟨T', h', X', e', E, A, D, -, q⟩ := newO X hx hZ hown w wi wz eT (g := mkF m pc L st) rfl hd hc hl
  exact Go.via q (k T' h' h.size rfl X' e' E A D)
theorem initObj (X : Stand p l e R s m args below meth c T locs cells slots) (hx : p.tables.exec = Jvm.exec) (hZ : Z.Warmed39 s.vm) {own : String} {i : Nat} (hown : s.vm.findClass own = some m.cls) (w1 : (Cond.methodLink own i Lib.objectInit).before a0 Z = true) (w2 : (Cond.instanceMethod Lib.objectInit).before a0 Z = true)
    (w3 : (Cond.code Lib.objectInit ⟨#[0xb1]⟩ 1 none).before a0 Z = true) (eT : T.heap = h) (hsize : L.size = c.maxLocals) {a : Addr} (hd : decode c.code pc = .ok (.invokespecial i, 3)) (hf : 1 ≤ R.frames) (W : Nat) (hW : (st.map fun v => v.category).sum ≤ W) (hl : W + 12 ≤ R.locals)
    (k : ∀ T', Stand p l e R s m args below meth c T' locs cells slots → T'.heap = h → Go p e below P (T'.setTop (mkF m (pc + 3) L st))) : Go p e below P (T.setTop (mkF m pc L (.ref a :: st))) := by
  obtain ⟨T', X', e', q⟩ := initO X hx hZ hown w1 w2 w3 eT (g := mkF m pc L (.ref a :: st)) rfl hsize rfl hd hf (W := W) (by show 2 * 0 + _ ≤ _; omega) hl
  exact Go.via q (k T' X' e')
/-! arrays -/
/-- the array at a holds just these values -/
def VArr (Z : State) (h : Heap) (a : Addr) (ty : FieldType) (vs : List Value) : Prop := ∃ c : Cell, Arr Z h a c ty ∧ c.slots = vs.toArray ∧ vs.length < 2 ^ 31
section VA
variable {h' : Heap} {a b : Addr} {ty : FieldType} {vs : List Value} {sl : Nat} {v : Value} {ws : List Addr}
theorem VArr.lt (F : VArr Z h a ty vs) : a < h.size := by obtain ⟨c, A, -⟩ := F; exact A.lt
theorem VArr.ext (F : VArr Z h a ty vs) (E : Ext h h') : VArr Z h' a ty vs := by obtain ⟨c, A, r⟩ := F; exact ⟨c, A.ext E, r⟩
theorem VArr.other (F : VArr Z h b ty vs) (W : Wr h h' a sl v) (q : b ≠ a) : VArr Z h' b ty vs := by obtain ⟨c, A, r⟩ := F; exact ⟨c, A.other W q, r⟩
theorem VArr.keep (F : VArr Z h a ty vs) (K : Keep h h' ws) (q : a ∉ ws) : VArr Z h' a ty vs := by obtain ⟨c, A, r⟩ := F; exact ⟨c, ⟨K.2.1 a c A.1 q, A.2⟩, r⟩
theorem VArr.same (F : VArr Z h a ty vs) (W : Wr h h' a sl v) : VArr Z h' a ty (vs.set sl v) := by
  obtain ⟨c, A, r1, r2⟩ := F
  refine ⟨c.setSlot sl v, A.same W, ?_, by simpa using r2⟩
  simp [Cell.setSlot, r1]
theorem neVE {C : String} {kk : Nat} (F : VArr Z h a ty vs) (E : Exa Z h b C) (wi : (Cond.instantiable C kk).before a0 Z = true) : a ≠ b := by
  obtain ⟨c, A, -⟩ := F
  exact (ne_arr E wi A).symm
end VA
theorem in_of {vs : List Value} {v : Value} {i : Nat} {j : Int32} {c : Cell} (hn : ¬ j < 0) (hi : j.toNatClampNeg = i) (hv : vs[i]? = some v) (r : c.slots = vs.toArray) : ¬ (j < 0 ∨ c.slots.size ≤ j.toNatClampNeg) ∧ c.slots[j.toNatClampNeg]? = some v := by
  have hlt : i < vs.length := by
    obtain ⟨q, -⟩ := List.getElem?_eq_some_iff.mp hv
    exact q
  refine ⟨fun q => ?_, ?_⟩
  · rcases q with q | q
    · exact hn q
    · rw [r, hi] at q; simp at q; omega
  · rw [hi, r]; simpa using hv
theorem in_of' {vs : List Value} {i : Nat} {j : Int32} {c : Cell} (hn : ¬ j < 0) (hi : j.toNatClampNeg = i) (hv : i < vs.length) (r : c.slots = vs.toArray) : ¬ (j < 0 ∨ c.slots.size ≤ j.toNatClampNeg) := by
  intro q
  rcases q with q | q
  · exact hn q
  · rw [r, hi] at q; simp at q; omega
theorem alen (X : Stand p l e R s m args below meth c T locs cells slots) (hx : p.tables.exec = Jvm.exec) (hZ : Z.Warmed39 s.vm) (eT : T.heap = h) {a : Addr} {ty : FieldType} {vs : List Value} (V : VArr Z h a ty vs) (n : Int32) (hn : vs.length.toInt32 = n) (hd : decode c.code pc = .ok (.arraylength, 1)) (k : Go p e below P (T.setTop (mkF m (pc + 1) L (.int n :: st)))) : Go p e below P (T.setTop (mkF m pc L (.ref a :: st))) := by
  obtain ⟨cl, A, r1, -⟩ := V
  have q : cl.slots.size.toInt32 = n := by rw [r1]; simpa using hn
  exact Go.via (fun t w => X.arraylength hx (cell := cl) (by rw [eT]; exact A.1) (State.isArrayOf_alike hZ.alike A.2.1) (g := mkF m pc L (.ref a :: st)) rfl rfl hd t (by rw [q]; exact w)) k
theorem iaload (X : Stand p l e R s m args below meth c T locs cells slots) (hx : p.tables.exec = Jvm.exec) (hZ : Z.Warmed39 s.vm) (eT : T.heap = h) {a : Addr} {vs : List Value} (V : VArr Z h a .int vs) {j : Int32} {v : Value} (i : Nat) (hn : ¬ j < 0) (hi : j.toNatClampNeg = i) (hv : vs[i]? = some v) (hd : decode c.code pc = .ok (.iaload, 1)) (k : Go p e below P (T.setTop (mkF m (pc + 1) L (v :: st)))) : Go p e below P (T.setTop (mkF m pc L (.int j :: .ref a :: st))) := by
  obtain ⟨cl, A, r1, -⟩ := V
  obtain ⟨q1, q2⟩ := in_of hn hi hv r1
  exact Go.via (fun t w => X.iaload hx (by rw [eT]; exact A.1) (State.isArrayOf_alike hZ.alike A.2.1) A.2.2 q1 q2 (g := mkF m pc L (.int j :: .ref a :: st)) rfl rfl hd t w) k
theorem laload (X : Stand p l e R s m args below meth c T locs cells slots) (hx : p.tables.exec = Jvm.exec) (hZ : Z.Warmed39 s.vm) (eT : T.heap = h) {a : Addr} {vs : List Value} (V : VArr Z h a .long vs) {j : Int32} {v : Value} (i : Nat) (hn : ¬ j < 0) (hi : j.toNatClampNeg = i) (hv : vs[i]? = some v) (hd : decode c.code pc = .ok (.laload, 1)) (k : Go p e below P (T.setTop (mkF m (pc + 1) L (v :: st)))) : Go p e below P (T.setTop (mkF m pc L (.int j :: .ref a :: st))) := by
  obtain ⟨cl, A, r1, -⟩ := V
  obtain ⟨q1, q2⟩ := in_of hn hi hv r1
  exact Go.via (fun t w => X.laload hx (by rw [eT]; exact A.1) (State.isArrayOf_alike hZ.alike A.2.1) A.2.2 q1 q2 (g := mkF m pc L (.int j :: .ref a :: st)) rfl rfl hd t w) k
theorem baload (X : Stand p l e R s m args below meth c T locs cells slots) (hx : p.tables.exec = Jvm.exec) (hZ : Z.Warmed39 s.vm) (eT : T.heap = h) {a : Addr} {vs : List Value} (V : VArr Z h a .byte vs) {j : Int32} {v : Value} (i : Nat) (hn : ¬ j < 0) (hi : j.toNatClampNeg = i) (hv : vs[i]? = some v) (hd : decode c.code pc = .ok (.baload, 1)) (k : Go p e below P (T.setTop (mkF m (pc + 1) L (v :: st)))) : Go p e below P (T.setTop (mkF m pc L (.int j :: .ref a :: st))) := by
  obtain ⟨cl, A, r1, -⟩ := V
  obtain ⟨q1, q2⟩ := in_of hn hi hv r1
  exact Go.via (fun t w => X.baloadBytes hx (by rw [eT]; exact A.1) (State.isArrayOf_alike hZ.alike A.2.1) A.2.2 q1 q2 (g := mkF m pc L (.int j :: .ref a :: st)) rfl rfl hd t w) k
theorem iastore (X : Stand p l e R s m args below meth c T locs cells slots) (hx : p.tables.exec = Jvm.exec) (hZ : Z.Warmed39 s.vm) (eT : T.heap = h) {a : Addr} {vs : List Value} (V : VArr Z h a .int vs) {j x : Int32} (i : Nat) (hn : ¬ j < 0) (hi : j.toNatClampNeg = i) (hv : i < vs.length) {n0 : Nat} (N : Fr n0 locs) (ga : n0 ≤ a) (hd : decode c.code pc = .ok (.iastore, 1))
    (k : ∀ T' h', Stand p l e R s m args below meth c T' (locs ++ [⟨a, i⟩]) cells slots → T'.heap = h' → Wr h h' a i (.int x) → Fr n0 (locs ++ [⟨a, i⟩]) → VArr Z h' a .int (vs.set i (.int x)) → Go p e below P (T'.setTop (mkF m (pc + 1) L st))) : Go p e below P (T.setTop (mkF m pc L (.int x :: .int j :: .ref a :: st))) := by
  have V0 := V
  obtain ⟨cl, A, r1, -⟩ := V
  obtain ⟨T', h', X', e', W, q⟩ := stI X hx hZ eT A (in_of' hn hi hv r1) (g := mkF m pc L (.int x :: .int j :: .ref a :: st)) rfl rfl hd
  rw [hi] at X' W
  exact Go.via q (k T' h' X' e' W (Fr.snoc X' N ga) (V0.same W))
theorem lastore (X : Stand p l e R s m args below meth c T locs cells slots) (hx : p.tables.exec = Jvm.exec) (hZ : Z.Warmed39 s.vm) (eT : T.heap = h) {a : Addr} {vs : List Value} (V : VArr Z h a .long vs) {j : Int32} {x : Int64} (i : Nat) (hn : ¬ j < 0) (hi : j.toNatClampNeg = i) (hv : i < vs.length) {n0 : Nat} (N : Fr n0 locs) (ga : n0 ≤ a) (hd : decode c.code pc = .ok (.lastore, 1))
    (k : ∀ T' h', Stand p l e R s m args below meth c T' (locs ++ [⟨a, i⟩]) cells slots → T'.heap = h' → Wr h h' a i (.long x) → Fr n0 (locs ++ [⟨a, i⟩]) → VArr Z h' a .long (vs.set i (.long x)) → Go p e below P (T'.setTop (mkF m (pc + 1) L st))) : Go p e below P (T.setTop (mkF m pc L (.long x :: .int j :: .ref a :: st))) := by
  have V0 := V
  obtain ⟨cl, A, r1, -⟩ := V
  obtain ⟨T', h', X', e', W, q⟩ := stJ X hx hZ eT A (in_of' hn hi hv r1) (g := mkF m pc L (.long x :: .int j :: .ref a :: st)) rfl rfl hd
  rw [hi] at X' W
  exact Go.via q (k T' h' X' e' W (Fr.snoc X' N ga) (V0.same W))
theorem bastore (X : Stand p l e R s m args below meth c T locs cells slots) (hx : p.tables.exec = Jvm.exec) (hZ : Z.Warmed39 s.vm) (eT : T.heap = h) {a : Addr} {vs : List Value} (V : VArr Z h a .byte vs) {j x : Int32} (i : Nat) (hn : ¬ j < 0) (hi : j.toNatClampNeg = i) (hv : i < vs.length) {n0 : Nat} (N : Fr n0 locs) (ga : n0 ≤ a) (hd : decode c.code pc = .ok (.bastore, 1))
    (k : ∀ T' h', Stand p l e R s m args below meth c T' (locs ++ [⟨a, i⟩]) cells slots → T'.heap = h' → Wr h h' a i (.int x.toInt8.toInt32) → Fr n0 (locs ++ [⟨a, i⟩]) → VArr Z h' a .byte (vs.set i (.int x.toInt8.toInt32)) → Go p e below P (T'.setTop (mkF m (pc + 1) L st))) : Go p e below P (T.setTop (mkF m pc L (.int x :: .int j :: .ref a :: st))) := by
  have V0 := V
  obtain ⟨cl, A, r1, -⟩ := V
  obtain ⟨T', h', X', e', W, q⟩ := stB X hx hZ eT A (in_of' hn hi hv r1) (g := mkF m pc L (.int x :: .int j :: .ref a :: st)) rfl rfl hd
  rw [hi] at X' W
  exact Go.via q (k T' h' X' e' W (Fr.snoc X' N ga) (V0.same W))
theorem newarr (X : Stand p l e R s m args below meth c T locs cells slots) (hx : p.tables.exec = Jvm.exec) (hZ : Z.Warmed39 s.vm) {aty : ArrayType} (w : (Cond.arrayClass (newarray.typeOf aty)).before a0 Z = true) (eT : T.heap = h) (hd : decode c.code pc = .ok (.newarray aty, 2)) {n : Int32} (hn : ¬ n < 0) (i cap : Nat) (hi : n.toNatClampNeg = i) (hcap : i ≤ cap) (hb : cap * 8 ≤ 536870912) (hc : cells + 1 ≤ R.cells) (hl : slots + cap ≤ R.slots)
    (k : ∀ T' h' b, b = h.size → Stand p l e R s m args below meth c T' locs (cells + 1) (slots + cap) → T'.heap = h' → Ext h h' → VArr Z h' b (newarray.typeOf aty) (List.replicate i (defaultValue (newarray.typeOf aty))) → Go p e below P (T'.setTop (mkF m (pc + 2) L (.ref b :: st)))) : Go p e below P (T.setTop (mkF m pc L (.int n :: st))) := by
  obtain ⟨T', h', cA, X', e', E, A, q⟩ := newP X hx hZ w eT (g := mkF m pc L (.int n :: st)) rfl hd rfl hn (cap := cap) (by rw [hi]; exact hcap) hb hc hl
  refine Go.via q (k T' h' h.size rfl X' e' E ⟨_, A, ?_, ?_⟩)
  · simp [newA, hi]
  · simp; omega
/-! calls -/
theorem callStatic (X : Stand p l e R s m args below meth c T locs cells slots) (hx : p.tables.exec = Jvm.exec) (hZ : Z.Warmed39 s.vm) {own : String} {i : Nat} {y : MethodName} {bytes : ByteArray} {maxL : Nat} {ret : Option FieldType} {rm : Room} {Q : Option Value → Heap → List Loc → Prop}
    (hown : s.vm.findClass own = some m.cls) (w1 : (Cond.methodLink own i y).before a0 Z = true) (w2 : (Cond.static y).before a0 Z = true) (w3 : (Cond.initialized y.cls).before a0 Z = true) (w4 : (Cond.code y bytes maxL ret).before a0 Z = true) (hy : y.cls ≠ "java/lang/invoke/MethodHandle" ∧ y.cls ≠ "java/lang/invoke/VarHandle")
    (W : Nat) (argsL rest : List Value) (hM : Ct l y bytes maxL ret [] rm Z argsL.toArray h Q) (hf : rm.frames + 1 ≤ R.frames) (hl : W + (maxL + 11) + rm.locals ≤ R.locals) (eT : T.heap = h) (hsize : L.size = c.maxLocals) {ps : List FieldType} {rt : Option FieldType} (pd : parseMethodDescriptor y.desc = some ⟨ps, rt⟩) (hlen : argsL.length = ps.length) (hst : st = argsL.reverse ++ rest) (hW : (rest.map fun v => v.category).sum ≤ W)
    (hd : decode c.code pc = .ok (.invokestatic i, 3)) (hc : cells + rm.cells ≤ R.cells) (hn : slots + rm.slots ≤ R.slots)
    (k : ∀ T' L' v, Stand p l e R s m args below meth c T' (locs ++ L') (cells + rm.cells) (slots + rm.slots) → Q v T'.heap L' → Go p e below P (T'.setTop (mkF m (pc + 3) L (v.toList ++ rest)))) : Go p e below P (T.setTop (mkF m pc L st)) := by
  obtain ⟨v, _, ⟨T', L', k', n'⟩, -, X', ⟨Lc, hQ, l1, y1, z1⟩, q⟩ := Jvm.LawKit.callS X hx (y := y) hown (mvT hZ w1) (mvT hZ w2) (mvT hZ w3) (mvT hZ w4) hy (backOf (W := W) hM hZ w4 w3 hf hl) (g := mkF m pc L st) rfl hsize (argsL := argsL) (rest := rest) (lenOf pd hlen) hst (by show 2 * 0 + _ ≤ _; omega) hd (fun _ _ => ⟨rfl, eT, hc, hn⟩)
  dsimp only [Pt.U, Pt.locs, Pt.cells, Pt.slots] at X' l1 y1 z1 q hQ
  subst l1 y1 z1
  exact Go.via q (k T' Lc v X' hQ)
theorem callSpecial (X : Stand p l e R s m args below meth c T locs cells slots) (hx : p.tables.exec = Jvm.exec) (hZ : Z.Warmed39 s.vm) {own : String} {i : Nat} {y : MethodName} {bytes : ByteArray} {maxL : Nat} {rm : Room} {Q : Option Value → Heap → List Loc → Prop} (hy1 : y.name = "<init>")
    (hown : s.vm.findClass own = some m.cls) (w1 : (Cond.methodLink own i y).before a0 Z = true) (w2 : (Cond.instanceMethod y).before a0 Z = true) (w3 : (Cond.initialized y.cls).before a0 Z = true) (w4 : (Cond.code y bytes maxL none).before a0 Z = true) (hy : y.cls ≠ "java/lang/invoke/MethodHandle" ∧ y.cls ≠ "java/lang/invoke/VarHandle")
    (W : Nat) (a : Addr) (argsL rest : List Value) (hM : Ct l y bytes maxL none [] rm Z (.ref a :: argsL).toArray h Q) (hf : rm.frames + 1 ≤ R.frames) (hl : W + (maxL + 11) + rm.locals ≤ R.locals) (eT : T.heap = h) (hsize : L.size = c.maxLocals) {ps : List FieldType} {rt : Option FieldType} (pd : parseMethodDescriptor y.desc = some ⟨ps, rt⟩) (hlen : argsL.length = ps.length) (hst : st = argsL.reverse ++ .ref a :: rest) (hW : (rest.map fun v => v.category).sum ≤ W)
    (hd : decode c.code pc = .ok (.invokespecial i, 3)) (hc : cells + rm.cells ≤ R.cells) (hn : slots + rm.slots ≤ R.slots)
    (k : ∀ T' L' v, Stand p l e R s m args below meth c T' (locs ++ L') (cells + rm.cells) (slots + rm.slots) → Q v T'.heap L' → Go p e below P (T'.setTop (mkF m (pc + 3) L (v.toList ++ rest)))) : Go p e below P (T.setTop (mkF m pc L st)) := by
  obtain ⟨v, _, ⟨T', L', k', n'⟩, -, X', ⟨Lc, hQ, l1, y1, z1⟩, q⟩ := X.specialBack hx (y := y) hy1 hown (mvT hZ w1) (mvT hZ w2) (mvT hZ w4) hy (backOf (W := W) hM hZ w4 w3 hf hl) (g := mkF m pc L st) rfl hsize (Steps.refl _) (a := a) (argsL := argsL) (rest := rest) (lenOf pd hlen) hst (by show 2 * 0 + _ ≤ _; omega) hd (fun _ _ => ⟨rfl, eT, hc, hn⟩)
  dsimp only [Pt.U, Pt.locs, Pt.cells, Pt.slots] at X' l1 y1 z1 q hQ
  subst l1 y1 z1
  exact Go.tr q (k T' Lc v X' hQ)
theorem callVirtual (X : Stand p l e R s m args below meth c T locs cells slots) (hx : p.tables.exec = Jvm.exec) (hZ : Z.Warmed39 s.vm) {own C : String} {i : Nat} {y z : MethodName} {bytes : ByteArray} {maxL : Nat} {ret : Option FieldType} {rm : Room} {Q : Option Value → Heap → List Loc → Prop}
    (hown : s.vm.findClass own = some m.cls) (w1 : (Cond.methodLink own i y).before a0 Z = true) (w2 : (Cond.declares y).before a0 Z = true) (w3 : (Cond.selects C y z).before a0 Z = true) (w5 : (Cond.instanceMethod z).before a0 Z = true) (w6 : (Cond.initialized z.cls).before a0 Z = true) (w4 : (Cond.code z bytes maxL ret).before a0 Z = true) (w7 : (Cond.selects y.cls y y).before a0 Z = true) (hy : y.cls ≠ "java/lang/invoke/MethodHandle" ∧ y.cls ≠ "java/lang/invoke/VarHandle")
    (W : Nat) (a : Addr) (argsL rest : List Value) (E : Exa Z h a C) (hM : Ct l z bytes maxL ret [] rm Z (.ref a :: argsL).toArray h Q) (hf : rm.frames + 1 ≤ R.frames) (hl : W + (maxL + 11) + rm.locals ≤ R.locals) (eT : T.heap = h) (hsize : L.size = c.maxLocals) {ps : List FieldType} {rt : Option FieldType} (pd : parseMethodDescriptor y.desc = some ⟨ps, rt⟩) (hlen : argsL.length = ps.length) (hst : st = argsL.reverse ++ .ref a :: rest) (hW : (rest.map fun v => v.category).sum ≤ W)
    (hd : decode c.code pc = .ok (.invokevirtual i, 3)) (hc : cells + rm.cells ≤ R.cells) (hn : slots + rm.slots ≤ R.slots)
    (k : ∀ T' L' v, Stand p l e R s m args below meth c T' (locs ++ L') (cells + rm.cells) (slots + rm.slots) → Q v T'.heap L' → Go p e below P (T'.setTop (mkF m (pc + 3) L (v.toList ++ rest)))) : Go p e below P (T.setTop (mkF m pc L st)) := by
  obtain ⟨cq, kq, qa, qb, qc⟩ := isOf hZ eT E
  obtain ⟨v, _, ⟨T', L', k', n'⟩, -, X', ⟨Lc, hQ, l1, y1, z1⟩, q⟩ := X.virtualBack hx (y := y) (z := z) hown (mvT hZ w1) (mvT hZ w2) (notFace_of_selects (args := #[]) (mvT hZ w7)) (mvT hZ w3) (mvT hZ w5) hy (backOf (W := W) hM hZ w4 w6 hf hl) qa qc (g := mkF m pc L st) rfl hsize (Steps.refl _) (argsL := argsL) (rest := rest) (lenOf pd hlen) hst (by show 2 * 0 + _ ≤ _; omega) hd (fun _ _ => ⟨rfl, eT, hc, hn⟩)
  dsimp only [Pt.U, Pt.locs, Pt.cells, Pt.slots] at X' l1 y1 z1 q hQ
  subst l1 y1 z1
  exact Go.tr q (k T' Lc v X' hQ)
theorem callPrivate (X : Stand p l e R s m args below meth c T locs cells slots) (hx : p.tables.exec = Jvm.exec) (hZ : Z.Warmed39 s.vm) {own C : String} {i kk : Nat} {y : MethodName} {bytes : ByteArray} {maxL : Nat} {ret : Option FieldType} {rm : Room} {Q : Option Value → Heap → List Loc → Prop}
    (hown : s.vm.findClass own = some m.cls) (w1 : (Cond.methodLink own i y).before a0 Z = true) (w2 : (Cond.instanceMethod y).before a0 Z = true) (w3 : (Cond.privateMethod y).before a0 Z = true) (w5 : (Cond.instantiable y.cls kk).before a0 Z = true) (w6 : (Cond.initialized y.cls).before a0 Z = true) (w4 : (Cond.code y bytes maxL ret).before a0 Z = true) (hy : y.cls ≠ "java/lang/invoke/MethodHandle" ∧ y.cls ≠ "java/lang/invoke/VarHandle")
    (W : Nat) (a : Addr) (argsL rest : List Value) (E : Exa Z h a C) (hM : Ct l y bytes maxL ret [] rm Z (.ref a :: argsL).toArray h Q) (hf : rm.frames + 1 ≤ R.frames) (hl : W + (maxL + 11) + rm.locals ≤ R.locals) (eT : T.heap = h) (hsize : L.size = c.maxLocals) {ps : List FieldType} {rt : Option FieldType} (pd : parseMethodDescriptor y.desc = some ⟨ps, rt⟩) (hlen : argsL.length = ps.length) (hst : st = argsL.reverse ++ .ref a :: rest) (hW : (rest.map fun v => v.category).sum ≤ W)
    (hd : decode c.code pc = .ok (.invokevirtual i, 3)) (hc : cells + rm.cells ≤ R.cells) (hn : slots + rm.slots ≤ R.slots)
    (k : ∀ T' L' v, Stand p l e R s m args below meth c T' (locs ++ L') (cells + rm.cells) (slots + rm.slots) → Q v T'.heap L' → Go p e below P (T'.setTop (mkF m (pc + 3) L (v.toList ++ rest)))) : Go p e below P (T.setTop (mkF m pc L st)) := by
  have hP : s.PrivateAt y := Cond.privateMethod_at (args := #[]) (mvP hZ w3)
  have hsel : (Cond.selects y.cls y y).before args s = true := by
    have q : (Cond.instantiable y.cls kk).before args s = true := mvT hZ w5
    obtain ⟨c2, k2, i1, i2, -, i4, -⟩ := Cond.instantiable_spec q
    rw [Bool.or_eq_false_iff] at i4
    exact selects_self_of_private i1 i2 i4.1 hP (mvT hZ w2) hy
  obtain ⟨ce, he1, he2⟩ := E.cell
  obtain ⟨v, _, ⟨T', L', k', n'⟩, -, X', ⟨Lc, hQ, l1, y1, z1⟩, q⟩ := X.privateBack hx (y := y) hown (mvT hZ w1) (mvT hZ w2) hsel hP (mvT hZ w4) hy (backOf (W := W) hM hZ w4 w6 hf hl) (g := mkF m pc L st) rfl hsize (Steps.refl _) (a := a) (cell := ce) (by rw [eT]; exact he1) he2 (argsL := argsL) (rest := rest) (lenOf pd hlen) hst (by show 2 * 0 + _ ≤ _; omega) hd (fun _ _ => ⟨rfl, eT, hc, hn⟩)
  dsimp only [Pt.U, Pt.locs, Pt.cells, Pt.slots] at X' l1 y1 z1 q hQ
  subst l1 y1 z1
  exact Go.tr q (k T' Lc v X' hQ)
theorem getstatic (X : Stand p l e R s m args below meth c T locs cells slots) (hx : p.tables.exec = Jvm.exec) (hZ : Z.Warmed39 s.vm) {own R0 O n d : String} {i : Nat} (hown : s.vm.findClass own = some m.cls) (w : (Cond.fieldLink own i R0 n d).before a0 Z = true) (via : Via Z R0 O n d)
    (eT : T.heap = h) {v : Value} (F : Sta Z h O n d v) (hd : decode c.code pc = .ok (.getstatic i, 3)) (k : ∀ T', Stand p l e R s m args below meth c T' locs cells slots → T'.heap = h → Go p e below P (T'.setTop (mkF m (pc + 3) L (v :: st)))) : Go p e below P (T.setTop (mkF m pc L st)) := by
  obtain ⟨T', X', e', q⟩ := getS X hx hZ (host := "") hown w via eT F (g := mkF m pc L st) rfl hd
  exact Go.via q (k T' X' e')
theorem ldcFloat (X : Stand p l e R s m args below meth c T locs cells slots) (hx : p.tables.exec = Jvm.exec) (hZ : Z.Warmed39 s.vm) {own : String} {i : Nat} {b : UInt32} (hown : s.vm.findClass own = some m.cls) (w : (Cond.constantFloat own i b).before a0 Z = true) (hd : decode c.code pc = .ok (.ldc i, 2)) (k : Go p e below P (T.setTop (mkF m (pc + 2) L (.float b :: st)))) : Go p e below P (T.setTop (mkF m pc L st)) := Go.via (fun t q => X.ldcFloatC hx hown (mvT hZ w) (g := mkF m pc L st) rfl hd t q) k
theorem staKeep {O n d C : String} {v : Value} {h' : Heap} {a : Addr} (F : Sta Z h O n d v) (K : Keep h h' [a]) (E : Exa Z h a C) : Sta Z h' O n d v := by
  obtain ⟨cf, i, k, f, st, cell, h1, h2, h3, h4, h5, h6, h7⟩ := F
  obtain ⟨c2, k2, e1, -, -, e4, -⟩ := E
  have ne : st ∉ [a] := fun q => by
    cases List.mem_singleton.mp q
    cases h5.symm.trans e1
    rw [h6] at e4; cases e4
  exact ⟨cf, i, k, f, st, cell, h1, h2, h3, h4, K.2.1 _ _ h5 ne, h6, h7⟩
end Walk
end Jvm.Own
namespace Jvm.Pilot.@@N@@
open Jvm Jvm.ClassFile Sem Op Lib Jvm.Free Jvm.Stand Jvm.LawKit Jvm.RoadKit Bundle Jvm.Pilot.@@N@@.Jvm.D
theorem Wd {a0 : Array Value} {Z : State} (hw : ∀ d ∈ tables_1, d.before a0 Z = true) (i : Nat) {d : Jvm.Cond} (h : tables_1[i]? = some d) : d.before a0 Z = true := hw _ (List.mem_of_getElem? h)

def own_e (x k : Int32) : Int32 := if x = k then 1 else 0
def own_cnt (l0 l1 l2 l3 l4 k : Int32) : Int32 := (((own_e l0 k + own_e l1 k) + own_e l2 k) + own_e l3 k) + own_e l4 k
def own_b (lt ls t s : Int32) : Int32 := if lt < ls ∨ (lt = ls ∧ t < s) then 1 else 0
def own_rank (l0 l1 l2 l3 l4 ls s : Int32) : Int32 := (((own_b l0 ls 0 s + own_b l1 ls 1 s) + own_b l2 ls 2 s) + own_b l3 ls 3 s) + own_b l4 ls 4 s
theorem own_rg (x : Int32) : 0 ≤ (x &&& (7 : Int32)).toInt ∧ (x &&& (7 : Int32)).toInt < 8 := by
  have h := c_and x 7 (by decide)
  have h3 : (7 : Int32).toInt = 7 := by decide
  omega
theorem own_nn {x : Int32} (h : 0 ≤ x.toInt) : ¬ x < 0 := fun q => by
  have := Int32.lt_iff_toInt_lt.mp q
  have h0 : (0 : Int32).toInt = 0 := by decide
  omega
theorem own_cl (x : Int32) : x.toNatClampNeg = x.toInt.toNat := rfl
theorem own_ln (x : Int32) : ¬ (x &&& (7 : Int32)) < 0 := own_nn (own_rg x).1
theorem own_l8 (x : Int32) : (x &&& (7 : Int32)).toNatClampNeg < 8 := by rw [own_cl]; have := own_rg x; omega
theorem own_len5 {vs : List Value} (h : vs.length = 5) : vs.length.toInt32 = 5 := by rw [h]; rfl
theorem own_eight (x : Int32) (h : 0 ≤ x.toInt ∧ x.toInt < 8) : x = 0 ∨ x = 1 ∨ x = 2 ∨ x = 3 ∨ x = 4 ∨ x = 5 ∨ x = 6 ∨ x = 7 := by
  have q : x.toInt = 0 ∨ x.toInt = 1 ∨ x.toInt = 2 ∨ x.toInt = 3 ∨ x.toInt = 4 ∨ x.toInt = 5 ∨ x.toInt = 6 ∨ x.toInt = 7 := by omega
  simp only [← Int32.toInt_inj]
  exact q
theorem own_bk (x k k' t : Int32) (hk : k'.toInt = k.toInt + 1) (ht : ¬ t < 0) : own_b x k' t 0 = own_b x k t 0 + own_e x k := by
  simp only [own_b, own_e, ht, and_false, or_false, Int32.lt_iff_toInt_lt, ← Int32.toInt_inj, hk]
  rcases Int.lt_trichotomy x.toInt k.toInt with q | q | q
  · rw [if_pos (by omega), if_pos q, if_neg (by omega)]; rfl
  · rw [if_pos (by omega), if_neg (by omega), if_pos q]; rfl
  · rw [if_neg (by omega), if_neg (by omega), if_neg (by omega)]; rfl
theorem own_b01 (x k t s : Int32) : 0 ≤ (own_b x k t s).toInt ∧ (own_b x k t s).toInt ≤ 1 := by
  simp only [own_b]; split <;> decide
theorem own_bself (x t : Int32) : own_b x x t t = 0 := by simp [own_b]
theorem own_bt {x k t s : Int32} (h : x < k ∨ (x = k ∧ t < s)) : own_b x k t s = 1 := by simp only [own_b]; rw [if_pos h]
theorem own_bm {x L L' t s s' : Int32} (h : L < L' ∨ (L = L' ∧ s < s')) : (own_b x L t s).toInt ≤ (own_b x L' t s').toInt := by
  by_cases q : x < L ∨ (x = L ∧ t < s)
  · have q' : x < L' ∨ (x = L' ∧ t < s') := by
      simp only [Int32.lt_iff_toInt_lt, ← Int32.toInt_inj] at *
      omega
    rw [own_bt q, own_bt q']; decide
  · have : own_b x L t s = 0 := by simp only [own_b]; rw [if_neg q]
    rw [this]
    exact (own_b01 _ _ _ _).1
theorem own_sum5 {a b c d e : Int32} (ha : 0 ≤ a.toInt ∧ a.toInt ≤ 1) (hb : 0 ≤ b.toInt ∧ b.toInt ≤ 1) (hc : 0 ≤ c.toInt ∧ c.toInt ≤ 1) (hd : 0 ≤ d.toInt ∧ d.toInt ≤ 1) (he : 0 ≤ e.toInt ∧ e.toInt ≤ 1) : ((((a + b) + c) + d) + e).toInt = a.toInt + b.toInt + c.toInt + d.toInt + e.toInt := by
  have e1 : (a + b).toInt = a.toInt + b.toInt := XT.add32 ⟨by omega, by omega⟩
  have e2 : (a + b + c).toInt = a.toInt + b.toInt + c.toInt := by rw [XT.add32 ⟨by omega, by omega⟩, e1]
  have e3 : (a + b + c + d).toInt = a.toInt + b.toInt + c.toInt + d.toInt := by rw [XT.add32 ⟨by omega, by omega⟩, e2]
  rw [XT.add32 ⟨by omega, by omega⟩, e3]
theorem own_xn {x : Int32} (h : 0 ≤ x.toInt ∧ x.toInt < 5) : ¬ x < 0 := own_nn h.1
theorem own_x5 {x : Int32} (h : 0 ≤ x.toInt ∧ x.toInt < 5) : x.toNatClampNeg < 5 := by rw [own_cl]; omega
section Own
variable (l0 l1 l2 l3 l4 : Int32)
theorem own_Rint (L s : Int32) : (own_rank l0 l1 l2 l3 l4 L s).toInt = (own_b l0 L 0 s).toInt + (own_b l1 L 1 s).toInt + (own_b l2 L 2 s).toInt + (own_b l3 L 3 s).toInt + (own_b l4 L 4 s).toInt := own_sum5 (own_b01 _ _ _ _) (own_b01 _ _ _ _) (own_b01 _ _ _ _) (own_b01 _ _ _ _) (own_b01 _ _ _ _)
theorem own_Rk (k k' : Int32) (hk : k'.toInt = k.toInt + 1) : own_rank l0 l1 l2 l3 l4 k 0 + own_cnt l0 l1 l2 l3 l4 k = own_rank l0 l1 l2 l3 l4 k' 0 := by
  simp only [own_rank, own_cnt, own_bk _ k k' 0 hk (by decide), own_bk _ k k' 1 hk (by decide), own_bk _ k k' 2 hk (by decide), own_bk _ k k' 3 hk (by decide), own_bk _ k k' 4 hk (by decide)]
  ac_rfl

theorem own_Rs0 (L : Int32) : own_rank l0 l1 l2 l3 l4 L (1 : Int32) = if l0 = L then own_rank l0 l1 l2 l3 l4 L (0 : Int32) + 1 else own_rank l0 l1 l2 l3 l4 L (0 : Int32) := by
  have q : ∀ x t : Int32, (t < (1 : Int32) ↔ t < (0 : Int32)) → own_b x L t (1 : Int32) = own_b x L t (0 : Int32) := fun x t h => by simp only [own_b, h]
  by_cases e : l0 = L
  · rw [if_pos e]
    have z : own_b l0 L 0 (1 : Int32) = own_b l0 L 0 (0 : Int32) + 1 := by
      rw [e, own_bself, own_bt (Or.inr ⟨rfl, by decide⟩)]; rfl
    simp only [own_rank, z, q _ 1 (by decide), q _ 2 (by decide), q _ 3 (by decide), q _ 4 (by decide)]
    ac_rfl
  · rw [if_neg e]
    have z : own_b l0 L 0 (1 : Int32) = own_b l0 L 0 (0 : Int32) := by simp only [own_b, e, false_and, or_false]
    simp only [own_rank, z, q _ 1 (by decide), q _ 2 (by decide), q _ 3 (by decide), q _ 4 (by decide)]
theorem own_Rs1 (L : Int32) : own_rank l0 l1 l2 l3 l4 L (2 : Int32) = if l1 = L then own_rank l0 l1 l2 l3 l4 L (1 : Int32) + 1 else own_rank l0 l1 l2 l3 l4 L (1 : Int32) := by
  have q : ∀ x t : Int32, (t < (2 : Int32) ↔ t < (1 : Int32)) → own_b x L t (2 : Int32) = own_b x L t (1 : Int32) := fun x t h => by simp only [own_b, h]
  by_cases e : l1 = L
  · rw [if_pos e]
    have z : own_b l1 L 1 (2 : Int32) = own_b l1 L 1 (1 : Int32) + 1 := by
      rw [e, own_bself, own_bt (Or.inr ⟨rfl, by decide⟩)]; rfl
    simp only [own_rank, z, q _ 0 (by decide), q _ 2 (by decide), q _ 3 (by decide), q _ 4 (by decide)]
    ac_rfl
  · rw [if_neg e]
    have z : own_b l1 L 1 (2 : Int32) = own_b l1 L 1 (1 : Int32) := by simp only [own_b, e, false_and, or_false]
    simp only [own_rank, z, q _ 0 (by decide), q _ 2 (by decide), q _ 3 (by decide), q _ 4 (by decide)]
theorem own_Rs2 (L : Int32) : own_rank l0 l1 l2 l3 l4 L (3 : Int32) = if l2 = L then own_rank l0 l1 l2 l3 l4 L (2 : Int32) + 1 else own_rank l0 l1 l2 l3 l4 L (2 : Int32) := by
  have q : ∀ x t : Int32, (t < (3 : Int32) ↔ t < (2 : Int32)) → own_b x L t (3 : Int32) = own_b x L t (2 : Int32) := fun x t h => by simp only [own_b, h]
  by_cases e : l2 = L
  · rw [if_pos e]
    have z : own_b l2 L 2 (3 : Int32) = own_b l2 L 2 (2 : Int32) + 1 := by
      rw [e, own_bself, own_bt (Or.inr ⟨rfl, by decide⟩)]; rfl
    simp only [own_rank, z, q _ 0 (by decide), q _ 1 (by decide), q _ 3 (by decide), q _ 4 (by decide)]
    ac_rfl
  · rw [if_neg e]
    have z : own_b l2 L 2 (3 : Int32) = own_b l2 L 2 (2 : Int32) := by simp only [own_b, e, false_and, or_false]
    simp only [own_rank, z, q _ 0 (by decide), q _ 1 (by decide), q _ 3 (by decide), q _ 4 (by decide)]
theorem own_Rs3 (L : Int32) : own_rank l0 l1 l2 l3 l4 L (4 : Int32) = if l3 = L then own_rank l0 l1 l2 l3 l4 L (3 : Int32) + 1 else own_rank l0 l1 l2 l3 l4 L (3 : Int32) := by
  have q : ∀ x t : Int32, (t < (4 : Int32) ↔ t < (3 : Int32)) → own_b x L t (4 : Int32) = own_b x L t (3 : Int32) := fun x t h => by simp only [own_b, h]
  by_cases e : l3 = L
  · rw [if_pos e]
    have z : own_b l3 L 3 (4 : Int32) = own_b l3 L 3 (3 : Int32) + 1 := by
      rw [e, own_bself, own_bt (Or.inr ⟨rfl, by decide⟩)]; rfl
    simp only [own_rank, z, q _ 0 (by decide), q _ 1 (by decide), q _ 2 (by decide), q _ 4 (by decide)]
    ac_rfl
  · rw [if_neg e]
    have z : own_b l3 L 3 (4 : Int32) = own_b l3 L 3 (3 : Int32) := by simp only [own_b, e, false_and, or_false]
    simp only [own_rank, z, q _ 0 (by decide), q _ 1 (by decide), q _ 2 (by decide), q _ 4 (by decide)]
theorem own_x0 : 0 ≤ ((own_rank l0 l1 l2 l3 l4 l0 (0 : Int32))).toInt ∧ ((own_rank l0 l1 l2 l3 l4 l0 (0 : Int32))).toInt < 5 := by
  have s : (own_b l0 l0 0 0).toInt = 0 := by rw [own_bself]; rfl
  have a := own_b01 l0 l0 0 (0 : Int32)
  have b := own_b01 l1 l0 1 (0 : Int32)
  have c := own_b01 l2 l0 2 (0 : Int32)
  have d := own_b01 l3 l0 3 (0 : Int32)
  have e := own_b01 l4 l0 4 (0 : Int32)
  rw [own_Rint]
  omega
theorem own_x1 : 0 ≤ ((own_rank l0 l1 l2 l3 l4 l1 (1 : Int32))).toInt ∧ ((own_rank l0 l1 l2 l3 l4 l1 (1 : Int32))).toInt < 5 := by
  have s : (own_b l1 l1 1 1).toInt = 0 := by rw [own_bself]; rfl
  have a := own_b01 l0 l1 0 (1 : Int32)
  have b := own_b01 l1 l1 1 (1 : Int32)
  have c := own_b01 l2 l1 2 (1 : Int32)
  have d := own_b01 l3 l1 3 (1 : Int32)
  have e := own_b01 l4 l1 4 (1 : Int32)
  rw [own_Rint]
  omega
theorem own_x2 : 0 ≤ ((own_rank l0 l1 l2 l3 l4 l2 (2 : Int32))).toInt ∧ ((own_rank l0 l1 l2 l3 l4 l2 (2 : Int32))).toInt < 5 := by
  have s : (own_b l2 l2 2 2).toInt = 0 := by rw [own_bself]; rfl
  have a := own_b01 l0 l2 0 (2 : Int32)
  have b := own_b01 l1 l2 1 (2 : Int32)
  have c := own_b01 l2 l2 2 (2 : Int32)
  have d := own_b01 l3 l2 3 (2 : Int32)
  have e := own_b01 l4 l2 4 (2 : Int32)
  rw [own_Rint]
  omega
theorem own_x3 : 0 ≤ ((own_rank l0 l1 l2 l3 l4 l3 (3 : Int32))).toInt ∧ ((own_rank l0 l1 l2 l3 l4 l3 (3 : Int32))).toInt < 5 := by
  have s : (own_b l3 l3 3 3).toInt = 0 := by rw [own_bself]; rfl
  have a := own_b01 l0 l3 0 (3 : Int32)
  have b := own_b01 l1 l3 1 (3 : Int32)
  have c := own_b01 l2 l3 2 (3 : Int32)
  have d := own_b01 l3 l3 3 (3 : Int32)
  have e := own_b01 l4 l3 4 (3 : Int32)
  rw [own_Rint]
  omega
theorem own_x4 : 0 ≤ ((own_rank l0 l1 l2 l3 l4 l4 (4 : Int32))).toInt ∧ ((own_rank l0 l1 l2 l3 l4 l4 (4 : Int32))).toInt < 5 := by
  have s : (own_b l4 l4 4 4).toInt = 0 := by rw [own_bself]; rfl
  have a := own_b01 l0 l4 0 (4 : Int32)
  have b := own_b01 l1 l4 1 (4 : Int32)
  have c := own_b01 l2 l4 2 (4 : Int32)
  have d := own_b01 l3 l4 3 (4 : Int32)
  have e := own_b01 l4 l4 4 (4 : Int32)
  rw [own_Rint]
  omega
theorem own_d01 : ¬ ((own_rank l0 l1 l2 l3 l4 l0 (0 : Int32))).toNatClampNeg = ((own_rank l0 l1 l2 l3 l4 l1 (1 : Int32))).toNatClampNeg := by
  rw [own_cl, own_cl]
  have p := own_x0 l0 l1 l2 l3 l4
  have q := own_x1 l0 l1 l2 l3 l4
  suffices h : ((own_rank l0 l1 l2 l3 l4 l0 (0 : Int32))).toInt < ((own_rank l0 l1 l2 l3 l4 l1 (1 : Int32))).toInt ∨ ((own_rank l0 l1 l2 l3 l4 l1 (1 : Int32))).toInt < ((own_rank l0 l1 l2 l3 l4 l0 (0 : Int32))).toInt by omega
  have z0 : (0 : Int32).toInt = 0 := by decide
  have z1 : (1 : Int32).toInt = 1 := by decide
  by_cases w : l0 < l1 ∨ (l0 = l1 ∧ (0 : Int32) < 1)
  · left
    have m0 := own_bm (x := l0) (t := 0) w
    have m1 := own_bm (x := l1) (t := 1) w
    have m2 := own_bm (x := l2) (t := 2) w
    have m3 := own_bm (x := l3) (t := 3) w
    have m4 := own_bm (x := l4) (t := 4) w
    have s1 : (own_b l0 l0 0 0).toInt = 0 := by rw [own_bself]; rfl
    have s2 : (own_b l0 l1 0 1).toInt = 1 := by rw [own_bt w]; rfl
    rw [own_Rint, own_Rint]
    omega
  · have w' : l1 < l0 ∨ (l1 = l0 ∧ (1 : Int32) < 0) := by
      have k : (0 : Int32) < 1 := by decide
      simp only [k, and_true, not_or] at w
      left
      simp only [Int32.lt_iff_toInt_lt, ← Int32.toInt_inj] at *
      omega
    right
    have m0 := own_bm (x := l0) (t := 0) w'
    have m1 := own_bm (x := l1) (t := 1) w'
    have m2 := own_bm (x := l2) (t := 2) w'
    have m3 := own_bm (x := l3) (t := 3) w'
    have m4 := own_bm (x := l4) (t := 4) w'
    have s1 : (own_b l1 l1 1 1).toInt = 0 := by rw [own_bself]; rfl
    have s2 : (own_b l1 l0 1 0).toInt = 1 := by rw [own_bt w']; rfl
    rw [own_Rint, own_Rint]
    omega
theorem own_d02 : ¬ ((own_rank l0 l1 l2 l3 l4 l0 (0 : Int32))).toNatClampNeg = ((own_rank l0 l1 l2 l3 l4 l2 (2 : Int32))).toNatClampNeg := by
  rw [own_cl, own_cl]
  have p := own_x0 l0 l1 l2 l3 l4
  have q := own_x2 l0 l1 l2 l3 l4
  suffices h : ((own_rank l0 l1 l2 l3 l4 l0 (0 : Int32))).toInt < ((own_rank l0 l1 l2 l3 l4 l2 (2 : Int32))).toInt ∨ ((own_rank l0 l1 l2 l3 l4 l2 (2 : Int32))).toInt < ((own_rank l0 l1 l2 l3 l4 l0 (0 : Int32))).toInt by omega
  have z0 : (0 : Int32).toInt = 0 := by decide
  have z1 : (1 : Int32).toInt = 1 := by decide
  by_cases w : l0 < l2 ∨ (l0 = l2 ∧ (0 : Int32) < 2)
  · left
    have m0 := own_bm (x := l0) (t := 0) w
    have m1 := own_bm (x := l1) (t := 1) w
    have m2 := own_bm (x := l2) (t := 2) w
    have m3 := own_bm (x := l3) (t := 3) w
    have m4 := own_bm (x := l4) (t := 4) w
    have s1 : (own_b l0 l0 0 0).toInt = 0 := by rw [own_bself]; rfl
    have s2 : (own_b l0 l2 0 2).toInt = 1 := by rw [own_bt w]; rfl
    rw [own_Rint, own_Rint]
    omega
  · have w' : l2 < l0 ∨ (l2 = l0 ∧ (2 : Int32) < 0) := by
      have k : (0 : Int32) < 2 := by decide
      simp only [k, and_true, not_or] at w
      left
      simp only [Int32.lt_iff_toInt_lt, ← Int32.toInt_inj] at *
      omega
    right
    have m0 := own_bm (x := l0) (t := 0) w'
    have m1 := own_bm (x := l1) (t := 1) w'
    have m2 := own_bm (x := l2) (t := 2) w'
    have m3 := own_bm (x := l3) (t := 3) w'
    have m4 := own_bm (x := l4) (t := 4) w'
    have s1 : (own_b l2 l2 2 2).toInt = 0 := by rw [own_bself]; rfl
    have s2 : (own_b l2 l0 2 0).toInt = 1 := by rw [own_bt w']; rfl
    rw [own_Rint, own_Rint]
    omega
theorem own_d03 : ¬ ((own_rank l0 l1 l2 l3 l4 l0 (0 : Int32))).toNatClampNeg = ((own_rank l0 l1 l2 l3 l4 l3 (3 : Int32))).toNatClampNeg := by
  rw [own_cl, own_cl]
  have p := own_x0 l0 l1 l2 l3 l4
  have q := own_x3 l0 l1 l2 l3 l4
  suffices h : ((own_rank l0 l1 l2 l3 l4 l0 (0 : Int32))).toInt < ((own_rank l0 l1 l2 l3 l4 l3 (3 : Int32))).toInt ∨ ((own_rank l0 l1 l2 l3 l4 l3 (3 : Int32))).toInt < ((own_rank l0 l1 l2 l3 l4 l0 (0 : Int32))).toInt by omega
  have z0 : (0 : Int32).toInt = 0 := by decide
  have z1 : (1 : Int32).toInt = 1 := by decide
  by_cases w : l0 < l3 ∨ (l0 = l3 ∧ (0 : Int32) < 3)
  · left
    have m0 := own_bm (x := l0) (t := 0) w
    have m1 := own_bm (x := l1) (t := 1) w
    have m2 := own_bm (x := l2) (t := 2) w
    have m3 := own_bm (x := l3) (t := 3) w
    have m4 := own_bm (x := l4) (t := 4) w
    have s1 : (own_b l0 l0 0 0).toInt = 0 := by rw [own_bself]; rfl
    have s2 : (own_b l0 l3 0 3).toInt = 1 := by rw [own_bt w]; rfl
    rw [own_Rint, own_Rint]
    omega
  · have w' : l3 < l0 ∨ (l3 = l0 ∧ (3 : Int32) < 0) := by
      have k : (0 : Int32) < 3 := by decide
      simp only [k, and_true, not_or] at w
      left
      simp only [Int32.lt_iff_toInt_lt, ← Int32.toInt_inj] at *
      omega
    right
    have m0 := own_bm (x := l0) (t := 0) w'
    have m1 := own_bm (x := l1) (t := 1) w'
    have m2 := own_bm (x := l2) (t := 2) w'
    have m3 := own_bm (x := l3) (t := 3) w'
    have m4 := own_bm (x := l4) (t := 4) w'
    have s1 : (own_b l3 l3 3 3).toInt = 0 := by rw [own_bself]; rfl
    have s2 : (own_b l3 l0 3 0).toInt = 1 := by rw [own_bt w']; rfl
    rw [own_Rint, own_Rint]
    omega
theorem own_d04 : ¬ ((own_rank l0 l1 l2 l3 l4 l0 (0 : Int32))).toNatClampNeg = ((own_rank l0 l1 l2 l3 l4 l4 (4 : Int32))).toNatClampNeg := by
  rw [own_cl, own_cl]
  have p := own_x0 l0 l1 l2 l3 l4
  have q := own_x4 l0 l1 l2 l3 l4
  suffices h : ((own_rank l0 l1 l2 l3 l4 l0 (0 : Int32))).toInt < ((own_rank l0 l1 l2 l3 l4 l4 (4 : Int32))).toInt ∨ ((own_rank l0 l1 l2 l3 l4 l4 (4 : Int32))).toInt < ((own_rank l0 l1 l2 l3 l4 l0 (0 : Int32))).toInt by omega
  have z0 : (0 : Int32).toInt = 0 := by decide
  have z1 : (1 : Int32).toInt = 1 := by decide
  by_cases w : l0 < l4 ∨ (l0 = l4 ∧ (0 : Int32) < 4)
  · left
    have m0 := own_bm (x := l0) (t := 0) w
    have m1 := own_bm (x := l1) (t := 1) w
    have m2 := own_bm (x := l2) (t := 2) w
    have m3 := own_bm (x := l3) (t := 3) w
    have m4 := own_bm (x := l4) (t := 4) w
    have s1 : (own_b l0 l0 0 0).toInt = 0 := by rw [own_bself]; rfl
    have s2 : (own_b l0 l4 0 4).toInt = 1 := by rw [own_bt w]; rfl
    rw [own_Rint, own_Rint]
    omega
  · have w' : l4 < l0 ∨ (l4 = l0 ∧ (4 : Int32) < 0) := by
      have k : (0 : Int32) < 4 := by decide
      simp only [k, and_true, not_or] at w
      left
      simp only [Int32.lt_iff_toInt_lt, ← Int32.toInt_inj] at *
      omega
    right
    have m0 := own_bm (x := l0) (t := 0) w'
    have m1 := own_bm (x := l1) (t := 1) w'
    have m2 := own_bm (x := l2) (t := 2) w'
    have m3 := own_bm (x := l3) (t := 3) w'
    have m4 := own_bm (x := l4) (t := 4) w'
    have s1 : (own_b l4 l4 4 4).toInt = 0 := by rw [own_bself]; rfl
    have s2 : (own_b l4 l0 4 0).toInt = 1 := by rw [own_bt w']; rfl
    rw [own_Rint, own_Rint]
    omega
theorem own_d12 : ¬ ((own_rank l0 l1 l2 l3 l4 l1 (1 : Int32))).toNatClampNeg = ((own_rank l0 l1 l2 l3 l4 l2 (2 : Int32))).toNatClampNeg := by
  rw [own_cl, own_cl]
  have p := own_x1 l0 l1 l2 l3 l4
  have q := own_x2 l0 l1 l2 l3 l4
  suffices h : ((own_rank l0 l1 l2 l3 l4 l1 (1 : Int32))).toInt < ((own_rank l0 l1 l2 l3 l4 l2 (2 : Int32))).toInt ∨ ((own_rank l0 l1 l2 l3 l4 l2 (2 : Int32))).toInt < ((own_rank l0 l1 l2 l3 l4 l1 (1 : Int32))).toInt by omega
  have z0 : (0 : Int32).toInt = 0 := by decide
  have z1 : (1 : Int32).toInt = 1 := by decide
  by_cases w : l1 < l2 ∨ (l1 = l2 ∧ (1 : Int32) < 2)
  · left
    have m0 := own_bm (x := l0) (t := 0) w
    have m1 := own_bm (x := l1) (t := 1) w
    have m2 := own_bm (x := l2) (t := 2) w
    have m3 := own_bm (x := l3) (t := 3) w
    have m4 := own_bm (x := l4) (t := 4) w
    have s1 : (own_b l1 l1 1 1).toInt = 0 := by rw [own_bself]; rfl
    have s2 : (own_b l1 l2 1 2).toInt = 1 := by rw [own_bt w]; rfl
    rw [own_Rint, own_Rint]
    omega
  · have w' : l2 < l1 ∨ (l2 = l1 ∧ (2 : Int32) < 1) := by
      have k : (1 : Int32) < 2 := by decide
      simp only [k, and_true, not_or] at w
      left
      simp only [Int32.lt_iff_toInt_lt, ← Int32.toInt_inj] at *
      omega
    right
    have m0 := own_bm (x := l0) (t := 0) w'
    have m1 := own_bm (x := l1) (t := 1) w'
    have m2 := own_bm (x := l2) (t := 2) w'
    have m3 := own_bm (x := l3) (t := 3) w'
    have m4 := own_bm (x := l4) (t := 4) w'
    have s1 : (own_b l2 l2 2 2).toInt = 0 := by rw [own_bself]; rfl
    have s2 : (own_b l2 l1 2 1).toInt = 1 := by rw [own_bt w']; rfl
    rw [own_Rint, own_Rint]
    omega
theorem own_d13 : ¬ ((own_rank l0 l1 l2 l3 l4 l1 (1 : Int32))).toNatClampNeg = ((own_rank l0 l1 l2 l3 l4 l3 (3 : Int32))).toNatClampNeg := by
  rw [own_cl, own_cl]
  have p := own_x1 l0 l1 l2 l3 l4
  have q := own_x3 l0 l1 l2 l3 l4
  suffices h : ((own_rank l0 l1 l2 l3 l4 l1 (1 : Int32))).toInt < ((own_rank l0 l1 l2 l3 l4 l3 (3 : Int32))).toInt ∨ ((own_rank l0 l1 l2 l3 l4 l3 (3 : Int32))).toInt < ((own_rank l0 l1 l2 l3 l4 l1 (1 : Int32))).toInt by omega
  have z0 : (0 : Int32).toInt = 0 := by decide
  have z1 : (1 : Int32).toInt = 1 := by decide
  by_cases w : l1 < l3 ∨ (l1 = l3 ∧ (1 : Int32) < 3)
  · left
    have m0 := own_bm (x := l0) (t := 0) w
    have m1 := own_bm (x := l1) (t := 1) w
    have m2 := own_bm (x := l2) (t := 2) w
    have m3 := own_bm (x := l3) (t := 3) w
    have m4 := own_bm (x := l4) (t := 4) w
    have s1 : (own_b l1 l1 1 1).toInt = 0 := by rw [own_bself]; rfl
    have s2 : (own_b l1 l3 1 3).toInt = 1 := by rw [own_bt w]; rfl
    rw [own_Rint, own_Rint]
    omega
  · have w' : l3 < l1 ∨ (l3 = l1 ∧ (3 : Int32) < 1) := by
      have k : (1 : Int32) < 3 := by decide
      simp only [k, and_true, not_or] at w
      left
      simp only [Int32.lt_iff_toInt_lt, ← Int32.toInt_inj] at *
      omega
    right
    have m0 := own_bm (x := l0) (t := 0) w'
    have m1 := own_bm (x := l1) (t := 1) w'
    have m2 := own_bm (x := l2) (t := 2) w'
    have m3 := own_bm (x := l3) (t := 3) w'
    have m4 := own_bm (x := l4) (t := 4) w'
    have s1 : (own_b l3 l3 3 3).toInt = 0 := by rw [own_bself]; rfl
    have s2 : (own_b l3 l1 3 1).toInt = 1 := by rw [own_bt w']; rfl
    rw [own_Rint, own_Rint]
    omega
theorem own_d14 : ¬ ((own_rank l0 l1 l2 l3 l4 l1 (1 : Int32))).toNatClampNeg = ((own_rank l0 l1 l2 l3 l4 l4 (4 : Int32))).toNatClampNeg := by
  rw [own_cl, own_cl]
  have p := own_x1 l0 l1 l2 l3 l4
  have q := own_x4 l0 l1 l2 l3 l4
  suffices h : ((own_rank l0 l1 l2 l3 l4 l1 (1 : Int32))).toInt < ((own_rank l0 l1 l2 l3 l4 l4 (4 : Int32))).toInt ∨ ((own_rank l0 l1 l2 l3 l4 l4 (4 : Int32))).toInt < ((own_rank l0 l1 l2 l3 l4 l1 (1 : Int32))).toInt by omega
  have z0 : (0 : Int32).toInt = 0 := by decide
  have z1 : (1 : Int32).toInt = 1 := by decide
  by_cases w : l1 < l4 ∨ (l1 = l4 ∧ (1 : Int32) < 4)
  · left
    have m0 := own_bm (x := l0) (t := 0) w
    have m1 := own_bm (x := l1) (t := 1) w
    have m2 := own_bm (x := l2) (t := 2) w
    have m3 := own_bm (x := l3) (t := 3) w
    have m4 := own_bm (x := l4) (t := 4) w
    have s1 : (own_b l1 l1 1 1).toInt = 0 := by rw [own_bself]; rfl
    have s2 : (own_b l1 l4 1 4).toInt = 1 := by rw [own_bt w]; rfl
    rw [own_Rint, own_Rint]
    omega
  · have w' : l4 < l1 ∨ (l4 = l1 ∧ (4 : Int32) < 1) := by
      have k : (1 : Int32) < 4 := by decide
      simp only [k, and_true, not_or] at w
      left
      simp only [Int32.lt_iff_toInt_lt, ← Int32.toInt_inj] at *
      omega
    right
    have m0 := own_bm (x := l0) (t := 0) w'
    have m1 := own_bm (x := l1) (t := 1) w'
    have m2 := own_bm (x := l2) (t := 2) w'
    have m3 := own_bm (x := l3) (t := 3) w'
    have m4 := own_bm (x := l4) (t := 4) w'
    have s1 : (own_b l4 l4 4 4).toInt = 0 := by rw [own_bself]; rfl
    have s2 : (own_b l4 l1 4 1).toInt = 1 := by rw [own_bt w']; rfl
    rw [own_Rint, own_Rint]
    omega
theorem own_d23 : ¬ ((own_rank l0 l1 l2 l3 l4 l2 (2 : Int32))).toNatClampNeg = ((own_rank l0 l1 l2 l3 l4 l3 (3 : Int32))).toNatClampNeg := by
  rw [own_cl, own_cl]
  have p := own_x2 l0 l1 l2 l3 l4
  have q := own_x3 l0 l1 l2 l3 l4
  suffices h : ((own_rank l0 l1 l2 l3 l4 l2 (2 : Int32))).toInt < ((own_rank l0 l1 l2 l3 l4 l3 (3 : Int32))).toInt ∨ ((own_rank l0 l1 l2 l3 l4 l3 (3 : Int32))).toInt < ((own_rank l0 l1 l2 l3 l4 l2 (2 : Int32))).toInt by omega
  have z0 : (0 : Int32).toInt = 0 := by decide
  have z1 : (1 : Int32).toInt = 1 := by decide
  by_cases w : l2 < l3 ∨ (l2 = l3 ∧ (2 : Int32) < 3)
  · left
    have m0 := own_bm (x := l0) (t := 0) w
    have m1 := own_bm (x := l1) (t := 1) w
    have m2 := own_bm (x := l2) (t := 2) w
    have m3 := own_bm (x := l3) (t := 3) w
    have m4 := own_bm (x := l4) (t := 4) w
    have s1 : (own_b l2 l2 2 2).toInt = 0 := by rw [own_bself]; rfl
    have s2 : (own_b l2 l3 2 3).toInt = 1 := by rw [own_bt w]; rfl
    rw [own_Rint, own_Rint]
    omega
  · have w' : l3 < l2 ∨ (l3 = l2 ∧ (3 : Int32) < 2) := by
      have k : (2 : Int32) < 3 := by decide
      simp only [k, and_true, not_or] at w
      left
      simp only [Int32.lt_iff_toInt_lt, ← Int32.toInt_inj] at *
      omega
    right
    have m0 := own_bm (x := l0) (t := 0) w'
    have m1 := own_bm (x := l1) (t := 1) w'
    have m2 := own_bm (x := l2) (t := 2) w'
    have m3 := own_bm (x := l3) (t := 3) w'
    have m4 := own_bm (x := l4) (t := 4) w'
    have s1 : (own_b l3 l3 3 3).toInt = 0 := by rw [own_bself]; rfl
    have s2 : (own_b l3 l2 3 2).toInt = 1 := by rw [own_bt w']; rfl
    rw [own_Rint, own_Rint]
    omega
theorem own_d24 : ¬ ((own_rank l0 l1 l2 l3 l4 l2 (2 : Int32))).toNatClampNeg = ((own_rank l0 l1 l2 l3 l4 l4 (4 : Int32))).toNatClampNeg := by
  rw [own_cl, own_cl]
  have p := own_x2 l0 l1 l2 l3 l4
  have q := own_x4 l0 l1 l2 l3 l4
  suffices h : ((own_rank l0 l1 l2 l3 l4 l2 (2 : Int32))).toInt < ((own_rank l0 l1 l2 l3 l4 l4 (4 : Int32))).toInt ∨ ((own_rank l0 l1 l2 l3 l4 l4 (4 : Int32))).toInt < ((own_rank l0 l1 l2 l3 l4 l2 (2 : Int32))).toInt by omega
  have z0 : (0 : Int32).toInt = 0 := by decide
  have z1 : (1 : Int32).toInt = 1 := by decide
  by_cases w : l2 < l4 ∨ (l2 = l4 ∧ (2 : Int32) < 4)
  · left
    have m0 := own_bm (x := l0) (t := 0) w
    have m1 := own_bm (x := l1) (t := 1) w
    have m2 := own_bm (x := l2) (t := 2) w
    have m3 := own_bm (x := l3) (t := 3) w
    have m4 := own_bm (x := l4) (t := 4) w
    have s1 : (own_b l2 l2 2 2).toInt = 0 := by rw [own_bself]; rfl
    have s2 : (own_b l2 l4 2 4).toInt = 1 := by rw [own_bt w]; rfl
    rw [own_Rint, own_Rint]
    omega
  · have w' : l4 < l2 ∨ (l4 = l2 ∧ (4 : Int32) < 2) := by
      have k : (2 : Int32) < 4 := by decide
      simp only [k, and_true, not_or] at w
      left
      simp only [Int32.lt_iff_toInt_lt, ← Int32.toInt_inj] at *
      omega
    right
    have m0 := own_bm (x := l0) (t := 0) w'
    have m1 := own_bm (x := l1) (t := 1) w'
    have m2 := own_bm (x := l2) (t := 2) w'
    have m3 := own_bm (x := l3) (t := 3) w'
    have m4 := own_bm (x := l4) (t := 4) w'
    have s1 : (own_b l4 l4 4 4).toInt = 0 := by rw [own_bself]; rfl
    have s2 : (own_b l4 l2 4 2).toInt = 1 := by rw [own_bt w']; rfl
    rw [own_Rint, own_Rint]
    omega
theorem own_d34 : ¬ ((own_rank l0 l1 l2 l3 l4 l3 (3 : Int32))).toNatClampNeg = ((own_rank l0 l1 l2 l3 l4 l4 (4 : Int32))).toNatClampNeg := by
  rw [own_cl, own_cl]
  have p := own_x3 l0 l1 l2 l3 l4
  have q := own_x4 l0 l1 l2 l3 l4
  suffices h : ((own_rank l0 l1 l2 l3 l4 l3 (3 : Int32))).toInt < ((own_rank l0 l1 l2 l3 l4 l4 (4 : Int32))).toInt ∨ ((own_rank l0 l1 l2 l3 l4 l4 (4 : Int32))).toInt < ((own_rank l0 l1 l2 l3 l4 l3 (3 : Int32))).toInt by omega
  have z0 : (0 : Int32).toInt = 0 := by decide
  have z1 : (1 : Int32).toInt = 1 := by decide
  by_cases w : l3 < l4 ∨ (l3 = l4 ∧ (3 : Int32) < 4)
  · left
    have m0 := own_bm (x := l0) (t := 0) w
    have m1 := own_bm (x := l1) (t := 1) w
    have m2 := own_bm (x := l2) (t := 2) w
    have m3 := own_bm (x := l3) (t := 3) w
    have m4 := own_bm (x := l4) (t := 4) w
    have s1 : (own_b l3 l3 3 3).toInt = 0 := by rw [own_bself]; rfl
    have s2 : (own_b l3 l4 3 4).toInt = 1 := by rw [own_bt w]; rfl
    rw [own_Rint, own_Rint]
    omega
  · have w' : l4 < l3 ∨ (l4 = l3 ∧ (4 : Int32) < 3) := by
      have k : (3 : Int32) < 4 := by decide
      simp only [k, and_true, not_or] at w
      left
      simp only [Int32.lt_iff_toInt_lt, ← Int32.toInt_inj] at *
      omega
    right
    have m0 := own_bm (x := l0) (t := 0) w'
    have m1 := own_bm (x := l1) (t := 1) w'
    have m2 := own_bm (x := l2) (t := 2) w'
    have m3 := own_bm (x := l3) (t := 3) w'
    have m4 := own_bm (x := l4) (t := 4) w'
    have s1 : (own_b l4 l4 4 4).toInt = 0 := by rw [own_bself]; rfl
    have s2 : (own_b l4 l3 4 3).toInt = 1 := by rw [own_bt w']; rfl
    rw [own_Rint, own_Rint]
    omega
theorem own_inv0 (h0 : 0 ≤ l0.toInt) (h1 : 0 ≤ l1.toInt) (h2 : 0 ≤ l2.toInt) (h3 : 0 ≤ l3.toInt) (h4 : 0 ≤ l4.toInt) (L : Int32) (hL : 0 ≤ L.toInt ∧ L.toInt < 8) : ([(.int (0 : Int32)), (.int ((0 : Int32) + (own_cnt l0 l1 l2 l3 l4 (0 : Int32)))), (.int (((0 : Int32) + (own_cnt l0 l1 l2 l3 l4 (0 : Int32))) + (own_cnt l0 l1 l2 l3 l4 (1 : Int32)))), (.int ((((0 : Int32) + (own_cnt l0 l1 l2 l3 l4 (0 : Int32))) + (own_cnt l0 l1 l2 l3 l4 (1 : Int32))) + (own_cnt l0 l1 l2 l3 l4 (2 : Int32)))), (.int (((((0 : Int32) + (own_cnt l0 l1 l2 l3 l4 (0 : Int32))) + (own_cnt l0 l1 l2 l3 l4 (1 : Int32))) + (own_cnt l0 l1 l2 l3 l4 (2 : Int32))) + (own_cnt l0 l1 l2 l3 l4 (3 : Int32)))), (.int ((((((0 : Int32) + (own_cnt l0 l1 l2 l3 l4 (0 : Int32))) + (own_cnt l0 l1 l2 l3 l4 (1 : Int32))) + (own_cnt l0 l1 l2 l3 l4 (2 : Int32))) + (own_cnt l0 l1 l2 l3 l4 (3 : Int32))) + (own_cnt l0 l1 l2 l3 l4 (4 : Int32)))), (.int (((((((0 : Int32) + (own_cnt l0 l1 l2 l3 l4 (0 : Int32))) + (own_cnt l0 l1 l2 l3 l4 (1 : Int32))) + (own_cnt l0 l1 l2 l3 l4 (2 : Int32))) + (own_cnt l0 l1 l2 l3 l4 (3 : Int32))) + (own_cnt l0 l1 l2 l3 l4 (4 : Int32))) + (own_cnt l0 l1 l2 l3 l4 (5 : Int32)))), (.int ((((((((0 : Int32) + (own_cnt l0 l1 l2 l3 l4 (0 : Int32))) + (own_cnt l0 l1 l2 l3 l4 (1 : Int32))) + (own_cnt l0 l1 l2 l3 l4 (2 : Int32))) + (own_cnt l0 l1 l2 l3 l4 (3 : Int32))) + (own_cnt l0 l1 l2 l3 l4 (4 : Int32))) + (own_cnt l0 l1 l2 l3 l4 (5 : Int32))) + (own_cnt l0 l1 l2 l3 l4 (6 : Int32))))] : List Value)[L.toNatClampNeg]? = some (.int (own_rank l0 l1 l2 l3 l4 L (0 : Int32))) := by
  have z : (0 : Int32) = own_rank l0 l1 l2 l3 l4 0 0 := by
    have q : ∀ x t : Int32, 0 ≤ x.toInt → ¬ t < 0 → own_b x 0 t 0 = 0 := fun x t hx ht => by
      simp only [own_b, ht, and_false, or_false]; rw [if_neg (own_nn hx)]
    simp only [own_rank, q _ 0 h0 (by decide), q _ 1 h1 (by decide), q _ 2 h2 (by decide), q _ 3 h3 (by decide), q _ 4 h4 (by decide)]; rfl
  have r0 := own_Rk l0 l1 l2 l3 l4 (0 : Int32) (1 : Int32) (by decide)
  have r1 := own_Rk l0 l1 l2 l3 l4 (1 : Int32) (2 : Int32) (by decide)
  have r2 := own_Rk l0 l1 l2 l3 l4 (2 : Int32) (3 : Int32) (by decide)
  have r3 := own_Rk l0 l1 l2 l3 l4 (3 : Int32) (4 : Int32) (by decide)
  have r4 := own_Rk l0 l1 l2 l3 l4 (4 : Int32) (5 : Int32) (by decide)
  have r5 := own_Rk l0 l1 l2 l3 l4 (5 : Int32) (6 : Int32) (by decide)
  have r6 := own_Rk l0 l1 l2 l3 l4 (6 : Int32) (7 : Int32) (by decide)
  have x0 := z
  have x1 : ((0 : Int32) + (own_cnt l0 l1 l2 l3 l4 (0 : Int32))) = own_rank l0 l1 l2 l3 l4 1 0 := (congrArg (fun y => y + (own_cnt l0 l1 l2 l3 l4 (0 : Int32))) x0).trans r0
  have x2 : (((0 : Int32) + (own_cnt l0 l1 l2 l3 l4 (0 : Int32))) + (own_cnt l0 l1 l2 l3 l4 (1 : Int32))) = own_rank l0 l1 l2 l3 l4 2 0 := (congrArg (fun y => y + (own_cnt l0 l1 l2 l3 l4 (1 : Int32))) x1).trans r1
  have x3 : ((((0 : Int32) + (own_cnt l0 l1 l2 l3 l4 (0 : Int32))) + (own_cnt l0 l1 l2 l3 l4 (1 : Int32))) + (own_cnt l0 l1 l2 l3 l4 (2 : Int32))) = own_rank l0 l1 l2 l3 l4 3 0 := (congrArg (fun y => y + (own_cnt l0 l1 l2 l3 l4 (2 : Int32))) x2).trans r2
  have x4 : (((((0 : Int32) + (own_cnt l0 l1 l2 l3 l4 (0 : Int32))) + (own_cnt l0 l1 l2 l3 l4 (1 : Int32))) + (own_cnt l0 l1 l2 l3 l4 (2 : Int32))) + (own_cnt l0 l1 l2 l3 l4 (3 : Int32))) = own_rank l0 l1 l2 l3 l4 4 0 := (congrArg (fun y => y + (own_cnt l0 l1 l2 l3 l4 (3 : Int32))) x3).trans r3
  have x5 : ((((((0 : Int32) + (own_cnt l0 l1 l2 l3 l4 (0 : Int32))) + (own_cnt l0 l1 l2 l3 l4 (1 : Int32))) + (own_cnt l0 l1 l2 l3 l4 (2 : Int32))) + (own_cnt l0 l1 l2 l3 l4 (3 : Int32))) + (own_cnt l0 l1 l2 l3 l4 (4 : Int32))) = own_rank l0 l1 l2 l3 l4 5 0 := (congrArg (fun y => y + (own_cnt l0 l1 l2 l3 l4 (4 : Int32))) x4).trans r4
  have x6 : (((((((0 : Int32) + (own_cnt l0 l1 l2 l3 l4 (0 : Int32))) + (own_cnt l0 l1 l2 l3 l4 (1 : Int32))) + (own_cnt l0 l1 l2 l3 l4 (2 : Int32))) + (own_cnt l0 l1 l2 l3 l4 (3 : Int32))) + (own_cnt l0 l1 l2 l3 l4 (4 : Int32))) + (own_cnt l0 l1 l2 l3 l4 (5 : Int32))) = own_rank l0 l1 l2 l3 l4 6 0 := (congrArg (fun y => y + (own_cnt l0 l1 l2 l3 l4 (5 : Int32))) x5).trans r5
  have x7 : ((((((((0 : Int32) + (own_cnt l0 l1 l2 l3 l4 (0 : Int32))) + (own_cnt l0 l1 l2 l3 l4 (1 : Int32))) + (own_cnt l0 l1 l2 l3 l4 (2 : Int32))) + (own_cnt l0 l1 l2 l3 l4 (3 : Int32))) + (own_cnt l0 l1 l2 l3 l4 (4 : Int32))) + (own_cnt l0 l1 l2 l3 l4 (5 : Int32))) + (own_cnt l0 l1 l2 l3 l4 (6 : Int32))) = own_rank l0 l1 l2 l3 l4 7 0 := (congrArg (fun y => y + (own_cnt l0 l1 l2 l3 l4 (6 : Int32))) x6).trans r6
  rcases own_eight L hL with rfl | rfl | rfl | rfl | rfl | rfl | rfl | rfl
  · exact (rfl : _ = some (Value.int (0 : Int32))).trans (congrArg (fun y => some (Value.int y)) x0)
  · exact (rfl : _ = some (Value.int ((0 : Int32) + (own_cnt l0 l1 l2 l3 l4 (0 : Int32))))).trans (congrArg (fun y => some (Value.int y)) x1)
  · exact (rfl : _ = some (Value.int (((0 : Int32) + (own_cnt l0 l1 l2 l3 l4 (0 : Int32))) + (own_cnt l0 l1 l2 l3 l4 (1 : Int32))))).trans (congrArg (fun y => some (Value.int y)) x2)
  · exact (rfl : _ = some (Value.int ((((0 : Int32) + (own_cnt l0 l1 l2 l3 l4 (0 : Int32))) + (own_cnt l0 l1 l2 l3 l4 (1 : Int32))) + (own_cnt l0 l1 l2 l3 l4 (2 : Int32))))).trans (congrArg (fun y => some (Value.int y)) x3)
  · exact (rfl : _ = some (Value.int (((((0 : Int32) + (own_cnt l0 l1 l2 l3 l4 (0 : Int32))) + (own_cnt l0 l1 l2 l3 l4 (1 : Int32))) + (own_cnt l0 l1 l2 l3 l4 (2 : Int32))) + (own_cnt l0 l1 l2 l3 l4 (3 : Int32))))).trans (congrArg (fun y => some (Value.int y)) x4)
  · exact (rfl : _ = some (Value.int ((((((0 : Int32) + (own_cnt l0 l1 l2 l3 l4 (0 : Int32))) + (own_cnt l0 l1 l2 l3 l4 (1 : Int32))) + (own_cnt l0 l1 l2 l3 l4 (2 : Int32))) + (own_cnt l0 l1 l2 l3 l4 (3 : Int32))) + (own_cnt l0 l1 l2 l3 l4 (4 : Int32))))).trans (congrArg (fun y => some (Value.int y)) x5)
  · exact (rfl : _ = some (Value.int (((((((0 : Int32) + (own_cnt l0 l1 l2 l3 l4 (0 : Int32))) + (own_cnt l0 l1 l2 l3 l4 (1 : Int32))) + (own_cnt l0 l1 l2 l3 l4 (2 : Int32))) + (own_cnt l0 l1 l2 l3 l4 (3 : Int32))) + (own_cnt l0 l1 l2 l3 l4 (4 : Int32))) + (own_cnt l0 l1 l2 l3 l4 (5 : Int32))))).trans (congrArg (fun y => some (Value.int y)) x6)
  · exact (rfl : _ = some (Value.int ((((((((0 : Int32) + (own_cnt l0 l1 l2 l3 l4 (0 : Int32))) + (own_cnt l0 l1 l2 l3 l4 (1 : Int32))) + (own_cnt l0 l1 l2 l3 l4 (2 : Int32))) + (own_cnt l0 l1 l2 l3 l4 (3 : Int32))) + (own_cnt l0 l1 l2 l3 l4 (4 : Int32))) + (own_cnt l0 l1 l2 l3 l4 (5 : Int32))) + (own_cnt l0 l1 l2 l3 l4 (6 : Int32))))).trans (congrArg (fun y => some (Value.int y)) x7)
theorem own_hx0 (h0 : 0 ≤ l0.toInt ∧ l0.toInt < 8) (h1 : 0 ≤ l1.toInt ∧ l1.toInt < 8) (h2 : 0 ≤ l2.toInt ∧ l2.toInt < 8) (h3 : 0 ≤ l3.toInt ∧ l3.toInt < 8) (h4 : 0 ≤ l4.toInt ∧ l4.toInt < 8) : ([(.int (0 : Int32)), (.int ((0 : Int32) + (own_cnt l0 l1 l2 l3 l4 (0 : Int32)))), (.int (((0 : Int32) + (own_cnt l0 l1 l2 l3 l4 (0 : Int32))) + (own_cnt l0 l1 l2 l3 l4 (1 : Int32)))), (.int ((((0 : Int32) + (own_cnt l0 l1 l2 l3 l4 (0 : Int32))) + (own_cnt l0 l1 l2 l3 l4 (1 : Int32))) + (own_cnt l0 l1 l2 l3 l4 (2 : Int32)))), (.int (((((0 : Int32) + (own_cnt l0 l1 l2 l3 l4 (0 : Int32))) + (own_cnt l0 l1 l2 l3 l4 (1 : Int32))) + (own_cnt l0 l1 l2 l3 l4 (2 : Int32))) + (own_cnt l0 l1 l2 l3 l4 (3 : Int32)))), (.int ((((((0 : Int32) + (own_cnt l0 l1 l2 l3 l4 (0 : Int32))) + (own_cnt l0 l1 l2 l3 l4 (1 : Int32))) + (own_cnt l0 l1 l2 l3 l4 (2 : Int32))) + (own_cnt l0 l1 l2 l3 l4 (3 : Int32))) + (own_cnt l0 l1 l2 l3 l4 (4 : Int32)))), (.int (((((((0 : Int32) + (own_cnt l0 l1 l2 l3 l4 (0 : Int32))) + (own_cnt l0 l1 l2 l3 l4 (1 : Int32))) + (own_cnt l0 l1 l2 l3 l4 (2 : Int32))) + (own_cnt l0 l1 l2 l3 l4 (3 : Int32))) + (own_cnt l0 l1 l2 l3 l4 (4 : Int32))) + (own_cnt l0 l1 l2 l3 l4 (5 : Int32)))), (.int ((((((((0 : Int32) + (own_cnt l0 l1 l2 l3 l4 (0 : Int32))) + (own_cnt l0 l1 l2 l3 l4 (1 : Int32))) + (own_cnt l0 l1 l2 l3 l4 (2 : Int32))) + (own_cnt l0 l1 l2 l3 l4 (3 : Int32))) + (own_cnt l0 l1 l2 l3 l4 (4 : Int32))) + (own_cnt l0 l1 l2 l3 l4 (5 : Int32))) + (own_cnt l0 l1 l2 l3 l4 (6 : Int32))))] : List Value)[l0.toNatClampNeg]? = some (.int (own_rank l0 l1 l2 l3 l4 l0 (0 : Int32))) := own_inv0 l0 l1 l2 l3 l4 h0.1 h1.1 h2.1 h3.1 h4.1 l0 h0
theorem own_inv1 (h0 : 0 ≤ l0.toInt ∧ l0.toInt < 8) (h1 : 0 ≤ l1.toInt ∧ l1.toInt < 8) (h2 : 0 ≤ l2.toInt ∧ l2.toInt < 8) (h3 : 0 ≤ l3.toInt ∧ l3.toInt < 8) (h4 : 0 ≤ l4.toInt ∧ l4.toInt < 8) (L : Int32) (hL : 0 ≤ L.toInt ∧ L.toInt < 8) : (([(.int (0 : Int32)), (.int ((0 : Int32) + (own_cnt l0 l1 l2 l3 l4 (0 : Int32)))), (.int (((0 : Int32) + (own_cnt l0 l1 l2 l3 l4 (0 : Int32))) + (own_cnt l0 l1 l2 l3 l4 (1 : Int32)))), (.int ((((0 : Int32) + (own_cnt l0 l1 l2 l3 l4 (0 : Int32))) + (own_cnt l0 l1 l2 l3 l4 (1 : Int32))) + (own_cnt l0 l1 l2 l3 l4 (2 : Int32)))), (.int (((((0 : Int32) + (own_cnt l0 l1 l2 l3 l4 (0 : Int32))) + (own_cnt l0 l1 l2 l3 l4 (1 : Int32))) + (own_cnt l0 l1 l2 l3 l4 (2 : Int32))) + (own_cnt l0 l1 l2 l3 l4 (3 : Int32)))), (.int ((((((0 : Int32) + (own_cnt l0 l1 l2 l3 l4 (0 : Int32))) + (own_cnt l0 l1 l2 l3 l4 (1 : Int32))) + (own_cnt l0 l1 l2 l3 l4 (2 : Int32))) + (own_cnt l0 l1 l2 l3 l4 (3 : Int32))) + (own_cnt l0 l1 l2 l3 l4 (4 : Int32)))), (.int (((((((0 : Int32) + (own_cnt l0 l1 l2 l3 l4 (0 : Int32))) + (own_cnt l0 l1 l2 l3 l4 (1 : Int32))) + (own_cnt l0 l1 l2 l3 l4 (2 : Int32))) + (own_cnt l0 l1 l2 l3 l4 (3 : Int32))) + (own_cnt l0 l1 l2 l3 l4 (4 : Int32))) + (own_cnt l0 l1 l2 l3 l4 (5 : Int32)))), (.int ((((((((0 : Int32) + (own_cnt l0 l1 l2 l3 l4 (0 : Int32))) + (own_cnt l0 l1 l2 l3 l4 (1 : Int32))) + (own_cnt l0 l1 l2 l3 l4 (2 : Int32))) + (own_cnt l0 l1 l2 l3 l4 (3 : Int32))) + (own_cnt l0 l1 l2 l3 l4 (4 : Int32))) + (own_cnt l0 l1 l2 l3 l4 (5 : Int32))) + (own_cnt l0 l1 l2 l3 l4 (6 : Int32))))].set l0.toNatClampNeg (.int ((own_rank l0 l1 l2 l3 l4 l0 (0 : Int32)) + (1 : Int32)))) : List Value)[L.toNatClampNeg]? = some (.int (own_rank l0 l1 l2 l3 l4 L (1 : Int32))) := by
  rw [List.getElem?_set, own_Rs0]
  by_cases q : l0 = L
  · subst q
    rw [if_pos rfl, if_pos rfl, if_pos (by simp only [List.length_set, List.length_cons, List.length_nil]; rw [own_cl]; omega)]
  · rw [if_neg (by rw [own_cl, own_cl]; exact fun w => q (Int32.toInt_inj.mp (by omega))), if_neg q]
    exact own_inv0 l0 l1 l2 l3 l4 h0.1 h1.1 h2.1 h3.1 h4.1 L hL
theorem own_hx1 (h0 : 0 ≤ l0.toInt ∧ l0.toInt < 8) (h1 : 0 ≤ l1.toInt ∧ l1.toInt < 8) (h2 : 0 ≤ l2.toInt ∧ l2.toInt < 8) (h3 : 0 ≤ l3.toInt ∧ l3.toInt < 8) (h4 : 0 ≤ l4.toInt ∧ l4.toInt < 8) : (([(.int (0 : Int32)), (.int ((0 : Int32) + (own_cnt l0 l1 l2 l3 l4 (0 : Int32)))), (.int (((0 : Int32) + (own_cnt l0 l1 l2 l3 l4 (0 : Int32))) + (own_cnt l0 l1 l2 l3 l4 (1 : Int32)))), (.int ((((0 : Int32) + (own_cnt l0 l1 l2 l3 l4 (0 : Int32))) + (own_cnt l0 l1 l2 l3 l4 (1 : Int32))) + (own_cnt l0 l1 l2 l3 l4 (2 : Int32)))), (.int (((((0 : Int32) + (own_cnt l0 l1 l2 l3 l4 (0 : Int32))) + (own_cnt l0 l1 l2 l3 l4 (1 : Int32))) + (own_cnt l0 l1 l2 l3 l4 (2 : Int32))) + (own_cnt l0 l1 l2 l3 l4 (3 : Int32)))), (.int ((((((0 : Int32) + (own_cnt l0 l1 l2 l3 l4 (0 : Int32))) + (own_cnt l0 l1 l2 l3 l4 (1 : Int32))) + (own_cnt l0 l1 l2 l3 l4 (2 : Int32))) + (own_cnt l0 l1 l2 l3 l4 (3 : Int32))) + (own_cnt l0 l1 l2 l3 l4 (4 : Int32)))), (.int (((((((0 : Int32) + (own_cnt l0 l1 l2 l3 l4 (0 : Int32))) + (own_cnt l0 l1 l2 l3 l4 (1 : Int32))) + (own_cnt l0 l1 l2 l3 l4 (2 : Int32))) + (own_cnt l0 l1 l2 l3 l4 (3 : Int32))) + (own_cnt l0 l1 l2 l3 l4 (4 : Int32))) + (own_cnt l0 l1 l2 l3 l4 (5 : Int32)))), (.int ((((((((0 : Int32) + (own_cnt l0 l1 l2 l3 l4 (0 : Int32))) + (own_cnt l0 l1 l2 l3 l4 (1 : Int32))) + (own_cnt l0 l1 l2 l3 l4 (2 : Int32))) + (own_cnt l0 l1 l2 l3 l4 (3 : Int32))) + (own_cnt l0 l1 l2 l3 l4 (4 : Int32))) + (own_cnt l0 l1 l2 l3 l4 (5 : Int32))) + (own_cnt l0 l1 l2 l3 l4 (6 : Int32))))].set l0.toNatClampNeg (.int ((own_rank l0 l1 l2 l3 l4 l0 (0 : Int32)) + (1 : Int32)))) : List Value)[l1.toNatClampNeg]? = some (.int (own_rank l0 l1 l2 l3 l4 l1 (1 : Int32))) := own_inv1 l0 l1 l2 l3 l4 h0 h1 h2 h3 h4 l1 h1
theorem own_inv2 (h0 : 0 ≤ l0.toInt ∧ l0.toInt < 8) (h1 : 0 ≤ l1.toInt ∧ l1.toInt < 8) (h2 : 0 ≤ l2.toInt ∧ l2.toInt < 8) (h3 : 0 ≤ l3.toInt ∧ l3.toInt < 8) (h4 : 0 ≤ l4.toInt ∧ l4.toInt < 8) (L : Int32) (hL : 0 ≤ L.toInt ∧ L.toInt < 8) : ((([(.int (0 : Int32)), (.int ((0 : Int32) + (own_cnt l0 l1 l2 l3 l4 (0 : Int32)))), (.int (((0 : Int32) + (own_cnt l0 l1 l2 l3 l4 (0 : Int32))) + (own_cnt l0 l1 l2 l3 l4 (1 : Int32)))), (.int ((((0 : Int32) + (own_cnt l0 l1 l2 l3 l4 (0 : Int32))) + (own_cnt l0 l1 l2 l3 l4 (1 : Int32))) + (own_cnt l0 l1 l2 l3 l4 (2 : Int32)))), (.int (((((0 : Int32) + (own_cnt l0 l1 l2 l3 l4 (0 : Int32))) + (own_cnt l0 l1 l2 l3 l4 (1 : Int32))) + (own_cnt l0 l1 l2 l3 l4 (2 : Int32))) + (own_cnt l0 l1 l2 l3 l4 (3 : Int32)))), (.int ((((((0 : Int32) + (own_cnt l0 l1 l2 l3 l4 (0 : Int32))) + (own_cnt l0 l1 l2 l3 l4 (1 : Int32))) + (own_cnt l0 l1 l2 l3 l4 (2 : Int32))) + (own_cnt l0 l1 l2 l3 l4 (3 : Int32))) + (own_cnt l0 l1 l2 l3 l4 (4 : Int32)))), (.int (((((((0 : Int32) + (own_cnt l0 l1 l2 l3 l4 (0 : Int32))) + (own_cnt l0 l1 l2 l3 l4 (1 : Int32))) + (own_cnt l0 l1 l2 l3 l4 (2 : Int32))) + (own_cnt l0 l1 l2 l3 l4 (3 : Int32))) + (own_cnt l0 l1 l2 l3 l4 (4 : Int32))) + (own_cnt l0 l1 l2 l3 l4 (5 : Int32)))), (.int ((((((((0 : Int32) + (own_cnt l0 l1 l2 l3 l4 (0 : Int32))) + (own_cnt l0 l1 l2 l3 l4 (1 : Int32))) + (own_cnt l0 l1 l2 l3 l4 (2 : Int32))) + (own_cnt l0 l1 l2 l3 l4 (3 : Int32))) + (own_cnt l0 l1 l2 l3 l4 (4 : Int32))) + (own_cnt l0 l1 l2 l3 l4 (5 : Int32))) + (own_cnt l0 l1 l2 l3 l4 (6 : Int32))))].set l0.toNatClampNeg (.int ((own_rank l0 l1 l2 l3 l4 l0 (0 : Int32)) + (1 : Int32)))).set l1.toNatClampNeg (.int ((own_rank l0 l1 l2 l3 l4 l1 (1 : Int32)) + (1 : Int32)))) : List Value)[L.toNatClampNeg]? = some (.int (own_rank l0 l1 l2 l3 l4 L (2 : Int32))) := by
  rw [List.getElem?_set, own_Rs1]
  by_cases q : l1 = L
  · subst q
    rw [if_pos rfl, if_pos rfl, if_pos (by simp only [List.length_set, List.length_cons, List.length_nil]; rw [own_cl]; omega)]
  · rw [if_neg (by rw [own_cl, own_cl]; exact fun w => q (Int32.toInt_inj.mp (by omega))), if_neg q]
    exact own_inv1 l0 l1 l2 l3 l4 h0 h1 h2 h3 h4 L hL
theorem own_hx2 (h0 : 0 ≤ l0.toInt ∧ l0.toInt < 8) (h1 : 0 ≤ l1.toInt ∧ l1.toInt < 8) (h2 : 0 ≤ l2.toInt ∧ l2.toInt < 8) (h3 : 0 ≤ l3.toInt ∧ l3.toInt < 8) (h4 : 0 ≤ l4.toInt ∧ l4.toInt < 8) : ((([(.int (0 : Int32)), (.int ((0 : Int32) + (own_cnt l0 l1 l2 l3 l4 (0 : Int32)))), (.int (((0 : Int32) + (own_cnt l0 l1 l2 l3 l4 (0 : Int32))) + (own_cnt l0 l1 l2 l3 l4 (1 : Int32)))), (.int ((((0 : Int32) + (own_cnt l0 l1 l2 l3 l4 (0 : Int32))) + (own_cnt l0 l1 l2 l3 l4 (1 : Int32))) + (own_cnt l0 l1 l2 l3 l4 (2 : Int32)))), (.int (((((0 : Int32) + (own_cnt l0 l1 l2 l3 l4 (0 : Int32))) + (own_cnt l0 l1 l2 l3 l4 (1 : Int32))) + (own_cnt l0 l1 l2 l3 l4 (2 : Int32))) + (own_cnt l0 l1 l2 l3 l4 (3 : Int32)))), (.int ((((((0 : Int32) + (own_cnt l0 l1 l2 l3 l4 (0 : Int32))) + (own_cnt l0 l1 l2 l3 l4 (1 : Int32))) + (own_cnt l0 l1 l2 l3 l4 (2 : Int32))) + (own_cnt l0 l1 l2 l3 l4 (3 : Int32))) + (own_cnt l0 l1 l2 l3 l4 (4 : Int32)))), (.int (((((((0 : Int32) + (own_cnt l0 l1 l2 l3 l4 (0 : Int32))) + (own_cnt l0 l1 l2 l3 l4 (1 : Int32))) + (own_cnt l0 l1 l2 l3 l4 (2 : Int32))) + (own_cnt l0 l1 l2 l3 l4 (3 : Int32))) + (own_cnt l0 l1 l2 l3 l4 (4 : Int32))) + (own_cnt l0 l1 l2 l3 l4 (5 : Int32)))), (.int ((((((((0 : Int32) + (own_cnt l0 l1 l2 l3 l4 (0 : Int32))) + (own_cnt l0 l1 l2 l3 l4 (1 : Int32))) + (own_cnt l0 l1 l2 l3 l4 (2 : Int32))) + (own_cnt l0 l1 l2 l3 l4 (3 : Int32))) + (own_cnt l0 l1 l2 l3 l4 (4 : Int32))) + (own_cnt l0 l1 l2 l3 l4 (5 : Int32))) + (own_cnt l0 l1 l2 l3 l4 (6 : Int32))))].set l0.toNatClampNeg (.int ((own_rank l0 l1 l2 l3 l4 l0 (0 : Int32)) + (1 : Int32)))).set l1.toNatClampNeg (.int ((own_rank l0 l1 l2 l3 l4 l1 (1 : Int32)) + (1 : Int32)))) : List Value)[l2.toNatClampNeg]? = some (.int (own_rank l0 l1 l2 l3 l4 l2 (2 : Int32))) := own_inv2 l0 l1 l2 l3 l4 h0 h1 h2 h3 h4 l2 h2
theorem own_inv3 (h0 : 0 ≤ l0.toInt ∧ l0.toInt < 8) (h1 : 0 ≤ l1.toInt ∧ l1.toInt < 8) (h2 : 0 ≤ l2.toInt ∧ l2.toInt < 8) (h3 : 0 ≤ l3.toInt ∧ l3.toInt < 8) (h4 : 0 ≤ l4.toInt ∧ l4.toInt < 8) (L : Int32) (hL : 0 ≤ L.toInt ∧ L.toInt < 8) : (((([(.int (0 : Int32)), (.int ((0 : Int32) + (own_cnt l0 l1 l2 l3 l4 (0 : Int32)))), (.int (((0 : Int32) + (own_cnt l0 l1 l2 l3 l4 (0 : Int32))) + (own_cnt l0 l1 l2 l3 l4 (1 : Int32)))), (.int ((((0 : Int32) + (own_cnt l0 l1 l2 l3 l4 (0 : Int32))) + (own_cnt l0 l1 l2 l3 l4 (1 : Int32))) + (own_cnt l0 l1 l2 l3 l4 (2 : Int32)))), (.int (((((0 : Int32) + (own_cnt l0 l1 l2 l3 l4 (0 : Int32))) + (own_cnt l0 l1 l2 l3 l4 (1 : Int32))) + (own_cnt l0 l1 l2 l3 l4 (2 : Int32))) + (own_cnt l0 l1 l2 l3 l4 (3 : Int32)))), (.int ((((((0 : Int32) + (own_cnt l0 l1 l2 l3 l4 (0 : Int32))) + (own_cnt l0 l1 l2 l3 l4 (1 : Int32))) + (own_cnt l0 l1 l2 l3 l4 (2 : Int32))) + (own_cnt l0 l1 l2 l3 l4 (3 : Int32))) + (own_cnt l0 l1 l2 l3 l4 (4 : Int32)))), (.int (((((((0 : Int32) + (own_cnt l0 l1 l2 l3 l4 (0 : Int32))) + (own_cnt l0 l1 l2 l3 l4 (1 : Int32))) + (own_cnt l0 l1 l2 l3 l4 (2 : Int32))) + (own_cnt l0 l1 l2 l3 l4 (3 : Int32))) + (own_cnt l0 l1 l2 l3 l4 (4 : Int32))) + (own_cnt l0 l1 l2 l3 l4 (5 : Int32)))), (.int ((((((((0 : Int32) + (own_cnt l0 l1 l2 l3 l4 (0 : Int32))) + (own_cnt l0 l1 l2 l3 l4 (1 : Int32))) + (own_cnt l0 l1 l2 l3 l4 (2 : Int32))) + (own_cnt l0 l1 l2 l3 l4 (3 : Int32))) + (own_cnt l0 l1 l2 l3 l4 (4 : Int32))) + (own_cnt l0 l1 l2 l3 l4 (5 : Int32))) + (own_cnt l0 l1 l2 l3 l4 (6 : Int32))))].set l0.toNatClampNeg (.int ((own_rank l0 l1 l2 l3 l4 l0 (0 : Int32)) + (1 : Int32)))).set l1.toNatClampNeg (.int ((own_rank l0 l1 l2 l3 l4 l1 (1 : Int32)) + (1 : Int32)))).set l2.toNatClampNeg (.int ((own_rank l0 l1 l2 l3 l4 l2 (2 : Int32)) + (1 : Int32)))) : List Value)[L.toNatClampNeg]? = some (.int (own_rank l0 l1 l2 l3 l4 L (3 : Int32))) := by
  rw [List.getElem?_set, own_Rs2]
  by_cases q : l2 = L
  · subst q
    rw [if_pos rfl, if_pos rfl, if_pos (by simp only [List.length_set, List.length_cons, List.length_nil]; rw [own_cl]; omega)]
  · rw [if_neg (by rw [own_cl, own_cl]; exact fun w => q (Int32.toInt_inj.mp (by omega))), if_neg q]
    exact own_inv2 l0 l1 l2 l3 l4 h0 h1 h2 h3 h4 L hL
theorem own_hx3 (h0 : 0 ≤ l0.toInt ∧ l0.toInt < 8) (h1 : 0 ≤ l1.toInt ∧ l1.toInt < 8) (h2 : 0 ≤ l2.toInt ∧ l2.toInt < 8) (h3 : 0 ≤ l3.toInt ∧ l3.toInt < 8) (h4 : 0 ≤ l4.toInt ∧ l4.toInt < 8) : (((([(.int (0 : Int32)), (.int ((0 : Int32) + (own_cnt l0 l1 l2 l3 l4 (0 : Int32)))), (.int (((0 : Int32) + (own_cnt l0 l1 l2 l3 l4 (0 : Int32))) + (own_cnt l0 l1 l2 l3 l4 (1 : Int32)))), (.int ((((0 : Int32) + (own_cnt l0 l1 l2 l3 l4 (0 : Int32))) + (own_cnt l0 l1 l2 l3 l4 (1 : Int32))) + (own_cnt l0 l1 l2 l3 l4 (2 : Int32)))), (.int (((((0 : Int32) + (own_cnt l0 l1 l2 l3 l4 (0 : Int32))) + (own_cnt l0 l1 l2 l3 l4 (1 : Int32))) + (own_cnt l0 l1 l2 l3 l4 (2 : Int32))) + (own_cnt l0 l1 l2 l3 l4 (3 : Int32)))), (.int ((((((0 : Int32) + (own_cnt l0 l1 l2 l3 l4 (0 : Int32))) + (own_cnt l0 l1 l2 l3 l4 (1 : Int32))) + (own_cnt l0 l1 l2 l3 l4 (2 : Int32))) + (own_cnt l0 l1 l2 l3 l4 (3 : Int32))) + (own_cnt l0 l1 l2 l3 l4 (4 : Int32)))), (.int (((((((0 : Int32) + (own_cnt l0 l1 l2 l3 l4 (0 : Int32))) + (own_cnt l0 l1 l2 l3 l4 (1 : Int32))) + (own_cnt l0 l1 l2 l3 l4 (2 : Int32))) + (own_cnt l0 l1 l2 l3 l4 (3 : Int32))) + (own_cnt l0 l1 l2 l3 l4 (4 : Int32))) + (own_cnt l0 l1 l2 l3 l4 (5 : Int32)))), (.int ((((((((0 : Int32) + (own_cnt l0 l1 l2 l3 l4 (0 : Int32))) + (own_cnt l0 l1 l2 l3 l4 (1 : Int32))) + (own_cnt l0 l1 l2 l3 l4 (2 : Int32))) + (own_cnt l0 l1 l2 l3 l4 (3 : Int32))) + (own_cnt l0 l1 l2 l3 l4 (4 : Int32))) + (own_cnt l0 l1 l2 l3 l4 (5 : Int32))) + (own_cnt l0 l1 l2 l3 l4 (6 : Int32))))].set l0.toNatClampNeg (.int ((own_rank l0 l1 l2 l3 l4 l0 (0 : Int32)) + (1 : Int32)))).set l1.toNatClampNeg (.int ((own_rank l0 l1 l2 l3 l4 l1 (1 : Int32)) + (1 : Int32)))).set l2.toNatClampNeg (.int ((own_rank l0 l1 l2 l3 l4 l2 (2 : Int32)) + (1 : Int32)))) : List Value)[l3.toNatClampNeg]? = some (.int (own_rank l0 l1 l2 l3 l4 l3 (3 : Int32))) := own_inv3 l0 l1 l2 l3 l4 h0 h1 h2 h3 h4 l3 h3
theorem own_inv4 (h0 : 0 ≤ l0.toInt ∧ l0.toInt < 8) (h1 : 0 ≤ l1.toInt ∧ l1.toInt < 8) (h2 : 0 ≤ l2.toInt ∧ l2.toInt < 8) (h3 : 0 ≤ l3.toInt ∧ l3.toInt < 8) (h4 : 0 ≤ l4.toInt ∧ l4.toInt < 8) (L : Int32) (hL : 0 ≤ L.toInt ∧ L.toInt < 8) : ((((([(.int (0 : Int32)), (.int ((0 : Int32) + (own_cnt l0 l1 l2 l3 l4 (0 : Int32)))), (.int (((0 : Int32) + (own_cnt l0 l1 l2 l3 l4 (0 : Int32))) + (own_cnt l0 l1 l2 l3 l4 (1 : Int32)))), (.int ((((0 : Int32) + (own_cnt l0 l1 l2 l3 l4 (0 : Int32))) + (own_cnt l0 l1 l2 l3 l4 (1 : Int32))) + (own_cnt l0 l1 l2 l3 l4 (2 : Int32)))), (.int (((((0 : Int32) + (own_cnt l0 l1 l2 l3 l4 (0 : Int32))) + (own_cnt l0 l1 l2 l3 l4 (1 : Int32))) + (own_cnt l0 l1 l2 l3 l4 (2 : Int32))) + (own_cnt l0 l1 l2 l3 l4 (3 : Int32)))), (.int ((((((0 : Int32) + (own_cnt l0 l1 l2 l3 l4 (0 : Int32))) + (own_cnt l0 l1 l2 l3 l4 (1 : Int32))) + (own_cnt l0 l1 l2 l3 l4 (2 : Int32))) + (own_cnt l0 l1 l2 l3 l4 (3 : Int32))) + (own_cnt l0 l1 l2 l3 l4 (4 : Int32)))), (.int (((((((0 : Int32) + (own_cnt l0 l1 l2 l3 l4 (0 : Int32))) + (own_cnt l0 l1 l2 l3 l4 (1 : Int32))) + (own_cnt l0 l1 l2 l3 l4 (2 : Int32))) + (own_cnt l0 l1 l2 l3 l4 (3 : Int32))) + (own_cnt l0 l1 l2 l3 l4 (4 : Int32))) + (own_cnt l0 l1 l2 l3 l4 (5 : Int32)))), (.int ((((((((0 : Int32) + (own_cnt l0 l1 l2 l3 l4 (0 : Int32))) + (own_cnt l0 l1 l2 l3 l4 (1 : Int32))) + (own_cnt l0 l1 l2 l3 l4 (2 : Int32))) + (own_cnt l0 l1 l2 l3 l4 (3 : Int32))) + (own_cnt l0 l1 l2 l3 l4 (4 : Int32))) + (own_cnt l0 l1 l2 l3 l4 (5 : Int32))) + (own_cnt l0 l1 l2 l3 l4 (6 : Int32))))].set l0.toNatClampNeg (.int ((own_rank l0 l1 l2 l3 l4 l0 (0 : Int32)) + (1 : Int32)))).set l1.toNatClampNeg (.int ((own_rank l0 l1 l2 l3 l4 l1 (1 : Int32)) + (1 : Int32)))).set l2.toNatClampNeg (.int ((own_rank l0 l1 l2 l3 l4 l2 (2 : Int32)) + (1 : Int32)))).set l3.toNatClampNeg (.int ((own_rank l0 l1 l2 l3 l4 l3 (3 : Int32)) + (1 : Int32)))) : List Value)[L.toNatClampNeg]? = some (.int (own_rank l0 l1 l2 l3 l4 L (4 : Int32))) := by
  rw [List.getElem?_set, own_Rs3]
  by_cases q : l3 = L
  · subst q
    rw [if_pos rfl, if_pos rfl, if_pos (by simp only [List.length_set, List.length_cons, List.length_nil]; rw [own_cl]; omega)]
  · rw [if_neg (by rw [own_cl, own_cl]; exact fun w => q (Int32.toInt_inj.mp (by omega))), if_neg q]
    exact own_inv3 l0 l1 l2 l3 l4 h0 h1 h2 h3 h4 L hL
theorem own_hx4 (h0 : 0 ≤ l0.toInt ∧ l0.toInt < 8) (h1 : 0 ≤ l1.toInt ∧ l1.toInt < 8) (h2 : 0 ≤ l2.toInt ∧ l2.toInt < 8) (h3 : 0 ≤ l3.toInt ∧ l3.toInt < 8) (h4 : 0 ≤ l4.toInt ∧ l4.toInt < 8) : ((((([(.int (0 : Int32)), (.int ((0 : Int32) + (own_cnt l0 l1 l2 l3 l4 (0 : Int32)))), (.int (((0 : Int32) + (own_cnt l0 l1 l2 l3 l4 (0 : Int32))) + (own_cnt l0 l1 l2 l3 l4 (1 : Int32)))), (.int ((((0 : Int32) + (own_cnt l0 l1 l2 l3 l4 (0 : Int32))) + (own_cnt l0 l1 l2 l3 l4 (1 : Int32))) + (own_cnt l0 l1 l2 l3 l4 (2 : Int32)))), (.int (((((0 : Int32) + (own_cnt l0 l1 l2 l3 l4 (0 : Int32))) + (own_cnt l0 l1 l2 l3 l4 (1 : Int32))) + (own_cnt l0 l1 l2 l3 l4 (2 : Int32))) + (own_cnt l0 l1 l2 l3 l4 (3 : Int32)))), (.int ((((((0 : Int32) + (own_cnt l0 l1 l2 l3 l4 (0 : Int32))) + (own_cnt l0 l1 l2 l3 l4 (1 : Int32))) + (own_cnt l0 l1 l2 l3 l4 (2 : Int32))) + (own_cnt l0 l1 l2 l3 l4 (3 : Int32))) + (own_cnt l0 l1 l2 l3 l4 (4 : Int32)))), (.int (((((((0 : Int32) + (own_cnt l0 l1 l2 l3 l4 (0 : Int32))) + (own_cnt l0 l1 l2 l3 l4 (1 : Int32))) + (own_cnt l0 l1 l2 l3 l4 (2 : Int32))) + (own_cnt l0 l1 l2 l3 l4 (3 : Int32))) + (own_cnt l0 l1 l2 l3 l4 (4 : Int32))) + (own_cnt l0 l1 l2 l3 l4 (5 : Int32)))), (.int ((((((((0 : Int32) + (own_cnt l0 l1 l2 l3 l4 (0 : Int32))) + (own_cnt l0 l1 l2 l3 l4 (1 : Int32))) + (own_cnt l0 l1 l2 l3 l4 (2 : Int32))) + (own_cnt l0 l1 l2 l3 l4 (3 : Int32))) + (own_cnt l0 l1 l2 l3 l4 (4 : Int32))) + (own_cnt l0 l1 l2 l3 l4 (5 : Int32))) + (own_cnt l0 l1 l2 l3 l4 (6 : Int32))))].set l0.toNatClampNeg (.int ((own_rank l0 l1 l2 l3 l4 l0 (0 : Int32)) + (1 : Int32)))).set l1.toNatClampNeg (.int ((own_rank l0 l1 l2 l3 l4 l1 (1 : Int32)) + (1 : Int32)))).set l2.toNatClampNeg (.int ((own_rank l0 l1 l2 l3 l4 l2 (2 : Int32)) + (1 : Int32)))).set l3.toNatClampNeg (.int ((own_rank l0 l1 l2 l3 l4 l3 (3 : Int32)) + (1 : Int32)))) : List Value)[l4.toNatClampNeg]? = some (.int (own_rank l0 l1 l2 l3 l4 l4 (4 : Int32))) := own_inv4 l0 l1 l2 l3 l4 h0 h1 h2 h3 h4 l4 h4
theorem own_get0 : (((((([(.int (0 : Int32)), (.int (0 : Int32)), (.int (0 : Int32)), (.int (0 : Int32)), (.int (0 : Int32))].set (own_rank l0 l1 l2 l3 l4 l0 (0 : Int32)).toNatClampNeg (.int (0 : Int32))).set (own_rank l0 l1 l2 l3 l4 l1 (1 : Int32)).toNatClampNeg (.int (1 : Int32))).set (own_rank l0 l1 l2 l3 l4 l2 (2 : Int32)).toNatClampNeg (.int (2 : Int32))).set (own_rank l0 l1 l2 l3 l4 l3 (3 : Int32)).toNatClampNeg (.int (3 : Int32))).set (own_rank l0 l1 l2 l3 l4 l4 (4 : Int32)).toNatClampNeg (.int (4 : Int32))) : List Value)[(own_rank l0 l1 l2 l3 l4 l0 (0 : Int32)).toNatClampNeg]? = some (.int (0 : Int32)) := by
  have d01 := own_d01 l0 l1 l2 l3 l4
  have d02 := own_d02 l0 l1 l2 l3 l4
  have d03 := own_d03 l0 l1 l2 l3 l4
  have d04 := own_d04 l0 l1 l2 l3 l4
  have d12 := own_d12 l0 l1 l2 l3 l4
  have d13 := own_d13 l0 l1 l2 l3 l4
  have d14 := own_d14 l0 l1 l2 l3 l4
  have d23 := own_d23 l0 l1 l2 l3 l4
  have d24 := own_d24 l0 l1 l2 l3 l4
  have d34 := own_d34 l0 l1 l2 l3 l4
  have b0 := own_x5 (own_x0 l0 l1 l2 l3 l4)
  generalize (own_rank l0 l1 l2 l3 l4 l0 (0 : Int32)).toNatClampNeg = y0 at *
  generalize (own_rank l0 l1 l2 l3 l4 l1 (1 : Int32)).toNatClampNeg = y1 at *
  generalize (own_rank l0 l1 l2 l3 l4 l2 (2 : Int32)).toNatClampNeg = y2 at *
  generalize (own_rank l0 l1 l2 l3 l4 l3 (3 : Int32)).toNatClampNeg = y3 at *
  generalize (own_rank l0 l1 l2 l3 l4 l4 (4 : Int32)).toNatClampNeg = y4 at *
  simp only [List.getElem?_set, List.length_set]
  rw [if_neg (fun w => d04 w.symm), if_neg (fun w => d03 w.symm), if_neg (fun w => d02 w.symm), if_neg (fun w => d01 w.symm), if_pos trivial, if_pos (by simpa using b0)]
theorem own_get1 : (((((([(.int (0 : Int32)), (.int (0 : Int32)), (.int (0 : Int32)), (.int (0 : Int32)), (.int (0 : Int32))].set (own_rank l0 l1 l2 l3 l4 l0 (0 : Int32)).toNatClampNeg (.int (0 : Int32))).set (own_rank l0 l1 l2 l3 l4 l1 (1 : Int32)).toNatClampNeg (.int (1 : Int32))).set (own_rank l0 l1 l2 l3 l4 l2 (2 : Int32)).toNatClampNeg (.int (2 : Int32))).set (own_rank l0 l1 l2 l3 l4 l3 (3 : Int32)).toNatClampNeg (.int (3 : Int32))).set (own_rank l0 l1 l2 l3 l4 l4 (4 : Int32)).toNatClampNeg (.int (4 : Int32))) : List Value)[(own_rank l0 l1 l2 l3 l4 l1 (1 : Int32)).toNatClampNeg]? = some (.int (1 : Int32)) := by
  have d01 := own_d01 l0 l1 l2 l3 l4
  have d02 := own_d02 l0 l1 l2 l3 l4
  have d03 := own_d03 l0 l1 l2 l3 l4
  have d04 := own_d04 l0 l1 l2 l3 l4
  have d12 := own_d12 l0 l1 l2 l3 l4
  have d13 := own_d13 l0 l1 l2 l3 l4
  have d14 := own_d14 l0 l1 l2 l3 l4
  have d23 := own_d23 l0 l1 l2 l3 l4
  have d24 := own_d24 l0 l1 l2 l3 l4
  have d34 := own_d34 l0 l1 l2 l3 l4
  have b0 := own_x5 (own_x1 l0 l1 l2 l3 l4)
  generalize (own_rank l0 l1 l2 l3 l4 l0 (0 : Int32)).toNatClampNeg = y0 at *
  generalize (own_rank l0 l1 l2 l3 l4 l1 (1 : Int32)).toNatClampNeg = y1 at *
  generalize (own_rank l0 l1 l2 l3 l4 l2 (2 : Int32)).toNatClampNeg = y2 at *
  generalize (own_rank l0 l1 l2 l3 l4 l3 (3 : Int32)).toNatClampNeg = y3 at *
  generalize (own_rank l0 l1 l2 l3 l4 l4 (4 : Int32)).toNatClampNeg = y4 at *
  simp only [List.getElem?_set, List.length_set]
  rw [if_neg (fun w => d14 w.symm), if_neg (fun w => d13 w.symm), if_neg (fun w => d12 w.symm), if_pos trivial, if_pos (by simpa using b0)]
theorem own_get2 : (((((([(.int (0 : Int32)), (.int (0 : Int32)), (.int (0 : Int32)), (.int (0 : Int32)), (.int (0 : Int32))].set (own_rank l0 l1 l2 l3 l4 l0 (0 : Int32)).toNatClampNeg (.int (0 : Int32))).set (own_rank l0 l1 l2 l3 l4 l1 (1 : Int32)).toNatClampNeg (.int (1 : Int32))).set (own_rank l0 l1 l2 l3 l4 l2 (2 : Int32)).toNatClampNeg (.int (2 : Int32))).set (own_rank l0 l1 l2 l3 l4 l3 (3 : Int32)).toNatClampNeg (.int (3 : Int32))).set (own_rank l0 l1 l2 l3 l4 l4 (4 : Int32)).toNatClampNeg (.int (4 : Int32))) : List Value)[(own_rank l0 l1 l2 l3 l4 l2 (2 : Int32)).toNatClampNeg]? = some (.int (2 : Int32)) := by
  have d01 := own_d01 l0 l1 l2 l3 l4
  have d02 := own_d02 l0 l1 l2 l3 l4
  have d03 := own_d03 l0 l1 l2 l3 l4
  have d04 := own_d04 l0 l1 l2 l3 l4
  have d12 := own_d12 l0 l1 l2 l3 l4
  have d13 := own_d13 l0 l1 l2 l3 l4
  have d14 := own_d14 l0 l1 l2 l3 l4
  have d23 := own_d23 l0 l1 l2 l3 l4
  have d24 := own_d24 l0 l1 l2 l3 l4
  have d34 := own_d34 l0 l1 l2 l3 l4
  have b0 := own_x5 (own_x2 l0 l1 l2 l3 l4)
  generalize (own_rank l0 l1 l2 l3 l4 l0 (0 : Int32)).toNatClampNeg = y0 at *
  generalize (own_rank l0 l1 l2 l3 l4 l1 (1 : Int32)).toNatClampNeg = y1 at *
  generalize (own_rank l0 l1 l2 l3 l4 l2 (2 : Int32)).toNatClampNeg = y2 at *
  generalize (own_rank l0 l1 l2 l3 l4 l3 (3 : Int32)).toNatClampNeg = y3 at *
  generalize (own_rank l0 l1 l2 l3 l4 l4 (4 : Int32)).toNatClampNeg = y4 at *
  simp only [List.getElem?_set, List.length_set]
  rw [if_neg (fun w => d24 w.symm), if_neg (fun w => d23 w.symm), if_pos trivial, if_pos (by simpa using b0)]
theorem own_get3 : (((((([(.int (0 : Int32)), (.int (0 : Int32)), (.int (0 : Int32)), (.int (0 : Int32)), (.int (0 : Int32))].set (own_rank l0 l1 l2 l3 l4 l0 (0 : Int32)).toNatClampNeg (.int (0 : Int32))).set (own_rank l0 l1 l2 l3 l4 l1 (1 : Int32)).toNatClampNeg (.int (1 : Int32))).set (own_rank l0 l1 l2 l3 l4 l2 (2 : Int32)).toNatClampNeg (.int (2 : Int32))).set (own_rank l0 l1 l2 l3 l4 l3 (3 : Int32)).toNatClampNeg (.int (3 : Int32))).set (own_rank l0 l1 l2 l3 l4 l4 (4 : Int32)).toNatClampNeg (.int (4 : Int32))) : List Value)[(own_rank l0 l1 l2 l3 l4 l3 (3 : Int32)).toNatClampNeg]? = some (.int (3 : Int32)) := by
  have d01 := own_d01 l0 l1 l2 l3 l4
  have d02 := own_d02 l0 l1 l2 l3 l4
  have d03 := own_d03 l0 l1 l2 l3 l4
  have d04 := own_d04 l0 l1 l2 l3 l4
  have d12 := own_d12 l0 l1 l2 l3 l4
  have d13 := own_d13 l0 l1 l2 l3 l4
  have d14 := own_d14 l0 l1 l2 l3 l4
  have d23 := own_d23 l0 l1 l2 l3 l4
  have d24 := own_d24 l0 l1 l2 l3 l4
  have d34 := own_d34 l0 l1 l2 l3 l4
  have b0 := own_x5 (own_x3 l0 l1 l2 l3 l4)
  generalize (own_rank l0 l1 l2 l3 l4 l0 (0 : Int32)).toNatClampNeg = y0 at *
  generalize (own_rank l0 l1 l2 l3 l4 l1 (1 : Int32)).toNatClampNeg = y1 at *
  generalize (own_rank l0 l1 l2 l3 l4 l2 (2 : Int32)).toNatClampNeg = y2 at *
  generalize (own_rank l0 l1 l2 l3 l4 l3 (3 : Int32)).toNatClampNeg = y3 at *
  generalize (own_rank l0 l1 l2 l3 l4 l4 (4 : Int32)).toNatClampNeg = y4 at *
  simp only [List.getElem?_set, List.length_set]
  rw [if_neg (fun w => d34 w.symm), if_pos trivial, if_pos (by simpa using b0)]
theorem own_get4 : (((((([(.int (0 : Int32)), (.int (0 : Int32)), (.int (0 : Int32)), (.int (0 : Int32)), (.int (0 : Int32))].set (own_rank l0 l1 l2 l3 l4 l0 (0 : Int32)).toNatClampNeg (.int (0 : Int32))).set (own_rank l0 l1 l2 l3 l4 l1 (1 : Int32)).toNatClampNeg (.int (1 : Int32))).set (own_rank l0 l1 l2 l3 l4 l2 (2 : Int32)).toNatClampNeg (.int (2 : Int32))).set (own_rank l0 l1 l2 l3 l4 l3 (3 : Int32)).toNatClampNeg (.int (3 : Int32))).set (own_rank l0 l1 l2 l3 l4 l4 (4 : Int32)).toNatClampNeg (.int (4 : Int32))) : List Value)[(own_rank l0 l1 l2 l3 l4 l4 (4 : Int32)).toNatClampNeg]? = some (.int (4 : Int32)) := by
  have d01 := own_d01 l0 l1 l2 l3 l4
  have d02 := own_d02 l0 l1 l2 l3 l4
  have d03 := own_d03 l0 l1 l2 l3 l4
  have d04 := own_d04 l0 l1 l2 l3 l4
  have d12 := own_d12 l0 l1 l2 l3 l4
  have d13 := own_d13 l0 l1 l2 l3 l4
  have d14 := own_d14 l0 l1 l2 l3 l4
  have d23 := own_d23 l0 l1 l2 l3 l4
  have d24 := own_d24 l0 l1 l2 l3 l4
  have d34 := own_d34 l0 l1 l2 l3 l4
  have b0 := own_x5 (own_x4 l0 l1 l2 l3 l4)
  generalize (own_rank l0 l1 l2 l3 l4 l0 (0 : Int32)).toNatClampNeg = y0 at *
  generalize (own_rank l0 l1 l2 l3 l4 l1 (1 : Int32)).toNatClampNeg = y1 at *
  generalize (own_rank l0 l1 l2 l3 l4 l2 (2 : Int32)).toNatClampNeg = y2 at *
  generalize (own_rank l0 l1 l2 l3 l4 l3 (3 : Int32)).toNatClampNeg = y3 at *
  generalize (own_rank l0 l1 l2 l3 l4 l4 (4 : Int32)).toNatClampNeg = y4 at *
  simp only [List.getElem?_set, List.length_set]
  rw [if_pos trivial, if_pos (by simpa using b0)]
end Own
theorem d2_0 : decode method_2_code 0 = .ok (.iload_n 0, 1) := by decide +kernel
theorem d2_1 : decode method_2_code 1 = .ok (.iload_n 1, 1) := by decide +kernel
theorem d2_2 : decode method_2_code 2 = .ok (.if_icmp .ne 7, 3) := by decide +kernel
theorem d2_5 : decode method_2_code 5 = .ok (.iconst 1, 1) := by decide +kernel
theorem d2_6 : decode method_2_code 6 = .ok (.goto 4, 3) := by decide +kernel
theorem d2_10 : decode method_2_code 10 = .ok (.ireturn, 1) := by decide +kernel
theorem d2_9 : decode method_2_code 9 = .ok (.iconst 0, 1) := by decide +kernel
theorem ef_rm2 (m : MethodId) (x0 : Int32) (k0 : Int32) : entryFrame m #[(.int x0), (.int k0)] 2 = mkF m 0 #[.val (.int x0), .val (.int k0)] [] := by first | (simp [entryFrame, mkF, argsToLocals, Value.category]; done) | rfl
theorem pn0 : plainName "shortleaf/CanonicalCodeOrderPinLaw" = true := by first | (simp [plainName, overriddenIn]; done) | decide +kernel
set_option maxRecDepth 65536 in
set_option maxHeartbeats 40000000 in
theorem rm2 (l : Launch) (Z : State) (a0 : Array Value) (hw : ∀ d ∈ tables_1, d.before a0 Z = true) (x0 : Int32) (k0 : Int32) (h0 : Heap) (n0 : Nat) (Z0 : n0 ≤ h0.size) :
    Own.Ct l (⟨"shortleaf/CanonicalCodeOrderPinLaw", "eq", "(II)I"⟩ : MethodName) method_2_code 2 (some .int) [] ({ frames := 0, cells := 0, slots := 0, locals := 0 } : Room) Z #[(.int x0), (.int k0)] h0 (fun rV hP lC => rV = some (.int (own_e x0 k0)) ∧ Fr n0 lC ∧ hP = h0) := by
  refine Own.enter (plainFor_of_name pn0) ?_
  intro p e s m below meth cc s₁ hx hby hml hown hnm hret hk hZ X0 e0
  have N0 := Fr.nil n0
  refine Own.start (ef_rm2 m x0 k0) ?_
  refine Own.iloadN X0 hx (pc := 0) (hb hby d2_0) rfl ?_
  refine Own.iloadN X0 hx (pc := 1) (hb hby d2_1) rfl ?_
  by_cases c1 : x0 = k0
  · refine Own.icmpNo X0 hx (pc := 2) (hb hby d2_2) (XT.ii_ne_f c1) ?_
    refine Own.iconst X0 hx (pc := 5) (1 : Int32) (hb hby d2_5) (by decide) ?_
    refine Own.goto X0 hx (pc := 6) 10 (hb hby d2_6) (by decide) (by decide) ?_
    exact Own.ireturn X0 hx hk hret (by simp) rfl (hb hby d2_10) e0 ⟨by simp [own_e, c1], N0, rfl⟩ (by decide) (by decide)
  · refine Own.icmpYes X0 hx (pc := 2) 9 (hb hby d2_2) (XT.ii_ne_t c1) (by decide) (by decide) ?_
    refine Own.iconst X0 hx (pc := 9) (0 : Int32) (hb hby d2_9) (by decide) ?_
    exact Own.ireturn X0 hx hk hret (by simp) rfl (hb hby d2_10) e0 ⟨by simp [own_e, c1], N0, rfl⟩ (by decide) (by decide)
theorem d1_0 : decode method_3_code 0 = .ok (.aload_n 0, 1) := by decide +kernel
theorem d1_1 : decode method_3_code 1 = .ok (.iconst 0, 1) := by decide +kernel
theorem d1_2 : decode method_3_code 2 = .ok (.iaload, 1) := by decide +kernel
theorem d1_3 : decode method_3_code 3 = .ok (.iload_n 1, 1) := by decide +kernel
theorem pd1 : parseMethodDescriptor "(II)I" = some ⟨[.int, .int], some .int⟩ := by decide +kernel
theorem d1_4 : decode method_3_code 4 = .ok (.invokestatic 7, 3) := by decide +kernel
theorem d1_7 : decode method_3_code 7 = .ok (.aload_n 0, 1) := by decide +kernel
theorem d1_8 : decode method_3_code 8 = .ok (.iconst 1, 1) := by decide +kernel
theorem d1_9 : decode method_3_code 9 = .ok (.iaload, 1) := by decide +kernel
theorem d1_10 : decode method_3_code 10 = .ok (.iload_n 1, 1) := by decide +kernel
theorem d1_11 : decode method_3_code 11 = .ok (.invokestatic 7, 3) := by decide +kernel
theorem d1_14 : decode method_3_code 14 = .ok (.iadd, 1) := by decide +kernel
theorem d1_15 : decode method_3_code 15 = .ok (.aload_n 0, 1) := by decide +kernel
theorem d1_16 : decode method_3_code 16 = .ok (.iconst 2, 1) := by decide +kernel
theorem d1_17 : decode method_3_code 17 = .ok (.iaload, 1) := by decide +kernel
theorem d1_18 : decode method_3_code 18 = .ok (.iload_n 1, 1) := by decide +kernel
theorem d1_19 : decode method_3_code 19 = .ok (.invokestatic 7, 3) := by decide +kernel
theorem d1_22 : decode method_3_code 22 = .ok (.iadd, 1) := by decide +kernel
theorem d1_23 : decode method_3_code 23 = .ok (.aload_n 0, 1) := by decide +kernel
theorem d1_24 : decode method_3_code 24 = .ok (.iconst 3, 1) := by decide +kernel
theorem d1_25 : decode method_3_code 25 = .ok (.iaload, 1) := by decide +kernel
theorem d1_26 : decode method_3_code 26 = .ok (.iload_n 1, 1) := by decide +kernel
theorem d1_27 : decode method_3_code 27 = .ok (.invokestatic 7, 3) := by decide +kernel
theorem d1_30 : decode method_3_code 30 = .ok (.iadd, 1) := by decide +kernel
theorem d1_31 : decode method_3_code 31 = .ok (.aload_n 0, 1) := by decide +kernel
theorem d1_32 : decode method_3_code 32 = .ok (.iconst 4, 1) := by decide +kernel
theorem d1_33 : decode method_3_code 33 = .ok (.iaload, 1) := by decide +kernel
theorem d1_34 : decode method_3_code 34 = .ok (.iload_n 1, 1) := by decide +kernel
theorem d1_35 : decode method_3_code 35 = .ok (.invokestatic 7, 3) := by decide +kernel
theorem d1_38 : decode method_3_code 38 = .ok (.iadd, 1) := by decide +kernel
theorem d1_39 : decode method_3_code 39 = .ok (.ireturn, 1) := by decide +kernel
theorem ef_rm1 (m : MethodId) (la : Addr) (k0 : Int32) : entryFrame m #[(.ref la), (.int k0)] 2 = mkF m 0 #[.val (.ref la), .val (.int k0)] [] := by first | (simp [entryFrame, mkF, argsToLocals, Value.category]; done) | rfl
set_option maxRecDepth 65536 in
set_option maxHeartbeats 40000000 in
theorem rm1 (l : Launch) (Z : State) (a0 : Array Value) (hw : ∀ d ∈ tables_1, d.before a0 Z = true) (la : Addr) (k0 : Int32) (l0 : Int32) (l1 : Int32) (l2 : Int32) (l3 : Int32) (l4 : Int32) (h0 : Heap) (n0 : Nat) (Z0 : n0 ≤ h0.size) (V_la : Own.VArr Z h0 la .int [(.int l0), (.int l1), (.int l2), (.int l3), (.int l4)]) :
    Own.Ct l (⟨"shortleaf/CanonicalCodeOrderPinLaw", "cnt", "([II)I"⟩ : MethodName) method_3_code 2 (some .int) [] ({ frames := 1, cells := 0, slots := 0, locals := 14 } : Room) Z #[(.ref la), (.int k0)] h0 (fun rV hP lC => rV = some (.int (own_cnt l0 l1 l2 l3 l4 k0)) ∧ Fr n0 lC ∧ hP = h0) := by
  refine Own.enter (plainFor_of_name pn0) ?_
  intro p e s m below meth cc s₁ hx hby hml hown hnm hret hk hZ X0 e0
  have N0 := Fr.nil n0
  refine Own.start (ef_rm1 m la k0) ?_
  refine Own.aloadN X0 hx (pc := 0) (hb hby d1_0) rfl rfl ?_
  refine Own.iconst X0 hx (pc := 1) (0 : Int32) (hb hby d1_1) (by decide) ?_
  refine Own.iaload X0 hx hZ (pc := 2) e0 V_la (v := (.int l0)) 0 (by decide) (by decide) rfl (hb hby d1_2) ?_
  refine Own.iloadN X0 hx (pc := 3) (hb hby d1_3) rfl ?_
  refine Own.callStatic X0 hx hZ (pc := 4) (y := (⟨"shortleaf/CanonicalCodeOrderPinLaw", "eq", "(II)I"⟩ : MethodName)) hown (Wd hw 5 rfl) (Wd hw 6 rfl) (Wd hw 3 rfl) (Wd hw 7 rfl) (by decide) 0 [(.int l0), (.int k0)] [] (rm2 l Z a0 hw l0 k0 h0 n0 Z0 ) (by decide) (by decide) e0 (by rw [hml]; rfl) pd1 rfl rfl (Nat.le_of_eq rfl) (hb hby d1_4) (by decide) (by decide) ?_
  intro T1 L1 v1 X1 hQ1
  obtain ⟨rfl, Nq1, e1⟩ := hQ1
  have N1 := Fr.app N0 Nq1
  show Own.Go p e below _ (T1.setTop (mkF m 7 #[.val (.ref la), .val (.int k0)] [(.int (own_e l0 k0))]))
  refine Own.aloadN X1 hx (pc := 7) (hb hby d1_7) rfl rfl ?_
  refine Own.iconst X1 hx (pc := 8) (1 : Int32) (hb hby d1_8) (by decide) ?_
  refine Own.iaload X1 hx hZ (pc := 9) e1 V_la (v := (.int l1)) 1 (by decide) (by decide) rfl (hb hby d1_9) ?_
  refine Own.iloadN X1 hx (pc := 10) (hb hby d1_10) rfl ?_
  refine Own.callStatic X1 hx hZ (pc := 11) (y := (⟨"shortleaf/CanonicalCodeOrderPinLaw", "eq", "(II)I"⟩ : MethodName)) hown (Wd hw 5 rfl) (Wd hw 6 rfl) (Wd hw 3 rfl) (Wd hw 7 rfl) (by decide) 1 [(.int l1), (.int k0)] [(.int (own_e l0 k0))] (rm2 l Z a0 hw l1 k0 h0 n0 Z0 ) (by decide) (by decide) e1 (by rw [hml]; rfl) pd1 rfl rfl (Nat.le_of_eq rfl) (hb hby d1_11) (by decide) (by decide) ?_
  intro T2 L2 v2 X2 hQ2
  obtain ⟨rfl, Nq2, e2⟩ := hQ2
  have N2 := Fr.app N1 Nq2
  show Own.Go p e below _ (T2.setTop (mkF m 14 #[.val (.ref la), .val (.int k0)] [(.int (own_e l1 k0)), (.int (own_e l0 k0))]))
  refine Own.iadd X2 hx (pc := 14) (hb hby d1_14) ?_
  refine Own.aloadN X2 hx (pc := 15) (hb hby d1_15) rfl rfl ?_
  refine Own.iconst X2 hx (pc := 16) (2 : Int32) (hb hby d1_16) (by decide) ?_
  refine Own.iaload X2 hx hZ (pc := 17) e2 V_la (v := (.int l2)) 2 (by decide) (by decide) rfl (hb hby d1_17) ?_
  refine Own.iloadN X2 hx (pc := 18) (hb hby d1_18) rfl ?_
  refine Own.callStatic X2 hx hZ (pc := 19) (y := (⟨"shortleaf/CanonicalCodeOrderPinLaw", "eq", "(II)I"⟩ : MethodName)) hown (Wd hw 5 rfl) (Wd hw 6 rfl) (Wd hw 3 rfl) (Wd hw 7 rfl) (by decide) 1 [(.int l2), (.int k0)] [(.int ((own_e l0 k0) + (own_e l1 k0)))] (rm2 l Z a0 hw l2 k0 h0 n0 Z0 ) (by decide) (by decide) e2 (by rw [hml]; rfl) pd1 rfl rfl (Nat.le_of_eq rfl) (hb hby d1_19) (by decide) (by decide) ?_
  intro T3 L3 v3 X3 hQ3
  obtain ⟨rfl, Nq3, e3⟩ := hQ3
  have N3 := Fr.app N2 Nq3
  show Own.Go p e below _ (T3.setTop (mkF m 22 #[.val (.ref la), .val (.int k0)] [(.int (own_e l2 k0)), (.int ((own_e l0 k0) + (own_e l1 k0)))]))
  refine Own.iadd X3 hx (pc := 22) (hb hby d1_22) ?_
  refine Own.aloadN X3 hx (pc := 23) (hb hby d1_23) rfl rfl ?_
  refine Own.iconst X3 hx (pc := 24) (3 : Int32) (hb hby d1_24) (by decide) ?_
  refine Own.iaload X3 hx hZ (pc := 25) e3 V_la (v := (.int l3)) 3 (by decide) (by decide) rfl (hb hby d1_25) ?_
  refine Own.iloadN X3 hx (pc := 26) (hb hby d1_26) rfl ?_
  refine Own.callStatic X3 hx hZ (pc := 27) (y := (⟨"shortleaf/CanonicalCodeOrderPinLaw", "eq", "(II)I"⟩ : MethodName)) hown (Wd hw 5 rfl) (Wd hw 6 rfl) (Wd hw 3 rfl) (Wd hw 7 rfl) (by decide) 1 [(.int l3), (.int k0)] [(.int (((own_e l0 k0) + (own_e l1 k0)) + (own_e l2 k0)))] (rm2 l Z a0 hw l3 k0 h0 n0 Z0 ) (by decide) (by decide) e3 (by rw [hml]; rfl) pd1 rfl rfl (Nat.le_of_eq rfl) (hb hby d1_27) (by decide) (by decide) ?_
  intro T4 L4 v4 X4 hQ4
  obtain ⟨rfl, Nq4, e4⟩ := hQ4
  have N4 := Fr.app N3 Nq4
  show Own.Go p e below _ (T4.setTop (mkF m 30 #[.val (.ref la), .val (.int k0)] [(.int (own_e l3 k0)), (.int (((own_e l0 k0) + (own_e l1 k0)) + (own_e l2 k0)))]))
  refine Own.iadd X4 hx (pc := 30) (hb hby d1_30) ?_
  refine Own.aloadN X4 hx (pc := 31) (hb hby d1_31) rfl rfl ?_
  refine Own.iconst X4 hx (pc := 32) (4 : Int32) (hb hby d1_32) (by decide) ?_
  refine Own.iaload X4 hx hZ (pc := 33) e4 V_la (v := (.int l4)) 4 (by decide) (by decide) rfl (hb hby d1_33) ?_
  refine Own.iloadN X4 hx (pc := 34) (hb hby d1_34) rfl ?_
  refine Own.callStatic X4 hx hZ (pc := 35) (y := (⟨"shortleaf/CanonicalCodeOrderPinLaw", "eq", "(II)I"⟩ : MethodName)) hown (Wd hw 5 rfl) (Wd hw 6 rfl) (Wd hw 3 rfl) (Wd hw 7 rfl) (by decide) 1 [(.int l4), (.int k0)] [(.int ((((own_e l0 k0) + (own_e l1 k0)) + (own_e l2 k0)) + (own_e l3 k0)))] (rm2 l Z a0 hw l4 k0 h0 n0 Z0 ) (by decide) (by decide) e4 (by rw [hml]; rfl) pd1 rfl rfl (Nat.le_of_eq rfl) (hb hby d1_35) (by decide) (by decide) ?_
  intro T5 L5 v5 X5 hQ5
  obtain ⟨rfl, Nq5, e5⟩ := hQ5
  have N5 := Fr.app N4 Nq5
  show Own.Go p e below _ (T5.setTop (mkF m 38 #[.val (.ref la), .val (.int k0)] [(.int (own_e l4 k0)), (.int ((((own_e l0 k0) + (own_e l1 k0)) + (own_e l2 k0)) + (own_e l3 k0)))]))
  refine Own.iadd X5 hx (pc := 38) (hb hby d1_38) ?_
  exact Own.ireturn X5 hx hk hret (by simp) rfl (hb hby d1_39) e5 ⟨rfl, N5, rfl⟩ (by decide) (by decide)
theorem d3_0 : decode prog_8_method_3_code 0 = .ok (.aload_n 1, 1) := by decide +kernel
theorem d3_1 : decode prog_8_method_3_code 1 = .ok (.arraylength, 1) := by decide +kernel
theorem d3_2 : decode prog_8_method_3_code 2 = .ok (.newarray .int, 2) := by decide +kernel
theorem d3_4 : decode prog_8_method_3_code 4 = .ok (.astore_n 2, 1) := by decide +kernel
theorem d3_5 : decode prog_8_method_3_code 5 = .ok (.iconst 0, 1) := by decide +kernel
theorem d3_6 : decode prog_8_method_3_code 6 = .ok (.istore_n 3, 1) := by decide +kernel
theorem d3_7 : decode prog_8_method_3_code 7 = .ok (.iconst 0, 1) := by decide +kernel
theorem d3_8 : decode prog_8_method_3_code 8 = .ok (.istore 4, 2) := by decide +kernel
theorem d3_10 : decode prog_8_method_3_code 10 = .ok (.iload 4, 2) := by decide +kernel
theorem d3_12 : decode prog_8_method_3_code 12 = .ok (.aload_n 1, 1) := by decide +kernel
theorem d3_13 : decode prog_8_method_3_code 13 = .ok (.arraylength, 1) := by decide +kernel
theorem d3_14 : decode prog_8_method_3_code 14 = .ok (.if_icmp .ge 21, 3) := by decide +kernel
theorem d3_17 : decode prog_8_method_3_code 17 = .ok (.aload_n 2, 1) := by decide +kernel
theorem d3_18 : decode prog_8_method_3_code 18 = .ok (.iload 4, 2) := by decide +kernel
theorem d3_20 : decode prog_8_method_3_code 20 = .ok (.iload_n 3, 1) := by decide +kernel
theorem d3_21 : decode prog_8_method_3_code 21 = .ok (.iastore, 1) := by decide +kernel
theorem d3_22 : decode prog_8_method_3_code 22 = .ok (.iload_n 3, 1) := by decide +kernel
theorem d3_23 : decode prog_8_method_3_code 23 = .ok (.aload_n 1, 1) := by decide +kernel
theorem d3_24 : decode prog_8_method_3_code 24 = .ok (.iload 4, 2) := by decide +kernel
theorem d3_26 : decode prog_8_method_3_code 26 = .ok (.iaload, 1) := by decide +kernel
theorem d3_27 : decode prog_8_method_3_code 27 = .ok (.iadd, 1) := by decide +kernel
theorem d3_28 : decode prog_8_method_3_code 28 = .ok (.istore_n 3, 1) := by decide +kernel
theorem d3_29 : decode prog_8_method_3_code 29 = .ok (.iinc 4 1, 3) := by decide +kernel
theorem d3_32 : decode prog_8_method_3_code 32 = .ok (.goto (-22), 3) := by decide +kernel
theorem d3_35 : decode prog_8_method_3_code 35 = .ok (.aload_n 0, 1) := by decide +kernel
theorem d3_36 : decode prog_8_method_3_code 36 = .ok (.arraylength, 1) := by decide +kernel
theorem d3_37 : decode prog_8_method_3_code 37 = .ok (.newarray .int, 2) := by decide +kernel
theorem d3_39 : decode prog_8_method_3_code 39 = .ok (.astore 4, 2) := by decide +kernel
theorem d3_41 : decode prog_8_method_3_code 41 = .ok (.iconst 0, 1) := by decide +kernel
theorem d3_42 : decode prog_8_method_3_code 42 = .ok (.istore 5, 2) := by decide +kernel
theorem d3_44 : decode prog_8_method_3_code 44 = .ok (.iload 5, 2) := by decide +kernel
theorem d3_46 : decode prog_8_method_3_code 46 = .ok (.aload_n 0, 1) := by decide +kernel
theorem d3_47 : decode prog_8_method_3_code 47 = .ok (.arraylength, 1) := by decide +kernel
theorem d3_48 : decode prog_8_method_3_code 48 = .ok (.if_icmp .ge 25, 3) := by decide +kernel
theorem d3_51 : decode prog_8_method_3_code 51 = .ok (.aload 4, 2) := by decide +kernel
theorem d3_53 : decode prog_8_method_3_code 53 = .ok (.aload_n 2, 1) := by decide +kernel
theorem d3_54 : decode prog_8_method_3_code 54 = .ok (.aload_n 0, 1) := by decide +kernel
theorem d3_55 : decode prog_8_method_3_code 55 = .ok (.iload 5, 2) := by decide +kernel
theorem d3_57 : decode prog_8_method_3_code 57 = .ok (.iaload, 1) := by decide +kernel
theorem d3_58 : decode prog_8_method_3_code 58 = .ok (.dup2, 1) := by decide +kernel
theorem d3_59 : decode prog_8_method_3_code 59 = .ok (.iaload, 1) := by decide +kernel
theorem d3_60 : decode prog_8_method_3_code 60 = .ok (.dup_x2, 1) := by decide +kernel
theorem d3_61 : decode prog_8_method_3_code 61 = .ok (.iconst 1, 1) := by decide +kernel
theorem d3_62 : decode prog_8_method_3_code 62 = .ok (.iadd, 1) := by decide +kernel
theorem d3_63 : decode prog_8_method_3_code 63 = .ok (.iastore, 1) := by decide +kernel
theorem d3_64 : decode prog_8_method_3_code 64 = .ok (.iload 5, 2) := by decide +kernel
theorem d3_66 : decode prog_8_method_3_code 66 = .ok (.iastore, 1) := by decide +kernel
theorem d3_67 : decode prog_8_method_3_code 67 = .ok (.iinc 5 1, 3) := by decide +kernel
theorem d3_70 : decode prog_8_method_3_code 70 = .ok (.goto (-26), 3) := by decide +kernel
theorem d3_73 : decode prog_8_method_3_code 73 = .ok (.aload 4, 2) := by decide +kernel
theorem d3_75 : decode prog_8_method_3_code 75 = .ok (.areturn, 1) := by decide +kernel
theorem ef_rm3 (m : MethodId) (la : Addr) (ca : Addr) : entryFrame m #[(.ref la), (.ref ca)] 6 = mkF m 0 #[.val (.ref la), .val (.ref ca), .unset, .unset, .unset, .unset] [] := by first | (simp [entryFrame, mkF, argsToLocals, Value.category]; done) | rfl
theorem pn2 : plainName "shortleaf/CanonicalCode" = true := by first | (simp [plainName, overriddenIn]; done) | decide +kernel
set_option maxRecDepth 65536 in
set_option maxHeartbeats 40000000 in
theorem rm3 (l : Launch) (Z : State) (a0 : Array Value) (hw : ∀ d ∈ tables_1, d.before a0 Z = true) (la : Addr) (ca : Addr) (l0 : Int32) (l1 : Int32) (l2 : Int32) (l3 : Int32) (l4 : Int32) (k0 : Int32) (k1 : Int32) (k2 : Int32) (k3 : Int32) (k4 : Int32) (k5 : Int32) (k6 : Int32) (k7 : Int32) (x0 : Int32) (x1 : Int32) (x2 : Int32) (x3 : Int32) (x4 : Int32) (h0 : Heap) (n0 : Nat) (Z0 : n0 ≤ h0.size) (V_la : Own.VArr Z h0 la .int [(.int l0), (.int l1), (.int l2), (.int l3), (.int l4)]) (V_ca : Own.VArr Z h0 ca .int [(.int k0), (.int k1), (.int k2), (.int k3), (.int k4), (.int k5), (.int k6), (.int k7)]) (hn0 : ¬ l0 < 0) (hl0 : l0.toNatClampNeg < 8) (hx0 : ([(.int (0 : Int32)), (.int ((0 : Int32) + k0)), (.int (((0 : Int32) + k0) + k1)), (.int ((((0 : Int32) + k0) + k1) + k2)), (.int (((((0 : Int32) + k0) + k1) + k2) + k3)), (.int ((((((0 : Int32) + k0) + k1) + k2) + k3) + k4)), (.int (((((((0 : Int32) + k0) + k1) + k2) + k3) + k4) + k5)), (.int ((((((((0 : Int32) + k0) + k1) + k2) + k3) + k4) + k5) + k6))] : List Value)[l0.toNatClampNeg]? = some (.int x0)) (hp0 : ¬ x0 < 0) (hq0 : x0.toNatClampNeg < 5) (hn1 : ¬ l1 < 0) (hl1 : l1.toNatClampNeg < 8) (hx1 : (([(.int (0 : Int32)), (.int ((0 : Int32) + k0)), (.int (((0 : Int32) + k0) + k1)), (.int ((((0 : Int32) + k0) + k1) + k2)), (.int (((((0 : Int32) + k0) + k1) + k2) + k3)), (.int ((((((0 : Int32) + k0) + k1) + k2) + k3) + k4)), (.int (((((((0 : Int32) + k0) + k1) + k2) + k3) + k4) + k5)), (.int ((((((((0 : Int32) + k0) + k1) + k2) + k3) + k4) + k5) + k6))].set l0.toNatClampNeg (.int (x0 + (1 : Int32)))) : List Value)[l1.toNatClampNeg]? = some (.int x1)) (hp1 : ¬ x1 < 0) (hq1 : x1.toNatClampNeg < 5) (hn2 : ¬ l2 < 0) (hl2 : l2.toNatClampNeg < 8) (hx2 : ((([(.int (0 : Int32)), (.int ((0 : Int32) + k0)), (.int (((0 : Int32) + k0) + k1)), (.int ((((0 : Int32) + k0) + k1) + k2)), (.int (((((0 : Int32) + k0) + k1) + k2) + k3)), (.int ((((((0 : Int32) + k0) + k1) + k2) + k3) + k4)), (.int (((((((0 : Int32) + k0) + k1) + k2) + k3) + k4) + k5)), (.int ((((((((0 : Int32) + k0) + k1) + k2) + k3) + k4) + k5) + k6))].set l0.toNatClampNeg (.int (x0 + (1 : Int32)))).set l1.toNatClampNeg (.int (x1 + (1 : Int32)))) : List Value)[l2.toNatClampNeg]? = some (.int x2)) (hp2 : ¬ x2 < 0) (hq2 : x2.toNatClampNeg < 5) (hn3 : ¬ l3 < 0) (hl3 : l3.toNatClampNeg < 8) (hx3 : (((([(.int (0 : Int32)), (.int ((0 : Int32) + k0)), (.int (((0 : Int32) + k0) + k1)), (.int ((((0 : Int32) + k0) + k1) + k2)), (.int (((((0 : Int32) + k0) + k1) + k2) + k3)), (.int ((((((0 : Int32) + k0) + k1) + k2) + k3) + k4)), (.int (((((((0 : Int32) + k0) + k1) + k2) + k3) + k4) + k5)), (.int ((((((((0 : Int32) + k0) + k1) + k2) + k3) + k4) + k5) + k6))].set l0.toNatClampNeg (.int (x0 + (1 : Int32)))).set l1.toNatClampNeg (.int (x1 + (1 : Int32)))).set l2.toNatClampNeg (.int (x2 + (1 : Int32)))) : List Value)[l3.toNatClampNeg]? = some (.int x3)) (hp3 : ¬ x3 < 0) (hq3 : x3.toNatClampNeg < 5) (hn4 : ¬ l4 < 0) (hl4 : l4.toNatClampNeg < 8) (hx4 : ((((([(.int (0 : Int32)), (.int ((0 : Int32) + k0)), (.int (((0 : Int32) + k0) + k1)), (.int ((((0 : Int32) + k0) + k1) + k2)), (.int (((((0 : Int32) + k0) + k1) + k2) + k3)), (.int ((((((0 : Int32) + k0) + k1) + k2) + k3) + k4)), (.int (((((((0 : Int32) + k0) + k1) + k2) + k3) + k4) + k5)), (.int ((((((((0 : Int32) + k0) + k1) + k2) + k3) + k4) + k5) + k6))].set l0.toNatClampNeg (.int (x0 + (1 : Int32)))).set l1.toNatClampNeg (.int (x1 + (1 : Int32)))).set l2.toNatClampNeg (.int (x2 + (1 : Int32)))).set l3.toNatClampNeg (.int (x3 + (1 : Int32)))) : List Value)[l4.toNatClampNeg]? = some (.int x4)) (hp4 : ¬ x4 < 0) (hq4 : x4.toNatClampNeg < 5) :
    Own.Ct l (⟨"shortleaf/CanonicalCode", "order", "([I[I)[I"⟩ : MethodName) prog_8_method_3_code 6 (some (.array .int)) [] ({ frames := 0, cells := 2, slots := 13, locals := 0 } : Room) Z #[(.ref la), (.ref ca)] h0 (fun rV hP lC => ∃ oa : Addr, rV = some (.ref oa) ∧ Fr n0 lC ∧ Keep h0 hP [] ∧ n0 ≤ oa ∧ h0.size ≤ oa ∧ Own.VArr Z hP oa .int ((((([(.int (0 : Int32)), (.int (0 : Int32)), (.int (0 : Int32)), (.int (0 : Int32)), (.int (0 : Int32))].set x0.toNatClampNeg (.int (0 : Int32))).set x1.toNatClampNeg (.int (1 : Int32))).set x2.toNatClampNeg (.int (2 : Int32))).set x3.toNatClampNeg (.int (3 : Int32))).set x4.toNatClampNeg (.int (4 : Int32)))) := by
  refine Own.enter (plainFor_of_name pn2) ?_
  intro p e s m below meth cc s₁ hx hby hml hown hnm hret hk hZ X0 e0
  have N0 := Fr.nil n0
  refine Own.start (ef_rm3 m la ca) ?_
  have K : Keep h0 h0 [] := Keep.refl _ _
  refine Own.aloadN X0 hx (pc := 0) (hb hby d3_0) rfl rfl ?_
  refine Own.alen X0 hx hZ (pc := 1) e0 V_ca (8 : Int32) rfl (hb hby d3_1) ?_
  refine Own.newarr X0 hx hZ (pc := 2) (aty := .int) (Wd hw 0 rfl) e0 (hb hby d3_2) (by decide) 8 8 (by decide) (by decide) (by decide) (by decide) (by decide) ?_
  intro T1 h1 b1 g1 X1 e1 Ex1 V_b1
  have ne_la_b1 : la ≠ b1 := Nat.ne_of_lt (g1 ▸ V_la.lt)
  have ne_ca_b1 : ca ≠ b1 := Nat.ne_of_lt (g1 ▸ V_ca.lt)
  have V_la := V_la.ext Ex1
  have V_ca := V_ca.ext Ex1
  have ge_b1 : n0 ≤ b1 := g1 ▸ Z0
  have sz1 : n0 ≤ h1.size := Nat.le_trans Z0 Ex1.1
  have szo_b1 : h0.size ≤ b1 := g1 ▸ K.1
  have K := K.ext Ex1
  replace V_b1 : Own.VArr Z h1 b1 .int [(.int (0 : Int32)), (.int (0 : Int32)), (.int (0 : Int32)), (.int (0 : Int32)), (.int (0 : Int32)), (.int (0 : Int32)), (.int (0 : Int32)), (.int (0 : Int32))] := V_b1
  refine Own.astoreN X1 hx (pc := 4) #[.val (.ref la), .val (.ref ca), .val (.ref b1), .unset, .unset, .unset] (hb hby d3_4) rfl rfl ?_
  refine Own.iconst X1 hx (pc := 5) (0 : Int32) (hb hby d3_5) (by decide) ?_
  refine Own.istoreN X1 hx (pc := 6) #[.val (.ref la), .val (.ref ca), .val (.ref b1), .val (.int (0 : Int32)), .unset, .unset] (hb hby d3_6) rfl ?_
  refine Own.iconst X1 hx (pc := 7) (0 : Int32) (hb hby d3_7) (by decide) ?_
  refine Own.istore X1 hx (pc := 8) #[.val (.ref la), .val (.ref ca), .val (.ref b1), .val (.int (0 : Int32)), .val (.int (0 : Int32)), .unset] (hb hby d3_8) rfl ?_
  refine Own.iload X1 hx (pc := 10) (hb hby d3_10) rfl ?_
  refine Own.aloadN X1 hx (pc := 12) (hb hby d3_12) rfl rfl ?_
  refine Own.alen X1 hx hZ (pc := 13) e1 V_ca (8 : Int32) rfl (hb hby d3_13) ?_
  refine Own.icmpNo X1 hx (pc := 14) (hb hby d3_14) (by decide) ?_
  refine Own.aloadN X1 hx (pc := 17) (hb hby d3_17) rfl rfl ?_
  refine Own.iload X1 hx (pc := 18) (hb hby d3_18) rfl ?_
  refine Own.iloadN X1 hx (pc := 20) (hb hby d3_20) rfl ?_
  refine Own.iastore X1 hx hZ (pc := 21) e1 V_b1 0 (by decide) (by decide) (of_decide_eq_true rfl) N0 ge_b1 (hb hby d3_21) ?_
  intro T2 h2 X2 e2 W2 N2 V_b1
  replace V_b1 : Own.VArr Z h2 b1 .int [(.int (0 : Int32)), (.int (0 : Int32)), (.int (0 : Int32)), (.int (0 : Int32)), (.int (0 : Int32)), (.int (0 : Int32)), (.int (0 : Int32)), (.int (0 : Int32))] := V_b1
  have sz2 : n0 ≤ h2.size := Nat.le_trans sz1 (Nat.le_of_eq (Wr.size W2).symm)
  have V_la := V_la.other W2 ne_la_b1
  have V_ca := V_ca.other W2 ne_ca_b1
  have K := K.wr W2 (Or.inr szo_b1)
  refine Own.iloadN X2 hx (pc := 22) (hb hby d3_22) rfl ?_
  refine Own.aloadN X2 hx (pc := 23) (hb hby d3_23) rfl rfl ?_
  refine Own.iload X2 hx (pc := 24) (hb hby d3_24) rfl ?_
  refine Own.iaload X2 hx hZ (pc := 26) e2 V_ca (v := (.int k0)) 0 (by decide) (by decide) rfl (hb hby d3_26) ?_
  refine Own.iadd X2 hx (pc := 27) (hb hby d3_27) ?_
  refine Own.istoreN X2 hx (pc := 28) #[.val (.ref la), .val (.ref ca), .val (.ref b1), .val (.int ((0 : Int32) + k0)), .val (.int (0 : Int32)), .unset] (hb hby d3_28) rfl ?_
  refine Own.iincV X2 hx (pc := 29) (1 : Int32) (1 : Int32) #[.val (.ref la), .val (.ref ca), .val (.ref b1), .val (.int ((0 : Int32) + k0)), .val (.int (1 : Int32)), .unset] (hb hby d3_29) (by decide) rfl (by decide) rfl ?_
  refine Own.goto X2 hx (pc := 32) 10 (hb hby d3_32) (by decide) (by decide) ?_
  refine Own.iload X2 hx (pc := 10) (hb hby d3_10) rfl ?_
  refine Own.aloadN X2 hx (pc := 12) (hb hby d3_12) rfl rfl ?_
  refine Own.alen X2 hx hZ (pc := 13) e2 V_ca (8 : Int32) rfl (hb hby d3_13) ?_
  refine Own.icmpNo X2 hx (pc := 14) (hb hby d3_14) (by decide) ?_
  refine Own.aloadN X2 hx (pc := 17) (hb hby d3_17) rfl rfl ?_
  refine Own.iload X2 hx (pc := 18) (hb hby d3_18) rfl ?_
  refine Own.iloadN X2 hx (pc := 20) (hb hby d3_20) rfl ?_
  refine Own.iastore X2 hx hZ (pc := 21) e2 V_b1 1 (by decide) (by decide) (of_decide_eq_true rfl) N2 ge_b1 (hb hby d3_21) ?_
  intro T3 h3 X3 e3 W3 N3 V_b1
  replace V_b1 : Own.VArr Z h3 b1 .int [(.int (0 : Int32)), (.int ((0 : Int32) + k0)), (.int (0 : Int32)), (.int (0 : Int32)), (.int (0 : Int32)), (.int (0 : Int32)), (.int (0 : Int32)), (.int (0 : Int32))] := V_b1
  have sz3 : n0 ≤ h3.size := Nat.le_trans sz2 (Nat.le_of_eq (Wr.size W3).symm)
  have V_la := V_la.other W3 ne_la_b1
  have V_ca := V_ca.other W3 ne_ca_b1
  have K := K.wr W3 (Or.inr szo_b1)
  refine Own.iloadN X3 hx (pc := 22) (hb hby d3_22) rfl ?_
  refine Own.aloadN X3 hx (pc := 23) (hb hby d3_23) rfl rfl ?_
  refine Own.iload X3 hx (pc := 24) (hb hby d3_24) rfl ?_
  refine Own.iaload X3 hx hZ (pc := 26) e3 V_ca (v := (.int k1)) 1 (by decide) (by decide) rfl (hb hby d3_26) ?_
  refine Own.iadd X3 hx (pc := 27) (hb hby d3_27) ?_
  refine Own.istoreN X3 hx (pc := 28) #[.val (.ref la), .val (.ref ca), .val (.ref b1), .val (.int (((0 : Int32) + k0) + k1)), .val (.int (1 : Int32)), .unset] (hb hby d3_28) rfl ?_
  refine Own.iincV X3 hx (pc := 29) (1 : Int32) (2 : Int32) #[.val (.ref la), .val (.ref ca), .val (.ref b1), .val (.int (((0 : Int32) + k0) + k1)), .val (.int (2 : Int32)), .unset] (hb hby d3_29) (by decide) rfl (by decide) rfl ?_
  refine Own.goto X3 hx (pc := 32) 10 (hb hby d3_32) (by decide) (by decide) ?_
  refine Own.iload X3 hx (pc := 10) (hb hby d3_10) rfl ?_
  refine Own.aloadN X3 hx (pc := 12) (hb hby d3_12) rfl rfl ?_
  refine Own.alen X3 hx hZ (pc := 13) e3 V_ca (8 : Int32) rfl (hb hby d3_13) ?_
  refine Own.icmpNo X3 hx (pc := 14) (hb hby d3_14) (by decide) ?_
  refine Own.aloadN X3 hx (pc := 17) (hb hby d3_17) rfl rfl ?_
  refine Own.iload X3 hx (pc := 18) (hb hby d3_18) rfl ?_
  refine Own.iloadN X3 hx (pc := 20) (hb hby d3_20) rfl ?_
  refine Own.iastore X3 hx hZ (pc := 21) e3 V_b1 2 (by decide) (by decide) (of_decide_eq_true rfl) N3 ge_b1 (hb hby d3_21) ?_
  intro T4 h4 X4 e4 W4 N4 V_b1
  replace V_b1 : Own.VArr Z h4 b1 .int [(.int (0 : Int32)), (.int ((0 : Int32) + k0)), (.int (((0 : Int32) + k0) + k1)), (.int (0 : Int32)), (.int (0 : Int32)), (.int (0 : Int32)), (.int (0 : Int32)), (.int (0 : Int32))] := V_b1
  have sz4 : n0 ≤ h4.size := Nat.le_trans sz3 (Nat.le_of_eq (Wr.size W4).symm)
  have V_la := V_la.other W4 ne_la_b1
  have V_ca := V_ca.other W4 ne_ca_b1
  have K := K.wr W4 (Or.inr szo_b1)
  refine Own.iloadN X4 hx (pc := 22) (hb hby d3_22) rfl ?_
  refine Own.aloadN X4 hx (pc := 23) (hb hby d3_23) rfl rfl ?_
  refine Own.iload X4 hx (pc := 24) (hb hby d3_24) rfl ?_
  refine Own.iaload X4 hx hZ (pc := 26) e4 V_ca (v := (.int k2)) 2 (by decide) (by decide) rfl (hb hby d3_26) ?_
  refine Own.iadd X4 hx (pc := 27) (hb hby d3_27) ?_
  refine Own.istoreN X4 hx (pc := 28) #[.val (.ref la), .val (.ref ca), .val (.ref b1), .val (.int ((((0 : Int32) + k0) + k1) + k2)), .val (.int (2 : Int32)), .unset] (hb hby d3_28) rfl ?_
  refine Own.iincV X4 hx (pc := 29) (1 : Int32) (3 : Int32) #[.val (.ref la), .val (.ref ca), .val (.ref b1), .val (.int ((((0 : Int32) + k0) + k1) + k2)), .val (.int (3 : Int32)), .unset] (hb hby d3_29) (by decide) rfl (by decide) rfl ?_
  refine Own.goto X4 hx (pc := 32) 10 (hb hby d3_32) (by decide) (by decide) ?_
  refine Own.iload X4 hx (pc := 10) (hb hby d3_10) rfl ?_
  refine Own.aloadN X4 hx (pc := 12) (hb hby d3_12) rfl rfl ?_
  refine Own.alen X4 hx hZ (pc := 13) e4 V_ca (8 : Int32) rfl (hb hby d3_13) ?_
  refine Own.icmpNo X4 hx (pc := 14) (hb hby d3_14) (by decide) ?_
  refine Own.aloadN X4 hx (pc := 17) (hb hby d3_17) rfl rfl ?_
  refine Own.iload X4 hx (pc := 18) (hb hby d3_18) rfl ?_
  refine Own.iloadN X4 hx (pc := 20) (hb hby d3_20) rfl ?_
  refine Own.iastore X4 hx hZ (pc := 21) e4 V_b1 3 (by decide) (by decide) (of_decide_eq_true rfl) N4 ge_b1 (hb hby d3_21) ?_
  intro T5 h5 X5 e5 W5 N5 V_b1
  replace V_b1 : Own.VArr Z h5 b1 .int [(.int (0 : Int32)), (.int ((0 : Int32) + k0)), (.int (((0 : Int32) + k0) + k1)), (.int ((((0 : Int32) + k0) + k1) + k2)), (.int (0 : Int32)), (.int (0 : Int32)), (.int (0 : Int32)), (.int (0 : Int32))] := V_b1
  have sz5 : n0 ≤ h5.size := Nat.le_trans sz4 (Nat.le_of_eq (Wr.size W5).symm)
  have V_la := V_la.other W5 ne_la_b1
  have V_ca := V_ca.other W5 ne_ca_b1
  have K := K.wr W5 (Or.inr szo_b1)
  refine Own.iloadN X5 hx (pc := 22) (hb hby d3_22) rfl ?_
  refine Own.aloadN X5 hx (pc := 23) (hb hby d3_23) rfl rfl ?_
  refine Own.iload X5 hx (pc := 24) (hb hby d3_24) rfl ?_
  refine Own.iaload X5 hx hZ (pc := 26) e5 V_ca (v := (.int k3)) 3 (by decide) (by decide) rfl (hb hby d3_26) ?_
  refine Own.iadd X5 hx (pc := 27) (hb hby d3_27) ?_
  refine Own.istoreN X5 hx (pc := 28) #[.val (.ref la), .val (.ref ca), .val (.ref b1), .val (.int (((((0 : Int32) + k0) + k1) + k2) + k3)), .val (.int (3 : Int32)), .unset] (hb hby d3_28) rfl ?_
  refine Own.iincV X5 hx (pc := 29) (1 : Int32) (4 : Int32) #[.val (.ref la), .val (.ref ca), .val (.ref b1), .val (.int (((((0 : Int32) + k0) + k1) + k2) + k3)), .val (.int (4 : Int32)), .unset] (hb hby d3_29) (by decide) rfl (by decide) rfl ?_
  refine Own.goto X5 hx (pc := 32) 10 (hb hby d3_32) (by decide) (by decide) ?_
  refine Own.iload X5 hx (pc := 10) (hb hby d3_10) rfl ?_
  refine Own.aloadN X5 hx (pc := 12) (hb hby d3_12) rfl rfl ?_
  refine Own.alen X5 hx hZ (pc := 13) e5 V_ca (8 : Int32) rfl (hb hby d3_13) ?_
  refine Own.icmpNo X5 hx (pc := 14) (hb hby d3_14) (by decide) ?_
  refine Own.aloadN X5 hx (pc := 17) (hb hby d3_17) rfl rfl ?_
  refine Own.iload X5 hx (pc := 18) (hb hby d3_18) rfl ?_
  refine Own.iloadN X5 hx (pc := 20) (hb hby d3_20) rfl ?_
  refine Own.iastore X5 hx hZ (pc := 21) e5 V_b1 4 (by decide) (by decide) (of_decide_eq_true rfl) N5 ge_b1 (hb hby d3_21) ?_
  intro T6 h6 X6 e6 W6 N6 V_b1
  replace V_b1 : Own.VArr Z h6 b1 .int [(.int (0 : Int32)), (.int ((0 : Int32) + k0)), (.int (((0 : Int32) + k0) + k1)), (.int ((((0 : Int32) + k0) + k1) + k2)), (.int (((((0 : Int32) + k0) + k1) + k2) + k3)), (.int (0 : Int32)), (.int (0 : Int32)), (.int (0 : Int32))] := V_b1
  have sz6 : n0 ≤ h6.size := Nat.le_trans sz5 (Nat.le_of_eq (Wr.size W6).symm)
  have V_la := V_la.other W6 ne_la_b1
  have V_ca := V_ca.other W6 ne_ca_b1
  have K := K.wr W6 (Or.inr szo_b1)
  refine Own.iloadN X6 hx (pc := 22) (hb hby d3_22) rfl ?_
  refine Own.aloadN X6 hx (pc := 23) (hb hby d3_23) rfl rfl ?_
  refine Own.iload X6 hx (pc := 24) (hb hby d3_24) rfl ?_
  refine Own.iaload X6 hx hZ (pc := 26) e6 V_ca (v := (.int k4)) 4 (by decide) (by decide) rfl (hb hby d3_26) ?_
  refine Own.iadd X6 hx (pc := 27) (hb hby d3_27) ?_
  refine Own.istoreN X6 hx (pc := 28) #[.val (.ref la), .val (.ref ca), .val (.ref b1), .val (.int ((((((0 : Int32) + k0) + k1) + k2) + k3) + k4)), .val (.int (4 : Int32)), .unset] (hb hby d3_28) rfl ?_
  refine Own.iincV X6 hx (pc := 29) (1 : Int32) (5 : Int32) #[.val (.ref la), .val (.ref ca), .val (.ref b1), .val (.int ((((((0 : Int32) + k0) + k1) + k2) + k3) + k4)), .val (.int (5 : Int32)), .unset] (hb hby d3_29) (by decide) rfl (by decide) rfl ?_
  refine Own.goto X6 hx (pc := 32) 10 (hb hby d3_32) (by decide) (by decide) ?_
  refine Own.iload X6 hx (pc := 10) (hb hby d3_10) rfl ?_
  refine Own.aloadN X6 hx (pc := 12) (hb hby d3_12) rfl rfl ?_
  refine Own.alen X6 hx hZ (pc := 13) e6 V_ca (8 : Int32) rfl (hb hby d3_13) ?_
  refine Own.icmpNo X6 hx (pc := 14) (hb hby d3_14) (by decide) ?_
  refine Own.aloadN X6 hx (pc := 17) (hb hby d3_17) rfl rfl ?_
  refine Own.iload X6 hx (pc := 18) (hb hby d3_18) rfl ?_
  refine Own.iloadN X6 hx (pc := 20) (hb hby d3_20) rfl ?_
  refine Own.iastore X6 hx hZ (pc := 21) e6 V_b1 5 (by decide) (by decide) (of_decide_eq_true rfl) N6 ge_b1 (hb hby d3_21) ?_
  intro T7 h7 X7 e7 W7 N7 V_b1
  replace V_b1 : Own.VArr Z h7 b1 .int [(.int (0 : Int32)), (.int ((0 : Int32) + k0)), (.int (((0 : Int32) + k0) + k1)), (.int ((((0 : Int32) + k0) + k1) + k2)), (.int (((((0 : Int32) + k0) + k1) + k2) + k3)), (.int ((((((0 : Int32) + k0) + k1) + k2) + k3) + k4)), (.int (0 : Int32)), (.int (0 : Int32))] := V_b1
  have sz7 : n0 ≤ h7.size := Nat.le_trans sz6 (Nat.le_of_eq (Wr.size W7).symm)
  have V_la := V_la.other W7 ne_la_b1
  have V_ca := V_ca.other W7 ne_ca_b1
  have K := K.wr W7 (Or.inr szo_b1)
  refine Own.iloadN X7 hx (pc := 22) (hb hby d3_22) rfl ?_
  refine Own.aloadN X7 hx (pc := 23) (hb hby d3_23) rfl rfl ?_
  refine Own.iload X7 hx (pc := 24) (hb hby d3_24) rfl ?_
  refine Own.iaload X7 hx hZ (pc := 26) e7 V_ca (v := (.int k5)) 5 (by decide) (by decide) rfl (hb hby d3_26) ?_
  refine Own.iadd X7 hx (pc := 27) (hb hby d3_27) ?_
  refine Own.istoreN X7 hx (pc := 28) #[.val (.ref la), .val (.ref ca), .val (.ref b1), .val (.int (((((((0 : Int32) + k0) + k1) + k2) + k3) + k4) + k5)), .val (.int (5 : Int32)), .unset] (hb hby d3_28) rfl ?_
  refine Own.iincV X7 hx (pc := 29) (1 : Int32) (6 : Int32) #[.val (.ref la), .val (.ref ca), .val (.ref b1), .val (.int (((((((0 : Int32) + k0) + k1) + k2) + k3) + k4) + k5)), .val (.int (6 : Int32)), .unset] (hb hby d3_29) (by decide) rfl (by decide) rfl ?_
  refine Own.goto X7 hx (pc := 32) 10 (hb hby d3_32) (by decide) (by decide) ?_
  refine Own.iload X7 hx (pc := 10) (hb hby d3_10) rfl ?_
  refine Own.aloadN X7 hx (pc := 12) (hb hby d3_12) rfl rfl ?_
  refine Own.alen X7 hx hZ (pc := 13) e7 V_ca (8 : Int32) rfl (hb hby d3_13) ?_
  refine Own.icmpNo X7 hx (pc := 14) (hb hby d3_14) (by decide) ?_
  refine Own.aloadN X7 hx (pc := 17) (hb hby d3_17) rfl rfl ?_
  refine Own.iload X7 hx (pc := 18) (hb hby d3_18) rfl ?_
  refine Own.iloadN X7 hx (pc := 20) (hb hby d3_20) rfl ?_
  refine Own.iastore X7 hx hZ (pc := 21) e7 V_b1 6 (by decide) (by decide) (of_decide_eq_true rfl) N7 ge_b1 (hb hby d3_21) ?_
  intro T8 h8 X8 e8 W8 N8 V_b1
  replace V_b1 : Own.VArr Z h8 b1 .int [(.int (0 : Int32)), (.int ((0 : Int32) + k0)), (.int (((0 : Int32) + k0) + k1)), (.int ((((0 : Int32) + k0) + k1) + k2)), (.int (((((0 : Int32) + k0) + k1) + k2) + k3)), (.int ((((((0 : Int32) + k0) + k1) + k2) + k3) + k4)), (.int (((((((0 : Int32) + k0) + k1) + k2) + k3) + k4) + k5)), (.int (0 : Int32))] := V_b1
  have sz8 : n0 ≤ h8.size := Nat.le_trans sz7 (Nat.le_of_eq (Wr.size W8).symm)
  have V_la := V_la.other W8 ne_la_b1
  have V_ca := V_ca.other W8 ne_ca_b1
  have K := K.wr W8 (Or.inr szo_b1)
  refine Own.iloadN X8 hx (pc := 22) (hb hby d3_22) rfl ?_
  refine Own.aloadN X8 hx (pc := 23) (hb hby d3_23) rfl rfl ?_
  refine Own.iload X8 hx (pc := 24) (hb hby d3_24) rfl ?_
  refine Own.iaload X8 hx hZ (pc := 26) e8 V_ca (v := (.int k6)) 6 (by decide) (by decide) rfl (hb hby d3_26) ?_
  refine Own.iadd X8 hx (pc := 27) (hb hby d3_27) ?_
  refine Own.istoreN X8 hx (pc := 28) #[.val (.ref la), .val (.ref ca), .val (.ref b1), .val (.int ((((((((0 : Int32) + k0) + k1) + k2) + k3) + k4) + k5) + k6)), .val (.int (6 : Int32)), .unset] (hb hby d3_28) rfl ?_
  refine Own.iincV X8 hx (pc := 29) (1 : Int32) (7 : Int32) #[.val (.ref la), .val (.ref ca), .val (.ref b1), .val (.int ((((((((0 : Int32) + k0) + k1) + k2) + k3) + k4) + k5) + k6)), .val (.int (7 : Int32)), .unset] (hb hby d3_29) (by decide) rfl (by decide) rfl ?_
  refine Own.goto X8 hx (pc := 32) 10 (hb hby d3_32) (by decide) (by decide) ?_
  refine Own.iload X8 hx (pc := 10) (hb hby d3_10) rfl ?_
  refine Own.aloadN X8 hx (pc := 12) (hb hby d3_12) rfl rfl ?_
  refine Own.alen X8 hx hZ (pc := 13) e8 V_ca (8 : Int32) rfl (hb hby d3_13) ?_
  refine Own.icmpNo X8 hx (pc := 14) (hb hby d3_14) (by decide) ?_
  refine Own.aloadN X8 hx (pc := 17) (hb hby d3_17) rfl rfl ?_
  refine Own.iload X8 hx (pc := 18) (hb hby d3_18) rfl ?_
  refine Own.iloadN X8 hx (pc := 20) (hb hby d3_20) rfl ?_
  refine Own.iastore X8 hx hZ (pc := 21) e8 V_b1 7 (by decide) (by decide) (of_decide_eq_true rfl) N8 ge_b1 (hb hby d3_21) ?_
  intro T9 h9 X9 e9 W9 N9 V_b1
  replace V_b1 : Own.VArr Z h9 b1 .int [(.int (0 : Int32)), (.int ((0 : Int32) + k0)), (.int (((0 : Int32) + k0) + k1)), (.int ((((0 : Int32) + k0) + k1) + k2)), (.int (((((0 : Int32) + k0) + k1) + k2) + k3)), (.int ((((((0 : Int32) + k0) + k1) + k2) + k3) + k4)), (.int (((((((0 : Int32) + k0) + k1) + k2) + k3) + k4) + k5)), (.int ((((((((0 : Int32) + k0) + k1) + k2) + k3) + k4) + k5) + k6))] := V_b1
  have sz9 : n0 ≤ h9.size := Nat.le_trans sz8 (Nat.le_of_eq (Wr.size W9).symm)
  have V_la := V_la.other W9 ne_la_b1
  have V_ca := V_ca.other W9 ne_ca_b1
  have K := K.wr W9 (Or.inr szo_b1)
  refine Own.iloadN X9 hx (pc := 22) (hb hby d3_22) rfl ?_
  refine Own.aloadN X9 hx (pc := 23) (hb hby d3_23) rfl rfl ?_
  refine Own.iload X9 hx (pc := 24) (hb hby d3_24) rfl ?_
  refine Own.iaload X9 hx hZ (pc := 26) e9 V_ca (v := (.int k7)) 7 (by decide) (by decide) rfl (hb hby d3_26) ?_
  refine Own.iadd X9 hx (pc := 27) (hb hby d3_27) ?_
  refine Own.istoreN X9 hx (pc := 28) #[.val (.ref la), .val (.ref ca), .val (.ref b1), .val (.int (((((((((0 : Int32) + k0) + k1) + k2) + k3) + k4) + k5) + k6) + k7)), .val (.int (7 : Int32)), .unset] (hb hby d3_28) rfl ?_
  refine Own.iincV X9 hx (pc := 29) (1 : Int32) (8 : Int32) #[.val (.ref la), .val (.ref ca), .val (.ref b1), .val (.int (((((((((0 : Int32) + k0) + k1) + k2) + k3) + k4) + k5) + k6) + k7)), .val (.int (8 : Int32)), .unset] (hb hby d3_29) (by decide) rfl (by decide) rfl ?_
  refine Own.goto X9 hx (pc := 32) 10 (hb hby d3_32) (by decide) (by decide) ?_
  refine Own.iload X9 hx (pc := 10) (hb hby d3_10) rfl ?_
  refine Own.aloadN X9 hx (pc := 12) (hb hby d3_12) rfl rfl ?_
  refine Own.alen X9 hx hZ (pc := 13) e9 V_ca (8 : Int32) rfl (hb hby d3_13) ?_
  refine Own.icmpYes X9 hx (pc := 14) 35 (hb hby d3_14) (by decide) (by decide) (by decide) ?_
  refine Own.aloadN X9 hx (pc := 35) (hb hby d3_35) rfl rfl ?_
  refine Own.alen X9 hx hZ (pc := 36) e9 V_la (5 : Int32) rfl (hb hby d3_36) ?_
  refine Own.newarr X9 hx hZ (pc := 37) (aty := .int) (Wd hw 0 rfl) e9 (hb hby d3_37) (by decide) 5 5 (by decide) (by decide) (by decide) (by decide) (by decide) ?_
  intro T10 h10 b10 g10 X10 e10 Ex10 V_b10
  have ne_la_b10 : la ≠ b10 := Nat.ne_of_lt (g10 ▸ V_la.lt)
  have ne_ca_b10 : ca ≠ b10 := Nat.ne_of_lt (g10 ▸ V_ca.lt)
  have ne_b1_b10 : b1 ≠ b10 := Nat.ne_of_lt (g10 ▸ V_b1.lt)
  have V_la := V_la.ext Ex10
  have V_ca := V_ca.ext Ex10
  have V_b1 := V_b1.ext Ex10
  have ge_b10 : n0 ≤ b10 := g10 ▸ sz9
  have sz10 : n0 ≤ h10.size := Nat.le_trans sz9 Ex10.1
  have szo_b10 : h0.size ≤ b10 := g10 ▸ K.1
  have K := K.ext Ex10
  replace V_b10 : Own.VArr Z h10 b10 .int [(.int (0 : Int32)), (.int (0 : Int32)), (.int (0 : Int32)), (.int (0 : Int32)), (.int (0 : Int32))] := V_b10
  refine Own.astore X10 hx (pc := 39) #[.val (.ref la), .val (.ref ca), .val (.ref b1), .val (.int (((((((((0 : Int32) + k0) + k1) + k2) + k3) + k4) + k5) + k6) + k7)), .val (.ref b10), .unset] (hb hby d3_39) rfl rfl ?_
  refine Own.iconst X10 hx (pc := 41) (0 : Int32) (hb hby d3_41) (by decide) ?_
  refine Own.istore X10 hx (pc := 42) #[.val (.ref la), .val (.ref ca), .val (.ref b1), .val (.int (((((((((0 : Int32) + k0) + k1) + k2) + k3) + k4) + k5) + k6) + k7)), .val (.ref b10), .val (.int (0 : Int32))] (hb hby d3_42) rfl ?_
  refine Own.iload X10 hx (pc := 44) (hb hby d3_44) rfl ?_
  refine Own.aloadN X10 hx (pc := 46) (hb hby d3_46) rfl rfl ?_
  refine Own.alen X10 hx hZ (pc := 47) e10 V_la (5 : Int32) rfl (hb hby d3_47) ?_
  refine Own.icmpNo X10 hx (pc := 48) (hb hby d3_48) (by decide) ?_
  refine Own.aload X10 hx (pc := 51) (hb hby d3_51) rfl rfl ?_
  refine Own.aloadN X10 hx (pc := 53) (hb hby d3_53) rfl rfl ?_
  refine Own.aloadN X10 hx (pc := 54) (hb hby d3_54) rfl rfl ?_
  refine Own.iload X10 hx (pc := 55) (hb hby d3_55) rfl ?_
  refine Own.iaload X10 hx hZ (pc := 57) e10 V_la (v := (.int l0)) 0 (by decide) (by decide) rfl (hb hby d3_57) ?_
  refine Own.dup2 X10 hx (pc := 58) (hb hby d3_58) rfl rfl ?_
  refine Own.iaload X10 hx hZ (pc := 59) e10 V_b1 (v := (.int x0)) l0.toNatClampNeg hn0 rfl hx0 (hb hby d3_59) ?_
  refine Own.dupX2 X10 hx (pc := 60) (hb hby d3_60) rfl rfl rfl ?_
  refine Own.iconst X10 hx (pc := 61) (1 : Int32) (hb hby d3_61) (by decide) ?_
  refine Own.iadd X10 hx (pc := 62) (hb hby d3_62) ?_
  refine Own.iastore X10 hx hZ (pc := 63) e10 V_b1 l0.toNatClampNeg hn0 rfl (by simpa using hl0) N9 ge_b1 (hb hby d3_63) ?_
  intro T11 h11 X11 e11 W11 N11 V_b1
  have sz11 : n0 ≤ h11.size := Nat.le_trans sz10 (Nat.le_of_eq (Wr.size W11).symm)
  have V_la := V_la.other W11 ne_la_b1
  have V_ca := V_ca.other W11 ne_ca_b1
  have V_b10 := V_b10.other W11 (Ne.symm ne_b1_b10)
  have K := K.wr W11 (Or.inr szo_b1)
  refine Own.iload X11 hx (pc := 64) (hb hby d3_64) rfl ?_
  refine Own.iastore X11 hx hZ (pc := 66) e11 V_b10 x0.toNatClampNeg hp0 rfl (by simpa using hq0) N11 ge_b10 (hb hby d3_66) ?_
  intro T12 h12 X12 e12 W12 N12 V_b10
  have sz12 : n0 ≤ h12.size := Nat.le_trans sz11 (Nat.le_of_eq (Wr.size W12).symm)
  have V_la := V_la.other W12 ne_la_b10
  have V_ca := V_ca.other W12 ne_ca_b10
  have V_b1 := V_b1.other W12 ne_b1_b10
  have K := K.wr W12 (Or.inr szo_b10)
  refine Own.iincV X12 hx (pc := 67) (1 : Int32) (1 : Int32) #[.val (.ref la), .val (.ref ca), .val (.ref b1), .val (.int (((((((((0 : Int32) + k0) + k1) + k2) + k3) + k4) + k5) + k6) + k7)), .val (.ref b10), .val (.int (1 : Int32))] (hb hby d3_67) (by decide) rfl (by decide) rfl ?_
  refine Own.goto X12 hx (pc := 70) 44 (hb hby d3_70) (by decide) (by decide) ?_
  refine Own.iload X12 hx (pc := 44) (hb hby d3_44) rfl ?_
  refine Own.aloadN X12 hx (pc := 46) (hb hby d3_46) rfl rfl ?_
  refine Own.alen X12 hx hZ (pc := 47) e12 V_la (5 : Int32) rfl (hb hby d3_47) ?_
  refine Own.icmpNo X12 hx (pc := 48) (hb hby d3_48) (by decide) ?_
  refine Own.aload X12 hx (pc := 51) (hb hby d3_51) rfl rfl ?_
  refine Own.aloadN X12 hx (pc := 53) (hb hby d3_53) rfl rfl ?_
  refine Own.aloadN X12 hx (pc := 54) (hb hby d3_54) rfl rfl ?_
  refine Own.iload X12 hx (pc := 55) (hb hby d3_55) rfl ?_
  refine Own.iaload X12 hx hZ (pc := 57) e12 V_la (v := (.int l1)) 1 (by decide) (by decide) rfl (hb hby d3_57) ?_
  refine Own.dup2 X12 hx (pc := 58) (hb hby d3_58) rfl rfl ?_
  refine Own.iaload X12 hx hZ (pc := 59) e12 V_b1 (v := (.int x1)) l1.toNatClampNeg hn1 rfl hx1 (hb hby d3_59) ?_
  refine Own.dupX2 X12 hx (pc := 60) (hb hby d3_60) rfl rfl rfl ?_
  refine Own.iconst X12 hx (pc := 61) (1 : Int32) (hb hby d3_61) (by decide) ?_
  refine Own.iadd X12 hx (pc := 62) (hb hby d3_62) ?_
  refine Own.iastore X12 hx hZ (pc := 63) e12 V_b1 l1.toNatClampNeg hn1 rfl (by simpa using hl1) N12 ge_b1 (hb hby d3_63) ?_
  intro T13 h13 X13 e13 W13 N13 V_b1
  have sz13 : n0 ≤ h13.size := Nat.le_trans sz12 (Nat.le_of_eq (Wr.size W13).symm)
  have V_la := V_la.other W13 ne_la_b1
  have V_ca := V_ca.other W13 ne_ca_b1
  have V_b10 := V_b10.other W13 (Ne.symm ne_b1_b10)
  have K := K.wr W13 (Or.inr szo_b1)
  refine Own.iload X13 hx (pc := 64) (hb hby d3_64) rfl ?_
  refine Own.iastore X13 hx hZ (pc := 66) e13 V_b10 x1.toNatClampNeg hp1 rfl (by simpa using hq1) N13 ge_b10 (hb hby d3_66) ?_
  intro T14 h14 X14 e14 W14 N14 V_b10
  have sz14 : n0 ≤ h14.size := Nat.le_trans sz13 (Nat.le_of_eq (Wr.size W14).symm)
  have V_la := V_la.other W14 ne_la_b10
  have V_ca := V_ca.other W14 ne_ca_b10
  have V_b1 := V_b1.other W14 ne_b1_b10
  have K := K.wr W14 (Or.inr szo_b10)
  refine Own.iincV X14 hx (pc := 67) (1 : Int32) (2 : Int32) #[.val (.ref la), .val (.ref ca), .val (.ref b1), .val (.int (((((((((0 : Int32) + k0) + k1) + k2) + k3) + k4) + k5) + k6) + k7)), .val (.ref b10), .val (.int (2 : Int32))] (hb hby d3_67) (by decide) rfl (by decide) rfl ?_
  refine Own.goto X14 hx (pc := 70) 44 (hb hby d3_70) (by decide) (by decide) ?_
  refine Own.iload X14 hx (pc := 44) (hb hby d3_44) rfl ?_
  refine Own.aloadN X14 hx (pc := 46) (hb hby d3_46) rfl rfl ?_
  refine Own.alen X14 hx hZ (pc := 47) e14 V_la (5 : Int32) rfl (hb hby d3_47) ?_
  refine Own.icmpNo X14 hx (pc := 48) (hb hby d3_48) (by decide) ?_
  refine Own.aload X14 hx (pc := 51) (hb hby d3_51) rfl rfl ?_
  refine Own.aloadN X14 hx (pc := 53) (hb hby d3_53) rfl rfl ?_
  refine Own.aloadN X14 hx (pc := 54) (hb hby d3_54) rfl rfl ?_
  refine Own.iload X14 hx (pc := 55) (hb hby d3_55) rfl ?_
  refine Own.iaload X14 hx hZ (pc := 57) e14 V_la (v := (.int l2)) 2 (by decide) (by decide) rfl (hb hby d3_57) ?_
  refine Own.dup2 X14 hx (pc := 58) (hb hby d3_58) rfl rfl ?_
  refine Own.iaload X14 hx hZ (pc := 59) e14 V_b1 (v := (.int x2)) l2.toNatClampNeg hn2 rfl hx2 (hb hby d3_59) ?_
  refine Own.dupX2 X14 hx (pc := 60) (hb hby d3_60) rfl rfl rfl ?_
  refine Own.iconst X14 hx (pc := 61) (1 : Int32) (hb hby d3_61) (by decide) ?_
  refine Own.iadd X14 hx (pc := 62) (hb hby d3_62) ?_
  refine Own.iastore X14 hx hZ (pc := 63) e14 V_b1 l2.toNatClampNeg hn2 rfl (by simpa using hl2) N14 ge_b1 (hb hby d3_63) ?_
  intro T15 h15 X15 e15 W15 N15 V_b1
  have sz15 : n0 ≤ h15.size := Nat.le_trans sz14 (Nat.le_of_eq (Wr.size W15).symm)
  have V_la := V_la.other W15 ne_la_b1
  have V_ca := V_ca.other W15 ne_ca_b1
  have V_b10 := V_b10.other W15 (Ne.symm ne_b1_b10)
  have K := K.wr W15 (Or.inr szo_b1)
  refine Own.iload X15 hx (pc := 64) (hb hby d3_64) rfl ?_
  refine Own.iastore X15 hx hZ (pc := 66) e15 V_b10 x2.toNatClampNeg hp2 rfl (by simpa using hq2) N15 ge_b10 (hb hby d3_66) ?_
  intro T16 h16 X16 e16 W16 N16 V_b10
  have sz16 : n0 ≤ h16.size := Nat.le_trans sz15 (Nat.le_of_eq (Wr.size W16).symm)
  have V_la := V_la.other W16 ne_la_b10
  have V_ca := V_ca.other W16 ne_ca_b10
  have V_b1 := V_b1.other W16 ne_b1_b10
  have K := K.wr W16 (Or.inr szo_b10)
  refine Own.iincV X16 hx (pc := 67) (1 : Int32) (3 : Int32) #[.val (.ref la), .val (.ref ca), .val (.ref b1), .val (.int (((((((((0 : Int32) + k0) + k1) + k2) + k3) + k4) + k5) + k6) + k7)), .val (.ref b10), .val (.int (3 : Int32))] (hb hby d3_67) (by decide) rfl (by decide) rfl ?_
  refine Own.goto X16 hx (pc := 70) 44 (hb hby d3_70) (by decide) (by decide) ?_
  refine Own.iload X16 hx (pc := 44) (hb hby d3_44) rfl ?_
  refine Own.aloadN X16 hx (pc := 46) (hb hby d3_46) rfl rfl ?_
  refine Own.alen X16 hx hZ (pc := 47) e16 V_la (5 : Int32) rfl (hb hby d3_47) ?_
  refine Own.icmpNo X16 hx (pc := 48) (hb hby d3_48) (by decide) ?_
  refine Own.aload X16 hx (pc := 51) (hb hby d3_51) rfl rfl ?_
  refine Own.aloadN X16 hx (pc := 53) (hb hby d3_53) rfl rfl ?_
  refine Own.aloadN X16 hx (pc := 54) (hb hby d3_54) rfl rfl ?_
  refine Own.iload X16 hx (pc := 55) (hb hby d3_55) rfl ?_
  refine Own.iaload X16 hx hZ (pc := 57) e16 V_la (v := (.int l3)) 3 (by decide) (by decide) rfl (hb hby d3_57) ?_
  refine Own.dup2 X16 hx (pc := 58) (hb hby d3_58) rfl rfl ?_
  refine Own.iaload X16 hx hZ (pc := 59) e16 V_b1 (v := (.int x3)) l3.toNatClampNeg hn3 rfl hx3 (hb hby d3_59) ?_
  refine Own.dupX2 X16 hx (pc := 60) (hb hby d3_60) rfl rfl rfl ?_
  refine Own.iconst X16 hx (pc := 61) (1 : Int32) (hb hby d3_61) (by decide) ?_
  refine Own.iadd X16 hx (pc := 62) (hb hby d3_62) ?_
  refine Own.iastore X16 hx hZ (pc := 63) e16 V_b1 l3.toNatClampNeg hn3 rfl (by simpa using hl3) N16 ge_b1 (hb hby d3_63) ?_
  intro T17 h17 X17 e17 W17 N17 V_b1
  have sz17 : n0 ≤ h17.size := Nat.le_trans sz16 (Nat.le_of_eq (Wr.size W17).symm)
  have V_la := V_la.other W17 ne_la_b1
  have V_ca := V_ca.other W17 ne_ca_b1
  have V_b10 := V_b10.other W17 (Ne.symm ne_b1_b10)
  have K := K.wr W17 (Or.inr szo_b1)
  refine Own.iload X17 hx (pc := 64) (hb hby d3_64) rfl ?_
  refine Own.iastore X17 hx hZ (pc := 66) e17 V_b10 x3.toNatClampNeg hp3 rfl (by simpa using hq3) N17 ge_b10 (hb hby d3_66) ?_
  intro T18 h18 X18 e18 W18 N18 V_b10
  have sz18 : n0 ≤ h18.size := Nat.le_trans sz17 (Nat.le_of_eq (Wr.size W18).symm)
  have V_la := V_la.other W18 ne_la_b10
  have V_ca := V_ca.other W18 ne_ca_b10
  have V_b1 := V_b1.other W18 ne_b1_b10
  have K := K.wr W18 (Or.inr szo_b10)
  refine Own.iincV X18 hx (pc := 67) (1 : Int32) (4 : Int32) #[.val (.ref la), .val (.ref ca), .val (.ref b1), .val (.int (((((((((0 : Int32) + k0) + k1) + k2) + k3) + k4) + k5) + k6) + k7)), .val (.ref b10), .val (.int (4 : Int32))] (hb hby d3_67) (by decide) rfl (by decide) rfl ?_
  refine Own.goto X18 hx (pc := 70) 44 (hb hby d3_70) (by decide) (by decide) ?_
  refine Own.iload X18 hx (pc := 44) (hb hby d3_44) rfl ?_
  refine Own.aloadN X18 hx (pc := 46) (hb hby d3_46) rfl rfl ?_
  refine Own.alen X18 hx hZ (pc := 47) e18 V_la (5 : Int32) rfl (hb hby d3_47) ?_
  refine Own.icmpNo X18 hx (pc := 48) (hb hby d3_48) (by decide) ?_
  refine Own.aload X18 hx (pc := 51) (hb hby d3_51) rfl rfl ?_
  refine Own.aloadN X18 hx (pc := 53) (hb hby d3_53) rfl rfl ?_
  refine Own.aloadN X18 hx (pc := 54) (hb hby d3_54) rfl rfl ?_
  refine Own.iload X18 hx (pc := 55) (hb hby d3_55) rfl ?_
  refine Own.iaload X18 hx hZ (pc := 57) e18 V_la (v := (.int l4)) 4 (by decide) (by decide) rfl (hb hby d3_57) ?_
  refine Own.dup2 X18 hx (pc := 58) (hb hby d3_58) rfl rfl ?_
  refine Own.iaload X18 hx hZ (pc := 59) e18 V_b1 (v := (.int x4)) l4.toNatClampNeg hn4 rfl hx4 (hb hby d3_59) ?_
  refine Own.dupX2 X18 hx (pc := 60) (hb hby d3_60) rfl rfl rfl ?_
  refine Own.iconst X18 hx (pc := 61) (1 : Int32) (hb hby d3_61) (by decide) ?_
  refine Own.iadd X18 hx (pc := 62) (hb hby d3_62) ?_
  refine Own.iastore X18 hx hZ (pc := 63) e18 V_b1 l4.toNatClampNeg hn4 rfl (by simpa using hl4) N18 ge_b1 (hb hby d3_63) ?_
  intro T19 h19 X19 e19 W19 N19 V_b1
  have sz19 : n0 ≤ h19.size := Nat.le_trans sz18 (Nat.le_of_eq (Wr.size W19).symm)
  have V_la := V_la.other W19 ne_la_b1
  have V_ca := V_ca.other W19 ne_ca_b1
  have V_b10 := V_b10.other W19 (Ne.symm ne_b1_b10)
  have K := K.wr W19 (Or.inr szo_b1)
  refine Own.iload X19 hx (pc := 64) (hb hby d3_64) rfl ?_
  refine Own.iastore X19 hx hZ (pc := 66) e19 V_b10 x4.toNatClampNeg hp4 rfl (by simpa using hq4) N19 ge_b10 (hb hby d3_66) ?_
  intro T20 h20 X20 e20 W20 N20 V_b10
  have sz20 : n0 ≤ h20.size := Nat.le_trans sz19 (Nat.le_of_eq (Wr.size W20).symm)
  have V_la := V_la.other W20 ne_la_b10
  have V_ca := V_ca.other W20 ne_ca_b10
  have V_b1 := V_b1.other W20 ne_b1_b10
  have K := K.wr W20 (Or.inr szo_b10)
  refine Own.iincV X20 hx (pc := 67) (1 : Int32) (5 : Int32) #[.val (.ref la), .val (.ref ca), .val (.ref b1), .val (.int (((((((((0 : Int32) + k0) + k1) + k2) + k3) + k4) + k5) + k6) + k7)), .val (.ref b10), .val (.int (5 : Int32))] (hb hby d3_67) (by decide) rfl (by decide) rfl ?_
  refine Own.goto X20 hx (pc := 70) 44 (hb hby d3_70) (by decide) (by decide) ?_
  refine Own.iload X20 hx (pc := 44) (hb hby d3_44) rfl ?_
  refine Own.aloadN X20 hx (pc := 46) (hb hby d3_46) rfl rfl ?_
  refine Own.alen X20 hx hZ (pc := 47) e20 V_la (5 : Int32) rfl (hb hby d3_47) ?_
  refine Own.icmpYes X20 hx (pc := 48) 73 (hb hby d3_48) (by decide) (by decide) (by decide) ?_
  refine Own.aload X20 hx (pc := 73) (hb hby d3_73) rfl rfl ?_
  exact Own.areturn X20 hx hk hret rfl rfl rfl (hb hby d3_75) e20 ⟨b10, rfl, N20, K, ge_b10, szo_b10, V_b10⟩ (by decide) (by decide)
theorem d5_0 : decode method_4_code 0 = .ok (.aload_n 0, 1) := by decide +kernel
theorem d5_1 : decode method_4_code 1 = .ok (.iload_n 1, 1) := by decide +kernel
theorem d5_2 : decode method_4_code 2 = .ok (.iaload, 1) := by decide +kernel
theorem d5_3 : decode method_4_code 3 = .ok (.aload_n 0, 1) := by decide +kernel
theorem d5_4 : decode method_4_code 4 = .ok (.iload_n 2, 1) := by decide +kernel
theorem d5_5 : decode method_4_code 5 = .ok (.iaload, 1) := by decide +kernel
theorem d5_6 : decode method_4_code 6 = .ok (.if_icmp .lt 17, 3) := by decide +kernel
theorem d5_23 : decode method_4_code 23 = .ok (.iconst 1, 1) := by decide +kernel
theorem d5_24 : decode method_4_code 24 = .ok (.goto 4, 3) := by decide +kernel
theorem d5_28 : decode method_4_code 28 = .ok (.ireturn, 1) := by decide +kernel
theorem d5_9 : decode method_4_code 9 = .ok (.aload_n 0, 1) := by decide +kernel
theorem d5_10 : decode method_4_code 10 = .ok (.iload_n 1, 1) := by decide +kernel
theorem d5_11 : decode method_4_code 11 = .ok (.iaload, 1) := by decide +kernel
theorem d5_12 : decode method_4_code 12 = .ok (.aload_n 0, 1) := by decide +kernel
theorem d5_13 : decode method_4_code 13 = .ok (.iload_n 2, 1) := by decide +kernel
theorem d5_14 : decode method_4_code 14 = .ok (.iaload, 1) := by decide +kernel
theorem d5_15 : decode method_4_code 15 = .ok (.if_icmp .ne 12, 3) := by decide +kernel
theorem d5_18 : decode method_4_code 18 = .ok (.iload_n 1, 1) := by decide +kernel
theorem d5_19 : decode method_4_code 19 = .ok (.iload_n 2, 1) := by decide +kernel
theorem d5_20 : decode method_4_code 20 = .ok (.if_icmp .ge 7, 3) := by decide +kernel
theorem d5_27 : decode method_4_code 27 = .ok (.iconst 0, 1) := by decide +kernel
theorem ef_rm5 (m : MethodId) (la : Addr) (t : Int32) (s0 : Int32) : entryFrame m #[(.ref la), (.int t), (.int s0)] 3 = mkF m 0 #[.val (.ref la), .val (.int t), .val (.int s0)] [] := by first | (simp [entryFrame, mkF, argsToLocals, Value.category]; done) | rfl
set_option maxRecDepth 65536 in
set_option maxHeartbeats 40000000 in
theorem rm5 (l : Launch) (Z : State) (a0 : Array Value) (hw : ∀ d ∈ tables_1, d.before a0 Z = true) (la : Addr) (t : Int32) (s0 : Int32) (vs : List Value) (vt : Int32) (vs0 : Int32) (h0 : Heap) (n0 : Nat) (Z0 : n0 ≤ h0.size) (V_la : Own.VArr Z h0 la .int vs) (hnt : ¬ t < 0) (hvt : vs[t.toNatClampNeg]? = some (.int vt)) (hns0 : ¬ s0 < 0) (hvs0 : vs[s0.toNatClampNeg]? = some (.int vs0)) :
    Own.Ct l (⟨"shortleaf/CanonicalCodeOrderPinLaw", "before", "([III)I"⟩ : MethodName) method_4_code 3 (some .int) [] ({ frames := 0, cells := 0, slots := 0, locals := 0 } : Room) Z #[(.ref la), (.int t), (.int s0)] h0 (fun rV hP lC => rV = some (.int (own_b vt vs0 t s0)) ∧ Fr n0 lC ∧ hP = h0) := by
  refine Own.enter (plainFor_of_name pn0) ?_
  intro p e s m below meth cc s₁ hx hby hml hown hnm hret hk hZ X0 e0
  have N0 := Fr.nil n0
  refine Own.start (ef_rm5 m la t s0) ?_
  refine Own.aloadN X0 hx (pc := 0) (hb hby d5_0) rfl rfl ?_
  refine Own.iloadN X0 hx (pc := 1) (hb hby d5_1) rfl ?_
  refine Own.iaload X0 hx hZ (pc := 2) e0 V_la (v := (.int vt)) t.toNatClampNeg hnt rfl hvt (hb hby d5_2) ?_
  refine Own.aloadN X0 hx (pc := 3) (hb hby d5_3) rfl rfl ?_
  refine Own.iloadN X0 hx (pc := 4) (hb hby d5_4) rfl ?_
  refine Own.iaload X0 hx hZ (pc := 5) e0 V_la (v := (.int vs0)) s0.toNatClampNeg hns0 rfl hvs0 (hb hby d5_5) ?_
  by_cases c1 : vt < vs0
  · refine Own.icmpYes X0 hx (pc := 6) 23 (hb hby d5_6) (XT.ii_lt_t c1) (by decide) (by decide) ?_
    refine Own.iconst X0 hx (pc := 23) (1 : Int32) (hb hby d5_23) (by decide) ?_
    refine Own.goto X0 hx (pc := 24) 28 (hb hby d5_24) (by decide) (by decide) ?_
    exact Own.ireturn X0 hx hk hret (by simp) rfl (hb hby d5_28) e0 ⟨by simp [own_b, c1], N0, rfl⟩ (by decide) (by decide)
  · refine Own.icmpNo X0 hx (pc := 6) (hb hby d5_6) (XT.ii_lt_f c1) ?_
    refine Own.aloadN X0 hx (pc := 9) (hb hby d5_9) rfl rfl ?_
    refine Own.iloadN X0 hx (pc := 10) (hb hby d5_10) rfl ?_
    refine Own.iaload X0 hx hZ (pc := 11) e0 V_la (v := (.int vt)) t.toNatClampNeg hnt rfl hvt (hb hby d5_11) ?_
    refine Own.aloadN X0 hx (pc := 12) (hb hby d5_12) rfl rfl ?_
    refine Own.iloadN X0 hx (pc := 13) (hb hby d5_13) rfl ?_
    refine Own.iaload X0 hx hZ (pc := 14) e0 V_la (v := (.int vs0)) s0.toNatClampNeg hns0 rfl hvs0 (hb hby d5_14) ?_
    by_cases c2 : vt = vs0
    · refine Own.icmpNo X0 hx (pc := 15) (hb hby d5_15) (XT.ii_ne_f c2) ?_
      refine Own.iloadN X0 hx (pc := 18) (hb hby d5_18) rfl ?_
      refine Own.iloadN X0 hx (pc := 19) (hb hby d5_19) rfl ?_
      by_cases c3 : t < s0
      · refine Own.icmpNo X0 hx (pc := 20) (hb hby d5_20) (XT.ii_ge_f c3) ?_
        refine Own.iconst X0 hx (pc := 23) (1 : Int32) (hb hby d5_23) (by decide) ?_
        refine Own.goto X0 hx (pc := 24) 28 (hb hby d5_24) (by decide) (by decide) ?_
        exact Own.ireturn X0 hx hk hret (by simp) rfl (hb hby d5_28) e0 ⟨by simp [own_b, c1, c2, c3], N0, rfl⟩ (by decide) (by decide)
      · refine Own.icmpYes X0 hx (pc := 20) 27 (hb hby d5_20) (XT.ii_ge_t c3) (by decide) (by decide) ?_
        refine Own.iconst X0 hx (pc := 27) (0 : Int32) (hb hby d5_27) (by decide) ?_
        exact Own.ireturn X0 hx hk hret (by simp) rfl (hb hby d5_28) e0 ⟨by simp [own_b, c1, c2, c3], N0, rfl⟩ (by decide) (by decide)
    · refine Own.icmpYes X0 hx (pc := 15) 27 (hb hby d5_15) (XT.ii_ne_t c2) (by decide) (by decide) ?_
      refine Own.iconst X0 hx (pc := 27) (0 : Int32) (hb hby d5_27) (by decide) ?_
      exact Own.ireturn X0 hx hk hret (by simp) rfl (hb hby d5_28) e0 ⟨by simp [own_b, c1, c2], N0, rfl⟩ (by decide) (by decide)
theorem d4_0 : decode method_5_code 0 = .ok (.aload_n 0, 1) := by decide +kernel
theorem d4_1 : decode method_5_code 1 = .ok (.iconst 0, 1) := by decide +kernel
theorem d4_2 : decode method_5_code 2 = .ok (.iload_n 1, 1) := by decide +kernel
theorem pd3 : parseMethodDescriptor "([III)I" = some ⟨[(.array .int), .int, .int], some .int⟩ := by decide +kernel
theorem d4_3 : decode method_5_code 3 = .ok (.invokestatic 13, 3) := by decide +kernel
theorem d4_6 : decode method_5_code 6 = .ok (.aload_n 0, 1) := by decide +kernel
theorem d4_7 : decode method_5_code 7 = .ok (.iconst 1, 1) := by decide +kernel
theorem d4_8 : decode method_5_code 8 = .ok (.iload_n 1, 1) := by decide +kernel
theorem d4_9 : decode method_5_code 9 = .ok (.invokestatic 13, 3) := by decide +kernel
theorem d4_12 : decode method_5_code 12 = .ok (.iadd, 1) := by decide +kernel
theorem d4_13 : decode method_5_code 13 = .ok (.aload_n 0, 1) := by decide +kernel
theorem d4_14 : decode method_5_code 14 = .ok (.iconst 2, 1) := by decide +kernel
theorem d4_15 : decode method_5_code 15 = .ok (.iload_n 1, 1) := by decide +kernel
theorem d4_16 : decode method_5_code 16 = .ok (.invokestatic 13, 3) := by decide +kernel
theorem d4_19 : decode method_5_code 19 = .ok (.iadd, 1) := by decide +kernel
theorem d4_20 : decode method_5_code 20 = .ok (.aload_n 0, 1) := by decide +kernel
theorem d4_21 : decode method_5_code 21 = .ok (.iconst 3, 1) := by decide +kernel
theorem d4_22 : decode method_5_code 22 = .ok (.iload_n 1, 1) := by decide +kernel
theorem d4_23 : decode method_5_code 23 = .ok (.invokestatic 13, 3) := by decide +kernel
theorem d4_26 : decode method_5_code 26 = .ok (.iadd, 1) := by decide +kernel
theorem d4_27 : decode method_5_code 27 = .ok (.aload_n 0, 1) := by decide +kernel
theorem d4_28 : decode method_5_code 28 = .ok (.iconst 4, 1) := by decide +kernel
theorem d4_29 : decode method_5_code 29 = .ok (.iload_n 1, 1) := by decide +kernel
theorem d4_30 : decode method_5_code 30 = .ok (.invokestatic 13, 3) := by decide +kernel
theorem d4_33 : decode method_5_code 33 = .ok (.iadd, 1) := by decide +kernel
theorem d4_34 : decode method_5_code 34 = .ok (.ireturn, 1) := by decide +kernel
theorem ef_rm4 (m : MethodId) (la : Addr) (s0 : Int32) : entryFrame m #[(.ref la), (.int s0)] 2 = mkF m 0 #[.val (.ref la), .val (.int s0)] [] := by first | (simp [entryFrame, mkF, argsToLocals, Value.category]; done) | rfl
set_option maxRecDepth 65536 in
set_option maxHeartbeats 40000000 in
theorem rm4 (l : Launch) (Z : State) (a0 : Array Value) (hw : ∀ d ∈ tables_1, d.before a0 Z = true) (la : Addr) (s0 : Int32) (l0 : Int32) (l1 : Int32) (l2 : Int32) (l3 : Int32) (l4 : Int32) (lsv : Int32) (h0 : Heap) (n0 : Nat) (Z0 : n0 ≤ h0.size) (V_la : Own.VArr Z h0 la .int [(.int l0), (.int l1), (.int l2), (.int l3), (.int l4)]) (hns : ¬ s0 < 0) (hvs : ([(.int l0), (.int l1), (.int l2), (.int l3), (.int l4)] : List Value)[s0.toNatClampNeg]? = some (.int lsv)) :
    Own.Ct l (⟨"shortleaf/CanonicalCodeOrderPinLaw", "rank", "([II)I"⟩ : MethodName) method_5_code 2 (some .int) [] ({ frames := 1, cells := 0, slots := 0, locals := 15 } : Room) Z #[(.ref la), (.int s0)] h0 (fun rV hP lC => rV = some (.int (own_rank l0 l1 l2 l3 l4 lsv s0)) ∧ Fr n0 lC ∧ hP = h0) := by
  refine Own.enter (plainFor_of_name pn0) ?_
  intro p e s m below meth cc s₁ hx hby hml hown hnm hret hk hZ X0 e0
  have N0 := Fr.nil n0
  refine Own.start (ef_rm4 m la s0) ?_
  refine Own.aloadN X0 hx (pc := 0) (hb hby d4_0) rfl rfl ?_
  refine Own.iconst X0 hx (pc := 1) (0 : Int32) (hb hby d4_1) (by decide) ?_
  refine Own.iloadN X0 hx (pc := 2) (hb hby d4_2) rfl ?_
  refine Own.callStatic X0 hx hZ (pc := 3) (y := (⟨"shortleaf/CanonicalCodeOrderPinLaw", "before", "([III)I"⟩ : MethodName)) hown (Wd hw 15 rfl) (Wd hw 16 rfl) (Wd hw 3 rfl) (Wd hw 17 rfl) (by decide) 0 [(.ref la), (.int (0 : Int32)), (.int s0)] [] (rm5 l Z a0 hw la (0 : Int32) s0 ([(.int l0), (.int l1), (.int l2), (.int l3), (.int l4)]) l0 lsv h0 n0 Z0 V_la (by decide) rfl hns hvs) (by decide) (by decide) e0 (by rw [hml]; rfl) pd3 rfl rfl (Nat.le_of_eq rfl) (hb hby d4_3) (by decide) (by decide) ?_
  intro T1 L1 v1 X1 hQ1
  obtain ⟨rfl, Nq1, e1⟩ := hQ1
  have N1 := Fr.app N0 Nq1
  show Own.Go p e below _ (T1.setTop (mkF m 6 #[.val (.ref la), .val (.int s0)] [(.int (own_b l0 lsv (0 : Int32) s0))]))
  refine Own.aloadN X1 hx (pc := 6) (hb hby d4_6) rfl rfl ?_
  refine Own.iconst X1 hx (pc := 7) (1 : Int32) (hb hby d4_7) (by decide) ?_
  refine Own.iloadN X1 hx (pc := 8) (hb hby d4_8) rfl ?_
  refine Own.callStatic X1 hx hZ (pc := 9) (y := (⟨"shortleaf/CanonicalCodeOrderPinLaw", "before", "([III)I"⟩ : MethodName)) hown (Wd hw 15 rfl) (Wd hw 16 rfl) (Wd hw 3 rfl) (Wd hw 17 rfl) (by decide) 1 [(.ref la), (.int (1 : Int32)), (.int s0)] [(.int (own_b l0 lsv (0 : Int32) s0))] (rm5 l Z a0 hw la (1 : Int32) s0 ([(.int l0), (.int l1), (.int l2), (.int l3), (.int l4)]) l1 lsv h0 n0 Z0 V_la (by decide) rfl hns hvs) (by decide) (by decide) e1 (by rw [hml]; rfl) pd3 rfl rfl (Nat.le_of_eq rfl) (hb hby d4_9) (by decide) (by decide) ?_
  intro T2 L2 v2 X2 hQ2
  obtain ⟨rfl, Nq2, e2⟩ := hQ2
  have N2 := Fr.app N1 Nq2
  show Own.Go p e below _ (T2.setTop (mkF m 12 #[.val (.ref la), .val (.int s0)] [(.int (own_b l1 lsv (1 : Int32) s0)), (.int (own_b l0 lsv (0 : Int32) s0))]))
  refine Own.iadd X2 hx (pc := 12) (hb hby d4_12) ?_
  refine Own.aloadN X2 hx (pc := 13) (hb hby d4_13) rfl rfl ?_
  refine Own.iconst X2 hx (pc := 14) (2 : Int32) (hb hby d4_14) (by decide) ?_
  refine Own.iloadN X2 hx (pc := 15) (hb hby d4_15) rfl ?_
  refine Own.callStatic X2 hx hZ (pc := 16) (y := (⟨"shortleaf/CanonicalCodeOrderPinLaw", "before", "([III)I"⟩ : MethodName)) hown (Wd hw 15 rfl) (Wd hw 16 rfl) (Wd hw 3 rfl) (Wd hw 17 rfl) (by decide) 1 [(.ref la), (.int (2 : Int32)), (.int s0)] [(.int ((own_b l0 lsv (0 : Int32) s0) + (own_b l1 lsv (1 : Int32) s0)))] (rm5 l Z a0 hw la (2 : Int32) s0 ([(.int l0), (.int l1), (.int l2), (.int l3), (.int l4)]) l2 lsv h0 n0 Z0 V_la (by decide) rfl hns hvs) (by decide) (by decide) e2 (by rw [hml]; rfl) pd3 rfl rfl (Nat.le_of_eq rfl) (hb hby d4_16) (by decide) (by decide) ?_
  intro T3 L3 v3 X3 hQ3
  obtain ⟨rfl, Nq3, e3⟩ := hQ3
  have N3 := Fr.app N2 Nq3
  show Own.Go p e below _ (T3.setTop (mkF m 19 #[.val (.ref la), .val (.int s0)] [(.int (own_b l2 lsv (2 : Int32) s0)), (.int ((own_b l0 lsv (0 : Int32) s0) + (own_b l1 lsv (1 : Int32) s0)))]))
  refine Own.iadd X3 hx (pc := 19) (hb hby d4_19) ?_
  refine Own.aloadN X3 hx (pc := 20) (hb hby d4_20) rfl rfl ?_
  refine Own.iconst X3 hx (pc := 21) (3 : Int32) (hb hby d4_21) (by decide) ?_
  refine Own.iloadN X3 hx (pc := 22) (hb hby d4_22) rfl ?_
  refine Own.callStatic X3 hx hZ (pc := 23) (y := (⟨"shortleaf/CanonicalCodeOrderPinLaw", "before", "([III)I"⟩ : MethodName)) hown (Wd hw 15 rfl) (Wd hw 16 rfl) (Wd hw 3 rfl) (Wd hw 17 rfl) (by decide) 1 [(.ref la), (.int (3 : Int32)), (.int s0)] [(.int (((own_b l0 lsv (0 : Int32) s0) + (own_b l1 lsv (1 : Int32) s0)) + (own_b l2 lsv (2 : Int32) s0)))] (rm5 l Z a0 hw la (3 : Int32) s0 ([(.int l0), (.int l1), (.int l2), (.int l3), (.int l4)]) l3 lsv h0 n0 Z0 V_la (by decide) rfl hns hvs) (by decide) (by decide) e3 (by rw [hml]; rfl) pd3 rfl rfl (Nat.le_of_eq rfl) (hb hby d4_23) (by decide) (by decide) ?_
  intro T4 L4 v4 X4 hQ4
  obtain ⟨rfl, Nq4, e4⟩ := hQ4
  have N4 := Fr.app N3 Nq4
  show Own.Go p e below _ (T4.setTop (mkF m 26 #[.val (.ref la), .val (.int s0)] [(.int (own_b l3 lsv (3 : Int32) s0)), (.int (((own_b l0 lsv (0 : Int32) s0) + (own_b l1 lsv (1 : Int32) s0)) + (own_b l2 lsv (2 : Int32) s0)))]))
  refine Own.iadd X4 hx (pc := 26) (hb hby d4_26) ?_
  refine Own.aloadN X4 hx (pc := 27) (hb hby d4_27) rfl rfl ?_
  refine Own.iconst X4 hx (pc := 28) (4 : Int32) (hb hby d4_28) (by decide) ?_
  refine Own.iloadN X4 hx (pc := 29) (hb hby d4_29) rfl ?_
  refine Own.callStatic X4 hx hZ (pc := 30) (y := (⟨"shortleaf/CanonicalCodeOrderPinLaw", "before", "([III)I"⟩ : MethodName)) hown (Wd hw 15 rfl) (Wd hw 16 rfl) (Wd hw 3 rfl) (Wd hw 17 rfl) (by decide) 1 [(.ref la), (.int (4 : Int32)), (.int s0)] [(.int ((((own_b l0 lsv (0 : Int32) s0) + (own_b l1 lsv (1 : Int32) s0)) + (own_b l2 lsv (2 : Int32) s0)) + (own_b l3 lsv (3 : Int32) s0)))] (rm5 l Z a0 hw la (4 : Int32) s0 ([(.int l0), (.int l1), (.int l2), (.int l3), (.int l4)]) l4 lsv h0 n0 Z0 V_la (by decide) rfl hns hvs) (by decide) (by decide) e4 (by rw [hml]; rfl) pd3 rfl rfl (Nat.le_of_eq rfl) (hb hby d4_30) (by decide) (by decide) ?_
  intro T5 L5 v5 X5 hQ5
  obtain ⟨rfl, Nq5, e5⟩ := hQ5
  have N5 := Fr.app N4 Nq5
  show Own.Go p e below _ (T5.setTop (mkF m 33 #[.val (.ref la), .val (.int s0)] [(.int (own_b l4 lsv (4 : Int32) s0)), (.int ((((own_b l0 lsv (0 : Int32) s0) + (own_b l1 lsv (1 : Int32) s0)) + (own_b l2 lsv (2 : Int32) s0)) + (own_b l3 lsv (3 : Int32) s0)))]))
  refine Own.iadd X5 hx (pc := 33) (hb hby d4_33) ?_
  exact Own.ireturn X5 hx hk hret (by simp) rfl (hb hby d4_34) e5 ⟨rfl, N5, rfl⟩ (by decide) (by decide)
theorem pd4 : parseMethodDescriptor "([II)I" = some ⟨[(.array .int), .int], some .int⟩ := by decide +kernel
theorem pd5 : parseMethodDescriptor "([I[I)[I" = some ⟨[(.array .int), (.array .int)], some (.array .int)⟩ := by decide +kernel
theorem ef_law (m : MethodId) (a : Int32) (b : Int32) (c0 : Int32) (d : Int32) (ev : Int32) : entryFrame m #[(.int a), (.int b), (.int c0), (.int d), (.int ev)] maxLocals = mkF m 0 #[.val (.int a), .val (.int b), .val (.int c0), .val (.int d), .val (.int ev), .unset, .unset, .unset, .unset] [] := by first | (simp [entryFrame, mkF, argsToLocals, Value.category, maxLocals]; done) | rfl
set_option maxRecDepth 65536 in
set_option maxHeartbeats 400000000 in
theorem rm0 (l : Launch) (Z : State) (a0 : Array Value) (hw : ∀ d ∈ tables_1, d.before a0 Z = true) (a : Int32) (b : Int32) (c0 : Int32) (d : Int32) (ev : Int32) (h0 : Heap) (n0 : Nat) (Z0 : n0 ≤ h0.size) :
    Own.Ct l x code maxLocals ret tables_1 room_1 Z #[(.int a), (.int b), (.int c0), (.int d), (.int ev)] h0 (fun v _ L => v = some (.int 1) ∧ Fr n0 L) := by
  refine Own.enter (plainFor_of_name pn0) ?_
  intro p e s m below meth cc s₁ hx hby hml0 hown hnm hret hk hZ X0 e0
  have hml : cc.maxLocals = 9 := hml0
  have N0 := Fr.nil n0
  refine Own.start (ef_law m a b c0 d ev) ?_
  refine Own.iconst X0 hx (pc := 0) (5 : Int32) (hb hby at_0) (by decide) ?_
  refine Own.newarr X0 hx hZ (pc := 1) (aty := .int) (Wd hw 0 rfl) e0 (hb hby at_1) (by decide) 5 5 (by decide) (by decide) (by decide) (by decide) (by decide) ?_
  intro T1 h1 b1 g1 X1 e1 Ex1 V_b1
  have ge_b1 : n0 ≤ b1 := g1 ▸ Z0
  have sz1 : n0 ≤ h1.size := Nat.le_trans Z0 Ex1.1
  replace V_b1 : Own.VArr Z h1 b1 .int [(.int (0 : Int32)), (.int (0 : Int32)), (.int (0 : Int32)), (.int (0 : Int32)), (.int (0 : Int32))] := V_b1
  refine Own.dup X1 hx (pc := 3) (hb hby at_3) rfl ?_
  refine Own.iconst X1 hx (pc := 4) (0 : Int32) (hb hby at_4) (by decide) ?_
  refine Own.iloadN X1 hx (pc := 5) (hb hby at_5) rfl ?_
  refine Own.bipush X1 hx (pc := 6) (7 : Int32) (hb hby at_6) (by decide) ?_
  refine Own.iand X1 hx (pc := 8) (hb hby at_8) ?_
  refine Own.iastore X1 hx hZ (pc := 9) e1 V_b1 0 (by decide) (by decide) (of_decide_eq_true rfl) N0 ge_b1 (hb hby at_9) ?_
  intro T2 h2 X2 e2 W2 N2 V_b1
  replace V_b1 : Own.VArr Z h2 b1 .int [(.int (a &&& (7 : Int32))), (.int (0 : Int32)), (.int (0 : Int32)), (.int (0 : Int32)), (.int (0 : Int32))] := V_b1
  have sz2 : n0 ≤ h2.size := Nat.le_trans sz1 (Nat.le_of_eq (Wr.size W2).symm)
  refine Own.dup X2 hx (pc := 10) (hb hby at_10) rfl ?_
  refine Own.iconst X2 hx (pc := 11) (1 : Int32) (hb hby at_11) (by decide) ?_
  refine Own.iloadN X2 hx (pc := 12) (hb hby at_12) rfl ?_
  refine Own.bipush X2 hx (pc := 13) (7 : Int32) (hb hby at_13) (by decide) ?_
  refine Own.iand X2 hx (pc := 15) (hb hby at_15) ?_
  refine Own.iastore X2 hx hZ (pc := 16) e2 V_b1 1 (by decide) (by decide) (of_decide_eq_true rfl) N2 ge_b1 (hb hby at_16) ?_
  intro T3 h3 X3 e3 W3 N3 V_b1
  replace V_b1 : Own.VArr Z h3 b1 .int [(.int (a &&& (7 : Int32))), (.int (b &&& (7 : Int32))), (.int (0 : Int32)), (.int (0 : Int32)), (.int (0 : Int32))] := V_b1
  have sz3 : n0 ≤ h3.size := Nat.le_trans sz2 (Nat.le_of_eq (Wr.size W3).symm)
  refine Own.dup X3 hx (pc := 17) (hb hby at_17) rfl ?_
  refine Own.iconst X3 hx (pc := 18) (2 : Int32) (hb hby at_18) (by decide) ?_
  refine Own.iloadN X3 hx (pc := 19) (hb hby at_19) rfl ?_
  refine Own.bipush X3 hx (pc := 20) (7 : Int32) (hb hby at_20) (by decide) ?_
  refine Own.iand X3 hx (pc := 22) (hb hby at_22) ?_
  refine Own.iastore X3 hx hZ (pc := 23) e3 V_b1 2 (by decide) (by decide) (of_decide_eq_true rfl) N3 ge_b1 (hb hby at_23) ?_
  intro T4 h4 X4 e4 W4 N4 V_b1
  replace V_b1 : Own.VArr Z h4 b1 .int [(.int (a &&& (7 : Int32))), (.int (b &&& (7 : Int32))), (.int (c0 &&& (7 : Int32))), (.int (0 : Int32)), (.int (0 : Int32))] := V_b1
  have sz4 : n0 ≤ h4.size := Nat.le_trans sz3 (Nat.le_of_eq (Wr.size W4).symm)
  refine Own.dup X4 hx (pc := 24) (hb hby at_24) rfl ?_
  refine Own.iconst X4 hx (pc := 25) (3 : Int32) (hb hby at_25) (by decide) ?_
  refine Own.iloadN X4 hx (pc := 26) (hb hby at_26) rfl ?_
  refine Own.bipush X4 hx (pc := 27) (7 : Int32) (hb hby at_27) (by decide) ?_
  refine Own.iand X4 hx (pc := 29) (hb hby at_29) ?_
  refine Own.iastore X4 hx hZ (pc := 30) e4 V_b1 3 (by decide) (by decide) (of_decide_eq_true rfl) N4 ge_b1 (hb hby at_30) ?_
  intro T5 h5 X5 e5 W5 N5 V_b1
  replace V_b1 : Own.VArr Z h5 b1 .int [(.int (a &&& (7 : Int32))), (.int (b &&& (7 : Int32))), (.int (c0 &&& (7 : Int32))), (.int (d &&& (7 : Int32))), (.int (0 : Int32))] := V_b1
  have sz5 : n0 ≤ h5.size := Nat.le_trans sz4 (Nat.le_of_eq (Wr.size W5).symm)
  refine Own.dup X5 hx (pc := 31) (hb hby at_31) rfl ?_
  refine Own.iconst X5 hx (pc := 32) (4 : Int32) (hb hby at_32) (by decide) ?_
  refine Own.iload X5 hx (pc := 33) (hb hby at_33) rfl ?_
  refine Own.bipush X5 hx (pc := 35) (7 : Int32) (hb hby at_35) (by decide) ?_
  refine Own.iand X5 hx (pc := 37) (hb hby at_37) ?_
  refine Own.iastore X5 hx hZ (pc := 38) e5 V_b1 4 (by decide) (by decide) (of_decide_eq_true rfl) N5 ge_b1 (hb hby at_38) ?_
  intro T6 h6 X6 e6 W6 N6 V_b1
  replace V_b1 : Own.VArr Z h6 b1 .int [(.int (a &&& (7 : Int32))), (.int (b &&& (7 : Int32))), (.int (c0 &&& (7 : Int32))), (.int (d &&& (7 : Int32))), (.int (ev &&& (7 : Int32)))] := V_b1
  have sz6 : n0 ≤ h6.size := Nat.le_trans sz5 (Nat.le_of_eq (Wr.size W6).symm)
  refine Own.astore X6 hx (pc := 39) #[.val (.int a), .val (.int b), .val (.int c0), .val (.int d), .val (.int ev), .val (.ref b1), .unset, .unset, .unset] (hb hby at_39) rfl rfl ?_
  refine Own.bipush X6 hx (pc := 41) (8 : Int32) (hb hby at_41) (by decide) ?_
  refine Own.newarr X6 hx hZ (pc := 43) (aty := .int) (Wd hw 0 rfl) e6 (hb hby at_43) (by decide) 8 8 (by decide) (by decide) (by decide) (by decide) (by decide) ?_
  intro T7 h7 b7 g7 X7 e7 Ex7 V_b7
  have ne_b1_b7 : b1 ≠ b7 := Nat.ne_of_lt (g7 ▸ V_b1.lt)
  have V_b1 := V_b1.ext Ex7
  have ge_b7 : n0 ≤ b7 := g7 ▸ sz6
  have sz7 : n0 ≤ h7.size := Nat.le_trans sz6 Ex7.1
  replace V_b7 : Own.VArr Z h7 b7 .int [(.int (0 : Int32)), (.int (0 : Int32)), (.int (0 : Int32)), (.int (0 : Int32)), (.int (0 : Int32)), (.int (0 : Int32)), (.int (0 : Int32)), (.int (0 : Int32))] := V_b7
  refine Own.astore X7 hx (pc := 45) #[.val (.int a), .val (.int b), .val (.int c0), .val (.int d), .val (.int ev), .val (.ref b1), .val (.ref b7), .unset, .unset] (hb hby at_45) rfl rfl ?_
  refine Own.aload X7 hx (pc := 47) (hb hby at_47) rfl rfl ?_
  refine Own.iconst X7 hx (pc := 49) (0 : Int32) (hb hby at_49) (by decide) ?_
  refine Own.aload X7 hx (pc := 50) (hb hby at_50) rfl rfl ?_
  refine Own.iconst X7 hx (pc := 52) (0 : Int32) (hb hby at_52) (by decide) ?_
  refine Own.callStatic X7 hx hZ (pc := 53) (y := (⟨"shortleaf/CanonicalCodeOrderPinLaw", "cnt", "([II)I"⟩ : MethodName)) hown (Wd hw 1 rfl) (Wd hw 2 rfl) (Wd hw 3 rfl) (Wd hw 4 rfl) (by decide) 2 [(.ref b1), (.int (0 : Int32))] [(.int (0 : Int32)), (.ref b7)] (rm1 l Z a0 hw b1 (0 : Int32) (a &&& (7 : Int32)) (b &&& (7 : Int32)) (c0 &&& (7 : Int32)) (d &&& (7 : Int32)) (ev &&& (7 : Int32)) h7 n0 sz7 V_b1) (by decide) (by decide) e7 (by rw [hml]; rfl) pd4 rfl rfl (Nat.le_of_eq rfl) (hb hby at_53) (by decide) (by decide) ?_
  intro T8 L8 v8 X8 hQ8
  obtain ⟨rfl, Nq8, e8⟩ := hQ8
  have N8 := Fr.app N6 Nq8
  show Own.Go p e below _ (T8.setTop (mkF m 56 #[.val (.int a), .val (.int b), .val (.int c0), .val (.int d), .val (.int ev), .val (.ref b1), .val (.ref b7), .unset, .unset] [(.int (own_cnt (a &&& (7 : Int32)) (b &&& (7 : Int32)) (c0 &&& (7 : Int32)) (d &&& (7 : Int32)) (ev &&& (7 : Int32)) (0 : Int32))), (.int (0 : Int32)), (.ref b7)]))
  refine Own.iastore X8 hx hZ (pc := 56) e8 V_b7 0 (by decide) (by decide) (of_decide_eq_true rfl) N8 ge_b7 (hb hby at_56) ?_
  intro T9 h9 X9 e9 W9 N9 V_b7
  replace V_b7 : Own.VArr Z h9 b7 .int [(.int (own_cnt (a &&& (7 : Int32)) (b &&& (7 : Int32)) (c0 &&& (7 : Int32)) (d &&& (7 : Int32)) (ev &&& (7 : Int32)) (0 : Int32))), (.int (0 : Int32)), (.int (0 : Int32)), (.int (0 : Int32)), (.int (0 : Int32)), (.int (0 : Int32)), (.int (0 : Int32)), (.int (0 : Int32))] := V_b7
  have sz9 : n0 ≤ h9.size := Nat.le_trans sz7 (Nat.le_of_eq (Wr.size W9).symm)
  have V_b1 := V_b1.other W9 ne_b1_b7
  refine Own.aload X9 hx (pc := 57) (hb hby at_57) rfl rfl ?_
  refine Own.iconst X9 hx (pc := 59) (1 : Int32) (hb hby at_59) (by decide) ?_
  refine Own.aload X9 hx (pc := 60) (hb hby at_60) rfl rfl ?_
  refine Own.iconst X9 hx (pc := 62) (1 : Int32) (hb hby at_62) (by decide) ?_
  refine Own.callStatic X9 hx hZ (pc := 63) (y := (⟨"shortleaf/CanonicalCodeOrderPinLaw", "cnt", "([II)I"⟩ : MethodName)) hown (Wd hw 1 rfl) (Wd hw 2 rfl) (Wd hw 3 rfl) (Wd hw 4 rfl) (by decide) 2 [(.ref b1), (.int (1 : Int32))] [(.int (1 : Int32)), (.ref b7)] (rm1 l Z a0 hw b1 (1 : Int32) (a &&& (7 : Int32)) (b &&& (7 : Int32)) (c0 &&& (7 : Int32)) (d &&& (7 : Int32)) (ev &&& (7 : Int32)) h9 n0 sz9 V_b1) (by decide) (by decide) e9 (by rw [hml]; rfl) pd4 rfl rfl (Nat.le_of_eq rfl) (hb hby at_63) (by decide) (by decide) ?_
  intro T10 L10 v10 X10 hQ10
  obtain ⟨rfl, Nq10, e10⟩ := hQ10
  have N10 := Fr.app N9 Nq10
  show Own.Go p e below _ (T10.setTop (mkF m 66 #[.val (.int a), .val (.int b), .val (.int c0), .val (.int d), .val (.int ev), .val (.ref b1), .val (.ref b7), .unset, .unset] [(.int (own_cnt (a &&& (7 : Int32)) (b &&& (7 : Int32)) (c0 &&& (7 : Int32)) (d &&& (7 : Int32)) (ev &&& (7 : Int32)) (1 : Int32))), (.int (1 : Int32)), (.ref b7)]))
  refine Own.iastore X10 hx hZ (pc := 66) e10 V_b7 1 (by decide) (by decide) (of_decide_eq_true rfl) N10 ge_b7 (hb hby at_66) ?_
  intro T11 h11 X11 e11 W11 N11 V_b7
  replace V_b7 : Own.VArr Z h11 b7 .int [(.int (own_cnt (a &&& (7 : Int32)) (b &&& (7 : Int32)) (c0 &&& (7 : Int32)) (d &&& (7 : Int32)) (ev &&& (7 : Int32)) (0 : Int32))), (.int (own_cnt (a &&& (7 : Int32)) (b &&& (7 : Int32)) (c0 &&& (7 : Int32)) (d &&& (7 : Int32)) (ev &&& (7 : Int32)) (1 : Int32))), (.int (0 : Int32)), (.int (0 : Int32)), (.int (0 : Int32)), (.int (0 : Int32)), (.int (0 : Int32)), (.int (0 : Int32))] := V_b7
  have sz11 : n0 ≤ h11.size := Nat.le_trans sz9 (Nat.le_of_eq (Wr.size W11).symm)
  have V_b1 := V_b1.other W11 ne_b1_b7
  refine Own.aload X11 hx (pc := 67) (hb hby at_67) rfl rfl ?_
  refine Own.iconst X11 hx (pc := 69) (2 : Int32) (hb hby at_69) (by decide) ?_
  refine Own.aload X11 hx (pc := 70) (hb hby at_70) rfl rfl ?_
  refine Own.iconst X11 hx (pc := 72) (2 : Int32) (hb hby at_72) (by decide) ?_
  refine Own.callStatic X11 hx hZ (pc := 73) (y := (⟨"shortleaf/CanonicalCodeOrderPinLaw", "cnt", "([II)I"⟩ : MethodName)) hown (Wd hw 1 rfl) (Wd hw 2 rfl) (Wd hw 3 rfl) (Wd hw 4 rfl) (by decide) 2 [(.ref b1), (.int (2 : Int32))] [(.int (2 : Int32)), (.ref b7)] (rm1 l Z a0 hw b1 (2 : Int32) (a &&& (7 : Int32)) (b &&& (7 : Int32)) (c0 &&& (7 : Int32)) (d &&& (7 : Int32)) (ev &&& (7 : Int32)) h11 n0 sz11 V_b1) (by decide) (by decide) e11 (by rw [hml]; rfl) pd4 rfl rfl (Nat.le_of_eq rfl) (hb hby at_73) (by decide) (by decide) ?_
  intro T12 L12 v12 X12 hQ12
  obtain ⟨rfl, Nq12, e12⟩ := hQ12
  have N12 := Fr.app N11 Nq12
  show Own.Go p e below _ (T12.setTop (mkF m 76 #[.val (.int a), .val (.int b), .val (.int c0), .val (.int d), .val (.int ev), .val (.ref b1), .val (.ref b7), .unset, .unset] [(.int (own_cnt (a &&& (7 : Int32)) (b &&& (7 : Int32)) (c0 &&& (7 : Int32)) (d &&& (7 : Int32)) (ev &&& (7 : Int32)) (2 : Int32))), (.int (2 : Int32)), (.ref b7)]))
  refine Own.iastore X12 hx hZ (pc := 76) e12 V_b7 2 (by decide) (by decide) (of_decide_eq_true rfl) N12 ge_b7 (hb hby at_76) ?_
  intro T13 h13 X13 e13 W13 N13 V_b7
  replace V_b7 : Own.VArr Z h13 b7 .int [(.int (own_cnt (a &&& (7 : Int32)) (b &&& (7 : Int32)) (c0 &&& (7 : Int32)) (d &&& (7 : Int32)) (ev &&& (7 : Int32)) (0 : Int32))), (.int (own_cnt (a &&& (7 : Int32)) (b &&& (7 : Int32)) (c0 &&& (7 : Int32)) (d &&& (7 : Int32)) (ev &&& (7 : Int32)) (1 : Int32))), (.int (own_cnt (a &&& (7 : Int32)) (b &&& (7 : Int32)) (c0 &&& (7 : Int32)) (d &&& (7 : Int32)) (ev &&& (7 : Int32)) (2 : Int32))), (.int (0 : Int32)), (.int (0 : Int32)), (.int (0 : Int32)), (.int (0 : Int32)), (.int (0 : Int32))] := V_b7
  have sz13 : n0 ≤ h13.size := Nat.le_trans sz11 (Nat.le_of_eq (Wr.size W13).symm)
  have V_b1 := V_b1.other W13 ne_b1_b7
  refine Own.aload X13 hx (pc := 77) (hb hby at_77) rfl rfl ?_
  refine Own.iconst X13 hx (pc := 79) (3 : Int32) (hb hby at_79) (by decide) ?_
  refine Own.aload X13 hx (pc := 80) (hb hby at_80) rfl rfl ?_
  refine Own.iconst X13 hx (pc := 82) (3 : Int32) (hb hby at_82) (by decide) ?_
  refine Own.callStatic X13 hx hZ (pc := 83) (y := (⟨"shortleaf/CanonicalCodeOrderPinLaw", "cnt", "([II)I"⟩ : MethodName)) hown (Wd hw 1 rfl) (Wd hw 2 rfl) (Wd hw 3 rfl) (Wd hw 4 rfl) (by decide) 2 [(.ref b1), (.int (3 : Int32))] [(.int (3 : Int32)), (.ref b7)] (rm1 l Z a0 hw b1 (3 : Int32) (a &&& (7 : Int32)) (b &&& (7 : Int32)) (c0 &&& (7 : Int32)) (d &&& (7 : Int32)) (ev &&& (7 : Int32)) h13 n0 sz13 V_b1) (by decide) (by decide) e13 (by rw [hml]; rfl) pd4 rfl rfl (Nat.le_of_eq rfl) (hb hby at_83) (by decide) (by decide) ?_
  intro T14 L14 v14 X14 hQ14
  obtain ⟨rfl, Nq14, e14⟩ := hQ14
  have N14 := Fr.app N13 Nq14
  show Own.Go p e below _ (T14.setTop (mkF m 86 #[.val (.int a), .val (.int b), .val (.int c0), .val (.int d), .val (.int ev), .val (.ref b1), .val (.ref b7), .unset, .unset] [(.int (own_cnt (a &&& (7 : Int32)) (b &&& (7 : Int32)) (c0 &&& (7 : Int32)) (d &&& (7 : Int32)) (ev &&& (7 : Int32)) (3 : Int32))), (.int (3 : Int32)), (.ref b7)]))
  refine Own.iastore X14 hx hZ (pc := 86) e14 V_b7 3 (by decide) (by decide) (of_decide_eq_true rfl) N14 ge_b7 (hb hby at_86) ?_
  intro T15 h15 X15 e15 W15 N15 V_b7
  replace V_b7 : Own.VArr Z h15 b7 .int [(.int (own_cnt (a &&& (7 : Int32)) (b &&& (7 : Int32)) (c0 &&& (7 : Int32)) (d &&& (7 : Int32)) (ev &&& (7 : Int32)) (0 : Int32))), (.int (own_cnt (a &&& (7 : Int32)) (b &&& (7 : Int32)) (c0 &&& (7 : Int32)) (d &&& (7 : Int32)) (ev &&& (7 : Int32)) (1 : Int32))), (.int (own_cnt (a &&& (7 : Int32)) (b &&& (7 : Int32)) (c0 &&& (7 : Int32)) (d &&& (7 : Int32)) (ev &&& (7 : Int32)) (2 : Int32))), (.int (own_cnt (a &&& (7 : Int32)) (b &&& (7 : Int32)) (c0 &&& (7 : Int32)) (d &&& (7 : Int32)) (ev &&& (7 : Int32)) (3 : Int32))), (.int (0 : Int32)), (.int (0 : Int32)), (.int (0 : Int32)), (.int (0 : Int32))] := V_b7
  have sz15 : n0 ≤ h15.size := Nat.le_trans sz13 (Nat.le_of_eq (Wr.size W15).symm)
  have V_b1 := V_b1.other W15 ne_b1_b7
  refine Own.aload X15 hx (pc := 87) (hb hby at_87) rfl rfl ?_
  refine Own.iconst X15 hx (pc := 89) (4 : Int32) (hb hby at_89) (by decide) ?_
  refine Own.aload X15 hx (pc := 90) (hb hby at_90) rfl rfl ?_
  refine Own.iconst X15 hx (pc := 92) (4 : Int32) (hb hby at_92) (by decide) ?_
  refine Own.callStatic X15 hx hZ (pc := 93) (y := (⟨"shortleaf/CanonicalCodeOrderPinLaw", "cnt", "([II)I"⟩ : MethodName)) hown (Wd hw 1 rfl) (Wd hw 2 rfl) (Wd hw 3 rfl) (Wd hw 4 rfl) (by decide) 2 [(.ref b1), (.int (4 : Int32))] [(.int (4 : Int32)), (.ref b7)] (rm1 l Z a0 hw b1 (4 : Int32) (a &&& (7 : Int32)) (b &&& (7 : Int32)) (c0 &&& (7 : Int32)) (d &&& (7 : Int32)) (ev &&& (7 : Int32)) h15 n0 sz15 V_b1) (by decide) (by decide) e15 (by rw [hml]; rfl) pd4 rfl rfl (Nat.le_of_eq rfl) (hb hby at_93) (by decide) (by decide) ?_
  intro T16 L16 v16 X16 hQ16
  obtain ⟨rfl, Nq16, e16⟩ := hQ16
  have N16 := Fr.app N15 Nq16
  show Own.Go p e below _ (T16.setTop (mkF m 96 #[.val (.int a), .val (.int b), .val (.int c0), .val (.int d), .val (.int ev), .val (.ref b1), .val (.ref b7), .unset, .unset] [(.int (own_cnt (a &&& (7 : Int32)) (b &&& (7 : Int32)) (c0 &&& (7 : Int32)) (d &&& (7 : Int32)) (ev &&& (7 : Int32)) (4 : Int32))), (.int (4 : Int32)), (.ref b7)]))
  refine Own.iastore X16 hx hZ (pc := 96) e16 V_b7 4 (by decide) (by decide) (of_decide_eq_true rfl) N16 ge_b7 (hb hby at_96) ?_
  intro T17 h17 X17 e17 W17 N17 V_b7
  replace V_b7 : Own.VArr Z h17 b7 .int [(.int (own_cnt (a &&& (7 : Int32)) (b &&& (7 : Int32)) (c0 &&& (7 : Int32)) (d &&& (7 : Int32)) (ev &&& (7 : Int32)) (0 : Int32))), (.int (own_cnt (a &&& (7 : Int32)) (b &&& (7 : Int32)) (c0 &&& (7 : Int32)) (d &&& (7 : Int32)) (ev &&& (7 : Int32)) (1 : Int32))), (.int (own_cnt (a &&& (7 : Int32)) (b &&& (7 : Int32)) (c0 &&& (7 : Int32)) (d &&& (7 : Int32)) (ev &&& (7 : Int32)) (2 : Int32))), (.int (own_cnt (a &&& (7 : Int32)) (b &&& (7 : Int32)) (c0 &&& (7 : Int32)) (d &&& (7 : Int32)) (ev &&& (7 : Int32)) (3 : Int32))), (.int (own_cnt (a &&& (7 : Int32)) (b &&& (7 : Int32)) (c0 &&& (7 : Int32)) (d &&& (7 : Int32)) (ev &&& (7 : Int32)) (4 : Int32))), (.int (0 : Int32)), (.int (0 : Int32)), (.int (0 : Int32))] := V_b7
  have sz17 : n0 ≤ h17.size := Nat.le_trans sz15 (Nat.le_of_eq (Wr.size W17).symm)
  have V_b1 := V_b1.other W17 ne_b1_b7
  refine Own.aload X17 hx (pc := 97) (hb hby at_97) rfl rfl ?_
  refine Own.iconst X17 hx (pc := 99) (5 : Int32) (hb hby at_99) (by decide) ?_
  refine Own.aload X17 hx (pc := 100) (hb hby at_100) rfl rfl ?_
  refine Own.iconst X17 hx (pc := 102) (5 : Int32) (hb hby at_102) (by decide) ?_
  refine Own.callStatic X17 hx hZ (pc := 103) (y := (⟨"shortleaf/CanonicalCodeOrderPinLaw", "cnt", "([II)I"⟩ : MethodName)) hown (Wd hw 1 rfl) (Wd hw 2 rfl) (Wd hw 3 rfl) (Wd hw 4 rfl) (by decide) 2 [(.ref b1), (.int (5 : Int32))] [(.int (5 : Int32)), (.ref b7)] (rm1 l Z a0 hw b1 (5 : Int32) (a &&& (7 : Int32)) (b &&& (7 : Int32)) (c0 &&& (7 : Int32)) (d &&& (7 : Int32)) (ev &&& (7 : Int32)) h17 n0 sz17 V_b1) (by decide) (by decide) e17 (by rw [hml]; rfl) pd4 rfl rfl (Nat.le_of_eq rfl) (hb hby at_103) (by decide) (by decide) ?_
  intro T18 L18 v18 X18 hQ18
  obtain ⟨rfl, Nq18, e18⟩ := hQ18
  have N18 := Fr.app N17 Nq18
  show Own.Go p e below _ (T18.setTop (mkF m 106 #[.val (.int a), .val (.int b), .val (.int c0), .val (.int d), .val (.int ev), .val (.ref b1), .val (.ref b7), .unset, .unset] [(.int (own_cnt (a &&& (7 : Int32)) (b &&& (7 : Int32)) (c0 &&& (7 : Int32)) (d &&& (7 : Int32)) (ev &&& (7 : Int32)) (5 : Int32))), (.int (5 : Int32)), (.ref b7)]))
  refine Own.iastore X18 hx hZ (pc := 106) e18 V_b7 5 (by decide) (by decide) (of_decide_eq_true rfl) N18 ge_b7 (hb hby at_106) ?_
  intro T19 h19 X19 e19 W19 N19 V_b7
  replace V_b7 : Own.VArr Z h19 b7 .int [(.int (own_cnt (a &&& (7 : Int32)) (b &&& (7 : Int32)) (c0 &&& (7 : Int32)) (d &&& (7 : Int32)) (ev &&& (7 : Int32)) (0 : Int32))), (.int (own_cnt (a &&& (7 : Int32)) (b &&& (7 : Int32)) (c0 &&& (7 : Int32)) (d &&& (7 : Int32)) (ev &&& (7 : Int32)) (1 : Int32))), (.int (own_cnt (a &&& (7 : Int32)) (b &&& (7 : Int32)) (c0 &&& (7 : Int32)) (d &&& (7 : Int32)) (ev &&& (7 : Int32)) (2 : Int32))), (.int (own_cnt (a &&& (7 : Int32)) (b &&& (7 : Int32)) (c0 &&& (7 : Int32)) (d &&& (7 : Int32)) (ev &&& (7 : Int32)) (3 : Int32))), (.int (own_cnt (a &&& (7 : Int32)) (b &&& (7 : Int32)) (c0 &&& (7 : Int32)) (d &&& (7 : Int32)) (ev &&& (7 : Int32)) (4 : Int32))), (.int (own_cnt (a &&& (7 : Int32)) (b &&& (7 : Int32)) (c0 &&& (7 : Int32)) (d &&& (7 : Int32)) (ev &&& (7 : Int32)) (5 : Int32))), (.int (0 : Int32)), (.int (0 : Int32))] := V_b7
  have sz19 : n0 ≤ h19.size := Nat.le_trans sz17 (Nat.le_of_eq (Wr.size W19).symm)
  have V_b1 := V_b1.other W19 ne_b1_b7
  refine Own.aload X19 hx (pc := 107) (hb hby at_107) rfl rfl ?_
  refine Own.bipush X19 hx (pc := 109) (6 : Int32) (hb hby at_109) (by decide) ?_
  refine Own.aload X19 hx (pc := 111) (hb hby at_111) rfl rfl ?_
  refine Own.bipush X19 hx (pc := 113) (6 : Int32) (hb hby at_113) (by decide) ?_
  refine Own.callStatic X19 hx hZ (pc := 115) (y := (⟨"shortleaf/CanonicalCodeOrderPinLaw", "cnt", "([II)I"⟩ : MethodName)) hown (Wd hw 1 rfl) (Wd hw 2 rfl) (Wd hw 3 rfl) (Wd hw 4 rfl) (by decide) 2 [(.ref b1), (.int (6 : Int32))] [(.int (6 : Int32)), (.ref b7)] (rm1 l Z a0 hw b1 (6 : Int32) (a &&& (7 : Int32)) (b &&& (7 : Int32)) (c0 &&& (7 : Int32)) (d &&& (7 : Int32)) (ev &&& (7 : Int32)) h19 n0 sz19 V_b1) (by decide) (by decide) e19 (by rw [hml]; rfl) pd4 rfl rfl (Nat.le_of_eq rfl) (hb hby at_115) (by decide) (by decide) ?_
  intro T20 L20 v20 X20 hQ20
  obtain ⟨rfl, Nq20, e20⟩ := hQ20
  have N20 := Fr.app N19 Nq20
  show Own.Go p e below _ (T20.setTop (mkF m 118 #[.val (.int a), .val (.int b), .val (.int c0), .val (.int d), .val (.int ev), .val (.ref b1), .val (.ref b7), .unset, .unset] [(.int (own_cnt (a &&& (7 : Int32)) (b &&& (7 : Int32)) (c0 &&& (7 : Int32)) (d &&& (7 : Int32)) (ev &&& (7 : Int32)) (6 : Int32))), (.int (6 : Int32)), (.ref b7)]))
  refine Own.iastore X20 hx hZ (pc := 118) e20 V_b7 6 (by decide) (by decide) (of_decide_eq_true rfl) N20 ge_b7 (hb hby at_118) ?_
  intro T21 h21 X21 e21 W21 N21 V_b7
  replace V_b7 : Own.VArr Z h21 b7 .int [(.int (own_cnt (a &&& (7 : Int32)) (b &&& (7 : Int32)) (c0 &&& (7 : Int32)) (d &&& (7 : Int32)) (ev &&& (7 : Int32)) (0 : Int32))), (.int (own_cnt (a &&& (7 : Int32)) (b &&& (7 : Int32)) (c0 &&& (7 : Int32)) (d &&& (7 : Int32)) (ev &&& (7 : Int32)) (1 : Int32))), (.int (own_cnt (a &&& (7 : Int32)) (b &&& (7 : Int32)) (c0 &&& (7 : Int32)) (d &&& (7 : Int32)) (ev &&& (7 : Int32)) (2 : Int32))), (.int (own_cnt (a &&& (7 : Int32)) (b &&& (7 : Int32)) (c0 &&& (7 : Int32)) (d &&& (7 : Int32)) (ev &&& (7 : Int32)) (3 : Int32))), (.int (own_cnt (a &&& (7 : Int32)) (b &&& (7 : Int32)) (c0 &&& (7 : Int32)) (d &&& (7 : Int32)) (ev &&& (7 : Int32)) (4 : Int32))), (.int (own_cnt (a &&& (7 : Int32)) (b &&& (7 : Int32)) (c0 &&& (7 : Int32)) (d &&& (7 : Int32)) (ev &&& (7 : Int32)) (5 : Int32))), (.int (own_cnt (a &&& (7 : Int32)) (b &&& (7 : Int32)) (c0 &&& (7 : Int32)) (d &&& (7 : Int32)) (ev &&& (7 : Int32)) (6 : Int32))), (.int (0 : Int32))] := V_b7
  have sz21 : n0 ≤ h21.size := Nat.le_trans sz19 (Nat.le_of_eq (Wr.size W21).symm)
  have V_b1 := V_b1.other W21 ne_b1_b7
  refine Own.aload X21 hx (pc := 119) (hb hby at_119) rfl rfl ?_
  refine Own.bipush X21 hx (pc := 121) (7 : Int32) (hb hby at_121) (by decide) ?_
  refine Own.aload X21 hx (pc := 123) (hb hby at_123) rfl rfl ?_
  refine Own.bipush X21 hx (pc := 125) (7 : Int32) (hb hby at_125) (by decide) ?_
  refine Own.callStatic X21 hx hZ (pc := 127) (y := (⟨"shortleaf/CanonicalCodeOrderPinLaw", "cnt", "([II)I"⟩ : MethodName)) hown (Wd hw 1 rfl) (Wd hw 2 rfl) (Wd hw 3 rfl) (Wd hw 4 rfl) (by decide) 2 [(.ref b1), (.int (7 : Int32))] [(.int (7 : Int32)), (.ref b7)] (rm1 l Z a0 hw b1 (7 : Int32) (a &&& (7 : Int32)) (b &&& (7 : Int32)) (c0 &&& (7 : Int32)) (d &&& (7 : Int32)) (ev &&& (7 : Int32)) h21 n0 sz21 V_b1) (by decide) (by decide) e21 (by rw [hml]; rfl) pd4 rfl rfl (Nat.le_of_eq rfl) (hb hby at_127) (by decide) (by decide) ?_
  intro T22 L22 v22 X22 hQ22
  obtain ⟨rfl, Nq22, e22⟩ := hQ22
  have N22 := Fr.app N21 Nq22
  show Own.Go p e below _ (T22.setTop (mkF m 130 #[.val (.int a), .val (.int b), .val (.int c0), .val (.int d), .val (.int ev), .val (.ref b1), .val (.ref b7), .unset, .unset] [(.int (own_cnt (a &&& (7 : Int32)) (b &&& (7 : Int32)) (c0 &&& (7 : Int32)) (d &&& (7 : Int32)) (ev &&& (7 : Int32)) (7 : Int32))), (.int (7 : Int32)), (.ref b7)]))
  refine Own.iastore X22 hx hZ (pc := 130) e22 V_b7 7 (by decide) (by decide) (of_decide_eq_true rfl) N22 ge_b7 (hb hby at_130) ?_
  intro T23 h23 X23 e23 W23 N23 V_b7
  replace V_b7 : Own.VArr Z h23 b7 .int [(.int (own_cnt (a &&& (7 : Int32)) (b &&& (7 : Int32)) (c0 &&& (7 : Int32)) (d &&& (7 : Int32)) (ev &&& (7 : Int32)) (0 : Int32))), (.int (own_cnt (a &&& (7 : Int32)) (b &&& (7 : Int32)) (c0 &&& (7 : Int32)) (d &&& (7 : Int32)) (ev &&& (7 : Int32)) (1 : Int32))), (.int (own_cnt (a &&& (7 : Int32)) (b &&& (7 : Int32)) (c0 &&& (7 : Int32)) (d &&& (7 : Int32)) (ev &&& (7 : Int32)) (2 : Int32))), (.int (own_cnt (a &&& (7 : Int32)) (b &&& (7 : Int32)) (c0 &&& (7 : Int32)) (d &&& (7 : Int32)) (ev &&& (7 : Int32)) (3 : Int32))), (.int (own_cnt (a &&& (7 : Int32)) (b &&& (7 : Int32)) (c0 &&& (7 : Int32)) (d &&& (7 : Int32)) (ev &&& (7 : Int32)) (4 : Int32))), (.int (own_cnt (a &&& (7 : Int32)) (b &&& (7 : Int32)) (c0 &&& (7 : Int32)) (d &&& (7 : Int32)) (ev &&& (7 : Int32)) (5 : Int32))), (.int (own_cnt (a &&& (7 : Int32)) (b &&& (7 : Int32)) (c0 &&& (7 : Int32)) (d &&& (7 : Int32)) (ev &&& (7 : Int32)) (6 : Int32))), (.int (own_cnt (a &&& (7 : Int32)) (b &&& (7 : Int32)) (c0 &&& (7 : Int32)) (d &&& (7 : Int32)) (ev &&& (7 : Int32)) (7 : Int32)))] := V_b7
  have sz23 : n0 ≤ h23.size := Nat.le_trans sz21 (Nat.le_of_eq (Wr.size W23).symm)
  have V_b1 := V_b1.other W23 ne_b1_b7
  refine Own.aload X23 hx (pc := 131) (hb hby at_131) rfl rfl ?_
  refine Own.aload X23 hx (pc := 133) (hb hby at_133) rfl rfl ?_
  refine Own.callStatic X23 hx hZ (pc := 135) (y := (⟨"shortleaf/CanonicalCode", "order", "([I[I)[I"⟩ : MethodName)) hown (Wd hw 8 rfl) (Wd hw 9 rfl) (Wd hw 10 rfl) (Wd hw 11 rfl) (by decide) 0 [(.ref b1), (.ref b7)] [] (rm3 l Z a0 hw b1 b7 (a &&& (7 : Int32)) (b &&& (7 : Int32)) (c0 &&& (7 : Int32)) (d &&& (7 : Int32)) (ev &&& (7 : Int32)) (own_cnt (a &&& (7 : Int32)) (b &&& (7 : Int32)) (c0 &&& (7 : Int32)) (d &&& (7 : Int32)) (ev &&& (7 : Int32)) (0 : Int32)) (own_cnt (a &&& (7 : Int32)) (b &&& (7 : Int32)) (c0 &&& (7 : Int32)) (d &&& (7 : Int32)) (ev &&& (7 : Int32)) (1 : Int32)) (own_cnt (a &&& (7 : Int32)) (b &&& (7 : Int32)) (c0 &&& (7 : Int32)) (d &&& (7 : Int32)) (ev &&& (7 : Int32)) (2 : Int32)) (own_cnt (a &&& (7 : Int32)) (b &&& (7 : Int32)) (c0 &&& (7 : Int32)) (d &&& (7 : Int32)) (ev &&& (7 : Int32)) (3 : Int32)) (own_cnt (a &&& (7 : Int32)) (b &&& (7 : Int32)) (c0 &&& (7 : Int32)) (d &&& (7 : Int32)) (ev &&& (7 : Int32)) (4 : Int32)) (own_cnt (a &&& (7 : Int32)) (b &&& (7 : Int32)) (c0 &&& (7 : Int32)) (d &&& (7 : Int32)) (ev &&& (7 : Int32)) (5 : Int32)) (own_cnt (a &&& (7 : Int32)) (b &&& (7 : Int32)) (c0 &&& (7 : Int32)) (d &&& (7 : Int32)) (ev &&& (7 : Int32)) (6 : Int32)) (own_cnt (a &&& (7 : Int32)) (b &&& (7 : Int32)) (c0 &&& (7 : Int32)) (d &&& (7 : Int32)) (ev &&& (7 : Int32)) (7 : Int32)) (own_rank (a &&& (7 : Int32)) (b &&& (7 : Int32)) (c0 &&& (7 : Int32)) (d &&& (7 : Int32)) (ev &&& (7 : Int32)) (a &&& (7 : Int32)) (0 : Int32)) (own_rank (a &&& (7 : Int32)) (b &&& (7 : Int32)) (c0 &&& (7 : Int32)) (d &&& (7 : Int32)) (ev &&& (7 : Int32)) (b &&& (7 : Int32)) (1 : Int32)) (own_rank (a &&& (7 : Int32)) (b &&& (7 : Int32)) (c0 &&& (7 : Int32)) (d &&& (7 : Int32)) (ev &&& (7 : Int32)) (c0 &&& (7 : Int32)) (2 : Int32)) (own_rank (a &&& (7 : Int32)) (b &&& (7 : Int32)) (c0 &&& (7 : Int32)) (d &&& (7 : Int32)) (ev &&& (7 : Int32)) (d &&& (7 : Int32)) (3 : Int32)) (own_rank (a &&& (7 : Int32)) (b &&& (7 : Int32)) (c0 &&& (7 : Int32)) (d &&& (7 : Int32)) (ev &&& (7 : Int32)) (ev &&& (7 : Int32)) (4 : Int32)) h23 n0 sz23 V_b1 V_b7 (own_ln _) (own_l8 _) (own_hx0 _ _ _ _ _ (own_rg _) (own_rg _) (own_rg _) (own_rg _) (own_rg _)) (own_xn (own_x0 _ _ _ _ _)) (own_x5 (own_x0 _ _ _ _ _)) (own_ln _) (own_l8 _) (own_hx1 _ _ _ _ _ (own_rg _) (own_rg _) (own_rg _) (own_rg _) (own_rg _)) (own_xn (own_x1 _ _ _ _ _)) (own_x5 (own_x1 _ _ _ _ _)) (own_ln _) (own_l8 _) (own_hx2 _ _ _ _ _ (own_rg _) (own_rg _) (own_rg _) (own_rg _) (own_rg _)) (own_xn (own_x2 _ _ _ _ _)) (own_x5 (own_x2 _ _ _ _ _)) (own_ln _) (own_l8 _) (own_hx3 _ _ _ _ _ (own_rg _) (own_rg _) (own_rg _) (own_rg _) (own_rg _)) (own_xn (own_x3 _ _ _ _ _)) (own_x5 (own_x3 _ _ _ _ _)) (own_ln _) (own_l8 _) (own_hx4 _ _ _ _ _ (own_rg _) (own_rg _) (own_rg _) (own_rg _) (own_rg _)) (own_xn (own_x4 _ _ _ _ _)) (own_x5 (own_x4 _ _ _ _ _))) (by decide) (by decide) e23 (by rw [hml]; rfl) pd5 rfl rfl (Nat.le_of_eq rfl) (hb hby at_135) (by decide) (by decide) ?_
  intro T24 L24 v24 X24 hQ24
  obtain ⟨oa_24, rfl, Nq24, K24, ge_oa_24, szooa_24, V_oa_24'⟩ := hQ24
  have e24 : T24.heap = T24.heap := rfl
  have ne_b1_oa_24 : b1 ≠ oa_24 := Nat.ne_of_lt (Nat.lt_of_lt_of_le V_b1.lt szooa_24)
  have ne_b7_oa_24 : b7 ≠ oa_24 := Nat.ne_of_lt (Nat.lt_of_lt_of_le V_b7.lt szooa_24)
  have V_b1 := V_b1.keep K24 nin0
  have V_b7 := V_b7.keep K24 nin0
  have sz24 : n0 ≤ T24.heap.size := Nat.le_trans sz23 K24.1
  have V_oa_24 := V_oa_24'
  have N24 := Fr.app N23 Nq24
  show Own.Go p e below _ (T24.setTop (mkF m 138 #[.val (.int a), .val (.int b), .val (.int c0), .val (.int d), .val (.int ev), .val (.ref b1), .val (.ref b7), .unset, .unset] [(.ref oa_24)]))
  refine Own.astore X24 hx (pc := 138) #[.val (.int a), .val (.int b), .val (.int c0), .val (.int d), .val (.int ev), .val (.ref b1), .val (.ref b7), .val (.ref oa_24), .unset] (hb hby at_138) rfl rfl ?_
  refine Own.aload X24 hx (pc := 140) (hb hby at_140) rfl rfl ?_
  refine Own.ifnullNo X24 hx (pc := 142) (hb hby at_142) ?_
  refine Own.aload X24 hx (pc := 145) (hb hby at_145) rfl rfl ?_
  refine Own.alen X24 hx hZ (pc := 147) e24 V_oa_24 (5 : Int32) (own_len5 (by simp)) (hb hby at_147) ?_
  refine Own.iconst X24 hx (pc := 148) (5 : Int32) (hb hby at_148) (by decide) ?_
  refine Own.icmpYes X24 hx (pc := 149) 154 (hb hby at_149) (by decide) (by decide) (by decide) ?_
  refine Own.aload X24 hx (pc := 154) (hb hby at_154) rfl rfl ?_
  refine Own.iconst X24 hx (pc := 156) (0 : Int32) (hb hby at_156) (by decide) ?_
  refine Own.iaload X24 hx hZ (pc := 157) e24 V_b1 (v := (.int (a &&& (7 : Int32)))) 0 (by decide) (by decide) rfl (hb hby at_157) ?_
  refine Own.iloadN X24 hx (pc := 158) (hb hby at_158) rfl ?_
  refine Own.bipush X24 hx (pc := 159) (7 : Int32) (hb hby at_159) (by decide) ?_
  refine Own.iand X24 hx (pc := 161) (hb hby at_161) ?_
  refine Own.icmpNo X24 hx (pc := 162) (hb hby at_162) (XT.ii_ne_f (rfl : (a &&& (7 : Int32)) = (a &&& (7 : Int32)))) ?_
  refine Own.aload X24 hx (pc := 165) (hb hby at_165) rfl rfl ?_
  refine Own.iconst X24 hx (pc := 167) (1 : Int32) (hb hby at_167) (by decide) ?_
  refine Own.iaload X24 hx hZ (pc := 168) e24 V_b1 (v := (.int (b &&& (7 : Int32)))) 1 (by decide) (by decide) rfl (hb hby at_168) ?_
  refine Own.iloadN X24 hx (pc := 169) (hb hby at_169) rfl ?_
  refine Own.bipush X24 hx (pc := 170) (7 : Int32) (hb hby at_170) (by decide) ?_
  refine Own.iand X24 hx (pc := 172) (hb hby at_172) ?_
  refine Own.icmpNo X24 hx (pc := 173) (hb hby at_173) (XT.ii_ne_f (rfl : (b &&& (7 : Int32)) = (b &&& (7 : Int32)))) ?_
  refine Own.aload X24 hx (pc := 176) (hb hby at_176) rfl rfl ?_
  refine Own.iconst X24 hx (pc := 178) (2 : Int32) (hb hby at_178) (by decide) ?_
  refine Own.iaload X24 hx hZ (pc := 179) e24 V_b1 (v := (.int (c0 &&& (7 : Int32)))) 2 (by decide) (by decide) rfl (hb hby at_179) ?_
  refine Own.iloadN X24 hx (pc := 180) (hb hby at_180) rfl ?_
  refine Own.bipush X24 hx (pc := 181) (7 : Int32) (hb hby at_181) (by decide) ?_
  refine Own.iand X24 hx (pc := 183) (hb hby at_183) ?_
  refine Own.icmpNo X24 hx (pc := 184) (hb hby at_184) (XT.ii_ne_f (rfl : (c0 &&& (7 : Int32)) = (c0 &&& (7 : Int32)))) ?_
  refine Own.aload X24 hx (pc := 187) (hb hby at_187) rfl rfl ?_
  refine Own.iconst X24 hx (pc := 189) (3 : Int32) (hb hby at_189) (by decide) ?_
  refine Own.iaload X24 hx hZ (pc := 190) e24 V_b1 (v := (.int (d &&& (7 : Int32)))) 3 (by decide) (by decide) rfl (hb hby at_190) ?_
  refine Own.iloadN X24 hx (pc := 191) (hb hby at_191) rfl ?_
  refine Own.bipush X24 hx (pc := 192) (7 : Int32) (hb hby at_192) (by decide) ?_
  refine Own.iand X24 hx (pc := 194) (hb hby at_194) ?_
  refine Own.icmpNo X24 hx (pc := 195) (hb hby at_195) (XT.ii_ne_f (rfl : (d &&& (7 : Int32)) = (d &&& (7 : Int32)))) ?_
  refine Own.aload X24 hx (pc := 198) (hb hby at_198) rfl rfl ?_
  refine Own.iconst X24 hx (pc := 200) (4 : Int32) (hb hby at_200) (by decide) ?_
  refine Own.iaload X24 hx hZ (pc := 201) e24 V_b1 (v := (.int (ev &&& (7 : Int32)))) 4 (by decide) (by decide) rfl (hb hby at_201) ?_
  refine Own.iload X24 hx (pc := 202) (hb hby at_202) rfl ?_
  refine Own.bipush X24 hx (pc := 204) (7 : Int32) (hb hby at_204) (by decide) ?_
  refine Own.iand X24 hx (pc := 206) (hb hby at_206) ?_
  refine Own.icmpNo X24 hx (pc := 207) (hb hby at_207) (XT.ii_ne_f (rfl : (ev &&& (7 : Int32)) = (ev &&& (7 : Int32)))) ?_
  refine Own.iconst X24 hx (pc := 210) (1 : Int32) (hb hby at_210) (by decide) ?_
  refine Own.goto X24 hx (pc := 211) 215 (hb hby at_211) (by decide) (by decide) ?_
  refine Own.istore X24 hx (pc := 215) #[.val (.int a), .val (.int b), .val (.int c0), .val (.int d), .val (.int ev), .val (.ref b1), .val (.ref b7), .val (.ref oa_24), .val (.int (1 : Int32))] (hb hby at_215) rfl ?_
  refine Own.iload X24 hx (pc := 217) (hb hby at_217) rfl ?_
  refine Own.ifNo X24 hx (pc := 219) (hb hby at_219) (by decide) ?_
  refine Own.aload X24 hx (pc := 222) (hb hby at_222) rfl rfl ?_
  refine Own.aload X24 hx (pc := 224) (hb hby at_224) rfl rfl ?_
  refine Own.iconst X24 hx (pc := 226) (0 : Int32) (hb hby at_226) (by decide) ?_
  refine Own.callStatic X24 hx hZ (pc := 227) (y := (⟨"shortleaf/CanonicalCodeOrderPinLaw", "rank", "([II)I"⟩ : MethodName)) hown (Wd hw 12 rfl) (Wd hw 13 rfl) (Wd hw 3 rfl) (Wd hw 14 rfl) (by decide) 1 [(.ref b1), (.int (0 : Int32))] [(.ref oa_24)] (rm4 l Z a0 hw b1 (0 : Int32) (a &&& (7 : Int32)) (b &&& (7 : Int32)) (c0 &&& (7 : Int32)) (d &&& (7 : Int32)) (ev &&& (7 : Int32)) (a &&& (7 : Int32)) T24.heap n0 sz24 V_b1 (by decide) rfl) (by decide) (by decide) e24 (by rw [hml]; rfl) pd4 rfl rfl (Nat.le_of_eq rfl) (hb hby at_227) (by decide) (by decide) ?_
  intro T25 L25 v25 X25 hQ25
  obtain ⟨rfl, Nq25, e25⟩ := hQ25
  have N25 := Fr.app N24 Nq25
  show Own.Go p e below _ (T25.setTop (mkF m 230 #[.val (.int a), .val (.int b), .val (.int c0), .val (.int d), .val (.int ev), .val (.ref b1), .val (.ref b7), .val (.ref oa_24), .val (.int (1 : Int32))] [(.int (own_rank (a &&& (7 : Int32)) (b &&& (7 : Int32)) (c0 &&& (7 : Int32)) (d &&& (7 : Int32)) (ev &&& (7 : Int32)) (a &&& (7 : Int32)) (0 : Int32))), (.ref oa_24)]))
  refine Own.iaload X25 hx hZ (pc := 230) e25 V_oa_24 (v := (.int (0 : Int32))) (own_rank (a &&& (7 : Int32)) (b &&& (7 : Int32)) (c0 &&& (7 : Int32)) (d &&& (7 : Int32)) (ev &&& (7 : Int32)) (a &&& (7 : Int32)) (0 : Int32)).toNatClampNeg (own_xn (own_x0 _ _ _ _ _)) rfl (own_get0 _ _ _ _ _) (hb hby at_230) ?_
  refine Own.ifNo X25 hx (pc := 231) (hb hby at_231) (by decide) ?_
  refine Own.aload X25 hx (pc := 234) (hb hby at_234) rfl rfl ?_
  refine Own.aload X25 hx (pc := 236) (hb hby at_236) rfl rfl ?_
  refine Own.iconst X25 hx (pc := 238) (1 : Int32) (hb hby at_238) (by decide) ?_
  refine Own.callStatic X25 hx hZ (pc := 239) (y := (⟨"shortleaf/CanonicalCodeOrderPinLaw", "rank", "([II)I"⟩ : MethodName)) hown (Wd hw 12 rfl) (Wd hw 13 rfl) (Wd hw 3 rfl) (Wd hw 14 rfl) (by decide) 1 [(.ref b1), (.int (1 : Int32))] [(.ref oa_24)] (rm4 l Z a0 hw b1 (1 : Int32) (a &&& (7 : Int32)) (b &&& (7 : Int32)) (c0 &&& (7 : Int32)) (d &&& (7 : Int32)) (ev &&& (7 : Int32)) (b &&& (7 : Int32)) T24.heap n0 sz24 V_b1 (by decide) rfl) (by decide) (by decide) e25 (by rw [hml]; rfl) pd4 rfl rfl (Nat.le_of_eq rfl) (hb hby at_239) (by decide) (by decide) ?_
  intro T26 L26 v26 X26 hQ26
  obtain ⟨rfl, Nq26, e26⟩ := hQ26
  have N26 := Fr.app N25 Nq26
  show Own.Go p e below _ (T26.setTop (mkF m 242 #[.val (.int a), .val (.int b), .val (.int c0), .val (.int d), .val (.int ev), .val (.ref b1), .val (.ref b7), .val (.ref oa_24), .val (.int (1 : Int32))] [(.int (own_rank (a &&& (7 : Int32)) (b &&& (7 : Int32)) (c0 &&& (7 : Int32)) (d &&& (7 : Int32)) (ev &&& (7 : Int32)) (b &&& (7 : Int32)) (1 : Int32))), (.ref oa_24)]))
  refine Own.iaload X26 hx hZ (pc := 242) e26 V_oa_24 (v := (.int (1 : Int32))) (own_rank (a &&& (7 : Int32)) (b &&& (7 : Int32)) (c0 &&& (7 : Int32)) (d &&& (7 : Int32)) (ev &&& (7 : Int32)) (b &&& (7 : Int32)) (1 : Int32)).toNatClampNeg (own_xn (own_x1 _ _ _ _ _)) rfl (own_get1 _ _ _ _ _) (hb hby at_242) ?_
  refine Own.iconst X26 hx (pc := 243) (1 : Int32) (hb hby at_243) (by decide) ?_
  refine Own.icmpNo X26 hx (pc := 244) (hb hby at_244) (by decide) ?_
  refine Own.aload X26 hx (pc := 247) (hb hby at_247) rfl rfl ?_
  refine Own.aload X26 hx (pc := 249) (hb hby at_249) rfl rfl ?_
  refine Own.iconst X26 hx (pc := 251) (2 : Int32) (hb hby at_251) (by decide) ?_
  refine Own.callStatic X26 hx hZ (pc := 252) (y := (⟨"shortleaf/CanonicalCodeOrderPinLaw", "rank", "([II)I"⟩ : MethodName)) hown (Wd hw 12 rfl) (Wd hw 13 rfl) (Wd hw 3 rfl) (Wd hw 14 rfl) (by decide) 1 [(.ref b1), (.int (2 : Int32))] [(.ref oa_24)] (rm4 l Z a0 hw b1 (2 : Int32) (a &&& (7 : Int32)) (b &&& (7 : Int32)) (c0 &&& (7 : Int32)) (d &&& (7 : Int32)) (ev &&& (7 : Int32)) (c0 &&& (7 : Int32)) T24.heap n0 sz24 V_b1 (by decide) rfl) (by decide) (by decide) e26 (by rw [hml]; rfl) pd4 rfl rfl (Nat.le_of_eq rfl) (hb hby at_252) (by decide) (by decide) ?_
  intro T27 L27 v27 X27 hQ27
  obtain ⟨rfl, Nq27, e27⟩ := hQ27
  have N27 := Fr.app N26 Nq27
  show Own.Go p e below _ (T27.setTop (mkF m 255 #[.val (.int a), .val (.int b), .val (.int c0), .val (.int d), .val (.int ev), .val (.ref b1), .val (.ref b7), .val (.ref oa_24), .val (.int (1 : Int32))] [(.int (own_rank (a &&& (7 : Int32)) (b &&& (7 : Int32)) (c0 &&& (7 : Int32)) (d &&& (7 : Int32)) (ev &&& (7 : Int32)) (c0 &&& (7 : Int32)) (2 : Int32))), (.ref oa_24)]))
  refine Own.iaload X27 hx hZ (pc := 255) e27 V_oa_24 (v := (.int (2 : Int32))) (own_rank (a &&& (7 : Int32)) (b &&& (7 : Int32)) (c0 &&& (7 : Int32)) (d &&& (7 : Int32)) (ev &&& (7 : Int32)) (c0 &&& (7 : Int32)) (2 : Int32)).toNatClampNeg (own_xn (own_x2 _ _ _ _ _)) rfl (own_get2 _ _ _ _ _) (hb hby at_255) ?_
  refine Own.iconst X27 hx (pc := 256) (2 : Int32) (hb hby at_256) (by decide) ?_
  refine Own.icmpNo X27 hx (pc := 257) (hb hby at_257) (by decide) ?_
  refine Own.aload X27 hx (pc := 260) (hb hby at_260) rfl rfl ?_
  refine Own.aload X27 hx (pc := 262) (hb hby at_262) rfl rfl ?_
  refine Own.iconst X27 hx (pc := 264) (3 : Int32) (hb hby at_264) (by decide) ?_
  refine Own.callStatic X27 hx hZ (pc := 265) (y := (⟨"shortleaf/CanonicalCodeOrderPinLaw", "rank", "([II)I"⟩ : MethodName)) hown (Wd hw 12 rfl) (Wd hw 13 rfl) (Wd hw 3 rfl) (Wd hw 14 rfl) (by decide) 1 [(.ref b1), (.int (3 : Int32))] [(.ref oa_24)] (rm4 l Z a0 hw b1 (3 : Int32) (a &&& (7 : Int32)) (b &&& (7 : Int32)) (c0 &&& (7 : Int32)) (d &&& (7 : Int32)) (ev &&& (7 : Int32)) (d &&& (7 : Int32)) T24.heap n0 sz24 V_b1 (by decide) rfl) (by decide) (by decide) e27 (by rw [hml]; rfl) pd4 rfl rfl (Nat.le_of_eq rfl) (hb hby at_265) (by decide) (by decide) ?_
  intro T28 L28 v28 X28 hQ28
  obtain ⟨rfl, Nq28, e28⟩ := hQ28
  have N28 := Fr.app N27 Nq28
  show Own.Go p e below _ (T28.setTop (mkF m 268 #[.val (.int a), .val (.int b), .val (.int c0), .val (.int d), .val (.int ev), .val (.ref b1), .val (.ref b7), .val (.ref oa_24), .val (.int (1 : Int32))] [(.int (own_rank (a &&& (7 : Int32)) (b &&& (7 : Int32)) (c0 &&& (7 : Int32)) (d &&& (7 : Int32)) (ev &&& (7 : Int32)) (d &&& (7 : Int32)) (3 : Int32))), (.ref oa_24)]))
  refine Own.iaload X28 hx hZ (pc := 268) e28 V_oa_24 (v := (.int (3 : Int32))) (own_rank (a &&& (7 : Int32)) (b &&& (7 : Int32)) (c0 &&& (7 : Int32)) (d &&& (7 : Int32)) (ev &&& (7 : Int32)) (d &&& (7 : Int32)) (3 : Int32)).toNatClampNeg (own_xn (own_x3 _ _ _ _ _)) rfl (own_get3 _ _ _ _ _) (hb hby at_268) ?_
  refine Own.iconst X28 hx (pc := 269) (3 : Int32) (hb hby at_269) (by decide) ?_
  refine Own.icmpNo X28 hx (pc := 270) (hb hby at_270) (by decide) ?_
  refine Own.aload X28 hx (pc := 273) (hb hby at_273) rfl rfl ?_
  refine Own.aload X28 hx (pc := 275) (hb hby at_275) rfl rfl ?_
  refine Own.iconst X28 hx (pc := 277) (4 : Int32) (hb hby at_277) (by decide) ?_
  refine Own.callStatic X28 hx hZ (pc := 278) (y := (⟨"shortleaf/CanonicalCodeOrderPinLaw", "rank", "([II)I"⟩ : MethodName)) hown (Wd hw 12 rfl) (Wd hw 13 rfl) (Wd hw 3 rfl) (Wd hw 14 rfl) (by decide) 1 [(.ref b1), (.int (4 : Int32))] [(.ref oa_24)] (rm4 l Z a0 hw b1 (4 : Int32) (a &&& (7 : Int32)) (b &&& (7 : Int32)) (c0 &&& (7 : Int32)) (d &&& (7 : Int32)) (ev &&& (7 : Int32)) (ev &&& (7 : Int32)) T24.heap n0 sz24 V_b1 (by decide) rfl) (by decide) (by decide) e28 (by rw [hml]; rfl) pd4 rfl rfl (Nat.le_of_eq rfl) (hb hby at_278) (by decide) (by decide) ?_
  intro T29 L29 v29 X29 hQ29
  obtain ⟨rfl, Nq29, e29⟩ := hQ29
  have N29 := Fr.app N28 Nq29
  show Own.Go p e below _ (T29.setTop (mkF m 281 #[.val (.int a), .val (.int b), .val (.int c0), .val (.int d), .val (.int ev), .val (.ref b1), .val (.ref b7), .val (.ref oa_24), .val (.int (1 : Int32))] [(.int (own_rank (a &&& (7 : Int32)) (b &&& (7 : Int32)) (c0 &&& (7 : Int32)) (d &&& (7 : Int32)) (ev &&& (7 : Int32)) (ev &&& (7 : Int32)) (4 : Int32))), (.ref oa_24)]))
  refine Own.iaload X29 hx hZ (pc := 281) e29 V_oa_24 (v := (.int (4 : Int32))) (own_rank (a &&& (7 : Int32)) (b &&& (7 : Int32)) (c0 &&& (7 : Int32)) (d &&& (7 : Int32)) (ev &&& (7 : Int32)) (ev &&& (7 : Int32)) (4 : Int32)).toNatClampNeg (own_xn (own_x4 _ _ _ _ _)) rfl (own_get4 _ _ _ _ _) (hb hby at_281) ?_
  refine Own.iconst X29 hx (pc := 282) (4 : Int32) (hb hby at_282) (by decide) ?_
  refine Own.icmpNo X29 hx (pc := 283) (hb hby at_283) (by decide) ?_
  refine Own.iconst X29 hx (pc := 286) (1 : Int32) (hb hby at_286) (by decide) ?_
  refine Own.goto X29 hx (pc := 287) 291 (hb hby at_287) (by decide) (by decide) ?_
  exact Own.ireturn X29 hx hk hret (by simp) rfl (hb hby at_291) e29 ⟨rfl, N29⟩ (by decide) (by decide)
set_option maxRecDepth 65536 in
set_option maxHeartbeats 40000000 in
theorem comes_1 {Post : Tables → Env → Array Value → State → Outcome → State → Prop} (hpost : ∀ tb e args s v u, (limb_1_1.after args s (.returned v) u = true ∧ limb_1_2.after args s (.returned v) u = true ∧ True) → FrameEnd s (.returned v) u (Jvm.fieldLocs frame_1_writes args s ++ Jvm.arrayLocs frame_1_arrays args s ++ Jvm.staticLocs frame_1_statics s) 16 128 → Post tb e args s (.returned v) u) :
    ArmFor flags0 classFile x code maxLocals ret World_1 tables_1 room_1 Calls_1 rest_1 Pre_1 Post := by
  intro l hfl _ _ p e ha hc hk s m args below hf hA hF happ hP
  obtain ⟨hcalls, hrest, hpre⟩ := hP
  obtain ⟨-, -, -, hnamed, -, -, -, hat⟩ := (Spec.applies_iff hf).mp happ
  obtain ⟨hg, hn⟩ := and_e (Cond.before_iff.mp (show (Jvm.Cond.and given_1 narrow_1).before args s = true from hpre))
  obtain ⟨hcount, r0⟩ := and_e hg
  obtain ⟨g0, r1⟩ := and_e r0
  obtain ⟨g1, r2⟩ := and_e r1
  obtain ⟨g2, r3⟩ := and_e r2
  obtain ⟨g3, r4⟩ := and_e r3
  obtain ⟨w0, w1, w2, w3, w4, rfl⟩ : ∃ w0 w1 w2 w3 w4 : Value, args = #[w0, w1, w2, w3, w4] := by
    have hs : args.size = 5 := by simpa [Cond.value, given_1] using hcount
    obtain ⟨L⟩ := args
    match L, hs with
    | [w0, w1, w2, w3, w4], _ => exact ⟨w0, w1, w2, w3, w4, rfl⟩
  have hw := fun d (hd : d ∈ tables_1) => atoms_spec (ws := Jvm.Cond.code x code maxLocals ret :: tables_1) hat d (List.mem_cons_of_mem _ hd)
  obtain ⟨i0, e0⟩ := is_v g0
  obtain rfl : w0 = (.int i0) := Option.some.inj e0
  obtain ⟨i1, e1⟩ := is_v g1
  obtain rfl : w1 = (.int i1) := Option.some.inj e1
  obtain ⟨i2, e2⟩ := is_v g2
  obtain rfl : w2 = (.int i2) := Option.some.inj e2
  obtain ⟨i3, e3⟩ := is_v g3
  obtain rfl : w3 = (.int i3) := Option.some.inj e3
  obtain ⟨i4, e4⟩ := is_v r4
  obtain rfl : w4 = (.int i4) := Option.some.inj e4
  obtain ⟨n, o, h1, h2, h3, _, L, rfl, ⟨rfl, N⟩, hq⟩ := rm0 l s _ hw i0 i1 i2 i3 i4 s.heap s.heap.size (Nat.le_refl _) p e ha hc hk s m _ below hf ((Spec.applies_iff_loose hf).mp happ).1 ⟨rfl, State.Warmed39.refl s, rfl⟩ trivial
  refine ⟨n, _, h1, h2, h3, hpost _ _ _ _ _ _ ⟨Cond.after_iff.mpr rfl, Cond.after_iff.mpr (eq_i res_at (Term.int_eval (1)) rfl), trivial⟩ ⟨hq.1, hq.2.1, (hq.2.2.sift fun y hy => Or.inr (N y hy)).mono (by decide) (by decide)⟩⟩
theorem main_1_1 : Claimed_1_1 := comes_1 fun _ _ _ _ _ _ h hF => ⟨h.1, hF⟩
theorem main_1_2 : Claimed_1_2 := comes_1 fun _ _ _ _ _ _ h hF => ⟨h.2.1, hF⟩
end Jvm.Pilot.@@N@@
namespace Jvm.Pilot.@@N@@
open Jvm Jvm.ClassFile Sem Op Lib Jvm.Free Jvm.Stand Jvm.Pilot.@@N@@.Jvm.D
/-! MADE BY PROGRAM (witnessworld.py) out of the Statement's table words and the real class files: 9 classes; the members and pool entries that the words name. The judged class is class 1, her method 5. -/
namespace start1
open Jvm.ClassFile
def u (s : String) : CpInfo := .utf8 (stringToUtf16 s)
/-- a pool by its gaps: so many unusable entries, then the entry; so many at the end -/
def gap : Nat → List CpInfo → List CpInfo
  | 0, r => r
  | n + 1, r => .unusable :: gap n r
def poolList (es : List (Nat × CpInfo)) (last : Nat) : List CpInfo := es.foldr (fun e r => gap e.1 (e.2 :: r)) (gap last [])
def pool (es : List (Nat × CpInfo)) (last : Nat) : Array CpInfo := ⟨poolList es last⟩
def fileOf (pool : Array CpInfo) (this : Nat) (attrs : Array Attribute := #[]) (ms : Array MethodInfo := #[]) (fl : Nat := 33) (sup : Nat := 0) (ifs : Array Nat := #[]) (fds : Array FieldInfo := #[]) : ClassFile where
  minorVersion := 0
  majorVersion := 65
  constantPool := pool
  accessFlags := fl
  thisClass := this
  superClass := sup
  interfaces := ifs
  fields := fds
  methods := ms
  attributes := attrs
def plain (name : String) (sup : Option ClassId) : Class where
  name := name
  kind := .ordinary
  loader := none
  accessFlags := 33
  super := sup
  interfaces := #[]
  cf := none
  fields := #[]
  methods := #[]
  instanceTypes := #[]
  staticTypes := #[]
  resolved := #[]
  callSites := []
  init := .initialized
  statics := none
  mirror := none

def pool0 : Array CpInfo := pool [(5, u "<init>"), (0, u "()V"), (1, .class_ 10), (1, u "java/lang/Object")] 113

def k0m0 : Method := { name := "<init>", desc := "()V", sig := { parameters := [], returnType := none }, accessFlags := 1, code := none }
/-- java/lang/Object -/
def k0 : Class := { plain "java/lang/Object" none with
  accessFlags := 33
  interfaces := #[]
  cf := some (fileOf pool0 8 #[] #[{ accessFlags := 1, nameIndex := 5, descriptorIndex := 6, attributes := #[] }] 33 0 #[] #[])
  fields := #[]
  methods := #[k0m0]
  instanceTypes := #[]
  staticTypes := #[]
  resolved := Array.replicate 124 none
  statics := none }

def pool1 : Array CpInfo := pool [(2, .class_ 4), (1, u "java/lang/Object"), (0, u "<init>"), (0, u "()V"), (0, .methodref 8 9), (0, .class_ 10), (0, .nameAndType 11 12), (0, u "shortleaf/CanonicalCodeOrderPinLaw"), (0, u "eq"), (0, u "(II)I"), (0, .methodref 8 14), (0, .nameAndType 15 16), (0, u "before"), (0, u "([III)I"), (0, .methodref 8 18), (0, .nameAndType 19 20), (0, u "cnt"), (0, u "([II)I"), (0, .methodref 22 23), (0, .class_ 24), (0, .nameAndType 25 26), (0, u "shortleaf/CanonicalCode"), (0, u "order"), (0, u "([I[I)[I"), (0, .methodref 8 28), (0, .nameAndType 29 20), (0, u "rank"), (3, u "law"), (0, u "(IIIII)Z")] 4

def k1m0 : Method := { name := "<init>", desc := "()V", sig := { parameters := [], returnType := none }, accessFlags := 1, code := none }
def k1c1 : Code := { maxStack := 2, maxLocals := 2, code := method_2_code, exceptionTable := #[], attributes := #[] }
def k1m1 : Method := { name := "eq", desc := "(II)I", sig := { parameters := [.int, .int], returnType := some .int }, accessFlags := 10, code := some k1c1 }
def k1c2 : Code := { maxStack := 3, maxLocals := 2, code := method_3_code, exceptionTable := #[], attributes := #[] }
def k1m2 : Method := { name := "cnt", desc := "([II)I", sig := { parameters := [(.array .int), .int], returnType := some .int }, accessFlags := 10, code := some k1c2 }
def k1c3 : Code := { maxStack := 3, maxLocals := 3, code := method_4_code, exceptionTable := #[], attributes := #[] }
def k1m3 : Method := { name := "before", desc := "([III)I", sig := { parameters := [(.array .int), .int, .int], returnType := some .int }, accessFlags := 10, code := some k1c3 }
def k1c4 : Code := { maxStack := 4, maxLocals := 2, code := method_5_code, exceptionTable := #[], attributes := #[] }
def k1m4 : Method := { name := "rank", desc := "([II)I", sig := { parameters := [(.array .int), .int], returnType := some .int }, accessFlags := 10, code := some k1c4 }
def k1c5 : Code := { maxStack := 5, maxLocals := 9, code := code, exceptionTable := #[], attributes := #[] }
def k1m5 : Method := { name := "law", desc := "(IIIII)Z", sig := { parameters := [.int, .int, .int, .int, .int], returnType := some .boolean }, accessFlags := 9, code := some k1c5 }
/-- shortleaf/CanonicalCodeOrderPinLaw -/
def k1 : Class := { plain "shortleaf/CanonicalCodeOrderPinLaw" (some 0) with
  accessFlags := 49
  interfaces := #[]
  cf := some (fileOf pool1 8 #[] #[{ accessFlags := 1, nameIndex := 5, descriptorIndex := 6, attributes := #[] }, { accessFlags := 10, nameIndex := 11, descriptorIndex := 12, attributes := #[] }, { accessFlags := 10, nameIndex := 19, descriptorIndex := 20, attributes := #[] }, { accessFlags := 10, nameIndex := 15, descriptorIndex := 16, attributes := #[] }, { accessFlags := 10, nameIndex := 29, descriptorIndex := 20, attributes := #[] }, { accessFlags := 9, nameIndex := 33, descriptorIndex := 34, attributes := #[] }] 49 2 #[] #[])
  fields := #[]
  methods := #[k1m0, k1m1, k1m2, k1m3, k1m4, k1m5]
  instanceTypes := #[]
  staticTypes := #[]
  resolved := Array.replicate 39 none
  statics := none }

def pool2 : Array CpInfo := pool [(2, .class_ 4), (1, u "java/lang/Object"), (5, u "[I"), (3, .class_ 16), (1, u "shortleaf/CanonicalCode"), (0, u "lengths"), (2, u "counts"), (5, u "order"), (0, u "([I[I)[I"), (105, .class_ 135), (1, u "shortleaf/CanonicalCode$BitSource")] 80

def k2c0 : Code := { maxStack := 6, maxLocals := 6, code := prog_8_method_3_code, exceptionTable := #[], attributes := #[] }
def k2m0 : Method := { name := "order", desc := "([I[I)[I", sig := { parameters := [(.array .int), (.array .int)], returnType := some (.array .int) }, accessFlags := 8, code := some k2c0 }
/-- shortleaf/CanonicalCode -/
def k2 : Class := { plain "shortleaf/CanonicalCode" (some 0) with
  accessFlags := 48
  interfaces := #[]
  cf := some (fileOf pool2 14 #[.nestMembers #[133]] #[{ accessFlags := 8, nameIndex := 26, descriptorIndex := 27, attributes := #[] }] 48 2 #[] #[{ accessFlags := 18, nameIndex := 17, descriptorIndex := 10, attributes := #[] }, { accessFlags := 18, nameIndex := 20, descriptorIndex := 10, attributes := #[] }, { accessFlags := 18, nameIndex := 26, descriptorIndex := 10, attributes := #[] }])
  fields := #[{ name := "lengths", type := (.array .int), accessFlags := 18, slot := 0, constantValue := 0 }, { name := "counts", type := (.array .int), accessFlags := 18, slot := 1, constantValue := 0 }, { name := "order", type := (.array .int), accessFlags := 18, slot := 2, constantValue := 0 }]
  methods := #[k2m0]
  instanceTypes := #[(.array .int), (.array .int), (.array .int)]
  staticTypes := #[]
  resolved := Array.replicate 216 none
  statics := none }

def pool3 : Array CpInfo := pool [(1, u "java/lang/Cloneable"), (0, .class_ 1), (0, u "java/lang/Object"), (0, .class_ 3)] 3

/-- java/lang/Cloneable -/
def k3 : Class := { plain "java/lang/Cloneable" (some 0) with
  accessFlags := 1537
  interfaces := #[]
  cf := some (fileOf pool3 2 #[] #[] 1537 4 #[] #[])
  fields := #[]
  methods := #[]
  instanceTypes := #[]
  staticTypes := #[]
  resolved := Array.replicate 8 none
  statics := none }

def pool4 : Array CpInfo := pool [(1, u "java/io/Serializable"), (0, .class_ 1), (0, u "java/lang/Object"), (0, .class_ 3)] 3

/-- java/io/Serializable -/
def k4 : Class := { plain "java/io/Serializable" (some 0) with
  accessFlags := 1537
  interfaces := #[]
  cf := some (fileOf pool4 2 #[] #[] 1537 4 #[] #[])
  fields := #[]
  methods := #[]
  instanceTypes := #[]
  staticTypes := #[]
  resolved := Array.replicate 8 none
  statics := none }

/-- the primitive byte -/
def k5 : Class := { plain "byte" none with kind := .primitive 'B', accessFlags := 0x411 }
/-- [B -/
def k6 : Class := { plain "[B" (some 0) with kind := .array 5 .byte, interfaces := #[3, 4], accessFlags := 1041 }

/-- the primitive int -/
def k7 : Class := { plain "int" none with kind := .primitive 'I', accessFlags := 0x411 }
/-- [I -/
def k8 : Class := { plain "[I" (some 0) with kind := .array 7 .int, interfaces := #[3, 4], accessFlags := 1041 }

def heap : Heap := #[]
def classes : Array Class := #[k0, k1, k2, k3, k4, k5, k6, k7, k8]
def interned : List (Array UInt16 × Addr) := []
def slotsUsed : Nat := 0
def theMethod : MethodId := ⟨1, 5⟩
def args0 : Array Value := #[.int 5, .int 6, .int 7, .int 8, .int 1]
def aboutOver (below : List Frame) : State where
  vm := { classes := classes, interned := interned.toArray }
  heap := heap
  slotsUsed := slotsUsed
  threads := #[{ frames := .invoking theMethod args0 :: below }]
def below0 : List Frame := [.native { method := ⟨0, 0⟩, args := #[] }]
def about1 : State := aboutOver below0
def p0 : Program := .bare "" "" ""
def e0 : Env := launch0.env 0 0 0
theorem w_frames : about1.frames = Frame.invoking theMethod args0 :: below0 := rfl
set_option maxRecDepth 65536 in
theorem w_args : argsFit about1.vm theMethod args0 = true := by decide +kernel
set_option maxRecDepth 65536 in
theorem w_heap : heapFits about1 = true := by decide +kernel
set_option maxRecDepth 65536 in
theorem w_runnable : about1.curStatus? = some .runnable := by decide +kernel
set_option maxRecDepth 65536 in
theorem w_alone : about1.alone = true := by decide +kernel
set_option maxRecDepth 65536 in
theorem w_named : about1.methodNamed? x = some theMethod := by decide +kernel
set_option maxRecDepth 65536 in
theorem w_hears : about1.hears theMethod below0 = true := by decide +kernel
set_option maxRecDepth 65536 in
theorem w_ripe : about1.ripe theMethod args0 below0 = true := by decide +kernel
theorem w_running : about1.status = .running := rfl
set_option maxRecDepth 65536 in
theorem w_room : about1.hasRoom e0.platform room_1 = true :=
  launch0.hasRoom_least _ room_1 (by decide +kernel) (by decide +kernel) (by decide +kernel) (by decide +kernel) (by decide +kernel) (by decide +kernel)
theorem allAtoms_all (ts : List Jvm.Cond) (a : Array Jvm.Value) (st : Jvm.State) : (allAtoms ts).before a st = ts.all (fun c => c.before a st) := by
  induction ts with
  | nil => rfl
  | cons c t ih =>
    show (Jvm.Cond.and c (allAtoms t)).before a st = _
    rw [Jvm.Cond.before_and, ih, List.all_cons]
def words1 : List Jvm.Cond := Jvm.Cond.code x code maxLocals ret :: tables_1
/-- a 'code' word, met by the world's own term for the bytes: nothing is compared byte by byte -/
theorem code_word {y : MethodName} {bytes : ByteArray} {mx : Nat} {rt : Option FieldType} {a : Array Value} {s : State} {m : MethodId} {meth : Method} {c : Code} (h1 : s.methodNamed? y = some m) (h2 : s.vm.method? m = some meth) (h3 : meth.code = some c) (h4 : c.code = bytes)
    (h5 : (c.maxLocals == mx && c.exceptionTable.isEmpty && decide (c.maxStack ≤ mostOperands) && decide (meth.sig.returnType = rt) && !meth.locks && decide (parseMethodDescriptor y.desc = some meth.sig)) = true) : (Jvm.Cond.code y bytes mx rt).before a s = true := by
  simp only [Bool.and_eq_true, beq_iff_eq, Bool.not_eq_true', decide_eq_true_eq] at h5
  obtain ⟨⟨⟨⟨⟨g1, g2⟩, g3⟩, g4⟩, g5⟩, g6⟩ := h5
  simp [Cond.before, Cond.holds, Cond.value, h1, h2, h3, h4, g1, g2, g3, g4, g5, g6]
def isCode : Jvm.Cond → Bool
  | .code _ _ _ _ => true
  | _ => false
theorem all_split {L : List Jvm.Cond} {P : Jvm.Cond → Bool} (h1 : L.all (fun c => isCode c || P c) = true) (h2 : ∀ c ∈ L.filter isCode, P c = true) : L.all P = true := by
  refine List.all_eq_true.mpr fun c hc => ?_
  have h := List.all_eq_true.mp h1 c hc
  rcases Bool.eq_false_or_eq_true (isCode c) with hi | hi
  · exact h2 c (List.mem_filter.mpr ⟨hc, hi⟩)
  · simpa [hi] using h
set_option maxRecDepth 65536 in
theorem w_c0 : (Jvm.Cond.code x code maxLocals ret).before args0 about1 = true := code_word (m := ⟨1, 5⟩) (meth := k1m5) (c := k1c5) (by decide +kernel) rfl rfl rfl (by decide +kernel)
set_option maxRecDepth 65536 in
theorem w_c1 : (Jvm.Cond.code ({ cls := "shortleaf/CanonicalCodeOrderPinLaw", name := "cnt", desc := "([II)I" } : Jvm.MethodName) method_3_code (2 : Nat) (Option.some Jvm.ClassFile.FieldType.int)).before args0 about1 = true := code_word (m := ⟨1, 2⟩) (meth := k1m2) (c := k1c2) (by decide +kernel) rfl rfl rfl (by decide +kernel)
set_option maxRecDepth 65536 in
theorem w_c2 : (Jvm.Cond.code ({ cls := "shortleaf/CanonicalCodeOrderPinLaw", name := "eq", desc := "(II)I" } : Jvm.MethodName) method_2_code (2 : Nat) (Option.some Jvm.ClassFile.FieldType.int)).before args0 about1 = true := code_word (m := ⟨1, 1⟩) (meth := k1m1) (c := k1c1) (by decide +kernel) rfl rfl rfl (by decide +kernel)
set_option maxRecDepth 65536 in
theorem w_c3 : (Jvm.Cond.code ({ cls := "shortleaf/CanonicalCode", name := "order", desc := "([I[I)[I" } : Jvm.MethodName) prog_8_method_3_code (6 : Nat) (Option.some (Jvm.ClassFile.FieldType.array Jvm.ClassFile.FieldType.int))).before args0 about1 = true := code_word (m := ⟨2, 0⟩) (meth := k2m0) (c := k2c0) (by decide +kernel) rfl rfl rfl (by decide +kernel)
set_option maxRecDepth 65536 in
theorem w_c4 : (Jvm.Cond.code ({ cls := "shortleaf/CanonicalCodeOrderPinLaw", name := "rank", desc := "([II)I" } : Jvm.MethodName) method_5_code (2 : Nat) (Option.some Jvm.ClassFile.FieldType.int)).before args0 about1 = true := code_word (m := ⟨1, 4⟩) (meth := k1m4) (c := k1c4) (by decide +kernel) rfl rfl rfl (by decide +kernel)
set_option maxRecDepth 65536 in
theorem w_c5 : (Jvm.Cond.code ({ cls := "shortleaf/CanonicalCodeOrderPinLaw", name := "before", desc := "([III)I" } : Jvm.MethodName) method_4_code (3 : Nat) (Option.some Jvm.ClassFile.FieldType.int)).before args0 about1 = true := code_word (m := ⟨1, 3⟩) (meth := k1m3) (c := k1c3) (by decide +kernel) rfl rfl rfl (by decide +kernel)
def codes1 : List Jvm.Cond := [Jvm.Cond.code x code maxLocals ret, Jvm.Cond.code ({ cls := "shortleaf/CanonicalCodeOrderPinLaw", name := "cnt", desc := "([II)I" } : Jvm.MethodName) method_3_code (2 : Nat) (Option.some Jvm.ClassFile.FieldType.int), Jvm.Cond.code ({ cls := "shortleaf/CanonicalCodeOrderPinLaw", name := "eq", desc := "(II)I" } : Jvm.MethodName) method_2_code (2 : Nat) (Option.some Jvm.ClassFile.FieldType.int), Jvm.Cond.code ({ cls := "shortleaf/CanonicalCode", name := "order", desc := "([I[I)[I" } : Jvm.MethodName) prog_8_method_3_code (6 : Nat) (Option.some (Jvm.ClassFile.FieldType.array Jvm.ClassFile.FieldType.int)), Jvm.Cond.code ({ cls := "shortleaf/CanonicalCodeOrderPinLaw", name := "rank", desc := "([II)I" } : Jvm.MethodName) method_5_code (2 : Nat) (Option.some Jvm.ClassFile.FieldType.int), Jvm.Cond.code ({ cls := "shortleaf/CanonicalCodeOrderPinLaw", name := "before", desc := "([III)I" } : Jvm.MethodName) method_4_code (3 : Nat) (Option.some Jvm.ClassFile.FieldType.int)]
set_option maxRecDepth 65536 in
theorem codes_eq : words1.filter isCode = codes1 := rfl
theorem w_codes : ∀ c ∈ words1.filter isCode, c.before args0 about1 = true := by
  rw [codes_eq]
  intro c hc
  simp only [codes1, List.mem_cons, List.not_mem_nil, or_false] at hc
  rcases hc with rfl | rfl | rfl | rfl | rfl | rfl
  · exact w_c0
  · exact w_c1
  · exact w_c2
  · exact w_c3
  · exact w_c4
  · exact w_c5
set_option maxRecDepth 65536 in
theorem w_t1 : words1.all (fun c => isCode c || c.before args0 about1) = true := by decide +kernel
theorem w_tables : (allAtoms (Jvm.Cond.code x code maxLocals ret :: tables_1)).before args0 about1 = true := by
  rw [allAtoms_all]
  show words1.all (fun c => c.before args0 about1) = true
  refine all_split ?_ w_codes
  rw [w_t1]
set_option maxRecDepth 65536 in
theorem w_case : (Jvm.Cond.and given_1 narrow_1).before args0 about1 = true := by decide +kernel
theorem w_applies : (headSpec (Jvm.Cond.code x code maxLocals ret :: tables_1) room_1).applies x e0.platform about1 = true :=
  (Spec.applies_iff w_frames).mpr ⟨w_running, w_runnable, w_alone, w_named, w_hears, w_ripe, w_room, w_tables⟩
theorem atStart : AtStart classFile x code maxLocals ret World_1 tables_1 room_1 Calls_1 rest_1 Pre_1 launch0 p0 e0 about1 theMethod args0 below0 :=
  ⟨lists_1, trivial, launch0.admits_env _ _ _, launch0.least_env, fairChoices_fair.cas, fairChoices_fair.clock, w_frames, w_args, w_heap, w_applies, trivial, trivial, w_case⟩
end start1
theorem witness_1 : WitnessClaimed_1 := ⟨start1.p0, start1.e0, start1.about1, start1.theMethod, start1.args0, start1.below0, start1.atStart⟩
end Jvm.Pilot.@@N@@
