import JvmDerived
import JvmDerived.Pilot.@@N@@Statement
import JvmDerived.Pilot.@@N@@Code
set_option linter.unusedVariables false
set_option linter.unusedSimpArgs false
namespace Jvm.Own
open Sem ClassFile Op Lib Jvm.Stand Jvm.Free Jvm.LawKit Jvm.RoadKit
/-! ### what is left to walk, and one law a step -/
def Go (p : Program) (e : Env) (below : List Frame) (P : Outcome → State → Prop) (S : State) : Prop :=
  ∃ s₂ o, Steps p.tables e below S s₂ ∧ s₂.status = .running ∧ Ended s₂ below o ∧ P o s₂
def Fini (s : State) (Q : Option Value → Heap → List Loc → Prop) (k n : Nat) (o : Outcome) (U : State) : Prop :=
  ∃ v L, o = .returned v ∧ Q v U.heap L ∧ FrameEnd s o U L k n
def Ct (l : Launch) (y : MethodName) (bytes : ByteArray) (maxL : Nat) (ret : Option FieldType) (ws : List Jvm.Cond) (rm : Room) (Z : State) (as : Array Value) (h : Heap) (Q : Option Value → Heap → List Loc → Prop) : Prop :=
  MetFree l y (head1 (Jvm.Cond.code y bytes maxL ret :: ws) rm) (fun a U => a = as ∧ Z.Warmed39 U.vm ∧ U.heap = h) (fun _ _ _ _ _ => True) (fun _ U o U' => ∃ v L, o = .returned v ∧ Q v U'.heap L ∧ FrameEnd U o U' L rm.cells rm.slots)
section Walk
variable {p : Program} {l : Launch} {e : Env} {R : Room} {s : State} {m : MethodId} {args : Array Value} {below : List Frame} {meth : Method} {c : Code} {T : State} {locs : List Loc} {cells slots : Nat} {P : Outcome → State → Prop} {Z : State} {a0 : Array Value} {h : Heap}
variable {pc : Nat} {L : Array Slot} {rest st : List Value}
theorem Go.via {A B : State} (q : ∀ t, Steps p.tables e below B t → Steps p.tables e below A t) (k : Go p e below P B) : Go p e below P A := by
  obtain ⟨s2, o, h1, h2⟩ := k
  exact ⟨s2, o, q _ h1, h2⟩
theorem Go.tr {A B : State} (q : Steps p.tables e below A B) (k : Go p e below P B) : Go p e below P A := Go.via (fun _ r => q.trans r) k
theorem enter {y : MethodName} {bytes : ByteArray} {maxL : Nat} {ret : Option FieldType} {ws : List Jvm.Cond} {rm : Room} {as : Array Value} {Q : Option Value → Heap → List Loc → Prop} (hy : plainFor y = true)
    (body : ∀ p e s m below meth c s₁, p.tables.exec = Jvm.exec → c.code = bytes → c.maxLocals = maxL → s.vm.findClass y.cls = some m.cls → meth.name = y.name → meth.sig.returnType = ret → meth.locks = false → Z.Warmed39 s.vm →
      Stand p l e rm s m as below meth c s₁ [] 0 0 → s₁.heap = h → Go p e below (Fini s Q rm.cells rm.slots) (s₁.setTop (entryFrame m as maxL))) : Ct l y bytes maxL ret ws rm Z as h Q := by
  refine MetFree.of_bodySF hy hisR ?_
  intro p e s m args below meth c s₁ Bd hml hP hK
  obtain ⟨rfl, hZ, hh⟩ := hP
  exact body p e s m below meth c s₁ Bd.exec Bd.bytes hml (findClass_of_methodNamed Bd.named) (name_of_methodNamed Bd.named Bd.method).1 Bd.returns Bd.notSynchronized hZ (Stand.of_body Bd) (by rw [← hh, Bd.state]; rfl)
theorem start {g g' : JFrame} (q : g = g') (k : Go p e below P (T.setTop g')) : Go p e below P (T.setTop g) := q ▸ k
theorem induct {α : Type} (S : α → State) (I : Nat → α → Prop) (base : ∀ a, I 0 a → Go p e below P (S a)) (step : ∀ k a, I (k + 1) a → (∀ a', I k a' → Go p e below P (S a')) → Go p e below P (S a)) {n : Nat} {a : α} (w : I n a) : Go p e below P (S a) := by
  induction n generalizing a with
  | zero => exact base a w
  | succ k ih => exact step k a w (fun a' w' => ih w')
/-! plain steps -/
theorem aloadN (X : Stand p l e R s m args below meth c T locs cells slots) (hx : p.tables.exec = Jvm.exec) {i : Fin 4} {v : Value} (hd : decode c.code pc = .ok (.aload_n i, 1)) (hl : L[i.val]? = some (.val v)) (hv : v.isRef = true) (k : Go p e below P (T.setTop (mkF m (pc + 1) L (v :: st)))) : Go p e below P (T.setTop (mkF m pc L st)) := Go.via (fun _ q => XS.aloadN X.here hx rfl hd hl hv q) k
theorem aload (X : Stand p l e R s m args below meth c T locs cells slots) (hx : p.tables.exec = Jvm.exec) {i : Nat} {v : Value} (hd : decode c.code pc = .ok (.aload i, 2)) (hl : L[i]? = some (.val v)) (hv : v.isRef = true) (k : Go p e below P (T.setTop (mkF m (pc + 2) L (v :: st)))) : Go p e below P (T.setTop (mkF m pc L st)) := Go.via (fun _ q => XS.aload X.here hx rfl hd hl hv q) k
theorem iloadN (X : Stand p l e R s m args below meth c T locs cells slots) (hx : p.tables.exec = Jvm.exec) {i : Fin 4} {v : Int32} (hd : decode c.code pc = .ok (.iload_n i, 1)) (hl : L[i.val]? = some (.val (.int v))) (k : Go p e below P (T.setTop (mkF m (pc + 1) L (.int v :: st)))) : Go p e below P (T.setTop (mkF m pc L st)) := Go.via (fun _ q => XS.iloadN X.here hx rfl hd hl q) k
theorem iload (X : Stand p l e R s m args below meth c T locs cells slots) (hx : p.tables.exec = Jvm.exec) {i : Nat} {v : Int32} (hd : decode c.code pc = .ok (.iload i, 2)) (hl : L[i]? = some (.val (.int v))) (k : Go p e below P (T.setTop (mkF m (pc + 2) L (.int v :: st)))) : Go p e below P (T.setTop (mkF m pc L st)) := Go.via (fun _ q => XS.iload X.here hx rfl hd hl q) k
theorem lloadN (X : Stand p l e R s m args below meth c T locs cells slots) (hx : p.tables.exec = Jvm.exec) {i : Fin 4} {v : Int64} (hd : decode c.code pc = .ok (.lload_n i, 1)) (hl : L[i.val]? = some (.val (.long v))) (k : Go p e below P (T.setTop (mkF m (pc + 1) L (.long v :: st)))) : Go p e below P (T.setTop (mkF m pc L st)) := Go.via (fun _ q => XT.lloadN X.here hx rfl hd hl q) k
theorem lload (X : Stand p l e R s m args below meth c T locs cells slots) (hx : p.tables.exec = Jvm.exec) {i : Nat} {v : Int64} (hd : decode c.code pc = .ok (.lload i, 2)) (hl : L[i]? = some (.val (.long v))) (k : Go p e below P (T.setTop (mkF m (pc + 2) L (.long v :: st)))) : Go p e below P (T.setTop (mkF m pc L st)) := Go.via (fun _ q => XT.lload X.here hx rfl hd hl q) k
theorem istoreN (X : Stand p l e R s m args below meth c T locs cells slots) (hx : p.tables.exec = Jvm.exec) {i : Fin 4} {v : Int32} (L' : Array Slot) (hd : decode c.code pc = .ok (.istore_n i, 1)) (hl : storeLocals L i.val (.int v) = some L') (k : Go p e below P (T.setTop (mkF m (pc + 1) L' st))) : Go p e below P (T.setTop (mkF m pc L (.int v :: st))) := Go.via (fun _ q => XS.istoreN X.here hx rfl hd rfl hl q) k
theorem istore (X : Stand p l e R s m args below meth c T locs cells slots) (hx : p.tables.exec = Jvm.exec) {i : Nat} {v : Int32} (L' : Array Slot) (hd : decode c.code pc = .ok (.istore i, 2)) (hl : storeLocals L i (.int v) = some L') (k : Go p e below P (T.setTop (mkF m (pc + 2) L' st))) : Go p e below P (T.setTop (mkF m pc L (.int v :: st))) := Go.via (fun _ q => XS.istore X.here hx rfl hd rfl hl q) k
theorem lstoreN (X : Stand p l e R s m args below meth c T locs cells slots) (hx : p.tables.exec = Jvm.exec) {i : Fin 4} {v : Int64} (L' : Array Slot) (hd : decode c.code pc = .ok (.lstore_n i, 1)) (hl : storeLocals L i.val (.long v) = some L') (k : Go p e below P (T.setTop (mkF m (pc + 1) L' st))) : Go p e below P (T.setTop (mkF m pc L (.long v :: st))) := Go.via (fun _ q => XT.lstoreN X.here hx rfl hd rfl hl q) k
theorem lstore (X : Stand p l e R s m args below meth c T locs cells slots) (hx : p.tables.exec = Jvm.exec) {i : Nat} {v : Int64} (L' : Array Slot) (hd : decode c.code pc = .ok (.lstore i, 2)) (hl : storeLocals L i (.long v) = some L') (k : Go p e below P (T.setTop (mkF m (pc + 2) L' st))) : Go p e below P (T.setTop (mkF m pc L (.long v :: st))) := Go.via (fun _ q => XT.lstore X.here hx rfl hd rfl hl q) k
theorem astoreN (X : Stand p l e R s m args below meth c T locs cells slots) (hx : p.tables.exec = Jvm.exec) {i : Fin 4} {v : Value} (L' : Array Slot) (hd : decode c.code pc = .ok (.astore_n i, 1)) (hv : v.isRef = true) (hl : storeLocals L i.val v = some L') (k : Go p e below P (T.setTop (mkF m (pc + 1) L' st))) : Go p e below P (T.setTop (mkF m pc L (v :: st))) := Go.via (fun _ q => XS.astoreN X.here hx rfl hd rfl hv hl q) k
theorem astore (X : Stand p l e R s m args below meth c T locs cells slots) (hx : p.tables.exec = Jvm.exec) {i : Nat} {v : Value} (L' : Array Slot) (hd : decode c.code pc = .ok (.astore i, 2)) (hv : v.isRef = true) (hl : storeLocals L i v = some L') (k : Go p e below P (T.setTop (mkF m (pc + 2) L' st))) : Go p e below P (T.setTop (mkF m pc L (v :: st))) := Go.via (fun _ q => XS.astore X.here hx rfl hd rfl hv hl q) k
theorem iconst (X : Stand p l e R s m args below meth c T locs cells slots) (hx : p.tables.exec = Jvm.exec) {i : Int} (v : Int32) (hd : decode c.code pc = .ok (.iconst i, 1)) (hv : Int32.ofInt i = v) (k : Go p e below P (T.setTop (mkF m (pc + 1) L (.int v :: st)))) : Go p e below P (T.setTop (mkF m pc L st)) := Go.via (fun _ q => XS.iconst X.here hx rfl hd (hv ▸ q)) k
theorem bipush (X : Stand p l e R s m args below meth c T locs cells slots) (hx : p.tables.exec = Jvm.exec) {i : Int} (v : Int32) (hd : decode c.code pc = .ok (.bipush i, 2)) (hv : (Int8.ofInt i).toInt32 = v) (k : Go p e below P (T.setTop (mkF m (pc + 2) L (.int v :: st)))) : Go p e below P (T.setTop (mkF m pc L st)) := Go.via (fun _ q => XS.bipush X.here hx rfl hd (hv ▸ q)) k
theorem sipush (X : Stand p l e R s m args below meth c T locs cells slots) (hx : p.tables.exec = Jvm.exec) {i : Int} (v : Int32) (hd : decode c.code pc = .ok (.sipush i, 3)) (hv : (Int16.ofInt i).toInt32 = v) (k : Go p e below P (T.setTop (mkF m (pc + 3) L (.int v :: st)))) : Go p e below P (T.setTop (mkF m pc L st)) := Go.via (fun _ q => XS.sipush X.here hx rfl hd (hv ▸ q)) k
theorem lconst (X : Stand p l e R s m args below meth c T locs cells slots) (hx : p.tables.exec = Jvm.exec) {i : Fin 2} (v : Int64) (hd : decode c.code pc = .ok (.lconst i, 1)) (hv : Int64.ofNat i = v) (k : Go p e below P (T.setTop (mkF m (pc + 1) L (.long v :: st)))) : Go p e below P (T.setTop (mkF m pc L st)) := Go.via (fun _ q => XT.lconst X.here hx rfl hd (hv ▸ q)) k
theorem aconstNull (X : Stand p l e R s m args below meth c T locs cells slots) (hx : p.tables.exec = Jvm.exec) (hd : decode c.code pc = .ok (.aconst_null, 1)) (k : Go p e below P (T.setTop (mkF m (pc + 1) L (.null :: st)))) : Go p e below P (T.setTop (mkF m pc L st)) := Go.via (fun _ q => XS.aconstNull X.here hx rfl hd q) k
theorem ldcI (X : Stand p l e R s m args below meth c T locs cells slots) (hx : p.tables.exec = Jvm.exec) (hZ : Z.Warmed39 s.vm) {own : String} {i : Nat} {v : Int32} (hown : s.vm.findClass own = some m.cls) (w : (Cond.constant own i v).before a0 Z = true) (hd : decode c.code pc = .ok (.ldc i, 2)) (k : Go p e below P (T.setTop (mkF m (pc + 2) L (.int v :: st)))) : Go p e below P (T.setTop (mkF m pc L st)) := Go.via (fun _ q => X.ldcI hx hown (mvT hZ w) rfl hd q) k
theorem ldcWI (X : Stand p l e R s m args below meth c T locs cells slots) (hx : p.tables.exec = Jvm.exec) (hZ : Z.Warmed39 s.vm) {own : String} {i : Nat} {v : Int32} (hown : s.vm.findClass own = some m.cls) (w : (Cond.constant own i v).before a0 Z = true) (hd : decode c.code pc = .ok (.ldc_w i, 3)) (k : Go p e below P (T.setTop (mkF m (pc + 3) L (.int v :: st)))) : Go p e below P (T.setTop (mkF m pc L st)) := Go.via (fun _ q => X.ldcWI hx hown (mvT hZ w) rfl hd q) k
theorem ldc2J (X : Stand p l e R s m args below meth c T locs cells slots) (hx : p.tables.exec = Jvm.exec) (hZ : Z.Warmed39 s.vm) {own : String} {i : Nat} {v : Int64} (hown : s.vm.findClass own = some m.cls) (w : (Cond.constantLong own i v).before a0 Z = true) (hd : decode c.code pc = .ok (.ldc2_w i, 3)) (k : Go p e below P (T.setTop (mkF m (pc + 3) L (.long v :: st)))) : Go p e below P (T.setTop (mkF m pc L st)) := Go.via (fun _ q => X.ldc2J hx hown (mvT hZ w) rfl hd q) k
theorem iinc (X : Stand p l e R s m args below meth c T locs cells slots) (hx : p.tables.exec = Jvm.exec) {i : Nat} {d : Int} {x : Int32} (v : Int32) (L' : Array Slot) (hd : decode c.code pc = .ok (.iinc i d, 3)) (hv : Int32.ofInt d = v) (hl : L[i]? = some (.val (.int x))) (hl' : storeLocals L i (.int (x + v)) = some L') (k : Go p e below P (T.setTop (mkF m (pc + 3) L' st))) : Go p e below P (T.setTop (mkF m pc L st)) := Go.via (fun _ q => XS.iinc X.here hx rfl hd hl (hv ▸ hl') q) k
theorem goto (X : Stand p l e R s m args below meth c T locs cells slots) (hx : p.tables.exec = Jvm.exec) {o : Int} (pc' : Nat) (hd : decode c.code pc = .ok (.goto o, 3)) (ho : 0 ≤ (pc : Int) + o) (hp : ((pc : Int) + o).toNat = pc') (k : Go p e below P (T.setTop (mkF m pc' L st))) : Go p e below P (T.setTop (mkF m pc L st)) := Go.via (fun _ q => XS.goto X.here hx rfl rfl hd ho hp q) k
theorem ifYes (X : Stand p l e R s m args below meth c T locs cells slots) (hx : p.tables.exec = Jvm.exec) {cd : ClassFile.Cond} {x : Int32} {o : Int} (pc' : Nat) (hd : decode c.code pc = .ok (.ifCond cd o, 3)) (hc : ifCond.holds cd x = true) (ho : 0 ≤ (pc : Int) + o) (hp : ((pc : Int) + o).toNat = pc') (k : Go p e below P (T.setTop (mkF m pc' L st))) : Go p e below P (T.setTop (mkF m pc L (.int x :: st))) := Go.via (fun _ q => XS.ifYes X.here hx rfl rfl hd rfl hc ho hp q) k
theorem ifNo (X : Stand p l e R s m args below meth c T locs cells slots) (hx : p.tables.exec = Jvm.exec) {cd : ClassFile.Cond} {x : Int32} {o : Int} (hd : decode c.code pc = .ok (.ifCond cd o, 3)) (hc : ifCond.holds cd x = false) (k : Go p e below P (T.setTop (mkF m (pc + 3) L st))) : Go p e below P (T.setTop (mkF m pc L (.int x :: st))) := Go.via (fun _ q => XS.ifNo X.here hx rfl hd rfl hc q) k
theorem icmpYes (X : Stand p l e R s m args below meth c T locs cells slots) (hx : p.tables.exec = Jvm.exec) {cd : ClassFile.Cond} {x y : Int32} {o : Int} (pc' : Nat) (hd : decode c.code pc = .ok (.if_icmp cd o, 3)) (hc : if_icmp.holds cd x y = true) (ho : 0 ≤ (pc : Int) + o) (hp : ((pc : Int) + o).toNat = pc') (k : Go p e below P (T.setTop (mkF m pc' L st))) : Go p e below P (T.setTop (mkF m pc L (.int y :: .int x :: st))) := Go.via (fun _ q => XS.icmpYes X.here hx rfl rfl hd rfl hc ho hp q) k
theorem icmpNo (X : Stand p l e R s m args below meth c T locs cells slots) (hx : p.tables.exec = Jvm.exec) {cd : ClassFile.Cond} {x y : Int32} {o : Int} (hd : decode c.code pc = .ok (.if_icmp cd o, 3)) (hc : if_icmp.holds cd x y = false) (k : Go p e below P (T.setTop (mkF m (pc + 3) L st))) : Go p e below P (T.setTop (mkF m pc L (.int y :: .int x :: st))) := Go.via (fun _ q => XS.icmpNo X.here hx rfl hd rfl hc q) k
theorem ifnullYes (X : Stand p l e R s m args below meth c T locs cells slots) (hx : p.tables.exec = Jvm.exec) {o : Int} (pc' : Nat) (hd : decode c.code pc = .ok (.ifnull o, 3)) (ho : 0 ≤ (pc : Int) + o) (hp : ((pc : Int) + o).toNat = pc') (k : Go p e below P (T.setTop (mkF m pc' L st))) : Go p e below P (T.setTop (mkF m pc L (.null :: st))) := Go.via (fun _ q => XS.ifnullYes X.here hx rfl rfl hd rfl ho hp q) k
theorem ifnullNo (X : Stand p l e R s m args below meth c T locs cells slots) (hx : p.tables.exec = Jvm.exec) {o : Int} {b : Addr} (hd : decode c.code pc = .ok (.ifnull o, 3)) (k : Go p e below P (T.setTop (mkF m (pc + 3) L st))) : Go p e below P (T.setTop (mkF m pc L (.ref b :: st))) := Go.via (fun _ q => XS.ifnullNo X.here hx rfl hd rfl q) k
theorem ifnonnullYes (X : Stand p l e R s m args below meth c T locs cells slots) (hx : p.tables.exec = Jvm.exec) {o : Int} {b : Addr} (pc' : Nat) (hd : decode c.code pc = .ok (.ifnonnull o, 3)) (ho : 0 ≤ (pc : Int) + o) (hp : ((pc : Int) + o).toNat = pc') (k : Go p e below P (T.setTop (mkF m pc' L st))) : Go p e below P (T.setTop (mkF m pc L (.ref b :: st))) := Go.via (fun _ q => XT.ifnonnullYes X.here hx rfl rfl hd rfl ho hp q) k
theorem ifnonnullNo (X : Stand p l e R s m args below meth c T locs cells slots) (hx : p.tables.exec = Jvm.exec) {o : Int} (hd : decode c.code pc = .ok (.ifnonnull o, 3)) (k : Go p e below P (T.setTop (mkF m (pc + 3) L st))) : Go p e below P (T.setTop (mkF m pc L (.null :: st))) := Go.via (fun _ q => XT.ifnonnullNo X.here hx rfl hd rfl q) k
theorem dup (X : Stand p l e R s m args below meth c T locs cells slots) (hx : p.tables.exec = Jvm.exec) {v : Value} (hd : decode c.code pc = .ok (.dup, 1)) (hc : v.category = 1) (k : Go p e below P (T.setTop (mkF m (pc + 1) L (v :: v :: st)))) : Go p e below P (T.setTop (mkF m pc L (v :: st))) := Go.via (fun _ q => XS.dup X.here hx rfl hd rfl hc q) k
theorem dup2 (X : Stand p l e R s m args below meth c T locs cells slots) (hx : p.tables.exec = Jvm.exec) {v w : Value} (hd : decode c.code pc = .ok (.dup2, 1)) (hc : v.category = 1) (hc' : w.category = 1) (k : Go p e below P (T.setTop (mkF m (pc + 1) L (v :: w :: v :: w :: st)))) : Go p e below P (T.setTop (mkF m pc L (v :: w :: st))) := Go.via (fun _ q => XT.dup2 X.here hx rfl hd rfl hc hc' q) k
theorem dup2L (X : Stand p l e R s m args below meth c T locs cells slots) (hx : p.tables.exec = Jvm.exec) {v : Int64} (hd : decode c.code pc = .ok (.dup2, 1)) (k : Go p e below P (T.setTop (mkF m (pc + 1) L (.long v :: .long v :: st)))) : Go p e below P (T.setTop (mkF m pc L (.long v :: st))) := Go.via (fun _ q => XT.dup2L X.here hx rfl hd rfl q) k
theorem dupX1 (X : Stand p l e R s m args below meth c T locs cells slots) (hx : p.tables.exec = Jvm.exec) {v w : Value} (hd : decode c.code pc = .ok (.dup_x1, 1)) (hc : v.category = 1) (hc' : w.category = 1) (k : Go p e below P (T.setTop (mkF m (pc + 1) L (v :: w :: v :: st)))) : Go p e below P (T.setTop (mkF m pc L (v :: w :: st))) := Go.via (fun _ q => XT.dupX1 X.here hx rfl hd rfl hc hc' q) k
theorem pop (X : Stand p l e R s m args below meth c T locs cells slots) (hx : p.tables.exec = Jvm.exec) {v : Value} (hd : decode c.code pc = .ok (.pop, 1)) (hc : v.category = 1) (k : Go p e below P (T.setTop (mkF m (pc + 1) L st))) : Go p e below P (T.setTop (mkF m pc L (v :: st))) := Go.via (fun _ q => XT.pop X.here hx rfl hd rfl hc q) k
theorem xdupX2 {e : Env} {below : List Frame} {T target : State} {m : MethodId} {c : Code} {g : JFrame} (h : At T m c below) (hx : p.tables.exec = Jvm.exec) (hg : g.method = m) {x y z : Value} {rest : List Value} (hd : decode c.code g.pc = .ok (.dup_x2, 1)) (hs : g.stack = x :: y :: z :: rest) (hc : x.category = 1) (hc' : y.category = 1) (hc2 : z.category = 1)
    (hr : Steps p.tables e below (T.setTop { g with pc := g.pc + 1, stack := x :: y :: z :: x :: rest }) target) : Steps p.tables e below (T.setTop g) target := by
  subst hg
  jvm_step h [h.top, hx, hd, hs, hc, hc', hc2]
  exact hr
theorem dupX2 (X : Stand p l e R s m args below meth c T locs cells slots) (hx : p.tables.exec = Jvm.exec) {v w u : Value} (hd : decode c.code pc = .ok (.dup_x2, 1)) (hc : v.category = 1) (hc' : w.category = 1) (hc2 : u.category = 1) (k : Go p e below P (T.setTop (mkF m (pc + 1) L (v :: w :: u :: v :: st)))) : Go p e below P (T.setTop (mkF m pc L (v :: w :: u :: st))) := Go.via (fun _ q => xdupX2 X.here hx rfl hd rfl hc hc' hc2 q) k
theorem xdup2X2 {e : Env} {below : List Frame} {T target : State} {m : MethodId} {c : Code} {g : JFrame} (h : At T m c below) (hx : p.tables.exec = Jvm.exec) (hg : g.method = m) {x : Int64} {y z : Value} {rest : List Value} (hd : decode c.code g.pc = .ok (.dup2_x2, 1)) (hs : g.stack = .long x :: y :: z :: rest) (hc' : y.category = 1) (hc2 : z.category = 1)
    (hr : Steps p.tables e below (T.setTop { g with pc := g.pc + 1, stack := .long x :: y :: z :: .long x :: rest }) target) : Steps p.tables e below (T.setTop g) target := by
  subst hg
  jvm_step h [h.top, hx, hd, hs, hc', hc2]
  exact hr
theorem dup2X2 (X : Stand p l e R s m args below meth c T locs cells slots) (hx : p.tables.exec = Jvm.exec) {v : Int64} {w u : Value} (hd : decode c.code pc = .ok (.dup2_x2, 1)) (hc' : w.category = 1) (hc2 : u.category = 1) (k : Go p e below P (T.setTop (mkF m (pc + 1) L (.long v :: w :: u :: .long v :: st)))) : Go p e below P (T.setTop (mkF m pc L (.long v :: w :: u :: st))) := Go.via (fun _ q => xdup2X2 X.here hx rfl hd rfl hc' hc2 q) k
theorem iadd (X : Stand p l e R s m args below meth c T locs cells slots) (hx : p.tables.exec = Jvm.exec) {x y : Int32} (hd : decode c.code pc = .ok (.iadd, 1)) (k : Go p e below P (T.setTop (mkF m (pc + 1) L (.int (x + y) :: st)))) : Go p e below P (T.setTop (mkF m pc L (.int y :: .int x :: st))) := Go.via (fun _ q => XS.iadd X.here hx rfl hd rfl q) k
theorem isub (X : Stand p l e R s m args below meth c T locs cells slots) (hx : p.tables.exec = Jvm.exec) {x y : Int32} (hd : decode c.code pc = .ok (.isub, 1)) (k : Go p e below P (T.setTop (mkF m (pc + 1) L (.int (x - y) :: st)))) : Go p e below P (T.setTop (mkF m pc L (.int y :: .int x :: st))) := Go.via (fun _ q => XS.isub X.here hx rfl hd rfl q) k
theorem imul (X : Stand p l e R s m args below meth c T locs cells slots) (hx : p.tables.exec = Jvm.exec) {x y : Int32} (hd : decode c.code pc = .ok (.imul, 1)) (k : Go p e below P (T.setTop (mkF m (pc + 1) L (.int (x * y) :: st)))) : Go p e below P (T.setTop (mkF m pc L (.int y :: .int x :: st))) := Go.via (fun _ q => XS.imul X.here hx rfl hd rfl q) k
theorem iand (X : Stand p l e R s m args below meth c T locs cells slots) (hx : p.tables.exec = Jvm.exec) {x y : Int32} (hd : decode c.code pc = .ok (.iand, 1)) (k : Go p e below P (T.setTop (mkF m (pc + 1) L (.int (x &&& y) :: st)))) : Go p e below P (T.setTop (mkF m pc L (.int y :: .int x :: st))) := Go.via (fun _ q => XS.iand X.here hx rfl hd rfl q) k
theorem ior (X : Stand p l e R s m args below meth c T locs cells slots) (hx : p.tables.exec = Jvm.exec) {x y : Int32} (hd : decode c.code pc = .ok (.ior, 1)) (k : Go p e below P (T.setTop (mkF m (pc + 1) L (.int (x ||| y) :: st)))) : Go p e below P (T.setTop (mkF m pc L (.int y :: .int x :: st))) := Go.via (fun _ q => XT.ior X.here hx rfl hd rfl q) k
theorem ixor (X : Stand p l e R s m args below meth c T locs cells slots) (hx : p.tables.exec = Jvm.exec) {x y : Int32} (hd : decode c.code pc = .ok (.ixor, 1)) (k : Go p e below P (T.setTop (mkF m (pc + 1) L (.int (x ^^^ y) :: st)))) : Go p e below P (T.setTop (mkF m pc L (.int y :: .int x :: st))) := Go.via (fun _ q => XT.ixor X.here hx rfl hd rfl q) k
theorem ishl (X : Stand p l e R s m args below meth c T locs cells slots) (hx : p.tables.exec = Jvm.exec) {x y : Int32} (hd : decode c.code pc = .ok (.ishl, 1)) (k : Go p e below P (T.setTop (mkF m (pc + 1) L (.int (x <<< (y &&& 31)) :: st)))) : Go p e below P (T.setTop (mkF m pc L (.int y :: .int x :: st))) := Go.via (fun _ q => XT.ishl X.here hx rfl hd rfl q) k
theorem ishr (X : Stand p l e R s m args below meth c T locs cells slots) (hx : p.tables.exec = Jvm.exec) {x y : Int32} (hd : decode c.code pc = .ok (.ishr, 1)) (k : Go p e below P (T.setTop (mkF m (pc + 1) L (.int (x >>> (y &&& 31)) :: st)))) : Go p e below P (T.setTop (mkF m pc L (.int y :: .int x :: st))) := Go.via (fun _ q => XT.ishr X.here hx rfl hd rfl q) k
theorem iushr (X : Stand p l e R s m args below meth c T locs cells slots) (hx : p.tables.exec = Jvm.exec) {x y : Int32} (hd : decode c.code pc = .ok (.iushr, 1)) (k : Go p e below P (T.setTop (mkF m (pc + 1) L (.int (XT.ushr x y) :: st)))) : Go p e below P (T.setTop (mkF m pc L (.int y :: .int x :: st))) := Go.via (fun _ q => XT.iushr X.here hx rfl hd rfl q) k
theorem idiv (X : Stand p l e R s m args below meth c T locs cells slots) (hx : p.tables.exec = Jvm.exec) {x y : Int32} (hd : decode c.code pc = .ok (.idiv, 1)) (hy : y ≠ 0) (k : Go p e below P (T.setTop (mkF m (pc + 1) L (.int (x / y) :: st)))) : Go p e below P (T.setTop (mkF m pc L (.int y :: .int x :: st))) := Go.via (fun _ q => XS.idiv X.here hx rfl hd rfl hy q) k
theorem irem (X : Stand p l e R s m args below meth c T locs cells slots) (hx : p.tables.exec = Jvm.exec) {x y : Int32} (hd : decode c.code pc = .ok (.irem, 1)) (hy : y ≠ 0) (k : Go p e below P (T.setTop (mkF m (pc + 1) L (.int (x % y) :: st)))) : Go p e below P (T.setTop (mkF m pc L (.int y :: .int x :: st))) := Go.via (fun _ q => iremM X hx (g := mkF m pc L (.int y :: .int x :: st)) rfl hd rfl hy q) k
theorem ladd (X : Stand p l e R s m args below meth c T locs cells slots) (hx : p.tables.exec = Jvm.exec) {x y : Int64} (hd : decode c.code pc = .ok (.ladd, 1)) (k : Go p e below P (T.setTop (mkF m (pc + 1) L (.long (x + y) :: st)))) : Go p e below P (T.setTop (mkF m pc L (.long y :: .long x :: st))) := Go.via (fun _ q => XT.ladd X.here hx rfl hd rfl q) k
theorem lsub (X : Stand p l e R s m args below meth c T locs cells slots) (hx : p.tables.exec = Jvm.exec) {x y : Int64} (hd : decode c.code pc = .ok (.lsub, 1)) (k : Go p e below P (T.setTop (mkF m (pc + 1) L (.long (x - y) :: st)))) : Go p e below P (T.setTop (mkF m pc L (.long y :: .long x :: st))) := Go.via (fun _ q => XT.lsub X.here hx rfl hd rfl q) k
theorem lmul (X : Stand p l e R s m args below meth c T locs cells slots) (hx : p.tables.exec = Jvm.exec) {x y : Int64} (hd : decode c.code pc = .ok (.lmul, 1)) (k : Go p e below P (T.setTop (mkF m (pc + 1) L (.long (x * y) :: st)))) : Go p e below P (T.setTop (mkF m pc L (.long y :: .long x :: st))) := Go.via (fun _ q => XT.lmul X.here hx rfl hd rfl q) k
theorem land (X : Stand p l e R s m args below meth c T locs cells slots) (hx : p.tables.exec = Jvm.exec) {x y : Int64} (hd : decode c.code pc = .ok (.land, 1)) (k : Go p e below P (T.setTop (mkF m (pc + 1) L (.long (x &&& y) :: st)))) : Go p e below P (T.setTop (mkF m pc L (.long y :: .long x :: st))) := Go.via (fun _ q => XT.land X.here hx rfl hd rfl q) k
theorem lor (X : Stand p l e R s m args below meth c T locs cells slots) (hx : p.tables.exec = Jvm.exec) {x y : Int64} (hd : decode c.code pc = .ok (.lor, 1)) (k : Go p e below P (T.setTop (mkF m (pc + 1) L (.long (x ||| y) :: st)))) : Go p e below P (T.setTop (mkF m pc L (.long y :: .long x :: st))) := Go.via (fun _ q => XT.lor X.here hx rfl hd rfl q) k
theorem lxor (X : Stand p l e R s m args below meth c T locs cells slots) (hx : p.tables.exec = Jvm.exec) {x y : Int64} (hd : decode c.code pc = .ok (.lxor, 1)) (k : Go p e below P (T.setTop (mkF m (pc + 1) L (.long (x ^^^ y) :: st)))) : Go p e below P (T.setTop (mkF m pc L (.long y :: .long x :: st))) := Go.via (fun _ q => XT.lxor X.here hx rfl hd rfl q) k
theorem lshl (X : Stand p l e R s m args below meth c T locs cells slots) (hx : p.tables.exec = Jvm.exec) {x : Int64} {y : Int32} (hd : decode c.code pc = .ok (.lshl, 1)) (k : Go p e below P (T.setTop (mkF m (pc + 1) L (.long (x <<< (y.toInt64 &&& 63)) :: st)))) : Go p e below P (T.setTop (mkF m pc L (.int y :: .long x :: st))) := Go.via (fun _ q => XT.lshl X.here hx rfl hd rfl q) k
theorem lshr (X : Stand p l e R s m args below meth c T locs cells slots) (hx : p.tables.exec = Jvm.exec) {x : Int64} {y : Int32} (hd : decode c.code pc = .ok (.lshr, 1)) (k : Go p e below P (T.setTop (mkF m (pc + 1) L (.long (x >>> (y.toInt64 &&& 63)) :: st)))) : Go p e below P (T.setTop (mkF m pc L (.int y :: .long x :: st))) := Go.via (fun _ q => XT.lshr X.here hx rfl hd rfl q) k
theorem lushr (X : Stand p l e R s m args below meth c T locs cells slots) (hx : p.tables.exec = Jvm.exec) {x : Int64} {y : Int32} (hd : decode c.code pc = .ok (.lushr, 1)) (k : Go p e below P (T.setTop (mkF m (pc + 1) L (.long (XT.ushrL x y) :: st)))) : Go p e below P (T.setTop (mkF m pc L (.int y :: .long x :: st))) := Go.via (fun _ q => XT.lushr X.here hx rfl hd rfl q) k
theorem ldiv (X : Stand p l e R s m args below meth c T locs cells slots) (hx : p.tables.exec = Jvm.exec) {x y : Int64} (hd : decode c.code pc = .ok (.ldiv, 1)) (hy : y ≠ 0) (k : Go p e below P (T.setTop (mkF m (pc + 1) L (.long (x / y) :: st)))) : Go p e below P (T.setTop (mkF m pc L (.long y :: .long x :: st))) := Go.via (fun _ q => XT.ldiv X.here hx rfl hd rfl hy q) k
theorem lrem (X : Stand p l e R s m args below meth c T locs cells slots) (hx : p.tables.exec = Jvm.exec) {x y : Int64} (hd : decode c.code pc = .ok (.lrem, 1)) (hy : y ≠ 0) (k : Go p e below P (T.setTop (mkF m (pc + 1) L (.long (x % y) :: st)))) : Go p e below P (T.setTop (mkF m pc L (.long y :: .long x :: st))) := Go.via (fun _ q => XT.lrem X.here hx rfl hd rfl hy (by rw [lrem_mod]; exact q)) k
theorem ineg (X : Stand p l e R s m args below meth c T locs cells slots) (hx : p.tables.exec = Jvm.exec) {x : Int32} (hd : decode c.code pc = .ok (.ineg, 1)) (k : Go p e below P (T.setTop (mkF m (pc + 1) L (.int ((-x)) :: st)))) : Go p e below P (T.setTop (mkF m pc L (.int x :: st))) := Go.via (fun _ q => XS.ineg X.here hx rfl hd rfl q) k
theorem lneg (X : Stand p l e R s m args below meth c T locs cells slots) (hx : p.tables.exec = Jvm.exec) {x : Int64} (hd : decode c.code pc = .ok (.lneg, 1)) (k : Go p e below P (T.setTop (mkF m (pc + 1) L (.long ((-x)) :: st)))) : Go p e below P (T.setTop (mkF m pc L (.long x :: st))) := Go.via (fun _ q => XT.lneg X.here hx rfl hd rfl q) k
theorem i2l (X : Stand p l e R s m args below meth c T locs cells slots) (hx : p.tables.exec = Jvm.exec) {x : Int32} (hd : decode c.code pc = .ok (.i2l, 1)) (k : Go p e below P (T.setTop (mkF m (pc + 1) L (.long (x.toInt64) :: st)))) : Go p e below P (T.setTop (mkF m pc L (.int x :: st))) := Go.via (fun _ q => XT.i2l X.here hx rfl hd rfl q) k
theorem l2i (X : Stand p l e R s m args below meth c T locs cells slots) (hx : p.tables.exec = Jvm.exec) {x : Int64} (hd : decode c.code pc = .ok (.l2i, 1)) (k : Go p e below P (T.setTop (mkF m (pc + 1) L (.int (x.toInt32) :: st)))) : Go p e below P (T.setTop (mkF m pc L (.long x :: st))) := Go.via (fun _ q => XT.l2i X.here hx rfl hd rfl q) k
theorem i2b (X : Stand p l e R s m args below meth c T locs cells slots) (hx : p.tables.exec = Jvm.exec) {x : Int32} (hd : decode c.code pc = .ok (.i2b, 1)) (k : Go p e below P (T.setTop (mkF m (pc + 1) L (.int (x.toInt8.toInt32) :: st)))) : Go p e below P (T.setTop (mkF m pc L (.int x :: st))) := Go.via (fun _ q => XT.i2b X.here hx rfl hd rfl q) k
theorem i2c (X : Stand p l e R s m args below meth c T locs cells slots) (hx : p.tables.exec = Jvm.exec) {x : Int32} (hd : decode c.code pc = .ok (.i2c, 1)) (k : Go p e below P (T.setTop (mkF m (pc + 1) L (.int (x.toUInt32.toUInt16.toUInt32.toInt32) :: st)))) : Go p e below P (T.setTop (mkF m pc L (.int x :: st))) := Go.via (fun _ q => XT.i2c X.here hx rfl hd rfl q) k
theorem i2s (X : Stand p l e R s m args below meth c T locs cells slots) (hx : p.tables.exec = Jvm.exec) {x : Int32} (hd : decode c.code pc = .ok (.i2s, 1)) (k : Go p e below P (T.setTop (mkF m (pc + 1) L (.int (x.toInt16.toInt32) :: st)))) : Go p e below P (T.setTop (mkF m pc L (.int x :: st))) := Go.via (fun _ q => XT.i2s X.here hx rfl hd rfl q) k
theorem lcmp (X : Stand p l e R s m args below meth c T locs cells slots) (hx : p.tables.exec = Jvm.exec) {x y : Int64} (hd : decode c.code pc = .ok (.lcmp, 1)) (k : Go p e below P (T.setTop (mkF m (pc + 1) L (.int (XT.cmpL x y) :: st)))) : Go p e below P (T.setTop (mkF m pc L (.long y :: .long x :: st))) := Go.via (fun _ q => XT.lcmp X.here hx rfl hd rfl q) k
theorem iincV (X : Stand p l e R s m args below meth c T locs cells slots) (hx : p.tables.exec = Jvm.exec) {i : Nat} {d : Int} {x : Int32} (v w : Int32) (L' : Array Slot) (hd : decode c.code pc = .ok (.iinc i d, 3)) (hv : Int32.ofInt d = v) (hl : L[i]? = some (.val (.int x))) (hw : x + v = w) (hl' : storeLocals L i (.int w) = some L') (k : Go p e below P (T.setTop (mkF m (pc + 3) L' st))) : Go p e below P (T.setTop (mkF m pc L st)) := Go.via (fun _ q => XS.iinc X.here hx rfl hd hl (hv ▸ hw ▸ hl') q) k
theorem topI {x y : Int32} (q : x = y) (k : Go p e below P (T.setTop (mkF m pc L (.int y :: st)))) : Go p e below P (T.setTop (mkF m pc L (.int x :: st))) := q ▸ k
theorem topJ {x y : Int64} (q : x = y) (k : Go p e below P (T.setTop (mkF m pc L (.long y :: st)))) : Go p e below P (T.setTop (mkF m pc L (.long x :: st))) := q ▸ k
/-! returns -/
theorem leaveR (X : Stand p l e R s m args below meth c T locs cells slots) (hk : meth.locks = false) {Q : Option Value → Heap → List Loc → Prop} {k n : Nat} {g : JFrame} {v : Option Value} (hv : meth.sig.returnType = none → v = none) (eT : T.heap = h) (hQ : Q v h locs) (hc : cells ≤ k) (hn : slots ≤ n)
    (st : ∀ fs, (∀ (f : JFrame) (acts : List Action), f.method = m → f.locked = none → f.entered = [] → (doReturn e (T.setTop f) acts v).1 = T.setFrames fs) → Steps p.tables e below (T.setTop g) (T.setFrames fs)) : Go p e below (Fini s Q k n) (T.setTop g) := by
  obtain ⟨fs, hr, hrun, hended, hW, hsame⟩ := X.leave (v := v) hv hk
  exact ⟨_, _, st fs hr, hrun, hended, _, _, rfl, by show Q v T.heap locs; rw [eT]; exact hQ, ⟨_, rfl⟩, hW, hsame.mono hc hn⟩
theorem ireturn (X : Stand p l e R s m args below meth c T locs cells slots) (hx : p.tables.exec = Jvm.exec) (hk : meth.locks = false) {Q : Option Value → Heap → List Loc → Prop} {k n : Nat} {t : FieldType} {z : Int32} (hret : meth.sig.returnType = some t) (ht : t = .int ∨ t = .boolean ∨ t = .byte ∨ t = .char ∨ t = .short) (hnr : narrow t (.int z) = .int z) (hd : decode c.code pc = .ok (.ireturn, 1)) (eT : T.heap = h) (hQ : Q (some (.int z)) h locs) (hc : cells ≤ k) (hn : slots ≤ n) : Go p e below (Fini s Q k n) (T.setTop (mkF m pc L (.int z :: rest))) :=
  leaveR X hk (v := some (.int z)) (fun q => by rw [hret] at q; cases q) eT hQ hc hn fun fs hr => retOut X hx hret hnr (Or.inl ⟨rfl, ht, z, rfl⟩) hd hr
theorem lreturn (X : Stand p l e R s m args below meth c T locs cells slots) (hx : p.tables.exec = Jvm.exec) (hk : meth.locks = false) {Q : Option Value → Heap → List Loc → Prop} {k n : Nat} {z : Int64} (hret : meth.sig.returnType = some .long) (hd : decode c.code pc = .ok (.lreturn, 1)) (eT : T.heap = h) (hQ : Q (some (.long z)) h locs) (hc : cells ≤ k) (hn : slots ≤ n) : Go p e below (Fini s Q k n) (T.setTop (mkF m pc L (.long z :: rest))) :=
  leaveR X hk (v := some (.long z)) (fun q => by rw [hret] at q; cases q) eT hQ hc hn fun fs hr => retOut X hx hret rfl (Or.inr (Or.inl ⟨rfl, rfl, z, rfl⟩)) hd hr
theorem areturn (X : Stand p l e R s m args below meth c T locs cells slots) (hx : p.tables.exec = Jvm.exec) (hk : meth.locks = false) {Q : Option Value → Heap → List Loc → Prop} {k n : Nat} {t : FieldType} {z : Value} (hret : meth.sig.returnType = some t) (ht : t.isReference = true) (hz : z.isRef = true) (hnr : narrow t z = z) (hd : decode c.code pc = .ok (.areturn, 1)) (eT : T.heap = h) (hQ : Q (some z) h locs) (hc : cells ≤ k) (hn : slots ≤ n) : Go p e below (Fini s Q k n) (T.setTop (mkF m pc L (z :: rest))) :=
  leaveR X hk (v := some z) (fun q => by rw [hret] at q; cases q) eT hQ hc hn fun fs hr => retOut X hx hret hnr (Or.inr (Or.inr (Or.inr (Or.inr ⟨rfl, ht, hz⟩)))) hd hr
theorem vreturn (X : Stand p l e R s m args below meth c T locs cells slots) (hx : p.tables.exec = Jvm.exec) (hk : meth.locks = false) {Q : Option Value → Heap → List Loc → Prop} {k n : Nat} (hret : meth.sig.returnType = none) (hd : decode c.code pc = .ok (.return_, 1)) (eT : T.heap = h) (hQ : Q none h locs) (hc : cells ≤ k) (hn : slots ≤ n) : Go p e below (Fini s Q k n) (T.setTop (mkF m pc L [])) :=
  leaveR X hk (v := none) (fun _ => rfl) eT hQ hc hn fun fs hr => X.returnOut hx hret hd hr
/-! String constants: the start with the tables at hand -/
def FiniW (s : State) (Q : Option Value → Heap → List Loc → Prop) (k n : Nat) (o : Outcome) (U : State) : Prop :=
  ∃ v L, o = .returned v ∧ Q v U.heap L ∧ ReturnedEndW s o U L k n
def CtW (l : Launch) (y : MethodName) (bytes : ByteArray) (maxL : Nat) (ret : Option FieldType) (ws : List Jvm.Cond) (rm : Room) (Z : State) (as : Array Value) (h : Heap) (Q : Option Value → Heap → List Loc → Prop) : Prop :=
  MetFree l y (head1 (Jvm.Cond.code y bytes maxL ret :: ws) rm) (fun a U => a = as ∧ Z.Warmed39 U.vm ∧ U.heap = h) (fun _ _ _ _ _ => True) (fun _ U o U' => ∃ v L, o = .returned v ∧ Q v U'.heap L ∧ ReturnedEndW U o U' L rm.cells rm.slots)
theorem enterW {y : MethodName} {bytes : ByteArray} {maxL : Nat} {ret : Option FieldType} {ws : List Jvm.Cond} {rm : Room} {as : Array Value} {Q : Option Value → Heap → List Loc → Prop} (hy : plainFor y = true)
    (body : ∀ p e s m below meth c s₁, p.tables.exec = Jvm.exec → c.code = bytes → c.maxLocals = maxL → s.vm.findClass y.cls = some m.cls → meth.name = y.name → meth.sig.returnType = ret → meth.locks = false → Z.Warmed39 s.vm →
      Stand p l e rm s m as below meth c s₁ [] 0 0 → s₁.heap = h → Go p e below (FiniW s Q rm.cells rm.slots) (s₁.setTop (entryFrame m as maxL))) : CtW l y bytes maxL ret ws rm Z as h Q := by
  refine MetFree.of_bodySF hy hisR ?_
  intro p e s m args below meth c s₁ Bd hml hP hK
  obtain ⟨rfl, hZ, hh⟩ := hP
  exact body p e s m below meth c s₁ Bd.exec Bd.bytes hml (findClass_of_methodNamed Bd.named) (name_of_methodNamed Bd.named Bd.method).1 Bd.returns Bd.notSynchronized hZ (Stand.of_body Bd) (by rw [← hh, Bd.state]; rfl)
theorem since0 (s : State) : s.Since s.vm 0 := State.WarmedH.since (State.WarmedH.refl s) 0
theorem ldcStr {vm0 : Vm} (X : Stand p l e R (s.setVm vm0) m args below meth c T locs cells slots) (hx : p.tables.exec = Jvm.exec) (hZ : Z.Warmed39 vm0) {own text : String} {i : Nat} (hown : vm0.findClass own = some m.cls) (w : (Cond.stringLink own i text).before a0 Z = true) (wS : ∀ a ∈ Bundle.stringAtoms, a.before a0 Z = true)
    (eT : T.heap = h) {k0 : Nat} (hS : s.Since vm0 k0) (hk : k0 ≤ h.size) (hd : decode c.code pc = .ok (.ldc i, 2)) (n : Nat) (hn : 4 * text.toList.length ≤ n) (hbig : n ≤ 536870912) (hc : cells + 2 ≤ R.cells) (hl : slots + (n + 4) ≤ R.slots)
    (k : ∀ (a : Addr) (T' : State) (h' : Heap) (k1 : Nat), Stand p l e R (s.setVm T'.vm) m args below meth c T' locs (cells + 2) (slots + (n + 4)) → T'.heap = h' → Ext h h' → s.Since T'.vm k1 → k1 ≤ h'.size → Z.Warmed39 (s.setVm T'.vm).vm → (s.setVm T'.vm).vm.findClass own = some m.cls → Go p e below P (T'.setTop (mkF m (pc + 2) L (.ref a :: st)))) : Go p e below P (T.setTop (mkF m pc L st)) := by
  obtain ⟨a, T', h', k1, X', e', E, hS', hk', hZ', hown', q⟩ := ldcS X hx hZ hown w wS eT hS hk (g := mkF m pc L st) rfl hd hn hbig hc hl
  exact Go.via q (k a T' h' k1 X' e' E hS' hk' hZ' hown')
theorem ireturnW {vm0 : Vm} (X : Stand p l e R (s.setVm vm0) m args below meth c T locs cells slots) (hx : p.tables.exec = Jvm.exec) (hk : meth.locks = false) {Q : Option Value → Heap → List Loc → Prop} {k n : Nat} {t : FieldType} {z : Int32} (hret : meth.sig.returnType = some t) (ht : t = .int ∨ t = .boolean ∨ t = .byte ∨ t = .char ∨ t = .short) (hnr : narrow t (.int z) = .int z) (hd : decode c.code pc = .ok (.ireturn, 1)) (eT : T.heap = h) {k0 : Nat} (hS : s.Since vm0 k0) (hk0 : k0 ≤ h.size) (hQ : Q (some (.int z)) h locs) (hc : cells ≤ k) (hn : slots ≤ n) : Go p e below (FiniW s Q k n) (T.setTop (mkF m pc L (.int z :: rest))) := by
  obtain ⟨fs, hr, hrun, hended, hW⟩ := X.leaveW hS (by rw [eT]; exact hk0) (v := some (.int z)) (fun q => by rw [hret] at q; cases q) hk
  exact ⟨_, _, retOut X hx hret hnr (Or.inl ⟨rfl, ht, z, rfl⟩) hd hr, hrun, hended, _, _, rfl, by show Q (some (.int z)) T.heap locs; rw [eT]; exact hQ, hW.1, hW.2.1, hW.2.2.1, hW.2.2.2.mono hc hn⟩
/-! fields, objects -/
theorem getfield (X : Stand p l e R s m args below meth c T locs cells slots) (hx : p.tables.exec = Jvm.exec) (hZ : Z.Warmed39 s.vm) {own R0 O n d host : String} {i : Nat} (hown : s.vm.findClass own = some m.cls) (w : (Cond.fieldLink own i R0 n d).before a0 Z = true ∨ (Cond.fieldLinkNest own i R0 n d host).before a0 Z = true) (via : Via Z R0 O n d)
    (eT : T.heap = h) {a : Addr} {v : Value} (F : Fld Z h a O n d v) (hd : decode c.code pc = .ok (.getfield i, 3)) (k : ∀ T', Stand p l e R s m args below meth c T' locs cells slots → T'.heap = h → Go p e below P (T'.setTop (mkF m (pc + 3) L (v :: st)))) : Go p e below P (T.setTop (mkF m pc L (.ref a :: st))) := by
  obtain ⟨T', X', e', q⟩ := getF X hx hZ hown w via eT F (g := mkF m pc L (.ref a :: st)) rfl rfl hd
  exact Go.via q (k T' X' e')
theorem putfield (X : Stand p l e R s m args below meth c T locs cells slots) (hx : p.tables.exec = Jvm.exec) (hZ : Z.Warmed39 s.vm) {own R0 O n d host C : String} {i kk : Nat} {ty : FieldType} (hown : s.vm.findClass own = some m.cls) (w : (Cond.fieldLink own i R0 n d).before a0 Z = true ∨ (Cond.fieldLinkNest own i R0 n d host).before a0 Z = true) (via : Via Z R0 O n d)
    (eT : T.heap = h) {a : Addr} {v old : Value} (F : Fld Z h a O n d old) (E : Exa Z h a C) (Ly : (Cond.lays C O n d).before a0 Z = true ∨ ((Cond.laysFinal C O n d).before a0 Z = true ∧ own = O ∧ meth.name = "<init>")) (wi : (Cond.instantiable C kk).before a0 Z = true)
    (hty : parseFieldDescriptor d = some ty) (hn : narrow ty v = v) (hf : fits ty v = true) {n0 : Nat} (N : Fr n0 locs) (ga : n0 ≤ a) (hd : decode c.code pc = .ok (.putfield i, 3))
    (k : ∀ T' h', Stand p l e R s m args below meth c T' (locs ++ [⟨a, Jvm.RoadKit.slotOf Z O n d⟩]) cells slots → T'.heap = h' → Wr h h' a (Jvm.RoadKit.slotOf Z O n d) v → Fr n0 (locs ++ [⟨a, Jvm.RoadKit.slotOf Z O n d⟩]) → Fld Z h' a O n d v → Go p e below P (T'.setTop (mkF m (pc + 3) L st))) : Go p e below P (T.setTop (mkF m pc L (v :: .ref a :: st))) := by
  obtain ⟨T', h', X', e', W, q⟩ := putF X hx hZ hown w via eT F E Ly wi hty hn hf (g := mkF m pc L (v :: .ref a :: st)) rfl rfl hd
  exact Go.via q (k T' h' X' e' W (Fr.snoc X' N ga) (F.same W))
theorem putfieldN (X : Stand p l e R s m args below meth c T locs cells slots) (hx : p.tables.exec = Jvm.exec) (hZ : Z.Warmed39 s.vm) {own R0 O n d C : String} {i kk : Nat} {ty : FieldType} (hown : s.vm.findClass own = some m.cls) (w : (Cond.fieldLink own i R0 n d).before a0 Z = true) (via : Via Z R0 O n d)
    (eT : T.heap = h) {a : Addr} {v v' old : Value} (F : Fld Z h a O n d old) (E : Exa Z h a C) (Ly : (Cond.lays C O n d).before a0 Z = true ∨ ((Cond.laysFinal C O n d).before a0 Z = true ∧ own = O ∧ meth.name = "<init>")) (wi : (Cond.instantiable C kk).before a0 Z = true)
    (hty : parseFieldDescriptor d = some ty) (hn : narrow ty v = v') (hf : fits ty v' = true) {n0 : Nat} (N : Fr n0 locs) (ga : n0 ≤ a) (hd : decode c.code pc = .ok (.putfield i, 3))
    (k : ∀ T' h', Stand p l e R s m args below meth c T' (locs ++ [⟨a, Jvm.RoadKit.slotOf Z O n d⟩]) cells slots → T'.heap = h' → Wr h h' a (Jvm.RoadKit.slotOf Z O n d) v' → Fr n0 (locs ++ [⟨a, Jvm.RoadKit.slotOf Z O n d⟩]) → Fld Z h' a O n d v' → Go p e below P (T'.setTop (mkF m (pc + 3) L st))) : Go p e below P (T.setTop (mkF m pc L (v :: .ref a :: st))) := by
  obtain ⟨T', h', X', e', W, q⟩ := putFN X hx hZ hown w via eT F E Ly wi hty hn hf (g := mkF m pc L (v :: .ref a :: st)) rfl rfl hd
  exact Go.via q (k T' h' X' e' W (Fr.snoc X' N ga) (F.same W))
theorem newobj (X : Stand p l e R s m args below meth c T locs cells slots) (hx : p.tables.exec = Jvm.exec) (hZ : Z.Warmed39 s.vm) {own C : String} {i n : Nat} (hown : s.vm.findClass own = some m.cls) (w : (Cond.classLink own i C).before a0 Z = true) (wi : (Cond.instantiable C n).before a0 Z = true) (wz : (Cond.initialized C).before a0 Z = true) (eT : T.heap = h)
    (hd : decode c.code pc = .ok (.new i, 3)) (hc : cells + 1 ≤ R.cells) (hl : slots + n ≤ R.slots)
    (k : ∀ T' h' b, b = h.size → Stand p l e R s m args below meth c T' locs (cells + 1) (slots + n) → T'.heap = h' → Ext h h' → Exa Z h' b C → (∀ {O nm d : String} {ty : FieldType}, Laid Z a0 C O nm d → parseFieldDescriptor d = some ty → Fld Z h' b O nm d (defaultValue ty)) → Go p e below P (T'.setTop (mkF m (pc + 3) L (.ref b :: st)))) : Go p e below P (T.setTop (mkF m pc L st)) := by
  obtain ⟨T', h', X', e', E, A, D, -, q⟩ := newO X hx hZ hown w wi wz eT (g := mkF m pc L st) rfl hd hc hl
  exact Go.via q (k T' h' h.size rfl X' e' E A D)
theorem initObj (X : Stand p l e R s m args below meth c T locs cells slots) (hx : p.tables.exec = Jvm.exec) (hZ : Z.Warmed39 s.vm) {own : String} {i : Nat} (hown : s.vm.findClass own = some m.cls) (w1 : (Cond.methodLink own i Lib.objectInit).before a0 Z = true) (w2 : (Cond.instanceMethod Lib.objectInit).before a0 Z = true)
    (w3 : (Cond.code Lib.objectInit ⟨#[0xb1]⟩ 1 none).before a0 Z = true) (eT : T.heap = h) (hsize : L.size = c.maxLocals) {a : Addr} (hd : decode c.code pc = .ok (.invokespecial i, 3)) (hf : 1 ≤ R.frames) (W : Nat) (hW : (st.map fun v => v.category).sum ≤ W) (hl : W + 12 ≤ R.locals)
    (k : ∀ T', Stand p l e R s m args below meth c T' locs cells slots → T'.heap = h → Go p e below P (T'.setTop (mkF m (pc + 3) L st))) : Go p e below P (T.setTop (mkF m pc L (.ref a :: st))) := by
  obtain ⟨T', X', e', q⟩ := initO X hx hZ hown w1 w2 w3 eT (g := mkF m pc L (.ref a :: st)) rfl hsize rfl hd hf (W := W) (by show 2 * 0 + _ ≤ _; omega) hl
  exact Go.via q (k T' X' e')
/-! arrays -/
/-- the array at a holds just these values -/
def VArr (Z : State) (h : Heap) (a : Addr) (ty : FieldType) (vs : List Value) : Prop := ∃ c : Cell, Arr Z h a c ty ∧ c.slots = vs.toArray ∧ vs.length < 2 ^ 31
section VA
variable {h' : Heap} {a b : Addr} {ty : FieldType} {vs : List Value} {sl : Nat} {v : Value} {ws : List Addr}
theorem VArr.lt (F : VArr Z h a ty vs) : a < h.size := by obtain ⟨c, A, -⟩ := F; exact A.lt
theorem VArr.ext (F : VArr Z h a ty vs) (E : Ext h h') : VArr Z h' a ty vs := by obtain ⟨c, A, r⟩ := F; exact ⟨c, A.ext E, r⟩
theorem VArr.other (F : VArr Z h b ty vs) (W : Wr h h' a sl v) (q : b ≠ a) : VArr Z h' b ty vs := by obtain ⟨c, A, r⟩ := F; exact ⟨c, A.other W q, r⟩
theorem VArr.keep (F : VArr Z h a ty vs) (K : Keep h h' ws) (q : a ∉ ws) : VArr Z h' a ty vs := by obtain ⟨c, A, r⟩ := F; exact ⟨c, ⟨K.2.1 a c A.1 q, A.2⟩, r⟩
theorem VArr.same (F : VArr Z h a ty vs) (W : Wr h h' a sl v) : VArr Z h' a ty (vs.set sl v) := by
  obtain ⟨c, A, r1, r2⟩ := F
  refine ⟨c.setSlot sl v, A.same W, ?_, by simpa using r2⟩
  simp [Cell.setSlot, r1]
theorem neVE {C : String} {kk : Nat} (F : VArr Z h a ty vs) (E : Exa Z h b C) (wi : (Cond.instantiable C kk).before a0 Z = true) : a ≠ b := by
  obtain ⟨c, A, -⟩ := F
  exact (ne_arr E wi A).symm
end VA
theorem in_of {vs : List Value} {v : Value} {i : Nat} {j : Int32} {c : Cell} (hn : ¬ j < 0) (hi : j.toNatClampNeg = i) (hv : vs[i]? = some v) (r : c.slots = vs.toArray) : ¬ (j < 0 ∨ c.slots.size ≤ j.toNatClampNeg) ∧ c.slots[j.toNatClampNeg]? = some v := by
  have hlt : i < vs.length := by
    obtain ⟨q, -⟩ := List.getElem?_eq_some_iff.mp hv
    exact q
  refine ⟨fun q => ?_, ?_⟩
  · rcases q with q | q
    · exact hn q
    · rw [r, hi] at q; simp at q; omega
  · rw [hi, r]; simpa using hv
theorem in_of' {vs : List Value} {i : Nat} {j : Int32} {c : Cell} (hn : ¬ j < 0) (hi : j.toNatClampNeg = i) (hv : i < vs.length) (r : c.slots = vs.toArray) : ¬ (j < 0 ∨ c.slots.size ≤ j.toNatClampNeg) := by
  intro q
  rcases q with q | q
  · exact hn q
  · rw [r, hi] at q; simp at q; omega
theorem alen (X : Stand p l e R s m args below meth c T locs cells slots) (hx : p.tables.exec = Jvm.exec) (hZ : Z.Warmed39 s.vm) (eT : T.heap = h) {a : Addr} {ty : FieldType} {vs : List Value} (V : VArr Z h a ty vs) (n : Int32) (hn : vs.length.toInt32 = n) (hd : decode c.code pc = .ok (.arraylength, 1)) (k : Go p e below P (T.setTop (mkF m (pc + 1) L (.int n :: st)))) : Go p e below P (T.setTop (mkF m pc L (.ref a :: st))) := by
  obtain ⟨cl, A, r1, -⟩ := V
  have q : cl.slots.size.toInt32 = n := by rw [r1]; simpa using hn
  exact Go.via (fun t w => X.arraylength hx (cell := cl) (by rw [eT]; exact A.1) (State.isArrayOf_alike hZ.alike A.2.1) (g := mkF m pc L (.ref a :: st)) rfl rfl hd t (by rw [q]; exact w)) k
theorem iaload (X : Stand p l e R s m args below meth c T locs cells slots) (hx : p.tables.exec = Jvm.exec) (hZ : Z.Warmed39 s.vm) (eT : T.heap = h) {a : Addr} {vs : List Value} (V : VArr Z h a .int vs) {j : Int32} {v : Value} (i : Nat) (hn : ¬ j < 0) (hi : j.toNatClampNeg = i) (hv : vs[i]? = some v) (hd : decode c.code pc = .ok (.iaload, 1)) (k : Go p e below P (T.setTop (mkF m (pc + 1) L (v :: st)))) : Go p e below P (T.setTop (mkF m pc L (.int j :: .ref a :: st))) := by
  obtain ⟨cl, A, r1, -⟩ := V
  obtain ⟨q1, q2⟩ := in_of hn hi hv r1
  exact Go.via (fun t w => X.iaload hx (by rw [eT]; exact A.1) (State.isArrayOf_alike hZ.alike A.2.1) A.2.2 q1 q2 (g := mkF m pc L (.int j :: .ref a :: st)) rfl rfl hd t w) k
theorem laload (X : Stand p l e R s m args below meth c T locs cells slots) (hx : p.tables.exec = Jvm.exec) (hZ : Z.Warmed39 s.vm) (eT : T.heap = h) {a : Addr} {vs : List Value} (V : VArr Z h a .long vs) {j : Int32} {v : Value} (i : Nat) (hn : ¬ j < 0) (hi : j.toNatClampNeg = i) (hv : vs[i]? = some v) (hd : decode c.code pc = .ok (.laload, 1)) (k : Go p e below P (T.setTop (mkF m (pc + 1) L (v :: st)))) : Go p e below P (T.setTop (mkF m pc L (.int j :: .ref a :: st))) := by
  obtain ⟨cl, A, r1, -⟩ := V
  obtain ⟨q1, q2⟩ := in_of hn hi hv r1
  exact Go.via (fun t w => X.laload hx (by rw [eT]; exact A.1) (State.isArrayOf_alike hZ.alike A.2.1) A.2.2 q1 q2 (g := mkF m pc L (.int j :: .ref a :: st)) rfl rfl hd t w) k
theorem baload (X : Stand p l e R s m args below meth c T locs cells slots) (hx : p.tables.exec = Jvm.exec) (hZ : Z.Warmed39 s.vm) (eT : T.heap = h) {a : Addr} {vs : List Value} (V : VArr Z h a .byte vs) {j : Int32} {v : Value} (i : Nat) (hn : ¬ j < 0) (hi : j.toNatClampNeg = i) (hv : vs[i]? = some v) (hd : decode c.code pc = .ok (.baload, 1)) (k : Go p e below P (T.setTop (mkF m (pc + 1) L (v :: st)))) : Go p e below P (T.setTop (mkF m pc L (.int j :: .ref a :: st))) := by
  obtain ⟨cl, A, r1, -⟩ := V
  obtain ⟨q1, q2⟩ := in_of hn hi hv r1
  exact Go.via (fun t w => X.baloadBytes hx (by rw [eT]; exact A.1) (State.isArrayOf_alike hZ.alike A.2.1) A.2.2 q1 q2 (g := mkF m pc L (.int j :: .ref a :: st)) rfl rfl hd t w) k
theorem iastore (X : Stand p l e R s m args below meth c T locs cells slots) (hx : p.tables.exec = Jvm.exec) (hZ : Z.Warmed39 s.vm) (eT : T.heap = h) {a : Addr} {vs : List Value} (V : VArr Z h a .int vs) {j x : Int32} (i : Nat) (hn : ¬ j < 0) (hi : j.toNatClampNeg = i) (hv : i < vs.length) {n0 : Nat} (N : Fr n0 locs) (ga : n0 ≤ a) (hd : decode c.code pc = .ok (.iastore, 1))
    (k : ∀ T' h', Stand p l e R s m args below meth c T' (locs ++ [⟨a, i⟩]) cells slots → T'.heap = h' → Wr h h' a i (.int x) → Fr n0 (locs ++ [⟨a, i⟩]) → VArr Z h' a .int (vs.set i (.int x)) → Go p e below P (T'.setTop (mkF m (pc + 1) L st))) : Go p e below P (T.setTop (mkF m pc L (.int x :: .int j :: .ref a :: st))) := by
  have V0 := V
  obtain ⟨cl, A, r1, -⟩ := V
  obtain ⟨T', h', X', e', W, q⟩ := stI X hx hZ eT A (in_of' hn hi hv r1) (g := mkF m pc L (.int x :: .int j :: .ref a :: st)) rfl rfl hd
  rw [hi] at X' W
  exact Go.via q (k T' h' X' e' W (Fr.snoc X' N ga) (V0.same W))
theorem lastore (X : Stand p l e R s m args below meth c T locs cells slots) (hx : p.tables.exec = Jvm.exec) (hZ : Z.Warmed39 s.vm) (eT : T.heap = h) {a : Addr} {vs : List Value} (V : VArr Z h a .long vs) {j : Int32} {x : Int64} (i : Nat) (hn : ¬ j < 0) (hi : j.toNatClampNeg = i) (hv : i < vs.length) {n0 : Nat} (N : Fr n0 locs) (ga : n0 ≤ a) (hd : decode c.code pc = .ok (.lastore, 1))
    (k : ∀ T' h', Stand p l e R s m args below meth c T' (locs ++ [⟨a, i⟩]) cells slots → T'.heap = h' → Wr h h' a i (.long x) → Fr n0 (locs ++ [⟨a, i⟩]) → VArr Z h' a .long (vs.set i (.long x)) → Go p e below P (T'.setTop (mkF m (pc + 1) L st))) : Go p e below P (T.setTop (mkF m pc L (.long x :: .int j :: .ref a :: st))) := by
  have V0 := V
  obtain ⟨cl, A, r1, -⟩ := V
  obtain ⟨T', h', X', e', W, q⟩ := stJ X hx hZ eT A (in_of' hn hi hv r1) (g := mkF m pc L (.long x :: .int j :: .ref a :: st)) rfl rfl hd
  rw [hi] at X' W
  exact Go.via q (k T' h' X' e' W (Fr.snoc X' N ga) (V0.same W))
theorem bastore (X : Stand p l e R s m args below meth c T locs cells slots) (hx : p.tables.exec = Jvm.exec) (hZ : Z.Warmed39 s.vm) (eT : T.heap = h) {a : Addr} {vs : List Value} (V : VArr Z h a .byte vs) {j x : Int32} (i : Nat) (hn : ¬ j < 0) (hi : j.toNatClampNeg = i) (hv : i < vs.length) {n0 : Nat} (N : Fr n0 locs) (ga : n0 ≤ a) (hd : decode c.code pc = .ok (.bastore, 1))
    (k : ∀ T' h', Stand p l e R s m args below meth c T' (locs ++ [⟨a, i⟩]) cells slots → T'.heap = h' → Wr h h' a i (.int x.toInt8.toInt32) → Fr n0 (locs ++ [⟨a, i⟩]) → VArr Z h' a .byte (vs.set i (.int x.toInt8.toInt32)) → Go p e below P (T'.setTop (mkF m (pc + 1) L st))) : Go p e below P (T.setTop (mkF m pc L (.int x :: .int j :: .ref a :: st))) := by
  have V0 := V
  obtain ⟨cl, A, r1, -⟩ := V
  obtain ⟨T', h', X', e', W, q⟩ := stB X hx hZ eT A (in_of' hn hi hv r1) (g := mkF m pc L (.int x :: .int j :: .ref a :: st)) rfl rfl hd
  rw [hi] at X' W
  exact Go.via q (k T' h' X' e' W (Fr.snoc X' N ga) (V0.same W))
theorem newarr (X : Stand p l e R s m args below meth c T locs cells slots) (hx : p.tables.exec = Jvm.exec) (hZ : Z.Warmed39 s.vm) {aty : ArrayType} (w : (Cond.arrayClass (newarray.typeOf aty)).before a0 Z = true) (eT : T.heap = h) (hd : decode c.code pc = .ok (.newarray aty, 2)) {n : Int32} (hn : ¬ n < 0) (i cap : Nat) (hi : n.toNatClampNeg = i) (hcap : i ≤ cap) (hb : cap * 8 ≤ 536870912) (hc : cells + 1 ≤ R.cells) (hl : slots + cap ≤ R.slots)
    (k : ∀ T' h' b, b = h.size → Stand p l e R s m args below meth c T' locs (cells + 1) (slots + cap) → T'.heap = h' → Ext h h' → VArr Z h' b (newarray.typeOf aty) (List.replicate i (defaultValue (newarray.typeOf aty))) → Go p e below P (T'.setTop (mkF m (pc + 2) L (.ref b :: st)))) : Go p e below P (T.setTop (mkF m pc L (.int n :: st))) := by
  obtain ⟨T', h', cA, X', e', E, A, q⟩ := newP X hx hZ w eT (g := mkF m pc L (.int n :: st)) rfl hd rfl hn (cap := cap) (by rw [hi]; exact hcap) hb hc hl
  refine Go.via q (k T' h' h.size rfl X' e' E ⟨_, A, ?_, ?_⟩)
  · simp [newA, hi]
  · simp; omega
/-! calls -/
theorem callStatic (X : Stand p l e R s m args below meth c T locs cells slots) (hx : p.tables.exec = Jvm.exec) (hZ : Z.Warmed39 s.vm) {own : String} {i : Nat} {y : MethodName} {bytes : ByteArray} {maxL : Nat} {ret : Option FieldType} {rm : Room} {Q : Option Value → Heap → List Loc → Prop}
    (hown : s.vm.findClass own = some m.cls) (w1 : (Cond.methodLink own i y).before a0 Z = true) (w2 : (Cond.static y).before a0 Z = true) (w3 : (Cond.initialized y.cls).before a0 Z = true) (w4 : (Cond.code y bytes maxL ret).before a0 Z = true) (hy : y.cls ≠ "java/lang/invoke/MethodHandle" ∧ y.cls ≠ "java/lang/invoke/VarHandle")
    (W : Nat) (argsL rest : List Value) (hM : Ct l y bytes maxL ret [] rm Z argsL.toArray h Q) (hf : rm.frames + 1 ≤ R.frames) (hl : W + (maxL + 11) + rm.locals ≤ R.locals) (eT : T.heap = h) (hsize : L.size = c.maxLocals) {ps : List FieldType} {rt : Option FieldType} (pd : parseMethodDescriptor y.desc = some ⟨ps, rt⟩) (hlen : argsL.length = ps.length) (hst : st = argsL.reverse ++ rest) (hW : (rest.map fun v => v.category).sum ≤ W)
    (hd : decode c.code pc = .ok (.invokestatic i, 3)) (hc : cells + rm.cells ≤ R.cells) (hn : slots + rm.slots ≤ R.slots)
    (k : ∀ T' L' v, Stand p l e R s m args below meth c T' (locs ++ L') (cells + rm.cells) (slots + rm.slots) → Q v T'.heap L' → Go p e below P (T'.setTop (mkF m (pc + 3) L (v.toList ++ rest)))) : Go p e below P (T.setTop (mkF m pc L st)) := by
  obtain ⟨v, _, ⟨T', L', k', n'⟩, -, X', ⟨Lc, hQ, l1, y1, z1⟩, q⟩ := Jvm.LawKit.callS X hx (y := y) hown (mvT hZ w1) (mvT hZ w2) (mvT hZ w3) (mvT hZ w4) hy (backOf (W := W) hM hZ w4 w3 hf hl) (g := mkF m pc L st) rfl hsize (argsL := argsL) (rest := rest) (lenOf pd hlen) hst (by show 2 * 0 + _ ≤ _; omega) hd (fun _ _ => ⟨rfl, eT, hc, hn⟩)
  dsimp only [Pt.U, Pt.locs, Pt.cells, Pt.slots] at X' l1 y1 z1 q hQ
  subst l1 y1 z1
  exact Go.via q (k T' Lc v X' hQ)
theorem callSpecial (X : Stand p l e R s m args below meth c T locs cells slots) (hx : p.tables.exec = Jvm.exec) (hZ : Z.Warmed39 s.vm) {own : String} {i : Nat} {y : MethodName} {bytes : ByteArray} {maxL : Nat} {rm : Room} {Q : Option Value → Heap → List Loc → Prop} (hy1 : y.name = "<init>")
    (hown : s.vm.findClass own = some m.cls) (w1 : (Cond.methodLink own i y).before a0 Z = true) (w2 : (Cond.instanceMethod y).before a0 Z = true) (w3 : (Cond.initialized y.cls).before a0 Z = true) (w4 : (Cond.code y bytes maxL none).before a0 Z = true) (hy : y.cls ≠ "java/lang/invoke/MethodHandle" ∧ y.cls ≠ "java/lang/invoke/VarHandle")
    (W : Nat) (a : Addr) (argsL rest : List Value) (hM : Ct l y bytes maxL none [] rm Z (.ref a :: argsL).toArray h Q) (hf : rm.frames + 1 ≤ R.frames) (hl : W + (maxL + 11) + rm.locals ≤ R.locals) (eT : T.heap = h) (hsize : L.size = c.maxLocals) {ps : List FieldType} {rt : Option FieldType} (pd : parseMethodDescriptor y.desc = some ⟨ps, rt⟩) (hlen : argsL.length = ps.length) (hst : st = argsL.reverse ++ .ref a :: rest) (hW : (rest.map fun v => v.category).sum ≤ W)
    (hd : decode c.code pc = .ok (.invokespecial i, 3)) (hc : cells + rm.cells ≤ R.cells) (hn : slots + rm.slots ≤ R.slots)
    (k : ∀ T' L' v, Stand p l e R s m args below meth c T' (locs ++ L') (cells + rm.cells) (slots + rm.slots) → Q v T'.heap L' → Go p e below P (T'.setTop (mkF m (pc + 3) L (v.toList ++ rest)))) : Go p e below P (T.setTop (mkF m pc L st)) := by
  obtain ⟨v, _, ⟨T', L', k', n'⟩, -, X', ⟨Lc, hQ, l1, y1, z1⟩, q⟩ := X.specialBack hx (y := y) hy1 hown (mvT hZ w1) (mvT hZ w2) (mvT hZ w4) hy (backOf (W := W) hM hZ w4 w3 hf hl) (g := mkF m pc L st) rfl hsize (Steps.refl _) (a := a) (argsL := argsL) (rest := rest) (lenOf pd hlen) hst (by show 2 * 0 + _ ≤ _; omega) hd (fun _ _ => ⟨rfl, eT, hc, hn⟩)
  dsimp only [Pt.U, Pt.locs, Pt.cells, Pt.slots] at X' l1 y1 z1 q hQ
  subst l1 y1 z1
  exact Go.tr q (k T' Lc v X' hQ)
theorem callVirtual (X : Stand p l e R s m args below meth c T locs cells slots) (hx : p.tables.exec = Jvm.exec) (hZ : Z.Warmed39 s.vm) {own C : String} {i : Nat} {y z : MethodName} {bytes : ByteArray} {maxL : Nat} {ret : Option FieldType} {rm : Room} {Q : Option Value → Heap → List Loc → Prop}
    (hown : s.vm.findClass own = some m.cls) (w1 : (Cond.methodLink own i y).before a0 Z = true) (w2 : (Cond.declares y).before a0 Z = true) (w3 : (Cond.selects C y z).before a0 Z = true) (w5 : (Cond.instanceMethod z).before a0 Z = true) (w6 : (Cond.initialized z.cls).before a0 Z = true) (w4 : (Cond.code z bytes maxL ret).before a0 Z = true) (w7 : (Cond.selects y.cls y y).before a0 Z = true) (hy : y.cls ≠ "java/lang/invoke/MethodHandle" ∧ y.cls ≠ "java/lang/invoke/VarHandle")
    (W : Nat) (a : Addr) (argsL rest : List Value) (E : Exa Z h a C) (hM : Ct l z bytes maxL ret [] rm Z (.ref a :: argsL).toArray h Q) (hf : rm.frames + 1 ≤ R.frames) (hl : W + (maxL + 11) + rm.locals ≤ R.locals) (eT : T.heap = h) (hsize : L.size = c.maxLocals) {ps : List FieldType} {rt : Option FieldType} (pd : parseMethodDescriptor y.desc = some ⟨ps, rt⟩) (hlen : argsL.length = ps.length) (hst : st = argsL.reverse ++ .ref a :: rest) (hW : (rest.map fun v => v.category).sum ≤ W)
    (hd : decode c.code pc = .ok (.invokevirtual i, 3)) (hc : cells + rm.cells ≤ R.cells) (hn : slots + rm.slots ≤ R.slots)
    (k : ∀ T' L' v, Stand p l e R s m args below meth c T' (locs ++ L') (cells + rm.cells) (slots + rm.slots) → Q v T'.heap L' → Go p e below P (T'.setTop (mkF m (pc + 3) L (v.toList ++ rest)))) : Go p e below P (T.setTop (mkF m pc L st)) := by
  obtain ⟨cq, kq, qa, qb, qc⟩ := isOf hZ eT E
  obtain ⟨v, _, ⟨T', L', k', n'⟩, -, X', ⟨Lc, hQ, l1, y1, z1⟩, q⟩ := X.virtualBack hx (y := y) (z := z) hown (mvT hZ w1) (mvT hZ w2) (notFace_of_selects (args := #[]) (mvT hZ w7)) (mvT hZ w3) (mvT hZ w5) hy (backOf (W := W) hM hZ w4 w6 hf hl) qa qc (g := mkF m pc L st) rfl hsize (Steps.refl _) (argsL := argsL) (rest := rest) (lenOf pd hlen) hst (by show 2 * 0 + _ ≤ _; omega) hd (fun _ _ => ⟨rfl, eT, hc, hn⟩)
  dsimp only [Pt.U, Pt.locs, Pt.cells, Pt.slots] at X' l1 y1 z1 q hQ
  subst l1 y1 z1
  exact Go.tr q (k T' Lc v X' hQ)
theorem callPrivate (X : Stand p l e R s m args below meth c T locs cells slots) (hx : p.tables.exec = Jvm.exec) (hZ : Z.Warmed39 s.vm) {own C : String} {i kk : Nat} {y : MethodName} {bytes : ByteArray} {maxL : Nat} {ret : Option FieldType} {rm : Room} {Q : Option Value → Heap → List Loc → Prop}
    (hown : s.vm.findClass own = some m.cls) (w1 : (Cond.methodLink own i y).before a0 Z = true) (w2 : (Cond.instanceMethod y).before a0 Z = true) (w3 : (Cond.privateMethod y).before a0 Z = true) (w5 : (Cond.instantiable y.cls kk).before a0 Z = true) (w6 : (Cond.initialized y.cls).before a0 Z = true) (w4 : (Cond.code y bytes maxL ret).before a0 Z = true) (hy : y.cls ≠ "java/lang/invoke/MethodHandle" ∧ y.cls ≠ "java/lang/invoke/VarHandle")
    (W : Nat) (a : Addr) (argsL rest : List Value) (E : Exa Z h a C) (hM : Ct l y bytes maxL ret [] rm Z (.ref a :: argsL).toArray h Q) (hf : rm.frames + 1 ≤ R.frames) (hl : W + (maxL + 11) + rm.locals ≤ R.locals) (eT : T.heap = h) (hsize : L.size = c.maxLocals) {ps : List FieldType} {rt : Option FieldType} (pd : parseMethodDescriptor y.desc = some ⟨ps, rt⟩) (hlen : argsL.length = ps.length) (hst : st = argsL.reverse ++ .ref a :: rest) (hW : (rest.map fun v => v.category).sum ≤ W)
    (hd : decode c.code pc = .ok (.invokevirtual i, 3)) (hc : cells + rm.cells ≤ R.cells) (hn : slots + rm.slots ≤ R.slots)
    (k : ∀ T' L' v, Stand p l e R s m args below meth c T' (locs ++ L') (cells + rm.cells) (slots + rm.slots) → Q v T'.heap L' → Go p e below P (T'.setTop (mkF m (pc + 3) L (v.toList ++ rest)))) : Go p e below P (T.setTop (mkF m pc L st)) := by
  have hP : s.PrivateAt y := Cond.privateMethod_at (args := #[]) (mvP hZ w3)
  have hsel : (Cond.selects y.cls y y).before args s = true := by
    have q : (Cond.instantiable y.cls kk).before args s = true := mvT hZ w5
    obtain ⟨c2, k2, i1, i2, -, i4, -⟩ := Cond.instantiable_spec q
    rw [Bool.or_eq_false_iff] at i4
    exact selects_self_of_private i1 i2 i4.1 hP (mvT hZ w2) hy
  obtain ⟨ce, he1, he2⟩ := E.cell
  obtain ⟨v, _, ⟨T', L', k', n'⟩, -, X', ⟨Lc, hQ, l1, y1, z1⟩, q⟩ := X.privateBack hx (y := y) hown (mvT hZ w1) (mvT hZ w2) hsel hP (mvT hZ w4) hy (backOf (W := W) hM hZ w4 w6 hf hl) (g := mkF m pc L st) rfl hsize (Steps.refl _) (a := a) (cell := ce) (by rw [eT]; exact he1) he2 (argsL := argsL) (rest := rest) (lenOf pd hlen) hst (by show 2 * 0 + _ ≤ _; omega) hd (fun _ _ => ⟨rfl, eT, hc, hn⟩)
  dsimp only [Pt.U, Pt.locs, Pt.cells, Pt.slots] at X' l1 y1 z1 q hQ
  subst l1 y1 z1
  exact Go.tr q (k T' Lc v X' hQ)
theorem getstatic (X : Stand p l e R s m args below meth c T locs cells slots) (hx : p.tables.exec = Jvm.exec) (hZ : Z.Warmed39 s.vm) {own R0 O n d : String} {i : Nat} (hown : s.vm.findClass own = some m.cls) (w : (Cond.fieldLink own i R0 n d).before a0 Z = true) (via : Via Z R0 O n d)
    (eT : T.heap = h) {v : Value} (F : Sta Z h O n d v) (hd : decode c.code pc = .ok (.getstatic i, 3)) (k : ∀ T', Stand p l e R s m args below meth c T' locs cells slots → T'.heap = h → Go p e below P (T'.setTop (mkF m (pc + 3) L (v :: st)))) : Go p e below P (T.setTop (mkF m pc L st)) := by
  obtain ⟨T', X', e', q⟩ := getS X hx hZ (host := "") hown w via eT F (g := mkF m pc L st) rfl hd
  exact Go.via q (k T' X' e')
theorem ldcFloat (X : Stand p l e R s m args below meth c T locs cells slots) (hx : p.tables.exec = Jvm.exec) (hZ : Z.Warmed39 s.vm) {own : String} {i : Nat} {b : UInt32} (hown : s.vm.findClass own = some m.cls) (w : (Cond.constantFloat own i b).before a0 Z = true) (hd : decode c.code pc = .ok (.ldc i, 2)) (k : Go p e below P (T.setTop (mkF m (pc + 2) L (.float b :: st)))) : Go p e below P (T.setTop (mkF m pc L st)) := Go.via (fun t q => X.ldcFloatC hx hown (mvT hZ w) (g := mkF m pc L st) rfl hd t q) k
theorem staKeep {O n d C : String} {v : Value} {h' : Heap} {a : Addr} (F : Sta Z h O n d v) (K : Keep h h' [a]) (E : Exa Z h a C) : Sta Z h' O n d v := by
  obtain ⟨cf, i, k, f, st, cell, h1, h2, h3, h4, h5, h6, h7⟩ := F
  obtain ⟨c2, k2, e1, -, -, e4, -⟩ := E
  have ne : st ∉ [a] := fun q => by
    cases List.mem_singleton.mp q
    cases h5.symm.trans e1
    rw [h6] at e4; cases e4
  exact ⟨cf, i, k, f, st, cell, h1, h2, h3, h4, K.2.1 _ _ h5 ne, h6, h7⟩
end Walk
end Jvm.Own
namespace Jvm.Pilot.@@N@@
open Jvm Jvm.ClassFile Sem Op Lib Jvm.Free Jvm.Stand Jvm.LawKit Jvm.RoadKit Bundle Jvm.Pilot.@@N@@.Jvm.D
theorem Wd {a0 : Array Value} {Z : State} (hw : ∀ d ∈ tables_1, d.before a0 Z = true) (i : Nat) {d : Jvm.Cond} (h : tables_1[i]? = some d) : d.before a0 Z = true := hw _ (List.mem_of_getElem? h)

theorem own_nn {x : Int32} (h : 0 ≤ x.toInt) : ¬ x < 0 := fun q => by
  have := Int32.lt_iff_toInt_lt.mp q
  have h0 : (0 : Int32).toInt = 0 := by decide
  omega
theorem own_v0 (p : Int32) : 0 ≤ (p &&& (63 : Int32)).toInt ∧ (p &&& (63 : Int32)).toInt < 64 := by
  have h := c_and p 63 (by decide)
  have h3 : (63 : Int32).toInt = 63 := by decide
  omega
theorem own_v1 (p : Int32) : 64 ≤ ((64 : Int32) + (p &&& (63 : Int32))).toInt ∧ ((64 : Int32) + (p &&& (63 : Int32))).toInt < 128 := by
  have h := own_v0 p
  have a := c_iadd 64 (p &&& (63 : Int32))
  have r := rng32 ((64 : Int32) + (p &&& (63 : Int32)))
  have h3 : (64 : Int32).toInt = 64 := by decide
  omega
theorem own_v2 (p : Int32) : 128 ≤ ((128 : Int32) + (p &&& (127 : Int32))).toInt ∧ ((128 : Int32) + (p &&& (127 : Int32))).toInt < 256 := by
  have h := c_and p 127 (by decide)
  have a := c_iadd 128 (p &&& (127 : Int32))
  have r := rng32 ((128 : Int32) + (p &&& (127 : Int32)))
  have h3 : (128 : Int32).toInt = 128 := by decide
  have h4 : (127 : Int32).toInt = 127 := by decide
  omega
theorem own_n (p : Int32) {x : Int32} (e : p &&& (3 : Int32) = x) : x = 0 ∨ x = 1 ∨ x = 2 ∨ x = 3 := by
  have h := c_and p 3 (by decide)
  have h3 : (3 : Int32).toInt = 3 := by decide
  rw [e] at h
  have q : x.toInt = 0 ∨ x.toInt = 1 ∨ x.toInt = 2 ∨ x.toInt = 3 := by omega
  rcases q with q | q | q | q
  · exact Or.inl (Int32.toInt_inj.mp q)
  · exact Or.inr (Or.inl (Int32.toInt_inj.mp q))
  · exact Or.inr (Or.inr (Or.inl (Int32.toInt_inj.mp q)))
  · exact Or.inr (Or.inr (Or.inr (Int32.toInt_inj.mp q)))
def own_L (a b c : Nat) (x y z : Value) : List Value := ((((List.replicate 256 (.int (0 : Int32))).set 255 (.int (-1 : Int32))).set a x).set b y).set c z
theorem own_La {a b c : Nat} {x y z : Value} (ha : a < 64) (hb : 64 ≤ b ∧ b < 128) (hc : 128 ≤ c ∧ c < 256) : (own_L a b c x y z)[a]? = some x ∧ (own_L a b c x y z)[b]? = some y ∧ (own_L a b c x y z)[c]? = some z := by
  simp only [own_L, List.getElem?_set, List.length_set, List.length_replicate]
  refine ⟨?_, ?_, ?_⟩
  · rw [if_neg (by omega), if_neg (by omega), if_pos trivial, if_pos (by omega)]
  · rw [if_neg (by omega), if_pos trivial, if_pos (by omega)]
  · rw [if_pos trivial, if_pos (by omega)]
theorem own_get {v0 v1 v2 : Int32} {x y z : Value} (h0 : 0 ≤ v0.toInt ∧ v0.toInt < 64) (h1 : 64 ≤ v1.toInt ∧ v1.toInt < 128) (h2 : 128 ≤ v2.toInt ∧ v2.toInt < 256) :
    (own_L v0.toNatClampNeg v1.toNatClampNeg v2.toNatClampNeg x y z)[v0.toNatClampNeg]? = some x ∧ (own_L v0.toNatClampNeg v1.toNatClampNeg v2.toNatClampNeg x y z)[v1.toNatClampNeg]? = some y ∧ (own_L v0.toNatClampNeg v1.toNatClampNeg v2.toNatClampNeg x y z)[v2.toNatClampNeg]? = some z := by
  have e0 : v0.toNatClampNeg = v0.toInt.toNat := rfl
  have e1 : v1.toNatClampNeg = v1.toInt.toNat := rfl
  have e2 : v2.toNatClampNeg = v2.toInt.toNat := rfl
  rw [e0, e1, e2]
  exact own_La (by omega) (by omega) (by omega)
theorem d2_0 : decode jdk_30_method_1_code 0 = .ok (.aload_n 0, 1) := by decide +kernel
theorem d2_1 : decode jdk_30_method_1_code 1 = .ok (.invokespecial 1, 3) := by decide +kernel
theorem d2_4 : decode jdk_30_method_1_code 4 = .ok (.return_, 1) := by decide +kernel
theorem ef_rm2 (m : MethodId) (o : Addr) : entryFrame m #[(.ref o)] 1 = mkF m 0 #[.val (.ref o)] [] := by first | (simp [entryFrame, mkF, argsToLocals, Value.category]; done) | rfl
theorem pn0 : plainName "java/lang/Record" = true := by first | (simp [plainName, overriddenIn]; done) | decide +kernel
set_option maxRecDepth 65536 in
set_option maxHeartbeats 40000000 in
theorem rm2 (l : Launch) (Z : State) (a0 : Array Value) (hw : ∀ d ∈ tables_1, d.before a0 Z = true) (o : Addr) (h0 : Heap) (n0 : Nat) (Z0 : n0 ≤ h0.size) :
    Own.Ct l (⟨"java/lang/Record", "<init>", "()V"⟩ : MethodName) jdk_30_method_1_code 1 none [] ({ frames := 1, cells := 0, slots := 0, locals := 12 } : Room) Z #[(.ref o)] h0 (fun rV hP lC => rV = none ∧ Fr n0 lC ∧ hP = h0) := by
  refine Own.enter (plainFor_of_name pn0) ?_
  intro p e s m below meth cc s₁ hx hby hml hown hnm hret hk hZ X0 e0
  have N0 := Fr.nil n0
  refine Own.start (ef_rm2 m o) ?_
  refine Own.aloadN X0 hx (pc := 0) (hb hby d2_0) rfl rfl ?_
  refine Own.initObj X0 hx hZ (pc := 1) hown (Wd hw 13 rfl) (Wd hw 14 rfl) (Wd hw 15 rfl) e0 (by rw [hml]; rfl) (hb hby d2_1) (by decide) 0 (Nat.le_of_eq rfl) (by decide) ?_
  intro T1 X1 e1
  exact Own.vreturn X1 hx hk hret (hb hby d2_4) e1 ⟨rfl, N0, rfl⟩ (by decide) (by decide)
theorem d1_0 : decode prog_1_method_1_code 0 = .ok (.aload_n 0, 1) := by decide +kernel
theorem pd1 : parseMethodDescriptor "()V" = some ⟨[], none⟩ := by decide +kernel
theorem d1_1 : decode prog_1_method_1_code 1 = .ok (.invokespecial 1, 3) := by decide +kernel
theorem d1_4 : decode prog_1_method_1_code 4 = .ok (.aload_n 0, 1) := by decide +kernel
theorem d1_5 : decode prog_1_method_1_code 5 = .ok (.lload_n 1, 1) := by decide +kernel
theorem d1_6 : decode prog_1_method_1_code 6 = .ok (.putfield 7, 3) := by decide +kernel
theorem d1_9 : decode prog_1_method_1_code 9 = .ok (.aload_n 0, 1) := by decide +kernel
theorem d1_10 : decode prog_1_method_1_code 10 = .ok (.aload_n 3, 1) := by decide +kernel
theorem d1_11 : decode prog_1_method_1_code 11 = .ok (.putfield 13, 3) := by decide +kernel
theorem d1_14 : decode prog_1_method_1_code 14 = .ok (.aload_n 0, 1) := by decide +kernel
theorem d1_15 : decode prog_1_method_1_code 15 = .ok (.aload 4, 2) := by decide +kernel
theorem d1_17 : decode prog_1_method_1_code 17 = .ok (.putfield 17, 3) := by decide +kernel
theorem d1_20 : decode prog_1_method_1_code 20 = .ok (.aload_n 0, 1) := by decide +kernel
theorem d1_21 : decode prog_1_method_1_code 21 = .ok (.aload 5, 2) := by decide +kernel
theorem d1_23 : decode prog_1_method_1_code 23 = .ok (.putfield 21, 3) := by decide +kernel
theorem d1_26 : decode prog_1_method_1_code 26 = .ok (.aload_n 0, 1) := by decide +kernel
theorem d1_27 : decode prog_1_method_1_code 27 = .ok (.lload 6, 2) := by decide +kernel
theorem d1_29 : decode prog_1_method_1_code 29 = .ok (.putfield 24, 3) := by decide +kernel
theorem d1_32 : decode prog_1_method_1_code 32 = .ok (.return_, 1) := by decide +kernel
theorem ef_rm1 (m : MethodId) (o : Addr) (len : Int64) (va : Addr) (wa : Addr) (la : Addr) (pay : Int64) : entryFrame m #[(.ref o), (.long len), (.ref va), (.ref wa), (.ref la), (.long pay)] 8 = mkF m 0 #[.val (.ref o), .val (.long len), .second, .val (.ref va), .val (.ref wa), .val (.ref la), .val (.long pay), .second] [] := by first | (simp [entryFrame, mkF, argsToLocals, Value.category]; done) | rfl
theorem pn2 : plainName "shortleaf/BlockCode" = true := by first | (simp [plainName, overriddenIn]; done) | decide +kernel
set_option maxRecDepth 65536 in
set_option maxHeartbeats 40000000 in
theorem rm1 (l : Launch) (Z : State) (a0 : Array Value) (hw : ∀ d ∈ tables_1, d.before a0 Z = true) (o : Addr) (len : Int64) (va : Addr) (wa : Addr) (la : Addr) (pay : Int64) (h0 : Heap) (n0 : Nat) (Z0 : n0 ≤ h0.size) (E_o : Exa Z h0 o "shortleaf/BlockCode") (F_o_length : Fld Z h0 o "shortleaf/BlockCode" "length" "J" (.long (0 : Int64))) (F_o_values : Fld Z h0 o "shortleaf/BlockCode" "values" "[I" .null) (F_o_weights : Fld Z h0 o "shortleaf/BlockCode" "weights" "[J" .null) (F_o_lengths : Fld Z h0 o "shortleaf/BlockCode" "lengths" "[I" .null) (F_o_payloadBits : Fld Z h0 o "shortleaf/BlockCode" "payloadBits" "J" (.long (0 : Int64))) (ge_o : n0 ≤ o) :
    Own.Ct l (⟨"shortleaf/BlockCode", "<init>", "(J[I[J[IJ)V"⟩ : MethodName) prog_1_method_1_code 8 none [] ({ frames := 2, cells := 0, slots := 0, locals := 24 } : Room) Z #[(.ref o), (.long len), (.ref va), (.ref wa), (.ref la), (.long pay)] h0 (fun rV hP lC => rV = none ∧ Fr n0 lC ∧ Keep h0 hP [o] ∧ Fld Z hP o "shortleaf/BlockCode" "values" "[I" (.ref va) ∧ Fld Z hP o "shortleaf/BlockCode" "weights" "[J" (.ref wa)) := by
  refine Own.enter (plainFor_of_name pn2) ?_
  intro p e s m below meth cc s₁ hx hby hml hown hnm hret hk hZ X0 e0
  have N0 := Fr.nil n0
  refine Own.start (ef_rm1 m o len va wa la pay) ?_
  have K : Keep h0 h0 [o] := Keep.refl _ _
  refine Own.aloadN X0 hx (pc := 0) (hb hby d1_0) rfl rfl ?_
  refine Own.callSpecial X0 hx hZ (pc := 1) (y := (⟨"java/lang/Record", "<init>", "()V"⟩ : MethodName)) rfl hown (Wd hw 8 rfl) (Wd hw 9 rfl) (Wd hw 11 rfl) (Wd hw 12 rfl) (by decide) 0 o [] [] (rm2 l Z a0 hw o h0 n0 Z0 ) (by decide) (by decide) e0 (by rw [hml]; rfl) pd1 rfl rfl (Nat.le_of_eq rfl) (hb hby d1_1) (by decide) (by decide) ?_
  intro T1 L1 v1 X1 hQ1
  obtain ⟨rfl, Nq1, e1⟩ := hQ1
  have N1 := Fr.app N0 Nq1
  show Own.Go p e below _ (T1.setTop (mkF m 4 #[.val (.ref o), .val (.long len), .second, .val (.ref va), .val (.ref wa), .val (.ref la), .val (.long pay), .second] []))
  refine Own.aloadN X1 hx (pc := 4) (hb hby d1_4) rfl rfl ?_
  refine Own.lloadN X1 hx (pc := 5) (hb hby d1_5) rfl ?_
  refine Own.putfield X1 hx hZ (pc := 6) hown (host := "") (Or.inl (Wd hw 16 rfl)) Via.refl e1 F_o_length E_o (Or.inr ⟨(Wd hw 17 rfl), rfl, hnm⟩) (Wd hw 3 rfl) (ty := .long) (by decide) rfl rfl N1 ge_o (hb hby d1_6) ?_
  intro T2 h2 X2 e2 W2 N2 F_o_length
  have sz2 : n0 ≤ h2.size := Nat.le_trans Z0 (Nat.le_of_eq (Wr.size W2).symm)
  have E_o := Exa.wr W2 E_o
  have F_o_values := Fld.other W2 F_o_values (Or.inr (slot_ne (Or.inr (Wd hw 19 rfl)) (Or.inr (Wd hw 17 rfl)) (by decide) (ht := (by decide : parseFieldDescriptor "[I" = some (.array .int))) (ht' := (by decide : parseFieldDescriptor "J" = some .long))))
  have F_o_weights := Fld.other W2 F_o_weights (Or.inr (slot_ne (Or.inr (Wd hw 21 rfl)) (Or.inr (Wd hw 17 rfl)) (by decide) (ht := (by decide : parseFieldDescriptor "[J" = some (.array .long))) (ht' := (by decide : parseFieldDescriptor "J" = some .long))))
  have F_o_lengths := Fld.other W2 F_o_lengths (Or.inr (slot_ne (Or.inr (Wd hw 23 rfl)) (Or.inr (Wd hw 17 rfl)) (by decide) (ht := (by decide : parseFieldDescriptor "[I" = some (.array .int))) (ht' := (by decide : parseFieldDescriptor "J" = some .long))))
  have F_o_payloadBits := Fld.other W2 F_o_payloadBits (Or.inr (slot_ne (Or.inr (Wd hw 25 rfl)) (Or.inr (Wd hw 17 rfl)) (by decide) (ht := (by decide : parseFieldDescriptor "J" = some .long)) (ht' := (by decide : parseFieldDescriptor "J" = some .long))))
  have K := K.wr W2 (Or.inl (by simp))
  refine Own.aloadN X2 hx (pc := 9) (hb hby d1_9) rfl rfl ?_
  refine Own.aloadN X2 hx (pc := 10) (hb hby d1_10) rfl rfl ?_
  refine Own.putfield X2 hx hZ (pc := 11) hown (host := "") (Or.inl (Wd hw 18 rfl)) Via.refl e2 F_o_values E_o (Or.inr ⟨(Wd hw 19 rfl), rfl, hnm⟩) (Wd hw 3 rfl) (ty := (.array .int)) (by decide) rfl rfl N2 ge_o (hb hby d1_11) ?_
  intro T3 h3 X3 e3 W3 N3 F_o_values
  have sz3 : n0 ≤ h3.size := Nat.le_trans sz2 (Nat.le_of_eq (Wr.size W3).symm)
  have E_o := Exa.wr W3 E_o
  have F_o_length := Fld.other W3 F_o_length (Or.inr (slot_ne (Or.inr (Wd hw 17 rfl)) (Or.inr (Wd hw 19 rfl)) (by decide) (ht := (by decide : parseFieldDescriptor "J" = some .long)) (ht' := (by decide : parseFieldDescriptor "[I" = some (.array .int)))))
  have F_o_weights := Fld.other W3 F_o_weights (Or.inr (slot_ne (Or.inr (Wd hw 21 rfl)) (Or.inr (Wd hw 19 rfl)) (by decide) (ht := (by decide : parseFieldDescriptor "[J" = some (.array .long))) (ht' := (by decide : parseFieldDescriptor "[I" = some (.array .int)))))
  have F_o_lengths := Fld.other W3 F_o_lengths (Or.inr (slot_ne (Or.inr (Wd hw 23 rfl)) (Or.inr (Wd hw 19 rfl)) (by decide) (ht := (by decide : parseFieldDescriptor "[I" = some (.array .int))) (ht' := (by decide : parseFieldDescriptor "[I" = some (.array .int)))))
  have F_o_payloadBits := Fld.other W3 F_o_payloadBits (Or.inr (slot_ne (Or.inr (Wd hw 25 rfl)) (Or.inr (Wd hw 19 rfl)) (by decide) (ht := (by decide : parseFieldDescriptor "J" = some .long)) (ht' := (by decide : parseFieldDescriptor "[I" = some (.array .int)))))
  have K := K.wr W3 (Or.inl (by simp))
  refine Own.aloadN X3 hx (pc := 14) (hb hby d1_14) rfl rfl ?_
  refine Own.aload X3 hx (pc := 15) (hb hby d1_15) rfl rfl ?_
  refine Own.putfield X3 hx hZ (pc := 17) hown (host := "") (Or.inl (Wd hw 20 rfl)) Via.refl e3 F_o_weights E_o (Or.inr ⟨(Wd hw 21 rfl), rfl, hnm⟩) (Wd hw 3 rfl) (ty := (.array .long)) (by decide) rfl rfl N3 ge_o (hb hby d1_17) ?_
  intro T4 h4 X4 e4 W4 N4 F_o_weights
  have sz4 : n0 ≤ h4.size := Nat.le_trans sz3 (Nat.le_of_eq (Wr.size W4).symm)
  have E_o := Exa.wr W4 E_o
  have F_o_length := Fld.other W4 F_o_length (Or.inr (slot_ne (Or.inr (Wd hw 17 rfl)) (Or.inr (Wd hw 21 rfl)) (by decide) (ht := (by decide : parseFieldDescriptor "J" = some .long)) (ht' := (by decide : parseFieldDescriptor "[J" = some (.array .long)))))
  have F_o_values := Fld.other W4 F_o_values (Or.inr (slot_ne (Or.inr (Wd hw 19 rfl)) (Or.inr (Wd hw 21 rfl)) (by decide) (ht := (by decide : parseFieldDescriptor "[I" = some (.array .int))) (ht' := (by decide : parseFieldDescriptor "[J" = some (.array .long)))))
  have F_o_lengths := Fld.other W4 F_o_lengths (Or.inr (slot_ne (Or.inr (Wd hw 23 rfl)) (Or.inr (Wd hw 21 rfl)) (by decide) (ht := (by decide : parseFieldDescriptor "[I" = some (.array .int))) (ht' := (by decide : parseFieldDescriptor "[J" = some (.array .long)))))
  have F_o_payloadBits := Fld.other W4 F_o_payloadBits (Or.inr (slot_ne (Or.inr (Wd hw 25 rfl)) (Or.inr (Wd hw 21 rfl)) (by decide) (ht := (by decide : parseFieldDescriptor "J" = some .long)) (ht' := (by decide : parseFieldDescriptor "[J" = some (.array .long)))))
  have K := K.wr W4 (Or.inl (by simp))
  refine Own.aloadN X4 hx (pc := 20) (hb hby d1_20) rfl rfl ?_
  refine Own.aload X4 hx (pc := 21) (hb hby d1_21) rfl rfl ?_
  refine Own.putfield X4 hx hZ (pc := 23) hown (host := "") (Or.inl (Wd hw 22 rfl)) Via.refl e4 F_o_lengths E_o (Or.inr ⟨(Wd hw 23 rfl), rfl, hnm⟩) (Wd hw 3 rfl) (ty := (.array .int)) (by decide) rfl rfl N4 ge_o (hb hby d1_23) ?_
  intro T5 h5 X5 e5 W5 N5 F_o_lengths
  have sz5 : n0 ≤ h5.size := Nat.le_trans sz4 (Nat.le_of_eq (Wr.size W5).symm)
  have E_o := Exa.wr W5 E_o
  have F_o_length := Fld.other W5 F_o_length (Or.inr (slot_ne (Or.inr (Wd hw 17 rfl)) (Or.inr (Wd hw 23 rfl)) (by decide) (ht := (by decide : parseFieldDescriptor "J" = some .long)) (ht' := (by decide : parseFieldDescriptor "[I" = some (.array .int)))))
  have F_o_values := Fld.other W5 F_o_values (Or.inr (slot_ne (Or.inr (Wd hw 19 rfl)) (Or.inr (Wd hw 23 rfl)) (by decide) (ht := (by decide : parseFieldDescriptor "[I" = some (.array .int))) (ht' := (by decide : parseFieldDescriptor "[I" = some (.array .int)))))
  have F_o_weights := Fld.other W5 F_o_weights (Or.inr (slot_ne (Or.inr (Wd hw 21 rfl)) (Or.inr (Wd hw 23 rfl)) (by decide) (ht := (by decide : parseFieldDescriptor "[J" = some (.array .long))) (ht' := (by decide : parseFieldDescriptor "[I" = some (.array .int)))))
  have F_o_payloadBits := Fld.other W5 F_o_payloadBits (Or.inr (slot_ne (Or.inr (Wd hw 25 rfl)) (Or.inr (Wd hw 23 rfl)) (by decide) (ht := (by decide : parseFieldDescriptor "J" = some .long)) (ht' := (by decide : parseFieldDescriptor "[I" = some (.array .int)))))
  have K := K.wr W5 (Or.inl (by simp))
  refine Own.aloadN X5 hx (pc := 26) (hb hby d1_26) rfl rfl ?_
  refine Own.lload X5 hx (pc := 27) (hb hby d1_27) rfl ?_
  refine Own.putfield X5 hx hZ (pc := 29) hown (host := "") (Or.inl (Wd hw 24 rfl)) Via.refl e5 F_o_payloadBits E_o (Or.inr ⟨(Wd hw 25 rfl), rfl, hnm⟩) (Wd hw 3 rfl) (ty := .long) (by decide) rfl rfl N5 ge_o (hb hby d1_29) ?_
  intro T6 h6 X6 e6 W6 N6 F_o_payloadBits
  have sz6 : n0 ≤ h6.size := Nat.le_trans sz5 (Nat.le_of_eq (Wr.size W6).symm)
  have E_o := Exa.wr W6 E_o
  have F_o_length := Fld.other W6 F_o_length (Or.inr (slot_ne (Or.inr (Wd hw 17 rfl)) (Or.inr (Wd hw 25 rfl)) (by decide) (ht := (by decide : parseFieldDescriptor "J" = some .long)) (ht' := (by decide : parseFieldDescriptor "J" = some .long))))
  have F_o_values := Fld.other W6 F_o_values (Or.inr (slot_ne (Or.inr (Wd hw 19 rfl)) (Or.inr (Wd hw 25 rfl)) (by decide) (ht := (by decide : parseFieldDescriptor "[I" = some (.array .int))) (ht' := (by decide : parseFieldDescriptor "J" = some .long))))
  have F_o_weights := Fld.other W6 F_o_weights (Or.inr (slot_ne (Or.inr (Wd hw 21 rfl)) (Or.inr (Wd hw 25 rfl)) (by decide) (ht := (by decide : parseFieldDescriptor "[J" = some (.array .long))) (ht' := (by decide : parseFieldDescriptor "J" = some .long))))
  have F_o_lengths := Fld.other W6 F_o_lengths (Or.inr (slot_ne (Or.inr (Wd hw 23 rfl)) (Or.inr (Wd hw 25 rfl)) (by decide) (ht := (by decide : parseFieldDescriptor "[I" = some (.array .int))) (ht' := (by decide : parseFieldDescriptor "J" = some .long))))
  have K := K.wr W6 (Or.inl (by simp))
  exact Own.vreturn X6 hx hk hret (hb hby d1_32) e6 ⟨rfl, N6, K, F_o_values, F_o_weights⟩ (by decide) (by decide)
theorem d4_0 : decode prog_1_method_4_code 0 = .ok (.lconst 0, 1) := by decide +kernel
theorem d4_1 : decode prog_1_method_4_code 1 = .ok (.lstore_n 2, 1) := by decide +kernel
theorem d4_2 : decode prog_1_method_4_code 2 = .ok (.iconst 0, 1) := by decide +kernel
theorem d4_3 : decode prog_1_method_4_code 3 = .ok (.istore 4, 2) := by decide +kernel
theorem d4_5 : decode prog_1_method_4_code 5 = .ok (.iload 4, 2) := by decide +kernel
theorem d4_7 : decode prog_1_method_4_code 7 = .ok (.aload_n 0, 1) := by decide +kernel
theorem d4_8 : decode prog_1_method_4_code 8 = .ok (.getfield 13, 3) := by decide +kernel
theorem d4_11 : decode prog_1_method_4_code 11 = .ok (.arraylength, 1) := by decide +kernel
theorem d4_12 : decode prog_1_method_4_code 12 = .ok (.if_icmp .ge 43, 3) := by decide +kernel
theorem d4_55 : decode prog_1_method_4_code 55 = .ok (.lload_n 2, 1) := by decide +kernel
theorem d4_56 : decode prog_1_method_4_code 56 = .ok (.lreturn, 1) := by decide +kernel
theorem ef_rm4_0 (m : MethodId) (o : Addr) (lo : Addr) : entryFrame m #[(.ref o), (.ref lo)] 6 = mkF m 0 #[.val (.ref o), .val (.ref lo), .unset, .unset, .unset, .unset] [] := by first | (simp [entryFrame, mkF, argsToLocals, Value.category]; done) | rfl
set_option maxRecDepth 65536 in
set_option maxHeartbeats 40000000 in
theorem rm4_0 (l : Launch) (Z : State) (a0 : Array Value) (hw : ∀ d ∈ tables_1, d.before a0 Z = true) (o : Addr) (lo : Addr) (va : Addr) (wa : Addr) (lv : List Value) (h0 : Heap) (n0 : Nat) (Z0 : n0 ≤ h0.size) (F_o_values : Fld Z h0 o "shortleaf/BlockCode" "values" "[I" (.ref va)) (F_o_weights : Fld Z h0 o "shortleaf/BlockCode" "weights" "[J" (.ref wa)) (V_va : Own.VArr Z h0 va .int ([] : List Value)) (V_wa : Own.VArr Z h0 wa .long ([] : List Value)) (V_lo : Own.VArr Z h0 lo .int lv) :
    Own.Ct l (⟨"shortleaf/BlockCode", "bitsIn", "([I)J"⟩ : MethodName) prog_1_method_4_code 6 (some .long) [] ({ frames := 0, cells := 0, slots := 0, locals := 0 } : Room) Z #[(.ref o), (.ref lo)] h0 (fun rV hP lC => rV = some (.long (0 : Int64)) ∧ Fr n0 lC ∧ hP = h0) := by
  refine Own.enter (plainFor_of_name pn2) ?_
  intro p e s m below meth cc s₁ hx hby hml hown hnm hret hk hZ X0 e0
  have N0 := Fr.nil n0
  refine Own.start (ef_rm4_0 m o lo) ?_
  refine Own.lconst X0 hx (pc := 0) (0 : Int64) (hb hby d4_0) (by decide) ?_
  refine Own.lstoreN X0 hx (pc := 1) #[.val (.ref o), .val (.ref lo), .val (.long (0 : Int64)), .second, .unset, .unset] (hb hby d4_1) rfl ?_
  refine Own.iconst X0 hx (pc := 2) (0 : Int32) (hb hby d4_2) (by decide) ?_
  refine Own.istore X0 hx (pc := 3) #[.val (.ref o), .val (.ref lo), .val (.long (0 : Int64)), .second, .val (.int (0 : Int32)), .unset] (hb hby d4_3) rfl ?_
  refine Own.iload X0 hx (pc := 5) (hb hby d4_5) rfl ?_
  refine Own.aloadN X0 hx (pc := 7) (hb hby d4_7) rfl rfl ?_
  refine Own.getfield X0 hx hZ (pc := 8) hown (host := "") (Or.inl (Wd hw 18 rfl)) Via.refl e0 F_o_values (hb hby d4_8) ?_
  intro T1 X1 e1
  refine Own.alen X1 hx hZ (pc := 11) e1 V_va (0 : Int32) rfl (hb hby d4_11) ?_
  refine Own.icmpYes X1 hx (pc := 12) 55 (hb hby d4_12) (by decide) (by decide) (by decide) ?_
  refine Own.lloadN X1 hx (pc := 55) (hb hby d4_55) rfl ?_
  exact Own.lreturn X1 hx hk hret (hb hby d4_56) e1 ⟨by simp [], N0, rfl⟩ (by decide) (by decide)
theorem d4_15 : decode prog_1_method_4_code 15 = .ok (.aload_n 1, 1) := by decide +kernel
theorem d4_16 : decode prog_1_method_4_code 16 = .ok (.aload_n 0, 1) := by decide +kernel
theorem d4_17 : decode prog_1_method_4_code 17 = .ok (.getfield 13, 3) := by decide +kernel
theorem d4_20 : decode prog_1_method_4_code 20 = .ok (.iload 4, 2) := by decide +kernel
theorem d4_22 : decode prog_1_method_4_code 22 = .ok (.iaload, 1) := by decide +kernel
theorem d4_23 : decode prog_1_method_4_code 23 = .ok (.iaload, 1) := by decide +kernel
theorem d4_24 : decode prog_1_method_4_code 24 = .ok (.istore 5, 2) := by decide +kernel
theorem d4_26 : decode prog_1_method_4_code 26 = .ok (.iload 5, 2) := by decide +kernel
theorem d4_28 : decode prog_1_method_4_code 28 = .ok (.ifCond .ge 7, 3) := by decide +kernel
theorem d4_31 : decode prog_1_method_4_code 31 = .ok (.ldc2_w 50, 3) := by decide +kernel
theorem d4_34 : decode prog_1_method_4_code 34 = .ok (.lreturn, 1) := by decide +kernel
theorem d4_35 : decode prog_1_method_4_code 35 = .ok (.lload_n 2, 1) := by decide +kernel
theorem d4_36 : decode prog_1_method_4_code 36 = .ok (.aload_n 0, 1) := by decide +kernel
theorem d4_37 : decode prog_1_method_4_code 37 = .ok (.getfield 17, 3) := by decide +kernel
theorem d4_40 : decode prog_1_method_4_code 40 = .ok (.iload 4, 2) := by decide +kernel
theorem d4_42 : decode prog_1_method_4_code 42 = .ok (.laload, 1) := by decide +kernel
theorem d4_43 : decode prog_1_method_4_code 43 = .ok (.iload 5, 2) := by decide +kernel
theorem d4_45 : decode prog_1_method_4_code 45 = .ok (.i2l, 1) := by decide +kernel
theorem d4_46 : decode prog_1_method_4_code 46 = .ok (.lmul, 1) := by decide +kernel
theorem d4_47 : decode prog_1_method_4_code 47 = .ok (.ladd, 1) := by decide +kernel
theorem d4_48 : decode prog_1_method_4_code 48 = .ok (.lstore_n 2, 1) := by decide +kernel
theorem d4_49 : decode prog_1_method_4_code 49 = .ok (.iinc 4 1, 3) := by decide +kernel
theorem d4_52 : decode prog_1_method_4_code 52 = .ok (.goto (-47), 3) := by decide +kernel
theorem ef_rm4_1 (m : MethodId) (o : Addr) (lo : Addr) : entryFrame m #[(.ref o), (.ref lo)] 6 = mkF m 0 #[.val (.ref o), .val (.ref lo), .unset, .unset, .unset, .unset] [] := by first | (simp [entryFrame, mkF, argsToLocals, Value.category]; done) | rfl
set_option maxRecDepth 65536 in
set_option maxHeartbeats 40000000 in
theorem rm4_1 (l : Launch) (Z : State) (a0 : Array Value) (hw : ∀ d ∈ tables_1, d.before a0 Z = true) (o : Addr) (lo : Addr) (va : Addr) (wa : Addr) (lv : List Value) (u0 : Int32) (wt0 : Int64) (ln0 : Int32) (h0 : Heap) (n0 : Nat) (Z0 : n0 ≤ h0.size) (F_o_values : Fld Z h0 o "shortleaf/BlockCode" "values" "[I" (.ref va)) (F_o_weights : Fld Z h0 o "shortleaf/BlockCode" "weights" "[J" (.ref wa)) (V_va : Own.VArr Z h0 va .int [(.int u0)]) (V_wa : Own.VArr Z h0 wa .long [(.long wt0)]) (V_lo : Own.VArr Z h0 lo .int lv) (hn0 : ¬ u0 < 0) (hv0 : lv[u0.toNatClampNeg]? = some (.int ln0)) :
    Own.Ct l (⟨"shortleaf/BlockCode", "bitsIn", "([I)J"⟩ : MethodName) prog_1_method_4_code 6 (some .long) [] ({ frames := 0, cells := 0, slots := 0, locals := 0 } : Room) Z #[(.ref o), (.ref lo)] h0 (fun rV hP lC => rV = some (.long (if ln0 < 0 then (-1 : Int64) else ((0 : Int64) + (wt0 * ln0.toInt64)))) ∧ Fr n0 lC ∧ hP = h0) := by
  refine Own.enter (plainFor_of_name pn2) ?_
  intro p e s m below meth cc s₁ hx hby hml hown hnm hret hk hZ X0 e0
  have N0 := Fr.nil n0
  refine Own.start (ef_rm4_1 m o lo) ?_
  refine Own.lconst X0 hx (pc := 0) (0 : Int64) (hb hby d4_0) (by decide) ?_
  refine Own.lstoreN X0 hx (pc := 1) #[.val (.ref o), .val (.ref lo), .val (.long (0 : Int64)), .second, .unset, .unset] (hb hby d4_1) rfl ?_
  refine Own.iconst X0 hx (pc := 2) (0 : Int32) (hb hby d4_2) (by decide) ?_
  refine Own.istore X0 hx (pc := 3) #[.val (.ref o), .val (.ref lo), .val (.long (0 : Int64)), .second, .val (.int (0 : Int32)), .unset] (hb hby d4_3) rfl ?_
  refine Own.iload X0 hx (pc := 5) (hb hby d4_5) rfl ?_
  refine Own.aloadN X0 hx (pc := 7) (hb hby d4_7) rfl rfl ?_
  refine Own.getfield X0 hx hZ (pc := 8) hown (host := "") (Or.inl (Wd hw 18 rfl)) Via.refl e0 F_o_values (hb hby d4_8) ?_
  intro T1 X1 e1
  refine Own.alen X1 hx hZ (pc := 11) e1 V_va (1 : Int32) rfl (hb hby d4_11) ?_
  refine Own.icmpNo X1 hx (pc := 12) (hb hby d4_12) (by decide) ?_
  refine Own.aloadN X1 hx (pc := 15) (hb hby d4_15) rfl rfl ?_
  refine Own.aloadN X1 hx (pc := 16) (hb hby d4_16) rfl rfl ?_
  refine Own.getfield X1 hx hZ (pc := 17) hown (host := "") (Or.inl (Wd hw 18 rfl)) Via.refl e1 F_o_values (hb hby d4_17) ?_
  intro T2 X2 e2
  refine Own.iload X2 hx (pc := 20) (hb hby d4_20) rfl ?_
  refine Own.iaload X2 hx hZ (pc := 22) e2 V_va (v := (.int u0)) 0 (by decide) (by decide) rfl (hb hby d4_22) ?_
  refine Own.iaload X2 hx hZ (pc := 23) e2 V_lo (v := (.int ln0)) u0.toNatClampNeg hn0 rfl hv0 (hb hby d4_23) ?_
  refine Own.istore X2 hx (pc := 24) #[.val (.ref o), .val (.ref lo), .val (.long (0 : Int64)), .second, .val (.int (0 : Int32)), .val (.int ln0)] (hb hby d4_24) rfl ?_
  refine Own.iload X2 hx (pc := 26) (hb hby d4_26) rfl ?_
  by_cases c3 : ln0 < (0 : Int32)
  · refine Own.ifNo X2 hx (pc := 28) (hb hby d4_28) (XT.i0_ge_f c3) ?_
    refine Own.ldc2J X2 hx hZ (pc := 31) hown (Wd hw 31 rfl) (hb hby d4_31) ?_
    exact Own.lreturn X2 hx hk hret (hb hby d4_34) e2 ⟨by simp [c3], N0, rfl⟩ (by decide) (by decide)
  · refine Own.ifYes X2 hx (pc := 28) 35 (hb hby d4_28) (XT.i0_ge_t c3) (by decide) (by decide) ?_
    refine Own.lloadN X2 hx (pc := 35) (hb hby d4_35) rfl ?_
    refine Own.aloadN X2 hx (pc := 36) (hb hby d4_36) rfl rfl ?_
    refine Own.getfield X2 hx hZ (pc := 37) hown (host := "") (Or.inl (Wd hw 20 rfl)) Via.refl e2 F_o_weights (hb hby d4_37) ?_
    intro T4 X4 e4
    refine Own.iload X4 hx (pc := 40) (hb hby d4_40) rfl ?_
    refine Own.laload X4 hx hZ (pc := 42) e4 V_wa (v := (.long wt0)) 0 (by decide) (by decide) rfl (hb hby d4_42) ?_
    refine Own.iload X4 hx (pc := 43) (hb hby d4_43) rfl ?_
    refine Own.i2l X4 hx (pc := 45) (hb hby d4_45) ?_
    refine Own.lmul X4 hx (pc := 46) (hb hby d4_46) ?_
    refine Own.ladd X4 hx (pc := 47) (hb hby d4_47) ?_
    refine Own.lstoreN X4 hx (pc := 48) #[.val (.ref o), .val (.ref lo), .val (.long ((0 : Int64) + (wt0 * ln0.toInt64))), .second, .val (.int (0 : Int32)), .val (.int ln0)] (hb hby d4_48) rfl ?_
    refine Own.iincV X4 hx (pc := 49) (1 : Int32) (1 : Int32) #[.val (.ref o), .val (.ref lo), .val (.long ((0 : Int64) + (wt0 * ln0.toInt64))), .second, .val (.int (1 : Int32)), .val (.int ln0)] (hb hby d4_49) (by decide) rfl (by decide) rfl ?_
    refine Own.goto X4 hx (pc := 52) 5 (hb hby d4_52) (by decide) (by decide) ?_
    refine Own.iload X4 hx (pc := 5) (hb hby d4_5) rfl ?_
    refine Own.aloadN X4 hx (pc := 7) (hb hby d4_7) rfl rfl ?_
    refine Own.getfield X4 hx hZ (pc := 8) hown (host := "") (Or.inl (Wd hw 18 rfl)) Via.refl e4 F_o_values (hb hby d4_8) ?_
    intro T5 X5 e5
    refine Own.alen X5 hx hZ (pc := 11) e5 V_va (1 : Int32) rfl (hb hby d4_11) ?_
    refine Own.icmpYes X5 hx (pc := 12) 55 (hb hby d4_12) (by decide) (by decide) (by decide) ?_
    refine Own.lloadN X5 hx (pc := 55) (hb hby d4_55) rfl ?_
    exact Own.lreturn X5 hx hk hret (hb hby d4_56) e5 ⟨by simp [c3], N0, rfl⟩ (by decide) (by decide)
theorem ef_rm4_2 (m : MethodId) (o : Addr) (lo : Addr) : entryFrame m #[(.ref o), (.ref lo)] 6 = mkF m 0 #[.val (.ref o), .val (.ref lo), .unset, .unset, .unset, .unset] [] := by first | (simp [entryFrame, mkF, argsToLocals, Value.category]; done) | rfl
set_option maxRecDepth 65536 in
set_option maxHeartbeats 40000000 in
theorem rm4_2 (l : Launch) (Z : State) (a0 : Array Value) (hw : ∀ d ∈ tables_1, d.before a0 Z = true) (o : Addr) (lo : Addr) (va : Addr) (wa : Addr) (lv : List Value) (u0 : Int32) (u1 : Int32) (wt0 : Int64) (wt1 : Int64) (ln0 : Int32) (ln1 : Int32) (h0 : Heap) (n0 : Nat) (Z0 : n0 ≤ h0.size) (F_o_values : Fld Z h0 o "shortleaf/BlockCode" "values" "[I" (.ref va)) (F_o_weights : Fld Z h0 o "shortleaf/BlockCode" "weights" "[J" (.ref wa)) (V_va : Own.VArr Z h0 va .int [(.int u0), (.int u1)]) (V_wa : Own.VArr Z h0 wa .long [(.long wt0), (.long wt1)]) (V_lo : Own.VArr Z h0 lo .int lv) (hn0 : ¬ u0 < 0) (hv0 : lv[u0.toNatClampNeg]? = some (.int ln0)) (hn1 : ¬ u1 < 0) (hv1 : lv[u1.toNatClampNeg]? = some (.int ln1)) :
    Own.Ct l (⟨"shortleaf/BlockCode", "bitsIn", "([I)J"⟩ : MethodName) prog_1_method_4_code 6 (some .long) [] ({ frames := 0, cells := 0, slots := 0, locals := 0 } : Room) Z #[(.ref o), (.ref lo)] h0 (fun rV hP lC => rV = some (.long (if ln0 < 0 then (-1 : Int64) else (if ln1 < 0 then (-1 : Int64) else (((0 : Int64) + (wt0 * ln0.toInt64)) + (wt1 * ln1.toInt64))))) ∧ Fr n0 lC ∧ hP = h0) := by
  refine Own.enter (plainFor_of_name pn2) ?_
  intro p e s m below meth cc s₁ hx hby hml hown hnm hret hk hZ X0 e0
  have N0 := Fr.nil n0
  refine Own.start (ef_rm4_2 m o lo) ?_
  refine Own.lconst X0 hx (pc := 0) (0 : Int64) (hb hby d4_0) (by decide) ?_
  refine Own.lstoreN X0 hx (pc := 1) #[.val (.ref o), .val (.ref lo), .val (.long (0 : Int64)), .second, .unset, .unset] (hb hby d4_1) rfl ?_
  refine Own.iconst X0 hx (pc := 2) (0 : Int32) (hb hby d4_2) (by decide) ?_
  refine Own.istore X0 hx (pc := 3) #[.val (.ref o), .val (.ref lo), .val (.long (0 : Int64)), .second, .val (.int (0 : Int32)), .unset] (hb hby d4_3) rfl ?_
  refine Own.iload X0 hx (pc := 5) (hb hby d4_5) rfl ?_
  refine Own.aloadN X0 hx (pc := 7) (hb hby d4_7) rfl rfl ?_
  refine Own.getfield X0 hx hZ (pc := 8) hown (host := "") (Or.inl (Wd hw 18 rfl)) Via.refl e0 F_o_values (hb hby d4_8) ?_
  intro T1 X1 e1
  refine Own.alen X1 hx hZ (pc := 11) e1 V_va (2 : Int32) rfl (hb hby d4_11) ?_
  refine Own.icmpNo X1 hx (pc := 12) (hb hby d4_12) (by decide) ?_
  refine Own.aloadN X1 hx (pc := 15) (hb hby d4_15) rfl rfl ?_
  refine Own.aloadN X1 hx (pc := 16) (hb hby d4_16) rfl rfl ?_
  refine Own.getfield X1 hx hZ (pc := 17) hown (host := "") (Or.inl (Wd hw 18 rfl)) Via.refl e1 F_o_values (hb hby d4_17) ?_
  intro T2 X2 e2
  refine Own.iload X2 hx (pc := 20) (hb hby d4_20) rfl ?_
  refine Own.iaload X2 hx hZ (pc := 22) e2 V_va (v := (.int u0)) 0 (by decide) (by decide) rfl (hb hby d4_22) ?_
  refine Own.iaload X2 hx hZ (pc := 23) e2 V_lo (v := (.int ln0)) u0.toNatClampNeg hn0 rfl hv0 (hb hby d4_23) ?_
  refine Own.istore X2 hx (pc := 24) #[.val (.ref o), .val (.ref lo), .val (.long (0 : Int64)), .second, .val (.int (0 : Int32)), .val (.int ln0)] (hb hby d4_24) rfl ?_
  refine Own.iload X2 hx (pc := 26) (hb hby d4_26) rfl ?_
  by_cases c3 : ln0 < (0 : Int32)
  · refine Own.ifNo X2 hx (pc := 28) (hb hby d4_28) (XT.i0_ge_f c3) ?_
    refine Own.ldc2J X2 hx hZ (pc := 31) hown (Wd hw 31 rfl) (hb hby d4_31) ?_
    exact Own.lreturn X2 hx hk hret (hb hby d4_34) e2 ⟨by simp [c3], N0, rfl⟩ (by decide) (by decide)
  · refine Own.ifYes X2 hx (pc := 28) 35 (hb hby d4_28) (XT.i0_ge_t c3) (by decide) (by decide) ?_
    refine Own.lloadN X2 hx (pc := 35) (hb hby d4_35) rfl ?_
    refine Own.aloadN X2 hx (pc := 36) (hb hby d4_36) rfl rfl ?_
    refine Own.getfield X2 hx hZ (pc := 37) hown (host := "") (Or.inl (Wd hw 20 rfl)) Via.refl e2 F_o_weights (hb hby d4_37) ?_
    intro T4 X4 e4
    refine Own.iload X4 hx (pc := 40) (hb hby d4_40) rfl ?_
    refine Own.laload X4 hx hZ (pc := 42) e4 V_wa (v := (.long wt0)) 0 (by decide) (by decide) rfl (hb hby d4_42) ?_
    refine Own.iload X4 hx (pc := 43) (hb hby d4_43) rfl ?_
    refine Own.i2l X4 hx (pc := 45) (hb hby d4_45) ?_
    refine Own.lmul X4 hx (pc := 46) (hb hby d4_46) ?_
    refine Own.ladd X4 hx (pc := 47) (hb hby d4_47) ?_
    refine Own.lstoreN X4 hx (pc := 48) #[.val (.ref o), .val (.ref lo), .val (.long ((0 : Int64) + (wt0 * ln0.toInt64))), .second, .val (.int (0 : Int32)), .val (.int ln0)] (hb hby d4_48) rfl ?_
    refine Own.iincV X4 hx (pc := 49) (1 : Int32) (1 : Int32) #[.val (.ref o), .val (.ref lo), .val (.long ((0 : Int64) + (wt0 * ln0.toInt64))), .second, .val (.int (1 : Int32)), .val (.int ln0)] (hb hby d4_49) (by decide) rfl (by decide) rfl ?_
    refine Own.goto X4 hx (pc := 52) 5 (hb hby d4_52) (by decide) (by decide) ?_
    refine Own.iload X4 hx (pc := 5) (hb hby d4_5) rfl ?_
    refine Own.aloadN X4 hx (pc := 7) (hb hby d4_7) rfl rfl ?_
    refine Own.getfield X4 hx hZ (pc := 8) hown (host := "") (Or.inl (Wd hw 18 rfl)) Via.refl e4 F_o_values (hb hby d4_8) ?_
    intro T5 X5 e5
    refine Own.alen X5 hx hZ (pc := 11) e5 V_va (2 : Int32) rfl (hb hby d4_11) ?_
    refine Own.icmpNo X5 hx (pc := 12) (hb hby d4_12) (by decide) ?_
    refine Own.aloadN X5 hx (pc := 15) (hb hby d4_15) rfl rfl ?_
    refine Own.aloadN X5 hx (pc := 16) (hb hby d4_16) rfl rfl ?_
    refine Own.getfield X5 hx hZ (pc := 17) hown (host := "") (Or.inl (Wd hw 18 rfl)) Via.refl e5 F_o_values (hb hby d4_17) ?_
    intro T6 X6 e6
    refine Own.iload X6 hx (pc := 20) (hb hby d4_20) rfl ?_
    refine Own.iaload X6 hx hZ (pc := 22) e6 V_va (v := (.int u1)) 1 (by decide) (by decide) rfl (hb hby d4_22) ?_
    refine Own.iaload X6 hx hZ (pc := 23) e6 V_lo (v := (.int ln1)) u1.toNatClampNeg hn1 rfl hv1 (hb hby d4_23) ?_
    refine Own.istore X6 hx (pc := 24) #[.val (.ref o), .val (.ref lo), .val (.long ((0 : Int64) + (wt0 * ln0.toInt64))), .second, .val (.int (1 : Int32)), .val (.int ln1)] (hb hby d4_24) rfl ?_
    refine Own.iload X6 hx (pc := 26) (hb hby d4_26) rfl ?_
    by_cases c7 : ln1 < (0 : Int32)
    · refine Own.ifNo X6 hx (pc := 28) (hb hby d4_28) (XT.i0_ge_f c7) ?_
      refine Own.ldc2J X6 hx hZ (pc := 31) hown (Wd hw 31 rfl) (hb hby d4_31) ?_
      exact Own.lreturn X6 hx hk hret (hb hby d4_34) e6 ⟨by simp [c3, c7], N0, rfl⟩ (by decide) (by decide)
    · refine Own.ifYes X6 hx (pc := 28) 35 (hb hby d4_28) (XT.i0_ge_t c7) (by decide) (by decide) ?_
      refine Own.lloadN X6 hx (pc := 35) (hb hby d4_35) rfl ?_
      refine Own.aloadN X6 hx (pc := 36) (hb hby d4_36) rfl rfl ?_
      refine Own.getfield X6 hx hZ (pc := 37) hown (host := "") (Or.inl (Wd hw 20 rfl)) Via.refl e6 F_o_weights (hb hby d4_37) ?_
      intro T8 X8 e8
      refine Own.iload X8 hx (pc := 40) (hb hby d4_40) rfl ?_
      refine Own.laload X8 hx hZ (pc := 42) e8 V_wa (v := (.long wt1)) 1 (by decide) (by decide) rfl (hb hby d4_42) ?_
      refine Own.iload X8 hx (pc := 43) (hb hby d4_43) rfl ?_
      refine Own.i2l X8 hx (pc := 45) (hb hby d4_45) ?_
      refine Own.lmul X8 hx (pc := 46) (hb hby d4_46) ?_
      refine Own.ladd X8 hx (pc := 47) (hb hby d4_47) ?_
      refine Own.lstoreN X8 hx (pc := 48) #[.val (.ref o), .val (.ref lo), .val (.long (((0 : Int64) + (wt0 * ln0.toInt64)) + (wt1 * ln1.toInt64))), .second, .val (.int (1 : Int32)), .val (.int ln1)] (hb hby d4_48) rfl ?_
      refine Own.iincV X8 hx (pc := 49) (1 : Int32) (2 : Int32) #[.val (.ref o), .val (.ref lo), .val (.long (((0 : Int64) + (wt0 * ln0.toInt64)) + (wt1 * ln1.toInt64))), .second, .val (.int (2 : Int32)), .val (.int ln1)] (hb hby d4_49) (by decide) rfl (by decide) rfl ?_
      refine Own.goto X8 hx (pc := 52) 5 (hb hby d4_52) (by decide) (by decide) ?_
      refine Own.iload X8 hx (pc := 5) (hb hby d4_5) rfl ?_
      refine Own.aloadN X8 hx (pc := 7) (hb hby d4_7) rfl rfl ?_
      refine Own.getfield X8 hx hZ (pc := 8) hown (host := "") (Or.inl (Wd hw 18 rfl)) Via.refl e8 F_o_values (hb hby d4_8) ?_
      intro T9 X9 e9
      refine Own.alen X9 hx hZ (pc := 11) e9 V_va (2 : Int32) rfl (hb hby d4_11) ?_
      refine Own.icmpYes X9 hx (pc := 12) 55 (hb hby d4_12) (by decide) (by decide) (by decide) ?_
      refine Own.lloadN X9 hx (pc := 55) (hb hby d4_55) rfl ?_
      exact Own.lreturn X9 hx hk hret (hb hby d4_56) e9 ⟨by simp [c3, c7], N0, rfl⟩ (by decide) (by decide)
theorem ef_rm4_3 (m : MethodId) (o : Addr) (lo : Addr) : entryFrame m #[(.ref o), (.ref lo)] 6 = mkF m 0 #[.val (.ref o), .val (.ref lo), .unset, .unset, .unset, .unset] [] := by first | (simp [entryFrame, mkF, argsToLocals, Value.category]; done) | rfl
set_option maxRecDepth 65536 in
set_option maxHeartbeats 40000000 in
theorem rm4_3 (l : Launch) (Z : State) (a0 : Array Value) (hw : ∀ d ∈ tables_1, d.before a0 Z = true) (o : Addr) (lo : Addr) (va : Addr) (wa : Addr) (lv : List Value) (u0 : Int32) (u1 : Int32) (u2 : Int32) (wt0 : Int64) (wt1 : Int64) (wt2 : Int64) (ln0 : Int32) (ln1 : Int32) (ln2 : Int32) (h0 : Heap) (n0 : Nat) (Z0 : n0 ≤ h0.size) (F_o_values : Fld Z h0 o "shortleaf/BlockCode" "values" "[I" (.ref va)) (F_o_weights : Fld Z h0 o "shortleaf/BlockCode" "weights" "[J" (.ref wa)) (V_va : Own.VArr Z h0 va .int [(.int u0), (.int u1), (.int u2)]) (V_wa : Own.VArr Z h0 wa .long [(.long wt0), (.long wt1), (.long wt2)]) (V_lo : Own.VArr Z h0 lo .int lv) (hn0 : ¬ u0 < 0) (hv0 : lv[u0.toNatClampNeg]? = some (.int ln0)) (hn1 : ¬ u1 < 0) (hv1 : lv[u1.toNatClampNeg]? = some (.int ln1)) (hn2 : ¬ u2 < 0) (hv2 : lv[u2.toNatClampNeg]? = some (.int ln2)) :
    Own.Ct l (⟨"shortleaf/BlockCode", "bitsIn", "([I)J"⟩ : MethodName) prog_1_method_4_code 6 (some .long) [] ({ frames := 0, cells := 0, slots := 0, locals := 0 } : Room) Z #[(.ref o), (.ref lo)] h0 (fun rV hP lC => rV = some (.long (if ln0 < 0 then (-1 : Int64) else (if ln1 < 0 then (-1 : Int64) else (if ln2 < 0 then (-1 : Int64) else ((((0 : Int64) + (wt0 * ln0.toInt64)) + (wt1 * ln1.toInt64)) + (wt2 * ln2.toInt64)))))) ∧ Fr n0 lC ∧ hP = h0) := by
  refine Own.enter (plainFor_of_name pn2) ?_
  intro p e s m below meth cc s₁ hx hby hml hown hnm hret hk hZ X0 e0
  have N0 := Fr.nil n0
  refine Own.start (ef_rm4_3 m o lo) ?_
  refine Own.lconst X0 hx (pc := 0) (0 : Int64) (hb hby d4_0) (by decide) ?_
  refine Own.lstoreN X0 hx (pc := 1) #[.val (.ref o), .val (.ref lo), .val (.long (0 : Int64)), .second, .unset, .unset] (hb hby d4_1) rfl ?_
  refine Own.iconst X0 hx (pc := 2) (0 : Int32) (hb hby d4_2) (by decide) ?_
  refine Own.istore X0 hx (pc := 3) #[.val (.ref o), .val (.ref lo), .val (.long (0 : Int64)), .second, .val (.int (0 : Int32)), .unset] (hb hby d4_3) rfl ?_
  refine Own.iload X0 hx (pc := 5) (hb hby d4_5) rfl ?_
  refine Own.aloadN X0 hx (pc := 7) (hb hby d4_7) rfl rfl ?_
  refine Own.getfield X0 hx hZ (pc := 8) hown (host := "") (Or.inl (Wd hw 18 rfl)) Via.refl e0 F_o_values (hb hby d4_8) ?_
  intro T1 X1 e1
  refine Own.alen X1 hx hZ (pc := 11) e1 V_va (3 : Int32) rfl (hb hby d4_11) ?_
  refine Own.icmpNo X1 hx (pc := 12) (hb hby d4_12) (by decide) ?_
  refine Own.aloadN X1 hx (pc := 15) (hb hby d4_15) rfl rfl ?_
  refine Own.aloadN X1 hx (pc := 16) (hb hby d4_16) rfl rfl ?_
  refine Own.getfield X1 hx hZ (pc := 17) hown (host := "") (Or.inl (Wd hw 18 rfl)) Via.refl e1 F_o_values (hb hby d4_17) ?_
  intro T2 X2 e2
  refine Own.iload X2 hx (pc := 20) (hb hby d4_20) rfl ?_
  refine Own.iaload X2 hx hZ (pc := 22) e2 V_va (v := (.int u0)) 0 (by decide) (by decide) rfl (hb hby d4_22) ?_
  refine Own.iaload X2 hx hZ (pc := 23) e2 V_lo (v := (.int ln0)) u0.toNatClampNeg hn0 rfl hv0 (hb hby d4_23) ?_
  refine Own.istore X2 hx (pc := 24) #[.val (.ref o), .val (.ref lo), .val (.long (0 : Int64)), .second, .val (.int (0 : Int32)), .val (.int ln0)] (hb hby d4_24) rfl ?_
  refine Own.iload X2 hx (pc := 26) (hb hby d4_26) rfl ?_
  by_cases c3 : ln0 < (0 : Int32)
  · refine Own.ifNo X2 hx (pc := 28) (hb hby d4_28) (XT.i0_ge_f c3) ?_
    refine Own.ldc2J X2 hx hZ (pc := 31) hown (Wd hw 31 rfl) (hb hby d4_31) ?_
    exact Own.lreturn X2 hx hk hret (hb hby d4_34) e2 ⟨by simp [c3], N0, rfl⟩ (by decide) (by decide)
  · refine Own.ifYes X2 hx (pc := 28) 35 (hb hby d4_28) (XT.i0_ge_t c3) (by decide) (by decide) ?_
    refine Own.lloadN X2 hx (pc := 35) (hb hby d4_35) rfl ?_
    refine Own.aloadN X2 hx (pc := 36) (hb hby d4_36) rfl rfl ?_
    refine Own.getfield X2 hx hZ (pc := 37) hown (host := "") (Or.inl (Wd hw 20 rfl)) Via.refl e2 F_o_weights (hb hby d4_37) ?_
    intro T4 X4 e4
    refine Own.iload X4 hx (pc := 40) (hb hby d4_40) rfl ?_
    refine Own.laload X4 hx hZ (pc := 42) e4 V_wa (v := (.long wt0)) 0 (by decide) (by decide) rfl (hb hby d4_42) ?_
    refine Own.iload X4 hx (pc := 43) (hb hby d4_43) rfl ?_
    refine Own.i2l X4 hx (pc := 45) (hb hby d4_45) ?_
    refine Own.lmul X4 hx (pc := 46) (hb hby d4_46) ?_
    refine Own.ladd X4 hx (pc := 47) (hb hby d4_47) ?_
    refine Own.lstoreN X4 hx (pc := 48) #[.val (.ref o), .val (.ref lo), .val (.long ((0 : Int64) + (wt0 * ln0.toInt64))), .second, .val (.int (0 : Int32)), .val (.int ln0)] (hb hby d4_48) rfl ?_
    refine Own.iincV X4 hx (pc := 49) (1 : Int32) (1 : Int32) #[.val (.ref o), .val (.ref lo), .val (.long ((0 : Int64) + (wt0 * ln0.toInt64))), .second, .val (.int (1 : Int32)), .val (.int ln0)] (hb hby d4_49) (by decide) rfl (by decide) rfl ?_
    refine Own.goto X4 hx (pc := 52) 5 (hb hby d4_52) (by decide) (by decide) ?_
    refine Own.iload X4 hx (pc := 5) (hb hby d4_5) rfl ?_
    refine Own.aloadN X4 hx (pc := 7) (hb hby d4_7) rfl rfl ?_
    refine Own.getfield X4 hx hZ (pc := 8) hown (host := "") (Or.inl (Wd hw 18 rfl)) Via.refl e4 F_o_values (hb hby d4_8) ?_
    intro T5 X5 e5
    refine Own.alen X5 hx hZ (pc := 11) e5 V_va (3 : Int32) rfl (hb hby d4_11) ?_
    refine Own.icmpNo X5 hx (pc := 12) (hb hby d4_12) (by decide) ?_
    refine Own.aloadN X5 hx (pc := 15) (hb hby d4_15) rfl rfl ?_
    refine Own.aloadN X5 hx (pc := 16) (hb hby d4_16) rfl rfl ?_
    refine Own.getfield X5 hx hZ (pc := 17) hown (host := "") (Or.inl (Wd hw 18 rfl)) Via.refl e5 F_o_values (hb hby d4_17) ?_
    intro T6 X6 e6
    refine Own.iload X6 hx (pc := 20) (hb hby d4_20) rfl ?_
    refine Own.iaload X6 hx hZ (pc := 22) e6 V_va (v := (.int u1)) 1 (by decide) (by decide) rfl (hb hby d4_22) ?_
    refine Own.iaload X6 hx hZ (pc := 23) e6 V_lo (v := (.int ln1)) u1.toNatClampNeg hn1 rfl hv1 (hb hby d4_23) ?_
    refine Own.istore X6 hx (pc := 24) #[.val (.ref o), .val (.ref lo), .val (.long ((0 : Int64) + (wt0 * ln0.toInt64))), .second, .val (.int (1 : Int32)), .val (.int ln1)] (hb hby d4_24) rfl ?_
    refine Own.iload X6 hx (pc := 26) (hb hby d4_26) rfl ?_
    by_cases c7 : ln1 < (0 : Int32)
    · refine Own.ifNo X6 hx (pc := 28) (hb hby d4_28) (XT.i0_ge_f c7) ?_
      refine Own.ldc2J X6 hx hZ (pc := 31) hown (Wd hw 31 rfl) (hb hby d4_31) ?_
      exact Own.lreturn X6 hx hk hret (hb hby d4_34) e6 ⟨by simp [c3, c7], N0, rfl⟩ (by decide) (by decide)
    · refine Own.ifYes X6 hx (pc := 28) 35 (hb hby d4_28) (XT.i0_ge_t c7) (by decide) (by decide) ?_
      refine Own.lloadN X6 hx (pc := 35) (hb hby d4_35) rfl ?_
      refine Own.aloadN X6 hx (pc := 36) (hb hby d4_36) rfl rfl ?_
      refine Own.getfield X6 hx hZ (pc := 37) hown (host := "") (Or.inl (Wd hw 20 rfl)) Via.refl e6 F_o_weights (hb hby d4_37) ?_
      intro T8 X8 e8
      refine Own.iload X8 hx (pc := 40) (hb hby d4_40) rfl ?_
      refine Own.laload X8 hx hZ (pc := 42) e8 V_wa (v := (.long wt1)) 1 (by decide) (by decide) rfl (hb hby d4_42) ?_
      refine Own.iload X8 hx (pc := 43) (hb hby d4_43) rfl ?_
      refine Own.i2l X8 hx (pc := 45) (hb hby d4_45) ?_
      refine Own.lmul X8 hx (pc := 46) (hb hby d4_46) ?_
      refine Own.ladd X8 hx (pc := 47) (hb hby d4_47) ?_
      refine Own.lstoreN X8 hx (pc := 48) #[.val (.ref o), .val (.ref lo), .val (.long (((0 : Int64) + (wt0 * ln0.toInt64)) + (wt1 * ln1.toInt64))), .second, .val (.int (1 : Int32)), .val (.int ln1)] (hb hby d4_48) rfl ?_
      refine Own.iincV X8 hx (pc := 49) (1 : Int32) (2 : Int32) #[.val (.ref o), .val (.ref lo), .val (.long (((0 : Int64) + (wt0 * ln0.toInt64)) + (wt1 * ln1.toInt64))), .second, .val (.int (2 : Int32)), .val (.int ln1)] (hb hby d4_49) (by decide) rfl (by decide) rfl ?_
      refine Own.goto X8 hx (pc := 52) 5 (hb hby d4_52) (by decide) (by decide) ?_
      refine Own.iload X8 hx (pc := 5) (hb hby d4_5) rfl ?_
      refine Own.aloadN X8 hx (pc := 7) (hb hby d4_7) rfl rfl ?_
      refine Own.getfield X8 hx hZ (pc := 8) hown (host := "") (Or.inl (Wd hw 18 rfl)) Via.refl e8 F_o_values (hb hby d4_8) ?_
      intro T9 X9 e9
      refine Own.alen X9 hx hZ (pc := 11) e9 V_va (3 : Int32) rfl (hb hby d4_11) ?_
      refine Own.icmpNo X9 hx (pc := 12) (hb hby d4_12) (by decide) ?_
      refine Own.aloadN X9 hx (pc := 15) (hb hby d4_15) rfl rfl ?_
      refine Own.aloadN X9 hx (pc := 16) (hb hby d4_16) rfl rfl ?_
      refine Own.getfield X9 hx hZ (pc := 17) hown (host := "") (Or.inl (Wd hw 18 rfl)) Via.refl e9 F_o_values (hb hby d4_17) ?_
      intro T10 X10 e10
      refine Own.iload X10 hx (pc := 20) (hb hby d4_20) rfl ?_
      refine Own.iaload X10 hx hZ (pc := 22) e10 V_va (v := (.int u2)) 2 (by decide) (by decide) rfl (hb hby d4_22) ?_
      refine Own.iaload X10 hx hZ (pc := 23) e10 V_lo (v := (.int ln2)) u2.toNatClampNeg hn2 rfl hv2 (hb hby d4_23) ?_
      refine Own.istore X10 hx (pc := 24) #[.val (.ref o), .val (.ref lo), .val (.long (((0 : Int64) + (wt0 * ln0.toInt64)) + (wt1 * ln1.toInt64))), .second, .val (.int (2 : Int32)), .val (.int ln2)] (hb hby d4_24) rfl ?_
      refine Own.iload X10 hx (pc := 26) (hb hby d4_26) rfl ?_
      by_cases c11 : ln2 < (0 : Int32)
      · refine Own.ifNo X10 hx (pc := 28) (hb hby d4_28) (XT.i0_ge_f c11) ?_
        refine Own.ldc2J X10 hx hZ (pc := 31) hown (Wd hw 31 rfl) (hb hby d4_31) ?_
        exact Own.lreturn X10 hx hk hret (hb hby d4_34) e10 ⟨by simp [c3, c7, c11], N0, rfl⟩ (by decide) (by decide)
      · refine Own.ifYes X10 hx (pc := 28) 35 (hb hby d4_28) (XT.i0_ge_t c11) (by decide) (by decide) ?_
        refine Own.lloadN X10 hx (pc := 35) (hb hby d4_35) rfl ?_
        refine Own.aloadN X10 hx (pc := 36) (hb hby d4_36) rfl rfl ?_
        refine Own.getfield X10 hx hZ (pc := 37) hown (host := "") (Or.inl (Wd hw 20 rfl)) Via.refl e10 F_o_weights (hb hby d4_37) ?_
        intro T12 X12 e12
        refine Own.iload X12 hx (pc := 40) (hb hby d4_40) rfl ?_
        refine Own.laload X12 hx hZ (pc := 42) e12 V_wa (v := (.long wt2)) 2 (by decide) (by decide) rfl (hb hby d4_42) ?_
        refine Own.iload X12 hx (pc := 43) (hb hby d4_43) rfl ?_
        refine Own.i2l X12 hx (pc := 45) (hb hby d4_45) ?_
        refine Own.lmul X12 hx (pc := 46) (hb hby d4_46) ?_
        refine Own.ladd X12 hx (pc := 47) (hb hby d4_47) ?_
        refine Own.lstoreN X12 hx (pc := 48) #[.val (.ref o), .val (.ref lo), .val (.long ((((0 : Int64) + (wt0 * ln0.toInt64)) + (wt1 * ln1.toInt64)) + (wt2 * ln2.toInt64))), .second, .val (.int (2 : Int32)), .val (.int ln2)] (hb hby d4_48) rfl ?_
        refine Own.iincV X12 hx (pc := 49) (1 : Int32) (3 : Int32) #[.val (.ref o), .val (.ref lo), .val (.long ((((0 : Int64) + (wt0 * ln0.toInt64)) + (wt1 * ln1.toInt64)) + (wt2 * ln2.toInt64))), .second, .val (.int (3 : Int32)), .val (.int ln2)] (hb hby d4_49) (by decide) rfl (by decide) rfl ?_
        refine Own.goto X12 hx (pc := 52) 5 (hb hby d4_52) (by decide) (by decide) ?_
        refine Own.iload X12 hx (pc := 5) (hb hby d4_5) rfl ?_
        refine Own.aloadN X12 hx (pc := 7) (hb hby d4_7) rfl rfl ?_
        refine Own.getfield X12 hx hZ (pc := 8) hown (host := "") (Or.inl (Wd hw 18 rfl)) Via.refl e12 F_o_values (hb hby d4_8) ?_
        intro T13 X13 e13
        refine Own.alen X13 hx hZ (pc := 11) e13 V_va (3 : Int32) rfl (hb hby d4_11) ?_
        refine Own.icmpYes X13 hx (pc := 12) 55 (hb hby d4_12) (by decide) (by decide) (by decide) ?_
        refine Own.lloadN X13 hx (pc := 55) (hb hby d4_55) rfl ?_
        exact Own.lreturn X13 hx hk hret (hb hby d4_56) e13 ⟨by simp [c3, c7, c11], N0, rfl⟩ (by decide) (by decide)
theorem pd3 : parseMethodDescriptor "(J[I[J[IJ)V" = some ⟨[.long, (.array .int), (.array .long), (.array .int), .long], none⟩ := by decide +kernel
theorem pd4 : parseMethodDescriptor "([I)J" = some ⟨[(.array .int)], some .long⟩ := by decide +kernel
theorem ef_law (m : MethodId) (pk : Int32) (ls : Int64) (l2 : Int32) (w0 : Int64) (w1 : Int64) (w2 : Int64) : entryFrame m #[(.int pk), (.long ls), (.int l2), (.long w0), (.long w1), (.long w2)] maxLocals = mkF m 0 #[.val (.int pk), .val (.long ls), .second, .val (.int l2), .val (.long w0), .second, .val (.long w1), .second, .val (.long w2), .second, .unset, .unset, .unset, .unset, .unset, .unset, .unset, .unset, .unset, .unset, .unset, .unset, .unset, .unset, .unset, .unset, .unset, .unset, .unset, .unset, .unset, .unset] [] := by first | (simp [entryFrame, mkF, argsToLocals, Value.category, maxLocals]; done) | rfl
theorem pn5 : plainName "shortleaf/BlockCodeBitsInPinLaw" = true := by first | (simp [plainName, overriddenIn]; done) | decide +kernel
set_option maxRecDepth 65536 in
set_option maxHeartbeats 400000000 in
theorem rm0 (l : Launch) (Z : State) (a0 : Array Value) (hw : ∀ d ∈ tables_1, d.before a0 Z = true) (pk : Int32) (ls : Int64) (l2 : Int32) (w0 : Int64) (w1 : Int64) (w2 : Int64) (h0 : Heap) (n0 : Nat) (Z0 : n0 ≤ h0.size) :
    Own.Ct l x code maxLocals ret tables_1 room_1 Z #[(.int pk), (.long ls), (.int l2), (.long w0), (.long w1), (.long w2)] h0 (fun v _ L => v = some (.int 1) ∧ Fr n0 L) := by
  refine Own.enter (plainFor_of_name pn5) ?_
  intro p e s m below meth cc s₁ hx hby hml0 hown hnm hret hk hZ X0 e0
  have hml : cc.maxLocals = 32 := hml0
  have N0 := Fr.nil n0
  refine Own.start (ef_law m pk ls l2 w0 w1 w2) ?_
  refine Own.iloadN X0 hx (pc := 0) (hb hby at_0) rfl ?_
  refine Own.bipush X0 hx (pc := 1) (63 : Int32) (hb hby at_1) (by decide) ?_
  refine Own.iand X0 hx (pc := 3) (hb hby at_3) ?_
  generalize qva1 : (pk &&& (63 : Int32)) = va1
  have hva := own_v0 pk
  rw [qva1] at hva
  refine Own.istore X0 hx (pc := 4) #[.val (.int pk), .val (.long ls), .second, .val (.int l2), .val (.long w0), .second, .val (.long w1), .second, .val (.long w2), .second, .val (.int va1), .unset, .unset, .unset, .unset, .unset, .unset, .unset, .unset, .unset, .unset, .unset, .unset, .unset, .unset, .unset, .unset, .unset, .unset, .unset, .unset, .unset] (hb hby at_4) rfl ?_
  refine Own.bipush X0 hx (pc := 6) (64 : Int32) (hb hby at_6) (by decide) ?_
  refine Own.iloadN X0 hx (pc := 8) (hb hby at_8) rfl ?_
  refine Own.bipush X0 hx (pc := 9) (6 : Int32) (hb hby at_9) (by decide) ?_
  refine Own.iushr X0 hx (pc := 11) (hb hby at_11) ?_
  refine Own.bipush X0 hx (pc := 12) (63 : Int32) (hb hby at_12) (by decide) ?_
  refine Own.iand X0 hx (pc := 14) (hb hby at_14) ?_
  refine Own.iadd X0 hx (pc := 15) (hb hby at_15) ?_
  generalize qvb2 : ((64 : Int32) + ((XT.ushr pk (6 : Int32)) &&& (63 : Int32))) = vb2
  have hvb := own_v1 (XT.ushr pk (6 : Int32))
  rw [qvb2] at hvb
  refine Own.istore X0 hx (pc := 16) #[.val (.int pk), .val (.long ls), .second, .val (.int l2), .val (.long w0), .second, .val (.long w1), .second, .val (.long w2), .second, .val (.int va1), .val (.int vb2), .unset, .unset, .unset, .unset, .unset, .unset, .unset, .unset, .unset, .unset, .unset, .unset, .unset, .unset, .unset, .unset, .unset, .unset, .unset, .unset] (hb hby at_16) rfl ?_
  refine Own.sipush X0 hx (pc := 18) (128 : Int32) (hb hby at_18) (by decide) ?_
  refine Own.iloadN X0 hx (pc := 21) (hb hby at_21) rfl ?_
  refine Own.bipush X0 hx (pc := 22) (12 : Int32) (hb hby at_22) (by decide) ?_
  refine Own.iushr X0 hx (pc := 24) (hb hby at_24) ?_
  refine Own.bipush X0 hx (pc := 25) (127 : Int32) (hb hby at_25) (by decide) ?_
  refine Own.iand X0 hx (pc := 27) (hb hby at_27) ?_
  refine Own.iadd X0 hx (pc := 28) (hb hby at_28) ?_
  generalize qvc3 : ((128 : Int32) + ((XT.ushr pk (12 : Int32)) &&& (127 : Int32))) = vc3
  have hvc := own_v2 (XT.ushr pk (12 : Int32))
  rw [qvc3] at hvc
  refine Own.istore X0 hx (pc := 29) #[.val (.int pk), .val (.long ls), .second, .val (.int l2), .val (.long w0), .second, .val (.long w1), .second, .val (.long w2), .second, .val (.int va1), .val (.int vb2), .val (.int vc3), .unset, .unset, .unset, .unset, .unset, .unset, .unset, .unset, .unset, .unset, .unset, .unset, .unset, .unset, .unset, .unset, .unset, .unset, .unset] (hb hby at_29) rfl ?_
  refine Own.iloadN X0 hx (pc := 31) (hb hby at_31) rfl ?_
  refine Own.bipush X0 hx (pc := 32) (19 : Int32) (hb hby at_32) (by decide) ?_
  refine Own.iushr X0 hx (pc := 34) (hb hby at_34) ?_
  refine Own.iconst X0 hx (pc := 35) (3 : Int32) (hb hby at_35) (by decide) ?_
  refine Own.iand X0 hx (pc := 36) (hb hby at_36) ?_
  generalize qn4 : ((XT.ushr pk (19 : Int32)) &&& (3 : Int32)) = n4
  rcases own_n _ qn4 with rfl | rfl | rfl | rfl
  · refine Own.istore X0 hx (pc := 37) #[.val (.int pk), .val (.long ls), .second, .val (.int l2), .val (.long w0), .second, .val (.long w1), .second, .val (.long w2), .second, .val (.int va1), .val (.int vb2), .val (.int vc3), .val (.int (0 : Int32)), .unset, .unset, .unset, .unset, .unset, .unset, .unset, .unset, .unset, .unset, .unset, .unset, .unset, .unset, .unset, .unset, .unset, .unset] (hb hby at_37) rfl ?_
    refine Own.lloadN X0 hx (pc := 39) (hb hby at_39) rfl ?_
    refine Own.l2i X0 hx (pc := 40) (hb hby at_40) ?_
    generalize qla5 : ls.toInt32 = la5
    refine Own.istore X0 hx (pc := 41) #[.val (.int pk), .val (.long ls), .second, .val (.int l2), .val (.long w0), .second, .val (.long w1), .second, .val (.long w2), .second, .val (.int va1), .val (.int vb2), .val (.int vc3), .val (.int (0 : Int32)), .val (.int la5), .unset, .unset, .unset, .unset, .unset, .unset, .unset, .unset, .unset, .unset, .unset, .unset, .unset, .unset, .unset, .unset, .unset] (hb hby at_41) rfl ?_
    refine Own.lloadN X0 hx (pc := 43) (hb hby at_43) rfl ?_
    refine Own.bipush X0 hx (pc := 44) (32 : Int32) (hb hby at_44) (by decide) ?_
    refine Own.lushr X0 hx (pc := 46) (hb hby at_46) ?_
    refine Own.l2i X0 hx (pc := 47) (hb hby at_47) ?_
    generalize qlb6 : (XT.ushrL ls (32 : Int32)).toInt32 = lb6
    refine Own.istore X0 hx (pc := 48) #[.val (.int pk), .val (.long ls), .second, .val (.int l2), .val (.long w0), .second, .val (.long w1), .second, .val (.long w2), .second, .val (.int va1), .val (.int vb2), .val (.int vc3), .val (.int (0 : Int32)), .val (.int la5), .val (.int lb6), .unset, .unset, .unset, .unset, .unset, .unset, .unset, .unset, .unset, .unset, .unset, .unset, .unset, .unset, .unset, .unset] (hb hby at_48) rfl ?_
    refine Own.iload X0 hx (pc := 50) (hb hby at_50) rfl ?_
    refine Own.ifNo X0 hx (pc := 52) (hb hby at_52) (by decide) ?_
    refine Own.iconst X0 hx (pc := 55) (0 : Int32) (hb hby at_55) (by decide) ?_
    refine Own.newarr X0 hx hZ (pc := 56) (aty := .int) (Wd hw 0 rfl) e0 (hb hby at_56) (by decide) 0 0 (by decide) (by decide) (by decide) (by decide) (by decide) ?_
    intro T7 h7 b7 g7 X7 e7 Ex7 V_b7
    have ge_b7 : n0 ≤ b7 := g7 ▸ Z0
    have sz7 : n0 ≤ h7.size := Nat.le_trans Z0 Ex7.1
    replace V_b7 : Own.VArr Z h7 b7 .int ([] : List Value) := V_b7
    refine Own.astore X7 hx (pc := 58) #[.val (.int pk), .val (.long ls), .second, .val (.int l2), .val (.long w0), .second, .val (.long w1), .second, .val (.long w2), .second, .val (.int va1), .val (.int vb2), .val (.int vc3), .val (.int (0 : Int32)), .val (.int la5), .val (.int lb6), .val (.ref b7), .unset, .unset, .unset, .unset, .unset, .unset, .unset, .unset, .unset, .unset, .unset, .unset, .unset, .unset, .unset] (hb hby at_58) rfl rfl ?_
    refine Own.iconst X7 hx (pc := 60) (0 : Int32) (hb hby at_60) (by decide) ?_
    refine Own.newarr X7 hx hZ (pc := 61) (aty := .long) (Wd hw 1 rfl) e7 (hb hby at_61) (by decide) 0 0 (by decide) (by decide) (by decide) (by decide) (by decide) ?_
    intro T8 h8 b8 g8 X8 e8 Ex8 V_b8
    have ne_b7_b8 : b7 ≠ b8 := Nat.ne_of_lt (g8 ▸ V_b7.lt)
    have V_b7 := V_b7.ext Ex8
    have ge_b8 : n0 ≤ b8 := g8 ▸ sz7
    have sz8 : n0 ≤ h8.size := Nat.le_trans sz7 Ex8.1
    replace V_b8 : Own.VArr Z h8 b8 .long ([] : List Value) := V_b8
    refine Own.astore X8 hx (pc := 63) #[.val (.int pk), .val (.long ls), .second, .val (.int l2), .val (.long w0), .second, .val (.long w1), .second, .val (.long w2), .second, .val (.int va1), .val (.int vb2), .val (.int vc3), .val (.int (0 : Int32)), .val (.int la5), .val (.int lb6), .val (.ref b7), .val (.ref b8), .unset, .unset, .unset, .unset, .unset, .unset, .unset, .unset, .unset, .unset, .unset, .unset, .unset, .unset] (hb hby at_63) rfl rfl ?_
    refine Own.iconst X8 hx (pc := 65) (0 : Int32) (hb hby at_65) (by decide) ?_
    refine Own.newarr X8 hx hZ (pc := 66) (aty := .int) (Wd hw 0 rfl) e8 (hb hby at_66) (by decide) 0 0 (by decide) (by decide) (by decide) (by decide) (by decide) ?_
    intro T9 h9 b9 g9 X9 e9 Ex9 V_b9
    have ne_b7_b9 : b7 ≠ b9 := Nat.ne_of_lt (g9 ▸ V_b7.lt)
    have ne_b8_b9 : b8 ≠ b9 := Nat.ne_of_lt (g9 ▸ V_b8.lt)
    have V_b7 := V_b7.ext Ex9
    have V_b8 := V_b8.ext Ex9
    have ge_b9 : n0 ≤ b9 := g9 ▸ sz8
    have sz9 : n0 ≤ h9.size := Nat.le_trans sz8 Ex9.1
    replace V_b9 : Own.VArr Z h9 b9 .int ([] : List Value) := V_b9
    refine Own.astore X9 hx (pc := 68) #[.val (.int pk), .val (.long ls), .second, .val (.int l2), .val (.long w0), .second, .val (.long w1), .second, .val (.long w2), .second, .val (.int va1), .val (.int vb2), .val (.int vc3), .val (.int (0 : Int32)), .val (.int la5), .val (.int lb6), .val (.ref b7), .val (.ref b8), .val (.ref b9), .unset, .unset, .unset, .unset, .unset, .unset, .unset, .unset, .unset, .unset, .unset, .unset, .unset] (hb hby at_68) rfl rfl ?_
    refine Own.goto X9 hx (pc := 70) 196 (hb hby at_70) (by decide) (by decide) ?_
    refine Own.sipush X9 hx (pc := 196) (256 : Int32) (hb hby at_196) (by decide) ?_
    refine Own.newarr X9 hx hZ (pc := 199) (aty := .int) (Wd hw 0 rfl) e9 (hb hby at_199) (by decide) 256 256 (by decide) (by decide) (by decide) (by decide) (by decide) ?_
    intro T10 h10 b10 g10 X10 e10 Ex10 V_b10
    have ne_b7_b10 : b7 ≠ b10 := Nat.ne_of_lt (g10 ▸ V_b7.lt)
    have ne_b8_b10 : b8 ≠ b10 := Nat.ne_of_lt (g10 ▸ V_b8.lt)
    have ne_b9_b10 : b9 ≠ b10 := Nat.ne_of_lt (g10 ▸ V_b9.lt)
    have V_b7 := V_b7.ext Ex10
    have V_b8 := V_b8.ext Ex10
    have V_b9 := V_b9.ext Ex10
    have ge_b10 : n0 ≤ b10 := g10 ▸ sz9
    have sz10 : n0 ≤ h10.size := Nat.le_trans sz9 Ex10.1
    replace V_b10 : Own.VArr Z h10 b10 .int (List.replicate 256 (.int (0 : Int32))) := V_b10
    refine Own.astore X10 hx (pc := 201) #[.val (.int pk), .val (.long ls), .second, .val (.int l2), .val (.long w0), .second, .val (.long w1), .second, .val (.long w2), .second, .val (.int va1), .val (.int vb2), .val (.int vc3), .val (.int (0 : Int32)), .val (.int la5), .val (.int lb6), .val (.ref b7), .val (.ref b8), .val (.ref b9), .val (.ref b10), .unset, .unset, .unset, .unset, .unset, .unset, .unset, .unset, .unset, .unset, .unset, .unset] (hb hby at_201) rfl rfl ?_
    refine Own.aload X10 hx (pc := 203) (hb hby at_203) rfl rfl ?_
    refine Own.sipush X10 hx (pc := 205) (255 : Int32) (hb hby at_205) (by decide) ?_
    refine Own.iconst X10 hx (pc := 208) (-1 : Int32) (hb hby at_208) (by decide) ?_
    refine Own.iastore X10 hx hZ (pc := 209) e10 V_b10 255 (by decide) (by decide) (by simp) N0 ge_b10 (hb hby at_209) ?_
    intro T11 h11 X11 e11 W11 N11 V_b10
    have sz11 : n0 ≤ h11.size := Nat.le_trans sz10 (Nat.le_of_eq (Wr.size W11).symm)
    have V_b7 := V_b7.other W11 ne_b7_b10
    have V_b8 := V_b8.other W11 ne_b8_b10
    have V_b9 := V_b9.other W11 ne_b9_b10
    refine Own.aload X11 hx (pc := 210) (hb hby at_210) rfl rfl ?_
    refine Own.iload X11 hx (pc := 212) (hb hby at_212) rfl ?_
    refine Own.iload X11 hx (pc := 214) (hb hby at_214) rfl ?_
    refine Own.iastore X11 hx hZ (pc := 216) e11 V_b10 va1.toNatClampNeg (own_nn (by omega)) rfl (by have e : va1.toNatClampNeg = va1.toInt.toNat := rfl; rw [e]; simp; omega) N11 ge_b10 (hb hby at_216) ?_
    intro T12 h12 X12 e12 W12 N12 V_b10
    have sz12 : n0 ≤ h12.size := Nat.le_trans sz11 (Nat.le_of_eq (Wr.size W12).symm)
    have V_b7 := V_b7.other W12 ne_b7_b10
    have V_b8 := V_b8.other W12 ne_b8_b10
    have V_b9 := V_b9.other W12 ne_b9_b10
    refine Own.aload X12 hx (pc := 217) (hb hby at_217) rfl rfl ?_
    refine Own.iload X12 hx (pc := 219) (hb hby at_219) rfl ?_
    refine Own.iload X12 hx (pc := 221) (hb hby at_221) rfl ?_
    refine Own.iastore X12 hx hZ (pc := 223) e12 V_b10 vb2.toNatClampNeg (own_nn (by omega)) rfl (by have e : vb2.toNatClampNeg = vb2.toInt.toNat := rfl; rw [e]; simp; omega) N12 ge_b10 (hb hby at_223) ?_
    intro T13 h13 X13 e13 W13 N13 V_b10
    have sz13 : n0 ≤ h13.size := Nat.le_trans sz12 (Nat.le_of_eq (Wr.size W13).symm)
    have V_b7 := V_b7.other W13 ne_b7_b10
    have V_b8 := V_b8.other W13 ne_b8_b10
    have V_b9 := V_b9.other W13 ne_b9_b10
    refine Own.aload X13 hx (pc := 224) (hb hby at_224) rfl rfl ?_
    refine Own.iload X13 hx (pc := 226) (hb hby at_226) rfl ?_
    refine Own.iloadN X13 hx (pc := 228) (hb hby at_228) rfl ?_
    refine Own.iastore X13 hx hZ (pc := 229) e13 V_b10 vc3.toNatClampNeg (own_nn (by omega)) rfl (by have e : vc3.toNatClampNeg = vc3.toInt.toNat := rfl; rw [e]; simp; omega) N13 ge_b10 (hb hby at_229) ?_
    intro T14 h14 X14 e14 W14 N14 V_b10
    replace V_b10 : Own.VArr Z h14 b10 .int (own_L va1.toNatClampNeg vb2.toNatClampNeg vc3.toNatClampNeg (.int la5) (.int lb6) (.int l2)) := V_b10
    have sz14 : n0 ≤ h14.size := Nat.le_trans sz13 (Nat.le_of_eq (Wr.size W14).symm)
    have V_b7 := V_b7.other W14 ne_b7_b10
    have V_b8 := V_b8.other W14 ne_b8_b10
    have V_b9 := V_b9.other W14 ne_b9_b10
    refine Own.newobj X14 hx hZ (pc := 230) hown (Wd hw 2 rfl) (Wd hw 3 rfl) (Wd hw 4 rfl) e14 (hb hby at_230) (by decide) (by decide) ?_
    intro T15 h15 b15 g15 X15 e15 Ex15 E_b15 D15
    have ne_b7_b15 : b7 ≠ b15 := Nat.ne_of_lt (g15 ▸ V_b7.lt)
    have ne_b8_b15 : b8 ≠ b15 := Nat.ne_of_lt (g15 ▸ V_b8.lt)
    have ne_b9_b15 : b9 ≠ b15 := Nat.ne_of_lt (g15 ▸ V_b9.lt)
    have ne_b10_b15 : b10 ≠ b15 := Nat.ne_of_lt (g15 ▸ V_b10.lt)
    have V_b7 := V_b7.ext Ex15
    have V_b8 := V_b8.ext Ex15
    have V_b9 := V_b9.ext Ex15
    have V_b10 := V_b10.ext Ex15
    have ge_b15 : n0 ≤ b15 := g15 ▸ sz14
    have sz15 : n0 ≤ h15.size := Nat.le_trans sz14 Ex15.1
    have F_b15_length : Fld Z h15 b15 "shortleaf/BlockCode" "length" "J" (.long (0 : Int64)) := D15 (Or.inr (Wd hw 17 rfl)) (ty := .long) (by decide)
    have F_b15_values : Fld Z h15 b15 "shortleaf/BlockCode" "values" "[I" .null := D15 (Or.inr (Wd hw 19 rfl)) (ty := (.array .int)) (by decide)
    have F_b15_weights : Fld Z h15 b15 "shortleaf/BlockCode" "weights" "[J" .null := D15 (Or.inr (Wd hw 21 rfl)) (ty := (.array .long)) (by decide)
    have F_b15_lengths : Fld Z h15 b15 "shortleaf/BlockCode" "lengths" "[I" .null := D15 (Or.inr (Wd hw 23 rfl)) (ty := (.array .int)) (by decide)
    have F_b15_payloadBits : Fld Z h15 b15 "shortleaf/BlockCode" "payloadBits" "J" (.long (0 : Int64)) := D15 (Or.inr (Wd hw 25 rfl)) (ty := .long) (by decide)
    refine Own.dup X15 hx (pc := 233) (hb hby at_233) rfl ?_
    refine Own.lconst X15 hx (pc := 234) (0 : Int64) (hb hby at_234) (by decide) ?_
    refine Own.aload X15 hx (pc := 235) (hb hby at_235) rfl rfl ?_
    refine Own.aload X15 hx (pc := 237) (hb hby at_237) rfl rfl ?_
    refine Own.aload X15 hx (pc := 239) (hb hby at_239) rfl rfl ?_
    refine Own.lconst X15 hx (pc := 241) (0 : Int64) (hb hby at_241) (by decide) ?_
    refine Own.callSpecial X15 hx hZ (pc := 242) (y := (⟨"shortleaf/BlockCode", "<init>", "(J[I[J[IJ)V"⟩ : MethodName)) rfl hown (Wd hw 5 rfl) (Wd hw 6 rfl) (Wd hw 4 rfl) (Wd hw 7 rfl) (by decide) 1 b15 [(.long (0 : Int64)), (.ref b7), (.ref b8), (.ref b9), (.long (0 : Int64))] [(.ref b15)] (rm1 l Z a0 hw b15 (0 : Int64) b7 b8 b9 (0 : Int64) h15 n0 sz15 E_b15 F_b15_length F_b15_values F_b15_weights F_b15_lengths F_b15_payloadBits ge_b15) (by decide) (by decide) e15 (by rw [hml]; rfl) pd3 rfl rfl (Nat.le_of_eq rfl) (hb hby at_242) (by decide) (by decide) ?_
    intro T16 L16 v16 X16 hQ16
    obtain ⟨rfl, Nq16, K16, F_b15_values', F_b15_weights'⟩ := hQ16
    have e16 : T16.heap = T16.heap := rfl
    have V_b7 := V_b7.keep K16 (ninS ne_b7_b15 nin0)
    have V_b8 := V_b8.keep K16 (ninS ne_b8_b15 nin0)
    have V_b9 := V_b9.keep K16 (ninS ne_b9_b15 nin0)
    have V_b10 := V_b10.keep K16 (ninS ne_b10_b15 nin0)
    have E_b15 := E_b15.keep K16
    have sz16 : n0 ≤ T16.heap.size := Nat.le_trans sz15 K16.1
    have F_b15_values := F_b15_values'
    have F_b15_weights := F_b15_weights'
    have N16 := Fr.app N14 Nq16
    show Own.Go p e below _ (T16.setTop (mkF m 245 #[.val (.int pk), .val (.long ls), .second, .val (.int l2), .val (.long w0), .second, .val (.long w1), .second, .val (.long w2), .second, .val (.int va1), .val (.int vb2), .val (.int vc3), .val (.int (0 : Int32)), .val (.int la5), .val (.int lb6), .val (.ref b7), .val (.ref b8), .val (.ref b9), .val (.ref b10), .unset, .unset, .unset, .unset, .unset, .unset, .unset, .unset, .unset, .unset, .unset, .unset] [(.ref b15)]))
    refine Own.astore X16 hx (pc := 245) #[.val (.int pk), .val (.long ls), .second, .val (.int l2), .val (.long w0), .second, .val (.long w1), .second, .val (.long w2), .second, .val (.int va1), .val (.int vb2), .val (.int vc3), .val (.int (0 : Int32)), .val (.int la5), .val (.int lb6), .val (.ref b7), .val (.ref b8), .val (.ref b9), .val (.ref b10), .val (.ref b15), .unset, .unset, .unset, .unset, .unset, .unset, .unset, .unset, .unset, .unset, .unset] (hb hby at_245) rfl rfl ?_
    refine Own.aload X16 hx (pc := 247) (hb hby at_247) rfl rfl ?_
    refine Own.aload X16 hx (pc := 249) (hb hby at_249) rfl rfl ?_
    refine Own.callVirtual X16 hx hZ (pc := 251) (y := (⟨"shortleaf/BlockCode", "bitsIn", "([I)J"⟩ : MethodName)) (z := (⟨"shortleaf/BlockCode", "bitsIn", "([I)J"⟩ : MethodName)) hown (Wd hw 26 rfl) (Wd hw 27 rfl) (Wd hw 29 rfl) (Wd hw 28 rfl) (Wd hw 4 rfl) (Wd hw 30 rfl) (Wd hw 29 rfl) (by decide) 0 b15 [(.ref b10)] [] E_b15 (rm4_0 l Z a0 hw b15 b10 b7 b8 (own_L va1.toNatClampNeg vb2.toNatClampNeg vc3.toNatClampNeg (.int la5) (.int lb6) (.int l2)) T16.heap n0 sz16 F_b15_values F_b15_weights V_b7 V_b8 V_b10) (by decide) (by decide) e16 (by rw [hml]; rfl) pd4 rfl rfl (Nat.le_of_eq rfl) (hb hby at_251) (by decide) (by decide) ?_
    intro T17 L17 v17 X17 hQ17
    obtain ⟨rfl, Nq17, e17⟩ := hQ17
    have N17 := Fr.app N16 Nq17
    show Own.Go p e below _ (T17.setTop (mkF m 254 #[.val (.int pk), .val (.long ls), .second, .val (.int l2), .val (.long w0), .second, .val (.long w1), .second, .val (.long w2), .second, .val (.int va1), .val (.int vb2), .val (.int vc3), .val (.int (0 : Int32)), .val (.int la5), .val (.int lb6), .val (.ref b7), .val (.ref b8), .val (.ref b9), .val (.ref b10), .val (.ref b15), .unset, .unset, .unset, .unset, .unset, .unset, .unset, .unset, .unset, .unset, .unset] [(.long (0 : Int64))]))
    refine Own.lstore X17 hx (pc := 254) #[.val (.int pk), .val (.long ls), .second, .val (.int l2), .val (.long w0), .second, .val (.long w1), .second, .val (.long w2), .second, .val (.int va1), .val (.int vb2), .val (.int vc3), .val (.int (0 : Int32)), .val (.int la5), .val (.int lb6), .val (.ref b7), .val (.ref b8), .val (.ref b9), .val (.ref b10), .val (.ref b15), .val (.long (0 : Int64)), .second, .unset, .unset, .unset, .unset, .unset, .unset, .unset, .unset, .unset] (hb hby at_254) rfl ?_
    refine Own.iload X17 hx (pc := 256) (hb hby at_256) rfl ?_
    refine Own.iconst X17 hx (pc := 258) (1 : Int32) (hb hby at_258) (by decide) ?_
    refine Own.icmpYes X17 hx (pc := 259) 267 (hb hby at_259) (by decide) (by decide) (by decide) ?_
    refine Own.iload X17 hx (pc := 267) (hb hby at_267) rfl ?_
    refine Own.iconst X17 hx (pc := 269) (2 : Int32) (hb hby at_269) (by decide) ?_
    refine Own.icmpYes X17 hx (pc := 270) 278 (hb hby at_270) (by decide) (by decide) (by decide) ?_
    refine Own.iload X17 hx (pc := 278) (hb hby at_278) rfl ?_
    refine Own.iconst X17 hx (pc := 280) (3 : Int32) (hb hby at_280) (by decide) ?_
    refine Own.icmpYes X17 hx (pc := 281) 292 (hb hby at_281) (by decide) (by decide) (by decide) ?_
    refine Own.iconst X17 hx (pc := 292) (0 : Int32) (hb hby at_292) (by decide) ?_
    refine Own.istore X17 hx (pc := 293) #[.val (.int pk), .val (.long ls), .second, .val (.int l2), .val (.long w0), .second, .val (.long w1), .second, .val (.long w2), .second, .val (.int va1), .val (.int vb2), .val (.int vc3), .val (.int (0 : Int32)), .val (.int la5), .val (.int lb6), .val (.ref b7), .val (.ref b8), .val (.ref b9), .val (.ref b10), .val (.ref b15), .val (.long (0 : Int64)), .second, .val (.int (0 : Int32)), .unset, .unset, .unset, .unset, .unset, .unset, .unset, .unset] (hb hby at_293) rfl ?_
    refine Own.iload X17 hx (pc := 295) (hb hby at_295) rfl ?_
    refine Own.ifYes X17 hx (pc := 297) 308 (hb hby at_297) (by decide) (by decide) (by decide) ?_
    refine Own.iload X17 hx (pc := 308) (hb hby at_308) rfl ?_
    refine Own.iconst X17 hx (pc := 310) (1 : Int32) (hb hby at_310) (by decide) ?_
    refine Own.icmpYes X17 hx (pc := 311) 323 (hb hby at_311) (by decide) (by decide) (by decide) ?_
    refine Own.lconst X17 hx (pc := 323) (0 : Int64) (hb hby at_323) (by decide) ?_
    refine Own.lstore X17 hx (pc := 324) #[.val (.int pk), .val (.long ls), .second, .val (.int l2), .val (.long w0), .second, .val (.long w1), .second, .val (.long w2), .second, .val (.int va1), .val (.int vb2), .val (.int vc3), .val (.int (0 : Int32)), .val (.int la5), .val (.int lb6), .val (.ref b7), .val (.ref b8), .val (.ref b9), .val (.ref b10), .val (.ref b15), .val (.long (0 : Int64)), .second, .val (.int (0 : Int32)), .unset, .unset, .val (.long (0 : Int64)), .second, .unset, .unset, .unset, .unset] (hb hby at_324) rfl ?_
    refine Own.iload X17 hx (pc := 326) (hb hby at_326) rfl ?_
    refine Own.iconst X17 hx (pc := 328) (2 : Int32) (hb hby at_328) (by decide) ?_
    refine Own.icmpYes X17 hx (pc := 329) 341 (hb hby at_329) (by decide) (by decide) (by decide) ?_
    refine Own.lconst X17 hx (pc := 341) (0 : Int64) (hb hby at_341) (by decide) ?_
    refine Own.lstore X17 hx (pc := 342) #[.val (.int pk), .val (.long ls), .second, .val (.int l2), .val (.long w0), .second, .val (.long w1), .second, .val (.long w2), .second, .val (.int va1), .val (.int vb2), .val (.int vc3), .val (.int (0 : Int32)), .val (.int la5), .val (.int lb6), .val (.ref b7), .val (.ref b8), .val (.ref b9), .val (.ref b10), .val (.ref b15), .val (.long (0 : Int64)), .second, .val (.int (0 : Int32)), .unset, .unset, .val (.long (0 : Int64)), .second, .val (.long (0 : Int64)), .second, .unset, .unset] (hb hby at_342) rfl ?_
    refine Own.iload X17 hx (pc := 344) (hb hby at_344) rfl ?_
    refine Own.iconst X17 hx (pc := 346) (3 : Int32) (hb hby at_346) (by decide) ?_
    refine Own.icmpYes X17 hx (pc := 347) 358 (hb hby at_347) (by decide) (by decide) (by decide) ?_
    refine Own.lconst X17 hx (pc := 358) (0 : Int64) (hb hby at_358) (by decide) ?_
    refine Own.lstore X17 hx (pc := 359) #[.val (.int pk), .val (.long ls), .second, .val (.int l2), .val (.long w0), .second, .val (.long w1), .second, .val (.long w2), .second, .val (.int va1), .val (.int vb2), .val (.int vc3), .val (.int (0 : Int32)), .val (.int la5), .val (.int lb6), .val (.ref b7), .val (.ref b8), .val (.ref b9), .val (.ref b10), .val (.ref b15), .val (.long (0 : Int64)), .second, .val (.int (0 : Int32)), .unset, .unset, .val (.long (0 : Int64)), .second, .val (.long (0 : Int64)), .second, .val (.long (0 : Int64)), .second] (hb hby at_359) rfl ?_
    refine Own.lload X17 hx (pc := 361) (hb hby at_361) rfl ?_
    refine Own.lload X17 hx (pc := 363) (hb hby at_363) rfl ?_
    refine Own.ladd X17 hx (pc := 365) (hb hby at_365) ?_
    refine Own.topJ (show ((0 : Int64) + (0 : Int64)) = (0 : Int64) by decide) ?_
    refine Own.lload X17 hx (pc := 366) (hb hby at_366) rfl ?_
    refine Own.ladd X17 hx (pc := 368) (hb hby at_368) ?_
    refine Own.topJ (show ((0 : Int64) + (0 : Int64)) = (0 : Int64) by decide) ?_
    refine Own.lstore X17 hx (pc := 369) #[.val (.int pk), .val (.long ls), .second, .val (.int l2), .val (.long w0), .second, .val (.long w1), .second, .val (.long w2), .second, .val (.int va1), .val (.int vb2), .val (.int vc3), .val (.int (0 : Int32)), .val (.int la5), .val (.int lb6), .val (.ref b7), .val (.ref b8), .val (.ref b9), .val (.ref b10), .val (.ref b15), .val (.long (0 : Int64)), .second, .val (.int (0 : Int32)), .val (.long (0 : Int64)), .second, .val (.long (0 : Int64)), .second, .val (.long (0 : Int64)), .second, .val (.long (0 : Int64)), .second] (hb hby at_369) rfl ?_
    refine Own.lload X17 hx (pc := 371) (hb hby at_371) rfl ?_
    refine Own.lload X17 hx (pc := 373) (hb hby at_373) rfl ?_
    refine Own.lcmp X17 hx (pc := 375) (hb hby at_375) ?_
    refine Own.ifNo X17 hx (pc := 376) (hb hby at_376) (XT.ll_ne_f (rfl : (0 : Int64) = (0 : Int64))) ?_
    refine Own.iconst X17 hx (pc := 379) (1 : Int32) (hb hby at_379) (by decide) ?_
    refine Own.goto X17 hx (pc := 380) 384 (hb hby at_380) (by decide) (by decide) ?_
    exact Own.ireturn X17 hx hk hret (by simp) rfl (hb hby at_384) e17 ⟨rfl, N17⟩ (by decide) (by decide)
  · refine Own.istore X0 hx (pc := 37) #[.val (.int pk), .val (.long ls), .second, .val (.int l2), .val (.long w0), .second, .val (.long w1), .second, .val (.long w2), .second, .val (.int va1), .val (.int vb2), .val (.int vc3), .val (.int (1 : Int32)), .unset, .unset, .unset, .unset, .unset, .unset, .unset, .unset, .unset, .unset, .unset, .unset, .unset, .unset, .unset, .unset, .unset, .unset] (hb hby at_37) rfl ?_
    refine Own.lloadN X0 hx (pc := 39) (hb hby at_39) rfl ?_
    refine Own.l2i X0 hx (pc := 40) (hb hby at_40) ?_
    generalize qla18 : ls.toInt32 = la18
    refine Own.istore X0 hx (pc := 41) #[.val (.int pk), .val (.long ls), .second, .val (.int l2), .val (.long w0), .second, .val (.long w1), .second, .val (.long w2), .second, .val (.int va1), .val (.int vb2), .val (.int vc3), .val (.int (1 : Int32)), .val (.int la18), .unset, .unset, .unset, .unset, .unset, .unset, .unset, .unset, .unset, .unset, .unset, .unset, .unset, .unset, .unset, .unset, .unset] (hb hby at_41) rfl ?_
    refine Own.lloadN X0 hx (pc := 43) (hb hby at_43) rfl ?_
    refine Own.bipush X0 hx (pc := 44) (32 : Int32) (hb hby at_44) (by decide) ?_
    refine Own.lushr X0 hx (pc := 46) (hb hby at_46) ?_
    refine Own.l2i X0 hx (pc := 47) (hb hby at_47) ?_
    generalize qlb19 : (XT.ushrL ls (32 : Int32)).toInt32 = lb19
    refine Own.istore X0 hx (pc := 48) #[.val (.int pk), .val (.long ls), .second, .val (.int l2), .val (.long w0), .second, .val (.long w1), .second, .val (.long w2), .second, .val (.int va1), .val (.int vb2), .val (.int vc3), .val (.int (1 : Int32)), .val (.int la18), .val (.int lb19), .unset, .unset, .unset, .unset, .unset, .unset, .unset, .unset, .unset, .unset, .unset, .unset, .unset, .unset, .unset, .unset] (hb hby at_48) rfl ?_
    refine Own.iload X0 hx (pc := 50) (hb hby at_50) rfl ?_
    refine Own.ifYes X0 hx (pc := 52) 73 (hb hby at_52) (by decide) (by decide) (by decide) ?_
    refine Own.iload X0 hx (pc := 73) (hb hby at_73) rfl ?_
    refine Own.iconst X0 hx (pc := 75) (1 : Int32) (hb hby at_75) (by decide) ?_
    refine Own.icmpNo X0 hx (pc := 76) (hb hby at_76) (by decide) ?_
    refine Own.iconst X0 hx (pc := 79) (1 : Int32) (hb hby at_79) (by decide) ?_
    refine Own.newarr X0 hx hZ (pc := 80) (aty := .int) (Wd hw 0 rfl) e0 (hb hby at_80) (by decide) 1 1 (by decide) (by decide) (by decide) (by decide) (by decide) ?_
    intro T20 h20 b20 g20 X20 e20 Ex20 V_b20
    have ge_b20 : n0 ≤ b20 := g20 ▸ Z0
    have sz20 : n0 ≤ h20.size := Nat.le_trans Z0 Ex20.1
    replace V_b20 : Own.VArr Z h20 b20 .int [(.int (0 : Int32))] := V_b20
    refine Own.dup X20 hx (pc := 82) (hb hby at_82) rfl ?_
    refine Own.iconst X20 hx (pc := 83) (0 : Int32) (hb hby at_83) (by decide) ?_
    refine Own.iload X20 hx (pc := 84) (hb hby at_84) rfl ?_
    refine Own.iastore X20 hx hZ (pc := 86) e20 V_b20 0 (by decide) (by decide) (of_decide_eq_true rfl) N0 ge_b20 (hb hby at_86) ?_
    intro T21 h21 X21 e21 W21 N21 V_b20
    replace V_b20 : Own.VArr Z h21 b20 .int [(.int va1)] := V_b20
    have sz21 : n0 ≤ h21.size := Nat.le_trans sz20 (Nat.le_of_eq (Wr.size W21).symm)
    refine Own.astore X21 hx (pc := 87) #[.val (.int pk), .val (.long ls), .second, .val (.int l2), .val (.long w0), .second, .val (.long w1), .second, .val (.long w2), .second, .val (.int va1), .val (.int vb2), .val (.int vc3), .val (.int (1 : Int32)), .val (.int la18), .val (.int lb19), .val (.ref b20), .unset, .unset, .unset, .unset, .unset, .unset, .unset, .unset, .unset, .unset, .unset, .unset, .unset, .unset, .unset] (hb hby at_87) rfl rfl ?_
    refine Own.iconst X21 hx (pc := 89) (1 : Int32) (hb hby at_89) (by decide) ?_
    refine Own.newarr X21 hx hZ (pc := 90) (aty := .long) (Wd hw 1 rfl) e21 (hb hby at_90) (by decide) 1 1 (by decide) (by decide) (by decide) (by decide) (by decide) ?_
    intro T22 h22 b22 g22 X22 e22 Ex22 V_b22
    have ne_b20_b22 : b20 ≠ b22 := Nat.ne_of_lt (g22 ▸ V_b20.lt)
    have V_b20 := V_b20.ext Ex22
    have ge_b22 : n0 ≤ b22 := g22 ▸ sz21
    have sz22 : n0 ≤ h22.size := Nat.le_trans sz21 Ex22.1
    replace V_b22 : Own.VArr Z h22 b22 .long [(.long (0 : Int64))] := V_b22
    refine Own.dup X22 hx (pc := 92) (hb hby at_92) rfl ?_
    refine Own.iconst X22 hx (pc := 93) (0 : Int32) (hb hby at_93) (by decide) ?_
    refine Own.lload X22 hx (pc := 94) (hb hby at_94) rfl ?_
    refine Own.lastore X22 hx hZ (pc := 96) e22 V_b22 0 (by decide) (by decide) (of_decide_eq_true rfl) N21 ge_b22 (hb hby at_96) ?_
    intro T23 h23 X23 e23 W23 N23 V_b22
    replace V_b22 : Own.VArr Z h23 b22 .long [(.long w0)] := V_b22
    have sz23 : n0 ≤ h23.size := Nat.le_trans sz22 (Nat.le_of_eq (Wr.size W23).symm)
    have V_b20 := V_b20.other W23 ne_b20_b22
    refine Own.astore X23 hx (pc := 97) #[.val (.int pk), .val (.long ls), .second, .val (.int l2), .val (.long w0), .second, .val (.long w1), .second, .val (.long w2), .second, .val (.int va1), .val (.int vb2), .val (.int vc3), .val (.int (1 : Int32)), .val (.int la18), .val (.int lb19), .val (.ref b20), .val (.ref b22), .unset, .unset, .unset, .unset, .unset, .unset, .unset, .unset, .unset, .unset, .unset, .unset, .unset, .unset] (hb hby at_97) rfl rfl ?_
    refine Own.iconst X23 hx (pc := 99) (1 : Int32) (hb hby at_99) (by decide) ?_
    refine Own.newarr X23 hx hZ (pc := 100) (aty := .int) (Wd hw 0 rfl) e23 (hb hby at_100) (by decide) 1 1 (by decide) (by decide) (by decide) (by decide) (by decide) ?_
    intro T24 h24 b24 g24 X24 e24 Ex24 V_b24
    have ne_b20_b24 : b20 ≠ b24 := Nat.ne_of_lt (g24 ▸ V_b20.lt)
    have ne_b22_b24 : b22 ≠ b24 := Nat.ne_of_lt (g24 ▸ V_b22.lt)
    have V_b20 := V_b20.ext Ex24
    have V_b22 := V_b22.ext Ex24
    have ge_b24 : n0 ≤ b24 := g24 ▸ sz23
    have sz24 : n0 ≤ h24.size := Nat.le_trans sz23 Ex24.1
    replace V_b24 : Own.VArr Z h24 b24 .int [(.int (0 : Int32))] := V_b24
    refine Own.astore X24 hx (pc := 102) #[.val (.int pk), .val (.long ls), .second, .val (.int l2), .val (.long w0), .second, .val (.long w1), .second, .val (.long w2), .second, .val (.int va1), .val (.int vb2), .val (.int vc3), .val (.int (1 : Int32)), .val (.int la18), .val (.int lb19), .val (.ref b20), .val (.ref b22), .val (.ref b24), .unset, .unset, .unset, .unset, .unset, .unset, .unset, .unset, .unset, .unset, .unset, .unset, .unset] (hb hby at_102) rfl rfl ?_
    refine Own.goto X24 hx (pc := 104) 196 (hb hby at_104) (by decide) (by decide) ?_
    refine Own.sipush X24 hx (pc := 196) (256 : Int32) (hb hby at_196) (by decide) ?_
    refine Own.newarr X24 hx hZ (pc := 199) (aty := .int) (Wd hw 0 rfl) e24 (hb hby at_199) (by decide) 256 256 (by decide) (by decide) (by decide) (by decide) (by decide) ?_
    intro T25 h25 b25 g25 X25 e25 Ex25 V_b25
    have ne_b20_b25 : b20 ≠ b25 := Nat.ne_of_lt (g25 ▸ V_b20.lt)
    have ne_b22_b25 : b22 ≠ b25 := Nat.ne_of_lt (g25 ▸ V_b22.lt)
    have ne_b24_b25 : b24 ≠ b25 := Nat.ne_of_lt (g25 ▸ V_b24.lt)
    have V_b20 := V_b20.ext Ex25
    have V_b22 := V_b22.ext Ex25
    have V_b24 := V_b24.ext Ex25
    have ge_b25 : n0 ≤ b25 := g25 ▸ sz24
    have sz25 : n0 ≤ h25.size := Nat.le_trans sz24 Ex25.1
    replace V_b25 : Own.VArr Z h25 b25 .int (List.replicate 256 (.int (0 : Int32))) := V_b25
    refine Own.astore X25 hx (pc := 201) #[.val (.int pk), .val (.long ls), .second, .val (.int l2), .val (.long w0), .second, .val (.long w1), .second, .val (.long w2), .second, .val (.int va1), .val (.int vb2), .val (.int vc3), .val (.int (1 : Int32)), .val (.int la18), .val (.int lb19), .val (.ref b20), .val (.ref b22), .val (.ref b24), .val (.ref b25), .unset, .unset, .unset, .unset, .unset, .unset, .unset, .unset, .unset, .unset, .unset, .unset] (hb hby at_201) rfl rfl ?_
    refine Own.aload X25 hx (pc := 203) (hb hby at_203) rfl rfl ?_
    refine Own.sipush X25 hx (pc := 205) (255 : Int32) (hb hby at_205) (by decide) ?_
    refine Own.iconst X25 hx (pc := 208) (-1 : Int32) (hb hby at_208) (by decide) ?_
    refine Own.iastore X25 hx hZ (pc := 209) e25 V_b25 255 (by decide) (by decide) (by simp) N23 ge_b25 (hb hby at_209) ?_
    intro T26 h26 X26 e26 W26 N26 V_b25
    have sz26 : n0 ≤ h26.size := Nat.le_trans sz25 (Nat.le_of_eq (Wr.size W26).symm)
    have V_b20 := V_b20.other W26 ne_b20_b25
    have V_b22 := V_b22.other W26 ne_b22_b25
    have V_b24 := V_b24.other W26 ne_b24_b25
    refine Own.aload X26 hx (pc := 210) (hb hby at_210) rfl rfl ?_
    refine Own.iload X26 hx (pc := 212) (hb hby at_212) rfl ?_
    refine Own.iload X26 hx (pc := 214) (hb hby at_214) rfl ?_
    refine Own.iastore X26 hx hZ (pc := 216) e26 V_b25 va1.toNatClampNeg (own_nn (by omega)) rfl (by have e : va1.toNatClampNeg = va1.toInt.toNat := rfl; rw [e]; simp; omega) N26 ge_b25 (hb hby at_216) ?_
    intro T27 h27 X27 e27 W27 N27 V_b25
    have sz27 : n0 ≤ h27.size := Nat.le_trans sz26 (Nat.le_of_eq (Wr.size W27).symm)
    have V_b20 := V_b20.other W27 ne_b20_b25
    have V_b22 := V_b22.other W27 ne_b22_b25
    have V_b24 := V_b24.other W27 ne_b24_b25
    refine Own.aload X27 hx (pc := 217) (hb hby at_217) rfl rfl ?_
    refine Own.iload X27 hx (pc := 219) (hb hby at_219) rfl ?_
    refine Own.iload X27 hx (pc := 221) (hb hby at_221) rfl ?_
    refine Own.iastore X27 hx hZ (pc := 223) e27 V_b25 vb2.toNatClampNeg (own_nn (by omega)) rfl (by have e : vb2.toNatClampNeg = vb2.toInt.toNat := rfl; rw [e]; simp; omega) N27 ge_b25 (hb hby at_223) ?_
    intro T28 h28 X28 e28 W28 N28 V_b25
    have sz28 : n0 ≤ h28.size := Nat.le_trans sz27 (Nat.le_of_eq (Wr.size W28).symm)
    have V_b20 := V_b20.other W28 ne_b20_b25
    have V_b22 := V_b22.other W28 ne_b22_b25
    have V_b24 := V_b24.other W28 ne_b24_b25
    refine Own.aload X28 hx (pc := 224) (hb hby at_224) rfl rfl ?_
    refine Own.iload X28 hx (pc := 226) (hb hby at_226) rfl ?_
    refine Own.iloadN X28 hx (pc := 228) (hb hby at_228) rfl ?_
    refine Own.iastore X28 hx hZ (pc := 229) e28 V_b25 vc3.toNatClampNeg (own_nn (by omega)) rfl (by have e : vc3.toNatClampNeg = vc3.toInt.toNat := rfl; rw [e]; simp; omega) N28 ge_b25 (hb hby at_229) ?_
    intro T29 h29 X29 e29 W29 N29 V_b25
    replace V_b25 : Own.VArr Z h29 b25 .int (own_L va1.toNatClampNeg vb2.toNatClampNeg vc3.toNatClampNeg (.int la18) (.int lb19) (.int l2)) := V_b25
    have sz29 : n0 ≤ h29.size := Nat.le_trans sz28 (Nat.le_of_eq (Wr.size W29).symm)
    have V_b20 := V_b20.other W29 ne_b20_b25
    have V_b22 := V_b22.other W29 ne_b22_b25
    have V_b24 := V_b24.other W29 ne_b24_b25
    refine Own.newobj X29 hx hZ (pc := 230) hown (Wd hw 2 rfl) (Wd hw 3 rfl) (Wd hw 4 rfl) e29 (hb hby at_230) (by decide) (by decide) ?_
    intro T30 h30 b30 g30 X30 e30 Ex30 E_b30 D30
    have ne_b20_b30 : b20 ≠ b30 := Nat.ne_of_lt (g30 ▸ V_b20.lt)
    have ne_b22_b30 : b22 ≠ b30 := Nat.ne_of_lt (g30 ▸ V_b22.lt)
    have ne_b24_b30 : b24 ≠ b30 := Nat.ne_of_lt (g30 ▸ V_b24.lt)
    have ne_b25_b30 : b25 ≠ b30 := Nat.ne_of_lt (g30 ▸ V_b25.lt)
    have V_b20 := V_b20.ext Ex30
    have V_b22 := V_b22.ext Ex30
    have V_b24 := V_b24.ext Ex30
    have V_b25 := V_b25.ext Ex30
    have ge_b30 : n0 ≤ b30 := g30 ▸ sz29
    have sz30 : n0 ≤ h30.size := Nat.le_trans sz29 Ex30.1
    have F_b30_length : Fld Z h30 b30 "shortleaf/BlockCode" "length" "J" (.long (0 : Int64)) := D30 (Or.inr (Wd hw 17 rfl)) (ty := .long) (by decide)
    have F_b30_values : Fld Z h30 b30 "shortleaf/BlockCode" "values" "[I" .null := D30 (Or.inr (Wd hw 19 rfl)) (ty := (.array .int)) (by decide)
    have F_b30_weights : Fld Z h30 b30 "shortleaf/BlockCode" "weights" "[J" .null := D30 (Or.inr (Wd hw 21 rfl)) (ty := (.array .long)) (by decide)
    have F_b30_lengths : Fld Z h30 b30 "shortleaf/BlockCode" "lengths" "[I" .null := D30 (Or.inr (Wd hw 23 rfl)) (ty := (.array .int)) (by decide)
    have F_b30_payloadBits : Fld Z h30 b30 "shortleaf/BlockCode" "payloadBits" "J" (.long (0 : Int64)) := D30 (Or.inr (Wd hw 25 rfl)) (ty := .long) (by decide)
    refine Own.dup X30 hx (pc := 233) (hb hby at_233) rfl ?_
    refine Own.lconst X30 hx (pc := 234) (0 : Int64) (hb hby at_234) (by decide) ?_
    refine Own.aload X30 hx (pc := 235) (hb hby at_235) rfl rfl ?_
    refine Own.aload X30 hx (pc := 237) (hb hby at_237) rfl rfl ?_
    refine Own.aload X30 hx (pc := 239) (hb hby at_239) rfl rfl ?_
    refine Own.lconst X30 hx (pc := 241) (0 : Int64) (hb hby at_241) (by decide) ?_
    refine Own.callSpecial X30 hx hZ (pc := 242) (y := (⟨"shortleaf/BlockCode", "<init>", "(J[I[J[IJ)V"⟩ : MethodName)) rfl hown (Wd hw 5 rfl) (Wd hw 6 rfl) (Wd hw 4 rfl) (Wd hw 7 rfl) (by decide) 1 b30 [(.long (0 : Int64)), (.ref b20), (.ref b22), (.ref b24), (.long (0 : Int64))] [(.ref b30)] (rm1 l Z a0 hw b30 (0 : Int64) b20 b22 b24 (0 : Int64) h30 n0 sz30 E_b30 F_b30_length F_b30_values F_b30_weights F_b30_lengths F_b30_payloadBits ge_b30) (by decide) (by decide) e30 (by rw [hml]; rfl) pd3 rfl rfl (Nat.le_of_eq rfl) (hb hby at_242) (by decide) (by decide) ?_
    intro T31 L31 v31 X31 hQ31
    obtain ⟨rfl, Nq31, K31, F_b30_values', F_b30_weights'⟩ := hQ31
    have e31 : T31.heap = T31.heap := rfl
    have V_b20 := V_b20.keep K31 (ninS ne_b20_b30 nin0)
    have V_b22 := V_b22.keep K31 (ninS ne_b22_b30 nin0)
    have V_b24 := V_b24.keep K31 (ninS ne_b24_b30 nin0)
    have V_b25 := V_b25.keep K31 (ninS ne_b25_b30 nin0)
    have E_b30 := E_b30.keep K31
    have sz31 : n0 ≤ T31.heap.size := Nat.le_trans sz30 K31.1
    have F_b30_values := F_b30_values'
    have F_b30_weights := F_b30_weights'
    have N31 := Fr.app N29 Nq31
    show Own.Go p e below _ (T31.setTop (mkF m 245 #[.val (.int pk), .val (.long ls), .second, .val (.int l2), .val (.long w0), .second, .val (.long w1), .second, .val (.long w2), .second, .val (.int va1), .val (.int vb2), .val (.int vc3), .val (.int (1 : Int32)), .val (.int la18), .val (.int lb19), .val (.ref b20), .val (.ref b22), .val (.ref b24), .val (.ref b25), .unset, .unset, .unset, .unset, .unset, .unset, .unset, .unset, .unset, .unset, .unset, .unset] [(.ref b30)]))
    refine Own.astore X31 hx (pc := 245) #[.val (.int pk), .val (.long ls), .second, .val (.int l2), .val (.long w0), .second, .val (.long w1), .second, .val (.long w2), .second, .val (.int va1), .val (.int vb2), .val (.int vc3), .val (.int (1 : Int32)), .val (.int la18), .val (.int lb19), .val (.ref b20), .val (.ref b22), .val (.ref b24), .val (.ref b25), .val (.ref b30), .unset, .unset, .unset, .unset, .unset, .unset, .unset, .unset, .unset, .unset, .unset] (hb hby at_245) rfl rfl ?_
    refine Own.aload X31 hx (pc := 247) (hb hby at_247) rfl rfl ?_
    refine Own.aload X31 hx (pc := 249) (hb hby at_249) rfl rfl ?_
    refine Own.callVirtual X31 hx hZ (pc := 251) (y := (⟨"shortleaf/BlockCode", "bitsIn", "([I)J"⟩ : MethodName)) (z := (⟨"shortleaf/BlockCode", "bitsIn", "([I)J"⟩ : MethodName)) hown (Wd hw 26 rfl) (Wd hw 27 rfl) (Wd hw 29 rfl) (Wd hw 28 rfl) (Wd hw 4 rfl) (Wd hw 30 rfl) (Wd hw 29 rfl) (by decide) 0 b30 [(.ref b25)] [] E_b30 (rm4_1 l Z a0 hw b30 b25 b20 b22 (own_L va1.toNatClampNeg vb2.toNatClampNeg vc3.toNatClampNeg (.int la18) (.int lb19) (.int l2)) va1 w0 la18 T31.heap n0 sz31 F_b30_values F_b30_weights V_b20 V_b22 V_b25 (own_nn (by omega)) (own_get hva hvb hvc).1) (by decide) (by decide) e31 (by rw [hml]; rfl) pd4 rfl rfl (Nat.le_of_eq rfl) (hb hby at_251) (by decide) (by decide) ?_
    intro T32 L32 v32 X32 hQ32
    obtain ⟨rfl, Nq32, e32⟩ := hQ32
    have N32 := Fr.app N31 Nq32
    show Own.Go p e below _ (T32.setTop (mkF m 254 #[.val (.int pk), .val (.long ls), .second, .val (.int l2), .val (.long w0), .second, .val (.long w1), .second, .val (.long w2), .second, .val (.int va1), .val (.int vb2), .val (.int vc3), .val (.int (1 : Int32)), .val (.int la18), .val (.int lb19), .val (.ref b20), .val (.ref b22), .val (.ref b24), .val (.ref b25), .val (.ref b30), .unset, .unset, .unset, .unset, .unset, .unset, .unset, .unset, .unset, .unset, .unset] [(.long (if la18 < 0 then (-1 : Int64) else ((0 : Int64) + (w0 * la18.toInt64))))]))
    refine Own.lstore X32 hx (pc := 254) #[.val (.int pk), .val (.long ls), .second, .val (.int l2), .val (.long w0), .second, .val (.long w1), .second, .val (.long w2), .second, .val (.int va1), .val (.int vb2), .val (.int vc3), .val (.int (1 : Int32)), .val (.int la18), .val (.int lb19), .val (.ref b20), .val (.ref b22), .val (.ref b24), .val (.ref b25), .val (.ref b30), .val (.long (if la18 < 0 then (-1 : Int64) else ((0 : Int64) + (w0 * la18.toInt64)))), .second, .unset, .unset, .unset, .unset, .unset, .unset, .unset, .unset, .unset] (hb hby at_254) rfl ?_
    refine Own.iload X32 hx (pc := 256) (hb hby at_256) rfl ?_
    refine Own.iconst X32 hx (pc := 258) (1 : Int32) (hb hby at_258) (by decide) ?_
    refine Own.icmpNo X32 hx (pc := 259) (hb hby at_259) (by decide) ?_
    refine Own.iload X32 hx (pc := 262) (hb hby at_262) rfl ?_
    by_cases c33 : la18 < (0 : Int32)
    · refine Own.ifYes X32 hx (pc := 264) 288 (hb hby at_264) (XT.i0_lt_t c33) (by decide) (by decide) ?_
      refine Own.iconst X32 hx (pc := 288) (1 : Int32) (hb hby at_288) (by decide) ?_
      refine Own.goto X32 hx (pc := 289) 293 (hb hby at_289) (by decide) (by decide) ?_
      refine Own.istore X32 hx (pc := 293) #[.val (.int pk), .val (.long ls), .second, .val (.int l2), .val (.long w0), .second, .val (.long w1), .second, .val (.long w2), .second, .val (.int va1), .val (.int vb2), .val (.int vc3), .val (.int (1 : Int32)), .val (.int la18), .val (.int lb19), .val (.ref b20), .val (.ref b22), .val (.ref b24), .val (.ref b25), .val (.ref b30), .val (.long (if la18 < 0 then (-1 : Int64) else ((0 : Int64) + (w0 * la18.toInt64)))), .second, .val (.int (1 : Int32)), .unset, .unset, .unset, .unset, .unset, .unset, .unset, .unset] (hb hby at_293) rfl ?_
      refine Own.iload X32 hx (pc := 295) (hb hby at_295) rfl ?_
      refine Own.ifNo X32 hx (pc := 297) (hb hby at_297) (by decide) ?_
      refine Own.ldc2J X32 hx hZ (pc := 300) hown (Wd hw 32 rfl) (hb hby at_300) ?_
      refine Own.lstore X32 hx (pc := 303) #[.val (.int pk), .val (.long ls), .second, .val (.int l2), .val (.long w0), .second, .val (.long w1), .second, .val (.long w2), .second, .val (.int va1), .val (.int vb2), .val (.int vc3), .val (.int (1 : Int32)), .val (.int la18), .val (.int lb19), .val (.ref b20), .val (.ref b22), .val (.ref b24), .val (.ref b25), .val (.ref b30), .val (.long (if la18 < 0 then (-1 : Int64) else ((0 : Int64) + (w0 * la18.toInt64)))), .second, .val (.int (1 : Int32)), .val (.long (-1 : Int64)), .second, .unset, .unset, .unset, .unset, .unset, .unset] (hb hby at_303) rfl ?_
      refine Own.goto X32 hx (pc := 305) 371 (hb hby at_305) (by decide) (by decide) ?_
      refine Own.lload X32 hx (pc := 371) (hb hby at_371) rfl ?_
      refine Own.lload X32 hx (pc := 373) (hb hby at_373) rfl ?_
      refine Own.lcmp X32 hx (pc := 375) (hb hby at_375) ?_
      refine Own.ifNo X32 hx (pc := 376) (hb hby at_376) (XT.ll_ne_f (by simp [c33])) ?_
      refine Own.iconst X32 hx (pc := 379) (1 : Int32) (hb hby at_379) (by decide) ?_
      refine Own.goto X32 hx (pc := 380) 384 (hb hby at_380) (by decide) (by decide) ?_
      exact Own.ireturn X32 hx hk hret (by simp) rfl (hb hby at_384) e32 ⟨rfl, N32⟩ (by decide) (by decide)
    · refine Own.ifNo X32 hx (pc := 264) (hb hby at_264) (XT.i0_lt_f c33) ?_
      refine Own.iload X32 hx (pc := 267) (hb hby at_267) rfl ?_
      refine Own.iconst X32 hx (pc := 269) (2 : Int32) (hb hby at_269) (by decide) ?_
      refine Own.icmpYes X32 hx (pc := 270) 278 (hb hby at_270) (by decide) (by decide) (by decide) ?_
      refine Own.iload X32 hx (pc := 278) (hb hby at_278) rfl ?_
      refine Own.iconst X32 hx (pc := 280) (3 : Int32) (hb hby at_280) (by decide) ?_
      refine Own.icmpYes X32 hx (pc := 281) 292 (hb hby at_281) (by decide) (by decide) (by decide) ?_
      refine Own.iconst X32 hx (pc := 292) (0 : Int32) (hb hby at_292) (by decide) ?_
      refine Own.istore X32 hx (pc := 293) #[.val (.int pk), .val (.long ls), .second, .val (.int l2), .val (.long w0), .second, .val (.long w1), .second, .val (.long w2), .second, .val (.int va1), .val (.int vb2), .val (.int vc3), .val (.int (1 : Int32)), .val (.int la18), .val (.int lb19), .val (.ref b20), .val (.ref b22), .val (.ref b24), .val (.ref b25), .val (.ref b30), .val (.long (if la18 < 0 then (-1 : Int64) else ((0 : Int64) + (w0 * la18.toInt64)))), .second, .val (.int (0 : Int32)), .unset, .unset, .unset, .unset, .unset, .unset, .unset, .unset] (hb hby at_293) rfl ?_
      refine Own.iload X32 hx (pc := 295) (hb hby at_295) rfl ?_
      refine Own.ifYes X32 hx (pc := 297) 308 (hb hby at_297) (by decide) (by decide) (by decide) ?_
      refine Own.iload X32 hx (pc := 308) (hb hby at_308) rfl ?_
      refine Own.iconst X32 hx (pc := 310) (1 : Int32) (hb hby at_310) (by decide) ?_
      refine Own.icmpNo X32 hx (pc := 311) (hb hby at_311) (by decide) ?_
      refine Own.lload X32 hx (pc := 314) (hb hby at_314) rfl ?_
      refine Own.iload X32 hx (pc := 316) (hb hby at_316) rfl ?_
      refine Own.i2l X32 hx (pc := 318) (hb hby at_318) ?_
      refine Own.lmul X32 hx (pc := 319) (hb hby at_319) ?_
      refine Own.goto X32 hx (pc := 320) 324 (hb hby at_320) (by decide) (by decide) ?_
      refine Own.lstore X32 hx (pc := 324) #[.val (.int pk), .val (.long ls), .second, .val (.int l2), .val (.long w0), .second, .val (.long w1), .second, .val (.long w2), .second, .val (.int va1), .val (.int vb2), .val (.int vc3), .val (.int (1 : Int32)), .val (.int la18), .val (.int lb19), .val (.ref b20), .val (.ref b22), .val (.ref b24), .val (.ref b25), .val (.ref b30), .val (.long (if la18 < 0 then (-1 : Int64) else ((0 : Int64) + (w0 * la18.toInt64)))), .second, .val (.int (0 : Int32)), .unset, .unset, .val (.long (w0 * la18.toInt64)), .second, .unset, .unset, .unset, .unset] (hb hby at_324) rfl ?_
      refine Own.iload X32 hx (pc := 326) (hb hby at_326) rfl ?_
      refine Own.iconst X32 hx (pc := 328) (2 : Int32) (hb hby at_328) (by decide) ?_
      refine Own.icmpYes X32 hx (pc := 329) 341 (hb hby at_329) (by decide) (by decide) (by decide) ?_
      refine Own.lconst X32 hx (pc := 341) (0 : Int64) (hb hby at_341) (by decide) ?_
      refine Own.lstore X32 hx (pc := 342) #[.val (.int pk), .val (.long ls), .second, .val (.int l2), .val (.long w0), .second, .val (.long w1), .second, .val (.long w2), .second, .val (.int va1), .val (.int vb2), .val (.int vc3), .val (.int (1 : Int32)), .val (.int la18), .val (.int lb19), .val (.ref b20), .val (.ref b22), .val (.ref b24), .val (.ref b25), .val (.ref b30), .val (.long (if la18 < 0 then (-1 : Int64) else ((0 : Int64) + (w0 * la18.toInt64)))), .second, .val (.int (0 : Int32)), .unset, .unset, .val (.long (w0 * la18.toInt64)), .second, .val (.long (0 : Int64)), .second, .unset, .unset] (hb hby at_342) rfl ?_
      refine Own.iload X32 hx (pc := 344) (hb hby at_344) rfl ?_
      refine Own.iconst X32 hx (pc := 346) (3 : Int32) (hb hby at_346) (by decide) ?_
      refine Own.icmpYes X32 hx (pc := 347) 358 (hb hby at_347) (by decide) (by decide) (by decide) ?_
      refine Own.lconst X32 hx (pc := 358) (0 : Int64) (hb hby at_358) (by decide) ?_
      refine Own.lstore X32 hx (pc := 359) #[.val (.int pk), .val (.long ls), .second, .val (.int l2), .val (.long w0), .second, .val (.long w1), .second, .val (.long w2), .second, .val (.int va1), .val (.int vb2), .val (.int vc3), .val (.int (1 : Int32)), .val (.int la18), .val (.int lb19), .val (.ref b20), .val (.ref b22), .val (.ref b24), .val (.ref b25), .val (.ref b30), .val (.long (if la18 < 0 then (-1 : Int64) else ((0 : Int64) + (w0 * la18.toInt64)))), .second, .val (.int (0 : Int32)), .unset, .unset, .val (.long (w0 * la18.toInt64)), .second, .val (.long (0 : Int64)), .second, .val (.long (0 : Int64)), .second] (hb hby at_359) rfl ?_
      refine Own.lload X32 hx (pc := 361) (hb hby at_361) rfl ?_
      refine Own.lload X32 hx (pc := 363) (hb hby at_363) rfl ?_
      refine Own.ladd X32 hx (pc := 365) (hb hby at_365) ?_
      refine Own.lload X32 hx (pc := 366) (hb hby at_366) rfl ?_
      refine Own.ladd X32 hx (pc := 368) (hb hby at_368) ?_
      refine Own.lstore X32 hx (pc := 369) #[.val (.int pk), .val (.long ls), .second, .val (.int l2), .val (.long w0), .second, .val (.long w1), .second, .val (.long w2), .second, .val (.int va1), .val (.int vb2), .val (.int vc3), .val (.int (1 : Int32)), .val (.int la18), .val (.int lb19), .val (.ref b20), .val (.ref b22), .val (.ref b24), .val (.ref b25), .val (.ref b30), .val (.long (if la18 < 0 then (-1 : Int64) else ((0 : Int64) + (w0 * la18.toInt64)))), .second, .val (.int (0 : Int32)), .val (.long (((w0 * la18.toInt64) + (0 : Int64)) + (0 : Int64))), .second, .val (.long (w0 * la18.toInt64)), .second, .val (.long (0 : Int64)), .second, .val (.long (0 : Int64)), .second] (hb hby at_369) rfl ?_
      refine Own.lload X32 hx (pc := 371) (hb hby at_371) rfl ?_
      refine Own.lload X32 hx (pc := 373) (hb hby at_373) rfl ?_
      refine Own.lcmp X32 hx (pc := 375) (hb hby at_375) ?_
      refine Own.ifNo X32 hx (pc := 376) (hb hby at_376) (XT.ll_ne_f (by simp [c33])) ?_
      refine Own.iconst X32 hx (pc := 379) (1 : Int32) (hb hby at_379) (by decide) ?_
      refine Own.goto X32 hx (pc := 380) 384 (hb hby at_380) (by decide) (by decide) ?_
      exact Own.ireturn X32 hx hk hret (by simp) rfl (hb hby at_384) e32 ⟨rfl, N32⟩ (by decide) (by decide)
  · refine Own.istore X0 hx (pc := 37) #[.val (.int pk), .val (.long ls), .second, .val (.int l2), .val (.long w0), .second, .val (.long w1), .second, .val (.long w2), .second, .val (.int va1), .val (.int vb2), .val (.int vc3), .val (.int (2 : Int32)), .unset, .unset, .unset, .unset, .unset, .unset, .unset, .unset, .unset, .unset, .unset, .unset, .unset, .unset, .unset, .unset, .unset, .unset] (hb hby at_37) rfl ?_
    refine Own.lloadN X0 hx (pc := 39) (hb hby at_39) rfl ?_
    refine Own.l2i X0 hx (pc := 40) (hb hby at_40) ?_
    generalize qla34 : ls.toInt32 = la34
    refine Own.istore X0 hx (pc := 41) #[.val (.int pk), .val (.long ls), .second, .val (.int l2), .val (.long w0), .second, .val (.long w1), .second, .val (.long w2), .second, .val (.int va1), .val (.int vb2), .val (.int vc3), .val (.int (2 : Int32)), .val (.int la34), .unset, .unset, .unset, .unset, .unset, .unset, .unset, .unset, .unset, .unset, .unset, .unset, .unset, .unset, .unset, .unset, .unset] (hb hby at_41) rfl ?_
    refine Own.lloadN X0 hx (pc := 43) (hb hby at_43) rfl ?_
    refine Own.bipush X0 hx (pc := 44) (32 : Int32) (hb hby at_44) (by decide) ?_
    refine Own.lushr X0 hx (pc := 46) (hb hby at_46) ?_
    refine Own.l2i X0 hx (pc := 47) (hb hby at_47) ?_
    generalize qlb35 : (XT.ushrL ls (32 : Int32)).toInt32 = lb35
    refine Own.istore X0 hx (pc := 48) #[.val (.int pk), .val (.long ls), .second, .val (.int l2), .val (.long w0), .second, .val (.long w1), .second, .val (.long w2), .second, .val (.int va1), .val (.int vb2), .val (.int vc3), .val (.int (2 : Int32)), .val (.int la34), .val (.int lb35), .unset, .unset, .unset, .unset, .unset, .unset, .unset, .unset, .unset, .unset, .unset, .unset, .unset, .unset, .unset, .unset] (hb hby at_48) rfl ?_
    refine Own.iload X0 hx (pc := 50) (hb hby at_50) rfl ?_
    refine Own.ifYes X0 hx (pc := 52) 73 (hb hby at_52) (by decide) (by decide) (by decide) ?_
    refine Own.iload X0 hx (pc := 73) (hb hby at_73) rfl ?_
    refine Own.iconst X0 hx (pc := 75) (1 : Int32) (hb hby at_75) (by decide) ?_
    refine Own.icmpYes X0 hx (pc := 76) 107 (hb hby at_76) (by decide) (by decide) (by decide) ?_
    refine Own.iload X0 hx (pc := 107) (hb hby at_107) rfl ?_
    refine Own.iconst X0 hx (pc := 109) (2 : Int32) (hb hby at_109) (by decide) ?_
    refine Own.icmpNo X0 hx (pc := 110) (hb hby at_110) (by decide) ?_
    refine Own.iconst X0 hx (pc := 113) (2 : Int32) (hb hby at_113) (by decide) ?_
    refine Own.newarr X0 hx hZ (pc := 114) (aty := .int) (Wd hw 0 rfl) e0 (hb hby at_114) (by decide) 2 2 (by decide) (by decide) (by decide) (by decide) (by decide) ?_
    intro T36 h36 b36 g36 X36 e36 Ex36 V_b36
    have ge_b36 : n0 ≤ b36 := g36 ▸ Z0
    have sz36 : n0 ≤ h36.size := Nat.le_trans Z0 Ex36.1
    replace V_b36 : Own.VArr Z h36 b36 .int [(.int (0 : Int32)), (.int (0 : Int32))] := V_b36
    refine Own.dup X36 hx (pc := 116) (hb hby at_116) rfl ?_
    refine Own.iconst X36 hx (pc := 117) (0 : Int32) (hb hby at_117) (by decide) ?_
    refine Own.iload X36 hx (pc := 118) (hb hby at_118) rfl ?_
    refine Own.iastore X36 hx hZ (pc := 120) e36 V_b36 0 (by decide) (by decide) (of_decide_eq_true rfl) N0 ge_b36 (hb hby at_120) ?_
    intro T37 h37 X37 e37 W37 N37 V_b36
    replace V_b36 : Own.VArr Z h37 b36 .int [(.int va1), (.int (0 : Int32))] := V_b36
    have sz37 : n0 ≤ h37.size := Nat.le_trans sz36 (Nat.le_of_eq (Wr.size W37).symm)
    refine Own.dup X37 hx (pc := 121) (hb hby at_121) rfl ?_
    refine Own.iconst X37 hx (pc := 122) (1 : Int32) (hb hby at_122) (by decide) ?_
    refine Own.iload X37 hx (pc := 123) (hb hby at_123) rfl ?_
    refine Own.iastore X37 hx hZ (pc := 125) e37 V_b36 1 (by decide) (by decide) (of_decide_eq_true rfl) N37 ge_b36 (hb hby at_125) ?_
    intro T38 h38 X38 e38 W38 N38 V_b36
    replace V_b36 : Own.VArr Z h38 b36 .int [(.int va1), (.int vb2)] := V_b36
    have sz38 : n0 ≤ h38.size := Nat.le_trans sz37 (Nat.le_of_eq (Wr.size W38).symm)
    refine Own.astore X38 hx (pc := 126) #[.val (.int pk), .val (.long ls), .second, .val (.int l2), .val (.long w0), .second, .val (.long w1), .second, .val (.long w2), .second, .val (.int va1), .val (.int vb2), .val (.int vc3), .val (.int (2 : Int32)), .val (.int la34), .val (.int lb35), .val (.ref b36), .unset, .unset, .unset, .unset, .unset, .unset, .unset, .unset, .unset, .unset, .unset, .unset, .unset, .unset, .unset] (hb hby at_126) rfl rfl ?_
    refine Own.iconst X38 hx (pc := 128) (2 : Int32) (hb hby at_128) (by decide) ?_
    refine Own.newarr X38 hx hZ (pc := 129) (aty := .long) (Wd hw 1 rfl) e38 (hb hby at_129) (by decide) 2 2 (by decide) (by decide) (by decide) (by decide) (by decide) ?_
    intro T39 h39 b39 g39 X39 e39 Ex39 V_b39
    have ne_b36_b39 : b36 ≠ b39 := Nat.ne_of_lt (g39 ▸ V_b36.lt)
    have V_b36 := V_b36.ext Ex39
    have ge_b39 : n0 ≤ b39 := g39 ▸ sz38
    have sz39 : n0 ≤ h39.size := Nat.le_trans sz38 Ex39.1
    replace V_b39 : Own.VArr Z h39 b39 .long [(.long (0 : Int64)), (.long (0 : Int64))] := V_b39
    refine Own.dup X39 hx (pc := 131) (hb hby at_131) rfl ?_
    refine Own.iconst X39 hx (pc := 132) (0 : Int32) (hb hby at_132) (by decide) ?_
    refine Own.lload X39 hx (pc := 133) (hb hby at_133) rfl ?_
    refine Own.lastore X39 hx hZ (pc := 135) e39 V_b39 0 (by decide) (by decide) (of_decide_eq_true rfl) N38 ge_b39 (hb hby at_135) ?_
    intro T40 h40 X40 e40 W40 N40 V_b39
    replace V_b39 : Own.VArr Z h40 b39 .long [(.long w0), (.long (0 : Int64))] := V_b39
    have sz40 : n0 ≤ h40.size := Nat.le_trans sz39 (Nat.le_of_eq (Wr.size W40).symm)
    have V_b36 := V_b36.other W40 ne_b36_b39
    refine Own.dup X40 hx (pc := 136) (hb hby at_136) rfl ?_
    refine Own.iconst X40 hx (pc := 137) (1 : Int32) (hb hby at_137) (by decide) ?_
    refine Own.lload X40 hx (pc := 138) (hb hby at_138) rfl ?_
    refine Own.lastore X40 hx hZ (pc := 140) e40 V_b39 1 (by decide) (by decide) (of_decide_eq_true rfl) N40 ge_b39 (hb hby at_140) ?_
    intro T41 h41 X41 e41 W41 N41 V_b39
    replace V_b39 : Own.VArr Z h41 b39 .long [(.long w0), (.long w1)] := V_b39
    have sz41 : n0 ≤ h41.size := Nat.le_trans sz40 (Nat.le_of_eq (Wr.size W41).symm)
    have V_b36 := V_b36.other W41 ne_b36_b39
    refine Own.astore X41 hx (pc := 141) #[.val (.int pk), .val (.long ls), .second, .val (.int l2), .val (.long w0), .second, .val (.long w1), .second, .val (.long w2), .second, .val (.int va1), .val (.int vb2), .val (.int vc3), .val (.int (2 : Int32)), .val (.int la34), .val (.int lb35), .val (.ref b36), .val (.ref b39), .unset, .unset, .unset, .unset, .unset, .unset, .unset, .unset, .unset, .unset, .unset, .unset, .unset, .unset] (hb hby at_141) rfl rfl ?_
    refine Own.iconst X41 hx (pc := 143) (2 : Int32) (hb hby at_143) (by decide) ?_
    refine Own.newarr X41 hx hZ (pc := 144) (aty := .int) (Wd hw 0 rfl) e41 (hb hby at_144) (by decide) 2 2 (by decide) (by decide) (by decide) (by decide) (by decide) ?_
    intro T42 h42 b42 g42 X42 e42 Ex42 V_b42
    have ne_b36_b42 : b36 ≠ b42 := Nat.ne_of_lt (g42 ▸ V_b36.lt)
    have ne_b39_b42 : b39 ≠ b42 := Nat.ne_of_lt (g42 ▸ V_b39.lt)
    have V_b36 := V_b36.ext Ex42
    have V_b39 := V_b39.ext Ex42
    have ge_b42 : n0 ≤ b42 := g42 ▸ sz41
    have sz42 : n0 ≤ h42.size := Nat.le_trans sz41 Ex42.1
    replace V_b42 : Own.VArr Z h42 b42 .int [(.int (0 : Int32)), (.int (0 : Int32))] := V_b42
    refine Own.astore X42 hx (pc := 146) #[.val (.int pk), .val (.long ls), .second, .val (.int l2), .val (.long w0), .second, .val (.long w1), .second, .val (.long w2), .second, .val (.int va1), .val (.int vb2), .val (.int vc3), .val (.int (2 : Int32)), .val (.int la34), .val (.int lb35), .val (.ref b36), .val (.ref b39), .val (.ref b42), .unset, .unset, .unset, .unset, .unset, .unset, .unset, .unset, .unset, .unset, .unset, .unset, .unset] (hb hby at_146) rfl rfl ?_
    refine Own.goto X42 hx (pc := 148) 196 (hb hby at_148) (by decide) (by decide) ?_
    refine Own.sipush X42 hx (pc := 196) (256 : Int32) (hb hby at_196) (by decide) ?_
    refine Own.newarr X42 hx hZ (pc := 199) (aty := .int) (Wd hw 0 rfl) e42 (hb hby at_199) (by decide) 256 256 (by decide) (by decide) (by decide) (by decide) (by decide) ?_
    intro T43 h43 b43 g43 X43 e43 Ex43 V_b43
    have ne_b36_b43 : b36 ≠ b43 := Nat.ne_of_lt (g43 ▸ V_b36.lt)
    have ne_b39_b43 : b39 ≠ b43 := Nat.ne_of_lt (g43 ▸ V_b39.lt)
    have ne_b42_b43 : b42 ≠ b43 := Nat.ne_of_lt (g43 ▸ V_b42.lt)
    have V_b36 := V_b36.ext Ex43
    have V_b39 := V_b39.ext Ex43
    have V_b42 := V_b42.ext Ex43
    have ge_b43 : n0 ≤ b43 := g43 ▸ sz42
    have sz43 : n0 ≤ h43.size := Nat.le_trans sz42 Ex43.1
    replace V_b43 : Own.VArr Z h43 b43 .int (List.replicate 256 (.int (0 : Int32))) := V_b43
    refine Own.astore X43 hx (pc := 201) #[.val (.int pk), .val (.long ls), .second, .val (.int l2), .val (.long w0), .second, .val (.long w1), .second, .val (.long w2), .second, .val (.int va1), .val (.int vb2), .val (.int vc3), .val (.int (2 : Int32)), .val (.int la34), .val (.int lb35), .val (.ref b36), .val (.ref b39), .val (.ref b42), .val (.ref b43), .unset, .unset, .unset, .unset, .unset, .unset, .unset, .unset, .unset, .unset, .unset, .unset] (hb hby at_201) rfl rfl ?_
    refine Own.aload X43 hx (pc := 203) (hb hby at_203) rfl rfl ?_
    refine Own.sipush X43 hx (pc := 205) (255 : Int32) (hb hby at_205) (by decide) ?_
    refine Own.iconst X43 hx (pc := 208) (-1 : Int32) (hb hby at_208) (by decide) ?_
    refine Own.iastore X43 hx hZ (pc := 209) e43 V_b43 255 (by decide) (by decide) (by simp) N41 ge_b43 (hb hby at_209) ?_
    intro T44 h44 X44 e44 W44 N44 V_b43
    have sz44 : n0 ≤ h44.size := Nat.le_trans sz43 (Nat.le_of_eq (Wr.size W44).symm)
    have V_b36 := V_b36.other W44 ne_b36_b43
    have V_b39 := V_b39.other W44 ne_b39_b43
    have V_b42 := V_b42.other W44 ne_b42_b43
    refine Own.aload X44 hx (pc := 210) (hb hby at_210) rfl rfl ?_
    refine Own.iload X44 hx (pc := 212) (hb hby at_212) rfl ?_
    refine Own.iload X44 hx (pc := 214) (hb hby at_214) rfl ?_
    refine Own.iastore X44 hx hZ (pc := 216) e44 V_b43 va1.toNatClampNeg (own_nn (by omega)) rfl (by have e : va1.toNatClampNeg = va1.toInt.toNat := rfl; rw [e]; simp; omega) N44 ge_b43 (hb hby at_216) ?_
    intro T45 h45 X45 e45 W45 N45 V_b43
    have sz45 : n0 ≤ h45.size := Nat.le_trans sz44 (Nat.le_of_eq (Wr.size W45).symm)
    have V_b36 := V_b36.other W45 ne_b36_b43
    have V_b39 := V_b39.other W45 ne_b39_b43
    have V_b42 := V_b42.other W45 ne_b42_b43
    refine Own.aload X45 hx (pc := 217) (hb hby at_217) rfl rfl ?_
    refine Own.iload X45 hx (pc := 219) (hb hby at_219) rfl ?_
    refine Own.iload X45 hx (pc := 221) (hb hby at_221) rfl ?_
    refine Own.iastore X45 hx hZ (pc := 223) e45 V_b43 vb2.toNatClampNeg (own_nn (by omega)) rfl (by have e : vb2.toNatClampNeg = vb2.toInt.toNat := rfl; rw [e]; simp; omega) N45 ge_b43 (hb hby at_223) ?_
    intro T46 h46 X46 e46 W46 N46 V_b43
    have sz46 : n0 ≤ h46.size := Nat.le_trans sz45 (Nat.le_of_eq (Wr.size W46).symm)
    have V_b36 := V_b36.other W46 ne_b36_b43
    have V_b39 := V_b39.other W46 ne_b39_b43
    have V_b42 := V_b42.other W46 ne_b42_b43
    refine Own.aload X46 hx (pc := 224) (hb hby at_224) rfl rfl ?_
    refine Own.iload X46 hx (pc := 226) (hb hby at_226) rfl ?_
    refine Own.iloadN X46 hx (pc := 228) (hb hby at_228) rfl ?_
    refine Own.iastore X46 hx hZ (pc := 229) e46 V_b43 vc3.toNatClampNeg (own_nn (by omega)) rfl (by have e : vc3.toNatClampNeg = vc3.toInt.toNat := rfl; rw [e]; simp; omega) N46 ge_b43 (hb hby at_229) ?_
    intro T47 h47 X47 e47 W47 N47 V_b43
    replace V_b43 : Own.VArr Z h47 b43 .int (own_L va1.toNatClampNeg vb2.toNatClampNeg vc3.toNatClampNeg (.int la34) (.int lb35) (.int l2)) := V_b43
    have sz47 : n0 ≤ h47.size := Nat.le_trans sz46 (Nat.le_of_eq (Wr.size W47).symm)
    have V_b36 := V_b36.other W47 ne_b36_b43
    have V_b39 := V_b39.other W47 ne_b39_b43
    have V_b42 := V_b42.other W47 ne_b42_b43
    refine Own.newobj X47 hx hZ (pc := 230) hown (Wd hw 2 rfl) (Wd hw 3 rfl) (Wd hw 4 rfl) e47 (hb hby at_230) (by decide) (by decide) ?_
    intro T48 h48 b48 g48 X48 e48 Ex48 E_b48 D48
    have ne_b36_b48 : b36 ≠ b48 := Nat.ne_of_lt (g48 ▸ V_b36.lt)
    have ne_b39_b48 : b39 ≠ b48 := Nat.ne_of_lt (g48 ▸ V_b39.lt)
    have ne_b42_b48 : b42 ≠ b48 := Nat.ne_of_lt (g48 ▸ V_b42.lt)
    have ne_b43_b48 : b43 ≠ b48 := Nat.ne_of_lt (g48 ▸ V_b43.lt)
    have V_b36 := V_b36.ext Ex48
    have V_b39 := V_b39.ext Ex48
    have V_b42 := V_b42.ext Ex48
    have V_b43 := V_b43.ext Ex48
    have ge_b48 : n0 ≤ b48 := g48 ▸ sz47
    have sz48 : n0 ≤ h48.size := Nat.le_trans sz47 Ex48.1
    have F_b48_length : Fld Z h48 b48 "shortleaf/BlockCode" "length" "J" (.long (0 : Int64)) := D48 (Or.inr (Wd hw 17 rfl)) (ty := .long) (by decide)
    have F_b48_values : Fld Z h48 b48 "shortleaf/BlockCode" "values" "[I" .null := D48 (Or.inr (Wd hw 19 rfl)) (ty := (.array .int)) (by decide)
    have F_b48_weights : Fld Z h48 b48 "shortleaf/BlockCode" "weights" "[J" .null := D48 (Or.inr (Wd hw 21 rfl)) (ty := (.array .long)) (by decide)
    have F_b48_lengths : Fld Z h48 b48 "shortleaf/BlockCode" "lengths" "[I" .null := D48 (Or.inr (Wd hw 23 rfl)) (ty := (.array .int)) (by decide)
    have F_b48_payloadBits : Fld Z h48 b48 "shortleaf/BlockCode" "payloadBits" "J" (.long (0 : Int64)) := D48 (Or.inr (Wd hw 25 rfl)) (ty := .long) (by decide)
    refine Own.dup X48 hx (pc := 233) (hb hby at_233) rfl ?_
    refine Own.lconst X48 hx (pc := 234) (0 : Int64) (hb hby at_234) (by decide) ?_
    refine Own.aload X48 hx (pc := 235) (hb hby at_235) rfl rfl ?_
    refine Own.aload X48 hx (pc := 237) (hb hby at_237) rfl rfl ?_
    refine Own.aload X48 hx (pc := 239) (hb hby at_239) rfl rfl ?_
    refine Own.lconst X48 hx (pc := 241) (0 : Int64) (hb hby at_241) (by decide) ?_
    refine Own.callSpecial X48 hx hZ (pc := 242) (y := (⟨"shortleaf/BlockCode", "<init>", "(J[I[J[IJ)V"⟩ : MethodName)) rfl hown (Wd hw 5 rfl) (Wd hw 6 rfl) (Wd hw 4 rfl) (Wd hw 7 rfl) (by decide) 1 b48 [(.long (0 : Int64)), (.ref b36), (.ref b39), (.ref b42), (.long (0 : Int64))] [(.ref b48)] (rm1 l Z a0 hw b48 (0 : Int64) b36 b39 b42 (0 : Int64) h48 n0 sz48 E_b48 F_b48_length F_b48_values F_b48_weights F_b48_lengths F_b48_payloadBits ge_b48) (by decide) (by decide) e48 (by rw [hml]; rfl) pd3 rfl rfl (Nat.le_of_eq rfl) (hb hby at_242) (by decide) (by decide) ?_
    intro T49 L49 v49 X49 hQ49
    obtain ⟨rfl, Nq49, K49, F_b48_values', F_b48_weights'⟩ := hQ49
    have e49 : T49.heap = T49.heap := rfl
    have V_b36 := V_b36.keep K49 (ninS ne_b36_b48 nin0)
    have V_b39 := V_b39.keep K49 (ninS ne_b39_b48 nin0)
    have V_b42 := V_b42.keep K49 (ninS ne_b42_b48 nin0)
    have V_b43 := V_b43.keep K49 (ninS ne_b43_b48 nin0)
    have E_b48 := E_b48.keep K49
    have sz49 : n0 ≤ T49.heap.size := Nat.le_trans sz48 K49.1
    have F_b48_values := F_b48_values'
    have F_b48_weights := F_b48_weights'
    have N49 := Fr.app N47 Nq49
    show Own.Go p e below _ (T49.setTop (mkF m 245 #[.val (.int pk), .val (.long ls), .second, .val (.int l2), .val (.long w0), .second, .val (.long w1), .second, .val (.long w2), .second, .val (.int va1), .val (.int vb2), .val (.int vc3), .val (.int (2 : Int32)), .val (.int la34), .val (.int lb35), .val (.ref b36), .val (.ref b39), .val (.ref b42), .val (.ref b43), .unset, .unset, .unset, .unset, .unset, .unset, .unset, .unset, .unset, .unset, .unset, .unset] [(.ref b48)]))
    refine Own.astore X49 hx (pc := 245) #[.val (.int pk), .val (.long ls), .second, .val (.int l2), .val (.long w0), .second, .val (.long w1), .second, .val (.long w2), .second, .val (.int va1), .val (.int vb2), .val (.int vc3), .val (.int (2 : Int32)), .val (.int la34), .val (.int lb35), .val (.ref b36), .val (.ref b39), .val (.ref b42), .val (.ref b43), .val (.ref b48), .unset, .unset, .unset, .unset, .unset, .unset, .unset, .unset, .unset, .unset, .unset] (hb hby at_245) rfl rfl ?_
    refine Own.aload X49 hx (pc := 247) (hb hby at_247) rfl rfl ?_
    refine Own.aload X49 hx (pc := 249) (hb hby at_249) rfl rfl ?_
    refine Own.callVirtual X49 hx hZ (pc := 251) (y := (⟨"shortleaf/BlockCode", "bitsIn", "([I)J"⟩ : MethodName)) (z := (⟨"shortleaf/BlockCode", "bitsIn", "([I)J"⟩ : MethodName)) hown (Wd hw 26 rfl) (Wd hw 27 rfl) (Wd hw 29 rfl) (Wd hw 28 rfl) (Wd hw 4 rfl) (Wd hw 30 rfl) (Wd hw 29 rfl) (by decide) 0 b48 [(.ref b43)] [] E_b48 (rm4_2 l Z a0 hw b48 b43 b36 b39 (own_L va1.toNatClampNeg vb2.toNatClampNeg vc3.toNatClampNeg (.int la34) (.int lb35) (.int l2)) va1 vb2 w0 w1 la34 lb35 T49.heap n0 sz49 F_b48_values F_b48_weights V_b36 V_b39 V_b43 (own_nn (by omega)) (own_get hva hvb hvc).1 (own_nn (by omega)) (own_get hva hvb hvc).2.1) (by decide) (by decide) e49 (by rw [hml]; rfl) pd4 rfl rfl (Nat.le_of_eq rfl) (hb hby at_251) (by decide) (by decide) ?_
    intro T50 L50 v50 X50 hQ50
    obtain ⟨rfl, Nq50, e50⟩ := hQ50
    have N50 := Fr.app N49 Nq50
    show Own.Go p e below _ (T50.setTop (mkF m 254 #[.val (.int pk), .val (.long ls), .second, .val (.int l2), .val (.long w0), .second, .val (.long w1), .second, .val (.long w2), .second, .val (.int va1), .val (.int vb2), .val (.int vc3), .val (.int (2 : Int32)), .val (.int la34), .val (.int lb35), .val (.ref b36), .val (.ref b39), .val (.ref b42), .val (.ref b43), .val (.ref b48), .unset, .unset, .unset, .unset, .unset, .unset, .unset, .unset, .unset, .unset, .unset] [(.long (if la34 < 0 then (-1 : Int64) else (if lb35 < 0 then (-1 : Int64) else (((0 : Int64) + (w0 * la34.toInt64)) + (w1 * lb35.toInt64)))))]))
    refine Own.lstore X50 hx (pc := 254) #[.val (.int pk), .val (.long ls), .second, .val (.int l2), .val (.long w0), .second, .val (.long w1), .second, .val (.long w2), .second, .val (.int va1), .val (.int vb2), .val (.int vc3), .val (.int (2 : Int32)), .val (.int la34), .val (.int lb35), .val (.ref b36), .val (.ref b39), .val (.ref b42), .val (.ref b43), .val (.ref b48), .val (.long (if la34 < 0 then (-1 : Int64) else (if lb35 < 0 then (-1 : Int64) else (((0 : Int64) + (w0 * la34.toInt64)) + (w1 * lb35.toInt64))))), .second, .unset, .unset, .unset, .unset, .unset, .unset, .unset, .unset, .unset] (hb hby at_254) rfl ?_
    refine Own.iload X50 hx (pc := 256) (hb hby at_256) rfl ?_
    refine Own.iconst X50 hx (pc := 258) (1 : Int32) (hb hby at_258) (by decide) ?_
    refine Own.icmpNo X50 hx (pc := 259) (hb hby at_259) (by decide) ?_
    refine Own.iload X50 hx (pc := 262) (hb hby at_262) rfl ?_
    by_cases c51 : la34 < (0 : Int32)
    · refine Own.ifYes X50 hx (pc := 264) 288 (hb hby at_264) (XT.i0_lt_t c51) (by decide) (by decide) ?_
      refine Own.iconst X50 hx (pc := 288) (1 : Int32) (hb hby at_288) (by decide) ?_
      refine Own.goto X50 hx (pc := 289) 293 (hb hby at_289) (by decide) (by decide) ?_
      refine Own.istore X50 hx (pc := 293) #[.val (.int pk), .val (.long ls), .second, .val (.int l2), .val (.long w0), .second, .val (.long w1), .second, .val (.long w2), .second, .val (.int va1), .val (.int vb2), .val (.int vc3), .val (.int (2 : Int32)), .val (.int la34), .val (.int lb35), .val (.ref b36), .val (.ref b39), .val (.ref b42), .val (.ref b43), .val (.ref b48), .val (.long (if la34 < 0 then (-1 : Int64) else (if lb35 < 0 then (-1 : Int64) else (((0 : Int64) + (w0 * la34.toInt64)) + (w1 * lb35.toInt64))))), .second, .val (.int (1 : Int32)), .unset, .unset, .unset, .unset, .unset, .unset, .unset, .unset] (hb hby at_293) rfl ?_
      refine Own.iload X50 hx (pc := 295) (hb hby at_295) rfl ?_
      refine Own.ifNo X50 hx (pc := 297) (hb hby at_297) (by decide) ?_
      refine Own.ldc2J X50 hx hZ (pc := 300) hown (Wd hw 32 rfl) (hb hby at_300) ?_
      refine Own.lstore X50 hx (pc := 303) #[.val (.int pk), .val (.long ls), .second, .val (.int l2), .val (.long w0), .second, .val (.long w1), .second, .val (.long w2), .second, .val (.int va1), .val (.int vb2), .val (.int vc3), .val (.int (2 : Int32)), .val (.int la34), .val (.int lb35), .val (.ref b36), .val (.ref b39), .val (.ref b42), .val (.ref b43), .val (.ref b48), .val (.long (if la34 < 0 then (-1 : Int64) else (if lb35 < 0 then (-1 : Int64) else (((0 : Int64) + (w0 * la34.toInt64)) + (w1 * lb35.toInt64))))), .second, .val (.int (1 : Int32)), .val (.long (-1 : Int64)), .second, .unset, .unset, .unset, .unset, .unset, .unset] (hb hby at_303) rfl ?_
      refine Own.goto X50 hx (pc := 305) 371 (hb hby at_305) (by decide) (by decide) ?_
      refine Own.lload X50 hx (pc := 371) (hb hby at_371) rfl ?_
      refine Own.lload X50 hx (pc := 373) (hb hby at_373) rfl ?_
      refine Own.lcmp X50 hx (pc := 375) (hb hby at_375) ?_
      refine Own.ifNo X50 hx (pc := 376) (hb hby at_376) (XT.ll_ne_f (by simp [c51])) ?_
      refine Own.iconst X50 hx (pc := 379) (1 : Int32) (hb hby at_379) (by decide) ?_
      refine Own.goto X50 hx (pc := 380) 384 (hb hby at_380) (by decide) (by decide) ?_
      exact Own.ireturn X50 hx hk hret (by simp) rfl (hb hby at_384) e50 ⟨rfl, N50⟩ (by decide) (by decide)
    · refine Own.ifNo X50 hx (pc := 264) (hb hby at_264) (XT.i0_lt_f c51) ?_
      refine Own.iload X50 hx (pc := 267) (hb hby at_267) rfl ?_
      refine Own.iconst X50 hx (pc := 269) (2 : Int32) (hb hby at_269) (by decide) ?_
      refine Own.icmpNo X50 hx (pc := 270) (hb hby at_270) (by decide) ?_
      refine Own.iload X50 hx (pc := 273) (hb hby at_273) rfl ?_
      by_cases c52 : lb35 < (0 : Int32)
      · refine Own.ifYes X50 hx (pc := 275) 288 (hb hby at_275) (XT.i0_lt_t c52) (by decide) (by decide) ?_
        refine Own.iconst X50 hx (pc := 288) (1 : Int32) (hb hby at_288) (by decide) ?_
        refine Own.goto X50 hx (pc := 289) 293 (hb hby at_289) (by decide) (by decide) ?_
        refine Own.istore X50 hx (pc := 293) #[.val (.int pk), .val (.long ls), .second, .val (.int l2), .val (.long w0), .second, .val (.long w1), .second, .val (.long w2), .second, .val (.int va1), .val (.int vb2), .val (.int vc3), .val (.int (2 : Int32)), .val (.int la34), .val (.int lb35), .val (.ref b36), .val (.ref b39), .val (.ref b42), .val (.ref b43), .val (.ref b48), .val (.long (if la34 < 0 then (-1 : Int64) else (if lb35 < 0 then (-1 : Int64) else (((0 : Int64) + (w0 * la34.toInt64)) + (w1 * lb35.toInt64))))), .second, .val (.int (1 : Int32)), .unset, .unset, .unset, .unset, .unset, .unset, .unset, .unset] (hb hby at_293) rfl ?_
        refine Own.iload X50 hx (pc := 295) (hb hby at_295) rfl ?_
        refine Own.ifNo X50 hx (pc := 297) (hb hby at_297) (by decide) ?_
        refine Own.ldc2J X50 hx hZ (pc := 300) hown (Wd hw 32 rfl) (hb hby at_300) ?_
        refine Own.lstore X50 hx (pc := 303) #[.val (.int pk), .val (.long ls), .second, .val (.int l2), .val (.long w0), .second, .val (.long w1), .second, .val (.long w2), .second, .val (.int va1), .val (.int vb2), .val (.int vc3), .val (.int (2 : Int32)), .val (.int la34), .val (.int lb35), .val (.ref b36), .val (.ref b39), .val (.ref b42), .val (.ref b43), .val (.ref b48), .val (.long (if la34 < 0 then (-1 : Int64) else (if lb35 < 0 then (-1 : Int64) else (((0 : Int64) + (w0 * la34.toInt64)) + (w1 * lb35.toInt64))))), .second, .val (.int (1 : Int32)), .val (.long (-1 : Int64)), .second, .unset, .unset, .unset, .unset, .unset, .unset] (hb hby at_303) rfl ?_
        refine Own.goto X50 hx (pc := 305) 371 (hb hby at_305) (by decide) (by decide) ?_
        refine Own.lload X50 hx (pc := 371) (hb hby at_371) rfl ?_
        refine Own.lload X50 hx (pc := 373) (hb hby at_373) rfl ?_
        refine Own.lcmp X50 hx (pc := 375) (hb hby at_375) ?_
        refine Own.ifNo X50 hx (pc := 376) (hb hby at_376) (XT.ll_ne_f (by simp [c51, c52])) ?_
        refine Own.iconst X50 hx (pc := 379) (1 : Int32) (hb hby at_379) (by decide) ?_
        refine Own.goto X50 hx (pc := 380) 384 (hb hby at_380) (by decide) (by decide) ?_
        exact Own.ireturn X50 hx hk hret (by simp) rfl (hb hby at_384) e50 ⟨rfl, N50⟩ (by decide) (by decide)
      · refine Own.ifNo X50 hx (pc := 275) (hb hby at_275) (XT.i0_lt_f c52) ?_
        refine Own.iload X50 hx (pc := 278) (hb hby at_278) rfl ?_
        refine Own.iconst X50 hx (pc := 280) (3 : Int32) (hb hby at_280) (by decide) ?_
        refine Own.icmpYes X50 hx (pc := 281) 292 (hb hby at_281) (by decide) (by decide) (by decide) ?_
        refine Own.iconst X50 hx (pc := 292) (0 : Int32) (hb hby at_292) (by decide) ?_
        refine Own.istore X50 hx (pc := 293) #[.val (.int pk), .val (.long ls), .second, .val (.int l2), .val (.long w0), .second, .val (.long w1), .second, .val (.long w2), .second, .val (.int va1), .val (.int vb2), .val (.int vc3), .val (.int (2 : Int32)), .val (.int la34), .val (.int lb35), .val (.ref b36), .val (.ref b39), .val (.ref b42), .val (.ref b43), .val (.ref b48), .val (.long (if la34 < 0 then (-1 : Int64) else (if lb35 < 0 then (-1 : Int64) else (((0 : Int64) + (w0 * la34.toInt64)) + (w1 * lb35.toInt64))))), .second, .val (.int (0 : Int32)), .unset, .unset, .unset, .unset, .unset, .unset, .unset, .unset] (hb hby at_293) rfl ?_
        refine Own.iload X50 hx (pc := 295) (hb hby at_295) rfl ?_
        refine Own.ifYes X50 hx (pc := 297) 308 (hb hby at_297) (by decide) (by decide) (by decide) ?_
        refine Own.iload X50 hx (pc := 308) (hb hby at_308) rfl ?_
        refine Own.iconst X50 hx (pc := 310) (1 : Int32) (hb hby at_310) (by decide) ?_
        refine Own.icmpNo X50 hx (pc := 311) (hb hby at_311) (by decide) ?_
        refine Own.lload X50 hx (pc := 314) (hb hby at_314) rfl ?_
        refine Own.iload X50 hx (pc := 316) (hb hby at_316) rfl ?_
        refine Own.i2l X50 hx (pc := 318) (hb hby at_318) ?_
        refine Own.lmul X50 hx (pc := 319) (hb hby at_319) ?_
        refine Own.goto X50 hx (pc := 320) 324 (hb hby at_320) (by decide) (by decide) ?_
        refine Own.lstore X50 hx (pc := 324) #[.val (.int pk), .val (.long ls), .second, .val (.int l2), .val (.long w0), .second, .val (.long w1), .second, .val (.long w2), .second, .val (.int va1), .val (.int vb2), .val (.int vc3), .val (.int (2 : Int32)), .val (.int la34), .val (.int lb35), .val (.ref b36), .val (.ref b39), .val (.ref b42), .val (.ref b43), .val (.ref b48), .val (.long (if la34 < 0 then (-1 : Int64) else (if lb35 < 0 then (-1 : Int64) else (((0 : Int64) + (w0 * la34.toInt64)) + (w1 * lb35.toInt64))))), .second, .val (.int (0 : Int32)), .unset, .unset, .val (.long (w0 * la34.toInt64)), .second, .unset, .unset, .unset, .unset] (hb hby at_324) rfl ?_
        refine Own.iload X50 hx (pc := 326) (hb hby at_326) rfl ?_
        refine Own.iconst X50 hx (pc := 328) (2 : Int32) (hb hby at_328) (by decide) ?_
        refine Own.icmpNo X50 hx (pc := 329) (hb hby at_329) (by decide) ?_
        refine Own.lload X50 hx (pc := 332) (hb hby at_332) rfl ?_
        refine Own.iload X50 hx (pc := 334) (hb hby at_334) rfl ?_
        refine Own.i2l X50 hx (pc := 336) (hb hby at_336) ?_
        refine Own.lmul X50 hx (pc := 337) (hb hby at_337) ?_
        refine Own.goto X50 hx (pc := 338) 342 (hb hby at_338) (by decide) (by decide) ?_
        refine Own.lstore X50 hx (pc := 342) #[.val (.int pk), .val (.long ls), .second, .val (.int l2), .val (.long w0), .second, .val (.long w1), .second, .val (.long w2), .second, .val (.int va1), .val (.int vb2), .val (.int vc3), .val (.int (2 : Int32)), .val (.int la34), .val (.int lb35), .val (.ref b36), .val (.ref b39), .val (.ref b42), .val (.ref b43), .val (.ref b48), .val (.long (if la34 < 0 then (-1 : Int64) else (if lb35 < 0 then (-1 : Int64) else (((0 : Int64) + (w0 * la34.toInt64)) + (w1 * lb35.toInt64))))), .second, .val (.int (0 : Int32)), .unset, .unset, .val (.long (w0 * la34.toInt64)), .second, .val (.long (w1 * lb35.toInt64)), .second, .unset, .unset] (hb hby at_342) rfl ?_
        refine Own.iload X50 hx (pc := 344) (hb hby at_344) rfl ?_
        refine Own.iconst X50 hx (pc := 346) (3 : Int32) (hb hby at_346) (by decide) ?_
        refine Own.icmpYes X50 hx (pc := 347) 358 (hb hby at_347) (by decide) (by decide) (by decide) ?_
        refine Own.lconst X50 hx (pc := 358) (0 : Int64) (hb hby at_358) (by decide) ?_
        refine Own.lstore X50 hx (pc := 359) #[.val (.int pk), .val (.long ls), .second, .val (.int l2), .val (.long w0), .second, .val (.long w1), .second, .val (.long w2), .second, .val (.int va1), .val (.int vb2), .val (.int vc3), .val (.int (2 : Int32)), .val (.int la34), .val (.int lb35), .val (.ref b36), .val (.ref b39), .val (.ref b42), .val (.ref b43), .val (.ref b48), .val (.long (if la34 < 0 then (-1 : Int64) else (if lb35 < 0 then (-1 : Int64) else (((0 : Int64) + (w0 * la34.toInt64)) + (w1 * lb35.toInt64))))), .second, .val (.int (0 : Int32)), .unset, .unset, .val (.long (w0 * la34.toInt64)), .second, .val (.long (w1 * lb35.toInt64)), .second, .val (.long (0 : Int64)), .second] (hb hby at_359) rfl ?_
        refine Own.lload X50 hx (pc := 361) (hb hby at_361) rfl ?_
        refine Own.lload X50 hx (pc := 363) (hb hby at_363) rfl ?_
        refine Own.ladd X50 hx (pc := 365) (hb hby at_365) ?_
        refine Own.lload X50 hx (pc := 366) (hb hby at_366) rfl ?_
        refine Own.ladd X50 hx (pc := 368) (hb hby at_368) ?_
        refine Own.lstore X50 hx (pc := 369) #[.val (.int pk), .val (.long ls), .second, .val (.int l2), .val (.long w0), .second, .val (.long w1), .second, .val (.long w2), .second, .val (.int va1), .val (.int vb2), .val (.int vc3), .val (.int (2 : Int32)), .val (.int la34), .val (.int lb35), .val (.ref b36), .val (.ref b39), .val (.ref b42), .val (.ref b43), .val (.ref b48), .val (.long (if la34 < 0 then (-1 : Int64) else (if lb35 < 0 then (-1 : Int64) else (((0 : Int64) + (w0 * la34.toInt64)) + (w1 * lb35.toInt64))))), .second, .val (.int (0 : Int32)), .val (.long (((w0 * la34.toInt64) + (w1 * lb35.toInt64)) + (0 : Int64))), .second, .val (.long (w0 * la34.toInt64)), .second, .val (.long (w1 * lb35.toInt64)), .second, .val (.long (0 : Int64)), .second] (hb hby at_369) rfl ?_
        refine Own.lload X50 hx (pc := 371) (hb hby at_371) rfl ?_
        refine Own.lload X50 hx (pc := 373) (hb hby at_373) rfl ?_
        refine Own.lcmp X50 hx (pc := 375) (hb hby at_375) ?_
        refine Own.ifNo X50 hx (pc := 376) (hb hby at_376) (XT.ll_ne_f (by simp [c51, c52])) ?_
        refine Own.iconst X50 hx (pc := 379) (1 : Int32) (hb hby at_379) (by decide) ?_
        refine Own.goto X50 hx (pc := 380) 384 (hb hby at_380) (by decide) (by decide) ?_
        exact Own.ireturn X50 hx hk hret (by simp) rfl (hb hby at_384) e50 ⟨rfl, N50⟩ (by decide) (by decide)
  · refine Own.istore X0 hx (pc := 37) #[.val (.int pk), .val (.long ls), .second, .val (.int l2), .val (.long w0), .second, .val (.long w1), .second, .val (.long w2), .second, .val (.int va1), .val (.int vb2), .val (.int vc3), .val (.int (3 : Int32)), .unset, .unset, .unset, .unset, .unset, .unset, .unset, .unset, .unset, .unset, .unset, .unset, .unset, .unset, .unset, .unset, .unset, .unset] (hb hby at_37) rfl ?_
    refine Own.lloadN X0 hx (pc := 39) (hb hby at_39) rfl ?_
    refine Own.l2i X0 hx (pc := 40) (hb hby at_40) ?_
    generalize qla53 : ls.toInt32 = la53
    refine Own.istore X0 hx (pc := 41) #[.val (.int pk), .val (.long ls), .second, .val (.int l2), .val (.long w0), .second, .val (.long w1), .second, .val (.long w2), .second, .val (.int va1), .val (.int vb2), .val (.int vc3), .val (.int (3 : Int32)), .val (.int la53), .unset, .unset, .unset, .unset, .unset, .unset, .unset, .unset, .unset, .unset, .unset, .unset, .unset, .unset, .unset, .unset, .unset] (hb hby at_41) rfl ?_
    refine Own.lloadN X0 hx (pc := 43) (hb hby at_43) rfl ?_
    refine Own.bipush X0 hx (pc := 44) (32 : Int32) (hb hby at_44) (by decide) ?_
    refine Own.lushr X0 hx (pc := 46) (hb hby at_46) ?_
    refine Own.l2i X0 hx (pc := 47) (hb hby at_47) ?_
    generalize qlb54 : (XT.ushrL ls (32 : Int32)).toInt32 = lb54
    refine Own.istore X0 hx (pc := 48) #[.val (.int pk), .val (.long ls), .second, .val (.int l2), .val (.long w0), .second, .val (.long w1), .second, .val (.long w2), .second, .val (.int va1), .val (.int vb2), .val (.int vc3), .val (.int (3 : Int32)), .val (.int la53), .val (.int lb54), .unset, .unset, .unset, .unset, .unset, .unset, .unset, .unset, .unset, .unset, .unset, .unset, .unset, .unset, .unset, .unset] (hb hby at_48) rfl ?_
    refine Own.iload X0 hx (pc := 50) (hb hby at_50) rfl ?_
    refine Own.ifYes X0 hx (pc := 52) 73 (hb hby at_52) (by decide) (by decide) (by decide) ?_
    refine Own.iload X0 hx (pc := 73) (hb hby at_73) rfl ?_
    refine Own.iconst X0 hx (pc := 75) (1 : Int32) (hb hby at_75) (by decide) ?_
    refine Own.icmpYes X0 hx (pc := 76) 107 (hb hby at_76) (by decide) (by decide) (by decide) ?_
    refine Own.iload X0 hx (pc := 107) (hb hby at_107) rfl ?_
    refine Own.iconst X0 hx (pc := 109) (2 : Int32) (hb hby at_109) (by decide) ?_
    refine Own.icmpYes X0 hx (pc := 110) 151 (hb hby at_110) (by decide) (by decide) (by decide) ?_
    refine Own.iconst X0 hx (pc := 151) (3 : Int32) (hb hby at_151) (by decide) ?_
    refine Own.newarr X0 hx hZ (pc := 152) (aty := .int) (Wd hw 0 rfl) e0 (hb hby at_152) (by decide) 3 3 (by decide) (by decide) (by decide) (by decide) (by decide) ?_
    intro T55 h55 b55 g55 X55 e55 Ex55 V_b55
    have ge_b55 : n0 ≤ b55 := g55 ▸ Z0
    have sz55 : n0 ≤ h55.size := Nat.le_trans Z0 Ex55.1
    replace V_b55 : Own.VArr Z h55 b55 .int [(.int (0 : Int32)), (.int (0 : Int32)), (.int (0 : Int32))] := V_b55
    refine Own.dup X55 hx (pc := 154) (hb hby at_154) rfl ?_
    refine Own.iconst X55 hx (pc := 155) (0 : Int32) (hb hby at_155) (by decide) ?_
    refine Own.iload X55 hx (pc := 156) (hb hby at_156) rfl ?_
    refine Own.iastore X55 hx hZ (pc := 158) e55 V_b55 0 (by decide) (by decide) (of_decide_eq_true rfl) N0 ge_b55 (hb hby at_158) ?_
    intro T56 h56 X56 e56 W56 N56 V_b55
    replace V_b55 : Own.VArr Z h56 b55 .int [(.int va1), (.int (0 : Int32)), (.int (0 : Int32))] := V_b55
    have sz56 : n0 ≤ h56.size := Nat.le_trans sz55 (Nat.le_of_eq (Wr.size W56).symm)
    refine Own.dup X56 hx (pc := 159) (hb hby at_159) rfl ?_
    refine Own.iconst X56 hx (pc := 160) (1 : Int32) (hb hby at_160) (by decide) ?_
    refine Own.iload X56 hx (pc := 161) (hb hby at_161) rfl ?_
    refine Own.iastore X56 hx hZ (pc := 163) e56 V_b55 1 (by decide) (by decide) (of_decide_eq_true rfl) N56 ge_b55 (hb hby at_163) ?_
    intro T57 h57 X57 e57 W57 N57 V_b55
    replace V_b55 : Own.VArr Z h57 b55 .int [(.int va1), (.int vb2), (.int (0 : Int32))] := V_b55
    have sz57 : n0 ≤ h57.size := Nat.le_trans sz56 (Nat.le_of_eq (Wr.size W57).symm)
    refine Own.dup X57 hx (pc := 164) (hb hby at_164) rfl ?_
    refine Own.iconst X57 hx (pc := 165) (2 : Int32) (hb hby at_165) (by decide) ?_
    refine Own.iload X57 hx (pc := 166) (hb hby at_166) rfl ?_
    refine Own.iastore X57 hx hZ (pc := 168) e57 V_b55 2 (by decide) (by decide) (of_decide_eq_true rfl) N57 ge_b55 (hb hby at_168) ?_
    intro T58 h58 X58 e58 W58 N58 V_b55
    replace V_b55 : Own.VArr Z h58 b55 .int [(.int va1), (.int vb2), (.int vc3)] := V_b55
    have sz58 : n0 ≤ h58.size := Nat.le_trans sz57 (Nat.le_of_eq (Wr.size W58).symm)
    refine Own.astore X58 hx (pc := 169) #[.val (.int pk), .val (.long ls), .second, .val (.int l2), .val (.long w0), .second, .val (.long w1), .second, .val (.long w2), .second, .val (.int va1), .val (.int vb2), .val (.int vc3), .val (.int (3 : Int32)), .val (.int la53), .val (.int lb54), .val (.ref b55), .unset, .unset, .unset, .unset, .unset, .unset, .unset, .unset, .unset, .unset, .unset, .unset, .unset, .unset, .unset] (hb hby at_169) rfl rfl ?_
    refine Own.iconst X58 hx (pc := 171) (3 : Int32) (hb hby at_171) (by decide) ?_
    refine Own.newarr X58 hx hZ (pc := 172) (aty := .long) (Wd hw 1 rfl) e58 (hb hby at_172) (by decide) 3 3 (by decide) (by decide) (by decide) (by decide) (by decide) ?_
    intro T59 h59 b59 g59 X59 e59 Ex59 V_b59
    have ne_b55_b59 : b55 ≠ b59 := Nat.ne_of_lt (g59 ▸ V_b55.lt)
    have V_b55 := V_b55.ext Ex59
    have ge_b59 : n0 ≤ b59 := g59 ▸ sz58
    have sz59 : n0 ≤ h59.size := Nat.le_trans sz58 Ex59.1
    replace V_b59 : Own.VArr Z h59 b59 .long [(.long (0 : Int64)), (.long (0 : Int64)), (.long (0 : Int64))] := V_b59
    refine Own.dup X59 hx (pc := 174) (hb hby at_174) rfl ?_
    refine Own.iconst X59 hx (pc := 175) (0 : Int32) (hb hby at_175) (by decide) ?_
    refine Own.lload X59 hx (pc := 176) (hb hby at_176) rfl ?_
    refine Own.lastore X59 hx hZ (pc := 178) e59 V_b59 0 (by decide) (by decide) (of_decide_eq_true rfl) N58 ge_b59 (hb hby at_178) ?_
    intro T60 h60 X60 e60 W60 N60 V_b59
    replace V_b59 : Own.VArr Z h60 b59 .long [(.long w0), (.long (0 : Int64)), (.long (0 : Int64))] := V_b59
    have sz60 : n0 ≤ h60.size := Nat.le_trans sz59 (Nat.le_of_eq (Wr.size W60).symm)
    have V_b55 := V_b55.other W60 ne_b55_b59
    refine Own.dup X60 hx (pc := 179) (hb hby at_179) rfl ?_
    refine Own.iconst X60 hx (pc := 180) (1 : Int32) (hb hby at_180) (by decide) ?_
    refine Own.lload X60 hx (pc := 181) (hb hby at_181) rfl ?_
    refine Own.lastore X60 hx hZ (pc := 183) e60 V_b59 1 (by decide) (by decide) (of_decide_eq_true rfl) N60 ge_b59 (hb hby at_183) ?_
    intro T61 h61 X61 e61 W61 N61 V_b59
    replace V_b59 : Own.VArr Z h61 b59 .long [(.long w0), (.long w1), (.long (0 : Int64))] := V_b59
    have sz61 : n0 ≤ h61.size := Nat.le_trans sz60 (Nat.le_of_eq (Wr.size W61).symm)
    have V_b55 := V_b55.other W61 ne_b55_b59
    refine Own.dup X61 hx (pc := 184) (hb hby at_184) rfl ?_
    refine Own.iconst X61 hx (pc := 185) (2 : Int32) (hb hby at_185) (by decide) ?_
    refine Own.lload X61 hx (pc := 186) (hb hby at_186) rfl ?_
    refine Own.lastore X61 hx hZ (pc := 188) e61 V_b59 2 (by decide) (by decide) (of_decide_eq_true rfl) N61 ge_b59 (hb hby at_188) ?_
    intro T62 h62 X62 e62 W62 N62 V_b59
    replace V_b59 : Own.VArr Z h62 b59 .long [(.long w0), (.long w1), (.long w2)] := V_b59
    have sz62 : n0 ≤ h62.size := Nat.le_trans sz61 (Nat.le_of_eq (Wr.size W62).symm)
    have V_b55 := V_b55.other W62 ne_b55_b59
    refine Own.astore X62 hx (pc := 189) #[.val (.int pk), .val (.long ls), .second, .val (.int l2), .val (.long w0), .second, .val (.long w1), .second, .val (.long w2), .second, .val (.int va1), .val (.int vb2), .val (.int vc3), .val (.int (3 : Int32)), .val (.int la53), .val (.int lb54), .val (.ref b55), .val (.ref b59), .unset, .unset, .unset, .unset, .unset, .unset, .unset, .unset, .unset, .unset, .unset, .unset, .unset, .unset] (hb hby at_189) rfl rfl ?_
    refine Own.iconst X62 hx (pc := 191) (3 : Int32) (hb hby at_191) (by decide) ?_
    refine Own.newarr X62 hx hZ (pc := 192) (aty := .int) (Wd hw 0 rfl) e62 (hb hby at_192) (by decide) 3 3 (by decide) (by decide) (by decide) (by decide) (by decide) ?_
    intro T63 h63 b63 g63 X63 e63 Ex63 V_b63
    have ne_b55_b63 : b55 ≠ b63 := Nat.ne_of_lt (g63 ▸ V_b55.lt)
    have ne_b59_b63 : b59 ≠ b63 := Nat.ne_of_lt (g63 ▸ V_b59.lt)
    have V_b55 := V_b55.ext Ex63
    have V_b59 := V_b59.ext Ex63
    have ge_b63 : n0 ≤ b63 := g63 ▸ sz62
    have sz63 : n0 ≤ h63.size := Nat.le_trans sz62 Ex63.1
    replace V_b63 : Own.VArr Z h63 b63 .int [(.int (0 : Int32)), (.int (0 : Int32)), (.int (0 : Int32))] := V_b63
    refine Own.astore X63 hx (pc := 194) #[.val (.int pk), .val (.long ls), .second, .val (.int l2), .val (.long w0), .second, .val (.long w1), .second, .val (.long w2), .second, .val (.int va1), .val (.int vb2), .val (.int vc3), .val (.int (3 : Int32)), .val (.int la53), .val (.int lb54), .val (.ref b55), .val (.ref b59), .val (.ref b63), .unset, .unset, .unset, .unset, .unset, .unset, .unset, .unset, .unset, .unset, .unset, .unset, .unset] (hb hby at_194) rfl rfl ?_
    refine Own.sipush X63 hx (pc := 196) (256 : Int32) (hb hby at_196) (by decide) ?_
    refine Own.newarr X63 hx hZ (pc := 199) (aty := .int) (Wd hw 0 rfl) e63 (hb hby at_199) (by decide) 256 256 (by decide) (by decide) (by decide) (by decide) (by decide) ?_
    intro T64 h64 b64 g64 X64 e64 Ex64 V_b64
    have ne_b55_b64 : b55 ≠ b64 := Nat.ne_of_lt (g64 ▸ V_b55.lt)
    have ne_b59_b64 : b59 ≠ b64 := Nat.ne_of_lt (g64 ▸ V_b59.lt)
    have ne_b63_b64 : b63 ≠ b64 := Nat.ne_of_lt (g64 ▸ V_b63.lt)
    have V_b55 := V_b55.ext Ex64
    have V_b59 := V_b59.ext Ex64
    have V_b63 := V_b63.ext Ex64
    have ge_b64 : n0 ≤ b64 := g64 ▸ sz63
    have sz64 : n0 ≤ h64.size := Nat.le_trans sz63 Ex64.1
    replace V_b64 : Own.VArr Z h64 b64 .int (List.replicate 256 (.int (0 : Int32))) := V_b64
    refine Own.astore X64 hx (pc := 201) #[.val (.int pk), .val (.long ls), .second, .val (.int l2), .val (.long w0), .second, .val (.long w1), .second, .val (.long w2), .second, .val (.int va1), .val (.int vb2), .val (.int vc3), .val (.int (3 : Int32)), .val (.int la53), .val (.int lb54), .val (.ref b55), .val (.ref b59), .val (.ref b63), .val (.ref b64), .unset, .unset, .unset, .unset, .unset, .unset, .unset, .unset, .unset, .unset, .unset, .unset] (hb hby at_201) rfl rfl ?_
    refine Own.aload X64 hx (pc := 203) (hb hby at_203) rfl rfl ?_
    refine Own.sipush X64 hx (pc := 205) (255 : Int32) (hb hby at_205) (by decide) ?_
    refine Own.iconst X64 hx (pc := 208) (-1 : Int32) (hb hby at_208) (by decide) ?_
    refine Own.iastore X64 hx hZ (pc := 209) e64 V_b64 255 (by decide) (by decide) (by simp) N62 ge_b64 (hb hby at_209) ?_
    intro T65 h65 X65 e65 W65 N65 V_b64
    have sz65 : n0 ≤ h65.size := Nat.le_trans sz64 (Nat.le_of_eq (Wr.size W65).symm)
    have V_b55 := V_b55.other W65 ne_b55_b64
    have V_b59 := V_b59.other W65 ne_b59_b64
    have V_b63 := V_b63.other W65 ne_b63_b64
    refine Own.aload X65 hx (pc := 210) (hb hby at_210) rfl rfl ?_
    refine Own.iload X65 hx (pc := 212) (hb hby at_212) rfl ?_
    refine Own.iload X65 hx (pc := 214) (hb hby at_214) rfl ?_
    refine Own.iastore X65 hx hZ (pc := 216) e65 V_b64 va1.toNatClampNeg (own_nn (by omega)) rfl (by have e : va1.toNatClampNeg = va1.toInt.toNat := rfl; rw [e]; simp; omega) N65 ge_b64 (hb hby at_216) ?_
    intro T66 h66 X66 e66 W66 N66 V_b64
    have sz66 : n0 ≤ h66.size := Nat.le_trans sz65 (Nat.le_of_eq (Wr.size W66).symm)
    have V_b55 := V_b55.other W66 ne_b55_b64
    have V_b59 := V_b59.other W66 ne_b59_b64
    have V_b63 := V_b63.other W66 ne_b63_b64
    refine Own.aload X66 hx (pc := 217) (hb hby at_217) rfl rfl ?_
    refine Own.iload X66 hx (pc := 219) (hb hby at_219) rfl ?_
    refine Own.iload X66 hx (pc := 221) (hb hby at_221) rfl ?_
    refine Own.iastore X66 hx hZ (pc := 223) e66 V_b64 vb2.toNatClampNeg (own_nn (by omega)) rfl (by have e : vb2.toNatClampNeg = vb2.toInt.toNat := rfl; rw [e]; simp; omega) N66 ge_b64 (hb hby at_223) ?_
    intro T67 h67 X67 e67 W67 N67 V_b64
    have sz67 : n0 ≤ h67.size := Nat.le_trans sz66 (Nat.le_of_eq (Wr.size W67).symm)
    have V_b55 := V_b55.other W67 ne_b55_b64
    have V_b59 := V_b59.other W67 ne_b59_b64
    have V_b63 := V_b63.other W67 ne_b63_b64
    refine Own.aload X67 hx (pc := 224) (hb hby at_224) rfl rfl ?_
    refine Own.iload X67 hx (pc := 226) (hb hby at_226) rfl ?_
    refine Own.iloadN X67 hx (pc := 228) (hb hby at_228) rfl ?_
    refine Own.iastore X67 hx hZ (pc := 229) e67 V_b64 vc3.toNatClampNeg (own_nn (by omega)) rfl (by have e : vc3.toNatClampNeg = vc3.toInt.toNat := rfl; rw [e]; simp; omega) N67 ge_b64 (hb hby at_229) ?_
    intro T68 h68 X68 e68 W68 N68 V_b64
    replace V_b64 : Own.VArr Z h68 b64 .int (own_L va1.toNatClampNeg vb2.toNatClampNeg vc3.toNatClampNeg (.int la53) (.int lb54) (.int l2)) := V_b64
    have sz68 : n0 ≤ h68.size := Nat.le_trans sz67 (Nat.le_of_eq (Wr.size W68).symm)
    have V_b55 := V_b55.other W68 ne_b55_b64
    have V_b59 := V_b59.other W68 ne_b59_b64
    have V_b63 := V_b63.other W68 ne_b63_b64
    refine Own.newobj X68 hx hZ (pc := 230) hown (Wd hw 2 rfl) (Wd hw 3 rfl) (Wd hw 4 rfl) e68 (hb hby at_230) (by decide) (by decide) ?_
    intro T69 h69 b69 g69 X69 e69 Ex69 E_b69 D69
    have ne_b55_b69 : b55 ≠ b69 := Nat.ne_of_lt (g69 ▸ V_b55.lt)
    have ne_b59_b69 : b59 ≠ b69 := Nat.ne_of_lt (g69 ▸ V_b59.lt)
    have ne_b63_b69 : b63 ≠ b69 := Nat.ne_of_lt (g69 ▸ V_b63.lt)
    have ne_b64_b69 : b64 ≠ b69 := Nat.ne_of_lt (g69 ▸ V_b64.lt)
    have V_b55 := V_b55.ext Ex69
    have V_b59 := V_b59.ext Ex69
    have V_b63 := V_b63.ext Ex69
    have V_b64 := V_b64.ext Ex69
    have ge_b69 : n0 ≤ b69 := g69 ▸ sz68
    have sz69 : n0 ≤ h69.size := Nat.le_trans sz68 Ex69.1
    have F_b69_length : Fld Z h69 b69 "shortleaf/BlockCode" "length" "J" (.long (0 : Int64)) := D69 (Or.inr (Wd hw 17 rfl)) (ty := .long) (by decide)
    have F_b69_values : Fld Z h69 b69 "shortleaf/BlockCode" "values" "[I" .null := D69 (Or.inr (Wd hw 19 rfl)) (ty := (.array .int)) (by decide)
    have F_b69_weights : Fld Z h69 b69 "shortleaf/BlockCode" "weights" "[J" .null := D69 (Or.inr (Wd hw 21 rfl)) (ty := (.array .long)) (by decide)
    have F_b69_lengths : Fld Z h69 b69 "shortleaf/BlockCode" "lengths" "[I" .null := D69 (Or.inr (Wd hw 23 rfl)) (ty := (.array .int)) (by decide)
    have F_b69_payloadBits : Fld Z h69 b69 "shortleaf/BlockCode" "payloadBits" "J" (.long (0 : Int64)) := D69 (Or.inr (Wd hw 25 rfl)) (ty := .long) (by decide)
    refine Own.dup X69 hx (pc := 233) (hb hby at_233) rfl ?_
    refine Own.lconst X69 hx (pc := 234) (0 : Int64) (hb hby at_234) (by decide) ?_
    refine Own.aload X69 hx (pc := 235) (hb hby at_235) rfl rfl ?_
    refine Own.aload X69 hx (pc := 237) (hb hby at_237) rfl rfl ?_
    refine Own.aload X69 hx (pc := 239) (hb hby at_239) rfl rfl ?_
    refine Own.lconst X69 hx (pc := 241) (0 : Int64) (hb hby at_241) (by decide) ?_
    refine Own.callSpecial X69 hx hZ (pc := 242) (y := (⟨"shortleaf/BlockCode", "<init>", "(J[I[J[IJ)V"⟩ : MethodName)) rfl hown (Wd hw 5 rfl) (Wd hw 6 rfl) (Wd hw 4 rfl) (Wd hw 7 rfl) (by decide) 1 b69 [(.long (0 : Int64)), (.ref b55), (.ref b59), (.ref b63), (.long (0 : Int64))] [(.ref b69)] (rm1 l Z a0 hw b69 (0 : Int64) b55 b59 b63 (0 : Int64) h69 n0 sz69 E_b69 F_b69_length F_b69_values F_b69_weights F_b69_lengths F_b69_payloadBits ge_b69) (by decide) (by decide) e69 (by rw [hml]; rfl) pd3 rfl rfl (Nat.le_of_eq rfl) (hb hby at_242) (by decide) (by decide) ?_
    intro T70 L70 v70 X70 hQ70
    obtain ⟨rfl, Nq70, K70, F_b69_values', F_b69_weights'⟩ := hQ70
    have e70 : T70.heap = T70.heap := rfl
    have V_b55 := V_b55.keep K70 (ninS ne_b55_b69 nin0)
    have V_b59 := V_b59.keep K70 (ninS ne_b59_b69 nin0)
    have V_b63 := V_b63.keep K70 (ninS ne_b63_b69 nin0)
    have V_b64 := V_b64.keep K70 (ninS ne_b64_b69 nin0)
    have E_b69 := E_b69.keep K70
    have sz70 : n0 ≤ T70.heap.size := Nat.le_trans sz69 K70.1
    have F_b69_values := F_b69_values'
    have F_b69_weights := F_b69_weights'
    have N70 := Fr.app N68 Nq70
    show Own.Go p e below _ (T70.setTop (mkF m 245 #[.val (.int pk), .val (.long ls), .second, .val (.int l2), .val (.long w0), .second, .val (.long w1), .second, .val (.long w2), .second, .val (.int va1), .val (.int vb2), .val (.int vc3), .val (.int (3 : Int32)), .val (.int la53), .val (.int lb54), .val (.ref b55), .val (.ref b59), .val (.ref b63), .val (.ref b64), .unset, .unset, .unset, .unset, .unset, .unset, .unset, .unset, .unset, .unset, .unset, .unset] [(.ref b69)]))
    refine Own.astore X70 hx (pc := 245) #[.val (.int pk), .val (.long ls), .second, .val (.int l2), .val (.long w0), .second, .val (.long w1), .second, .val (.long w2), .second, .val (.int va1), .val (.int vb2), .val (.int vc3), .val (.int (3 : Int32)), .val (.int la53), .val (.int lb54), .val (.ref b55), .val (.ref b59), .val (.ref b63), .val (.ref b64), .val (.ref b69), .unset, .unset, .unset, .unset, .unset, .unset, .unset, .unset, .unset, .unset, .unset] (hb hby at_245) rfl rfl ?_
    refine Own.aload X70 hx (pc := 247) (hb hby at_247) rfl rfl ?_
    refine Own.aload X70 hx (pc := 249) (hb hby at_249) rfl rfl ?_
    refine Own.callVirtual X70 hx hZ (pc := 251) (y := (⟨"shortleaf/BlockCode", "bitsIn", "([I)J"⟩ : MethodName)) (z := (⟨"shortleaf/BlockCode", "bitsIn", "([I)J"⟩ : MethodName)) hown (Wd hw 26 rfl) (Wd hw 27 rfl) (Wd hw 29 rfl) (Wd hw 28 rfl) (Wd hw 4 rfl) (Wd hw 30 rfl) (Wd hw 29 rfl) (by decide) 0 b69 [(.ref b64)] [] E_b69 (rm4_3 l Z a0 hw b69 b64 b55 b59 (own_L va1.toNatClampNeg vb2.toNatClampNeg vc3.toNatClampNeg (.int la53) (.int lb54) (.int l2)) va1 vb2 vc3 w0 w1 w2 la53 lb54 l2 T70.heap n0 sz70 F_b69_values F_b69_weights V_b55 V_b59 V_b64 (own_nn (by omega)) (own_get hva hvb hvc).1 (own_nn (by omega)) (own_get hva hvb hvc).2.1 (own_nn (by omega)) (own_get hva hvb hvc).2.2) (by decide) (by decide) e70 (by rw [hml]; rfl) pd4 rfl rfl (Nat.le_of_eq rfl) (hb hby at_251) (by decide) (by decide) ?_
    intro T71 L71 v71 X71 hQ71
    obtain ⟨rfl, Nq71, e71⟩ := hQ71
    have N71 := Fr.app N70 Nq71
    show Own.Go p e below _ (T71.setTop (mkF m 254 #[.val (.int pk), .val (.long ls), .second, .val (.int l2), .val (.long w0), .second, .val (.long w1), .second, .val (.long w2), .second, .val (.int va1), .val (.int vb2), .val (.int vc3), .val (.int (3 : Int32)), .val (.int la53), .val (.int lb54), .val (.ref b55), .val (.ref b59), .val (.ref b63), .val (.ref b64), .val (.ref b69), .unset, .unset, .unset, .unset, .unset, .unset, .unset, .unset, .unset, .unset, .unset] [(.long (if la53 < 0 then (-1 : Int64) else (if lb54 < 0 then (-1 : Int64) else (if l2 < 0 then (-1 : Int64) else ((((0 : Int64) + (w0 * la53.toInt64)) + (w1 * lb54.toInt64)) + (w2 * l2.toInt64))))))]))
    refine Own.lstore X71 hx (pc := 254) #[.val (.int pk), .val (.long ls), .second, .val (.int l2), .val (.long w0), .second, .val (.long w1), .second, .val (.long w2), .second, .val (.int va1), .val (.int vb2), .val (.int vc3), .val (.int (3 : Int32)), .val (.int la53), .val (.int lb54), .val (.ref b55), .val (.ref b59), .val (.ref b63), .val (.ref b64), .val (.ref b69), .val (.long (if la53 < 0 then (-1 : Int64) else (if lb54 < 0 then (-1 : Int64) else (if l2 < 0 then (-1 : Int64) else ((((0 : Int64) + (w0 * la53.toInt64)) + (w1 * lb54.toInt64)) + (w2 * l2.toInt64)))))), .second, .unset, .unset, .unset, .unset, .unset, .unset, .unset, .unset, .unset] (hb hby at_254) rfl ?_
    refine Own.iload X71 hx (pc := 256) (hb hby at_256) rfl ?_
    refine Own.iconst X71 hx (pc := 258) (1 : Int32) (hb hby at_258) (by decide) ?_
    refine Own.icmpNo X71 hx (pc := 259) (hb hby at_259) (by decide) ?_
    refine Own.iload X71 hx (pc := 262) (hb hby at_262) rfl ?_
    by_cases c72 : la53 < (0 : Int32)
    · refine Own.ifYes X71 hx (pc := 264) 288 (hb hby at_264) (XT.i0_lt_t c72) (by decide) (by decide) ?_
      refine Own.iconst X71 hx (pc := 288) (1 : Int32) (hb hby at_288) (by decide) ?_
      refine Own.goto X71 hx (pc := 289) 293 (hb hby at_289) (by decide) (by decide) ?_
      refine Own.istore X71 hx (pc := 293) #[.val (.int pk), .val (.long ls), .second, .val (.int l2), .val (.long w0), .second, .val (.long w1), .second, .val (.long w2), .second, .val (.int va1), .val (.int vb2), .val (.int vc3), .val (.int (3 : Int32)), .val (.int la53), .val (.int lb54), .val (.ref b55), .val (.ref b59), .val (.ref b63), .val (.ref b64), .val (.ref b69), .val (.long (if la53 < 0 then (-1 : Int64) else (if lb54 < 0 then (-1 : Int64) else (if l2 < 0 then (-1 : Int64) else ((((0 : Int64) + (w0 * la53.toInt64)) + (w1 * lb54.toInt64)) + (w2 * l2.toInt64)))))), .second, .val (.int (1 : Int32)), .unset, .unset, .unset, .unset, .unset, .unset, .unset, .unset] (hb hby at_293) rfl ?_
      refine Own.iload X71 hx (pc := 295) (hb hby at_295) rfl ?_
      refine Own.ifNo X71 hx (pc := 297) (hb hby at_297) (by decide) ?_
      refine Own.ldc2J X71 hx hZ (pc := 300) hown (Wd hw 32 rfl) (hb hby at_300) ?_
      refine Own.lstore X71 hx (pc := 303) #[.val (.int pk), .val (.long ls), .second, .val (.int l2), .val (.long w0), .second, .val (.long w1), .second, .val (.long w2), .second, .val (.int va1), .val (.int vb2), .val (.int vc3), .val (.int (3 : Int32)), .val (.int la53), .val (.int lb54), .val (.ref b55), .val (.ref b59), .val (.ref b63), .val (.ref b64), .val (.ref b69), .val (.long (if la53 < 0 then (-1 : Int64) else (if lb54 < 0 then (-1 : Int64) else (if l2 < 0 then (-1 : Int64) else ((((0 : Int64) + (w0 * la53.toInt64)) + (w1 * lb54.toInt64)) + (w2 * l2.toInt64)))))), .second, .val (.int (1 : Int32)), .val (.long (-1 : Int64)), .second, .unset, .unset, .unset, .unset, .unset, .unset] (hb hby at_303) rfl ?_
      refine Own.goto X71 hx (pc := 305) 371 (hb hby at_305) (by decide) (by decide) ?_
      refine Own.lload X71 hx (pc := 371) (hb hby at_371) rfl ?_
      refine Own.lload X71 hx (pc := 373) (hb hby at_373) rfl ?_
      refine Own.lcmp X71 hx (pc := 375) (hb hby at_375) ?_
      refine Own.ifNo X71 hx (pc := 376) (hb hby at_376) (XT.ll_ne_f (by simp [c72])) ?_
      refine Own.iconst X71 hx (pc := 379) (1 : Int32) (hb hby at_379) (by decide) ?_
      refine Own.goto X71 hx (pc := 380) 384 (hb hby at_380) (by decide) (by decide) ?_
      exact Own.ireturn X71 hx hk hret (by simp) rfl (hb hby at_384) e71 ⟨rfl, N71⟩ (by decide) (by decide)
    · refine Own.ifNo X71 hx (pc := 264) (hb hby at_264) (XT.i0_lt_f c72) ?_
      refine Own.iload X71 hx (pc := 267) (hb hby at_267) rfl ?_
      refine Own.iconst X71 hx (pc := 269) (2 : Int32) (hb hby at_269) (by decide) ?_
      refine Own.icmpNo X71 hx (pc := 270) (hb hby at_270) (by decide) ?_
      refine Own.iload X71 hx (pc := 273) (hb hby at_273) rfl ?_
      by_cases c73 : lb54 < (0 : Int32)
      · refine Own.ifYes X71 hx (pc := 275) 288 (hb hby at_275) (XT.i0_lt_t c73) (by decide) (by decide) ?_
        refine Own.iconst X71 hx (pc := 288) (1 : Int32) (hb hby at_288) (by decide) ?_
        refine Own.goto X71 hx (pc := 289) 293 (hb hby at_289) (by decide) (by decide) ?_
        refine Own.istore X71 hx (pc := 293) #[.val (.int pk), .val (.long ls), .second, .val (.int l2), .val (.long w0), .second, .val (.long w1), .second, .val (.long w2), .second, .val (.int va1), .val (.int vb2), .val (.int vc3), .val (.int (3 : Int32)), .val (.int la53), .val (.int lb54), .val (.ref b55), .val (.ref b59), .val (.ref b63), .val (.ref b64), .val (.ref b69), .val (.long (if la53 < 0 then (-1 : Int64) else (if lb54 < 0 then (-1 : Int64) else (if l2 < 0 then (-1 : Int64) else ((((0 : Int64) + (w0 * la53.toInt64)) + (w1 * lb54.toInt64)) + (w2 * l2.toInt64)))))), .second, .val (.int (1 : Int32)), .unset, .unset, .unset, .unset, .unset, .unset, .unset, .unset] (hb hby at_293) rfl ?_
        refine Own.iload X71 hx (pc := 295) (hb hby at_295) rfl ?_
        refine Own.ifNo X71 hx (pc := 297) (hb hby at_297) (by decide) ?_
        refine Own.ldc2J X71 hx hZ (pc := 300) hown (Wd hw 32 rfl) (hb hby at_300) ?_
        refine Own.lstore X71 hx (pc := 303) #[.val (.int pk), .val (.long ls), .second, .val (.int l2), .val (.long w0), .second, .val (.long w1), .second, .val (.long w2), .second, .val (.int va1), .val (.int vb2), .val (.int vc3), .val (.int (3 : Int32)), .val (.int la53), .val (.int lb54), .val (.ref b55), .val (.ref b59), .val (.ref b63), .val (.ref b64), .val (.ref b69), .val (.long (if la53 < 0 then (-1 : Int64) else (if lb54 < 0 then (-1 : Int64) else (if l2 < 0 then (-1 : Int64) else ((((0 : Int64) + (w0 * la53.toInt64)) + (w1 * lb54.toInt64)) + (w2 * l2.toInt64)))))), .second, .val (.int (1 : Int32)), .val (.long (-1 : Int64)), .second, .unset, .unset, .unset, .unset, .unset, .unset] (hb hby at_303) rfl ?_
        refine Own.goto X71 hx (pc := 305) 371 (hb hby at_305) (by decide) (by decide) ?_
        refine Own.lload X71 hx (pc := 371) (hb hby at_371) rfl ?_
        refine Own.lload X71 hx (pc := 373) (hb hby at_373) rfl ?_
        refine Own.lcmp X71 hx (pc := 375) (hb hby at_375) ?_
        refine Own.ifNo X71 hx (pc := 376) (hb hby at_376) (XT.ll_ne_f (by simp [c72, c73])) ?_
        refine Own.iconst X71 hx (pc := 379) (1 : Int32) (hb hby at_379) (by decide) ?_
        refine Own.goto X71 hx (pc := 380) 384 (hb hby at_380) (by decide) (by decide) ?_
        exact Own.ireturn X71 hx hk hret (by simp) rfl (hb hby at_384) e71 ⟨rfl, N71⟩ (by decide) (by decide)
      · refine Own.ifNo X71 hx (pc := 275) (hb hby at_275) (XT.i0_lt_f c73) ?_
        refine Own.iload X71 hx (pc := 278) (hb hby at_278) rfl ?_
        refine Own.iconst X71 hx (pc := 280) (3 : Int32) (hb hby at_280) (by decide) ?_
        refine Own.icmpNo X71 hx (pc := 281) (hb hby at_281) (by decide) ?_
        refine Own.iloadN X71 hx (pc := 284) (hb hby at_284) rfl ?_
        by_cases c74 : l2 < (0 : Int32)
        · refine Own.ifNo X71 hx (pc := 285) (hb hby at_285) (XT.i0_ge_f c74) ?_
          refine Own.iconst X71 hx (pc := 288) (1 : Int32) (hb hby at_288) (by decide) ?_
          refine Own.goto X71 hx (pc := 289) 293 (hb hby at_289) (by decide) (by decide) ?_
          refine Own.istore X71 hx (pc := 293) #[.val (.int pk), .val (.long ls), .second, .val (.int l2), .val (.long w0), .second, .val (.long w1), .second, .val (.long w2), .second, .val (.int va1), .val (.int vb2), .val (.int vc3), .val (.int (3 : Int32)), .val (.int la53), .val (.int lb54), .val (.ref b55), .val (.ref b59), .val (.ref b63), .val (.ref b64), .val (.ref b69), .val (.long (if la53 < 0 then (-1 : Int64) else (if lb54 < 0 then (-1 : Int64) else (if l2 < 0 then (-1 : Int64) else ((((0 : Int64) + (w0 * la53.toInt64)) + (w1 * lb54.toInt64)) + (w2 * l2.toInt64)))))), .second, .val (.int (1 : Int32)), .unset, .unset, .unset, .unset, .unset, .unset, .unset, .unset] (hb hby at_293) rfl ?_
          refine Own.iload X71 hx (pc := 295) (hb hby at_295) rfl ?_
          refine Own.ifNo X71 hx (pc := 297) (hb hby at_297) (by decide) ?_
          refine Own.ldc2J X71 hx hZ (pc := 300) hown (Wd hw 32 rfl) (hb hby at_300) ?_
          refine Own.lstore X71 hx (pc := 303) #[.val (.int pk), .val (.long ls), .second, .val (.int l2), .val (.long w0), .second, .val (.long w1), .second, .val (.long w2), .second, .val (.int va1), .val (.int vb2), .val (.int vc3), .val (.int (3 : Int32)), .val (.int la53), .val (.int lb54), .val (.ref b55), .val (.ref b59), .val (.ref b63), .val (.ref b64), .val (.ref b69), .val (.long (if la53 < 0 then (-1 : Int64) else (if lb54 < 0 then (-1 : Int64) else (if l2 < 0 then (-1 : Int64) else ((((0 : Int64) + (w0 * la53.toInt64)) + (w1 * lb54.toInt64)) + (w2 * l2.toInt64)))))), .second, .val (.int (1 : Int32)), .val (.long (-1 : Int64)), .second, .unset, .unset, .unset, .unset, .unset, .unset] (hb hby at_303) rfl ?_
          refine Own.goto X71 hx (pc := 305) 371 (hb hby at_305) (by decide) (by decide) ?_
          refine Own.lload X71 hx (pc := 371) (hb hby at_371) rfl ?_
          refine Own.lload X71 hx (pc := 373) (hb hby at_373) rfl ?_
          refine Own.lcmp X71 hx (pc := 375) (hb hby at_375) ?_
          refine Own.ifNo X71 hx (pc := 376) (hb hby at_376) (XT.ll_ne_f (by simp [c72, c73, c74])) ?_
          refine Own.iconst X71 hx (pc := 379) (1 : Int32) (hb hby at_379) (by decide) ?_
          refine Own.goto X71 hx (pc := 380) 384 (hb hby at_380) (by decide) (by decide) ?_
          exact Own.ireturn X71 hx hk hret (by simp) rfl (hb hby at_384) e71 ⟨rfl, N71⟩ (by decide) (by decide)
        · refine Own.ifYes X71 hx (pc := 285) 292 (hb hby at_285) (XT.i0_ge_t c74) (by decide) (by decide) ?_
          refine Own.iconst X71 hx (pc := 292) (0 : Int32) (hb hby at_292) (by decide) ?_
          refine Own.istore X71 hx (pc := 293) #[.val (.int pk), .val (.long ls), .second, .val (.int l2), .val (.long w0), .second, .val (.long w1), .second, .val (.long w2), .second, .val (.int va1), .val (.int vb2), .val (.int vc3), .val (.int (3 : Int32)), .val (.int la53), .val (.int lb54), .val (.ref b55), .val (.ref b59), .val (.ref b63), .val (.ref b64), .val (.ref b69), .val (.long (if la53 < 0 then (-1 : Int64) else (if lb54 < 0 then (-1 : Int64) else (if l2 < 0 then (-1 : Int64) else ((((0 : Int64) + (w0 * la53.toInt64)) + (w1 * lb54.toInt64)) + (w2 * l2.toInt64)))))), .second, .val (.int (0 : Int32)), .unset, .unset, .unset, .unset, .unset, .unset, .unset, .unset] (hb hby at_293) rfl ?_
          refine Own.iload X71 hx (pc := 295) (hb hby at_295) rfl ?_
          refine Own.ifYes X71 hx (pc := 297) 308 (hb hby at_297) (by decide) (by decide) (by decide) ?_
          refine Own.iload X71 hx (pc := 308) (hb hby at_308) rfl ?_
          refine Own.iconst X71 hx (pc := 310) (1 : Int32) (hb hby at_310) (by decide) ?_
          refine Own.icmpNo X71 hx (pc := 311) (hb hby at_311) (by decide) ?_
          refine Own.lload X71 hx (pc := 314) (hb hby at_314) rfl ?_
          refine Own.iload X71 hx (pc := 316) (hb hby at_316) rfl ?_
          refine Own.i2l X71 hx (pc := 318) (hb hby at_318) ?_
          refine Own.lmul X71 hx (pc := 319) (hb hby at_319) ?_
          refine Own.goto X71 hx (pc := 320) 324 (hb hby at_320) (by decide) (by decide) ?_
          refine Own.lstore X71 hx (pc := 324) #[.val (.int pk), .val (.long ls), .second, .val (.int l2), .val (.long w0), .second, .val (.long w1), .second, .val (.long w2), .second, .val (.int va1), .val (.int vb2), .val (.int vc3), .val (.int (3 : Int32)), .val (.int la53), .val (.int lb54), .val (.ref b55), .val (.ref b59), .val (.ref b63), .val (.ref b64), .val (.ref b69), .val (.long (if la53 < 0 then (-1 : Int64) else (if lb54 < 0 then (-1 : Int64) else (if l2 < 0 then (-1 : Int64) else ((((0 : Int64) + (w0 * la53.toInt64)) + (w1 * lb54.toInt64)) + (w2 * l2.toInt64)))))), .second, .val (.int (0 : Int32)), .unset, .unset, .val (.long (w0 * la53.toInt64)), .second, .unset, .unset, .unset, .unset] (hb hby at_324) rfl ?_
          refine Own.iload X71 hx (pc := 326) (hb hby at_326) rfl ?_
          refine Own.iconst X71 hx (pc := 328) (2 : Int32) (hb hby at_328) (by decide) ?_
          refine Own.icmpNo X71 hx (pc := 329) (hb hby at_329) (by decide) ?_
          refine Own.lload X71 hx (pc := 332) (hb hby at_332) rfl ?_
          refine Own.iload X71 hx (pc := 334) (hb hby at_334) rfl ?_
          refine Own.i2l X71 hx (pc := 336) (hb hby at_336) ?_
          refine Own.lmul X71 hx (pc := 337) (hb hby at_337) ?_
          refine Own.goto X71 hx (pc := 338) 342 (hb hby at_338) (by decide) (by decide) ?_
          refine Own.lstore X71 hx (pc := 342) #[.val (.int pk), .val (.long ls), .second, .val (.int l2), .val (.long w0), .second, .val (.long w1), .second, .val (.long w2), .second, .val (.int va1), .val (.int vb2), .val (.int vc3), .val (.int (3 : Int32)), .val (.int la53), .val (.int lb54), .val (.ref b55), .val (.ref b59), .val (.ref b63), .val (.ref b64), .val (.ref b69), .val (.long (if la53 < 0 then (-1 : Int64) else (if lb54 < 0 then (-1 : Int64) else (if l2 < 0 then (-1 : Int64) else ((((0 : Int64) + (w0 * la53.toInt64)) + (w1 * lb54.toInt64)) + (w2 * l2.toInt64)))))), .second, .val (.int (0 : Int32)), .unset, .unset, .val (.long (w0 * la53.toInt64)), .second, .val (.long (w1 * lb54.toInt64)), .second, .unset, .unset] (hb hby at_342) rfl ?_
          refine Own.iload X71 hx (pc := 344) (hb hby at_344) rfl ?_
          refine Own.iconst X71 hx (pc := 346) (3 : Int32) (hb hby at_346) (by decide) ?_
          refine Own.icmpNo X71 hx (pc := 347) (hb hby at_347) (by decide) ?_
          refine Own.lload X71 hx (pc := 350) (hb hby at_350) rfl ?_
          refine Own.iloadN X71 hx (pc := 352) (hb hby at_352) rfl ?_
          refine Own.i2l X71 hx (pc := 353) (hb hby at_353) ?_
          refine Own.lmul X71 hx (pc := 354) (hb hby at_354) ?_
          refine Own.goto X71 hx (pc := 355) 359 (hb hby at_355) (by decide) (by decide) ?_
          refine Own.lstore X71 hx (pc := 359) #[.val (.int pk), .val (.long ls), .second, .val (.int l2), .val (.long w0), .second, .val (.long w1), .second, .val (.long w2), .second, .val (.int va1), .val (.int vb2), .val (.int vc3), .val (.int (3 : Int32)), .val (.int la53), .val (.int lb54), .val (.ref b55), .val (.ref b59), .val (.ref b63), .val (.ref b64), .val (.ref b69), .val (.long (if la53 < 0 then (-1 : Int64) else (if lb54 < 0 then (-1 : Int64) else (if l2 < 0 then (-1 : Int64) else ((((0 : Int64) + (w0 * la53.toInt64)) + (w1 * lb54.toInt64)) + (w2 * l2.toInt64)))))), .second, .val (.int (0 : Int32)), .unset, .unset, .val (.long (w0 * la53.toInt64)), .second, .val (.long (w1 * lb54.toInt64)), .second, .val (.long (w2 * l2.toInt64)), .second] (hb hby at_359) rfl ?_
          refine Own.lload X71 hx (pc := 361) (hb hby at_361) rfl ?_
          refine Own.lload X71 hx (pc := 363) (hb hby at_363) rfl ?_
          refine Own.ladd X71 hx (pc := 365) (hb hby at_365) ?_
          refine Own.lload X71 hx (pc := 366) (hb hby at_366) rfl ?_
          refine Own.ladd X71 hx (pc := 368) (hb hby at_368) ?_
          refine Own.lstore X71 hx (pc := 369) #[.val (.int pk), .val (.long ls), .second, .val (.int l2), .val (.long w0), .second, .val (.long w1), .second, .val (.long w2), .second, .val (.int va1), .val (.int vb2), .val (.int vc3), .val (.int (3 : Int32)), .val (.int la53), .val (.int lb54), .val (.ref b55), .val (.ref b59), .val (.ref b63), .val (.ref b64), .val (.ref b69), .val (.long (if la53 < 0 then (-1 : Int64) else (if lb54 < 0 then (-1 : Int64) else (if l2 < 0 then (-1 : Int64) else ((((0 : Int64) + (w0 * la53.toInt64)) + (w1 * lb54.toInt64)) + (w2 * l2.toInt64)))))), .second, .val (.int (0 : Int32)), .val (.long (((w0 * la53.toInt64) + (w1 * lb54.toInt64)) + (w2 * l2.toInt64))), .second, .val (.long (w0 * la53.toInt64)), .second, .val (.long (w1 * lb54.toInt64)), .second, .val (.long (w2 * l2.toInt64)), .second] (hb hby at_369) rfl ?_
          refine Own.lload X71 hx (pc := 371) (hb hby at_371) rfl ?_
          refine Own.lload X71 hx (pc := 373) (hb hby at_373) rfl ?_
          refine Own.lcmp X71 hx (pc := 375) (hb hby at_375) ?_
          refine Own.ifNo X71 hx (pc := 376) (hb hby at_376) (XT.ll_ne_f (by simp [c72, c73, c74])) ?_
          refine Own.iconst X71 hx (pc := 379) (1 : Int32) (hb hby at_379) (by decide) ?_
          refine Own.goto X71 hx (pc := 380) 384 (hb hby at_380) (by decide) (by decide) ?_
          exact Own.ireturn X71 hx hk hret (by simp) rfl (hb hby at_384) e71 ⟨rfl, N71⟩ (by decide) (by decide)
set_option maxRecDepth 65536 in
set_option maxHeartbeats 40000000 in
theorem comes_1 {Post : Tables → Env → Array Value → State → Outcome → State → Prop} (hpost : ∀ tb e args s v u, (limb_1_1.after args s (.returned v) u = true ∧ limb_1_2.after args s (.returned v) u = true ∧ True) → FrameEnd s (.returned v) u (Jvm.fieldLocs frame_1_writes args s ++ Jvm.arrayLocs frame_1_arrays args s ++ Jvm.staticLocs frame_1_statics s) 24 640 → Post tb e args s (.returned v) u) :
    ArmFor flags0 classFile x code maxLocals ret World_1 tables_1 room_1 Calls_1 rest_1 Pre_1 Post := by
  intro l hfl _ _ p e ha hc hk s m args below hf hA hF happ hP
  obtain ⟨hcalls, hrest, hpre⟩ := hP
  obtain ⟨-, -, -, hnamed, -, -, -, hat⟩ := (Spec.applies_iff hf).mp happ
  obtain ⟨hg, hn⟩ := and_e (Cond.before_iff.mp (show (Jvm.Cond.and given_1 narrow_1).before args s = true from hpre))
  obtain ⟨hcount, r0⟩ := and_e hg
  obtain ⟨g0, r1⟩ := and_e r0
  obtain ⟨g1, r2⟩ := and_e r1
  obtain ⟨g2, r3⟩ := and_e r2
  obtain ⟨g3, r4⟩ := and_e r3
  obtain ⟨g4, r5⟩ := and_e r4
  obtain ⟨w0, w1, w2, w3, w4, w5, rfl⟩ : ∃ w0 w1 w2 w3 w4 w5 : Value, args = #[w0, w1, w2, w3, w4, w5] := by
    have hs : args.size = 6 := by simpa [Cond.value, given_1] using hcount
    obtain ⟨L⟩ := args
    match L, hs with
    | [w0, w1, w2, w3, w4, w5], _ => exact ⟨w0, w1, w2, w3, w4, w5, rfl⟩
  have hw := fun d (hd : d ∈ tables_1) => atoms_spec (ws := Jvm.Cond.code x code maxLocals ret :: tables_1) hat d (List.mem_cons_of_mem _ hd)
  obtain ⟨i0, e0⟩ := is_v g0
  obtain rfl : w0 = (.int i0) := Option.some.inj e0
  obtain ⟨i1, e1⟩ := isL_v g1
  obtain rfl : w1 = (.long i1) := Option.some.inj e1
  obtain ⟨i2, e2⟩ := is_v g2
  obtain rfl : w2 = (.int i2) := Option.some.inj e2
  obtain ⟨i3, e3⟩ := isL_v g3
  obtain rfl : w3 = (.long i3) := Option.some.inj e3
  obtain ⟨i4, e4⟩ := isL_v g4
  obtain rfl : w4 = (.long i4) := Option.some.inj e4
  obtain ⟨i5, e5⟩ := isL_v r5
  obtain rfl : w5 = (.long i5) := Option.some.inj e5
  obtain ⟨n, o, h1, h2, h3, _, L, rfl, ⟨rfl, N⟩, hq⟩ := rm0 l s _ hw i0 i1 i2 i3 i4 i5 s.heap s.heap.size (Nat.le_refl _) p e ha hc hk s m _ below hf ((Spec.applies_iff_loose hf).mp happ).1 ⟨rfl, State.Warmed39.refl s, rfl⟩ trivial
  refine ⟨n, _, h1, h2, h3, hpost _ _ _ _ _ _ ⟨Cond.after_iff.mpr rfl, Cond.after_iff.mpr (eq_i res_at (Term.int_eval (1)) rfl), trivial⟩ ⟨hq.1, hq.2.1, (hq.2.2.sift fun y hy => Or.inr (N y hy)).mono (by decide) (by decide)⟩⟩
theorem main_1_1 : Claimed_1_1 := comes_1 fun _ _ _ _ _ _ h hF => ⟨h.1, hF⟩
theorem main_1_2 : Claimed_1_2 := comes_1 fun _ _ _ _ _ _ h hF => ⟨h.2.1, hF⟩
end Jvm.Pilot.@@N@@
namespace Jvm.Pilot.@@N@@
open Jvm Jvm.ClassFile Sem Op Lib Jvm.Free Jvm.Stand Jvm.Pilot.@@N@@.Jvm.D
/-! MADE BY PROGRAM (witnessworld.py) out of the Statement's table words and the real class files: 12 classes; the members and pool entries that the words name. The judged class is class 1, her method 1. -/
namespace start1
open Jvm.ClassFile
def u (s : String) : CpInfo := .utf8 (stringToUtf16 s)
/-- a pool by its gaps: so many unusable entries, then the entry; so many at the end -/
def gap : Nat → List CpInfo → List CpInfo
  | 0, r => r
  | n + 1, r => .unusable :: gap n r
def poolList (es : List (Nat × CpInfo)) (last : Nat) : List CpInfo := es.foldr (fun e r => gap e.1 (e.2 :: r)) (gap last [])
def pool (es : List (Nat × CpInfo)) (last : Nat) : Array CpInfo := ⟨poolList es last⟩
def fileOf (pool : Array CpInfo) (this : Nat) (attrs : Array Attribute := #[]) (ms : Array MethodInfo := #[]) (fl : Nat := 33) (sup : Nat := 0) (ifs : Array Nat := #[]) (fds : Array FieldInfo := #[]) : ClassFile where
  minorVersion := 0
  majorVersion := 65
  constantPool := pool
  accessFlags := fl
  thisClass := this
  superClass := sup
  interfaces := ifs
  fields := fds
  methods := ms
  attributes := attrs
def plain (name : String) (sup : Option ClassId) : Class where
  name := name
  kind := .ordinary
  loader := none
  accessFlags := 33
  super := sup
  interfaces := #[]
  cf := none
  fields := #[]
  methods := #[]
  instanceTypes := #[]
  staticTypes := #[]
  resolved := #[]
  callSites := []
  init := .initialized
  statics := none
  mirror := none

def pool0 : Array CpInfo := pool [(5, u "<init>"), (0, u "()V"), (1, .class_ 10), (1, u "java/lang/Object")] 113

def k0c0 : Code := { maxStack := 0, maxLocals := 1, code := object_method_1_code, exceptionTable := #[], attributes := #[] }
def k0m0 : Method := { name := "<init>", desc := "()V", sig := { parameters := [], returnType := none }, accessFlags := 1, code := some k0c0 }
/-- java/lang/Object -/
def k0 : Class := { plain "java/lang/Object" none with
  accessFlags := 33
  interfaces := #[]
  cf := some (fileOf pool0 8 #[] #[{ accessFlags := 1, nameIndex := 5, descriptorIndex := 6, attributes := #[] }] 33 0 #[] #[])
  fields := #[]
  methods := #[k0m0]
  instanceTypes := #[]
  staticTypes := #[]
  resolved := Array.replicate 124 none
  statics := none }

def pool1 : Array CpInfo := pool [(2, .class_ 4), (1, u "java/lang/Object"), (0, u "<init>"), (0, u "()V"), (0, .class_ 8), (0, u "shortleaf/BlockCode"), (0, .methodref 7 10), (0, .nameAndType 5 11), (0, u "(J[I[J[IJ)V"), (0, .methodref 7 13), (0, .nameAndType 14 15), (0, u "bitsIn"), (0, u "([I)J"), (0, .long 18446744073709551615), (1, .class_ 19), (0, u "shortleaf/BlockCodeBitsInPinLaw"), (2, u "law"), (0, u "(IJIJJJ)Z")] 7

def k1m0 : Method := { name := "<init>", desc := "()V", sig := { parameters := [], returnType := none }, accessFlags := 1, code := none }
def k1c1 : Code := { maxStack := 9, maxLocals := 32, code := code, exceptionTable := #[], attributes := #[] }
def k1m1 : Method := { name := "law", desc := "(IJIJJJ)Z", sig := { parameters := [.int, .long, .int, .long, .long, .long], returnType := some .boolean }, accessFlags := 9, code := some k1c1 }
/-- shortleaf/BlockCodeBitsInPinLaw -/
def k1 : Class := { plain "shortleaf/BlockCodeBitsInPinLaw" (some 0) with
  accessFlags := 49
  interfaces := #[]
  cf := some (fileOf pool1 18 #[] #[{ accessFlags := 1, nameIndex := 5, descriptorIndex := 6, attributes := #[] }, { accessFlags := 9, nameIndex := 22, descriptorIndex := 23, attributes := #[] }] 49 2 #[] #[])
  fields := #[]
  methods := #[k1m0, k1m1]
  instanceTypes := #[]
  staticTypes := #[]
  resolved := Array.replicate 31 none
  statics := none }

def pool2 : Array CpInfo := pool [(1, .methodref 2 3), (0, .class_ 4), (0, .nameAndType 5 6), (0, u "java/lang/Object"), (0, u "<init>"), (0, u "()V"), (0, .class_ 8), (0, u "java/lang/Record")] 13

def k2c0 : Code := { maxStack := 1, maxLocals := 1, code := jdk_30_method_1_code, exceptionTable := #[], attributes := #[] }
def k2m0 : Method := { name := "<init>", desc := "()V", sig := { parameters := [], returnType := none }, accessFlags := 4, code := some k2c0 }
/-- java/lang/Record -/
def k2 : Class := { plain "java/lang/Record" (some 0) with
  accessFlags := 1057
  interfaces := #[]
  cf := some (fileOf pool2 7 #[] #[{ accessFlags := 4, nameIndex := 5, descriptorIndex := 6, attributes := #[] }] 1057 2 #[] #[])
  fields := #[]
  methods := #[k2m0]
  instanceTypes := #[]
  staticTypes := #[]
  resolved := Array.replicate 22 none
  statics := none }

def pool3 : Array CpInfo := pool [(1, .methodref 2 3), (0, .class_ 4), (0, .nameAndType 5 6), (0, u "java/lang/Record"), (0, u "<init>"), (0, u "()V"), (0, .fieldref 8 9), (0, .class_ 10), (0, .nameAndType 11 12), (0, u "shortleaf/BlockCode"), (0, u "length"), (0, u "J"), (0, .fieldref 8 14), (0, .nameAndType 15 16), (0, u "values"), (0, u "[I"), (0, .fieldref 8 18), (0, .nameAndType 19 20), (0, u "weights"), (0, u "[J"), (0, .fieldref 8 22), (0, .nameAndType 23 16), (0, u "lengths"), (0, .fieldref 8 25), (0, .nameAndType 26 12), (0, u "payloadBits"), (23, .long 18446744073709551615), (23, u "VALUES"), (0, u "I"), (2, u "(J[I[J[IJ)V"), (5, u "bitsIn"), (0, u "([I)J")] 32

def k3c0 : Code := { maxStack := 3, maxLocals := 8, code := prog_1_method_1_code, exceptionTable := #[], attributes := #[] }
def k3m0 : Method := { name := "<init>", desc := "(J[I[J[IJ)V", sig := { parameters := [.long, (.array .int), (.array .long), (.array .int), .long], returnType := none }, accessFlags := 0, code := some k3c0 }
def k3c1 : Code := { maxStack := 6, maxLocals := 6, code := prog_1_method_4_code, exceptionTable := #[], attributes := #[] }
def k3m1 : Method := { name := "bitsIn", desc := "([I)J", sig := { parameters := [(.array .int)], returnType := some .long }, accessFlags := 0, code := some k3c1 }
/-- shortleaf/BlockCode -/
def k3 : Class := { plain "shortleaf/BlockCode" (some 2) with
  accessFlags := 48
  interfaces := #[]
  cf := some (fileOf pool3 8 #[] #[{ accessFlags := 0, nameIndex := 5, descriptorIndex := 78, attributes := #[] }, { accessFlags := 0, nameIndex := 84, descriptorIndex := 85, attributes := #[] }] 48 2 #[] #[{ accessFlags := 18, nameIndex := 11, descriptorIndex := 12, attributes := #[] }, { accessFlags := 18, nameIndex := 15, descriptorIndex := 16, attributes := #[] }, { accessFlags := 18, nameIndex := 19, descriptorIndex := 20, attributes := #[] }, { accessFlags := 18, nameIndex := 23, descriptorIndex := 16, attributes := #[] }, { accessFlags := 18, nameIndex := 26, descriptorIndex := 12, attributes := #[] }, { accessFlags := 24, nameIndex := 74, descriptorIndex := 75, attributes := #[] }])
  fields := #[{ name := "length", type := .long, accessFlags := 18, slot := 0, constantValue := 0 }, { name := "values", type := (.array .int), accessFlags := 18, slot := 1, constantValue := 0 }, { name := "weights", type := (.array .long), accessFlags := 18, slot := 2, constantValue := 0 }, { name := "lengths", type := (.array .int), accessFlags := 18, slot := 3, constantValue := 0 }, { name := "payloadBits", type := .long, accessFlags := 18, slot := 4, constantValue := 0 }, { name := "VALUES", type := .int, accessFlags := 24, slot := 0, constantValue := 0 }]
  methods := #[k3m0, k3m1]
  instanceTypes := #[.long, (.array .int), (.array .long), (.array .int), .long]
  staticTypes := #[.int]
  resolved := Array.replicate 118 none
  statics := none }

def pool4 : Array CpInfo := pool [(1, u "java/lang/Cloneable"), (0, .class_ 1), (0, u "java/lang/Object"), (0, .class_ 3)] 3

/-- java/lang/Cloneable -/
def k4 : Class := { plain "java/lang/Cloneable" (some 0) with
  accessFlags := 1537
  interfaces := #[]
  cf := some (fileOf pool4 2 #[] #[] 1537 4 #[] #[])
  fields := #[]
  methods := #[]
  instanceTypes := #[]
  staticTypes := #[]
  resolved := Array.replicate 8 none
  statics := none }

def pool5 : Array CpInfo := pool [(1, u "java/io/Serializable"), (0, .class_ 1), (0, u "java/lang/Object"), (0, .class_ 3)] 3

/-- java/io/Serializable -/
def k5 : Class := { plain "java/io/Serializable" (some 0) with
  accessFlags := 1537
  interfaces := #[]
  cf := some (fileOf pool5 2 #[] #[] 1537 4 #[] #[])
  fields := #[]
  methods := #[]
  instanceTypes := #[]
  staticTypes := #[]
  resolved := Array.replicate 8 none
  statics := none }

/-- the primitive byte -/
def k6 : Class := { plain "byte" none with kind := .primitive 'B', accessFlags := 0x411 }
/-- [B -/
def k7 : Class := { plain "[B" (some 0) with kind := .array 6 .byte, interfaces := #[4, 5], accessFlags := 1041 }

/-- the primitive int -/
def k8 : Class := { plain "int" none with kind := .primitive 'I', accessFlags := 0x411 }
/-- [I -/
def k9 : Class := { plain "[I" (some 0) with kind := .array 8 .int, interfaces := #[4, 5], accessFlags := 1041 }

/-- the primitive long -/
def k10 : Class := { plain "long" none with kind := .primitive 'J', accessFlags := 0x411 }
/-- [J -/
def k11 : Class := { plain "[J" (some 0) with kind := .array 10 .long, interfaces := #[4, 5], accessFlags := 1041 }

def heap : Heap := #[]
def classes : Array Class := #[k0, k1, k2, k3, k4, k5, k6, k7, k8, k9, k10, k11]
def interned : List (Array UInt16 × Addr) := []
def slotsUsed : Nat := 0
def theMethod : MethodId := ⟨1, 1⟩
def args0 : Array Value := #[.int 5, .long 6, .int 7, .long 8, .long 1, .long 2]
def aboutOver (below : List Frame) : State where
  vm := { classes := classes, interned := interned.toArray }
  heap := heap
  slotsUsed := slotsUsed
  threads := #[{ frames := .invoking theMethod args0 :: below }]
def below0 : List Frame := [.native { method := ⟨0, 0⟩, args := #[] }]
def about1 : State := aboutOver below0
def p0 : Program := .bare "" "" ""
def e0 : Env := launch0.env 0 0 0
theorem w_frames : about1.frames = Frame.invoking theMethod args0 :: below0 := rfl
set_option maxRecDepth 65536 in
theorem w_args : argsFit about1.vm theMethod args0 = true := by decide +kernel
set_option maxRecDepth 65536 in
theorem w_heap : heapFits about1 = true := by decide +kernel
set_option maxRecDepth 65536 in
theorem w_runnable : about1.curStatus? = some .runnable := by decide +kernel
set_option maxRecDepth 65536 in
theorem w_alone : about1.alone = true := by decide +kernel
set_option maxRecDepth 65536 in
theorem w_named : about1.methodNamed? x = some theMethod := by decide +kernel
set_option maxRecDepth 65536 in
theorem w_hears : about1.hears theMethod below0 = true := by decide +kernel
set_option maxRecDepth 65536 in
theorem w_ripe : about1.ripe theMethod args0 below0 = true := by decide +kernel
theorem w_running : about1.status = .running := rfl
set_option maxRecDepth 65536 in
theorem w_room : about1.hasRoom e0.platform room_1 = true :=
  launch0.hasRoom_least _ room_1 (by decide +kernel) (by decide +kernel) (by decide +kernel) (by decide +kernel) (by decide +kernel) (by decide +kernel)
theorem allAtoms_all (ts : List Jvm.Cond) (a : Array Jvm.Value) (st : Jvm.State) : (allAtoms ts).before a st = ts.all (fun c => c.before a st) := by
  induction ts with
  | nil => rfl
  | cons c t ih =>
    show (Jvm.Cond.and c (allAtoms t)).before a st = _
    rw [Jvm.Cond.before_and, ih, List.all_cons]
def words1 : List Jvm.Cond := Jvm.Cond.code x code maxLocals ret :: tables_1
/-- a 'code' word, met by the world's own term for the bytes: nothing is compared byte by byte -/
theorem code_word {y : MethodName} {bytes : ByteArray} {mx : Nat} {rt : Option FieldType} {a : Array Value} {s : State} {m : MethodId} {meth : Method} {c : Code} (h1 : s.methodNamed? y = some m) (h2 : s.vm.method? m = some meth) (h3 : meth.code = some c) (h4 : c.code = bytes)
    (h5 : (c.maxLocals == mx && c.exceptionTable.isEmpty && decide (c.maxStack ≤ mostOperands) && decide (meth.sig.returnType = rt) && !meth.locks && decide (parseMethodDescriptor y.desc = some meth.sig)) = true) : (Jvm.Cond.code y bytes mx rt).before a s = true := by
  simp only [Bool.and_eq_true, beq_iff_eq, Bool.not_eq_true', decide_eq_true_eq] at h5
  obtain ⟨⟨⟨⟨⟨g1, g2⟩, g3⟩, g4⟩, g5⟩, g6⟩ := h5
  simp [Cond.before, Cond.holds, Cond.value, h1, h2, h3, h4, g1, g2, g3, g4, g5, g6]
def isCode : Jvm.Cond → Bool
  | .code _ _ _ _ => true
  | _ => false
theorem all_split {L : List Jvm.Cond} {P : Jvm.Cond → Bool} (h1 : L.all (fun c => isCode c || P c) = true) (h2 : ∀ c ∈ L.filter isCode, P c = true) : L.all P = true := by
  refine List.all_eq_true.mpr fun c hc => ?_
  have h := List.all_eq_true.mp h1 c hc
  rcases Bool.eq_false_or_eq_true (isCode c) with hi | hi
  · exact h2 c (List.mem_filter.mpr ⟨hc, hi⟩)
  · simpa [hi] using h
set_option maxRecDepth 65536 in
theorem w_c0 : (Jvm.Cond.code x code maxLocals ret).before args0 about1 = true := code_word (m := ⟨1, 1⟩) (meth := k1m1) (c := k1c1) (by decide +kernel) rfl rfl rfl (by decide +kernel)
set_option maxRecDepth 65536 in
theorem w_c1 : (Jvm.Cond.code ({ cls := "shortleaf/BlockCode", name := "<init>", desc := "(J[I[J[IJ)V" } : Jvm.MethodName) prog_1_method_1_code (8 : Nat) (Option.none : Option Jvm.ClassFile.FieldType)).before args0 about1 = true := code_word (m := ⟨3, 0⟩) (meth := k3m0) (c := k3c0) (by decide +kernel) rfl rfl rfl (by decide +kernel)
set_option maxRecDepth 65536 in
theorem w_c2 : (Jvm.Cond.code ({ cls := "java/lang/Record", name := "<init>", desc := "()V" } : Jvm.MethodName) jdk_30_method_1_code (1 : Nat) (Option.none : Option Jvm.ClassFile.FieldType)).before args0 about1 = true := code_word (m := ⟨2, 0⟩) (meth := k2m0) (c := k2c0) (by decide +kernel) rfl rfl rfl (by decide +kernel)
set_option maxRecDepth 65536 in
theorem w_c3 : (Jvm.Cond.code ({ cls := "java/lang/Object", name := "<init>", desc := "()V" } : Jvm.MethodName) object_method_1_code (1 : Nat) (Option.none : Option Jvm.ClassFile.FieldType)).before args0 about1 = true := code_word (m := ⟨0, 0⟩) (meth := k0m0) (c := k0c0) (by decide +kernel) rfl rfl rfl (by decide +kernel)
set_option maxRecDepth 65536 in
theorem w_c4 : (Jvm.Cond.code ({ cls := "shortleaf/BlockCode", name := "bitsIn", desc := "([I)J" } : Jvm.MethodName) prog_1_method_4_code (6 : Nat) (Option.some Jvm.ClassFile.FieldType.long)).before args0 about1 = true := code_word (m := ⟨3, 1⟩) (meth := k3m1) (c := k3c1) (by decide +kernel) rfl rfl rfl (by decide +kernel)
def codes1 : List Jvm.Cond := [Jvm.Cond.code x code maxLocals ret, Jvm.Cond.code ({ cls := "shortleaf/BlockCode", name := "<init>", desc := "(J[I[J[IJ)V" } : Jvm.MethodName) prog_1_method_1_code (8 : Nat) (Option.none : Option Jvm.ClassFile.FieldType), Jvm.Cond.code ({ cls := "java/lang/Record", name := "<init>", desc := "()V" } : Jvm.MethodName) jdk_30_method_1_code (1 : Nat) (Option.none : Option Jvm.ClassFile.FieldType), Jvm.Cond.code ({ cls := "java/lang/Object", name := "<init>", desc := "()V" } : Jvm.MethodName) object_method_1_code (1 : Nat) (Option.none : Option Jvm.ClassFile.FieldType), Jvm.Cond.code ({ cls := "shortleaf/BlockCode", name := "bitsIn", desc := "([I)J" } : Jvm.MethodName) prog_1_method_4_code (6 : Nat) (Option.some Jvm.ClassFile.FieldType.long)]
set_option maxRecDepth 65536 in
theorem codes_eq : words1.filter isCode = codes1 := rfl
theorem w_codes : ∀ c ∈ words1.filter isCode, c.before args0 about1 = true := by
  rw [codes_eq]
  intro c hc
  simp only [codes1, List.mem_cons, List.not_mem_nil, or_false] at hc
  rcases hc with rfl | rfl | rfl | rfl | rfl
  · exact w_c0
  · exact w_c1
  · exact w_c2
  · exact w_c3
  · exact w_c4
set_option maxRecDepth 65536 in
theorem w_t1 : (words1.take 24).all (fun c => isCode c || c.before args0 about1) = true := by decide +kernel
set_option maxRecDepth 65536 in
theorem w_t2 : (words1.drop 24).all (fun c => isCode c || c.before args0 about1) = true := by decide +kernel
theorem w_tables : (allAtoms (Jvm.Cond.code x code maxLocals ret :: tables_1)).before args0 about1 = true := by
  rw [allAtoms_all]
  show words1.all (fun c => c.before args0 about1) = true
  refine all_split ?_ w_codes
  rw [← List.take_append_drop 24 words1, List.all_append, w_t1, w_t2]
  rfl
set_option maxRecDepth 65536 in
theorem w_case : (Jvm.Cond.and given_1 narrow_1).before args0 about1 = true := by decide +kernel
theorem w_applies : (headSpec (Jvm.Cond.code x code maxLocals ret :: tables_1) room_1).applies x e0.platform about1 = true :=
  (Spec.applies_iff w_frames).mpr ⟨w_running, w_runnable, w_alone, w_named, w_hears, w_ripe, w_room, w_tables⟩
theorem atStart : AtStart classFile x code maxLocals ret World_1 tables_1 room_1 Calls_1 rest_1 Pre_1 launch0 p0 e0 about1 theMethod args0 below0 :=
  ⟨lists_1, trivial, launch0.admits_env _ _ _, launch0.least_env, fairChoices_fair.cas, fairChoices_fair.clock, w_frames, w_args, w_heap, w_applies, trivial, trivial, w_case⟩
end start1
theorem witness_1 : WitnessClaimed_1 := ⟨start1.p0, start1.e0, start1.about1, start1.theMethod, start1.args0, start1.below0, start1.atStart⟩
end Jvm.Pilot.@@N@@
