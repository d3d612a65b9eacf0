import JvmDerived
import JvmDerived.Pilot.@@N@@Statement
import JvmDerived.Pilot.@@N@@Code
set_option linter.unusedVariables false
set_option linter.unusedSimpArgs false
namespace Jvm.Own
open Sem ClassFile Op Lib Jvm.Stand Jvm.Free Jvm.LawKit Jvm.RoadKit
/-! ### what is left to walk, and one law a step -/
def Go (p : Program) (e : Env) (below : List Frame) (P : Outcome → State → Prop) (S : State) : Prop :=
  ∃ s₂ o, Steps p.tables e below S s₂ ∧ s₂.status = .running ∧ Ended s₂ below o ∧ P o s₂
def Fini (s : State) (Q : Option Value → Heap → List Loc → Prop) (k n : Nat) (o : Outcome) (U : State) : Prop :=
  ∃ v L, o = .returned v ∧ Q v U.heap L ∧ FrameEnd s o U L k n
def Ct (l : Launch) (y : MethodName) (bytes : ByteArray) (maxL : Nat) (ret : Option FieldType) (ws : List Jvm.Cond) (rm : Room) (Z : State) (as : Array Value) (h : Heap) (Q : Option Value → Heap → List Loc → Prop) : Prop :=
  MetFree l y (head1 (Jvm.Cond.code y bytes maxL ret :: ws) rm) (fun a U => a = as ∧ Z.Warmed39 U.vm ∧ U.heap = h) (fun _ _ _ _ _ => True) (fun _ U o U' => ∃ v L, o = .returned v ∧ Q v U'.heap L ∧ FrameEnd U o U' L rm.cells rm.slots)
section Walk
variable {p : Program} {l : Launch} {e : Env} {R : Room} {s : State} {m : MethodId} {args : Array Value} {below : List Frame} {meth : Method} {c : Code} {T : State} {locs : List Loc} {cells slots : Nat} {P : Outcome → State → Prop} {Z : State} {a0 : Array Value} {h : Heap}
variable {pc : Nat} {L : Array Slot} {rest st : List Value}
theorem Go.via {A B : State} (q : ∀ t, Steps p.tables e below B t → Steps p.tables e below A t) (k : Go p e below P B) : Go p e below P A := by
  obtain ⟨s2, o, h1, h2⟩ := k
  exact ⟨s2, o, q _ h1, h2⟩
theorem Go.tr {A B : State} (q : Steps p.tables e below A B) (k : Go p e below P B) : Go p e below P A := Go.via (fun _ r => q.trans r) k
theorem enter {y : MethodName} {bytes : ByteArray} {maxL : Nat} {ret : Option FieldType} {ws : List Jvm.Cond} {rm : Room} {as : Array Value} {Q : Option Value → Heap → List Loc → Prop} (hy : plainFor y = true)
    (body : ∀ p e s m below meth c s₁, p.tables.exec = Jvm.exec → c.code = bytes → c.maxLocals = maxL → s.vm.findClass y.cls = some m.cls → meth.name = y.name → meth.sig.returnType = ret → meth.locks = false → Z.Warmed39 s.vm →
      Stand p l e rm s m as below meth c s₁ [] 0 0 → s₁.heap = h → Go p e below (Fini s Q rm.cells rm.slots) (s₁.setTop (entryFrame m as maxL))) : Ct l y bytes maxL ret ws rm Z as h Q := by
  refine MetFree.of_bodySF hy hisR ?_
  intro p e s m args below meth c s₁ Bd hml hP hK
  obtain ⟨rfl, hZ, hh⟩ := hP
  exact body p e s m below meth c s₁ Bd.exec Bd.bytes hml (findClass_of_methodNamed Bd.named) (name_of_methodNamed Bd.named Bd.method).1 Bd.returns Bd.notSynchronized hZ (Stand.of_body Bd) (by rw [← hh, Bd.state]; rfl)
theorem start {g g' : JFrame} (q : g = g') (k : Go p e below P (T.setTop g')) : Go p e below P (T.setTop g) := q ▸ k
theorem induct {α : Type} (S : α → State) (I : Nat → α → Prop) (base : ∀ a, I 0 a → Go p e below P (S a)) (step : ∀ k a, I (k + 1) a → (∀ a', I k a' → Go p e below P (S a')) → Go p e below P (S a)) {n : Nat} {a : α} (w : I n a) : Go p e below P (S a) := by
  induction n generalizing a with
  | zero => exact base a w
  | succ k ih => exact step k a w (fun a' w' => ih w')
/-! plain steps -/
theorem aloadN (X : Stand p l e R s m args below meth c T locs cells slots) (hx : p.tables.exec = Jvm.exec) {i : Fin 4} {v : Value} (hd : decode c.code pc = .ok (.aload_n i, 1)) (hl : L[i.val]? = some (.val v)) (hv : v.isRef = true) (k : Go p e below P (T.setTop (mkF m (pc + 1) L (v :: st)))) : Go p e below P (T.setTop (mkF m pc L st)) := Go.via (fun _ q => XS.aloadN X.here hx rfl hd hl hv q) k
theorem aload (X : Stand p l e R s m args below meth c T locs cells slots) (hx : p.tables.exec = Jvm.exec) {i : Nat} {v : Value} (hd : decode c.code pc = .ok (.aload i, 2)) (hl : L[i]? = some (.val v)) (hv : v.isRef = true) (k : Go p e below P (T.setTop (mkF m (pc + 2) L (v :: st)))) : Go p e below P (T.setTop (mkF m pc L st)) := Go.via (fun _ q => XS.aload X.here hx rfl hd hl hv q) k
theorem iloadN (X : Stand p l e R s m args below meth c T locs cells slots) (hx : p.tables.exec = Jvm.exec) {i : Fin 4} {v : Int32} (hd : decode c.code pc = .ok (.iload_n i, 1)) (hl : L[i.val]? = some (.val (.int v))) (k : Go p e below P (T.setTop (mkF m (pc + 1) L (.int v :: st)))) : Go p e below P (T.setTop (mkF m pc L st)) := Go.via (fun _ q => XS.iloadN X.here hx rfl hd hl q) k
theorem iload (X : Stand p l e R s m args below meth c T locs cells slots) (hx : p.tables.exec = Jvm.exec) {i : Nat} {v : Int32} (hd : decode c.code pc = .ok (.iload i, 2)) (hl : L[i]? = some (.val (.int v))) (k : Go p e below P (T.setTop (mkF m (pc + 2) L (.int v :: st)))) : Go p e below P (T.setTop (mkF m pc L st)) := Go.via (fun _ q => XS.iload X.here hx rfl hd hl q) k
theorem lloadN (X : Stand p l e R s m args below meth c T locs cells slots) (hx : p.tables.exec = Jvm.exec) {i : Fin 4} {v : Int64} (hd : decode c.code pc = .ok (.lload_n i, 1)) (hl : L[i.val]? = some (.val (.long v))) (k : Go p e below P (T.setTop (mkF m (pc + 1) L (.long v :: st)))) : Go p e below P (T.setTop (mkF m pc L st)) := Go.via (fun _ q => XT.lloadN X.here hx rfl hd hl q) k
theorem lload (X : Stand p l e R s m args below meth c T locs cells slots) (hx : p.tables.exec = Jvm.exec) {i : Nat} {v : Int64} (hd : decode c.code pc = .ok (.lload i, 2)) (hl : L[i]? = some (.val (.long v))) (k : Go p e below P (T.setTop (mkF m (pc + 2) L (.long v :: st)))) : Go p e below P (T.setTop (mkF m pc L st)) := Go.via (fun _ q => XT.lload X.here hx rfl hd hl q) k
theorem istoreN (X : Stand p l e R s m args below meth c T locs cells slots) (hx : p.tables.exec = Jvm.exec) {i : Fin 4} {v : Int32} (L' : Array Slot) (hd : decode c.code pc = .ok (.istore_n i, 1)) (hl : storeLocals L i.val (.int v) = some L') (k : Go p e below P (T.setTop (mkF m (pc + 1) L' st))) : Go p e below P (T.setTop (mkF m pc L (.int v :: st))) := Go.via (fun _ q => XS.istoreN X.here hx rfl hd rfl hl q) k
theorem istore (X : Stand p l e R s m args below meth c T locs cells slots) (hx : p.tables.exec = Jvm.exec) {i : Nat} {v : Int32} (L' : Array Slot) (hd : decode c.code pc = .ok (.istore i, 2)) (hl : storeLocals L i (.int v) = some L') (k : Go p e below P (T.setTop (mkF m (pc + 2) L' st))) : Go p e below P (T.setTop (mkF m pc L (.int v :: st))) := Go.via (fun _ q => XS.istore X.here hx rfl hd rfl hl q) k
theorem lstoreN (X : Stand p l e R s m args below meth c T locs cells slots) (hx : p.tables.exec = Jvm.exec) {i : Fin 4} {v : Int64} (L' : Array Slot) (hd : decode c.code pc = .ok (.lstore_n i, 1)) (hl : storeLocals L i.val (.long v) = some L') (k : Go p e below P (T.setTop (mkF m (pc + 1) L' st))) : Go p e below P (T.setTop (mkF m pc L (.long v :: st))) := Go.via (fun _ q => XT.lstoreN X.here hx rfl hd rfl hl q) k
theorem lstore (X : Stand p l e R s m args below meth c T locs cells slots) (hx : p.tables.exec = Jvm.exec) {i : Nat} {v : Int64} (L' : Array Slot) (hd : decode c.code pc = .ok (.lstore i, 2)) (hl : storeLocals L i (.long v) = some L') (k : Go p e below P (T.setTop (mkF m (pc + 2) L' st))) : Go p e below P (T.setTop (mkF m pc L (.long v :: st))) := Go.via (fun _ q => XT.lstore X.here hx rfl hd rfl hl q) k
theorem astoreN (X : Stand p l e R s m args below meth c T locs cells slots) (hx : p.tables.exec = Jvm.exec) {i : Fin 4} {v : Value} (L' : Array Slot) (hd : decode c.code pc = .ok (.astore_n i, 1)) (hv : v.isRef = true) (hl : storeLocals L i.val v = some L') (k : Go p e below P (T.setTop (mkF m (pc + 1) L' st))) : Go p e below P (T.setTop (mkF m pc L (v :: st))) := Go.via (fun _ q => XS.astoreN X.here hx rfl hd rfl hv hl q) k
theorem astore (X : Stand p l e R s m args below meth c T locs cells slots) (hx : p.tables.exec = Jvm.exec) {i : Nat} {v : Value} (L' : Array Slot) (hd : decode c.code pc = .ok (.astore i, 2)) (hv : v.isRef = true) (hl : storeLocals L i v = some L') (k : Go p e below P (T.setTop (mkF m (pc + 2) L' st))) : Go p e below P (T.setTop (mkF m pc L (v :: st))) := Go.via (fun _ q => XS.astore X.here hx rfl hd rfl hv hl q) k
theorem iconst (X : Stand p l e R s m args below meth c T locs cells slots) (hx : p.tables.exec = Jvm.exec) {i : Int} (v : Int32) (hd : decode c.code pc = .ok (.iconst i, 1)) (hv : Int32.ofInt i = v) (k : Go p e below P (T.setTop (mkF m (pc + 1) L (.int v :: st)))) : Go p e below P (T.setTop (mkF m pc L st)) := Go.via (fun _ q => XS.iconst X.here hx rfl hd (hv ▸ q)) k
theorem bipush (X : Stand p l e R s m args below meth c T locs cells slots) (hx : p.tables.exec = Jvm.exec) {i : Int} (v : Int32) (hd : decode c.code pc = .ok (.bipush i, 2)) (hv : (Int8.ofInt i).toInt32 = v) (k : Go p e below P (T.setTop (mkF m (pc + 2) L (.int v :: st)))) : Go p e below P (T.setTop (mkF m pc L st)) := Go.via (fun _ q => XS.bipush X.here hx rfl hd (hv ▸ q)) k
theorem sipush (X : Stand p l e R s m args below meth c T locs cells slots) (hx : p.tables.exec = Jvm.exec) {i : Int} (v : Int32) (hd : decode c.code pc = .ok (.sipush i, 3)) (hv : (Int16.ofInt i).toInt32 = v) (k : Go p e below P (T.setTop (mkF m (pc + 3) L (.int v :: st)))) : Go p e below P (T.setTop (mkF m pc L st)) := Go.via (fun _ q => XS.sipush X.here hx rfl hd (hv ▸ q)) k
theorem lconst (X : Stand p l e R s m args below meth c T locs cells slots) (hx : p.tables.exec = Jvm.exec) {i : Fin 2} (v : Int64) (hd : decode c.code pc = .ok (.lconst i, 1)) (hv : Int64.ofNat i = v) (k : Go p e below P (T.setTop (mkF m (pc + 1) L (.long v :: st)))) : Go p e below P (T.setTop (mkF m pc L st)) := Go.via (fun _ q => XT.lconst X.here hx rfl hd (hv ▸ q)) k
theorem aconstNull (X : Stand p l e R s m args below meth c T locs cells slots) (hx : p.tables.exec = Jvm.exec) (hd : decode c.code pc = .ok (.aconst_null, 1)) (k : Go p e below P (T.setTop (mkF m (pc + 1) L (.null :: st)))) : Go p e below P (T.setTop (mkF m pc L st)) := Go.via (fun _ q => XS.aconstNull X.here hx rfl hd q) k
theorem ldcI (X : Stand p l e R s m args below meth c T locs cells slots) (hx : p.tables.exec = Jvm.exec) (hZ : Z.Warmed39 s.vm) {own : String} {i : Nat} {v : Int32} (hown : s.vm.findClass own = some m.cls) (w : (Cond.constant own i v).before a0 Z = true) (hd : decode c.code pc = .ok (.ldc i, 2)) (k : Go p e below P (T.setTop (mkF m (pc + 2) L (.int v :: st)))) : Go p e below P (T.setTop (mkF m pc L st)) := Go.via (fun _ q => X.ldcI hx hown (mvT hZ w) rfl hd q) k
theorem ldcWI (X : Stand p l e R s m args below meth c T locs cells slots) (hx : p.tables.exec = Jvm.exec) (hZ : Z.Warmed39 s.vm) {own : String} {i : Nat} {v : Int32} (hown : s.vm.findClass own = some m.cls) (w : (Cond.constant own i v).before a0 Z = true) (hd : decode c.code pc = .ok (.ldc_w i, 3)) (k : Go p e below P (T.setTop (mkF m (pc + 3) L (.int v :: st)))) : Go p e below P (T.setTop (mkF m pc L st)) := Go.via (fun _ q => X.ldcWI hx hown (mvT hZ w) rfl hd q) k
theorem ldc2J (X : Stand p l e R s m args below meth c T locs cells slots) (hx : p.tables.exec = Jvm.exec) (hZ : Z.Warmed39 s.vm) {own : String} {i : Nat} {v : Int64} (hown : s.vm.findClass own = some m.cls) (w : (Cond.constantLong own i v).before a0 Z = true) (hd : decode c.code pc = .ok (.ldc2_w i, 3)) (k : Go p e below P (T.setTop (mkF m (pc + 3) L (.long v :: st)))) : Go p e below P (T.setTop (mkF m pc L st)) := Go.via (fun _ q => X.ldc2J hx hown (mvT hZ w) rfl hd q) k
theorem iinc (X : Stand p l e R s m args below meth c T locs cells slots) (hx : p.tables.exec = Jvm.exec) {i : Nat} {d : Int} {x : Int32} (v : Int32) (L' : Array Slot) (hd : decode c.code pc = .ok (.iinc i d, 3)) (hv : Int32.ofInt d = v) (hl : L[i]? = some (.val (.int x))) (hl' : storeLocals L i (.int (x + v)) = some L') (k : Go p e below P (T.setTop (mkF m (pc + 3) L' st))) : Go p e below P (T.setTop (mkF m pc L st)) := Go.via (fun _ q => XS.iinc X.here hx rfl hd hl (hv ▸ hl') q) k
theorem goto (X : Stand p l e R s m args below meth c T locs cells slots) (hx : p.tables.exec = Jvm.exec) {o : Int} (pc' : Nat) (hd : decode c.code pc = .ok (.goto o, 3)) (ho : 0 ≤ (pc : Int) + o) (hp : ((pc : Int) + o).toNat = pc') (k : Go p e below P (T.setTop (mkF m pc' L st))) : Go p e below P (T.setTop (mkF m pc L st)) := Go.via (fun _ q => XS.goto X.here hx rfl rfl hd ho hp q) k
theorem ifYes (X : Stand p l e R s m args below meth c T locs cells slots) (hx : p.tables.exec = Jvm.exec) {cd : ClassFile.Cond} {x : Int32} {o : Int} (pc' : Nat) (hd : decode c.code pc = .ok (.ifCond cd o, 3)) (hc : ifCond.holds cd x = true) (ho : 0 ≤ (pc : Int) + o) (hp : ((pc : Int) + o).toNat = pc') (k : Go p e below P (T.setTop (mkF m pc' L st))) : Go p e below P (T.setTop (mkF m pc L (.int x :: st))) := Go.via (fun _ q => XS.ifYes X.here hx rfl rfl hd rfl hc ho hp q) k
theorem ifNo (X : Stand p l e R s m args below meth c T locs cells slots) (hx : p.tables.exec = Jvm.exec) {cd : ClassFile.Cond} {x : Int32} {o : Int} (hd : decode c.code pc = .ok (.ifCond cd o, 3)) (hc : ifCond.holds cd x = false) (k : Go p e below P (T.setTop (mkF m (pc + 3) L st))) : Go p e below P (T.setTop (mkF m pc L (.int x :: st))) := Go.via (fun _ q => XS.ifNo X.here hx rfl hd rfl hc q) k
theorem icmpYes (X : Stand p l e R s m args below meth c T locs cells slots) (hx : p.tables.exec = Jvm.exec) {cd : ClassFile.Cond} {x y : Int32} {o : Int} (pc' : Nat) (hd : decode c.code pc = .ok (.if_icmp cd o, 3)) (hc : if_icmp.holds cd x y = true) (ho : 0 ≤ (pc : Int) + o) (hp : ((pc : Int) + o).toNat = pc') (k : Go p e below P (T.setTop (mkF m pc' L st))) : Go p e below P (T.setTop (mkF m pc L (.int y :: .int x :: st))) := Go.via (fun _ q => XS.icmpYes X.here hx rfl rfl hd rfl hc ho hp q) k
theorem icmpNo (X : Stand p l e R s m args below meth c T locs cells slots) (hx : p.tables.exec = Jvm.exec) {cd : ClassFile.Cond} {x y : Int32} {o : Int} (hd : decode c.code pc = .ok (.if_icmp cd o, 3)) (hc : if_icmp.holds cd x y = false) (k : Go p e below P (T.setTop (mkF m (pc + 3) L st))) : Go p e below P (T.setTop (mkF m pc L (.int y :: .int x :: st))) := Go.via (fun _ q => XS.icmpNo X.here hx rfl hd rfl hc q) k
theorem ifnullYes (X : Stand p l e R s m args below meth c T locs cells slots) (hx : p.tables.exec = Jvm.exec) {o : Int} (pc' : Nat) (hd : decode c.code pc = .ok (.ifnull o, 3)) (ho : 0 ≤ (pc : Int) + o) (hp : ((pc : Int) + o).toNat = pc') (k : Go p e below P (T.setTop (mkF m pc' L st))) : Go p e below P (T.setTop (mkF m pc L (.null :: st))) := Go.via (fun _ q => XS.ifnullYes X.here hx rfl rfl hd rfl ho hp q) k
theorem ifnullNo (X : Stand p l e R s m args below meth c T locs cells slots) (hx : p.tables.exec = Jvm.exec) {o : Int} {b : Addr} (hd : decode c.code pc = .ok (.ifnull o, 3)) (k : Go p e below P (T.setTop (mkF m (pc + 3) L st))) : Go p e below P (T.setTop (mkF m pc L (.ref b :: st))) := Go.via (fun _ q => XS.ifnullNo X.here hx rfl hd rfl q) k
theorem ifnonnullYes (X : Stand p l e R s m args below meth c T locs cells slots) (hx : p.tables.exec = Jvm.exec) {o : Int} {b : Addr} (pc' : Nat) (hd : decode c.code pc = .ok (.ifnonnull o, 3)) (ho : 0 ≤ (pc : Int) + o) (hp : ((pc : Int) + o).toNat = pc') (k : Go p e below P (T.setTop (mkF m pc' L st))) : Go p e below P (T.setTop (mkF m pc L (.ref b :: st))) := Go.via (fun _ q => XT.ifnonnullYes X.here hx rfl rfl hd rfl ho hp q) k
theorem ifnonnullNo (X : Stand p l e R s m args below meth c T locs cells slots) (hx : p.tables.exec = Jvm.exec) {o : Int} (hd : decode c.code pc = .ok (.ifnonnull o, 3)) (k : Go p e below P (T.setTop (mkF m (pc + 3) L st))) : Go p e below P (T.setTop (mkF m pc L (.null :: st))) := Go.via (fun _ q => XT.ifnonnullNo X.here hx rfl hd rfl q) k
theorem dup (X : Stand p l e R s m args below meth c T locs cells slots) (hx : p.tables.exec = Jvm.exec) {v : Value} (hd : decode c.code pc = .ok (.dup, 1)) (hc : v.category = 1) (k : Go p e below P (T.setTop (mkF m (pc + 1) L (v :: v :: st)))) : Go p e below P (T.setTop (mkF m pc L (v :: st))) := Go.via (fun _ q => XS.dup X.here hx rfl hd rfl hc q) k
theorem dup2 (X : Stand p l e R s m args below meth c T locs cells slots) (hx : p.tables.exec = Jvm.exec) {v w : Value} (hd : decode c.code pc = .ok (.dup2, 1)) (hc : v.category = 1) (hc' : w.category = 1) (k : Go p e below P (T.setTop (mkF m (pc + 1) L (v :: w :: v :: w :: st)))) : Go p e below P (T.setTop (mkF m pc L (v :: w :: st))) := Go.via (fun _ q => XT.dup2 X.here hx rfl hd rfl hc hc' q) k
theorem dup2L (X : Stand p l e R s m args below meth c T locs cells slots) (hx : p.tables.exec = Jvm.exec) {v : Int64} (hd : decode c.code pc = .ok (.dup2, 1)) (k : Go p e below P (T.setTop (mkF m (pc + 1) L (.long v :: .long v :: st)))) : Go p e below P (T.setTop (mkF m pc L (.long v :: st))) := Go.via (fun _ q => XT.dup2L X.here hx rfl hd rfl q) k
theorem dupX1 (X : Stand p l e R s m args below meth c T locs cells slots) (hx : p.tables.exec = Jvm.exec) {v w : Value} (hd : decode c.code pc = .ok (.dup_x1, 1)) (hc : v.category = 1) (hc' : w.category = 1) (k : Go p e below P (T.setTop (mkF m (pc + 1) L (v :: w :: v :: st)))) : Go p e below P (T.setTop (mkF m pc L (v :: w :: st))) := Go.via (fun _ q => XT.dupX1 X.here hx rfl hd rfl hc hc' q) k
theorem pop (X : Stand p l e R s m args below meth c T locs cells slots) (hx : p.tables.exec = Jvm.exec) {v : Value} (hd : decode c.code pc = .ok (.pop, 1)) (hc : v.category = 1) (k : Go p e below P (T.setTop (mkF m (pc + 1) L st))) : Go p e below P (T.setTop (mkF m pc L (v :: st))) := Go.via (fun _ q => XT.pop X.here hx rfl hd rfl hc q) k
theorem xdupX2 {e : Env} {below : List Frame} {T target : State} {m : MethodId} {c : Code} {g : JFrame} (h : At T m c below) (hx : p.tables.exec = Jvm.exec) (hg : g.method = m) {x y z : Value} {rest : List Value} (hd : decode c.code g.pc = .ok (.dup_x2, 1)) (hs : g.stack = x :: y :: z :: rest) (hc : x.category = 1) (hc' : y.category = 1) (hc2 : z.category = 1)
    (hr : Steps p.tables e below (T.setTop { g with pc := g.pc + 1, stack := x :: y :: z :: x :: rest }) target) : Steps p.tables e below (T.setTop g) target := by
  subst hg
  jvm_step h [h.top, hx, hd, hs, hc, hc', hc2]
  exact hr
theorem dupX2 (X : Stand p l e R s m args below meth c T locs cells slots) (hx : p.tables.exec = Jvm.exec) {v w u : Value} (hd : decode c.code pc = .ok (.dup_x2, 1)) (hc : v.category = 1) (hc' : w.category = 1) (hc2 : u.category = 1) (k : Go p e below P (T.setTop (mkF m (pc + 1) L (v :: w :: u :: v :: st)))) : Go p e below P (T.setTop (mkF m pc L (v :: w :: u :: st))) := Go.via (fun _ q => xdupX2 X.here hx rfl hd rfl hc hc' hc2 q) k
theorem xdup2X2 {e : Env} {below : List Frame} {T target : State} {m : MethodId} {c : Code} {g : JFrame} (h : At T m c below) (hx : p.tables.exec = Jvm.exec) (hg : g.method = m) {x : Int64} {y z : Value} {rest : List Value} (hd : decode c.code g.pc = .ok (.dup2_x2, 1)) (hs : g.stack = .long x :: y :: z :: rest) (hc' : y.category = 1) (hc2 : z.category = 1)
    (hr : Steps p.tables e below (T.setTop { g with pc := g.pc + 1, stack := .long x :: y :: z :: .long x :: rest }) target) : Steps p.tables e below (T.setTop g) target := by
  subst hg
  jvm_step h [h.top, hx, hd, hs, hc', hc2]
  exact hr
theorem dup2X2 (X : Stand p l e R s m args below meth c T locs cells slots) (hx : p.tables.exec = Jvm.exec) {v : Int64} {w u : Value} (hd : decode c.code pc = .ok (.dup2_x2, 1)) (hc' : w.category = 1) (hc2 : u.category = 1) (k : Go p e below P (T.setTop (mkF m (pc + 1) L (.long v :: w :: u :: .long v :: st)))) : Go p e below P (T.setTop (mkF m pc L (.long v :: w :: u :: st))) := Go.via (fun _ q => xdup2X2 X.here hx rfl hd rfl hc' hc2 q) k
theorem iadd (X : Stand p l e R s m args below meth c T locs cells slots) (hx : p.tables.exec = Jvm.exec) {x y : Int32} (hd : decode c.code pc = .ok (.iadd, 1)) (k : Go p e below P (T.setTop (mkF m (pc + 1) L (.int (x + y) :: st)))) : Go p e below P (T.setTop (mkF m pc L (.int y :: .int x :: st))) := Go.via (fun _ q => XS.iadd X.here hx rfl hd rfl q) k
theorem isub (X : Stand p l e R s m args below meth c T locs cells slots) (hx : p.tables.exec = Jvm.exec) {x y : Int32} (hd : decode c.code pc = .ok (.isub, 1)) (k : Go p e below P (T.setTop (mkF m (pc + 1) L (.int (x - y) :: st)))) : Go p e below P (T.setTop (mkF m pc L (.int y :: .int x :: st))) := Go.via (fun _ q => XS.isub X.here hx rfl hd rfl q) k
theorem imul (X : Stand p l e R s m args below meth c T locs cells slots) (hx : p.tables.exec = Jvm.exec) {x y : Int32} (hd : decode c.code pc = .ok (.imul, 1)) (k : Go p e below P (T.setTop (mkF m (pc + 1) L (.int (x * y) :: st)))) : Go p e below P (T.setTop (mkF m pc L (.int y :: .int x :: st))) := Go.via (fun _ q => XS.imul X.here hx rfl hd rfl q) k
theorem iand (X : Stand p l e R s m args below meth c T locs cells slots) (hx : p.tables.exec = Jvm.exec) {x y : Int32} (hd : decode c.code pc = .ok (.iand, 1)) (k : Go p e below P (T.setTop (mkF m (pc + 1) L (.int (x &&& y) :: st)))) : Go p e below P (T.setTop (mkF m pc L (.int y :: .int x :: st))) := Go.via (fun _ q => XS.iand X.here hx rfl hd rfl q) k
theorem ior (X : Stand p l e R s m args below meth c T locs cells slots) (hx : p.tables.exec = Jvm.exec) {x y : Int32} (hd : decode c.code pc = .ok (.ior, 1)) (k : Go p e below P (T.setTop (mkF m (pc + 1) L (.int (x ||| y) :: st)))) : Go p e below P (T.setTop (mkF m pc L (.int y :: .int x :: st))) := Go.via (fun _ q => XT.ior X.here hx rfl hd rfl q) k
theorem ixor (X : Stand p l e R s m args below meth c T locs cells slots) (hx : p.tables.exec = Jvm.exec) {x y : Int32} (hd : decode c.code pc = .ok (.ixor, 1)) (k : Go p e below P (T.setTop (mkF m (pc + 1) L (.int (x ^^^ y) :: st)))) : Go p e below P (T.setTop (mkF m pc L (.int y :: .int x :: st))) := Go.via (fun _ q => XT.ixor X.here hx rfl hd rfl q) k
theorem ishl (X : Stand p l e R s m args below meth c T locs cells slots) (hx : p.tables.exec = Jvm.exec) {x y : Int32} (hd : decode c.code pc = .ok (.ishl, 1)) (k : Go p e below P (T.setTop (mkF m (pc + 1) L (.int (x <<< (y &&& 31)) :: st)))) : Go p e below P (T.setTop (mkF m pc L (.int y :: .int x :: st))) := Go.via (fun _ q => XT.ishl X.here hx rfl hd rfl q) k
theorem ishr (X : Stand p l e R s m args below meth c T locs cells slots) (hx : p.tables.exec = Jvm.exec) {x y : Int32} (hd : decode c.code pc = .ok (.ishr, 1)) (k : Go p e below P (T.setTop (mkF m (pc + 1) L (.int (x >>> (y &&& 31)) :: st)))) : Go p e below P (T.setTop (mkF m pc L (.int y :: .int x :: st))) := Go.via (fun _ q => XT.ishr X.here hx rfl hd rfl q) k
theorem iushr (X : Stand p l e R s m args below meth c T locs cells slots) (hx : p.tables.exec = Jvm.exec) {x y : Int32} (hd : decode c.code pc = .ok (.iushr, 1)) (k : Go p e below P (T.setTop (mkF m (pc + 1) L (.int (XT.ushr x y) :: st)))) : Go p e below P (T.setTop (mkF m pc L (.int y :: .int x :: st))) := Go.via (fun _ q => XT.iushr X.here hx rfl hd rfl q) k
theorem idiv (X : Stand p l e R s m args below meth c T locs cells slots) (hx : p.tables.exec = Jvm.exec) {x y : Int32} (hd : decode c.code pc = .ok (.idiv, 1)) (hy : y ≠ 0) (k : Go p e below P (T.setTop (mkF m (pc + 1) L (.int (x / y) :: st)))) : Go p e below P (T.setTop (mkF m pc L (.int y :: .int x :: st))) := Go.via (fun _ q => XS.idiv X.here hx rfl hd rfl hy q) k
theorem irem (X : Stand p l e R s m args below meth c T locs cells slots) (hx : p.tables.exec = Jvm.exec) {x y : Int32} (hd : decode c.code pc = .ok (.irem, 1)) (hy : y ≠ 0) (k : Go p e below P (T.setTop (mkF m (pc + 1) L (.int (x % y) :: st)))) : Go p e below P (T.setTop (mkF m pc L (.int y :: .int x :: st))) := Go.via (fun _ q => iremM X hx (g := mkF m pc L (.int y :: .int x :: st)) rfl hd rfl hy q) k
theorem ladd (X : Stand p l e R s m args below meth c T locs cells slots) (hx : p.tables.exec = Jvm.exec) {x y : Int64} (hd : decode c.code pc = .ok (.ladd, 1)) (k : Go p e below P (T.setTop (mkF m (pc + 1) L (.long (x + y) :: st)))) : Go p e below P (T.setTop (mkF m pc L (.long y :: .long x :: st))) := Go.via (fun _ q => XT.ladd X.here hx rfl hd rfl q) k
theorem lsub (X : Stand p l e R s m args below meth c T locs cells slots) (hx : p.tables.exec = Jvm.exec) {x y : Int64} (hd : decode c.code pc = .ok (.lsub, 1)) (k : Go p e below P (T.setTop (mkF m (pc + 1) L (.long (x - y) :: st)))) : Go p e below P (T.setTop (mkF m pc L (.long y :: .long x :: st))) := Go.via (fun _ q => XT.lsub X.here hx rfl hd rfl q) k
theorem lmul (X : Stand p l e R s m args below meth c T locs cells slots) (hx : p.tables.exec = Jvm.exec) {x y : Int64} (hd : decode c.code pc = .ok (.lmul, 1)) (k : Go p e below P (T.setTop (mkF m (pc + 1) L (.long (x * y) :: st)))) : Go p e below P (T.setTop (mkF m pc L (.long y :: .long x :: st))) := Go.via (fun _ q => XT.lmul X.here hx rfl hd rfl q) k
theorem land (X : Stand p l e R s m args below meth c T locs cells slots) (hx : p.tables.exec = Jvm.exec) {x y : Int64} (hd : decode c.code pc = .ok (.land, 1)) (k : Go p e below P (T.setTop (mkF m (pc + 1) L (.long (x &&& y) :: st)))) : Go p e below P (T.setTop (mkF m pc L (.long y :: .long x :: st))) := Go.via (fun _ q => XT.land X.here hx rfl hd rfl q) k
theorem lor (X : Stand p l e R s m args below meth c T locs cells slots) (hx : p.tables.exec = Jvm.exec) {x y : Int64} (hd : decode c.code pc = .ok (.lor, 1)) (k : Go p e below P (T.setTop (mkF m (pc + 1) L (.long (x ||| y) :: st)))) : Go p e below P (T.setTop (mkF m pc L (.long y :: .long x :: st))) := Go.via (fun _ q => XT.lor X.here hx rfl hd rfl q) k
theorem lxor (X : Stand p l e R s m args below meth c T locs cells slots) (hx : p.tables.exec = Jvm.exec) {x y : Int64} (hd : decode c.code pc = .ok (.lxor, 1)) (k : Go p e below P (T.setTop (mkF m (pc + 1) L (.long (x ^^^ y) :: st)))) : Go p e below P (T.setTop (mkF m pc L (.long y :: .long x :: st))) := Go.via (fun _ q => XT.lxor X.here hx rfl hd rfl q) k
theorem lshl (X : Stand p l e R s m args below meth c T locs cells slots) (hx : p.tables.exec = Jvm.exec) {x : Int64} {y : Int32} (hd : decode c.code pc = .ok (.lshl, 1)) (k : Go p e below P (T.setTop (mkF m (pc + 1) L (.long (x <<< (y.toInt64 &&& 63)) :: st)))) : Go p e below P (T.setTop (mkF m pc L (.int y :: .long x :: st))) := Go.via (fun _ q => XT.lshl X.here hx rfl hd rfl q) k
theorem lshr (X : Stand p l e R s m args below meth c T locs cells slots) (hx : p.tables.exec = Jvm.exec) {x : Int64} {y : Int32} (hd : decode c.code pc = .ok (.lshr, 1)) (k : Go p e below P (T.setTop (mkF m (pc + 1) L (.long (x >>> (y.toInt64 &&& 63)) :: st)))) : Go p e below P (T.setTop (mkF m pc L (.int y :: .long x :: st))) := Go.via (fun _ q => XT.lshr X.here hx rfl hd rfl q) k
theorem lushr (X : Stand p l e R s m args below meth c T locs cells slots) (hx : p.tables.exec = Jvm.exec) {x : Int64} {y : Int32} (hd : decode c.code pc = .ok (.lushr, 1)) (k : Go p e below P (T.setTop (mkF m (pc + 1) L (.long (XT.ushrL x y) :: st)))) : Go p e below P (T.setTop (mkF m pc L (.int y :: .long x :: st))) := Go.via (fun _ q => XT.lushr X.here hx rfl hd rfl q) k
theorem ldiv (X : Stand p l e R s m args below meth c T locs cells slots) (hx : p.tables.exec = Jvm.exec) {x y : Int64} (hd : decode c.code pc = .ok (.ldiv, 1)) (hy : y ≠ 0) (k : Go p e below P (T.setTop (mkF m (pc + 1) L (.long (x / y) :: st)))) : Go p e below P (T.setTop (mkF m pc L (.long y :: .long x :: st))) := Go.via (fun _ q => XT.ldiv X.here hx rfl hd rfl hy q) k
theorem lrem (X : Stand p l e R s m args below meth c T locs cells slots) (hx : p.tables.exec = Jvm.exec) {x y : Int64} (hd : decode c.code pc = .ok (.lrem, 1)) (hy : y ≠ 0) (k : Go p e below P (T.setTop (mkF m (pc + 1) L (.long (x % y) :: st)))) : Go p e below P (T.setTop (mkF m pc L (.long y :: .long x :: st))) := Go.via (fun _ q => XT.lrem X.here hx rfl hd rfl hy (by rw [lrem_mod]; exact q)) k
theorem ineg (X : Stand p l e R s m args below meth c T locs cells slots) (hx : p.tables.exec = Jvm.exec) {x : Int32} (hd : decode c.code pc = .ok (.ineg, 1)) (k : Go p e below P (T.setTop (mkF m (pc + 1) L (.int ((-x)) :: st)))) : Go p e below P (T.setTop (mkF m pc L (.int x :: st))) := Go.via (fun _ q => XS.ineg X.here hx rfl hd rfl q) k
theorem lneg (X : Stand p l e R s m args below meth c T locs cells slots) (hx : p.tables.exec = Jvm.exec) {x : Int64} (hd : decode c.code pc = .ok (.lneg, 1)) (k : Go p e below P (T.setTop (mkF m (pc + 1) L (.long ((-x)) :: st)))) : Go p e below P (T.setTop (mkF m pc L (.long x :: st))) := Go.via (fun _ q => XT.lneg X.here hx rfl hd rfl q) k
theorem i2l (X : Stand p l e R s m args below meth c T locs cells slots) (hx : p.tables.exec = Jvm.exec) {x : Int32} (hd : decode c.code pc = .ok (.i2l, 1)) (k : Go p e below P (T.setTop (mkF m (pc + 1) L (.long (x.toInt64) :: st)))) : Go p e below P (T.setTop (mkF m pc L (.int x :: st))) := Go.via (fun _ q => XT.i2l X.here hx rfl hd rfl q) k
theorem l2i (X : Stand p l e R s m args below meth c T locs cells slots) (hx : p.tables.exec = Jvm.exec) {x : Int64} (hd : decode c.code pc = .ok (.l2i, 1)) (k : Go p e below P (T.setTop (mkF m (pc + 1) L (.int (x.toInt32) :: st)))) : Go p e below P (T.setTop (mkF m pc L (.long x :: st))) := Go.via (fun _ q => XT.l2i X.here hx rfl hd rfl q) k
theorem i2b (X : Stand p l e R s m args below meth c T locs cells slots) (hx : p.tables.exec = Jvm.exec) {x : Int32} (hd : decode c.code pc = .ok (.i2b, 1)) (k : Go p e below P (T.setTop (mkF m (pc + 1) L (.int (x.toInt8.toInt32) :: st)))) : Go p e below P (T.setTop (mkF m pc L (.int x :: st))) := Go.via (fun _ q => XT.i2b X.here hx rfl hd rfl q) k
theorem i2c (X : Stand p l e R s m args below meth c T locs cells slots) (hx : p.tables.exec = Jvm.exec) {x : Int32} (hd : decode c.code pc = .ok (.i2c, 1)) (k : Go p e below P (T.setTop (mkF m (pc + 1) L (.int (x.toUInt32.toUInt16.toUInt32.toInt32) :: st)))) : Go p e below P (T.setTop (mkF m pc L (.int x :: st))) := Go.via (fun _ q => XT.i2c X.here hx rfl hd rfl q) k
theorem i2s (X : Stand p l e R s m args below meth c T locs cells slots) (hx : p.tables.exec = Jvm.exec) {x : Int32} (hd : decode c.code pc = .ok (.i2s, 1)) (k : Go p e below P (T.setTop (mkF m (pc + 1) L (.int (x.toInt16.toInt32) :: st)))) : Go p e below P (T.setTop (mkF m pc L (.int x :: st))) := Go.via (fun _ q => XT.i2s X.here hx rfl hd rfl q) k
theorem lcmp (X : Stand p l e R s m args below meth c T locs cells slots) (hx : p.tables.exec = Jvm.exec) {x y : Int64} (hd : decode c.code pc = .ok (.lcmp, 1)) (k : Go p e below P (T.setTop (mkF m (pc + 1) L (.int (XT.cmpL x y) :: st)))) : Go p e below P (T.setTop (mkF m pc L (.long y :: .long x :: st))) := Go.via (fun _ q => XT.lcmp X.here hx rfl hd rfl q) k
theorem iincV (X : Stand p l e R s m args below meth c T locs cells slots) (hx : p.tables.exec = Jvm.exec) {i : Nat} {d : Int} {x : Int32} (v w : Int32) (L' : Array Slot) (hd : decode c.code pc = .ok (.iinc i d, 3)) (hv : Int32.ofInt d = v) (hl : L[i]? = some (.val (.int x))) (hw : x + v = w) (hl' : storeLocals L i (.int w) = some L') (k : Go p e below P (T.setTop (mkF m (pc + 3) L' st))) : Go p e below P (T.setTop (mkF m pc L st)) := Go.via (fun _ q => XS.iinc X.here hx rfl hd hl (hv ▸ hw ▸ hl') q) k
theorem topI {x y : Int32} (q : x = y) (k : Go p e below P (T.setTop (mkF m pc L (.int y :: st)))) : Go p e below P (T.setTop (mkF m pc L (.int x :: st))) := q ▸ k
theorem topJ {x y : Int64} (q : x = y) (k : Go p e below P (T.setTop (mkF m pc L (.long y :: st)))) : Go p e below P (T.setTop (mkF m pc L (.long x :: st))) := q ▸ k
/-! returns -/
theorem leaveR (X : Stand p l e R s m args below meth c T locs cells slots) (hk : meth.locks = false) {Q : Option Value → Heap → List Loc → Prop} {k n : Nat} {g : JFrame} {v : Option Value} (hv : meth.sig.returnType = none → v = none) (eT : T.heap = h) (hQ : Q v h locs) (hc : cells ≤ k) (hn : slots ≤ n)
    (st : ∀ fs, (∀ (f : JFrame) (acts : List Action), f.method = m → f.locked = none → f.entered = [] → (doReturn e (T.setTop f) acts v).1 = T.setFrames fs) → Steps p.tables e below (T.setTop g) (T.setFrames fs)) : Go p e below (Fini s Q k n) (T.setTop g) := by
  obtain ⟨fs, hr, hrun, hended, hW, hsame⟩ := X.leave (v := v) hv hk
  exact ⟨_, _, st fs hr, hrun, hended, _, _, rfl, by show Q v T.heap locs; rw [eT]; exact hQ, ⟨_, rfl⟩, hW, hsame.mono hc hn⟩
theorem ireturn (X : Stand p l e R s m args below meth c T locs cells slots) (hx : p.tables.exec = Jvm.exec) (hk : meth.locks = false) {Q : Option Value → Heap → List Loc → Prop} {k n : Nat} {t : FieldType} {z : Int32} (hret : meth.sig.returnType = some t) (ht : t = .int ∨ t = .boolean ∨ t = .byte ∨ t = .char ∨ t = .short) (hnr : narrow t (.int z) = .int z) (hd : decode c.code pc = .ok (.ireturn, 1)) (eT : T.heap = h) (hQ : Q (some (.int z)) h locs) (hc : cells ≤ k) (hn : slots ≤ n) : Go p e below (Fini s Q k n) (T.setTop (mkF m pc L (.int z :: rest))) :=
  leaveR X hk (v := some (.int z)) (fun q => by rw [hret] at q; cases q) eT hQ hc hn fun fs hr => retOut X hx hret hnr (Or.inl ⟨rfl, ht, z, rfl⟩) hd hr
theorem lreturn (X : Stand p l e R s m args below meth c T locs cells slots) (hx : p.tables.exec = Jvm.exec) (hk : meth.locks = false) {Q : Option Value → Heap → List Loc → Prop} {k n : Nat} {z : Int64} (hret : meth.sig.returnType = some .long) (hd : decode c.code pc = .ok (.lreturn, 1)) (eT : T.heap = h) (hQ : Q (some (.long z)) h locs) (hc : cells ≤ k) (hn : slots ≤ n) : Go p e below (Fini s Q k n) (T.setTop (mkF m pc L (.long z :: rest))) :=
  leaveR X hk (v := some (.long z)) (fun q => by rw [hret] at q; cases q) eT hQ hc hn fun fs hr => retOut X hx hret rfl (Or.inr (Or.inl ⟨rfl, rfl, z, rfl⟩)) hd hr
theorem areturn (X : Stand p l e R s m args below meth c T locs cells slots) (hx : p.tables.exec = Jvm.exec) (hk : meth.locks = false) {Q : Option Value → Heap → List Loc → Prop} {k n : Nat} {t : FieldType} {z : Value} (hret : meth.sig.returnType = some t) (ht : t.isReference = true) (hz : z.isRef = true) (hnr : narrow t z = z) (hd : decode c.code pc = .ok (.areturn, 1)) (eT : T.heap = h) (hQ : Q (some z) h locs) (hc : cells ≤ k) (hn : slots ≤ n) : Go p e below (Fini s Q k n) (T.setTop (mkF m pc L (z :: rest))) :=
  leaveR X hk (v := some z) (fun q => by rw [hret] at q; cases q) eT hQ hc hn fun fs hr => retOut X hx hret hnr (Or.inr (Or.inr (Or.inr (Or.inr ⟨rfl, ht, hz⟩)))) hd hr
theorem vreturn (X : Stand p l e R s m args below meth c T locs cells slots) (hx : p.tables.exec = Jvm.exec) (hk : meth.locks = false) {Q : Option Value → Heap → List Loc → Prop} {k n : Nat} (hret : meth.sig.returnType = none) (hd : decode c.code pc = .ok (.return_, 1)) (eT : T.heap = h) (hQ : Q none h locs) (hc : cells ≤ k) (hn : slots ≤ n) : Go p e below (Fini s Q k n) (T.setTop (mkF m pc L [])) :=
  leaveR X hk (v := none) (fun _ => rfl) eT hQ hc hn fun fs hr => X.returnOut hx hret hd hr
/-! String constants: the start with the tables at hand -/
def FiniW (s : State) (Q : Option Value → Heap → List Loc → Prop) (k n : Nat) (o : Outcome) (U : State) : Prop :=
  ∃ v L, o = .returned v ∧ Q v U.heap L ∧ ReturnedEndW s o U L k n
def CtW (l : Launch) (y : MethodName) (bytes : ByteArray) (maxL : Nat) (ret : Option FieldType) (ws : List Jvm.Cond) (rm : Room) (Z : State) (as : Array Value) (h : Heap) (Q : Option Value → Heap → List Loc → Prop) : Prop :=
  MetFree l y (head1 (Jvm.Cond.code y bytes maxL ret :: ws) rm) (fun a U => a = as ∧ Z.Warmed39 U.vm ∧ U.heap = h) (fun _ _ _ _ _ => True) (fun _ U o U' => ∃ v L, o = .returned v ∧ Q v U'.heap L ∧ ReturnedEndW U o U' L rm.cells rm.slots)
theorem enterW {y : MethodName} {bytes : ByteArray} {maxL : Nat} {ret : Option FieldType} {ws : List Jvm.Cond} {rm : Room} {as : Array Value} {Q : Option Value → Heap → List Loc → Prop} (hy : plainFor y = true)
    (body : ∀ p e s m below meth c s₁, p.tables.exec = Jvm.exec → c.code = bytes → c.maxLocals = maxL → s.vm.findClass y.cls = some m.cls → meth.name = y.name → meth.sig.returnType = ret → meth.locks = false → Z.Warmed39 s.vm →
      Stand p l e rm s m as below meth c s₁ [] 0 0 → s₁.heap = h → Go p e below (FiniW s Q rm.cells rm.slots) (s₁.setTop (entryFrame m as maxL))) : CtW l y bytes maxL ret ws rm Z as h Q := by
  refine MetFree.of_bodySF hy hisR ?_
  intro p e s m args below meth c s₁ Bd hml hP hK
  obtain ⟨rfl, hZ, hh⟩ := hP
  exact body p e s m below meth c s₁ Bd.exec Bd.bytes hml (findClass_of_methodNamed Bd.named) (name_of_methodNamed Bd.named Bd.method).1 Bd.returns Bd.notSynchronized hZ (Stand.of_body Bd) (by rw [← hh, Bd.state]; rfl)
theorem since0 (s : State) : s.Since s.vm 0 := State.WarmedH.since (State.WarmedH.refl s) 0
theorem ldcStr {vm0 : Vm} (X : Stand p l e R (s.setVm vm0) m args below meth c T locs cells slots) (hx : p.tables.exec = Jvm.exec) (hZ : Z.Warmed39 vm0) {own text : String} {i : Nat} (hown : vm0.findClass own = some m.cls) (w : (Cond.stringLink own i text).before a0 Z = true) (wS : ∀ a ∈ Bundle.stringAtoms, a.before a0 Z = true)
    (eT : T.heap = h) {k0 : Nat} (hS : s.Since vm0 k0) (hk : k0 ≤ h.size) (hd : decode c.code pc = .ok (.ldc i, 2)) (n : Nat) (hn : 4 * text.toList.length ≤ n) (hbig : n ≤ 536870912) (hc : cells + 2 ≤ R.cells) (hl : slots + (n + 4) ≤ R.slots)
    (k : ∀ (a : Addr) (T' : State) (h' : Heap) (k1 : Nat), Stand p l e R (s.setVm T'.vm) m args below meth c T' locs (cells + 2) (slots + (n + 4)) → T'.heap = h' → Ext h h' → s.Since T'.vm k1 → k1 ≤ h'.size → Z.Warmed39 (s.setVm T'.vm).vm → (s.setVm T'.vm).vm.findClass own = some m.cls → Go p e below P (T'.setTop (mkF m (pc + 2) L (.ref a :: st)))) : Go p e below P (T.setTop (mkF m pc L st)) := by
  obtain ⟨a, T', h', k1, X', e', E, hS', hk', hZ', hown', q⟩ := ldcS X hx hZ hown w wS eT hS hk (g := mkF m pc L st) rfl hd hn hbig hc hl
  exact Go.via q (k a T' h' k1 X' e' E hS' hk' hZ' hown')
theorem ireturnW {vm0 : Vm} (X : Stand p l e R (s.setVm vm0) m args below meth c T locs cells slots) (hx : p.tables.exec = Jvm.exec) (hk : meth.locks = false) {Q : Option Value → Heap → List Loc → Prop} {k n : Nat} {t : FieldType} {z : Int32} (hret : meth.sig.returnType = some t) (ht : t = .int ∨ t = .boolean ∨ t = .byte ∨ t = .char ∨ t = .short) (hnr : narrow t (.int z) = .int z) (hd : decode c.code pc = .ok (.ireturn, 1)) (eT : T.heap = h) {k0 : Nat} (hS : s.Since vm0 k0) (hk0 : k0 ≤ h.size) (hQ : Q (some (.int z)) h locs) (hc : cells ≤ k) (hn : slots ≤ n) : Go p e below (FiniW s Q k n) (T.setTop (mkF m pc L (.int z :: rest))) := by
  obtain ⟨fs, hr, hrun, hended, hW⟩ := X.leaveW hS (by rw [eT]; exact hk0) (v := some (.int z)) (fun q => by rw [hret] at q; cases q) hk
  exact ⟨_, _, retOut X hx hret hnr (Or.inl ⟨rfl, ht, z, rfl⟩) hd hr, hrun, hended, _, _, rfl, by show Q (some (.int z)) T.heap locs; rw [eT]; exact hQ, hW.1, hW.2.1, hW.2.2.1, hW.2.2.2.mono hc hn⟩
/-! fields, objects -/
theorem getfield (X : Stand p l e R s m args below meth c T locs cells slots) (hx : p.tables.exec = Jvm.exec) (hZ : Z.Warmed39 s.vm) {own R0 O n d host : String} {i : Nat} (hown : s.vm.findClass own = some m.cls) (w : (Cond.fieldLink own i R0 n d).before a0 Z = true ∨ (Cond.fieldLinkNest own i R0 n d host).before a0 Z = true) (via : Via Z R0 O n d)
    (eT : T.heap = h) {a : Addr} {v : Value} (F : Fld Z h a O n d v) (hd : decode c.code pc = .ok (.getfield i, 3)) (k : ∀ T', Stand p l e R s m args below meth c T' locs cells slots → T'.heap = h → Go p e below P (T'.setTop (mkF m (pc + 3) L (v :: st)))) : Go p e below P (T.setTop (mkF m pc L (.ref a :: st))) := by
  obtain ⟨T', X', e', q⟩ := getF X hx hZ hown w via eT F (g := mkF m pc L (.ref a :: st)) rfl rfl hd
  exact Go.via q (k T' X' e')
theorem putfield (X : Stand p l e R s m args below meth c T locs cells slots) (hx : p.tables.exec = Jvm.exec) (hZ : Z.Warmed39 s.vm) {own R0 O n d host C : String} {i kk : Nat} {ty : FieldType} (hown : s.vm.findClass own = some m.cls) (w : (Cond.fieldLink own i R0 n d).before a0 Z = true ∨ (Cond.fieldLinkNest own i R0 n d host).before a0 Z = true) (via : Via Z R0 O n d)
    (eT : T.heap = h) {a : Addr} {v old : Value} (F : Fld Z h a O n d old) (E : Exa Z h a C) (Ly : (Cond.lays C O n d).before a0 Z = true ∨ ((Cond.laysFinal C O n d).before a0 Z = true ∧ own = O ∧ meth.name = "<init>")) (wi : (Cond.instantiable C kk).before a0 Z = true)
    (hty : parseFieldDescriptor d = some ty) (hn : narrow ty v = v) (hf : fits ty v = true) {n0 : Nat} (N : Fr n0 locs) (ga : n0 ≤ a) (hd : decode c.code pc = .ok (.putfield i, 3))
    (k : ∀ T' h', Stand p l e R s m args below meth c T' (locs ++ [⟨a, Jvm.RoadKit.slotOf Z O n d⟩]) cells slots → T'.heap = h' → Wr h h' a (Jvm.RoadKit.slotOf Z O n d) v → Fr n0 (locs ++ [⟨a, Jvm.RoadKit.slotOf Z O n d⟩]) → Fld Z h' a O n d v → Go p e below P (T'.setTop (mkF m (pc + 3) L st))) : Go p e below P (T.setTop (mkF m pc L (v :: .ref a :: st))) := by
  obtain ⟨T', h', X', e', W, q⟩ := putF X hx hZ hown w via eT F E Ly wi hty hn hf (g := mkF m pc L (v :: .ref a :: st)) rfl rfl hd
  exact Go.via q (k T' h' X' e' W (Fr.snoc X' N ga) (F.same W))
theorem putfieldN (X : Stand p l e R s m args below meth c T locs cells slots) (hx : p.tables.exec = Jvm.exec) (hZ : Z.Warmed39 s.vm) {own R0 O n d C : String} {i kk : Nat} {ty : FieldType} (hown : s.vm.findClass own = some m.cls) (w : (Cond.fieldLink own i R0 n d).before a0 Z = true) (via : Via Z R0 O n d)
    (eT : T.heap = h) {a : Addr} {v v' old : Value} (F : Fld Z h a O n d old) (E : Exa Z h a C) (Ly : (Cond.lays C O n d).before a0 Z = true ∨ ((Cond.laysFinal C O n d).before a0 Z = true ∧ own = O ∧ meth.name = "<init>")) (wi : (Cond.instantiable C kk).before a0 Z = true)
    (hty : parseFieldDescriptor d = some ty) (hn : narrow ty v = v') (hf : fits ty v' = true) {n0 : Nat} (N : Fr n0 locs) (ga : n0 ≤ a) (hd : decode c.code pc = .ok (.putfield i, 3))
    (k : ∀ T' h', Stand p l e R s m args below meth c T' (locs ++ [⟨a, Jvm.RoadKit.slotOf Z O n d⟩]) cells slots → T'.heap = h' → Wr h h' a (Jvm.RoadKit.slotOf Z O n d) v' → Fr n0 (locs ++ [⟨a, Jvm.RoadKit.slotOf Z O n d⟩]) → Fld Z h' a O n d v' → Go p e below P (T'.setTop (mkF m (pc + 3) L st))) : Go p e below P (T.setTop (mkF m pc L (v :: .ref a :: st))) := by
  obtain ⟨T', h', X', e', W, q⟩ := putFN X hx hZ hown w via eT F E Ly wi hty hn hf (g := mkF m pc L (v :: .ref a :: st)) rfl rfl hd
  exact Go.via q (k T' h' X' e' W (Fr.snoc X' N ga) (F.same W))
theorem newobj (X : Stand p l e R s m args below meth c T locs cells slots) (hx : p.tables.exec = Jvm.exec) (hZ : Z.Warmed39 s.vm) {own C : String} {i n : Nat} (hown : s.vm.findClass own = some m.cls) (w : (Cond.classLink own i C).before a0 Z = true) (wi : (Cond.instantiable C n).before a0 Z = true) (wz : (Cond.initialized C).before a0 Z = true) (eT : T.heap = h)
    (hd : decode c.code pc = .ok (.new i, 3)) (hc : cells + 1 ≤ R.cells) (hl : slots + n ≤ R.slots)
    (k : ∀ T' h' b, b = h.size → Stand p l e R s m args below meth c T' locs (cells + 1) (slots + n) → T'.heap = h' → Ext h h' → Exa Z h' b C → (∀ {O nm d : String} {ty : FieldType}, Laid Z a0 C O nm d → parseFieldDescriptor d = some ty → Fld Z h' b O nm d (defaultValue ty)) → Go p e below P (T'.setTop (mkF m (pc + 3) L (.ref b :: st)))) : Go p e below P (T.setTop (mkF m pc L st)) := by
  obtain ⟨T', h', X', e', E, A, D, -, q⟩ := newO X hx hZ hown w wi wz eT (g := mkF m pc L st) rfl hd hc hl
  exact Go.via q (k T' h' h.size rfl X' e' E A D)
theorem initObj (X : Stand p l e R s m args below meth c T locs cells slots) (hx : p.tables.exec = Jvm.exec) (hZ : Z.Warmed39 s.vm) {own : String} {i : Nat} (hown : s.vm.findClass own = some m.cls) (w1 : (Cond.methodLink own i Lib.objectInit).before a0 Z = true) (w2 : (Cond.instanceMethod Lib.objectInit).before a0 Z = true)
    (w3 : (Cond.code Lib.objectInit ⟨#[0xb1]⟩ 1 none).before a0 Z = true) (eT : T.heap = h) (hsize : L.size = c.maxLocals) {a : Addr} (hd : decode c.code pc = .ok (.invokespecial i, 3)) (hf : 1 ≤ R.frames) (W : Nat) (hW : (st.map fun v => v.category).sum ≤ W) (hl : W + 12 ≤ R.locals)
    (k : ∀ T', Stand p l e R s m args below meth c T' locs cells slots → T'.heap = h → Go p e below P (T'.setTop (mkF m (pc + 3) L st))) : Go p e below P (T.setTop (mkF m pc L (.ref a :: st))) := by
  obtain ⟨T', X', e', q⟩ := initO X hx hZ hown w1 w2 w3 eT (g := mkF m pc L (.ref a :: st)) rfl hsize rfl hd hf (W := W) (by show 2 * 0 + _ ≤ _; omega) hl
  exact Go.via q (k T' X' e')
/-! arrays -/
/-- the array at a holds just these values -/
def VArr (Z : State) (h : Heap) (a : Addr) (ty : FieldType) (vs : List Value) : Prop := ∃ c : Cell, Arr Z h a c ty ∧ c.slots = vs.toArray ∧ vs.length < 2 ^ 31
section VA
variable {h' : Heap} {a b : Addr} {ty : FieldType} {vs : List Value} {sl : Nat} {v : Value} {ws : List Addr}
theorem VArr.lt (F : VArr Z h a ty vs) : a < h.size := by obtain ⟨c, A, -⟩ := F; exact A.lt
theorem VArr.ext (F : VArr Z h a ty vs) (E : Ext h h') : VArr Z h' a ty vs := by obtain ⟨c, A, r⟩ := F; exact ⟨c, A.ext E, r⟩
theorem VArr.other (F : VArr Z h b ty vs) (W : Wr h h' a sl v) (q : b ≠ a) : VArr Z h' b ty vs := by obtain ⟨c, A, r⟩ := F; exact ⟨c, A.other W q, r⟩
theorem VArr.keep (F : VArr Z h a ty vs) (K : Keep h h' ws) (q : a ∉ ws) : VArr Z h' a ty vs := by obtain ⟨c, A, r⟩ := F; exact ⟨c, ⟨K.2.1 a c A.1 q, A.2⟩, r⟩
theorem VArr.same (F : VArr Z h a ty vs) (W : Wr h h' a sl v) : VArr Z h' a ty (vs.set sl v) := by
  obtain ⟨c, A, r1, r2⟩ := F
  refine ⟨c.setSlot sl v, A.same W, ?_, by simpa using r2⟩
  simp [Cell.setSlot, r1]
theorem neVE {C : String} {kk : Nat} (F : VArr Z h a ty vs) (E : Exa Z h b C) (wi : (Cond.instantiable C kk).before a0 Z = true) : a ≠ b := by
  obtain ⟨c, A, -⟩ := F
  exact (ne_arr E wi A).symm
end VA
theorem in_of {vs : List Value} {v : Value} {i : Nat} {j : Int32} {c : Cell} (hn : ¬ j < 0) (hi : j.toNatClampNeg = i) (hv : vs[i]? = some v) (r : c.slots = vs.toArray) : ¬ (j < 0 ∨ c.slots.size ≤ j.toNatClampNeg) ∧ c.slots[j.toNatClampNeg]? = some v := by
  have hlt : i < vs.length := by
    obtain ⟨q, -⟩ := List.getElem?_eq_some_iff.mp hv
    exact q
  refine ⟨fun q => ?_, ?_⟩
  · rcases q with q | q
    · exact hn q
    · rw [r, hi] at q; simp at q; omega
  · rw [hi, r]; simpa using hv
theorem in_of' {vs : List Value} {i : Nat} {j : Int32} {c : Cell} (hn : ¬ j < 0) (hi : j.toNatClampNeg = i) (hv : i < vs.length) (r : c.slots = vs.toArray) : ¬ (j < 0 ∨ c.slots.size ≤ j.toNatClampNeg) := by
  intro q
  rcases q with q | q
  · exact hn q
  · rw [r, hi] at q; simp at q; omega
theorem alen (X : Stand p l e R s m args below meth c T locs cells slots) (hx : p.tables.exec = Jvm.exec) (hZ : Z.Warmed39 s.vm) (eT : T.heap = h) {a : Addr} {ty : FieldType} {vs : List Value} (V : VArr Z h a ty vs) (n : Int32) (hn : vs.length.toInt32 = n) (hd : decode c.code pc = .ok (.arraylength, 1)) (k : Go p e below P (T.setTop (mkF m (pc + 1) L (.int n :: st)))) : Go p e below P (T.setTop (mkF m pc L (.ref a :: st))) := by
  obtain ⟨cl, A, r1, -⟩ := V
  have q : cl.slots.size.toInt32 = n := by rw [r1]; simpa using hn
  exact Go.via (fun t w => X.arraylength hx (cell := cl) (by rw [eT]; exact A.1) (State.isArrayOf_alike hZ.alike A.2.1) (g := mkF m pc L (.ref a :: st)) rfl rfl hd t (by rw [q]; exact w)) k
theorem iaload (X : Stand p l e R s m args below meth c T locs cells slots) (hx : p.tables.exec = Jvm.exec) (hZ : Z.Warmed39 s.vm) (eT : T.heap = h) {a : Addr} {vs : List Value} (V : VArr Z h a .int vs) {j : Int32} {v : Value} (i : Nat) (hn : ¬ j < 0) (hi : j.toNatClampNeg = i) (hv : vs[i]? = some v) (hd : decode c.code pc = .ok (.iaload, 1)) (k : Go p e below P (T.setTop (mkF m (pc + 1) L (v :: st)))) : Go p e below P (T.setTop (mkF m pc L (.int j :: .ref a :: st))) := by
  obtain ⟨cl, A, r1, -⟩ := V
  obtain ⟨q1, q2⟩ := in_of hn hi hv r1
  exact Go.via (fun t w => X.iaload hx (by rw [eT]; exact A.1) (State.isArrayOf_alike hZ.alike A.2.1) A.2.2 q1 q2 (g := mkF m pc L (.int j :: .ref a :: st)) rfl rfl hd t w) k
theorem laload (X : Stand p l e R s m args below meth c T locs cells slots) (hx : p.tables.exec = Jvm.exec) (hZ : Z.Warmed39 s.vm) (eT : T.heap = h) {a : Addr} {vs : List Value} (V : VArr Z h a .long vs) {j : Int32} {v : Value} (i : Nat) (hn : ¬ j < 0) (hi : j.toNatClampNeg = i) (hv : vs[i]? = some v) (hd : decode c.code pc = .ok (.laload, 1)) (k : Go p e below P (T.setTop (mkF m (pc + 1) L (v :: st)))) : Go p e below P (T.setTop (mkF m pc L (.int j :: .ref a :: st))) := by
  obtain ⟨cl, A, r1, -⟩ := V
  obtain ⟨q1, q2⟩ := in_of hn hi hv r1
  exact Go.via (fun t w => X.laload hx (by rw [eT]; exact A.1) (State.isArrayOf_alike hZ.alike A.2.1) A.2.2 q1 q2 (g := mkF m pc L (.int j :: .ref a :: st)) rfl rfl hd t w) k
theorem baload (X : Stand p l e R s m args below meth c T locs cells slots) (hx : p.tables.exec = Jvm.exec) (hZ : Z.Warmed39 s.vm) (eT : T.heap = h) {a : Addr} {vs : List Value} (V : VArr Z h a .byte vs) {j : Int32} {v : Value} (i : Nat) (hn : ¬ j < 0) (hi : j.toNatClampNeg = i) (hv : vs[i]? = some v) (hd : decode c.code pc = .ok (.baload, 1)) (k : Go p e below P (T.setTop (mkF m (pc + 1) L (v :: st)))) : Go p e below P (T.setTop (mkF m pc L (.int j :: .ref a :: st))) := by
  obtain ⟨cl, A, r1, -⟩ := V
  obtain ⟨q1, q2⟩ := in_of hn hi hv r1
  exact Go.via (fun t w => X.baloadBytes hx (by rw [eT]; exact A.1) (State.isArrayOf_alike hZ.alike A.2.1) A.2.2 q1 q2 (g := mkF m pc L (.int j :: .ref a :: st)) rfl rfl hd t w) k
theorem iastore (X : Stand p l e R s m args below meth c T locs cells slots) (hx : p.tables.exec = Jvm.exec) (hZ : Z.Warmed39 s.vm) (eT : T.heap = h) {a : Addr} {vs : List Value} (V : VArr Z h a .int vs) {j x : Int32} (i : Nat) (hn : ¬ j < 0) (hi : j.toNatClampNeg = i) (hv : i < vs.length) {n0 : Nat} (N : Fr n0 locs) (ga : n0 ≤ a) (hd : decode c.code pc = .ok (.iastore, 1))
    (k : ∀ T' h', Stand p l e R s m args below meth c T' (locs ++ [⟨a, i⟩]) cells slots → T'.heap = h' → Wr h h' a i (.int x) → Fr n0 (locs ++ [⟨a, i⟩]) → VArr Z h' a .int (vs.set i (.int x)) → Go p e below P (T'.setTop (mkF m (pc + 1) L st))) : Go p e below P (T.setTop (mkF m pc L (.int x :: .int j :: .ref a :: st))) := by
  have V0 := V
  obtain ⟨cl, A, r1, -⟩ := V
  obtain ⟨T', h', X', e', W, q⟩ := stI X hx hZ eT A (in_of' hn hi hv r1) (g := mkF m pc L (.int x :: .int j :: .ref a :: st)) rfl rfl hd
  rw [hi] at X' W
  exact Go.via q (k T' h' X' e' W (Fr.snoc X' N ga) (V0.same W))
theorem lastore (X : Stand p l e R s m args below meth c T locs cells slots) (hx : p.tables.exec = Jvm.exec) (hZ : Z.Warmed39 s.vm) (eT : T.heap = h) {a : Addr} {vs : List Value} (V : VArr Z h a .long vs) {j : Int32} {x : Int64} (i : Nat) (hn : ¬ j < 0) (hi : j.toNatClampNeg = i) (hv : i < vs.length) {n0 : Nat} (N : Fr n0 locs) (ga : n0 ≤ a) (hd : decode c.code pc = .ok (.lastore, 1))
    (k : ∀ T' h', Stand p l e R s m args below meth c T' (locs ++ [⟨a, i⟩]) cells slots → T'.heap = h' → Wr h h' a i (.long x) → Fr n0 (locs ++ [⟨a, i⟩]) → VArr Z h' a .long (vs.set i (.long x)) → Go p e below P (T'.setTop (mkF m (pc + 1) L st))) : Go p e below P (T.setTop (mkF m pc L (.long x :: .int j :: .ref a :: st))) := by
  have V0 := V
  obtain ⟨cl, A, r1, -⟩ := V
  obtain ⟨T', h', X', e', W, q⟩ := stJ X hx hZ eT A (in_of' hn hi hv r1) (g := mkF m pc L (.long x :: .int j :: .ref a :: st)) rfl rfl hd
  rw [hi] at X' W
  exact Go.via q (k T' h' X' e' W (Fr.snoc X' N ga) (V0.same W))
theorem bastore (X : Stand p l e R s m args below meth c T locs cells slots) (hx : p.tables.exec = Jvm.exec) (hZ : Z.Warmed39 s.vm) (eT : T.heap = h) {a : Addr} {vs : List Value} (V : VArr Z h a .byte vs) {j x : Int32} (i : Nat) (hn : ¬ j < 0) (hi : j.toNatClampNeg = i) (hv : i < vs.length) {n0 : Nat} (N : Fr n0 locs) (ga : n0 ≤ a) (hd : decode c.code pc = .ok (.bastore, 1))
    (k : ∀ T' h', Stand p l e R s m args below meth c T' (locs ++ [⟨a, i⟩]) cells slots → T'.heap = h' → Wr h h' a i (.int x.toInt8.toInt32) → Fr n0 (locs ++ [⟨a, i⟩]) → VArr Z h' a .byte (vs.set i (.int x.toInt8.toInt32)) → Go p e below P (T'.setTop (mkF m (pc + 1) L st))) : Go p e below P (T.setTop (mkF m pc L (.int x :: .int j :: .ref a :: st))) := by
  have V0 := V
  obtain ⟨cl, A, r1, -⟩ := V
  obtain ⟨T', h', X', e', W, q⟩ := stB X hx hZ eT A (in_of' hn hi hv r1) (g := mkF m pc L (.int x :: .int j :: .ref a :: st)) rfl rfl hd
  rw [hi] at X' W
  exact Go.via q (k T' h' X' e' W (Fr.snoc X' N ga) (V0.same W))
theorem newarr (X : Stand p l e R s m args below meth c T locs cells slots) (hx : p.tables.exec = Jvm.exec) (hZ : Z.Warmed39 s.vm) {aty : ArrayType} (w : (Cond.arrayClass (newarray.typeOf aty)).before a0 Z = true) (eT : T.heap = h) (hd : decode c.code pc = .ok (.newarray aty, 2)) {n : Int32} (hn : ¬ n < 0) (i cap : Nat) (hi : n.toNatClampNeg = i) (hcap : i ≤ cap) (hb : cap * 8 ≤ 536870912) (hc : cells + 1 ≤ R.cells) (hl : slots + cap ≤ R.slots)
    (k : ∀ T' h' b, b = h.size → Stand p l e R s m args below meth c T' locs (cells + 1) (slots + cap) → T'.heap = h' → Ext h h' → VArr Z h' b (newarray.typeOf aty) (List.replicate i (defaultValue (newarray.typeOf aty))) → Go p e below P (T'.setTop (mkF m (pc + 2) L (.ref b :: st)))) : Go p e below P (T.setTop (mkF m pc L (.int n :: st))) := by
  obtain ⟨T', h', cA, X', e', E, A, q⟩ := newP X hx hZ w eT (g := mkF m pc L (.int n :: st)) rfl hd rfl hn (cap := cap) (by rw [hi]; exact hcap) hb hc hl
  refine Go.via q (k T' h' h.size rfl X' e' E ⟨_, A, ?_, ?_⟩)
  · simp [newA, hi]
  · simp; omega
/-! calls -/
theorem callStatic (X : Stand p l e R s m args below meth c T locs cells slots) (hx : p.tables.exec = Jvm.exec) (hZ : Z.Warmed39 s.vm) {own : String} {i : Nat} {y : MethodName} {bytes : ByteArray} {maxL : Nat} {ret : Option FieldType} {rm : Room} {Q : Option Value → Heap → List Loc → Prop}
    (hown : s.vm.findClass own = some m.cls) (w1 : (Cond.methodLink own i y).before a0 Z = true) (w2 : (Cond.static y).before a0 Z = true) (w3 : (Cond.initialized y.cls).before a0 Z = true) (w4 : (Cond.code y bytes maxL ret).before a0 Z = true) (hy : y.cls ≠ "java/lang/invoke/MethodHandle" ∧ y.cls ≠ "java/lang/invoke/VarHandle")
    (W : Nat) (argsL rest : List Value) (hM : Ct l y bytes maxL ret [] rm Z argsL.toArray h Q) (hf : rm.frames + 1 ≤ R.frames) (hl : W + (maxL + 11) + rm.locals ≤ R.locals) (eT : T.heap = h) (hsize : L.size = c.maxLocals) {ps : List FieldType} {rt : Option FieldType} (pd : parseMethodDescriptor y.desc = some ⟨ps, rt⟩) (hlen : argsL.length = ps.length) (hst : st = argsL.reverse ++ rest) (hW : (rest.map fun v => v.category).sum ≤ W)
    (hd : decode c.code pc = .ok (.invokestatic i, 3)) (hc : cells + rm.cells ≤ R.cells) (hn : slots + rm.slots ≤ R.slots)
    (k : ∀ T' L' v, Stand p l e R s m args below meth c T' (locs ++ L') (cells + rm.cells) (slots + rm.slots) → Q v T'.heap L' → Go p e below P (T'.setTop (mkF m (pc + 3) L (v.toList ++ rest)))) : Go p e below P (T.setTop (mkF m pc L st)) := by
  obtain ⟨v, _, ⟨T', L', k', n'⟩, -, X', ⟨Lc, hQ, l1, y1, z1⟩, q⟩ := Jvm.LawKit.callS X hx (y := y) hown (mvT hZ w1) (mvT hZ w2) (mvT hZ w3) (mvT hZ w4) hy (backOf (W := W) hM hZ w4 w3 hf hl) (g := mkF m pc L st) rfl hsize (argsL := argsL) (rest := rest) (lenOf pd hlen) hst (by show 2 * 0 + _ ≤ _; omega) hd (fun _ _ => ⟨rfl, eT, hc, hn⟩)
  dsimp only [Pt.U, Pt.locs, Pt.cells, Pt.slots] at X' l1 y1 z1 q hQ
  subst l1 y1 z1
  exact Go.via q (k T' Lc v X' hQ)
theorem callSpecial (X : Stand p l e R s m args below meth c T locs cells slots) (hx : p.tables.exec = Jvm.exec) (hZ : Z.Warmed39 s.vm) {own : String} {i : Nat} {y : MethodName} {bytes : ByteArray} {maxL : Nat} {rm : Room} {Q : Option Value → Heap → List Loc → Prop} (hy1 : y.name = "<init>")
    (hown : s.vm.findClass own = some m.cls) (w1 : (Cond.methodLink own i y).before a0 Z = true) (w2 : (Cond.instanceMethod y).before a0 Z = true) (w3 : (Cond.initialized y.cls).before a0 Z = true) (w4 : (Cond.code y bytes maxL none).before a0 Z = true) (hy : y.cls ≠ "java/lang/invoke/MethodHandle" ∧ y.cls ≠ "java/lang/invoke/VarHandle")
    (W : Nat) (a : Addr) (argsL rest : List Value) (hM : Ct l y bytes maxL none [] rm Z (.ref a :: argsL).toArray h Q) (hf : rm.frames + 1 ≤ R.frames) (hl : W + (maxL + 11) + rm.locals ≤ R.locals) (eT : T.heap = h) (hsize : L.size = c.maxLocals) {ps : List FieldType} {rt : Option FieldType} (pd : parseMethodDescriptor y.desc = some ⟨ps, rt⟩) (hlen : argsL.length = ps.length) (hst : st = argsL.reverse ++ .ref a :: rest) (hW : (rest.map fun v => v.category).sum ≤ W)
    (hd : decode c.code pc = .ok (.invokespecial i, 3)) (hc : cells + rm.cells ≤ R.cells) (hn : slots + rm.slots ≤ R.slots)
    (k : ∀ T' L' v, Stand p l e R s m args below meth c T' (locs ++ L') (cells + rm.cells) (slots + rm.slots) → Q v T'.heap L' → Go p e below P (T'.setTop (mkF m (pc + 3) L (v.toList ++ rest)))) : Go p e below P (T.setTop (mkF m pc L st)) := by
  obtain ⟨v, _, ⟨T', L', k', n'⟩, -, X', ⟨Lc, hQ, l1, y1, z1⟩, q⟩ := X.specialBack hx (y := y) hy1 hown (mvT hZ w1) (mvT hZ w2) (mvT hZ w4) hy (backOf (W := W) hM hZ w4 w3 hf hl) (g := mkF m pc L st) rfl hsize (Steps.refl _) (a := a) (argsL := argsL) (rest := rest) (lenOf pd hlen) hst (by show 2 * 0 + _ ≤ _; omega) hd (fun _ _ => ⟨rfl, eT, hc, hn⟩)
  dsimp only [Pt.U, Pt.locs, Pt.cells, Pt.slots] at X' l1 y1 z1 q hQ
  subst l1 y1 z1
  exact Go.tr q (k T' Lc v X' hQ)
theorem callVirtual (X : Stand p l e R s m args below meth c T locs cells slots) (hx : p.tables.exec = Jvm.exec) (hZ : Z.Warmed39 s.vm) {own C : String} {i : Nat} {y z : MethodName} {bytes : ByteArray} {maxL : Nat} {ret : Option FieldType} {rm : Room} {Q : Option Value → Heap → List Loc → Prop}
    (hown : s.vm.findClass own = some m.cls) (w1 : (Cond.methodLink own i y).before a0 Z = true) (w2 : (Cond.declares y).before a0 Z = true) (w3 : (Cond.selects C y z).before a0 Z = true) (w5 : (Cond.instanceMethod z).before a0 Z = true) (w6 : (Cond.initialized z.cls).before a0 Z = true) (w4 : (Cond.code z bytes maxL ret).before a0 Z = true) (w7 : (Cond.selects y.cls y y).before a0 Z = true) (hy : y.cls ≠ "java/lang/invoke/MethodHandle" ∧ y.cls ≠ "java/lang/invoke/VarHandle")
    (W : Nat) (a : Addr) (argsL rest : List Value) (E : Exa Z h a C) (hM : Ct l z bytes maxL ret [] rm Z (.ref a :: argsL).toArray h Q) (hf : rm.frames + 1 ≤ R.frames) (hl : W + (maxL + 11) + rm.locals ≤ R.locals) (eT : T.heap = h) (hsize : L.size = c.maxLocals) {ps : List FieldType} {rt : Option FieldType} (pd : parseMethodDescriptor y.desc = some ⟨ps, rt⟩) (hlen : argsL.length = ps.length) (hst : st = argsL.reverse ++ .ref a :: rest) (hW : (rest.map fun v => v.category).sum ≤ W)
    (hd : decode c.code pc = .ok (.invokevirtual i, 3)) (hc : cells + rm.cells ≤ R.cells) (hn : slots + rm.slots ≤ R.slots)
    (k : ∀ T' L' v, Stand p l e R s m args below meth c T' (locs ++ L') (cells + rm.cells) (slots + rm.slots) → Q v T'.heap L' → Go p e below P (T'.setTop (mkF m (pc + 3) L (v.toList ++ rest)))) : Go p e below P (T.setTop (mkF m pc L st)) := by
  obtain ⟨cq, kq, qa, qb, qc⟩ := isOf hZ eT E
  obtain ⟨v, _, ⟨T', L', k', n'⟩, -, X', ⟨Lc, hQ, l1, y1, z1⟩, q⟩ := X.virtualBack hx (y := y) (z := z) hown (mvT hZ w1) (mvT hZ w2) (notFace_of_selects (args := #[]) (mvT hZ w7)) (mvT hZ w3) (mvT hZ w5) hy (backOf (W := W) hM hZ w4 w6 hf hl) qa qc (g := mkF m pc L st) rfl hsize (Steps.refl _) (argsL := argsL) (rest := rest) (lenOf pd hlen) hst (by show 2 * 0 + _ ≤ _; omega) hd (fun _ _ => ⟨rfl, eT, hc, hn⟩)
  dsimp only [Pt.U, Pt.locs, Pt.cells, Pt.slots] at X' l1 y1 z1 q hQ
  subst l1 y1 z1
  exact Go.tr q (k T' Lc v X' hQ)
theorem callPrivate (X : Stand p l e R s m args below meth c T locs cells slots) (hx : p.tables.exec = Jvm.exec) (hZ : Z.Warmed39 s.vm) {own C : String} {i kk : Nat} {y : MethodName} {bytes : ByteArray} {maxL : Nat} {ret : Option FieldType} {rm : Room} {Q : Option Value → Heap → List Loc → Prop}
    (hown : s.vm.findClass own = some m.cls) (w1 : (Cond.methodLink own i y).before a0 Z = true) (w2 : (Cond.instanceMethod y).before a0 Z = true) (w3 : (Cond.privateMethod y).before a0 Z = true) (w5 : (Cond.instantiable y.cls kk).before a0 Z = true) (w6 : (Cond.initialized y.cls).before a0 Z = true) (w4 : (Cond.code y bytes maxL ret).before a0 Z = true) (hy : y.cls ≠ "java/lang/invoke/MethodHandle" ∧ y.cls ≠ "java/lang/invoke/VarHandle")
    (W : Nat) (a : Addr) (argsL rest : List Value) (E : Exa Z h a C) (hM : Ct l y bytes maxL ret [] rm Z (.ref a :: argsL).toArray h Q) (hf : rm.frames + 1 ≤ R.frames) (hl : W + (maxL + 11) + rm.locals ≤ R.locals) (eT : T.heap = h) (hsize : L.size = c.maxLocals) {ps : List FieldType} {rt : Option FieldType} (pd : parseMethodDescriptor y.desc = some ⟨ps, rt⟩) (hlen : argsL.length = ps.length) (hst : st = argsL.reverse ++ .ref a :: rest) (hW : (rest.map fun v => v.category).sum ≤ W)
    (hd : decode c.code pc = .ok (.invokevirtual i, 3)) (hc : cells + rm.cells ≤ R.cells) (hn : slots + rm.slots ≤ R.slots)
    (k : ∀ T' L' v, Stand p l e R s m args below meth c T' (locs ++ L') (cells + rm.cells) (slots + rm.slots) → Q v T'.heap L' → Go p e below P (T'.setTop (mkF m (pc + 3) L (v.toList ++ rest)))) : Go p e below P (T.setTop (mkF m pc L st)) := by
  have hP : s.PrivateAt y := Cond.privateMethod_at (args := #[]) (mvP hZ w3)
  have hsel : (Cond.selects y.cls y y).before args s = true := by
    have q : (Cond.instantiable y.cls kk).before args s = true := mvT hZ w5
    obtain ⟨c2, k2, i1, i2, -, i4, -⟩ := Cond.instantiable_spec q
    rw [Bool.or_eq_false_iff] at i4
    exact selects_self_of_private i1 i2 i4.1 hP (mvT hZ w2) hy
  obtain ⟨ce, he1, he2⟩ := E.cell
  obtain ⟨v, _, ⟨T', L', k', n'⟩, -, X', ⟨Lc, hQ, l1, y1, z1⟩, q⟩ := X.privateBack hx (y := y) hown (mvT hZ w1) (mvT hZ w2) hsel hP (mvT hZ w4) hy (backOf (W := W) hM hZ w4 w6 hf hl) (g := mkF m pc L st) rfl hsize (Steps.refl _) (a := a) (cell := ce) (by rw [eT]; exact he1) he2 (argsL := argsL) (rest := rest) (lenOf pd hlen) hst (by show 2 * 0 + _ ≤ _; omega) hd (fun _ _ => ⟨rfl, eT, hc, hn⟩)
  dsimp only [Pt.U, Pt.locs, Pt.cells, Pt.slots] at X' l1 y1 z1 q hQ
  subst l1 y1 z1
  exact Go.tr q (k T' Lc v X' hQ)
theorem getstatic (X : Stand p l e R s m args below meth c T locs cells slots) (hx : p.tables.exec = Jvm.exec) (hZ : Z.Warmed39 s.vm) {own R0 O n d : String} {i : Nat} (hown : s.vm.findClass own = some m.cls) (w : (Cond.fieldLink own i R0 n d).before a0 Z = true) (via : Via Z R0 O n d)
    (eT : T.heap = h) {v : Value} (F : Sta Z h O n d v) (hd : decode c.code pc = .ok (.getstatic i, 3)) (k : ∀ T', Stand p l e R s m args below meth c T' locs cells slots → T'.heap = h → Go p e below P (T'.setTop (mkF m (pc + 3) L (v :: st)))) : Go p e below P (T.setTop (mkF m pc L st)) := by
  obtain ⟨T', X', e', q⟩ := getS X hx hZ (host := "") hown w via eT F (g := mkF m pc L st) rfl hd
  exact Go.via q (k T' X' e')
theorem ldcFloat (X : Stand p l e R s m args below meth c T locs cells slots) (hx : p.tables.exec = Jvm.exec) (hZ : Z.Warmed39 s.vm) {own : String} {i : Nat} {b : UInt32} (hown : s.vm.findClass own = some m.cls) (w : (Cond.constantFloat own i b).before a0 Z = true) (hd : decode c.code pc = .ok (.ldc i, 2)) (k : Go p e below P (T.setTop (mkF m (pc + 2) L (.float b :: st)))) : Go p e below P (T.setTop (mkF m pc L st)) := Go.via (fun t q => X.ldcFloatC hx hown (mvT hZ w) (g := mkF m pc L st) rfl hd t q) k
theorem staKeep {O n d C : String} {v : Value} {h' : Heap} {a : Addr} (F : Sta Z h O n d v) (K : Keep h h' [a]) (E : Exa Z h a C) : Sta Z h' O n d v := by
  obtain ⟨cf, i, k, f, st, cell, h1, h2, h3, h4, h5, h6, h7⟩ := F
  obtain ⟨c2, k2, e1, -, -, e4, -⟩ := E
  have ne : st ∉ [a] := fun q => by
    cases List.mem_singleton.mp q
    cases h5.symm.trans e1
    rw [h6] at e4; cases e4
  exact ⟨cf, i, k, f, st, cell, h1, h2, h3, h4, K.2.1 _ _ h5 ne, h6, h7⟩
end Walk
end Jvm.Own
namespace Jvm.Pilot.@@N@@
open Jvm Jvm.ClassFile Sem Op Lib Jvm.Free Jvm.Stand Jvm.LawKit Jvm.RoadKit Bundle Jvm.Pilot.@@N@@.Jvm.D
theorem Wd {a0 : Array Value} {Z : State} (hw : ∀ d ∈ tables_1, d.before a0 Z = true) (i : Nat) {d : Jvm.Cond} (h : tables_1[i]? = some d) : d.before a0 Z = true := hw _ (List.mem_of_getElem? h)

def own_ql (f : Nat → Int64) : List Value := (List.range 32).map (fun k => Value.long (f k))
def own_mid (f : Nat → Int64) (v : Int64) (i k : Nat) : Int64 := if k < i then f k + XT.ushrL v (Int32.ofNat k) else f k
def own_put (f : Nat → Int64) (v : Int64) (k : Nat) : Int64 := f k + XT.ushrL v (Int32.ofNat k)
theorem own_qget {f : Nat → Int64} {i : Nat} (h : i < 32) : (own_ql f)[i]? = some (.long (f i)) := by simp [own_ql, h]
theorem own_qlen (f : Nat → Int64) : (own_ql f).length = 32 := by simp [own_ql]
theorem own_qext {f g : Nat → Int64} (h : ∀ k, k < 32 → f k = g k) : own_ql f = own_ql g := by
  refine List.map_congr_left fun k hk => ?_
  rw [h k (List.mem_range.mp hk)]
theorem own_qmget {f : Nat → Int64} {v : Int64} {i : Nat} (h : i < 32) : (own_ql (own_mid f v i))[i]? = some (.long (f i)) := by
  rw [own_qget h]; simp [own_mid]
theorem own_qset {f : Nat → Int64} {v : Int64} {i : Nat} (h : i < 32) : (own_ql (own_mid f v i)).set i (.long (f i + XT.ushrL v (Int32.ofNat i))) = own_ql (own_mid f v (i + 1)) := by
  refine List.ext_getElem? fun k => ?_
  rw [List.getElem?_set]
  by_cases e : i = k
  · subst e; rw [if_pos rfl, if_pos (by rw [own_qlen]; exact h), own_qget h]; simp [own_mid]
  · rw [if_neg e]
    by_cases hk : k < 32
    · rw [own_qget hk, own_qget hk]
      simp only [own_mid]
      by_cases q : k < i
      · rw [if_pos q, if_pos (by omega)]
      · rw [if_neg q, if_neg (by omega)]
    · rw [List.getElem?_eq_none (by rw [own_qlen]; omega), List.getElem?_eq_none (by rw [own_qlen]; omega)]
theorem own_q0 (f : Nat → Int64) (v : Int64) : own_ql f = own_ql (own_mid f v 0) := own_qext fun k _ => by simp [own_mid]
theorem own_fin {f : Nat → Int64} {v : Int64} {i : Nat} (h : ∀ k, i ≤ k → k < 32 → XT.ushrL v (Int32.ofNat k) = 0) : own_ql (own_mid f v i) = own_ql (own_put f v) := own_qext fun k hk => by
  simp only [own_mid, own_put]
  by_cases q : k < i
  · rw [if_pos q]
  · rw [if_neg q, h k (by omega) hk]; simp
theorem own_of {i : Nat} (h : i < 100) : (Int32.ofNat i).toInt = i := Int32.toInt_ofNat_small (by omega)
theorem own_cl {i : Nat} (h : i < 100) : (Int32.ofNat i).toNatClampNeg = i := by
  have e : (Int32.ofNat i).toNatClampNeg = (Int32.ofNat i).toInt.toNat := rfl
  rw [e, own_of h]; simp
theorem own_nn {i : Nat} (h : i < 100) : ¬ Int32.ofNat i < 0 := fun q => by
  have := Int32.lt_iff_toInt_lt.mp q
  rw [own_of h] at this
  have h0 : (0 : Int32).toInt = 0 := by decide
  omega
theorem own_31 {i : Nat} (h : i < 100) : (31 : Int32) < Int32.ofNat i ↔ 31 < i := by
  rw [Int32.lt_iff_toInt_lt, own_of h]
  have h0 : (31 : Int32).toInt = 31 := by decide
  omega
theorem own_inc (i : Nat) : Int32.ofNat i + (1 : Int32) = Int32.ofNat (i + 1) := by rw [Int32.ofNat_add]; rfl
theorem own_and63 (q : Int32) : q.toInt64 &&& 63 = (q &&& 0x3f).toInt64 := by rw [Int32.toInt64_and]; rfl
theorem own_ushrL0 (x : Int64) (q : Int32) : XT.ushrL x q = (x.toUInt64 >>> (q &&& 0x3f).toInt64.toUInt64).toInt64 := by
  rw [← own_and63]; rfl
theorem own_nat (i : Nat) (h : i < 64) : (Int32.ofNat i).toBitVec.toNat % 64 = i := by
  have e : (Int32.ofNat i).toBitVec = BitVec.ofNat 32 i := rfl
  rw [e, BitVec.toNat_ofNat]; omega
theorem own_shr {v : Int64} {i : Nat} (hv : 0 ≤ v.toInt) (h : i < 64) : (XT.ushrL v (Int32.ofNat i)).toInt = v.toInt / (2 ^ i : Nat) := by
  by_cases h0 : i = 0
  · subst h0
    rw [own_ushrL0]
    have e : ((Int32.ofNat 0 &&& 0x3f).toInt64.toUInt64) = 0 := by decide
    rw [e]
    simp
  · rw [own_ushrL0, c_lushr v _ i (own_nat i h) (by omega), Int.emod_eq_of_lt hv (by have := rng64 v; omega)]
theorem own_zero {v : Int64} {i : Nat} (hv : 0 ≤ v.toInt) (h : XT.ushrL v (Int32.ofNat i) = 0) (hi : i < 32) : ∀ k, i ≤ k → k < 32 → XT.ushrL v (Int32.ofNat k) = 0 := fun k hk h32 => by
  have a := own_shr hv (by omega : i < 64)
  rw [h] at a
  have z : (0 : Int64).toInt = 0 := by decide
  apply Int64.toInt_inj.mp
  rw [own_shr hv (by omega : k < 64), z]
  have b : v.toInt / (2 ^ i : Nat) = 0 := by rw [← a, z]
  have c : v.toInt < (2 ^ i : Nat) := by
    rcases Int.lt_or_le v.toInt (2 ^ i : Nat) with q | q
    · exact q
    · have := Int.le_ediv_of_mul_le (a := 1) (b := v.toInt) (c := ((2 ^ i : Nat) : Int)) (by exact_mod_cast Nat.two_pow_pos i) (by simpa using q)
      omega
  have d : (2 ^ i : Nat) ≤ 2 ^ k := Nat.pow_le_pow_right (by omega) hk
  exact Int.ediv_eq_zero_of_lt hv (by have : ((2 ^ i : Nat) : Int) ≤ ((2 ^ k : Nat) : Int) := by exact_mod_cast d
                                      omega)
def own_arg (g : Nat → Int64) : Nat → Nat
  | 0 => 0
  | n + 1 => if g (n + 1) < g (own_arg g n) then n + 1 else own_arg g n
theorem own_arg_le (g : Nat → Int64) : ∀ n, own_arg g n ≤ n
  | 0 => Nat.le_refl _
  | n + 1 => by
    have := own_arg_le g n
    simp only [own_arg]; split <;> omega
theorem own_arg_min (g : Nat → Int64) : ∀ n k, k ≤ n → ¬ g k < g (own_arg g n)
  | 0, k, h => by
    obtain rfl : k = 0 := by omega
    simp [own_arg]
  | n + 1, k, h => by
    simp only [own_arg]
    split
    · rename_i q
      rcases Nat.lt_or_ge k (n + 1) with r | r
      · have := own_arg_min g n k (by omega)
        rw [Int64.lt_iff_toInt_lt] at *
        omega
      · obtain rfl : k = n + 1 := by omega
        rw [Int64.lt_iff_toInt_lt]; omega
    · rename_i q
      rcases Nat.lt_or_ge k (n + 1) with r | r
      · exact own_arg_min g n k (by omega)
      · obtain rfl : k = n + 1 := by omega
        exact q
theorem own_arg_first (g : Nat → Int64) : ∀ n k, k < own_arg g n → g (own_arg g n) < g k
  | 0, k, h => absurd h (by simp [own_arg])
  | n + 1, k, h => by
    simp only [own_arg] at h ⊢
    split at h
    · rename_i q
      rw [if_pos q]
      rcases Nat.lt_or_ge k (own_arg g n) with r | r
      · have := own_arg_first g n k r
        rw [Int64.lt_iff_toInt_lt] at *
        omega
      · have := own_arg_min g n k (by omega)
        rw [Int64.lt_iff_toInt_lt] at *
        omega
    · rename_i q
      rw [if_neg q]
      exact own_arg_first g n k h
def own_g (f : Nat → Int64) (cnt : Int64) (k : Nat) : Int64 := f k + (cnt * (Int32.ofNat k).toInt64)

theorem own_rem (x d : Int32) (D : Int) (h : d.toInt = D) (hD : 0 < D) : 0 ≤ ((x &&& (2147483647 : Int32)) % d).toInt ∧ ((x &&& (2147483647 : Int32)) % d).toInt < D := by
  have b := (c_and x (2147483647 : Int32) (by decide)).1
  have c := (c_iremV (x &&& (2147483647 : Int32)) d).1 b (by omega)
  omega
theorem own_n (x : Int32) {n : Int32} (e : (1 : Int32) + ((x &&& (2147483647 : Int32)) % (3 : Int32)) = n) : n = 1 ∨ n = 2 ∨ n = 3 := by
  have b := own_rem x 3 3 (by decide) (by decide)
  have d := c_iadd (1 : Int32) ((x &&& (2147483647 : Int32)) % (3 : Int32))
  have r := rng32 ((1 : Int32) + ((x &&& (2147483647 : Int32)) % (3 : Int32)))
  have h1 : (1 : Int32).toInt = 1 := by decide
  rw [e] at d r
  have q : n.toInt = 1 ∨ n.toInt = 2 ∨ n.toInt = 3 := by omega
  rcases q with q | q | q
  · exact Or.inl (Int32.toInt_inj.mp q)
  · exact Or.inr (Or.inl (Int32.toInt_inj.mp q))
  · exact Or.inr (Or.inr (Int32.toInt_inj.mp q))
theorem own_ex {x : Int32} {D : Nat} (hD : D < 100) (h : 0 ≤ x.toInt ∧ x.toInt < D) : ∃ i : Nat, i < D ∧ x = Int32.ofNat i := by
  refine ⟨x.toInt.toNat, by omega, Int32.toInt_inj.mp ?_⟩
  rw [own_of (by omega)]; omega

theorem own_shl (x : Int64) (q : Int32) (k : Nat) (hk : q.toBitVec.toNat % 64 = k) : ((x <<< (q.toInt64 &&& 63)).toInt - x.toInt * (2 ^ k : Nat)) % 18446744073709551616 = 0 := by
  rw [own_and63]; exact c_lshl x q k hk
theorem own_tn (x : Int64) (h : 0 ≤ x.toInt) : x.toBitVec.toNat = x.toInt.toNat := by
  have e : x.toInt = x.toBitVec.toInt := rfl
  rw [e] at h ⊢
  rw [BitVec.toInt_eq_toNat_cond] at h ⊢
  have := x.toBitVec.isLt
  split at h <;> split <;> omega
theorem own_p2 (a b : Nat) (h : a ≤ b) : (2 ^ a : Nat) ≤ 2 ^ b := Nat.pow_le_pow_right (by omega) h
theorem own_v (r : Int64) (hh : Nat) (h : hh < 63) : ((2 ^ hh : Nat) : Int) ≤ (((1 : Int64) <<< (Int32.toInt64 (Int32.ofNat hh) &&& 63)) ||| (r &&& (((1 : Int64) <<< (Int32.toInt64 (Int32.ofNat hh) &&& 63)) - (1 : Int64)))).toInt ∧ (((1 : Int64) <<< (Int32.toInt64 (Int32.ofNat hh) &&& 63)) ||| (r &&& (((1 : Int64) <<< (Int32.toInt64 (Int32.ofNat hh) &&& 63)) - (1 : Int64)))).toInt < ((2 ^ (hh + 1) : Nat) : Int) := by
  have s := own_shl (1 : Int64) (Int32.ofNat hh) hh (own_nat hh (by omega))
  generalize ((1 : Int64) <<< (Int32.toInt64 (Int32.ofNat hh) &&& 63)) = P at s ⊢
  have e1 : (1 : Int64).toInt = 1 := by decide
  have rP := rng64 P
  have b1 : (2 ^ hh : Nat) ≤ 2 ^ 62 := own_p2 hh 62 (by omega)
  have b2 : 0 < (2 ^ hh : Nat) := Nat.two_pow_pos hh
  have b3 : (2 ^ (hh + 1) : Nat) = 2 ^ hh * 2 := Nat.pow_succ 2 hh
  rw [b3]
  have b4 : (2 : Nat) ^ 62 = 4611686018427387904 := by decide
  rw [e1] at s
  have hP : P.toInt = ((2 ^ hh : Nat) : Int) := by omega
  have c := c_lsub P 1
  have rm := rng64 (P - 1)
  have hm : (P - 1).toInt = ((2 ^ hh : Nat) : Int) - 1 := by omega
  have hmn : (P - 1).toBitVec.toNat = 2 ^ hh - 1 := by rw [own_tn _ (by omega), hm]; omega
  have ha := c_maskL r (P - 1) hh (by omega) hmn
  have ho := c_orL P (r &&& (P - 1)) hh (by omega) ((2 ^ hh : Nat) : Int) rfl (by rw [hP]; exact Int.emod_self) (by rw [ha]; exact Int.emod_nonneg _ (by omega)) (by rw [ha]; exact Int.emod_lt_of_pos _ (by omega))
  have hl : 0 ≤ (r &&& (P - 1)).toInt := by rw [ha]; exact Int.emod_nonneg _ (by omega)
  have hu : (r &&& (P - 1)).toInt < ((2 ^ hh : Nat) : Int) := by rw [ha]; exact Int.emod_lt_of_pos _ (by omega)
  have rr := rng64 (P ||| (r &&& (P - 1)))
  constructor <;> omega
theorem own_v0 {v : Int64} {hh : Nat} (h : ((2 ^ hh : Nat) : Int) ≤ v.toInt ∧ v.toInt < ((2 ^ (hh + 1) : Nat) : Int)) : 0 ≤ v.toInt := by omega
theorem own_half (V : Int) (k : Nat) : V / ((2 ^ (k + 1) : Nat) : Int) = V / ((2 ^ k : Nat) : Int) / 2 := by
  rw [Nat.pow_succ, Int.natCast_mul, Int.ediv_ediv_of_nonneg (Int.natCast_nonneg _)]
  rfl
theorem own_down (V : Int) (j : Nat) (h1 : ∀ k, k < j → 3 ≤ V / ((2 ^ k : Nat) : Int)) : ∀ d k, k + (d + 1) = j → V / ((2 ^ j : Nat) : Int) + j < V / ((2 ^ k : Nat) : Int) + k
  | 0, k, h => by
    subst h
    have a := own_half V k
    have b := h1 k (by omega)
    have e : k + (0 + 1) = k + 1 := by omega
    rw [e, a]
    omega
  | d + 1, k, h => by
    have i := own_down V j h1 d (k + 1) (by omega)
    have a := own_half V k
    have b := h1 k (by omega)
    rw [a] at i
    omega
theorem own_upw (V : Int) (j : Nat) (hV : 0 ≤ V) (h2 : V / ((2 ^ j : Nat) : Int) ≤ 2) : ∀ d, V / ((2 ^ (j + d) : Nat) : Int) ≤ 2 ∧ 0 ≤ V / ((2 ^ (j + d) : Nat) : Int) ∧ V / ((2 ^ j : Nat) : Int) + j ≤ V / ((2 ^ (j + d) : Nat) : Int) + ((j + d : Nat) : Int)
  | 0 => ⟨h2, Int.ediv_nonneg hV (Int.natCast_nonneg _), Int.le_refl _⟩
  | d + 1 => by
    obtain ⟨a, b, c⟩ := own_upw V j hV h2 d
    have e := own_half V (j + d)
    have e' : j + (d + 1) = j + d + 1 := by omega
    rw [e', e]
    omega
theorem own_uniq {g : Nat → Int64} {j : Nat} (hj : j ≤ 31) (h1 : ∀ k, k < j → (g j).toInt < (g k).toInt) (h2 : ∀ k, j ≤ k → k ≤ 31 → (g j).toInt ≤ (g k).toInt) : own_arg g 31 = j := by
  have l := own_arg_le g 31
  rcases Nat.lt_trichotomy (own_arg g 31) j with q | q | q
  · have a := h1 _ q
    have b := own_arg_min g 31 j hj
    rw [Int64.lt_iff_toInt_lt] at b
    omega
  · exact q
  · have a := own_arg_first g 31 j q
    rw [Int64.lt_iff_toInt_lt] at a
    have b := h2 _ (by omega) l
    omega
theorem own_add {x y : Int64} (h : 0 ≤ x.toInt) (h' : 0 ≤ y.toInt) (q : x.toInt + y.toInt < 9223372036854775808) : (x + y).toInt = x.toInt + y.toInt := XT.add64 ⟨by omega, by omega⟩
theorem own_mul (n : Int64) (N : Int) (hn : n.toInt = N) (h : 0 ≤ N ∧ N ≤ 3) (k : Nat) (hk : k < 32) : (n * (Int32.ofNat k).toInt64).toInt = N * k := by
  have e2 : (Int32.ofNat k).toInt64.toInt = k := by rw [c_i2l, own_of (by omega)]
  rw [XT.mul64 (by rw [hn, e2]; have q : N = 0 ∨ N = 1 ∨ N = 2 ∨ N = 3 := by omega
                   rcases q with rfl | rfl | rfl | rfl <;> constructor <;> omega), hn, e2]
theorem own_dec (V : Int) (hV : 0 ≤ V) (k : Nat) : 0 ≤ V / ((2 ^ k : Nat) : Int) ∧ (1 ≤ k → V / ((2 ^ k : Nat) : Int) ≤ V / 2) ∧ V / ((2 ^ k : Nat) : Int) ≤ V := by
  have p : (0 : Int) < ((2 ^ k : Nat) : Int) := by exact_mod_cast Nat.two_pow_pos k
  refine ⟨Int.ediv_nonneg hV (by omega), fun h => ?_, Int.ediv_le_self _ hV⟩
  obtain ⟨i, rfl⟩ : ∃ i, k = i + 1 := ⟨k - 1, by omega⟩
  have q : ((2 ^ (i + 1) : Nat) : Int) = 2 * ((2 ^ i : Nat) : Int) := by rw [Nat.pow_succ]; omega
  rw [q, ← Int.ediv_ediv_of_nonneg (by omega)]
  exact Int.ediv_le_self _ (by omega)
theorem own_gv1 (v : Int64) (hv : 0 ≤ v.toInt ∧ v.toInt < 9223372036854775808) (k : Nat) (hk : k < 32) : (own_g (own_put (fun _ => 0) v) ((0 : Int64) + (1 : Int64)) k).toInt = 1 * (v.toInt / ((2 ^ k : Nat) : Int)) + 1 * k := by
  have s := own_shr hv.1 (by omega : k < 64)
  have d := own_dec v.toInt hv.1 k
  rw [← s] at d ⊢
  have z : (0 : Int64).toInt = 0 := by decide
  have m := own_mul ((0 : Int64) + (1 : Int64)) 1 (by decide) (by decide) k hk
  have a0 := own_add (x := (0 : Int64)) (y := XT.ushrL v (Int32.ofNat k)) (by omega) (by omega) (by omega)
  simp only [own_g, own_put]
  have kk : k = 0 ∨ 1 ≤ k := by omega
  rw [own_add (x := ((0 : Int64) + XT.ushrL v (Int32.ofNat k))) (by omega) (by omega) (by rcases kk with kk | kk <;> omega)]
  omega
theorem own_ans1 {v : Int64} (hv : 0 ≤ v.toInt ∧ v.toInt < 9223372036854775808) {j : Nat} (hj : j ≤ 31) (h1 : ∀ k, k < j → 3 ≤ v.toInt / ((2 ^ k : Nat) : Int)) (h2 : j = 31 ∨ v.toInt / ((2 ^ j : Nat) : Int) ≤ 2) : own_arg (own_g (own_put (fun _ => 0) v) ((0 : Int64) + (1 : Int64))) 31 = j := by
  refine own_uniq hj (fun k hk => ?_) (fun k hk h31 => ?_)
  · rw [own_gv1 v hv j (by omega), own_gv1 v hv k (by omega)]
    have := own_down v.toInt j h1 (j - k - 1) k (by omega)
    omega
  · rcases h2 with h2 | h2
    · obtain rfl : k = j := by omega
      exact Int.le_refl _
    · rw [own_gv1 v hv j (by omega), own_gv1 v hv k (by omega)]
      have := (own_upw v.toInt j hv.1 h2 (k - j)).2.2
      have e : j + (k - j) = k := by omega
      rw [e] at this
      omega
theorem own_zeros1 : (Int32.ofNat (own_arg (own_g (own_put (fun _ => 0) (0 : Int64)) ((0 : Int64) + (1 : Int64))) 31)) = (0 : Int32) := by
  rw [own_ans1 (v := 0) (by decide) (j := 0) (by decide) (fun k hk => absurd hk (by omega)) (Or.inr (by decide))]; rfl
theorem own_small1 {v : Int64} {hh : Nat} (hv : ((2 ^ hh : Nat) : Int) ≤ v.toInt ∧ v.toInt < ((2 ^ (hh + 1) : Nat) : Int)) (hD : hh < 63) (c : ¬ (2 : Int64) < v) : (Int32.ofNat (own_arg (own_g (own_put (fun _ => 0) v) ((0 : Int64) + (1 : Int64))) 31)) = (0 : Int32) := by
  have b1 := own_p2 (hh + 1) 63 (by omega)
  have b2 : (2 : Nat) ^ 63 = 9223372036854775808 := by decide
  have hr : 0 ≤ v.toInt ∧ v.toInt < 9223372036854775808 := by omega
  rw [Int64.lt_iff_toInt_lt] at c
  have e : (2 : Int64).toInt = 2 := by decide
  rw [own_ans1 hr (j := 0) (by decide) (fun k hk => absurd hk (by omega)) (Or.inr (by simp; omega))]; rfl
theorem own_gv2 (v : Int64) (hv : 0 ≤ v.toInt ∧ v.toInt < 2305843009213693952) (k : Nat) (hk : k < 32) : (own_g (own_put (own_put (fun _ => 0) v) v) (((0 : Int64) + (1 : Int64)) + (1 : Int64)) k).toInt = 2 * (v.toInt / ((2 ^ k : Nat) : Int)) + 2 * k := by
  have s := own_shr hv.1 (by omega : k < 64)
  have d := own_dec v.toInt hv.1 k
  rw [← s] at d ⊢
  have z : (0 : Int64).toInt = 0 := by decide
  have m := own_mul (((0 : Int64) + (1 : Int64)) + (1 : Int64)) 2 (by decide) (by decide) k hk
  have a0 := own_add (x := (0 : Int64)) (y := XT.ushrL v (Int32.ofNat k)) (by omega) (by omega) (by omega)
  have a1 := own_add (x := ((0 : Int64) + XT.ushrL v (Int32.ofNat k))) (y := XT.ushrL v (Int32.ofNat k)) (by omega) (by omega) (by omega)
  simp only [own_g, own_put]
  have kk : k = 0 ∨ 1 ≤ k := by omega
  rw [own_add (x := (((0 : Int64) + XT.ushrL v (Int32.ofNat k)) + XT.ushrL v (Int32.ofNat k))) (by omega) (by omega) (by rcases kk with kk | kk <;> omega)]
  omega
theorem own_ans2 {v : Int64} (hv : 0 ≤ v.toInt ∧ v.toInt < 2305843009213693952) {j : Nat} (hj : j ≤ 31) (h1 : ∀ k, k < j → 3 ≤ v.toInt / ((2 ^ k : Nat) : Int)) (h2 : j = 31 ∨ v.toInt / ((2 ^ j : Nat) : Int) ≤ 2) : own_arg (own_g (own_put (own_put (fun _ => 0) v) v) (((0 : Int64) + (1 : Int64)) + (1 : Int64))) 31 = j := by
  refine own_uniq hj (fun k hk => ?_) (fun k hk h31 => ?_)
  · rw [own_gv2 v hv j (by omega), own_gv2 v hv k (by omega)]
    have := own_down v.toInt j h1 (j - k - 1) k (by omega)
    omega
  · rcases h2 with h2 | h2
    · obtain rfl : k = j := by omega
      exact Int.le_refl _
    · rw [own_gv2 v hv j (by omega), own_gv2 v hv k (by omega)]
      have := (own_upw v.toInt j hv.1 h2 (k - j)).2.2
      have e : j + (k - j) = k := by omega
      rw [e] at this
      omega
theorem own_zeros2 : (Int32.ofNat (own_arg (own_g (own_put (own_put (fun _ => 0) (0 : Int64)) (0 : Int64)) (((0 : Int64) + (1 : Int64)) + (1 : Int64))) 31)) = (0 : Int32) := by
  rw [own_ans2 (v := 0) (by decide) (j := 0) (by decide) (fun k hk => absurd hk (by omega)) (Or.inr (by decide))]; rfl
theorem own_small2 {v : Int64} {hh : Nat} (hv : ((2 ^ hh : Nat) : Int) ≤ v.toInt ∧ v.toInt < ((2 ^ (hh + 1) : Nat) : Int)) (hD : hh < 61) (c : ¬ (2 : Int64) < v) : (Int32.ofNat (own_arg (own_g (own_put (own_put (fun _ => 0) v) v) (((0 : Int64) + (1 : Int64)) + (1 : Int64))) 31)) = (0 : Int32) := by
  have b1 := own_p2 (hh + 1) 61 (by omega)
  have b2 : (2 : Nat) ^ 61 = 2305843009213693952 := by decide
  have hr : 0 ≤ v.toInt ∧ v.toInt < 2305843009213693952 := by omega
  rw [Int64.lt_iff_toInt_lt] at c
  have e : (2 : Int64).toInt = 2 := by decide
  rw [own_ans2 hr (j := 0) (by decide) (fun k hk => absurd hk (by omega)) (Or.inr (by simp; omega))]; rfl
theorem own_gv3 (v : Int64) (hv : 0 ≤ v.toInt ∧ v.toInt < 2305843009213693952) (k : Nat) (hk : k < 32) : (own_g (own_put (own_put (own_put (fun _ => 0) v) v) v) ((((0 : Int64) + (1 : Int64)) + (1 : Int64)) + (1 : Int64)) k).toInt = 3 * (v.toInt / ((2 ^ k : Nat) : Int)) + 3 * k := by
  have s := own_shr hv.1 (by omega : k < 64)
  have d := own_dec v.toInt hv.1 k
  rw [← s] at d ⊢
  have z : (0 : Int64).toInt = 0 := by decide
  have m := own_mul ((((0 : Int64) + (1 : Int64)) + (1 : Int64)) + (1 : Int64)) 3 (by decide) (by decide) k hk
  have a0 := own_add (x := (0 : Int64)) (y := XT.ushrL v (Int32.ofNat k)) (by omega) (by omega) (by omega)
  have a1 := own_add (x := ((0 : Int64) + XT.ushrL v (Int32.ofNat k))) (y := XT.ushrL v (Int32.ofNat k)) (by omega) (by omega) (by omega)
  have a2 := own_add (x := (((0 : Int64) + XT.ushrL v (Int32.ofNat k)) + XT.ushrL v (Int32.ofNat k))) (y := XT.ushrL v (Int32.ofNat k)) (by omega) (by omega) (by omega)
  simp only [own_g, own_put]
  have kk : k = 0 ∨ 1 ≤ k := by omega
  rw [own_add (x := ((((0 : Int64) + XT.ushrL v (Int32.ofNat k)) + XT.ushrL v (Int32.ofNat k)) + XT.ushrL v (Int32.ofNat k))) (by omega) (by omega) (by rcases kk with kk | kk <;> omega)]
  omega
theorem own_ans3 {v : Int64} (hv : 0 ≤ v.toInt ∧ v.toInt < 2305843009213693952) {j : Nat} (hj : j ≤ 31) (h1 : ∀ k, k < j → 3 ≤ v.toInt / ((2 ^ k : Nat) : Int)) (h2 : j = 31 ∨ v.toInt / ((2 ^ j : Nat) : Int) ≤ 2) : own_arg (own_g (own_put (own_put (own_put (fun _ => 0) v) v) v) ((((0 : Int64) + (1 : Int64)) + (1 : Int64)) + (1 : Int64))) 31 = j := by
  refine own_uniq hj (fun k hk => ?_) (fun k hk h31 => ?_)
  · rw [own_gv3 v hv j (by omega), own_gv3 v hv k (by omega)]
    have := own_down v.toInt j h1 (j - k - 1) k (by omega)
    omega
  · rcases h2 with h2 | h2
    · obtain rfl : k = j := by omega
      exact Int.le_refl _
    · rw [own_gv3 v hv j (by omega), own_gv3 v hv k (by omega)]
      have := (own_upw v.toInt j hv.1 h2 (k - j)).2.2
      have e : j + (k - j) = k := by omega
      rw [e] at this
      omega
theorem own_zeros3 : (Int32.ofNat (own_arg (own_g (own_put (own_put (own_put (fun _ => 0) (0 : Int64)) (0 : Int64)) (0 : Int64)) ((((0 : Int64) + (1 : Int64)) + (1 : Int64)) + (1 : Int64))) 31)) = (0 : Int32) := by
  rw [own_ans3 (v := 0) (by decide) (j := 0) (by decide) (fun k hk => absurd hk (by omega)) (Or.inr (by decide))]; rfl
theorem own_small3 {v : Int64} {hh : Nat} (hv : ((2 ^ hh : Nat) : Int) ≤ v.toInt ∧ v.toInt < ((2 ^ (hh + 1) : Nat) : Int)) (hD : hh < 61) (c : ¬ (2 : Int64) < v) : (Int32.ofNat (own_arg (own_g (own_put (own_put (own_put (fun _ => 0) v) v) v) ((((0 : Int64) + (1 : Int64)) + (1 : Int64)) + (1 : Int64))) 31)) = (0 : Int32) := by
  have b1 := own_p2 (hh + 1) 61 (by omega)
  have b2 : (2 : Nat) ^ 61 = 2305843009213693952 := by decide
  have hr : 0 ≤ v.toInt ∧ v.toInt < 2305843009213693952 := by omega
  rw [Int64.lt_iff_toInt_lt] at c
  have e : (2 : Int64).toInt = 2 := by decide
  rw [own_ans3 hr (j := 0) (by decide) (fun k hk => absurd hk (by omega)) (Or.inr (by simp; omega))]; rfl
theorem own_top {V : Int} {hh : Nat} (hv : ((2 ^ hh : Nat) : Int) ≤ V ∧ V < ((2 ^ (hh + 1) : Nat) : Int)) (k d : Nat) (h : k + d = hh) : ((2 ^ d : Nat) : Int) ≤ V / ((2 ^ k : Nat) : Int) ∧ V / ((2 ^ k : Nat) : Int) < ((2 ^ (d + 1) : Nat) : Int) := by
  have p : (0 : Int) < ((2 ^ k : Nat) : Int) := by exact_mod_cast Nat.two_pow_pos k
  subst h
  have e1 : ((2 ^ (k + d) : Nat) : Int) = ((2 ^ d : Nat) : Int) * ((2 ^ k : Nat) : Int) := by rw [Nat.pow_add]; push_cast; ac_rfl
  have e2 : ((2 ^ (k + d + 1) : Nat) : Int) = ((2 ^ (d + 1) : Nat) : Int) * ((2 ^ k : Nat) : Int) := by rw [Nat.add_assoc, Nat.pow_add]; push_cast; ac_rfl
  rw [e1, e2] at hv
  exact ⟨(Int.le_ediv_iff_mul_le p).mpr hv.1, (Int.ediv_lt_iff_lt_mul p).mpr hv.2⟩
theorem own_K {V : Int} {hh : Nat} (hV : 3 ≤ V) (hv : ((2 ^ hh : Nat) : Int) ≤ V ∧ V < ((2 ^ (hh + 1) : Nat) : Int)) : 1 ≤ hh ∧ (V / ((2 ^ (hh - 1) : Nat) : Int) = 2 ∨ V / ((2 ^ (hh - 1) : Nat) : Int) = 3) ∧ V / ((2 ^ hh : Nat) : Int) = 1 ∧ ∀ k, k + 1 < hh → 4 ≤ V / ((2 ^ k : Nat) : Int) := by
  have h1 : 1 ≤ hh := by
    rcases Nat.eq_zero_or_pos hh with q | q
    · subst q; simp at hv; omega
    · exact q
  have a := own_top hv (hh - 1) 1 (by omega)
  have b := own_top hv hh 0 (by omega)
  have p1 : ((2 ^ 1 : Nat) : Int) = 2 := rfl
  have p2 : ((2 ^ (1 + 1) : Nat) : Int) = 4 := rfl
  have p3 : ((2 ^ 0 : Nat) : Int) = 1 := rfl
  have p4 : ((2 ^ (0 + 1) : Nat) : Int) = 2 := rfl
  rw [p1, p2] at a
  rw [p3, p4] at b
  refine ⟨h1, by omega, by omega, fun k hk => ?_⟩
  have c := (own_top hv k (hh - k) (by omega)).1
  have d := own_p2 2 (hh - k) (by omega)
  have e : (2 : Nat) ^ 2 = 4 := by decide
  omega
theorem own_bit {v : Int64} {hh : Nat} (hv : 0 ≤ v.toInt) (h1 : 1 ≤ hh) (hh64 : hh < 64) : ((XT.ushrL v ((Int32.ofNat hh) - (1 : Int32))) &&& (1 : Int64)) = (0 : Int64) ↔ v.toInt / ((2 ^ (hh - 1) : Nat) : Int) % 2 = 0 := by
  have e : (Int32.ofNat hh) - (1 : Int32) = Int32.ofNat (hh - 1) := by
    apply Int32.toInt_inj.mp
    rw [own_of (by omega)]
    have c := c_isub (Int32.ofNat hh) 1
    have r := rng32 (Int32.ofNat hh - 1)
    rw [own_of (by omega)] at c
    have z : (1 : Int32).toInt = 1 := by decide
    omega
  rw [e, ← Int64.toInt_inj, c_maskL _ (1 : Int64) 1 (by decide) (by decide), own_shr hv (by omega)]
  simp
theorem own_min31 (K : Nat) (hK : K < 100) : (if (31 : Int32) < Int32.ofNat K then (31 : Int32) else Int32.ofNat K) = Int32.ofNat (min K 31) := by
  by_cases q : 31 < K
  · rw [if_pos ((own_31 hK).mpr q), Nat.min_eq_right (by omega)]; rfl
  · rw [if_neg (mt (own_31 hK).mp q), Nat.min_eq_left (by omega)]
theorem own_sub1 (hh : Nat) (h1 : 1 ≤ hh) (h : hh < 100) : (Int32.ofNat hh) - (1 : Int32) = Int32.ofNat (hh - 1) := by
  apply Int32.toInt_inj.mp
  rw [own_of (by omega)]
  have c := c_isub (Int32.ofNat hh) 1
  have r := rng32 (Int32.ofNat hh - 1)
  rw [own_of h] at c
  have z : (1 : Int32).toInt = 1 := by decide
  omega
theorem own_bigA1 {v : Int64} {hh : Nat} (hv : ((2 ^ hh : Nat) : Int) ≤ v.toInt ∧ v.toInt < ((2 ^ (hh + 1) : Nat) : Int)) (hD : hh < 63) (c : (2 : Int64) < v) (b : ((XT.ushrL v ((Int32.ofNat hh) - (1 : Int32))) &&& (1 : Int64)) = (0 : Int64)) : (Int32.ofNat (own_arg (own_g (own_put (fun _ => 0) v) ((0 : Int64) + (1 : Int64))) 31)) = (if (31 : Int32) < ((Int32.ofNat hh) - (1 : Int32)) then (31 : Int32) else ((Int32.ofNat hh) - (1 : Int32))) := by
  have b1 := own_p2 (hh + 1) 63 (by omega)
  have b2 : (2 : Nat) ^ 63 = 9223372036854775808 := by decide
  have hr : 0 ≤ v.toInt ∧ v.toInt < 9223372036854775808 := by omega
  rw [Int64.lt_iff_toInt_lt] at c
  have e : (2 : Int64).toInt = 2 := by decide
  obtain ⟨k1, k2, k3, k4⟩ := own_K (by omega) hv
  rw [own_bit hr.1 k1 (by omega)] at b
  rw [own_sub1 hh k1 (by omega)]
  rw [own_min31 _ (by omega), own_ans1 hr (j := min (hh - 1) 31) (by omega) ?_ ?_]
  · intro k hk
    rcases Nat.lt_or_ge (k + 1) hh with q | q
    · have := k4 k q
      omega
    · obtain rfl : k = hh - 1 := by omega
      omega
  · rcases Nat.lt_or_ge 31 (hh - 1) with q | q
    · left; omega
    · right
      rw [Nat.min_eq_left q]
      omega
theorem own_bigB1 {v : Int64} {hh : Nat} (hv : ((2 ^ hh : Nat) : Int) ≤ v.toInt ∧ v.toInt < ((2 ^ (hh + 1) : Nat) : Int)) (hD : hh < 63) (c : (2 : Int64) < v) (b : ¬ ((XT.ushrL v ((Int32.ofNat hh) - (1 : Int32))) &&& (1 : Int64)) = (0 : Int64)) : (Int32.ofNat (own_arg (own_g (own_put (fun _ => 0) v) ((0 : Int64) + (1 : Int64))) 31)) = (if (31 : Int32) < (Int32.ofNat hh) then (31 : Int32) else (Int32.ofNat hh)) := by
  have b1 := own_p2 (hh + 1) 63 (by omega)
  have b2 : (2 : Nat) ^ 63 = 9223372036854775808 := by decide
  have hr : 0 ≤ v.toInt ∧ v.toInt < 9223372036854775808 := by omega
  rw [Int64.lt_iff_toInt_lt] at c
  have e : (2 : Int64).toInt = 2 := by decide
  obtain ⟨k1, k2, k3, k4⟩ := own_K (by omega) hv
  rw [own_bit hr.1 k1 (by omega)] at b
  rw [own_min31 _ (by omega), own_ans1 hr (j := min (hh) 31) (by omega) ?_ ?_]
  · intro k hk
    rcases Nat.lt_or_ge (k + 1) hh with q | q
    · have := k4 k q
      omega
    · obtain rfl : k = hh - 1 := by omega
      omega
  · rcases Nat.lt_or_ge 31 (hh) with q | q
    · left; omega
    · right
      rw [Nat.min_eq_left q]
      omega
theorem own_bigA2 {v : Int64} {hh : Nat} (hv : ((2 ^ hh : Nat) : Int) ≤ v.toInt ∧ v.toInt < ((2 ^ (hh + 1) : Nat) : Int)) (hD : hh < 61) (c : (2 : Int64) < v) (b : ((XT.ushrL v ((Int32.ofNat hh) - (1 : Int32))) &&& (1 : Int64)) = (0 : Int64)) : (Int32.ofNat (own_arg (own_g (own_put (own_put (fun _ => 0) v) v) (((0 : Int64) + (1 : Int64)) + (1 : Int64))) 31)) = (if (31 : Int32) < ((Int32.ofNat hh) - (1 : Int32)) then (31 : Int32) else ((Int32.ofNat hh) - (1 : Int32))) := by
  have b1 := own_p2 (hh + 1) 61 (by omega)
  have b2 : (2 : Nat) ^ 61 = 2305843009213693952 := by decide
  have hr : 0 ≤ v.toInt ∧ v.toInt < 2305843009213693952 := by omega
  rw [Int64.lt_iff_toInt_lt] at c
  have e : (2 : Int64).toInt = 2 := by decide
  obtain ⟨k1, k2, k3, k4⟩ := own_K (by omega) hv
  rw [own_bit hr.1 k1 (by omega)] at b
  rw [own_sub1 hh k1 (by omega)]
  rw [own_min31 _ (by omega), own_ans2 hr (j := min (hh - 1) 31) (by omega) ?_ ?_]
  · intro k hk
    rcases Nat.lt_or_ge (k + 1) hh with q | q
    · have := k4 k q
      omega
    · obtain rfl : k = hh - 1 := by omega
      omega
  · rcases Nat.lt_or_ge 31 (hh - 1) with q | q
    · left; omega
    · right
      rw [Nat.min_eq_left q]
      omega
theorem own_bigB2 {v : Int64} {hh : Nat} (hv : ((2 ^ hh : Nat) : Int) ≤ v.toInt ∧ v.toInt < ((2 ^ (hh + 1) : Nat) : Int)) (hD : hh < 61) (c : (2 : Int64) < v) (b : ¬ ((XT.ushrL v ((Int32.ofNat hh) - (1 : Int32))) &&& (1 : Int64)) = (0 : Int64)) : (Int32.ofNat (own_arg (own_g (own_put (own_put (fun _ => 0) v) v) (((0 : Int64) + (1 : Int64)) + (1 : Int64))) 31)) = (if (31 : Int32) < (Int32.ofNat hh) then (31 : Int32) else (Int32.ofNat hh)) := by
  have b1 := own_p2 (hh + 1) 61 (by omega)
  have b2 : (2 : Nat) ^ 61 = 2305843009213693952 := by decide
  have hr : 0 ≤ v.toInt ∧ v.toInt < 2305843009213693952 := by omega
  rw [Int64.lt_iff_toInt_lt] at c
  have e : (2 : Int64).toInt = 2 := by decide
  obtain ⟨k1, k2, k3, k4⟩ := own_K (by omega) hv
  rw [own_bit hr.1 k1 (by omega)] at b
  rw [own_min31 _ (by omega), own_ans2 hr (j := min (hh) 31) (by omega) ?_ ?_]
  · intro k hk
    rcases Nat.lt_or_ge (k + 1) hh with q | q
    · have := k4 k q
      omega
    · obtain rfl : k = hh - 1 := by omega
      omega
  · rcases Nat.lt_or_ge 31 (hh) with q | q
    · left; omega
    · right
      rw [Nat.min_eq_left q]
      omega
theorem own_bigA3 {v : Int64} {hh : Nat} (hv : ((2 ^ hh : Nat) : Int) ≤ v.toInt ∧ v.toInt < ((2 ^ (hh + 1) : Nat) : Int)) (hD : hh < 61) (c : (2 : Int64) < v) (b : ((XT.ushrL v ((Int32.ofNat hh) - (1 : Int32))) &&& (1 : Int64)) = (0 : Int64)) : (Int32.ofNat (own_arg (own_g (own_put (own_put (own_put (fun _ => 0) v) v) v) ((((0 : Int64) + (1 : Int64)) + (1 : Int64)) + (1 : Int64))) 31)) = (if (31 : Int32) < ((Int32.ofNat hh) - (1 : Int32)) then (31 : Int32) else ((Int32.ofNat hh) - (1 : Int32))) := by
  have b1 := own_p2 (hh + 1) 61 (by omega)
  have b2 : (2 : Nat) ^ 61 = 2305843009213693952 := by decide
  have hr : 0 ≤ v.toInt ∧ v.toInt < 2305843009213693952 := by omega
  rw [Int64.lt_iff_toInt_lt] at c
  have e : (2 : Int64).toInt = 2 := by decide
  obtain ⟨k1, k2, k3, k4⟩ := own_K (by omega) hv
  rw [own_bit hr.1 k1 (by omega)] at b
  rw [own_sub1 hh k1 (by omega)]
  rw [own_min31 _ (by omega), own_ans3 hr (j := min (hh - 1) 31) (by omega) ?_ ?_]
  · intro k hk
    rcases Nat.lt_or_ge (k + 1) hh with q | q
    · have := k4 k q
      omega
    · obtain rfl : k = hh - 1 := by omega
      omega
  · rcases Nat.lt_or_ge 31 (hh - 1) with q | q
    · left; omega
    · right
      rw [Nat.min_eq_left q]
      omega
theorem own_bigB3 {v : Int64} {hh : Nat} (hv : ((2 ^ hh : Nat) : Int) ≤ v.toInt ∧ v.toInt < ((2 ^ (hh + 1) : Nat) : Int)) (hD : hh < 61) (c : (2 : Int64) < v) (b : ¬ ((XT.ushrL v ((Int32.ofNat hh) - (1 : Int32))) &&& (1 : Int64)) = (0 : Int64)) : (Int32.ofNat (own_arg (own_g (own_put (own_put (own_put (fun _ => 0) v) v) v) ((((0 : Int64) + (1 : Int64)) + (1 : Int64)) + (1 : Int64))) 31)) = (if (31 : Int32) < (Int32.ofNat hh) then (31 : Int32) else (Int32.ofNat hh)) := by
  have b1 := own_p2 (hh + 1) 61 (by omega)
  have b2 : (2 : Nat) ^ 61 = 2305843009213693952 := by decide
  have hr : 0 ≤ v.toInt ∧ v.toInt < 2305843009213693952 := by omega
  rw [Int64.lt_iff_toInt_lt] at c
  have e : (2 : Int64).toInt = 2 := by decide
  obtain ⟨k1, k2, k3, k4⟩ := own_K (by omega) hv
  rw [own_bit hr.1 k1 (by omega)] at b
  rw [own_min31 _ (by omega), own_ans3 hr (j := min (hh) 31) (by omega) ?_ ?_]
  · intro k hk
    rcases Nat.lt_or_ge (k + 1) hh with q | q
    · have := k4 k q
      omega
    · obtain rfl : k = hh - 1 := by omega
      omega
  · rcases Nat.lt_or_ge 31 (hh) with q | q
    · left; omega
    · right
      rw [Nat.min_eq_left q]
      omega
theorem d1_0 : decode prog_19_method_1_code 0 = .ok (.aload_n 0, 1) := by decide +kernel
theorem d1_1 : decode prog_19_method_1_code 1 = .ok (.invokespecial 1, 3) := by decide +kernel
theorem d1_4 : decode prog_19_method_1_code 4 = .ok (.aload_n 0, 1) := by decide +kernel
theorem d1_5 : decode prog_19_method_1_code 5 = .ok (.bipush 32, 2) := by decide +kernel
theorem d1_7 : decode prog_19_method_1_code 7 = .ok (.newarray .long, 2) := by decide +kernel
theorem d1_9 : decode prog_19_method_1_code 9 = .ok (.putfield 9, 3) := by decide +kernel
theorem d1_12 : decode prog_19_method_1_code 12 = .ok (.return_, 1) := by decide +kernel
theorem ef_rm1 (m : MethodId) (o : Addr) : entryFrame m #[(.ref o)] 1 = mkF m 0 #[.val (.ref o)] [] := by first | (simp [entryFrame, mkF, argsToLocals, Value.category]; done) | rfl
theorem pn0 : plainName "com/example/ranker/ranker/index/BitWriter$RiceParameter" = true := by first | (simp [plainName, overriddenIn]; done) | decide +kernel
set_option maxRecDepth 65536 in
set_option maxHeartbeats 40000000 in
theorem rm1 (l : Launch) (Z : State) (a0 : Array Value) (hw : ∀ d ∈ tables_1, d.before a0 Z = true) (o : Addr) (h0 : Heap) (n0 : Nat) (Z0 : n0 ≤ h0.size) (E_o : Exa Z h0 o "com/example/ranker/ranker/index/BitWriter$RiceParameter") (F_o_quotients : Fld Z h0 o "com/example/ranker/ranker/index/BitWriter$RiceParameter" "quotients" "[J" .null) (F_o_count : Fld Z h0 o "com/example/ranker/ranker/index/BitWriter$RiceParameter" "count" "J" (.long (0 : Int64))) (ge_o : n0 ≤ o) :
    Own.Ct l (⟨"com/example/ranker/ranker/index/BitWriter$RiceParameter", "<init>", "()V"⟩ : MethodName) prog_19_method_1_code 1 none [] ({ frames := 1, cells := 1, slots := 32, locals := 12 } : Room) Z #[(.ref o)] h0 (fun rV hP lC => ∃ qa : Addr, rV = none ∧ Fr n0 lC ∧ Keep h0 hP [o] ∧ n0 ≤ qa ∧ h0.size ≤ qa ∧ Fld Z hP o "com/example/ranker/ranker/index/BitWriter$RiceParameter" "quotients" "[J" (.ref qa) ∧ Fld Z hP o "com/example/ranker/ranker/index/BitWriter$RiceParameter" "count" "J" (.long (0 : Int64)) ∧ Own.VArr Z hP qa .long (own_ql (fun _ => 0))) := by
  refine Own.enter (plainFor_of_name pn0) ?_
  intro p e s m below meth cc s₁ hx hby hml hown hnm hret hk hZ X0 e0
  have N0 := Fr.nil n0
  refine Own.start (ef_rm1 m o) ?_
  have K : Keep h0 h0 [o] := Keep.refl _ _
  refine Own.aloadN X0 hx (pc := 0) (hb hby d1_0) rfl rfl ?_
  refine Own.initObj X0 hx hZ (pc := 1) hown (Wd hw 7 rfl) (Wd hw 8 rfl) (Wd hw 9 rfl) e0 (by rw [hml]; rfl) (hb hby d1_1) (by decide) 0 (Nat.le_of_eq rfl) (by decide) ?_
  intro T1 X1 e1
  refine Own.aloadN X1 hx (pc := 4) (hb hby d1_4) rfl rfl ?_
  refine Own.bipush X1 hx (pc := 5) (32 : Int32) (hb hby d1_5) (by decide) ?_
  refine Own.newarr X1 hx hZ (pc := 7) (aty := .long) (Wd hw 10 rfl) e1 (hb hby d1_7) (by decide) 32 32 (by decide) (by decide) (by decide) (by decide) (by decide) ?_
  intro T2 h2 b2 g2 X2 e2 Ex2 V_b2
  have ne_o_b2 : o ≠ b2 := Nat.ne_of_lt (g2 ▸ E_o.lt)
  have E_o := Exa.ext Ex2 E_o
  have F_o_quotients := Fld.ext Ex2 F_o_quotients
  have F_o_count := Fld.ext Ex2 F_o_count
  have ge_b2 : n0 ≤ b2 := g2 ▸ Z0
  have sz2 : n0 ≤ h2.size := Nat.le_trans Z0 Ex2.1
  have szo_b2 : h0.size ≤ b2 := g2 ▸ K.1
  have K := K.ext Ex2
  replace V_b2 : Own.VArr Z h2 b2 .long (List.replicate 32 (.long (0 : Int64))) := V_b2
  refine Own.putfield X2 hx hZ (pc := 9) hown (host := "") (Or.inl (Wd hw 11 rfl)) Via.refl e2 F_o_quotients E_o (Or.inr ⟨(Wd hw 12 rfl), rfl, hnm⟩) (Wd hw 2 rfl) (ty := (.array .long)) (by decide) rfl rfl N0 ge_o (hb hby d1_9) ?_
  intro T3 h3 X3 e3 W3 N3 F_o_quotients
  have sz3 : n0 ≤ h3.size := Nat.le_trans sz2 (Nat.le_of_eq (Wr.size W3).symm)
  have E_o := Exa.wr W3 E_o
  have F_o_count := Fld.other W3 F_o_count (Or.inr (slot_ne (Or.inl (Wd hw 19 rfl)) (Or.inr (Wd hw 12 rfl)) (by decide) (ht := (by decide : parseFieldDescriptor "J" = some .long)) (ht' := (by decide : parseFieldDescriptor "[J" = some (.array .long)))))
  have V_b2 := V_b2.other W3 (Ne.symm ne_o_b2)
  have K := K.wr W3 (Or.inl (by simp))
  replace V_b2 : Own.VArr Z h3 b2 .long (own_ql (fun _ => 0)) := by rw [show own_ql (fun _ => 0) = List.replicate 32 (.long (0 : Int64)) from rfl]; exact V_b2
  exact Own.vreturn X3 hx hk hret (hb hby d1_12) e3 ⟨b2, rfl, N3, K, ge_b2, szo_b2, F_o_quotients, F_o_count, V_b2⟩ (by decide) (by decide)
theorem d3_0 : decode prog_19_method_2_code 0 = .ok (.iconst 0, 1) := by decide +kernel
theorem d3_1 : decode prog_19_method_2_code 1 = .ok (.istore_n 3, 1) := by decide +kernel
theorem d3_2 : decode prog_19_method_2_code 2 = .ok (.iload_n 3, 1) := by decide +kernel
theorem d3_3 : decode prog_19_method_2_code 3 = .ok (.bipush 31, 2) := by decide +kernel
theorem d3_5 : decode prog_19_method_2_code 5 = .ok (.if_icmp .gt 29, 3) := by decide +kernel
theorem d3_34 : decode prog_19_method_2_code 34 = .ok (.aload_n 0, 1) := by decide +kernel
theorem d3_35 : decode prog_19_method_2_code 35 = .ok (.dup, 1) := by decide +kernel
theorem d3_36 : decode prog_19_method_2_code 36 = .ok (.getfield 13, 3) := by decide +kernel
theorem d3_39 : decode prog_19_method_2_code 39 = .ok (.lconst 1, 1) := by decide +kernel
theorem d3_40 : decode prog_19_method_2_code 40 = .ok (.ladd, 1) := by decide +kernel
theorem d3_41 : decode prog_19_method_2_code 41 = .ok (.putfield 13, 3) := by decide +kernel
theorem d3_44 : decode prog_19_method_2_code 44 = .ok (.return_, 1) := by decide +kernel
theorem d3_8 : decode prog_19_method_2_code 8 = .ok (.lload_n 1, 1) := by decide +kernel
theorem d3_9 : decode prog_19_method_2_code 9 = .ok (.iload_n 3, 1) := by decide +kernel
theorem d3_10 : decode prog_19_method_2_code 10 = .ok (.lushr, 1) := by decide +kernel
theorem d3_11 : decode prog_19_method_2_code 11 = .ok (.lconst 0, 1) := by decide +kernel
theorem d3_12 : decode prog_19_method_2_code 12 = .ok (.lcmp, 1) := by decide +kernel
theorem d3_13 : decode prog_19_method_2_code 13 = .ok (.ifCond .eq 21, 3) := by decide +kernel
theorem d3_16 : decode prog_19_method_2_code 16 = .ok (.aload_n 0, 1) := by decide +kernel
theorem d3_17 : decode prog_19_method_2_code 17 = .ok (.getfield 9, 3) := by decide +kernel
theorem d3_20 : decode prog_19_method_2_code 20 = .ok (.iload_n 3, 1) := by decide +kernel
theorem d3_21 : decode prog_19_method_2_code 21 = .ok (.dup2, 1) := by decide +kernel
theorem d3_22 : decode prog_19_method_2_code 22 = .ok (.laload, 1) := by decide +kernel
theorem d3_23 : decode prog_19_method_2_code 23 = .ok (.lload_n 1, 1) := by decide +kernel
theorem d3_24 : decode prog_19_method_2_code 24 = .ok (.iload_n 3, 1) := by decide +kernel
theorem d3_25 : decode prog_19_method_2_code 25 = .ok (.lushr, 1) := by decide +kernel
theorem d3_26 : decode prog_19_method_2_code 26 = .ok (.ladd, 1) := by decide +kernel
theorem d3_27 : decode prog_19_method_2_code 27 = .ok (.lastore, 1) := by decide +kernel
theorem d3_28 : decode prog_19_method_2_code 28 = .ok (.iinc 3 1, 3) := by decide +kernel
theorem d3_31 : decode prog_19_method_2_code 31 = .ok (.goto (-29), 3) := by decide +kernel
theorem ef_rm3 (m : MethodId) (o : Addr) (v : Int64) : entryFrame m #[(.ref o), (.long v)] 4 = mkF m 0 #[.val (.ref o), .val (.long v), .second, .unset] [] := by first | (simp [entryFrame, mkF, argsToLocals, Value.category]; done) | rfl
set_option maxRecDepth 65536 in
set_option maxHeartbeats 40000000 in
theorem rm3 (l : Launch) (Z : State) (a0 : Array Value) (hw : ∀ d ∈ tables_1, d.before a0 Z = true) (o : Addr) (v : Int64) (qa : Addr) (cnt : Int64) (f : Nat → Int64) (h0 : Heap) (n0 : Nat) (Z0 : n0 ≤ h0.size) (E_o : Exa Z h0 o "com/example/ranker/ranker/index/BitWriter$RiceParameter") (F_o_quotients : Fld Z h0 o "com/example/ranker/ranker/index/BitWriter$RiceParameter" "quotients" "[J" (.ref qa)) (F_o_count : Fld Z h0 o "com/example/ranker/ranker/index/BitWriter$RiceParameter" "count" "J" (.long cnt)) (V_qa : Own.VArr Z h0 qa .long (own_ql f)) (ge_o : n0 ≤ o) (ge_qa : n0 ≤ qa) (hv : 0 ≤ v.toInt) (hne : o ≠ qa) :
    Own.Ct l (⟨"com/example/ranker/ranker/index/BitWriter$RiceParameter", "add", "(J)V"⟩ : MethodName) prog_19_method_2_code 4 none [] ({ frames := 0, cells := 0, slots := 0, locals := 0 } : Room) Z #[(.ref o), (.long v)] h0 (fun rV hP lC => rV = none ∧ Fr n0 lC ∧ Keep h0 hP [o, qa] ∧ Fld Z hP o "com/example/ranker/ranker/index/BitWriter$RiceParameter" "quotients" "[J" (.ref qa) ∧ Fld Z hP o "com/example/ranker/ranker/index/BitWriter$RiceParameter" "count" "J" (.long (cnt + (1 : Int64))) ∧ Own.VArr Z hP qa .long (own_ql (own_put f v))) := by
  refine Own.enter (plainFor_of_name pn0) ?_
  intro p e s m below meth cc s₁ hx hby hml hown hnm hret hk hZ X0 e0
  have N0 := Fr.nil n0
  refine Own.start (ef_rm3 m o v) ?_
  have K : Keep h0 h0 [o, qa] := Keep.refl _ _
  refine Own.iconst X0 hx (pc := 0) (0 : Int32) (hb hby d3_0) (by decide) ?_
  refine Own.istoreN X0 hx (pc := 1) #[.val (.ref o), .val (.long v), .second, .val (.int (0 : Int32))] (hb hby d3_1) rfl ?_
  rw [own_q0 f v] at V_qa
  refine Own.induct (fun q : State × Heap × List Loc × Nat => q.1.setTop (mkF m 2 #[.val (.ref o), .val (.long v), .second, .val (.int (Int32.ofNat q.2.2.2))] [])) (fun k q => q.2.2.2 + k = 32 ∧ Stand p l e ({ frames := 0, cells := 0, slots := 0, locals := 0 } : Room) s m #[(.ref o), (.long v)] below meth cc q.1 q.2.2.1 0 0 ∧ q.1.heap = q.2.1 ∧ Fr n0 q.2.2.1 ∧ Keep h0 q.2.1 [o, qa] ∧ Exa Z q.2.1 o "com/example/ranker/ranker/index/BitWriter$RiceParameter" ∧ Fld Z q.2.1 o "com/example/ranker/ranker/index/BitWriter$RiceParameter" "quotients" "[J" (.ref qa) ∧ Fld Z q.2.1 o "com/example/ranker/ranker/index/BitWriter$RiceParameter" "count" "J" (.long cnt) ∧ Own.VArr Z q.2.1 qa .long (own_ql (own_mid f v q.2.2.2))) ?_ ?_ (n := 32) (a := (_, _, _, 0)) ⟨rfl, X0, e0, N0, K, E_o, F_o_quotients, F_o_count, V_qa⟩
  · rintro ⟨T, h, lc, i⟩ ⟨hi, X, eT, N, K, E_o, F_o_quotients, F_o_count, V_qa⟩
    dsimp only at hi X eT N K E_o F_o_quotients F_o_count V_qa
    have sz : n0 ≤ h.size := Nat.le_trans Z0 K.1
    show Own.Go p e below _ (T.setTop (mkF m 2 #[.val (.ref o), .val (.long v), .second, .val (.int (Int32.ofNat i))] []))
    refine Own.iloadN X hx (pc := 2) (hb hby d3_2) rfl ?_
    refine Own.bipush X hx (pc := 3) (31 : Int32) (hb hby d3_3) (by decide) ?_
    refine Own.icmpYes X hx (pc := 5) 34 (hb hby d3_5) (XT.ii_gt_t ((own_31 (by omega)).mpr (by omega))) (by decide) (by decide) ?_
    rw [own_fin (fun k a b => absurd a (by omega))] at V_qa
    refine Own.aloadN X hx (pc := 34) (hb hby d3_34) rfl rfl ?_
    refine Own.dup X hx (pc := 35) (hb hby d3_35) rfl ?_
    refine Own.getfield X hx hZ (pc := 36) hown (host := "") (Or.inl (Wd hw 18 rfl)) Via.refl eT F_o_count (hb hby d3_36) ?_
    intro T1 X1 e1
    refine Own.lconst X1 hx (pc := 39) (1 : Int64) (hb hby d3_39) (by decide) ?_
    refine Own.ladd X1 hx (pc := 40) (hb hby d3_40) ?_
    refine Own.putfield X1 hx hZ (pc := 41) hown (host := "") (Or.inl (Wd hw 18 rfl)) Via.refl e1 F_o_count E_o (Or.inl (Wd hw 19 rfl)) (Wd hw 2 rfl) (ty := .long) (by decide) rfl rfl N ge_o (hb hby d3_41) ?_
    intro T2 h2 X2 e2 W2 N2 F_o_count
    have sz2 : n0 ≤ h2.size := Nat.le_trans sz (Nat.le_of_eq (Wr.size W2).symm)
    have E_o := Exa.wr W2 E_o
    have F_o_quotients := Fld.other W2 F_o_quotients (Or.inr (slot_ne (Or.inr (Wd hw 12 rfl)) (Or.inl (Wd hw 19 rfl)) (by decide) (ht := (by decide : parseFieldDescriptor "[J" = some (.array .long))) (ht' := (by decide : parseFieldDescriptor "J" = some .long))))
    have V_qa := V_qa.other W2 (Ne.symm hne)
    have K := K.wr W2 (Or.inl (by simp))
    exact Own.vreturn X2 hx hk hret (hb hby d3_44) e2 ⟨rfl, N2, K, F_o_quotients, F_o_count, V_qa⟩ (by decide) (by decide)
  · rintro k ⟨T, h, lc, i⟩ ⟨hi, X, eT, N, K, E_o, F_o_quotients, F_o_count, V_qa⟩ ih
    dsimp only at hi X eT N K E_o F_o_quotients F_o_count V_qa
    have sz : n0 ≤ h.size := Nat.le_trans Z0 K.1
    show Own.Go p e below _ (T.setTop (mkF m 2 #[.val (.ref o), .val (.long v), .second, .val (.int (Int32.ofNat i))] []))
    refine Own.iloadN X hx (pc := 2) (hb hby d3_2) rfl ?_
    refine Own.bipush X hx (pc := 3) (31 : Int32) (hb hby d3_3) (by decide) ?_
    refine Own.icmpNo X hx (pc := 5) (hb hby d3_5) (XT.ii_gt_f (mt (own_31 (by omega)).mp (by omega))) ?_
    refine Own.lloadN X hx (pc := 8) (hb hby d3_8) rfl ?_
    refine Own.iloadN X hx (pc := 9) (hb hby d3_9) rfl ?_
    refine Own.lushr X hx (pc := 10) (hb hby d3_10) ?_
    refine Own.lconst X hx (pc := 11) (0 : Int64) (hb hby d3_11) (by decide) ?_
    refine Own.lcmp X hx (pc := 12) (hb hby d3_12) ?_
    by_cases c3 : (XT.ushrL v (Int32.ofNat i)) = (0 : Int64)
    · refine Own.ifYes X hx (pc := 13) 34 (hb hby d3_13) (XT.ll_eq_t c3) (by decide) (by decide) ?_
      rw [own_fin (own_zero hv c3 (by omega))] at V_qa
      refine Own.aloadN X hx (pc := 34) (hb hby d3_34) rfl rfl ?_
      refine Own.dup X hx (pc := 35) (hb hby d3_35) rfl ?_
      refine Own.getfield X hx hZ (pc := 36) hown (host := "") (Or.inl (Wd hw 18 rfl)) Via.refl eT F_o_count (hb hby d3_36) ?_
      intro T4 X4 e4
      refine Own.lconst X4 hx (pc := 39) (1 : Int64) (hb hby d3_39) (by decide) ?_
      refine Own.ladd X4 hx (pc := 40) (hb hby d3_40) ?_
      refine Own.putfield X4 hx hZ (pc := 41) hown (host := "") (Or.inl (Wd hw 18 rfl)) Via.refl e4 F_o_count E_o (Or.inl (Wd hw 19 rfl)) (Wd hw 2 rfl) (ty := .long) (by decide) rfl rfl N ge_o (hb hby d3_41) ?_
      intro T5 h5 X5 e5 W5 N5 F_o_count
      have sz5 : n0 ≤ h5.size := Nat.le_trans sz (Nat.le_of_eq (Wr.size W5).symm)
      have E_o := Exa.wr W5 E_o
      have F_o_quotients := Fld.other W5 F_o_quotients (Or.inr (slot_ne (Or.inr (Wd hw 12 rfl)) (Or.inl (Wd hw 19 rfl)) (by decide) (ht := (by decide : parseFieldDescriptor "[J" = some (.array .long))) (ht' := (by decide : parseFieldDescriptor "J" = some .long))))
      have V_qa := V_qa.other W5 (Ne.symm hne)
      have K := K.wr W5 (Or.inl (by simp))
      exact Own.vreturn X5 hx hk hret (hb hby d3_44) e5 ⟨rfl, N5, K, F_o_quotients, F_o_count, V_qa⟩ (by decide) (by decide)
    · refine Own.ifNo X hx (pc := 13) (hb hby d3_13) (XT.ll_eq_f c3) ?_
      refine Own.aloadN X hx (pc := 16) (hb hby d3_16) rfl rfl ?_
      refine Own.getfield X hx hZ (pc := 17) hown (host := "") (Or.inl (Wd hw 11 rfl)) Via.refl eT F_o_quotients (hb hby d3_17) ?_
      intro T6 X6 e6
      refine Own.iloadN X6 hx (pc := 20) (hb hby d3_20) rfl ?_
      refine Own.dup2 X6 hx (pc := 21) (hb hby d3_21) rfl rfl ?_
      refine Own.laload X6 hx hZ (pc := 22) e6 V_qa (v := (.long (f i))) i (own_nn (by omega)) (own_cl (by omega)) (own_qmget (by omega)) (hb hby d3_22) ?_
      refine Own.lloadN X6 hx (pc := 23) (hb hby d3_23) rfl ?_
      refine Own.iloadN X6 hx (pc := 24) (hb hby d3_24) rfl ?_
      refine Own.lushr X6 hx (pc := 25) (hb hby d3_25) ?_
      refine Own.ladd X6 hx (pc := 26) (hb hby d3_26) ?_
      refine Own.lastore X6 hx hZ (pc := 27) e6 V_qa i (own_nn (by omega)) (own_cl (by omega)) (by rw [own_qlen]; omega) N ge_qa (hb hby d3_27) ?_
      intro T7 h7 X7 e7 W7 N7 V_qa
      rw [own_qset (by omega)] at V_qa
      have sz7 : n0 ≤ h7.size := Nat.le_trans sz (Nat.le_of_eq (Wr.size W7).symm)
      have E_o := Exa.wr W7 E_o
      have F_o_quotients := Fld.other W7 F_o_quotients (Or.inl hne)
      have F_o_count := Fld.other W7 F_o_count (Or.inl hne)
      have K := K.wr W7 (Or.inl (by simp))
      refine Own.iincV X7 hx (pc := 28) (1 : Int32) (Int32.ofNat (i + 1)) #[.val (.ref o), .val (.long v), .second, .val (.int (Int32.ofNat (i + 1)))] (hb hby d3_28) (by decide) rfl (own_inc i) rfl ?_
      refine Own.goto X7 hx (pc := 31) 2 (hb hby d3_31) (by decide) (by decide) ?_
      exact ih (_, _, _, i + 1) ⟨by show (i + 1) + k = 32; omega, X7, e7, N7, K, E_o, F_o_quotients, F_o_count, V_qa⟩
theorem d4_0 : decode prog_19_method_3_code 0 = .ok (.iconst 0, 1) := by decide +kernel
theorem d4_1 : decode prog_19_method_3_code 1 = .ok (.istore_n 1, 1) := by decide +kernel
theorem d4_2 : decode prog_19_method_3_code 2 = .ok (.iconst 1, 1) := by decide +kernel
theorem d4_3 : decode prog_19_method_3_code 3 = .ok (.istore_n 2, 1) := by decide +kernel
theorem d4_4 : decode prog_19_method_3_code 4 = .ok (.iload_n 2, 1) := by decide +kernel
theorem d4_5 : decode prog_19_method_3_code 5 = .ok (.bipush 31, 2) := by decide +kernel
theorem d4_7 : decode prog_19_method_3_code 7 = .ok (.if_icmp .gt 43, 3) := by decide +kernel
theorem d4_50 : decode prog_19_method_3_code 50 = .ok (.iload_n 1, 1) := by decide +kernel
theorem d4_51 : decode prog_19_method_3_code 51 = .ok (.ireturn, 1) := by decide +kernel
theorem d4_10 : decode prog_19_method_3_code 10 = .ok (.aload_n 0, 1) := by decide +kernel
theorem d4_11 : decode prog_19_method_3_code 11 = .ok (.getfield 9, 3) := by decide +kernel
theorem d4_14 : decode prog_19_method_3_code 14 = .ok (.iload_n 2, 1) := by decide +kernel
theorem d4_15 : decode prog_19_method_3_code 15 = .ok (.laload, 1) := by decide +kernel
theorem d4_16 : decode prog_19_method_3_code 16 = .ok (.aload_n 0, 1) := by decide +kernel
theorem d4_17 : decode prog_19_method_3_code 17 = .ok (.getfield 13, 3) := by decide +kernel
theorem d4_20 : decode prog_19_method_3_code 20 = .ok (.iload_n 2, 1) := by decide +kernel
theorem d4_21 : decode prog_19_method_3_code 21 = .ok (.i2l, 1) := by decide +kernel
theorem d4_22 : decode prog_19_method_3_code 22 = .ok (.lmul, 1) := by decide +kernel
theorem d4_23 : decode prog_19_method_3_code 23 = .ok (.ladd, 1) := by decide +kernel
theorem d4_24 : decode prog_19_method_3_code 24 = .ok (.aload_n 0, 1) := by decide +kernel
theorem d4_25 : decode prog_19_method_3_code 25 = .ok (.getfield 9, 3) := by decide +kernel
theorem d4_28 : decode prog_19_method_3_code 28 = .ok (.iload_n 1, 1) := by decide +kernel
theorem d4_29 : decode prog_19_method_3_code 29 = .ok (.laload, 1) := by decide +kernel
theorem d4_30 : decode prog_19_method_3_code 30 = .ok (.aload_n 0, 1) := by decide +kernel
theorem d4_31 : decode prog_19_method_3_code 31 = .ok (.getfield 13, 3) := by decide +kernel
theorem d4_34 : decode prog_19_method_3_code 34 = .ok (.iload_n 1, 1) := by decide +kernel
theorem d4_35 : decode prog_19_method_3_code 35 = .ok (.i2l, 1) := by decide +kernel
theorem d4_36 : decode prog_19_method_3_code 36 = .ok (.lmul, 1) := by decide +kernel
theorem d4_37 : decode prog_19_method_3_code 37 = .ok (.ladd, 1) := by decide +kernel
theorem d4_38 : decode prog_19_method_3_code 38 = .ok (.lcmp, 1) := by decide +kernel
theorem d4_39 : decode prog_19_method_3_code 39 = .ok (.ifCond .ge 5, 3) := by decide +kernel
theorem d4_42 : decode prog_19_method_3_code 42 = .ok (.iload_n 2, 1) := by decide +kernel
theorem d4_43 : decode prog_19_method_3_code 43 = .ok (.istore_n 1, 1) := by decide +kernel
theorem d4_44 : decode prog_19_method_3_code 44 = .ok (.iinc 2 1, 3) := by decide +kernel
theorem d4_47 : decode prog_19_method_3_code 47 = .ok (.goto (-43), 3) := by decide +kernel
theorem ef_rm4 (m : MethodId) (o : Addr) : entryFrame m #[(.ref o)] 3 = mkF m 0 #[.val (.ref o), .unset, .unset] [] := by first | (simp [entryFrame, mkF, argsToLocals, Value.category]; done) | rfl
set_option maxRecDepth 65536 in
set_option maxHeartbeats 40000000 in
theorem rm4 (l : Launch) (Z : State) (a0 : Array Value) (hw : ∀ d ∈ tables_1, d.before a0 Z = true) (o : Addr) (qa : Addr) (cnt : Int64) (f : Nat → Int64) (h0 : Heap) (n0 : Nat) (Z0 : n0 ≤ h0.size) (F_o_quotients : Fld Z h0 o "com/example/ranker/ranker/index/BitWriter$RiceParameter" "quotients" "[J" (.ref qa)) (F_o_count : Fld Z h0 o "com/example/ranker/ranker/index/BitWriter$RiceParameter" "count" "J" (.long cnt)) (V_qa : Own.VArr Z h0 qa .long (own_ql f)) :
    Own.Ct l (⟨"com/example/ranker/ranker/index/BitWriter$RiceParameter", "best", "()I"⟩ : MethodName) prog_19_method_3_code 3 (some .int) [] ({ frames := 0, cells := 0, slots := 0, locals := 0 } : Room) Z #[(.ref o)] h0 (fun rV hP lC => rV = some (.int (Int32.ofNat (own_arg (own_g f cnt) 31))) ∧ Fr n0 lC ∧ hP = h0) := by
  refine Own.enter (plainFor_of_name pn0) ?_
  intro p e s m below meth cc s₁ hx hby hml hown hnm hret hk hZ X0 e0
  have N0 := Fr.nil n0
  refine Own.start (ef_rm4 m o) ?_
  refine Own.iconst X0 hx (pc := 0) (0 : Int32) (hb hby d4_0) (by decide) ?_
  refine Own.istoreN X0 hx (pc := 1) #[.val (.ref o), .val (.int (0 : Int32)), .unset] (hb hby d4_1) rfl ?_
  refine Own.iconst X0 hx (pc := 2) (1 : Int32) (hb hby d4_2) (by decide) ?_
  refine Own.istoreN X0 hx (pc := 3) #[.val (.ref o), .val (.int (0 : Int32)), .val (.int (1 : Int32))] (hb hby d4_3) rfl ?_
  refine Own.induct (fun q : State × Nat => q.1.setTop (mkF m 4 #[.val (.ref o), .val (.int (Int32.ofNat (own_arg (own_g f cnt) q.2))), .val (.int (Int32.ofNat (q.2 + 1)))] [])) (fun k q => q.2 + k = 31 ∧ Stand p l e ({ frames := 0, cells := 0, slots := 0, locals := 0 } : Room) s m #[(.ref o)] below meth cc q.1 [] 0 0 ∧ q.1.heap = h0) ?_ ?_ (n := 31) (a := (_, 0)) ⟨rfl, X0, e0⟩
  · rintro ⟨T, j⟩ ⟨hi, X, eT⟩
    dsimp only at hi X eT
    have hle := own_arg_le (own_g f cnt) j
    show Own.Go p e below _ (T.setTop (mkF m 4 #[.val (.ref o), .val (.int (Int32.ofNat (own_arg (own_g f cnt) j))), .val (.int (Int32.ofNat (j + 1)))] []))
    refine Own.iloadN X hx (pc := 4) (hb hby d4_4) rfl ?_
    refine Own.bipush X hx (pc := 5) (31 : Int32) (hb hby d4_5) (by decide) ?_
    refine Own.icmpYes X hx (pc := 7) 50 (hb hby d4_7) (XT.ii_gt_t ((own_31 (by omega)).mpr (by omega))) (by decide) (by decide) ?_
    refine Own.iloadN X hx (pc := 50) (hb hby d4_50) rfl ?_
    exact Own.ireturn X hx hk hret (by simp) rfl (hb hby d4_51) eT ⟨by rw [show j = 31 by omega], N0, rfl⟩ (by decide) (by decide)
  · rintro k ⟨T, j⟩ ⟨hi, X, eT⟩ ih
    dsimp only at hi X eT
    have hle := own_arg_le (own_g f cnt) j
    show Own.Go p e below _ (T.setTop (mkF m 4 #[.val (.ref o), .val (.int (Int32.ofNat (own_arg (own_g f cnt) j))), .val (.int (Int32.ofNat (j + 1)))] []))
    refine Own.iloadN X hx (pc := 4) (hb hby d4_4) rfl ?_
    refine Own.bipush X hx (pc := 5) (31 : Int32) (hb hby d4_5) (by decide) ?_
    refine Own.icmpNo X hx (pc := 7) (hb hby d4_7) (XT.ii_gt_f (mt (own_31 (by omega)).mp (by omega))) ?_
    refine Own.aloadN X hx (pc := 10) (hb hby d4_10) rfl rfl ?_
    refine Own.getfield X hx hZ (pc := 11) hown (host := "") (Or.inl (Wd hw 11 rfl)) Via.refl eT F_o_quotients (hb hby d4_11) ?_
    intro T1 X1 e1
    refine Own.iloadN X1 hx (pc := 14) (hb hby d4_14) rfl ?_
    refine Own.laload X1 hx hZ (pc := 15) e1 V_qa (v := (.long (f (j + 1)))) (j + 1) (own_nn (by omega)) (own_cl (by omega)) (own_qget (by omega)) (hb hby d4_15) ?_
    refine Own.aloadN X1 hx (pc := 16) (hb hby d4_16) rfl rfl ?_
    refine Own.getfield X1 hx hZ (pc := 17) hown (host := "") (Or.inl (Wd hw 18 rfl)) Via.refl e1 F_o_count (hb hby d4_17) ?_
    intro T2 X2 e2
    refine Own.iloadN X2 hx (pc := 20) (hb hby d4_20) rfl ?_
    refine Own.i2l X2 hx (pc := 21) (hb hby d4_21) ?_
    refine Own.lmul X2 hx (pc := 22) (hb hby d4_22) ?_
    refine Own.ladd X2 hx (pc := 23) (hb hby d4_23) ?_
    refine Own.aloadN X2 hx (pc := 24) (hb hby d4_24) rfl rfl ?_
    refine Own.getfield X2 hx hZ (pc := 25) hown (host := "") (Or.inl (Wd hw 11 rfl)) Via.refl e2 F_o_quotients (hb hby d4_25) ?_
    intro T3 X3 e3
    refine Own.iloadN X3 hx (pc := 28) (hb hby d4_28) rfl ?_
    refine Own.laload X3 hx hZ (pc := 29) e3 V_qa (v := (.long (f (own_arg (own_g f cnt) j)))) (own_arg (own_g f cnt) j) (own_nn (by omega)) (own_cl (by omega)) (own_qget (by omega)) (hb hby d4_29) ?_
    refine Own.aloadN X3 hx (pc := 30) (hb hby d4_30) rfl rfl ?_
    refine Own.getfield X3 hx hZ (pc := 31) hown (host := "") (Or.inl (Wd hw 18 rfl)) Via.refl e3 F_o_count (hb hby d4_31) ?_
    intro T4 X4 e4
    refine Own.iloadN X4 hx (pc := 34) (hb hby d4_34) rfl ?_
    refine Own.i2l X4 hx (pc := 35) (hb hby d4_35) ?_
    refine Own.lmul X4 hx (pc := 36) (hb hby d4_36) ?_
    refine Own.ladd X4 hx (pc := 37) (hb hby d4_37) ?_
    refine Own.lcmp X4 hx (pc := 38) (hb hby d4_38) ?_
    by_cases c5 : ((f (j + 1)) + (cnt * (Int32.ofNat (j + 1)).toInt64)) < ((f (own_arg (own_g f cnt) j)) + (cnt * (Int32.ofNat (own_arg (own_g f cnt) j)).toInt64))
    · refine Own.ifNo X4 hx (pc := 39) (hb hby d4_39) (XT.ll_ge_f c5) ?_
      refine Own.iloadN X4 hx (pc := 42) (hb hby d4_42) rfl ?_
      refine Own.topI (show Int32.ofNat (j + 1) = Int32.ofNat (own_arg (own_g f cnt) (j + 1)) from congrArg Int32.ofNat (if_pos c5).symm) ?_
      refine Own.istoreN X4 hx (pc := 43) #[.val (.ref o), .val (.int (Int32.ofNat (own_arg (own_g f cnt) (j + 1)))), .val (.int (Int32.ofNat (j + 1)))] (hb hby d4_43) rfl ?_
      refine Own.iincV X4 hx (pc := 44) (1 : Int32) (Int32.ofNat ((j + 1) + 1)) #[.val (.ref o), .val (.int (Int32.ofNat (own_arg (own_g f cnt) (j + 1)))), .val (.int (Int32.ofNat ((j + 1) + 1)))] (hb hby d4_44) (by decide) rfl (own_inc (j + 1)) rfl ?_
      refine Own.goto X4 hx (pc := 47) 4 (hb hby d4_47) (by decide) (by decide) ?_
      exact ih (_, j + 1) ⟨by show (j + 1) + k = 31; omega, X4, e4⟩
    · refine Own.ifYes X4 hx (pc := 39) 44 (hb hby d4_39) (XT.ll_ge_t c5) (by decide) (by decide) ?_
      refine Own.iincV X4 hx (pc := 44) (1 : Int32) (Int32.ofNat ((j + 1) + 1)) #[.val (.ref o), .val (.int (Int32.ofNat (own_arg (own_g f cnt) j))), .val (.int (Int32.ofNat ((j + 1) + 1)))] (hb hby d4_44) (by decide) rfl (own_inc (j + 1)) rfl ?_
      refine Own.goto X4 hx (pc := 47) 4 (hb hby d4_47) (by decide) (by decide) ?_
      rw [← show own_arg (own_g f cnt) (j + 1) = own_arg (own_g f cnt) j from if_neg c5]
      exact ih (_, j + 1) ⟨by show (j + 1) + k = 31; omega, X4, e4⟩
theorem d5_0 : decode jdk_29_method_69_code 0 = .ok (.iload_n 0, 1) := by decide +kernel
theorem d5_1 : decode jdk_29_method_69_code 1 = .ok (.iload_n 1, 1) := by decide +kernel
theorem d5_2 : decode jdk_29_method_69_code 2 = .ok (.if_icmp .gt 7, 3) := by decide +kernel
theorem d5_9 : decode jdk_29_method_69_code 9 = .ok (.iload_n 1, 1) := by decide +kernel
theorem d5_10 : decode jdk_29_method_69_code 10 = .ok (.ireturn, 1) := by decide +kernel
theorem d5_5 : decode jdk_29_method_69_code 5 = .ok (.iload_n 0, 1) := by decide +kernel
theorem d5_6 : decode jdk_29_method_69_code 6 = .ok (.goto 4, 3) := by decide +kernel
theorem ef_rm5 (m : MethodId) (x : Int32) (y : Int32) : entryFrame m #[(.int x), (.int y)] 2 = mkF m 0 #[.val (.int x), .val (.int y)] [] := by first | (simp [entryFrame, mkF, argsToLocals, Value.category]; done) | rfl
theorem pf5 : plainFor (⟨"java/lang/Math", "min", "(II)I"⟩ : MethodName) = true := by decide +kernel
set_option maxRecDepth 65536 in
set_option maxHeartbeats 40000000 in
theorem rm5 (l : Launch) (Z : State) (a0 : Array Value) (hw : ∀ d ∈ tables_1, d.before a0 Z = true) (x : Int32) (y : Int32) (h0 : Heap) (n0 : Nat) (Z0 : n0 ≤ h0.size) :
    Own.Ct l (⟨"java/lang/Math", "min", "(II)I"⟩ : MethodName) jdk_29_method_69_code 2 (some .int) [] ({ frames := 0, cells := 0, slots := 0, locals := 0 } : Room) Z #[(.int x), (.int y)] h0 (fun rV hP lC => rV = some (.int (if y < x then y else x)) ∧ Fr n0 lC ∧ hP = h0) := by
  refine Own.enter pf5 ?_
  intro p e s m below meth cc s₁ hx hby hml hown hnm hret hk hZ X0 e0
  have N0 := Fr.nil n0
  refine Own.start (ef_rm5 m x y) ?_
  refine Own.iloadN X0 hx (pc := 0) (hb hby d5_0) rfl ?_
  refine Own.iloadN X0 hx (pc := 1) (hb hby d5_1) rfl ?_
  by_cases c1 : y < x
  · refine Own.icmpYes X0 hx (pc := 2) 9 (hb hby d5_2) (XT.ii_gt_t c1) (by decide) (by decide) ?_
    refine Own.iloadN X0 hx (pc := 9) (hb hby d5_9) rfl ?_
    exact Own.ireturn X0 hx hk hret (by simp) rfl (hb hby d5_10) e0 ⟨by simp [c1], N0, rfl⟩ (by decide) (by decide)
  · refine Own.icmpNo X0 hx (pc := 2) (hb hby d5_2) (XT.ii_gt_f c1) ?_
    refine Own.iloadN X0 hx (pc := 5) (hb hby d5_5) rfl ?_
    refine Own.goto X0 hx (pc := 6) 10 (hb hby d5_6) (by decide) (by decide) ?_
    exact Own.ireturn X0 hx hk hret (by simp) rfl (hb hby d5_10) e0 ⟨by simp [c1], N0, rfl⟩ (by decide) (by decide)
theorem pd1 : parseMethodDescriptor "()V" = some ⟨[], none⟩ := by decide +kernel
theorem pd2 : parseMethodDescriptor "(J)V" = some ⟨[.long], none⟩ := by decide +kernel
theorem pd3 : parseMethodDescriptor "()I" = some ⟨[], some .int⟩ := by decide +kernel
theorem pd4 : parseMethodDescriptor "(II)I" = some ⟨[.int, .int], some .int⟩ := by decide +kernel
theorem ef_law (m : MethodId) (r : Int64) (hs : Int32) (ns : Int32) (zs : Int32) : entryFrame m #[(.long r), (.int hs), (.int ns), (.int zs)] maxLocals = mkF m 0 #[.val (.long r), .second, .val (.int hs), .val (.int ns), .val (.int zs), .unset, .unset, .unset, .unset, .unset, .unset, .unset, .unset, .unset] [] := by first | (simp [entryFrame, mkF, argsToLocals, Value.category, maxLocals]; done) | rfl
theorem pn5 : plainName "com/example/ranker/ranker/index/RiceParameterAddPinLaw" = true := by first | (simp [plainName, overriddenIn]; done) | decide +kernel
set_option maxRecDepth 65536 in
set_option maxHeartbeats 400000000 in
theorem rm0 (l : Launch) (Z : State) (a0 : Array Value) (hw : ∀ d ∈ tables_1, d.before a0 Z = true) (r : Int64) (hs : Int32) (ns : Int32) (zs : Int32) (h0 : Heap) (n0 : Nat) (Z0 : n0 ≤ h0.size) :
    Own.Ct l x code maxLocals ret tables_1 room_1 Z #[(.long r), (.int hs), (.int ns), (.int zs)] h0 (fun v _ L => v = some (.int 1) ∧ Fr n0 L) := by
  refine Own.enter (plainFor_of_name pn5) ?_
  intro p e s m below meth cc s₁ hx hby hml0 hown hnm hret hk hZ X0 e0
  have hml : cc.maxLocals = 14 := hml0
  have N0 := Fr.nil n0
  refine Own.start (ef_law m r hs ns zs) ?_
  refine Own.iconst X0 hx (pc := 0) (1 : Int32) (hb hby at_0) (by decide) ?_
  refine Own.iloadN X0 hx (pc := 1) (hb hby at_1) rfl ?_
  refine Own.ldcI X0 hx hZ (pc := 2) hown (Wd hw 0 rfl) (hb hby at_2) ?_
  refine Own.iand X0 hx (pc := 4) (hb hby at_4) ?_
  refine Own.iconst X0 hx (pc := 5) (3 : Int32) (hb hby at_5) (by decide) ?_
  refine Own.irem X0 hx (pc := 6) (hb hby at_6) (by decide) ?_
  refine Own.iadd X0 hx (pc := 7) (hb hby at_7) ?_
  generalize qn1 : ((1 : Int32) + ((ns &&& (2147483647 : Int32)) % (3 : Int32))) = n1
  refine Own.istore X0 hx (pc := 8) #[.val (.long r), .second, .val (.int hs), .val (.int ns), .val (.int zs), .val (.int n1), .unset, .unset, .unset, .unset, .unset, .unset, .unset, .unset] (hb hby at_8) rfl ?_
  rcases own_n _ qn1 with rfl | rfl | rfl
  · refine Own.iload X0 hx (pc := 10) (hb hby at_10) rfl ?_
    refine Own.iconst X0 hx (pc := 12) (1 : Int32) (hb hby at_12) (by decide) ?_
    refine Own.icmpNo X0 hx (pc := 13) (hb hby at_13) (by decide) ?_
    refine Own.iloadN X0 hx (pc := 16) (hb hby at_16) rfl ?_
    refine Own.ldcI X0 hx hZ (pc := 17) hown (Wd hw 0 rfl) (hb hby at_17) ?_
    refine Own.iand X0 hx (pc := 19) (hb hby at_19) ?_
    refine Own.bipush X0 hx (pc := 20) (63 : Int32) (hb hby at_20) (by decide) ?_
    refine Own.irem X0 hx (pc := 22) (hb hby at_22) (by decide) ?_
    refine Own.goto X0 hx (pc := 23) 33 (hb hby at_23) (by decide) (by decide) ?_
    obtain ⟨hh, hhD, eh⟩ := own_ex (D := 63) (by decide) (own_rem hs (63 : Int32) 63 (by decide) (by decide))
    refine Own.topI eh ?_
    refine Own.istore X0 hx (pc := 33) #[.val (.long r), .second, .val (.int hs), .val (.int ns), .val (.int zs), .val (.int (1 : Int32)), .val (.int (Int32.ofNat hh)), .unset, .unset, .unset, .unset, .unset, .unset, .unset] (hb hby at_33) rfl ?_
    refine Own.lconst X0 hx (pc := 35) (1 : Int64) (hb hby at_35) (by decide) ?_
    refine Own.iload X0 hx (pc := 36) (hb hby at_36) rfl ?_
    refine Own.lshl X0 hx (pc := 38) (hb hby at_38) ?_
    refine Own.lloadN X0 hx (pc := 39) (hb hby at_39) rfl ?_
    refine Own.lconst X0 hx (pc := 40) (1 : Int64) (hb hby at_40) (by decide) ?_
    refine Own.iload X0 hx (pc := 41) (hb hby at_41) rfl ?_
    refine Own.lshl X0 hx (pc := 43) (hb hby at_43) ?_
    refine Own.lconst X0 hx (pc := 44) (1 : Int64) (hb hby at_44) (by decide) ?_
    refine Own.lsub X0 hx (pc := 45) (hb hby at_45) ?_
    refine Own.land X0 hx (pc := 46) (hb hby at_46) ?_
    refine Own.lor X0 hx (pc := 47) (hb hby at_47) ?_
    generalize qv2 : (((1 : Int64) <<< (Int32.toInt64 (Int32.ofNat hh) &&& 63)) ||| (r &&& (((1 : Int64) <<< (Int32.toInt64 (Int32.ofNat hh) &&& 63)) - (1 : Int64)))) = v2
    have hv := own_v r hh (by omega)
    rw [qv2] at hv
    refine Own.lstore X0 hx (pc := 48) #[.val (.long r), .second, .val (.int hs), .val (.int ns), .val (.int zs), .val (.int (1 : Int32)), .val (.int (Int32.ofNat hh)), .val (.long v2), .second, .unset, .unset, .unset, .unset, .unset] (hb hby at_48) rfl ?_
    refine Own.iload X0 hx (pc := 50) (hb hby at_50) rfl ?_
    refine Own.bipush X0 hx (pc := 52) (7 : Int32) (hb hby at_52) (by decide) ?_
    refine Own.iand X0 hx (pc := 54) (hb hby at_54) ?_
    by_cases c3 : (zs &&& (7 : Int32)) = (0 : Int32)
    · refine Own.ifNo X0 hx (pc := 55) (hb hby at_55) (XT.i0_ne_f c3) ?_
      refine Own.lconst X0 hx (pc := 58) (0 : Int64) (hb hby at_58) (by decide) ?_
      refine Own.lstore X0 hx (pc := 59) #[.val (.long r), .second, .val (.int hs), .val (.int ns), .val (.int zs), .val (.int (1 : Int32)), .val (.int (Int32.ofNat hh)), .val (.long (0 : Int64)), .second, .unset, .unset, .unset, .unset, .unset] (hb hby at_59) rfl ?_
      refine Own.newobj X0 hx hZ (pc := 61) hown (Wd hw 1 rfl) (Wd hw 2 rfl) (Wd hw 3 rfl) e0 (hb hby at_61) (by decide) (by decide) ?_
      intro T4 h4 b4 g4 X4 e4 Ex4 E_b4 D4
      have ge_b4 : n0 ≤ b4 := g4 ▸ Z0
      have sz4 : n0 ≤ h4.size := Nat.le_trans Z0 Ex4.1
      have F_b4_quotients : Fld Z h4 b4 "com/example/ranker/ranker/index/BitWriter$RiceParameter" "quotients" "[J" .null := D4 (Or.inr (Wd hw 12 rfl)) (ty := (.array .long)) (by decide)
      have F_b4_count : Fld Z h4 b4 "com/example/ranker/ranker/index/BitWriter$RiceParameter" "count" "J" (.long (0 : Int64)) := D4 (Or.inl (Wd hw 19 rfl)) (ty := .long) (by decide)
      refine Own.dup X4 hx (pc := 64) (hb hby at_64) rfl ?_
      refine Own.callSpecial X4 hx hZ (pc := 65) (y := (⟨"com/example/ranker/ranker/index/BitWriter$RiceParameter", "<init>", "()V"⟩ : MethodName)) rfl hown (Wd hw 4 rfl) (Wd hw 5 rfl) (Wd hw 3 rfl) (Wd hw 6 rfl) (by decide) 1 b4 [] [(.ref b4)] (rm1 l Z a0 hw b4 h4 n0 sz4 E_b4 F_b4_quotients F_b4_count ge_b4) (by decide) (by decide) e4 (by rw [hml]; rfl) pd1 rfl rfl (Nat.le_of_eq rfl) (hb hby at_65) (by decide) (by decide) ?_
      intro T5 L5 v5 X5 hQ5
      obtain ⟨qa_5, rfl, Nq5, K5, ge_qa_5, szoqa_5, F_b4_quotients', F_b4_count', V_qa_5'⟩ := hQ5
      have e5 : T5.heap = T5.heap := rfl
      have ne_b4_qa_5 : b4 ≠ qa_5 := Nat.ne_of_lt (Nat.lt_of_lt_of_le E_b4.lt szoqa_5)
      have E_b4 := E_b4.keep K5
      have sz5 : n0 ≤ T5.heap.size := Nat.le_trans sz4 K5.1
      have F_b4_quotients := F_b4_quotients'
      have F_b4_count := F_b4_count'
      have V_qa_5 := V_qa_5'
      have N5 := Fr.app N0 Nq5
      show Own.Go p e below _ (T5.setTop (mkF m 68 #[.val (.long r), .second, .val (.int hs), .val (.int ns), .val (.int zs), .val (.int (1 : Int32)), .val (.int (Int32.ofNat hh)), .val (.long (0 : Int64)), .second, .unset, .unset, .unset, .unset, .unset] [(.ref b4)]))
      refine Own.astore X5 hx (pc := 68) #[.val (.long r), .second, .val (.int hs), .val (.int ns), .val (.int zs), .val (.int (1 : Int32)), .val (.int (Int32.ofNat hh)), .val (.long (0 : Int64)), .second, .val (.ref b4), .unset, .unset, .unset, .unset] (hb hby at_68) rfl rfl ?_
      refine Own.aload X5 hx (pc := 70) (hb hby at_70) rfl rfl ?_
      refine Own.lload X5 hx (pc := 72) (hb hby at_72) rfl ?_
      refine Own.callVirtual X5 hx hZ (pc := 74) (y := (⟨"com/example/ranker/ranker/index/BitWriter$RiceParameter", "add", "(J)V"⟩ : MethodName)) (z := (⟨"com/example/ranker/ranker/index/BitWriter$RiceParameter", "add", "(J)V"⟩ : MethodName)) hown (Wd hw 13 rfl) (Wd hw 14 rfl) (Wd hw 16 rfl) (Wd hw 15 rfl) (Wd hw 3 rfl) (Wd hw 17 rfl) (Wd hw 16 rfl) (by decide) 0 b4 [(.long (0 : Int64))] [] E_b4 (rm3 l Z a0 hw b4 (0 : Int64) qa_5 (0 : Int64) (fun _ => 0) T5.heap n0 sz5 E_b4 F_b4_quotients F_b4_count V_qa_5 ge_b4 ge_qa_5 (by decide) ne_b4_qa_5) (by decide) (by decide) e5 (by rw [hml]; rfl) pd2 rfl rfl (Nat.le_of_eq rfl) (hb hby at_74) (by decide) (by decide) ?_
      intro T6 L6 v6 X6 hQ6
      obtain ⟨rfl, Nq6, K6, F_b4_quotients', F_b4_count', V_qa_5'⟩ := hQ6
      have e6 : T6.heap = T6.heap := rfl
      have E_b4 := E_b4.keep K6
      have sz6 : n0 ≤ T6.heap.size := Nat.le_trans sz5 K6.1
      have F_b4_quotients := F_b4_quotients'
      have F_b4_count := F_b4_count'
      have V_qa_5 := V_qa_5'
      have N6 := Fr.app N5 Nq6
      show Own.Go p e below _ (T6.setTop (mkF m 77 #[.val (.long r), .second, .val (.int hs), .val (.int ns), .val (.int zs), .val (.int (1 : Int32)), .val (.int (Int32.ofNat hh)), .val (.long (0 : Int64)), .second, .val (.ref b4), .unset, .unset, .unset, .unset] []))
      refine Own.iload X6 hx (pc := 77) (hb hby at_77) rfl ?_
      refine Own.iconst X6 hx (pc := 79) (2 : Int32) (hb hby at_79) (by decide) ?_
      refine Own.icmpYes X6 hx (pc := 80) 90 (hb hby at_80) (by decide) (by decide) (by decide) ?_
      refine Own.iload X6 hx (pc := 90) (hb hby at_90) rfl ?_
      refine Own.iconst X6 hx (pc := 92) (3 : Int32) (hb hby at_92) (by decide) ?_
      refine Own.icmpYes X6 hx (pc := 93) 103 (hb hby at_93) (by decide) (by decide) (by decide) ?_
      refine Own.lload X6 hx (pc := 103) (hb hby at_103) rfl ?_
      refine Own.ldc2J X6 hx hZ (pc := 105) hown (Wd hw 20 rfl) (hb hby at_105) ?_
      refine Own.lcmp X6 hx (pc := 108) (hb hby at_108) ?_
      refine Own.ifNo X6 hx (pc := 109) (hb hby at_109) (by decide) ?_
      refine Own.iconst X6 hx (pc := 112) (0 : Int32) (hb hby at_112) (by decide) ?_
      refine Own.istore X6 hx (pc := 113) #[.val (.long r), .second, .val (.int hs), .val (.int ns), .val (.int zs), .val (.int (1 : Int32)), .val (.int (Int32.ofNat hh)), .val (.long (0 : Int64)), .second, .val (.ref b4), .val (.int (0 : Int32)), .unset, .unset, .unset] (hb hby at_113) rfl ?_
      refine Own.goto X6 hx (pc := 115) 156 (hb hby at_115) (by decide) (by decide) ?_
      refine Own.aload X6 hx (pc := 156) (hb hby at_156) rfl rfl ?_
      refine Own.callVirtual X6 hx hZ (pc := 158) (y := (⟨"com/example/ranker/ranker/index/BitWriter$RiceParameter", "best", "()I"⟩ : MethodName)) (z := (⟨"com/example/ranker/ranker/index/BitWriter$RiceParameter", "best", "()I"⟩ : MethodName)) hown (Wd hw 21 rfl) (Wd hw 22 rfl) (Wd hw 24 rfl) (Wd hw 23 rfl) (Wd hw 3 rfl) (Wd hw 25 rfl) (Wd hw 24 rfl) (by decide) 0 b4 [] [] E_b4 (rm4 l Z a0 hw b4 qa_5 ((0 : Int64) + (1 : Int64)) (own_put (fun _ => 0) (0 : Int64)) T6.heap n0 sz6 F_b4_quotients F_b4_count V_qa_5) (by decide) (by decide) e6 (by rw [hml]; rfl) pd3 rfl rfl (Nat.le_of_eq rfl) (hb hby at_158) (by decide) (by decide) ?_
      intro T7 L7 v7 X7 hQ7
      obtain ⟨rfl, Nq7, e7⟩ := hQ7
      have N7 := Fr.app N6 Nq7
      show Own.Go p e below _ (T7.setTop (mkF m 161 #[.val (.long r), .second, .val (.int hs), .val (.int ns), .val (.int zs), .val (.int (1 : Int32)), .val (.int (Int32.ofNat hh)), .val (.long (0 : Int64)), .second, .val (.ref b4), .val (.int (0 : Int32)), .unset, .unset, .unset] [(.int (Int32.ofNat (own_arg (own_g (own_put (fun _ => 0) (0 : Int64)) ((0 : Int64) + (1 : Int64))) 31)))]))
      refine Own.iload X7 hx (pc := 161) (hb hby at_161) rfl ?_
      refine Own.icmpNo X7 hx (pc := 163) (hb hby at_163) (XT.ii_ne_f (own_zeros1)) ?_
      refine Own.iconst X7 hx (pc := 166) (1 : Int32) (hb hby at_166) (by decide) ?_
      refine Own.goto X7 hx (pc := 167) 171 (hb hby at_167) (by decide) (by decide) ?_
      exact Own.ireturn X7 hx hk hret (by simp) rfl (hb hby at_171) e7 ⟨rfl, N7⟩ (by decide) (by decide)
    · refine Own.ifYes X0 hx (pc := 55) 61 (hb hby at_55) (XT.i0_ne_t c3) (by decide) (by decide) ?_
      refine Own.newobj X0 hx hZ (pc := 61) hown (Wd hw 1 rfl) (Wd hw 2 rfl) (Wd hw 3 rfl) e0 (hb hby at_61) (by decide) (by decide) ?_
      intro T8 h8 b8 g8 X8 e8 Ex8 E_b8 D8
      have ge_b8 : n0 ≤ b8 := g8 ▸ Z0
      have sz8 : n0 ≤ h8.size := Nat.le_trans Z0 Ex8.1
      have F_b8_quotients : Fld Z h8 b8 "com/example/ranker/ranker/index/BitWriter$RiceParameter" "quotients" "[J" .null := D8 (Or.inr (Wd hw 12 rfl)) (ty := (.array .long)) (by decide)
      have F_b8_count : Fld Z h8 b8 "com/example/ranker/ranker/index/BitWriter$RiceParameter" "count" "J" (.long (0 : Int64)) := D8 (Or.inl (Wd hw 19 rfl)) (ty := .long) (by decide)
      refine Own.dup X8 hx (pc := 64) (hb hby at_64) rfl ?_
      refine Own.callSpecial X8 hx hZ (pc := 65) (y := (⟨"com/example/ranker/ranker/index/BitWriter$RiceParameter", "<init>", "()V"⟩ : MethodName)) rfl hown (Wd hw 4 rfl) (Wd hw 5 rfl) (Wd hw 3 rfl) (Wd hw 6 rfl) (by decide) 1 b8 [] [(.ref b8)] (rm1 l Z a0 hw b8 h8 n0 sz8 E_b8 F_b8_quotients F_b8_count ge_b8) (by decide) (by decide) e8 (by rw [hml]; rfl) pd1 rfl rfl (Nat.le_of_eq rfl) (hb hby at_65) (by decide) (by decide) ?_
      intro T9 L9 v9 X9 hQ9
      obtain ⟨qa_9, rfl, Nq9, K9, ge_qa_9, szoqa_9, F_b8_quotients', F_b8_count', V_qa_9'⟩ := hQ9
      have e9 : T9.heap = T9.heap := rfl
      have ne_b8_qa_9 : b8 ≠ qa_9 := Nat.ne_of_lt (Nat.lt_of_lt_of_le E_b8.lt szoqa_9)
      have E_b8 := E_b8.keep K9
      have sz9 : n0 ≤ T9.heap.size := Nat.le_trans sz8 K9.1
      have F_b8_quotients := F_b8_quotients'
      have F_b8_count := F_b8_count'
      have V_qa_9 := V_qa_9'
      have N9 := Fr.app N0 Nq9
      show Own.Go p e below _ (T9.setTop (mkF m 68 #[.val (.long r), .second, .val (.int hs), .val (.int ns), .val (.int zs), .val (.int (1 : Int32)), .val (.int (Int32.ofNat hh)), .val (.long v2), .second, .unset, .unset, .unset, .unset, .unset] [(.ref b8)]))
      refine Own.astore X9 hx (pc := 68) #[.val (.long r), .second, .val (.int hs), .val (.int ns), .val (.int zs), .val (.int (1 : Int32)), .val (.int (Int32.ofNat hh)), .val (.long v2), .second, .val (.ref b8), .unset, .unset, .unset, .unset] (hb hby at_68) rfl rfl ?_
      refine Own.aload X9 hx (pc := 70) (hb hby at_70) rfl rfl ?_
      refine Own.lload X9 hx (pc := 72) (hb hby at_72) rfl ?_
      refine Own.callVirtual X9 hx hZ (pc := 74) (y := (⟨"com/example/ranker/ranker/index/BitWriter$RiceParameter", "add", "(J)V"⟩ : MethodName)) (z := (⟨"com/example/ranker/ranker/index/BitWriter$RiceParameter", "add", "(J)V"⟩ : MethodName)) hown (Wd hw 13 rfl) (Wd hw 14 rfl) (Wd hw 16 rfl) (Wd hw 15 rfl) (Wd hw 3 rfl) (Wd hw 17 rfl) (Wd hw 16 rfl) (by decide) 0 b8 [(.long v2)] [] E_b8 (rm3 l Z a0 hw b8 v2 qa_9 (0 : Int64) (fun _ => 0) T9.heap n0 sz9 E_b8 F_b8_quotients F_b8_count V_qa_9 ge_b8 ge_qa_9 (own_v0 hv) ne_b8_qa_9) (by decide) (by decide) e9 (by rw [hml]; rfl) pd2 rfl rfl (Nat.le_of_eq rfl) (hb hby at_74) (by decide) (by decide) ?_
      intro T10 L10 v10 X10 hQ10
      obtain ⟨rfl, Nq10, K10, F_b8_quotients', F_b8_count', V_qa_9'⟩ := hQ10
      have e10 : T10.heap = T10.heap := rfl
      have E_b8 := E_b8.keep K10
      have sz10 : n0 ≤ T10.heap.size := Nat.le_trans sz9 K10.1
      have F_b8_quotients := F_b8_quotients'
      have F_b8_count := F_b8_count'
      have V_qa_9 := V_qa_9'
      have N10 := Fr.app N9 Nq10
      show Own.Go p e below _ (T10.setTop (mkF m 77 #[.val (.long r), .second, .val (.int hs), .val (.int ns), .val (.int zs), .val (.int (1 : Int32)), .val (.int (Int32.ofNat hh)), .val (.long v2), .second, .val (.ref b8), .unset, .unset, .unset, .unset] []))
      refine Own.iload X10 hx (pc := 77) (hb hby at_77) rfl ?_
      refine Own.iconst X10 hx (pc := 79) (2 : Int32) (hb hby at_79) (by decide) ?_
      refine Own.icmpYes X10 hx (pc := 80) 90 (hb hby at_80) (by decide) (by decide) (by decide) ?_
      refine Own.iload X10 hx (pc := 90) (hb hby at_90) rfl ?_
      refine Own.iconst X10 hx (pc := 92) (3 : Int32) (hb hby at_92) (by decide) ?_
      refine Own.icmpYes X10 hx (pc := 93) 103 (hb hby at_93) (by decide) (by decide) (by decide) ?_
      refine Own.lload X10 hx (pc := 103) (hb hby at_103) rfl ?_
      refine Own.ldc2J X10 hx hZ (pc := 105) hown (Wd hw 20 rfl) (hb hby at_105) ?_
      refine Own.lcmp X10 hx (pc := 108) (hb hby at_108) ?_
      by_cases c11 : (2 : Int64) < v2
      · refine Own.ifYes X10 hx (pc := 109) 118 (hb hby at_109) (XT.ll_gt_t c11) (by decide) (by decide) ?_
        refine Own.lload X10 hx (pc := 118) (hb hby at_118) rfl ?_
        refine Own.iload X10 hx (pc := 120) (hb hby at_120) rfl ?_
        refine Own.iconst X10 hx (pc := 122) (1 : Int32) (hb hby at_122) (by decide) ?_
        refine Own.isub X10 hx (pc := 123) (hb hby at_123) ?_
        refine Own.lushr X10 hx (pc := 124) (hb hby at_124) ?_
        refine Own.lconst X10 hx (pc := 125) (1 : Int64) (hb hby at_125) (by decide) ?_
        refine Own.land X10 hx (pc := 126) (hb hby at_126) ?_
        refine Own.lstore X10 hx (pc := 127) #[.val (.long r), .second, .val (.int hs), .val (.int ns), .val (.int zs), .val (.int (1 : Int32)), .val (.int (Int32.ofNat hh)), .val (.long v2), .second, .val (.ref b8), .unset, .val (.long ((XT.ushrL v2 ((Int32.ofNat hh) - (1 : Int32))) &&& (1 : Int64))), .second, .unset] (hb hby at_127) rfl ?_
        refine Own.lload X10 hx (pc := 129) (hb hby at_129) rfl ?_
        refine Own.lconst X10 hx (pc := 131) (0 : Int64) (hb hby at_131) (by decide) ?_
        refine Own.lcmp X10 hx (pc := 132) (hb hby at_132) ?_
        by_cases c12 : ((XT.ushrL v2 ((Int32.ofNat hh) - (1 : Int32))) &&& (1 : Int64)) = (0 : Int64)
        · refine Own.ifNo X10 hx (pc := 133) (hb hby at_133) (XT.ll_ne_f c12) ?_
          refine Own.iload X10 hx (pc := 136) (hb hby at_136) rfl ?_
          refine Own.iconst X10 hx (pc := 138) (1 : Int32) (hb hby at_138) (by decide) ?_
          refine Own.isub X10 hx (pc := 139) (hb hby at_139) ?_
          refine Own.goto X10 hx (pc := 140) 145 (hb hby at_140) (by decide) (by decide) ?_
          refine Own.istore X10 hx (pc := 145) #[.val (.long r), .second, .val (.int hs), .val (.int ns), .val (.int zs), .val (.int (1 : Int32)), .val (.int (Int32.ofNat hh)), .val (.long v2), .second, .val (.ref b8), .unset, .val (.long ((XT.ushrL v2 ((Int32.ofNat hh) - (1 : Int32))) &&& (1 : Int64))), .second, .val (.int ((Int32.ofNat hh) - (1 : Int32)))] (hb hby at_145) rfl ?_
          refine Own.iload X10 hx (pc := 147) (hb hby at_147) rfl ?_
          refine Own.bipush X10 hx (pc := 149) (31 : Int32) (hb hby at_149) (by decide) ?_
          refine Own.callStatic X10 hx hZ (pc := 151) (y := (⟨"java/lang/Math", "min", "(II)I"⟩ : MethodName)) hown (Wd hw 26 rfl) (Wd hw 27 rfl) (Wd hw 28 rfl) (Wd hw 29 rfl) (by decide) 0 [(.int ((Int32.ofNat hh) - (1 : Int32))), (.int (31 : Int32))] [] (rm5 l Z a0 hw ((Int32.ofNat hh) - (1 : Int32)) (31 : Int32) T10.heap n0 sz10 ) (by decide) (by decide) e10 (by rw [hml]; rfl) pd4 rfl rfl (Nat.le_of_eq rfl) (hb hby at_151) (by decide) (by decide) ?_
          intro T13 L13 v13 X13 hQ13
          obtain ⟨rfl, Nq13, e13⟩ := hQ13
          have N13 := Fr.app N10 Nq13
          show Own.Go p e below _ (T13.setTop (mkF m 154 #[.val (.long r), .second, .val (.int hs), .val (.int ns), .val (.int zs), .val (.int (1 : Int32)), .val (.int (Int32.ofNat hh)), .val (.long v2), .second, .val (.ref b8), .unset, .val (.long ((XT.ushrL v2 ((Int32.ofNat hh) - (1 : Int32))) &&& (1 : Int64))), .second, .val (.int ((Int32.ofNat hh) - (1 : Int32)))] [(.int (if (31 : Int32) < ((Int32.ofNat hh) - (1 : Int32)) then (31 : Int32) else ((Int32.ofNat hh) - (1 : Int32))))]))
          refine Own.istore X13 hx (pc := 154) #[.val (.long r), .second, .val (.int hs), .val (.int ns), .val (.int zs), .val (.int (1 : Int32)), .val (.int (Int32.ofNat hh)), .val (.long v2), .second, .val (.ref b8), .val (.int (if (31 : Int32) < ((Int32.ofNat hh) - (1 : Int32)) then (31 : Int32) else ((Int32.ofNat hh) - (1 : Int32)))), .val (.long ((XT.ushrL v2 ((Int32.ofNat hh) - (1 : Int32))) &&& (1 : Int64))), .second, .val (.int ((Int32.ofNat hh) - (1 : Int32)))] (hb hby at_154) rfl ?_
          refine Own.aload X13 hx (pc := 156) (hb hby at_156) rfl rfl ?_
          refine Own.callVirtual X13 hx hZ (pc := 158) (y := (⟨"com/example/ranker/ranker/index/BitWriter$RiceParameter", "best", "()I"⟩ : MethodName)) (z := (⟨"com/example/ranker/ranker/index/BitWriter$RiceParameter", "best", "()I"⟩ : MethodName)) hown (Wd hw 21 rfl) (Wd hw 22 rfl) (Wd hw 24 rfl) (Wd hw 23 rfl) (Wd hw 3 rfl) (Wd hw 25 rfl) (Wd hw 24 rfl) (by decide) 0 b8 [] [] E_b8 (rm4 l Z a0 hw b8 qa_9 ((0 : Int64) + (1 : Int64)) (own_put (fun _ => 0) v2) T10.heap n0 sz10 F_b8_quotients F_b8_count V_qa_9) (by decide) (by decide) e13 (by rw [hml]; rfl) pd3 rfl rfl (Nat.le_of_eq rfl) (hb hby at_158) (by decide) (by decide) ?_
          intro T14 L14 v14 X14 hQ14
          obtain ⟨rfl, Nq14, e14⟩ := hQ14
          have N14 := Fr.app N13 Nq14
          show Own.Go p e below _ (T14.setTop (mkF m 161 #[.val (.long r), .second, .val (.int hs), .val (.int ns), .val (.int zs), .val (.int (1 : Int32)), .val (.int (Int32.ofNat hh)), .val (.long v2), .second, .val (.ref b8), .val (.int (if (31 : Int32) < ((Int32.ofNat hh) - (1 : Int32)) then (31 : Int32) else ((Int32.ofNat hh) - (1 : Int32)))), .val (.long ((XT.ushrL v2 ((Int32.ofNat hh) - (1 : Int32))) &&& (1 : Int64))), .second, .val (.int ((Int32.ofNat hh) - (1 : Int32)))] [(.int (Int32.ofNat (own_arg (own_g (own_put (fun _ => 0) v2) ((0 : Int64) + (1 : Int64))) 31)))]))
          refine Own.iload X14 hx (pc := 161) (hb hby at_161) rfl ?_
          refine Own.icmpNo X14 hx (pc := 163) (hb hby at_163) (XT.ii_ne_f (own_bigA1 hv hhD c11 c12)) ?_
          refine Own.iconst X14 hx (pc := 166) (1 : Int32) (hb hby at_166) (by decide) ?_
          refine Own.goto X14 hx (pc := 167) 171 (hb hby at_167) (by decide) (by decide) ?_
          exact Own.ireturn X14 hx hk hret (by simp) rfl (hb hby at_171) e14 ⟨rfl, N14⟩ (by decide) (by decide)
        · refine Own.ifYes X10 hx (pc := 133) 143 (hb hby at_133) (XT.ll_ne_t c12) (by decide) (by decide) ?_
          refine Own.iload X10 hx (pc := 143) (hb hby at_143) rfl ?_
          refine Own.istore X10 hx (pc := 145) #[.val (.long r), .second, .val (.int hs), .val (.int ns), .val (.int zs), .val (.int (1 : Int32)), .val (.int (Int32.ofNat hh)), .val (.long v2), .second, .val (.ref b8), .unset, .val (.long ((XT.ushrL v2 ((Int32.ofNat hh) - (1 : Int32))) &&& (1 : Int64))), .second, .val (.int (Int32.ofNat hh))] (hb hby at_145) rfl ?_
          refine Own.iload X10 hx (pc := 147) (hb hby at_147) rfl ?_
          refine Own.bipush X10 hx (pc := 149) (31 : Int32) (hb hby at_149) (by decide) ?_
          refine Own.callStatic X10 hx hZ (pc := 151) (y := (⟨"java/lang/Math", "min", "(II)I"⟩ : MethodName)) hown (Wd hw 26 rfl) (Wd hw 27 rfl) (Wd hw 28 rfl) (Wd hw 29 rfl) (by decide) 0 [(.int (Int32.ofNat hh)), (.int (31 : Int32))] [] (rm5 l Z a0 hw (Int32.ofNat hh) (31 : Int32) T10.heap n0 sz10 ) (by decide) (by decide) e10 (by rw [hml]; rfl) pd4 rfl rfl (Nat.le_of_eq rfl) (hb hby at_151) (by decide) (by decide) ?_
          intro T15 L15 v15 X15 hQ15
          obtain ⟨rfl, Nq15, e15⟩ := hQ15
          have N15 := Fr.app N10 Nq15
          show Own.Go p e below _ (T15.setTop (mkF m 154 #[.val (.long r), .second, .val (.int hs), .val (.int ns), .val (.int zs), .val (.int (1 : Int32)), .val (.int (Int32.ofNat hh)), .val (.long v2), .second, .val (.ref b8), .unset, .val (.long ((XT.ushrL v2 ((Int32.ofNat hh) - (1 : Int32))) &&& (1 : Int64))), .second, .val (.int (Int32.ofNat hh))] [(.int (if (31 : Int32) < (Int32.ofNat hh) then (31 : Int32) else (Int32.ofNat hh)))]))
          refine Own.istore X15 hx (pc := 154) #[.val (.long r), .second, .val (.int hs), .val (.int ns), .val (.int zs), .val (.int (1 : Int32)), .val (.int (Int32.ofNat hh)), .val (.long v2), .second, .val (.ref b8), .val (.int (if (31 : Int32) < (Int32.ofNat hh) then (31 : Int32) else (Int32.ofNat hh))), .val (.long ((XT.ushrL v2 ((Int32.ofNat hh) - (1 : Int32))) &&& (1 : Int64))), .second, .val (.int (Int32.ofNat hh))] (hb hby at_154) rfl ?_
          refine Own.aload X15 hx (pc := 156) (hb hby at_156) rfl rfl ?_
          refine Own.callVirtual X15 hx hZ (pc := 158) (y := (⟨"com/example/ranker/ranker/index/BitWriter$RiceParameter", "best", "()I"⟩ : MethodName)) (z := (⟨"com/example/ranker/ranker/index/BitWriter$RiceParameter", "best", "()I"⟩ : MethodName)) hown (Wd hw 21 rfl) (Wd hw 22 rfl) (Wd hw 24 rfl) (Wd hw 23 rfl) (Wd hw 3 rfl) (Wd hw 25 rfl) (Wd hw 24 rfl) (by decide) 0 b8 [] [] E_b8 (rm4 l Z a0 hw b8 qa_9 ((0 : Int64) + (1 : Int64)) (own_put (fun _ => 0) v2) T10.heap n0 sz10 F_b8_quotients F_b8_count V_qa_9) (by decide) (by decide) e15 (by rw [hml]; rfl) pd3 rfl rfl (Nat.le_of_eq rfl) (hb hby at_158) (by decide) (by decide) ?_
          intro T16 L16 v16 X16 hQ16
          obtain ⟨rfl, Nq16, e16⟩ := hQ16
          have N16 := Fr.app N15 Nq16
          show Own.Go p e below _ (T16.setTop (mkF m 161 #[.val (.long r), .second, .val (.int hs), .val (.int ns), .val (.int zs), .val (.int (1 : Int32)), .val (.int (Int32.ofNat hh)), .val (.long v2), .second, .val (.ref b8), .val (.int (if (31 : Int32) < (Int32.ofNat hh) then (31 : Int32) else (Int32.ofNat hh))), .val (.long ((XT.ushrL v2 ((Int32.ofNat hh) - (1 : Int32))) &&& (1 : Int64))), .second, .val (.int (Int32.ofNat hh))] [(.int (Int32.ofNat (own_arg (own_g (own_put (fun _ => 0) v2) ((0 : Int64) + (1 : Int64))) 31)))]))
          refine Own.iload X16 hx (pc := 161) (hb hby at_161) rfl ?_
          refine Own.icmpNo X16 hx (pc := 163) (hb hby at_163) (XT.ii_ne_f (own_bigB1 hv hhD c11 c12)) ?_
          refine Own.iconst X16 hx (pc := 166) (1 : Int32) (hb hby at_166) (by decide) ?_
          refine Own.goto X16 hx (pc := 167) 171 (hb hby at_167) (by decide) (by decide) ?_
          exact Own.ireturn X16 hx hk hret (by simp) rfl (hb hby at_171) e16 ⟨rfl, N16⟩ (by decide) (by decide)
      · refine Own.ifNo X10 hx (pc := 109) (hb hby at_109) (XT.ll_gt_f c11) ?_
        refine Own.iconst X10 hx (pc := 112) (0 : Int32) (hb hby at_112) (by decide) ?_
        refine Own.istore X10 hx (pc := 113) #[.val (.long r), .second, .val (.int hs), .val (.int ns), .val (.int zs), .val (.int (1 : Int32)), .val (.int (Int32.ofNat hh)), .val (.long v2), .second, .val (.ref b8), .val (.int (0 : Int32)), .unset, .unset, .unset] (hb hby at_113) rfl ?_
        refine Own.goto X10 hx (pc := 115) 156 (hb hby at_115) (by decide) (by decide) ?_
        refine Own.aload X10 hx (pc := 156) (hb hby at_156) rfl rfl ?_
        refine Own.callVirtual X10 hx hZ (pc := 158) (y := (⟨"com/example/ranker/ranker/index/BitWriter$RiceParameter", "best", "()I"⟩ : MethodName)) (z := (⟨"com/example/ranker/ranker/index/BitWriter$RiceParameter", "best", "()I"⟩ : MethodName)) hown (Wd hw 21 rfl) (Wd hw 22 rfl) (Wd hw 24 rfl) (Wd hw 23 rfl) (Wd hw 3 rfl) (Wd hw 25 rfl) (Wd hw 24 rfl) (by decide) 0 b8 [] [] E_b8 (rm4 l Z a0 hw b8 qa_9 ((0 : Int64) + (1 : Int64)) (own_put (fun _ => 0) v2) T10.heap n0 sz10 F_b8_quotients F_b8_count V_qa_9) (by decide) (by decide) e10 (by rw [hml]; rfl) pd3 rfl rfl (Nat.le_of_eq rfl) (hb hby at_158) (by decide) (by decide) ?_
        intro T17 L17 v17 X17 hQ17
        obtain ⟨rfl, Nq17, e17⟩ := hQ17
        have N17 := Fr.app N10 Nq17
        show Own.Go p e below _ (T17.setTop (mkF m 161 #[.val (.long r), .second, .val (.int hs), .val (.int ns), .val (.int zs), .val (.int (1 : Int32)), .val (.int (Int32.ofNat hh)), .val (.long v2), .second, .val (.ref b8), .val (.int (0 : Int32)), .unset, .unset, .unset] [(.int (Int32.ofNat (own_arg (own_g (own_put (fun _ => 0) v2) ((0 : Int64) + (1 : Int64))) 31)))]))
        refine Own.iload X17 hx (pc := 161) (hb hby at_161) rfl ?_
        refine Own.icmpNo X17 hx (pc := 163) (hb hby at_163) (XT.ii_ne_f (own_small1 hv hhD c11)) ?_
        refine Own.iconst X17 hx (pc := 166) (1 : Int32) (hb hby at_166) (by decide) ?_
        refine Own.goto X17 hx (pc := 167) 171 (hb hby at_167) (by decide) (by decide) ?_
        exact Own.ireturn X17 hx hk hret (by simp) rfl (hb hby at_171) e17 ⟨rfl, N17⟩ (by decide) (by decide)
  · refine Own.iload X0 hx (pc := 10) (hb hby at_10) rfl ?_
    refine Own.iconst X0 hx (pc := 12) (1 : Int32) (hb hby at_12) (by decide) ?_
    refine Own.icmpYes X0 hx (pc := 13) 26 (hb hby at_13) (by decide) (by decide) (by decide) ?_
    refine Own.iloadN X0 hx (pc := 26) (hb hby at_26) rfl ?_
    refine Own.ldcI X0 hx hZ (pc := 27) hown (Wd hw 0 rfl) (hb hby at_27) ?_
    refine Own.iand X0 hx (pc := 29) (hb hby at_29) ?_
    refine Own.bipush X0 hx (pc := 30) (61 : Int32) (hb hby at_30) (by decide) ?_
    refine Own.irem X0 hx (pc := 32) (hb hby at_32) (by decide) ?_
    obtain ⟨hh, hhD, eh⟩ := own_ex (D := 61) (by decide) (own_rem hs (61 : Int32) 61 (by decide) (by decide))
    refine Own.topI eh ?_
    refine Own.istore X0 hx (pc := 33) #[.val (.long r), .second, .val (.int hs), .val (.int ns), .val (.int zs), .val (.int (2 : Int32)), .val (.int (Int32.ofNat hh)), .unset, .unset, .unset, .unset, .unset, .unset, .unset] (hb hby at_33) rfl ?_
    refine Own.lconst X0 hx (pc := 35) (1 : Int64) (hb hby at_35) (by decide) ?_
    refine Own.iload X0 hx (pc := 36) (hb hby at_36) rfl ?_
    refine Own.lshl X0 hx (pc := 38) (hb hby at_38) ?_
    refine Own.lloadN X0 hx (pc := 39) (hb hby at_39) rfl ?_
    refine Own.lconst X0 hx (pc := 40) (1 : Int64) (hb hby at_40) (by decide) ?_
    refine Own.iload X0 hx (pc := 41) (hb hby at_41) rfl ?_
    refine Own.lshl X0 hx (pc := 43) (hb hby at_43) ?_
    refine Own.lconst X0 hx (pc := 44) (1 : Int64) (hb hby at_44) (by decide) ?_
    refine Own.lsub X0 hx (pc := 45) (hb hby at_45) ?_
    refine Own.land X0 hx (pc := 46) (hb hby at_46) ?_
    refine Own.lor X0 hx (pc := 47) (hb hby at_47) ?_
    generalize qv18 : (((1 : Int64) <<< (Int32.toInt64 (Int32.ofNat hh) &&& 63)) ||| (r &&& (((1 : Int64) <<< (Int32.toInt64 (Int32.ofNat hh) &&& 63)) - (1 : Int64)))) = v18
    have hv := own_v r hh (by omega)
    rw [qv18] at hv
    refine Own.lstore X0 hx (pc := 48) #[.val (.long r), .second, .val (.int hs), .val (.int ns), .val (.int zs), .val (.int (2 : Int32)), .val (.int (Int32.ofNat hh)), .val (.long v18), .second, .unset, .unset, .unset, .unset, .unset] (hb hby at_48) rfl ?_
    refine Own.iload X0 hx (pc := 50) (hb hby at_50) rfl ?_
    refine Own.bipush X0 hx (pc := 52) (7 : Int32) (hb hby at_52) (by decide) ?_
    refine Own.iand X0 hx (pc := 54) (hb hby at_54) ?_
    by_cases c19 : (zs &&& (7 : Int32)) = (0 : Int32)
    · refine Own.ifNo X0 hx (pc := 55) (hb hby at_55) (XT.i0_ne_f c19) ?_
      refine Own.lconst X0 hx (pc := 58) (0 : Int64) (hb hby at_58) (by decide) ?_
      refine Own.lstore X0 hx (pc := 59) #[.val (.long r), .second, .val (.int hs), .val (.int ns), .val (.int zs), .val (.int (2 : Int32)), .val (.int (Int32.ofNat hh)), .val (.long (0 : Int64)), .second, .unset, .unset, .unset, .unset, .unset] (hb hby at_59) rfl ?_
      refine Own.newobj X0 hx hZ (pc := 61) hown (Wd hw 1 rfl) (Wd hw 2 rfl) (Wd hw 3 rfl) e0 (hb hby at_61) (by decide) (by decide) ?_
      intro T20 h20 b20 g20 X20 e20 Ex20 E_b20 D20
      have ge_b20 : n0 ≤ b20 := g20 ▸ Z0
      have sz20 : n0 ≤ h20.size := Nat.le_trans Z0 Ex20.1
      have F_b20_quotients : Fld Z h20 b20 "com/example/ranker/ranker/index/BitWriter$RiceParameter" "quotients" "[J" .null := D20 (Or.inr (Wd hw 12 rfl)) (ty := (.array .long)) (by decide)
      have F_b20_count : Fld Z h20 b20 "com/example/ranker/ranker/index/BitWriter$RiceParameter" "count" "J" (.long (0 : Int64)) := D20 (Or.inl (Wd hw 19 rfl)) (ty := .long) (by decide)
      refine Own.dup X20 hx (pc := 64) (hb hby at_64) rfl ?_
      refine Own.callSpecial X20 hx hZ (pc := 65) (y := (⟨"com/example/ranker/ranker/index/BitWriter$RiceParameter", "<init>", "()V"⟩ : MethodName)) rfl hown (Wd hw 4 rfl) (Wd hw 5 rfl) (Wd hw 3 rfl) (Wd hw 6 rfl) (by decide) 1 b20 [] [(.ref b20)] (rm1 l Z a0 hw b20 h20 n0 sz20 E_b20 F_b20_quotients F_b20_count ge_b20) (by decide) (by decide) e20 (by rw [hml]; rfl) pd1 rfl rfl (Nat.le_of_eq rfl) (hb hby at_65) (by decide) (by decide) ?_
      intro T21 L21 v21 X21 hQ21
      obtain ⟨qa_21, rfl, Nq21, K21, ge_qa_21, szoqa_21, F_b20_quotients', F_b20_count', V_qa_21'⟩ := hQ21
      have e21 : T21.heap = T21.heap := rfl
      have ne_b20_qa_21 : b20 ≠ qa_21 := Nat.ne_of_lt (Nat.lt_of_lt_of_le E_b20.lt szoqa_21)
      have E_b20 := E_b20.keep K21
      have sz21 : n0 ≤ T21.heap.size := Nat.le_trans sz20 K21.1
      have F_b20_quotients := F_b20_quotients'
      have F_b20_count := F_b20_count'
      have V_qa_21 := V_qa_21'
      have N21 := Fr.app N0 Nq21
      show Own.Go p e below _ (T21.setTop (mkF m 68 #[.val (.long r), .second, .val (.int hs), .val (.int ns), .val (.int zs), .val (.int (2 : Int32)), .val (.int (Int32.ofNat hh)), .val (.long (0 : Int64)), .second, .unset, .unset, .unset, .unset, .unset] [(.ref b20)]))
      refine Own.astore X21 hx (pc := 68) #[.val (.long r), .second, .val (.int hs), .val (.int ns), .val (.int zs), .val (.int (2 : Int32)), .val (.int (Int32.ofNat hh)), .val (.long (0 : Int64)), .second, .val (.ref b20), .unset, .unset, .unset, .unset] (hb hby at_68) rfl rfl ?_
      refine Own.aload X21 hx (pc := 70) (hb hby at_70) rfl rfl ?_
      refine Own.lload X21 hx (pc := 72) (hb hby at_72) rfl ?_
      refine Own.callVirtual X21 hx hZ (pc := 74) (y := (⟨"com/example/ranker/ranker/index/BitWriter$RiceParameter", "add", "(J)V"⟩ : MethodName)) (z := (⟨"com/example/ranker/ranker/index/BitWriter$RiceParameter", "add", "(J)V"⟩ : MethodName)) hown (Wd hw 13 rfl) (Wd hw 14 rfl) (Wd hw 16 rfl) (Wd hw 15 rfl) (Wd hw 3 rfl) (Wd hw 17 rfl) (Wd hw 16 rfl) (by decide) 0 b20 [(.long (0 : Int64))] [] E_b20 (rm3 l Z a0 hw b20 (0 : Int64) qa_21 (0 : Int64) (fun _ => 0) T21.heap n0 sz21 E_b20 F_b20_quotients F_b20_count V_qa_21 ge_b20 ge_qa_21 (by decide) ne_b20_qa_21) (by decide) (by decide) e21 (by rw [hml]; rfl) pd2 rfl rfl (Nat.le_of_eq rfl) (hb hby at_74) (by decide) (by decide) ?_
      intro T22 L22 v22 X22 hQ22
      obtain ⟨rfl, Nq22, K22, F_b20_quotients', F_b20_count', V_qa_21'⟩ := hQ22
      have e22 : T22.heap = T22.heap := rfl
      have E_b20 := E_b20.keep K22
      have sz22 : n0 ≤ T22.heap.size := Nat.le_trans sz21 K22.1
      have F_b20_quotients := F_b20_quotients'
      have F_b20_count := F_b20_count'
      have V_qa_21 := V_qa_21'
      have N22 := Fr.app N21 Nq22
      show Own.Go p e below _ (T22.setTop (mkF m 77 #[.val (.long r), .second, .val (.int hs), .val (.int ns), .val (.int zs), .val (.int (2 : Int32)), .val (.int (Int32.ofNat hh)), .val (.long (0 : Int64)), .second, .val (.ref b20), .unset, .unset, .unset, .unset] []))
      refine Own.iload X22 hx (pc := 77) (hb hby at_77) rfl ?_
      refine Own.iconst X22 hx (pc := 79) (2 : Int32) (hb hby at_79) (by decide) ?_
      refine Own.icmpNo X22 hx (pc := 80) (hb hby at_80) (by decide) ?_
      refine Own.aload X22 hx (pc := 83) (hb hby at_83) rfl rfl ?_
      refine Own.lload X22 hx (pc := 85) (hb hby at_85) rfl ?_
      refine Own.callVirtual X22 hx hZ (pc := 87) (y := (⟨"com/example/ranker/ranker/index/BitWriter$RiceParameter", "add", "(J)V"⟩ : MethodName)) (z := (⟨"com/example/ranker/ranker/index/BitWriter$RiceParameter", "add", "(J)V"⟩ : MethodName)) hown (Wd hw 13 rfl) (Wd hw 14 rfl) (Wd hw 16 rfl) (Wd hw 15 rfl) (Wd hw 3 rfl) (Wd hw 17 rfl) (Wd hw 16 rfl) (by decide) 0 b20 [(.long (0 : Int64))] [] E_b20 (rm3 l Z a0 hw b20 (0 : Int64) qa_21 ((0 : Int64) + (1 : Int64)) (own_put (fun _ => 0) (0 : Int64)) T22.heap n0 sz22 E_b20 F_b20_quotients F_b20_count V_qa_21 ge_b20 ge_qa_21 (by decide) ne_b20_qa_21) (by decide) (by decide) e22 (by rw [hml]; rfl) pd2 rfl rfl (Nat.le_of_eq rfl) (hb hby at_87) (by decide) (by decide) ?_
      intro T23 L23 v23 X23 hQ23
      obtain ⟨rfl, Nq23, K23, F_b20_quotients', F_b20_count', V_qa_21'⟩ := hQ23
      have e23 : T23.heap = T23.heap := rfl
      have E_b20 := E_b20.keep K23
      have sz23 : n0 ≤ T23.heap.size := Nat.le_trans sz22 K23.1
      have F_b20_quotients := F_b20_quotients'
      have F_b20_count := F_b20_count'
      have V_qa_21 := V_qa_21'
      have N23 := Fr.app N22 Nq23
      show Own.Go p e below _ (T23.setTop (mkF m 90 #[.val (.long r), .second, .val (.int hs), .val (.int ns), .val (.int zs), .val (.int (2 : Int32)), .val (.int (Int32.ofNat hh)), .val (.long (0 : Int64)), .second, .val (.ref b20), .unset, .unset, .unset, .unset] []))
      refine Own.iload X23 hx (pc := 90) (hb hby at_90) rfl ?_
      refine Own.iconst X23 hx (pc := 92) (3 : Int32) (hb hby at_92) (by decide) ?_
      refine Own.icmpYes X23 hx (pc := 93) 103 (hb hby at_93) (by decide) (by decide) (by decide) ?_
      refine Own.lload X23 hx (pc := 103) (hb hby at_103) rfl ?_
      refine Own.ldc2J X23 hx hZ (pc := 105) hown (Wd hw 20 rfl) (hb hby at_105) ?_
      refine Own.lcmp X23 hx (pc := 108) (hb hby at_108) ?_
      refine Own.ifNo X23 hx (pc := 109) (hb hby at_109) (by decide) ?_
      refine Own.iconst X23 hx (pc := 112) (0 : Int32) (hb hby at_112) (by decide) ?_
      refine Own.istore X23 hx (pc := 113) #[.val (.long r), .second, .val (.int hs), .val (.int ns), .val (.int zs), .val (.int (2 : Int32)), .val (.int (Int32.ofNat hh)), .val (.long (0 : Int64)), .second, .val (.ref b20), .val (.int (0 : Int32)), .unset, .unset, .unset] (hb hby at_113) rfl ?_
      refine Own.goto X23 hx (pc := 115) 156 (hb hby at_115) (by decide) (by decide) ?_
      refine Own.aload X23 hx (pc := 156) (hb hby at_156) rfl rfl ?_
      refine Own.callVirtual X23 hx hZ (pc := 158) (y := (⟨"com/example/ranker/ranker/index/BitWriter$RiceParameter", "best", "()I"⟩ : MethodName)) (z := (⟨"com/example/ranker/ranker/index/BitWriter$RiceParameter", "best", "()I"⟩ : MethodName)) hown (Wd hw 21 rfl) (Wd hw 22 rfl) (Wd hw 24 rfl) (Wd hw 23 rfl) (Wd hw 3 rfl) (Wd hw 25 rfl) (Wd hw 24 rfl) (by decide) 0 b20 [] [] E_b20 (rm4 l Z a0 hw b20 qa_21 (((0 : Int64) + (1 : Int64)) + (1 : Int64)) (own_put (own_put (fun _ => 0) (0 : Int64)) (0 : Int64)) T23.heap n0 sz23 F_b20_quotients F_b20_count V_qa_21) (by decide) (by decide) e23 (by rw [hml]; rfl) pd3 rfl rfl (Nat.le_of_eq rfl) (hb hby at_158) (by decide) (by decide) ?_
      intro T24 L24 v24 X24 hQ24
      obtain ⟨rfl, Nq24, e24⟩ := hQ24
      have N24 := Fr.app N23 Nq24
      show Own.Go p e below _ (T24.setTop (mkF m 161 #[.val (.long r), .second, .val (.int hs), .val (.int ns), .val (.int zs), .val (.int (2 : Int32)), .val (.int (Int32.ofNat hh)), .val (.long (0 : Int64)), .second, .val (.ref b20), .val (.int (0 : Int32)), .unset, .unset, .unset] [(.int (Int32.ofNat (own_arg (own_g (own_put (own_put (fun _ => 0) (0 : Int64)) (0 : Int64)) (((0 : Int64) + (1 : Int64)) + (1 : Int64))) 31)))]))
      refine Own.iload X24 hx (pc := 161) (hb hby at_161) rfl ?_
      refine Own.icmpNo X24 hx (pc := 163) (hb hby at_163) (XT.ii_ne_f (own_zeros2)) ?_
      refine Own.iconst X24 hx (pc := 166) (1 : Int32) (hb hby at_166) (by decide) ?_
      refine Own.goto X24 hx (pc := 167) 171 (hb hby at_167) (by decide) (by decide) ?_
      exact Own.ireturn X24 hx hk hret (by simp) rfl (hb hby at_171) e24 ⟨rfl, N24⟩ (by decide) (by decide)
    · refine Own.ifYes X0 hx (pc := 55) 61 (hb hby at_55) (XT.i0_ne_t c19) (by decide) (by decide) ?_
      refine Own.newobj X0 hx hZ (pc := 61) hown (Wd hw 1 rfl) (Wd hw 2 rfl) (Wd hw 3 rfl) e0 (hb hby at_61) (by decide) (by decide) ?_
      intro T25 h25 b25 g25 X25 e25 Ex25 E_b25 D25
      have ge_b25 : n0 ≤ b25 := g25 ▸ Z0
      have sz25 : n0 ≤ h25.size := Nat.le_trans Z0 Ex25.1
      have F_b25_quotients : Fld Z h25 b25 "com/example/ranker/ranker/index/BitWriter$RiceParameter" "quotients" "[J" .null := D25 (Or.inr (Wd hw 12 rfl)) (ty := (.array .long)) (by decide)
      have F_b25_count : Fld Z h25 b25 "com/example/ranker/ranker/index/BitWriter$RiceParameter" "count" "J" (.long (0 : Int64)) := D25 (Or.inl (Wd hw 19 rfl)) (ty := .long) (by decide)
      refine Own.dup X25 hx (pc := 64) (hb hby at_64) rfl ?_
      refine Own.callSpecial X25 hx hZ (pc := 65) (y := (⟨"com/example/ranker/ranker/index/BitWriter$RiceParameter", "<init>", "()V"⟩ : MethodName)) rfl hown (Wd hw 4 rfl) (Wd hw 5 rfl) (Wd hw 3 rfl) (Wd hw 6 rfl) (by decide) 1 b25 [] [(.ref b25)] (rm1 l Z a0 hw b25 h25 n0 sz25 E_b25 F_b25_quotients F_b25_count ge_b25) (by decide) (by decide) e25 (by rw [hml]; rfl) pd1 rfl rfl (Nat.le_of_eq rfl) (hb hby at_65) (by decide) (by decide) ?_
      intro T26 L26 v26 X26 hQ26
      obtain ⟨qa_26, rfl, Nq26, K26, ge_qa_26, szoqa_26, F_b25_quotients', F_b25_count', V_qa_26'⟩ := hQ26
      have e26 : T26.heap = T26.heap := rfl
      have ne_b25_qa_26 : b25 ≠ qa_26 := Nat.ne_of_lt (Nat.lt_of_lt_of_le E_b25.lt szoqa_26)
      have E_b25 := E_b25.keep K26
      have sz26 : n0 ≤ T26.heap.size := Nat.le_trans sz25 K26.1
      have F_b25_quotients := F_b25_quotients'
      have F_b25_count := F_b25_count'
      have V_qa_26 := V_qa_26'
      have N26 := Fr.app N0 Nq26
      show Own.Go p e below _ (T26.setTop (mkF m 68 #[.val (.long r), .second, .val (.int hs), .val (.int ns), .val (.int zs), .val (.int (2 : Int32)), .val (.int (Int32.ofNat hh)), .val (.long v18), .second, .unset, .unset, .unset, .unset, .unset] [(.ref b25)]))
      refine Own.astore X26 hx (pc := 68) #[.val (.long r), .second, .val (.int hs), .val (.int ns), .val (.int zs), .val (.int (2 : Int32)), .val (.int (Int32.ofNat hh)), .val (.long v18), .second, .val (.ref b25), .unset, .unset, .unset, .unset] (hb hby at_68) rfl rfl ?_
      refine Own.aload X26 hx (pc := 70) (hb hby at_70) rfl rfl ?_
      refine Own.lload X26 hx (pc := 72) (hb hby at_72) rfl ?_
      refine Own.callVirtual X26 hx hZ (pc := 74) (y := (⟨"com/example/ranker/ranker/index/BitWriter$RiceParameter", "add", "(J)V"⟩ : MethodName)) (z := (⟨"com/example/ranker/ranker/index/BitWriter$RiceParameter", "add", "(J)V"⟩ : MethodName)) hown (Wd hw 13 rfl) (Wd hw 14 rfl) (Wd hw 16 rfl) (Wd hw 15 rfl) (Wd hw 3 rfl) (Wd hw 17 rfl) (Wd hw 16 rfl) (by decide) 0 b25 [(.long v18)] [] E_b25 (rm3 l Z a0 hw b25 v18 qa_26 (0 : Int64) (fun _ => 0) T26.heap n0 sz26 E_b25 F_b25_quotients F_b25_count V_qa_26 ge_b25 ge_qa_26 (own_v0 hv) ne_b25_qa_26) (by decide) (by decide) e26 (by rw [hml]; rfl) pd2 rfl rfl (Nat.le_of_eq rfl) (hb hby at_74) (by decide) (by decide) ?_
      intro T27 L27 v27 X27 hQ27
      obtain ⟨rfl, Nq27, K27, F_b25_quotients', F_b25_count', V_qa_26'⟩ := hQ27
      have e27 : T27.heap = T27.heap := rfl
      have E_b25 := E_b25.keep K27
      have sz27 : n0 ≤ T27.heap.size := Nat.le_trans sz26 K27.1
      have F_b25_quotients := F_b25_quotients'
      have F_b25_count := F_b25_count'
      have V_qa_26 := V_qa_26'
      have N27 := Fr.app N26 Nq27
      show Own.Go p e below _ (T27.setTop (mkF m 77 #[.val (.long r), .second, .val (.int hs), .val (.int ns), .val (.int zs), .val (.int (2 : Int32)), .val (.int (Int32.ofNat hh)), .val (.long v18), .second, .val (.ref b25), .unset, .unset, .unset, .unset] []))
      refine Own.iload X27 hx (pc := 77) (hb hby at_77) rfl ?_
      refine Own.iconst X27 hx (pc := 79) (2 : Int32) (hb hby at_79) (by decide) ?_
      refine Own.icmpNo X27 hx (pc := 80) (hb hby at_80) (by decide) ?_
      refine Own.aload X27 hx (pc := 83) (hb hby at_83) rfl rfl ?_
      refine Own.lload X27 hx (pc := 85) (hb hby at_85) rfl ?_
      refine Own.callVirtual X27 hx hZ (pc := 87) (y := (⟨"com/example/ranker/ranker/index/BitWriter$RiceParameter", "add", "(J)V"⟩ : MethodName)) (z := (⟨"com/example/ranker/ranker/index/BitWriter$RiceParameter", "add", "(J)V"⟩ : MethodName)) hown (Wd hw 13 rfl) (Wd hw 14 rfl) (Wd hw 16 rfl) (Wd hw 15 rfl) (Wd hw 3 rfl) (Wd hw 17 rfl) (Wd hw 16 rfl) (by decide) 0 b25 [(.long v18)] [] E_b25 (rm3 l Z a0 hw b25 v18 qa_26 ((0 : Int64) + (1 : Int64)) (own_put (fun _ => 0) v18) T27.heap n0 sz27 E_b25 F_b25_quotients F_b25_count V_qa_26 ge_b25 ge_qa_26 (own_v0 hv) ne_b25_qa_26) (by decide) (by decide) e27 (by rw [hml]; rfl) pd2 rfl rfl (Nat.le_of_eq rfl) (hb hby at_87) (by decide) (by decide) ?_
      intro T28 L28 v28 X28 hQ28
      obtain ⟨rfl, Nq28, K28, F_b25_quotients', F_b25_count', V_qa_26'⟩ := hQ28
      have e28 : T28.heap = T28.heap := rfl
      have E_b25 := E_b25.keep K28
      have sz28 : n0 ≤ T28.heap.size := Nat.le_trans sz27 K28.1
      have F_b25_quotients := F_b25_quotients'
      have F_b25_count := F_b25_count'
      have V_qa_26 := V_qa_26'
      have N28 := Fr.app N27 Nq28
      show Own.Go p e below _ (T28.setTop (mkF m 90 #[.val (.long r), .second, .val (.int hs), .val (.int ns), .val (.int zs), .val (.int (2 : Int32)), .val (.int (Int32.ofNat hh)), .val (.long v18), .second, .val (.ref b25), .unset, .unset, .unset, .unset] []))
      refine Own.iload X28 hx (pc := 90) (hb hby at_90) rfl ?_
      refine Own.iconst X28 hx (pc := 92) (3 : Int32) (hb hby at_92) (by decide) ?_
      refine Own.icmpYes X28 hx (pc := 93) 103 (hb hby at_93) (by decide) (by decide) (by decide) ?_
      refine Own.lload X28 hx (pc := 103) (hb hby at_103) rfl ?_
      refine Own.ldc2J X28 hx hZ (pc := 105) hown (Wd hw 20 rfl) (hb hby at_105) ?_
      refine Own.lcmp X28 hx (pc := 108) (hb hby at_108) ?_
      by_cases c29 : (2 : Int64) < v18
      · refine Own.ifYes X28 hx (pc := 109) 118 (hb hby at_109) (XT.ll_gt_t c29) (by decide) (by decide) ?_
        refine Own.lload X28 hx (pc := 118) (hb hby at_118) rfl ?_
        refine Own.iload X28 hx (pc := 120) (hb hby at_120) rfl ?_
        refine Own.iconst X28 hx (pc := 122) (1 : Int32) (hb hby at_122) (by decide) ?_
        refine Own.isub X28 hx (pc := 123) (hb hby at_123) ?_
        refine Own.lushr X28 hx (pc := 124) (hb hby at_124) ?_
        refine Own.lconst X28 hx (pc := 125) (1 : Int64) (hb hby at_125) (by decide) ?_
        refine Own.land X28 hx (pc := 126) (hb hby at_126) ?_
        refine Own.lstore X28 hx (pc := 127) #[.val (.long r), .second, .val (.int hs), .val (.int ns), .val (.int zs), .val (.int (2 : Int32)), .val (.int (Int32.ofNat hh)), .val (.long v18), .second, .val (.ref b25), .unset, .val (.long ((XT.ushrL v18 ((Int32.ofNat hh) - (1 : Int32))) &&& (1 : Int64))), .second, .unset] (hb hby at_127) rfl ?_
        refine Own.lload X28 hx (pc := 129) (hb hby at_129) rfl ?_
        refine Own.lconst X28 hx (pc := 131) (0 : Int64) (hb hby at_131) (by decide) ?_
        refine Own.lcmp X28 hx (pc := 132) (hb hby at_132) ?_
        by_cases c30 : ((XT.ushrL v18 ((Int32.ofNat hh) - (1 : Int32))) &&& (1 : Int64)) = (0 : Int64)
        · refine Own.ifNo X28 hx (pc := 133) (hb hby at_133) (XT.ll_ne_f c30) ?_
          refine Own.iload X28 hx (pc := 136) (hb hby at_136) rfl ?_
          refine Own.iconst X28 hx (pc := 138) (1 : Int32) (hb hby at_138) (by decide) ?_
          refine Own.isub X28 hx (pc := 139) (hb hby at_139) ?_
          refine Own.goto X28 hx (pc := 140) 145 (hb hby at_140) (by decide) (by decide) ?_
          refine Own.istore X28 hx (pc := 145) #[.val (.long r), .second, .val (.int hs), .val (.int ns), .val (.int zs), .val (.int (2 : Int32)), .val (.int (Int32.ofNat hh)), .val (.long v18), .second, .val (.ref b25), .unset, .val (.long ((XT.ushrL v18 ((Int32.ofNat hh) - (1 : Int32))) &&& (1 : Int64))), .second, .val (.int ((Int32.ofNat hh) - (1 : Int32)))] (hb hby at_145) rfl ?_
          refine Own.iload X28 hx (pc := 147) (hb hby at_147) rfl ?_
          refine Own.bipush X28 hx (pc := 149) (31 : Int32) (hb hby at_149) (by decide) ?_
          refine Own.callStatic X28 hx hZ (pc := 151) (y := (⟨"java/lang/Math", "min", "(II)I"⟩ : MethodName)) hown (Wd hw 26 rfl) (Wd hw 27 rfl) (Wd hw 28 rfl) (Wd hw 29 rfl) (by decide) 0 [(.int ((Int32.ofNat hh) - (1 : Int32))), (.int (31 : Int32))] [] (rm5 l Z a0 hw ((Int32.ofNat hh) - (1 : Int32)) (31 : Int32) T28.heap n0 sz28 ) (by decide) (by decide) e28 (by rw [hml]; rfl) pd4 rfl rfl (Nat.le_of_eq rfl) (hb hby at_151) (by decide) (by decide) ?_
          intro T31 L31 v31 X31 hQ31
          obtain ⟨rfl, Nq31, e31⟩ := hQ31
          have N31 := Fr.app N28 Nq31
          show Own.Go p e below _ (T31.setTop (mkF m 154 #[.val (.long r), .second, .val (.int hs), .val (.int ns), .val (.int zs), .val (.int (2 : Int32)), .val (.int (Int32.ofNat hh)), .val (.long v18), .second, .val (.ref b25), .unset, .val (.long ((XT.ushrL v18 ((Int32.ofNat hh) - (1 : Int32))) &&& (1 : Int64))), .second, .val (.int ((Int32.ofNat hh) - (1 : Int32)))] [(.int (if (31 : Int32) < ((Int32.ofNat hh) - (1 : Int32)) then (31 : Int32) else ((Int32.ofNat hh) - (1 : Int32))))]))
          refine Own.istore X31 hx (pc := 154) #[.val (.long r), .second, .val (.int hs), .val (.int ns), .val (.int zs), .val (.int (2 : Int32)), .val (.int (Int32.ofNat hh)), .val (.long v18), .second, .val (.ref b25), .val (.int (if (31 : Int32) < ((Int32.ofNat hh) - (1 : Int32)) then (31 : Int32) else ((Int32.ofNat hh) - (1 : Int32)))), .val (.long ((XT.ushrL v18 ((Int32.ofNat hh) - (1 : Int32))) &&& (1 : Int64))), .second, .val (.int ((Int32.ofNat hh) - (1 : Int32)))] (hb hby at_154) rfl ?_
          refine Own.aload X31 hx (pc := 156) (hb hby at_156) rfl rfl ?_
          refine Own.callVirtual X31 hx hZ (pc := 158) (y := (⟨"com/example/ranker/ranker/index/BitWriter$RiceParameter", "best", "()I"⟩ : MethodName)) (z := (⟨"com/example/ranker/ranker/index/BitWriter$RiceParameter", "best", "()I"⟩ : MethodName)) hown (Wd hw 21 rfl) (Wd hw 22 rfl) (Wd hw 24 rfl) (Wd hw 23 rfl) (Wd hw 3 rfl) (Wd hw 25 rfl) (Wd hw 24 rfl) (by decide) 0 b25 [] [] E_b25 (rm4 l Z a0 hw b25 qa_26 (((0 : Int64) + (1 : Int64)) + (1 : Int64)) (own_put (own_put (fun _ => 0) v18) v18) T28.heap n0 sz28 F_b25_quotients F_b25_count V_qa_26) (by decide) (by decide) e31 (by rw [hml]; rfl) pd3 rfl rfl (Nat.le_of_eq rfl) (hb hby at_158) (by decide) (by decide) ?_
          intro T32 L32 v32 X32 hQ32
          obtain ⟨rfl, Nq32, e32⟩ := hQ32
          have N32 := Fr.app N31 Nq32
          show Own.Go p e below _ (T32.setTop (mkF m 161 #[.val (.long r), .second, .val (.int hs), .val (.int ns), .val (.int zs), .val (.int (2 : Int32)), .val (.int (Int32.ofNat hh)), .val (.long v18), .second, .val (.ref b25), .val (.int (if (31 : Int32) < ((Int32.ofNat hh) - (1 : Int32)) then (31 : Int32) else ((Int32.ofNat hh) - (1 : Int32)))), .val (.long ((XT.ushrL v18 ((Int32.ofNat hh) - (1 : Int32))) &&& (1 : Int64))), .second, .val (.int ((Int32.ofNat hh) - (1 : Int32)))] [(.int (Int32.ofNat (own_arg (own_g (own_put (own_put (fun _ => 0) v18) v18) (((0 : Int64) + (1 : Int64)) + (1 : Int64))) 31)))]))
          refine Own.iload X32 hx (pc := 161) (hb hby at_161) rfl ?_
          refine Own.icmpNo X32 hx (pc := 163) (hb hby at_163) (XT.ii_ne_f (own_bigA2 hv hhD c29 c30)) ?_
          refine Own.iconst X32 hx (pc := 166) (1 : Int32) (hb hby at_166) (by decide) ?_
          refine Own.goto X32 hx (pc := 167) 171 (hb hby at_167) (by decide) (by decide) ?_
          exact Own.ireturn X32 hx hk hret (by simp) rfl (hb hby at_171) e32 ⟨rfl, N32⟩ (by decide) (by decide)
        · refine Own.ifYes X28 hx (pc := 133) 143 (hb hby at_133) (XT.ll_ne_t c30) (by decide) (by decide) ?_
          refine Own.iload X28 hx (pc := 143) (hb hby at_143) rfl ?_
          refine Own.istore X28 hx (pc := 145) #[.val (.long r), .second, .val (.int hs), .val (.int ns), .val (.int zs), .val (.int (2 : Int32)), .val (.int (Int32.ofNat hh)), .val (.long v18), .second, .val (.ref b25), .unset, .val (.long ((XT.ushrL v18 ((Int32.ofNat hh) - (1 : Int32))) &&& (1 : Int64))), .second, .val (.int (Int32.ofNat hh))] (hb hby at_145) rfl ?_
          refine Own.iload X28 hx (pc := 147) (hb hby at_147) rfl ?_
          refine Own.bipush X28 hx (pc := 149) (31 : Int32) (hb hby at_149) (by decide) ?_
          refine Own.callStatic X28 hx hZ (pc := 151) (y := (⟨"java/lang/Math", "min", "(II)I"⟩ : MethodName)) hown (Wd hw 26 rfl) (Wd hw 27 rfl) (Wd hw 28 rfl) (Wd hw 29 rfl) (by decide) 0 [(.int (Int32.ofNat hh)), (.int (31 : Int32))] [] (rm5 l Z a0 hw (Int32.ofNat hh) (31 : Int32) T28.heap n0 sz28 ) (by decide) (by decide) e28 (by rw [hml]; rfl) pd4 rfl rfl (Nat.le_of_eq rfl) (hb hby at_151) (by decide) (by decide) ?_
          intro T33 L33 v33 X33 hQ33
          obtain ⟨rfl, Nq33, e33⟩ := hQ33
          have N33 := Fr.app N28 Nq33
          show Own.Go p e below _ (T33.setTop (mkF m 154 #[.val (.long r), .second, .val (.int hs), .val (.int ns), .val (.int zs), .val (.int (2 : Int32)), .val (.int (Int32.ofNat hh)), .val (.long v18), .second, .val (.ref b25), .unset, .val (.long ((XT.ushrL v18 ((Int32.ofNat hh) - (1 : Int32))) &&& (1 : Int64))), .second, .val (.int (Int32.ofNat hh))] [(.int (if (31 : Int32) < (Int32.ofNat hh) then (31 : Int32) else (Int32.ofNat hh)))]))
          refine Own.istore X33 hx (pc := 154) #[.val (.long r), .second, .val (.int hs), .val (.int ns), .val (.int zs), .val (.int (2 : Int32)), .val (.int (Int32.ofNat hh)), .val (.long v18), .second, .val (.ref b25), .val (.int (if (31 : Int32) < (Int32.ofNat hh) then (31 : Int32) else (Int32.ofNat hh))), .val (.long ((XT.ushrL v18 ((Int32.ofNat hh) - (1 : Int32))) &&& (1 : Int64))), .second, .val (.int (Int32.ofNat hh))] (hb hby at_154) rfl ?_
          refine Own.aload X33 hx (pc := 156) (hb hby at_156) rfl rfl ?_
          refine Own.callVirtual X33 hx hZ (pc := 158) (y := (⟨"com/example/ranker/ranker/index/BitWriter$RiceParameter", "best", "()I"⟩ : MethodName)) (z := (⟨"com/example/ranker/ranker/index/BitWriter$RiceParameter", "best", "()I"⟩ : MethodName)) hown (Wd hw 21 rfl) (Wd hw 22 rfl) (Wd hw 24 rfl) (Wd hw 23 rfl) (Wd hw 3 rfl) (Wd hw 25 rfl) (Wd hw 24 rfl) (by decide) 0 b25 [] [] E_b25 (rm4 l Z a0 hw b25 qa_26 (((0 : Int64) + (1 : Int64)) + (1 : Int64)) (own_put (own_put (fun _ => 0) v18) v18) T28.heap n0 sz28 F_b25_quotients F_b25_count V_qa_26) (by decide) (by decide) e33 (by rw [hml]; rfl) pd3 rfl rfl (Nat.le_of_eq rfl) (hb hby at_158) (by decide) (by decide) ?_
          intro T34 L34 v34 X34 hQ34
          obtain ⟨rfl, Nq34, e34⟩ := hQ34
          have N34 := Fr.app N33 Nq34
          show Own.Go p e below _ (T34.setTop (mkF m 161 #[.val (.long r), .second, .val (.int hs), .val (.int ns), .val (.int zs), .val (.int (2 : Int32)), .val (.int (Int32.ofNat hh)), .val (.long v18), .second, .val (.ref b25), .val (.int (if (31 : Int32) < (Int32.ofNat hh) then (31 : Int32) else (Int32.ofNat hh))), .val (.long ((XT.ushrL v18 ((Int32.ofNat hh) - (1 : Int32))) &&& (1 : Int64))), .second, .val (.int (Int32.ofNat hh))] [(.int (Int32.ofNat (own_arg (own_g (own_put (own_put (fun _ => 0) v18) v18) (((0 : Int64) + (1 : Int64)) + (1 : Int64))) 31)))]))
          refine Own.iload X34 hx (pc := 161) (hb hby at_161) rfl ?_
          refine Own.icmpNo X34 hx (pc := 163) (hb hby at_163) (XT.ii_ne_f (own_bigB2 hv hhD c29 c30)) ?_
          refine Own.iconst X34 hx (pc := 166) (1 : Int32) (hb hby at_166) (by decide) ?_
          refine Own.goto X34 hx (pc := 167) 171 (hb hby at_167) (by decide) (by decide) ?_
          exact Own.ireturn X34 hx hk hret (by simp) rfl (hb hby at_171) e34 ⟨rfl, N34⟩ (by decide) (by decide)
      · refine Own.ifNo X28 hx (pc := 109) (hb hby at_109) (XT.ll_gt_f c29) ?_
        refine Own.iconst X28 hx (pc := 112) (0 : Int32) (hb hby at_112) (by decide) ?_
        refine Own.istore X28 hx (pc := 113) #[.val (.long r), .second, .val (.int hs), .val (.int ns), .val (.int zs), .val (.int (2 : Int32)), .val (.int (Int32.ofNat hh)), .val (.long v18), .second, .val (.ref b25), .val (.int (0 : Int32)), .unset, .unset, .unset] (hb hby at_113) rfl ?_
        refine Own.goto X28 hx (pc := 115) 156 (hb hby at_115) (by decide) (by decide) ?_
        refine Own.aload X28 hx (pc := 156) (hb hby at_156) rfl rfl ?_
        refine Own.callVirtual X28 hx hZ (pc := 158) (y := (⟨"com/example/ranker/ranker/index/BitWriter$RiceParameter", "best", "()I"⟩ : MethodName)) (z := (⟨"com/example/ranker/ranker/index/BitWriter$RiceParameter", "best", "()I"⟩ : MethodName)) hown (Wd hw 21 rfl) (Wd hw 22 rfl) (Wd hw 24 rfl) (Wd hw 23 rfl) (Wd hw 3 rfl) (Wd hw 25 rfl) (Wd hw 24 rfl) (by decide) 0 b25 [] [] E_b25 (rm4 l Z a0 hw b25 qa_26 (((0 : Int64) + (1 : Int64)) + (1 : Int64)) (own_put (own_put (fun _ => 0) v18) v18) T28.heap n0 sz28 F_b25_quotients F_b25_count V_qa_26) (by decide) (by decide) e28 (by rw [hml]; rfl) pd3 rfl rfl (Nat.le_of_eq rfl) (hb hby at_158) (by decide) (by decide) ?_
        intro T35 L35 v35 X35 hQ35
        obtain ⟨rfl, Nq35, e35⟩ := hQ35
        have N35 := Fr.app N28 Nq35
        show Own.Go p e below _ (T35.setTop (mkF m 161 #[.val (.long r), .second, .val (.int hs), .val (.int ns), .val (.int zs), .val (.int (2 : Int32)), .val (.int (Int32.ofNat hh)), .val (.long v18), .second, .val (.ref b25), .val (.int (0 : Int32)), .unset, .unset, .unset] [(.int (Int32.ofNat (own_arg (own_g (own_put (own_put (fun _ => 0) v18) v18) (((0 : Int64) + (1 : Int64)) + (1 : Int64))) 31)))]))
        refine Own.iload X35 hx (pc := 161) (hb hby at_161) rfl ?_
        refine Own.icmpNo X35 hx (pc := 163) (hb hby at_163) (XT.ii_ne_f (own_small2 hv hhD c29)) ?_
        refine Own.iconst X35 hx (pc := 166) (1 : Int32) (hb hby at_166) (by decide) ?_
        refine Own.goto X35 hx (pc := 167) 171 (hb hby at_167) (by decide) (by decide) ?_
        exact Own.ireturn X35 hx hk hret (by simp) rfl (hb hby at_171) e35 ⟨rfl, N35⟩ (by decide) (by decide)
  · refine Own.iload X0 hx (pc := 10) (hb hby at_10) rfl ?_
    refine Own.iconst X0 hx (pc := 12) (1 : Int32) (hb hby at_12) (by decide) ?_
    refine Own.icmpYes X0 hx (pc := 13) 26 (hb hby at_13) (by decide) (by decide) (by decide) ?_
    refine Own.iloadN X0 hx (pc := 26) (hb hby at_26) rfl ?_
    refine Own.ldcI X0 hx hZ (pc := 27) hown (Wd hw 0 rfl) (hb hby at_27) ?_
    refine Own.iand X0 hx (pc := 29) (hb hby at_29) ?_
    refine Own.bipush X0 hx (pc := 30) (61 : Int32) (hb hby at_30) (by decide) ?_
    refine Own.irem X0 hx (pc := 32) (hb hby at_32) (by decide) ?_
    obtain ⟨hh, hhD, eh⟩ := own_ex (D := 61) (by decide) (own_rem hs (61 : Int32) 61 (by decide) (by decide))
    refine Own.topI eh ?_
    refine Own.istore X0 hx (pc := 33) #[.val (.long r), .second, .val (.int hs), .val (.int ns), .val (.int zs), .val (.int (3 : Int32)), .val (.int (Int32.ofNat hh)), .unset, .unset, .unset, .unset, .unset, .unset, .unset] (hb hby at_33) rfl ?_
    refine Own.lconst X0 hx (pc := 35) (1 : Int64) (hb hby at_35) (by decide) ?_
    refine Own.iload X0 hx (pc := 36) (hb hby at_36) rfl ?_
    refine Own.lshl X0 hx (pc := 38) (hb hby at_38) ?_
    refine Own.lloadN X0 hx (pc := 39) (hb hby at_39) rfl ?_
    refine Own.lconst X0 hx (pc := 40) (1 : Int64) (hb hby at_40) (by decide) ?_
    refine Own.iload X0 hx (pc := 41) (hb hby at_41) rfl ?_
    refine Own.lshl X0 hx (pc := 43) (hb hby at_43) ?_
    refine Own.lconst X0 hx (pc := 44) (1 : Int64) (hb hby at_44) (by decide) ?_
    refine Own.lsub X0 hx (pc := 45) (hb hby at_45) ?_
    refine Own.land X0 hx (pc := 46) (hb hby at_46) ?_
    refine Own.lor X0 hx (pc := 47) (hb hby at_47) ?_
    generalize qv36 : (((1 : Int64) <<< (Int32.toInt64 (Int32.ofNat hh) &&& 63)) ||| (r &&& (((1 : Int64) <<< (Int32.toInt64 (Int32.ofNat hh) &&& 63)) - (1 : Int64)))) = v36
    have hv := own_v r hh (by omega)
    rw [qv36] at hv
    refine Own.lstore X0 hx (pc := 48) #[.val (.long r), .second, .val (.int hs), .val (.int ns), .val (.int zs), .val (.int (3 : Int32)), .val (.int (Int32.ofNat hh)), .val (.long v36), .second, .unset, .unset, .unset, .unset, .unset] (hb hby at_48) rfl ?_
    refine Own.iload X0 hx (pc := 50) (hb hby at_50) rfl ?_
    refine Own.bipush X0 hx (pc := 52) (7 : Int32) (hb hby at_52) (by decide) ?_
    refine Own.iand X0 hx (pc := 54) (hb hby at_54) ?_
    by_cases c37 : (zs &&& (7 : Int32)) = (0 : Int32)
    · refine Own.ifNo X0 hx (pc := 55) (hb hby at_55) (XT.i0_ne_f c37) ?_
      refine Own.lconst X0 hx (pc := 58) (0 : Int64) (hb hby at_58) (by decide) ?_
      refine Own.lstore X0 hx (pc := 59) #[.val (.long r), .second, .val (.int hs), .val (.int ns), .val (.int zs), .val (.int (3 : Int32)), .val (.int (Int32.ofNat hh)), .val (.long (0 : Int64)), .second, .unset, .unset, .unset, .unset, .unset] (hb hby at_59) rfl ?_
      refine Own.newobj X0 hx hZ (pc := 61) hown (Wd hw 1 rfl) (Wd hw 2 rfl) (Wd hw 3 rfl) e0 (hb hby at_61) (by decide) (by decide) ?_
      intro T38 h38 b38 g38 X38 e38 Ex38 E_b38 D38
      have ge_b38 : n0 ≤ b38 := g38 ▸ Z0
      have sz38 : n0 ≤ h38.size := Nat.le_trans Z0 Ex38.1
      have F_b38_quotients : Fld Z h38 b38 "com/example/ranker/ranker/index/BitWriter$RiceParameter" "quotients" "[J" .null := D38 (Or.inr (Wd hw 12 rfl)) (ty := (.array .long)) (by decide)
      have F_b38_count : Fld Z h38 b38 "com/example/ranker/ranker/index/BitWriter$RiceParameter" "count" "J" (.long (0 : Int64)) := D38 (Or.inl (Wd hw 19 rfl)) (ty := .long) (by decide)
      refine Own.dup X38 hx (pc := 64) (hb hby at_64) rfl ?_
      refine Own.callSpecial X38 hx hZ (pc := 65) (y := (⟨"com/example/ranker/ranker/index/BitWriter$RiceParameter", "<init>", "()V"⟩ : MethodName)) rfl hown (Wd hw 4 rfl) (Wd hw 5 rfl) (Wd hw 3 rfl) (Wd hw 6 rfl) (by decide) 1 b38 [] [(.ref b38)] (rm1 l Z a0 hw b38 h38 n0 sz38 E_b38 F_b38_quotients F_b38_count ge_b38) (by decide) (by decide) e38 (by rw [hml]; rfl) pd1 rfl rfl (Nat.le_of_eq rfl) (hb hby at_65) (by decide) (by decide) ?_
      intro T39 L39 v39 X39 hQ39
      obtain ⟨qa_39, rfl, Nq39, K39, ge_qa_39, szoqa_39, F_b38_quotients', F_b38_count', V_qa_39'⟩ := hQ39
      have e39 : T39.heap = T39.heap := rfl
      have ne_b38_qa_39 : b38 ≠ qa_39 := Nat.ne_of_lt (Nat.lt_of_lt_of_le E_b38.lt szoqa_39)
      have E_b38 := E_b38.keep K39
      have sz39 : n0 ≤ T39.heap.size := Nat.le_trans sz38 K39.1
      have F_b38_quotients := F_b38_quotients'
      have F_b38_count := F_b38_count'
      have V_qa_39 := V_qa_39'
      have N39 := Fr.app N0 Nq39
      show Own.Go p e below _ (T39.setTop (mkF m 68 #[.val (.long r), .second, .val (.int hs), .val (.int ns), .val (.int zs), .val (.int (3 : Int32)), .val (.int (Int32.ofNat hh)), .val (.long (0 : Int64)), .second, .unset, .unset, .unset, .unset, .unset] [(.ref b38)]))
      refine Own.astore X39 hx (pc := 68) #[.val (.long r), .second, .val (.int hs), .val (.int ns), .val (.int zs), .val (.int (3 : Int32)), .val (.int (Int32.ofNat hh)), .val (.long (0 : Int64)), .second, .val (.ref b38), .unset, .unset, .unset, .unset] (hb hby at_68) rfl rfl ?_
      refine Own.aload X39 hx (pc := 70) (hb hby at_70) rfl rfl ?_
      refine Own.lload X39 hx (pc := 72) (hb hby at_72) rfl ?_
      refine Own.callVirtual X39 hx hZ (pc := 74) (y := (⟨"com/example/ranker/ranker/index/BitWriter$RiceParameter", "add", "(J)V"⟩ : MethodName)) (z := (⟨"com/example/ranker/ranker/index/BitWriter$RiceParameter", "add", "(J)V"⟩ : MethodName)) hown (Wd hw 13 rfl) (Wd hw 14 rfl) (Wd hw 16 rfl) (Wd hw 15 rfl) (Wd hw 3 rfl) (Wd hw 17 rfl) (Wd hw 16 rfl) (by decide) 0 b38 [(.long (0 : Int64))] [] E_b38 (rm3 l Z a0 hw b38 (0 : Int64) qa_39 (0 : Int64) (fun _ => 0) T39.heap n0 sz39 E_b38 F_b38_quotients F_b38_count V_qa_39 ge_b38 ge_qa_39 (by decide) ne_b38_qa_39) (by decide) (by decide) e39 (by rw [hml]; rfl) pd2 rfl rfl (Nat.le_of_eq rfl) (hb hby at_74) (by decide) (by decide) ?_
      intro T40 L40 v40 X40 hQ40
      obtain ⟨rfl, Nq40, K40, F_b38_quotients', F_b38_count', V_qa_39'⟩ := hQ40
      have e40 : T40.heap = T40.heap := rfl
      have E_b38 := E_b38.keep K40
      have sz40 : n0 ≤ T40.heap.size := Nat.le_trans sz39 K40.1
      have F_b38_quotients := F_b38_quotients'
      have F_b38_count := F_b38_count'
      have V_qa_39 := V_qa_39'
      have N40 := Fr.app N39 Nq40
      show Own.Go p e below _ (T40.setTop (mkF m 77 #[.val (.long r), .second, .val (.int hs), .val (.int ns), .val (.int zs), .val (.int (3 : Int32)), .val (.int (Int32.ofNat hh)), .val (.long (0 : Int64)), .second, .val (.ref b38), .unset, .unset, .unset, .unset] []))
      refine Own.iload X40 hx (pc := 77) (hb hby at_77) rfl ?_
      refine Own.iconst X40 hx (pc := 79) (2 : Int32) (hb hby at_79) (by decide) ?_
      refine Own.icmpNo X40 hx (pc := 80) (hb hby at_80) (by decide) ?_
      refine Own.aload X40 hx (pc := 83) (hb hby at_83) rfl rfl ?_
      refine Own.lload X40 hx (pc := 85) (hb hby at_85) rfl ?_
      refine Own.callVirtual X40 hx hZ (pc := 87) (y := (⟨"com/example/ranker/ranker/index/BitWriter$RiceParameter", "add", "(J)V"⟩ : MethodName)) (z := (⟨"com/example/ranker/ranker/index/BitWriter$RiceParameter", "add", "(J)V"⟩ : MethodName)) hown (Wd hw 13 rfl) (Wd hw 14 rfl) (Wd hw 16 rfl) (Wd hw 15 rfl) (Wd hw 3 rfl) (Wd hw 17 rfl) (Wd hw 16 rfl) (by decide) 0 b38 [(.long (0 : Int64))] [] E_b38 (rm3 l Z a0 hw b38 (0 : Int64) qa_39 ((0 : Int64) + (1 : Int64)) (own_put (fun _ => 0) (0 : Int64)) T40.heap n0 sz40 E_b38 F_b38_quotients F_b38_count V_qa_39 ge_b38 ge_qa_39 (by decide) ne_b38_qa_39) (by decide) (by decide) e40 (by rw [hml]; rfl) pd2 rfl rfl (Nat.le_of_eq rfl) (hb hby at_87) (by decide) (by decide) ?_
      intro T41 L41 v41 X41 hQ41
      obtain ⟨rfl, Nq41, K41, F_b38_quotients', F_b38_count', V_qa_39'⟩ := hQ41
      have e41 : T41.heap = T41.heap := rfl
      have E_b38 := E_b38.keep K41
      have sz41 : n0 ≤ T41.heap.size := Nat.le_trans sz40 K41.1
      have F_b38_quotients := F_b38_quotients'
      have F_b38_count := F_b38_count'
      have V_qa_39 := V_qa_39'
      have N41 := Fr.app N40 Nq41
      show Own.Go p e below _ (T41.setTop (mkF m 90 #[.val (.long r), .second, .val (.int hs), .val (.int ns), .val (.int zs), .val (.int (3 : Int32)), .val (.int (Int32.ofNat hh)), .val (.long (0 : Int64)), .second, .val (.ref b38), .unset, .unset, .unset, .unset] []))
      refine Own.iload X41 hx (pc := 90) (hb hby at_90) rfl ?_
      refine Own.iconst X41 hx (pc := 92) (3 : Int32) (hb hby at_92) (by decide) ?_
      refine Own.icmpNo X41 hx (pc := 93) (hb hby at_93) (by decide) ?_
      refine Own.aload X41 hx (pc := 96) (hb hby at_96) rfl rfl ?_
      refine Own.lload X41 hx (pc := 98) (hb hby at_98) rfl ?_
      refine Own.callVirtual X41 hx hZ (pc := 100) (y := (⟨"com/example/ranker/ranker/index/BitWriter$RiceParameter", "add", "(J)V"⟩ : MethodName)) (z := (⟨"com/example/ranker/ranker/index/BitWriter$RiceParameter", "add", "(J)V"⟩ : MethodName)) hown (Wd hw 13 rfl) (Wd hw 14 rfl) (Wd hw 16 rfl) (Wd hw 15 rfl) (Wd hw 3 rfl) (Wd hw 17 rfl) (Wd hw 16 rfl) (by decide) 0 b38 [(.long (0 : Int64))] [] E_b38 (rm3 l Z a0 hw b38 (0 : Int64) qa_39 (((0 : Int64) + (1 : Int64)) + (1 : Int64)) (own_put (own_put (fun _ => 0) (0 : Int64)) (0 : Int64)) T41.heap n0 sz41 E_b38 F_b38_quotients F_b38_count V_qa_39 ge_b38 ge_qa_39 (by decide) ne_b38_qa_39) (by decide) (by decide) e41 (by rw [hml]; rfl) pd2 rfl rfl (Nat.le_of_eq rfl) (hb hby at_100) (by decide) (by decide) ?_
      intro T42 L42 v42 X42 hQ42
      obtain ⟨rfl, Nq42, K42, F_b38_quotients', F_b38_count', V_qa_39'⟩ := hQ42
      have e42 : T42.heap = T42.heap := rfl
      have E_b38 := E_b38.keep K42
      have sz42 : n0 ≤ T42.heap.size := Nat.le_trans sz41 K42.1
      have F_b38_quotients := F_b38_quotients'
      have F_b38_count := F_b38_count'
      have V_qa_39 := V_qa_39'
      have N42 := Fr.app N41 Nq42
      show Own.Go p e below _ (T42.setTop (mkF m 103 #[.val (.long r), .second, .val (.int hs), .val (.int ns), .val (.int zs), .val (.int (3 : Int32)), .val (.int (Int32.ofNat hh)), .val (.long (0 : Int64)), .second, .val (.ref b38), .unset, .unset, .unset, .unset] []))
      refine Own.lload X42 hx (pc := 103) (hb hby at_103) rfl ?_
      refine Own.ldc2J X42 hx hZ (pc := 105) hown (Wd hw 20 rfl) (hb hby at_105) ?_
      refine Own.lcmp X42 hx (pc := 108) (hb hby at_108) ?_
      refine Own.ifNo X42 hx (pc := 109) (hb hby at_109) (by decide) ?_
      refine Own.iconst X42 hx (pc := 112) (0 : Int32) (hb hby at_112) (by decide) ?_
      refine Own.istore X42 hx (pc := 113) #[.val (.long r), .second, .val (.int hs), .val (.int ns), .val (.int zs), .val (.int (3 : Int32)), .val (.int (Int32.ofNat hh)), .val (.long (0 : Int64)), .second, .val (.ref b38), .val (.int (0 : Int32)), .unset, .unset, .unset] (hb hby at_113) rfl ?_
      refine Own.goto X42 hx (pc := 115) 156 (hb hby at_115) (by decide) (by decide) ?_
      refine Own.aload X42 hx (pc := 156) (hb hby at_156) rfl rfl ?_
      refine Own.callVirtual X42 hx hZ (pc := 158) (y := (⟨"com/example/ranker/ranker/index/BitWriter$RiceParameter", "best", "()I"⟩ : MethodName)) (z := (⟨"com/example/ranker/ranker/index/BitWriter$RiceParameter", "best", "()I"⟩ : MethodName)) hown (Wd hw 21 rfl) (Wd hw 22 rfl) (Wd hw 24 rfl) (Wd hw 23 rfl) (Wd hw 3 rfl) (Wd hw 25 rfl) (Wd hw 24 rfl) (by decide) 0 b38 [] [] E_b38 (rm4 l Z a0 hw b38 qa_39 ((((0 : Int64) + (1 : Int64)) + (1 : Int64)) + (1 : Int64)) (own_put (own_put (own_put (fun _ => 0) (0 : Int64)) (0 : Int64)) (0 : Int64)) T42.heap n0 sz42 F_b38_quotients F_b38_count V_qa_39) (by decide) (by decide) e42 (by rw [hml]; rfl) pd3 rfl rfl (Nat.le_of_eq rfl) (hb hby at_158) (by decide) (by decide) ?_
      intro T43 L43 v43 X43 hQ43
      obtain ⟨rfl, Nq43, e43⟩ := hQ43
      have N43 := Fr.app N42 Nq43
      show Own.Go p e below _ (T43.setTop (mkF m 161 #[.val (.long r), .second, .val (.int hs), .val (.int ns), .val (.int zs), .val (.int (3 : Int32)), .val (.int (Int32.ofNat hh)), .val (.long (0 : Int64)), .second, .val (.ref b38), .val (.int (0 : Int32)), .unset, .unset, .unset] [(.int (Int32.ofNat (own_arg (own_g (own_put (own_put (own_put (fun _ => 0) (0 : Int64)) (0 : Int64)) (0 : Int64)) ((((0 : Int64) + (1 : Int64)) + (1 : Int64)) + (1 : Int64))) 31)))]))
      refine Own.iload X43 hx (pc := 161) (hb hby at_161) rfl ?_
      refine Own.icmpNo X43 hx (pc := 163) (hb hby at_163) (XT.ii_ne_f (own_zeros3)) ?_
      refine Own.iconst X43 hx (pc := 166) (1 : Int32) (hb hby at_166) (by decide) ?_
      refine Own.goto X43 hx (pc := 167) 171 (hb hby at_167) (by decide) (by decide) ?_
      exact Own.ireturn X43 hx hk hret (by simp) rfl (hb hby at_171) e43 ⟨rfl, N43⟩ (by decide) (by decide)
    · refine Own.ifYes X0 hx (pc := 55) 61 (hb hby at_55) (XT.i0_ne_t c37) (by decide) (by decide) ?_
      refine Own.newobj X0 hx hZ (pc := 61) hown (Wd hw 1 rfl) (Wd hw 2 rfl) (Wd hw 3 rfl) e0 (hb hby at_61) (by decide) (by decide) ?_
      intro T44 h44 b44 g44 X44 e44 Ex44 E_b44 D44
      have ge_b44 : n0 ≤ b44 := g44 ▸ Z0
      have sz44 : n0 ≤ h44.size := Nat.le_trans Z0 Ex44.1
      have F_b44_quotients : Fld Z h44 b44 "com/example/ranker/ranker/index/BitWriter$RiceParameter" "quotients" "[J" .null := D44 (Or.inr (Wd hw 12 rfl)) (ty := (.array .long)) (by decide)
      have F_b44_count : Fld Z h44 b44 "com/example/ranker/ranker/index/BitWriter$RiceParameter" "count" "J" (.long (0 : Int64)) := D44 (Or.inl (Wd hw 19 rfl)) (ty := .long) (by decide)
      refine Own.dup X44 hx (pc := 64) (hb hby at_64) rfl ?_
      refine Own.callSpecial X44 hx hZ (pc := 65) (y := (⟨"com/example/ranker/ranker/index/BitWriter$RiceParameter", "<init>", "()V"⟩ : MethodName)) rfl hown (Wd hw 4 rfl) (Wd hw 5 rfl) (Wd hw 3 rfl) (Wd hw 6 rfl) (by decide) 1 b44 [] [(.ref b44)] (rm1 l Z a0 hw b44 h44 n0 sz44 E_b44 F_b44_quotients F_b44_count ge_b44) (by decide) (by decide) e44 (by rw [hml]; rfl) pd1 rfl rfl (Nat.le_of_eq rfl) (hb hby at_65) (by decide) (by decide) ?_
      intro T45 L45 v45 X45 hQ45
      obtain ⟨qa_45, rfl, Nq45, K45, ge_qa_45, szoqa_45, F_b44_quotients', F_b44_count', V_qa_45'⟩ := hQ45
      have e45 : T45.heap = T45.heap := rfl
      have ne_b44_qa_45 : b44 ≠ qa_45 := Nat.ne_of_lt (Nat.lt_of_lt_of_le E_b44.lt szoqa_45)
      have E_b44 := E_b44.keep K45
      have sz45 : n0 ≤ T45.heap.size := Nat.le_trans sz44 K45.1
      have F_b44_quotients := F_b44_quotients'
      have F_b44_count := F_b44_count'
      have V_qa_45 := V_qa_45'
      have N45 := Fr.app N0 Nq45
      show Own.Go p e below _ (T45.setTop (mkF m 68 #[.val (.long r), .second, .val (.int hs), .val (.int ns), .val (.int zs), .val (.int (3 : Int32)), .val (.int (Int32.ofNat hh)), .val (.long v36), .second, .unset, .unset, .unset, .unset, .unset] [(.ref b44)]))
      refine Own.astore X45 hx (pc := 68) #[.val (.long r), .second, .val (.int hs), .val (.int ns), .val (.int zs), .val (.int (3 : Int32)), .val (.int (Int32.ofNat hh)), .val (.long v36), .second, .val (.ref b44), .unset, .unset, .unset, .unset] (hb hby at_68) rfl rfl ?_
      refine Own.aload X45 hx (pc := 70) (hb hby at_70) rfl rfl ?_
      refine Own.lload X45 hx (pc := 72) (hb hby at_72) rfl ?_
      refine Own.callVirtual X45 hx hZ (pc := 74) (y := (⟨"com/example/ranker/ranker/index/BitWriter$RiceParameter", "add", "(J)V"⟩ : MethodName)) (z := (⟨"com/example/ranker/ranker/index/BitWriter$RiceParameter", "add", "(J)V"⟩ : MethodName)) hown (Wd hw 13 rfl) (Wd hw 14 rfl) (Wd hw 16 rfl) (Wd hw 15 rfl) (Wd hw 3 rfl) (Wd hw 17 rfl) (Wd hw 16 rfl) (by decide) 0 b44 [(.long v36)] [] E_b44 (rm3 l Z a0 hw b44 v36 qa_45 (0 : Int64) (fun _ => 0) T45.heap n0 sz45 E_b44 F_b44_quotients F_b44_count V_qa_45 ge_b44 ge_qa_45 (own_v0 hv) ne_b44_qa_45) (by decide) (by decide) e45 (by rw [hml]; rfl) pd2 rfl rfl (Nat.le_of_eq rfl) (hb hby at_74) (by decide) (by decide) ?_
      intro T46 L46 v46 X46 hQ46
      obtain ⟨rfl, Nq46, K46, F_b44_quotients', F_b44_count', V_qa_45'⟩ := hQ46
      have e46 : T46.heap = T46.heap := rfl
      have E_b44 := E_b44.keep K46
      have sz46 : n0 ≤ T46.heap.size := Nat.le_trans sz45 K46.1
      have F_b44_quotients := F_b44_quotients'
      have F_b44_count := F_b44_count'
      have V_qa_45 := V_qa_45'
      have N46 := Fr.app N45 Nq46
      show Own.Go p e below _ (T46.setTop (mkF m 77 #[.val (.long r), .second, .val (.int hs), .val (.int ns), .val (.int zs), .val (.int (3 : Int32)), .val (.int (Int32.ofNat hh)), .val (.long v36), .second, .val (.ref b44), .unset, .unset, .unset, .unset] []))
      refine Own.iload X46 hx (pc := 77) (hb hby at_77) rfl ?_
      refine Own.iconst X46 hx (pc := 79) (2 : Int32) (hb hby at_79) (by decide) ?_
      refine Own.icmpNo X46 hx (pc := 80) (hb hby at_80) (by decide) ?_
      refine Own.aload X46 hx (pc := 83) (hb hby at_83) rfl rfl ?_
      refine Own.lload X46 hx (pc := 85) (hb hby at_85) rfl ?_
      refine Own.callVirtual X46 hx hZ (pc := 87) (y := (⟨"com/example/ranker/ranker/index/BitWriter$RiceParameter", "add", "(J)V"⟩ : MethodName)) (z := (⟨"com/example/ranker/ranker/index/BitWriter$RiceParameter", "add", "(J)V"⟩ : MethodName)) hown (Wd hw 13 rfl) (Wd hw 14 rfl) (Wd hw 16 rfl) (Wd hw 15 rfl) (Wd hw 3 rfl) (Wd hw 17 rfl) (Wd hw 16 rfl) (by decide) 0 b44 [(.long v36)] [] E_b44 (rm3 l Z a0 hw b44 v36 qa_45 ((0 : Int64) + (1 : Int64)) (own_put (fun _ => 0) v36) T46.heap n0 sz46 E_b44 F_b44_quotients F_b44_count V_qa_45 ge_b44 ge_qa_45 (own_v0 hv) ne_b44_qa_45) (by decide) (by decide) e46 (by rw [hml]; rfl) pd2 rfl rfl (Nat.le_of_eq rfl) (hb hby at_87) (by decide) (by decide) ?_
      intro T47 L47 v47 X47 hQ47
      obtain ⟨rfl, Nq47, K47, F_b44_quotients', F_b44_count', V_qa_45'⟩ := hQ47
      have e47 : T47.heap = T47.heap := rfl
      have E_b44 := E_b44.keep K47
      have sz47 : n0 ≤ T47.heap.size := Nat.le_trans sz46 K47.1
      have F_b44_quotients := F_b44_quotients'
      have F_b44_count := F_b44_count'
      have V_qa_45 := V_qa_45'
      have N47 := Fr.app N46 Nq47
      show Own.Go p e below _ (T47.setTop (mkF m 90 #[.val (.long r), .second, .val (.int hs), .val (.int ns), .val (.int zs), .val (.int (3 : Int32)), .val (.int (Int32.ofNat hh)), .val (.long v36), .second, .val (.ref b44), .unset, .unset, .unset, .unset] []))
      refine Own.iload X47 hx (pc := 90) (hb hby at_90) rfl ?_
      refine Own.iconst X47 hx (pc := 92) (3 : Int32) (hb hby at_92) (by decide) ?_
      refine Own.icmpNo X47 hx (pc := 93) (hb hby at_93) (by decide) ?_
      refine Own.aload X47 hx (pc := 96) (hb hby at_96) rfl rfl ?_
      refine Own.lload X47 hx (pc := 98) (hb hby at_98) rfl ?_
      refine Own.callVirtual X47 hx hZ (pc := 100) (y := (⟨"com/example/ranker/ranker/index/BitWriter$RiceParameter", "add", "(J)V"⟩ : MethodName)) (z := (⟨"com/example/ranker/ranker/index/BitWriter$RiceParameter", "add", "(J)V"⟩ : MethodName)) hown (Wd hw 13 rfl) (Wd hw 14 rfl) (Wd hw 16 rfl) (Wd hw 15 rfl) (Wd hw 3 rfl) (Wd hw 17 rfl) (Wd hw 16 rfl) (by decide) 0 b44 [(.long v36)] [] E_b44 (rm3 l Z a0 hw b44 v36 qa_45 (((0 : Int64) + (1 : Int64)) + (1 : Int64)) (own_put (own_put (fun _ => 0) v36) v36) T47.heap n0 sz47 E_b44 F_b44_quotients F_b44_count V_qa_45 ge_b44 ge_qa_45 (own_v0 hv) ne_b44_qa_45) (by decide) (by decide) e47 (by rw [hml]; rfl) pd2 rfl rfl (Nat.le_of_eq rfl) (hb hby at_100) (by decide) (by decide) ?_
      intro T48 L48 v48 X48 hQ48
      obtain ⟨rfl, Nq48, K48, F_b44_quotients', F_b44_count', V_qa_45'⟩ := hQ48
      have e48 : T48.heap = T48.heap := rfl
      have E_b44 := E_b44.keep K48
      have sz48 : n0 ≤ T48.heap.size := Nat.le_trans sz47 K48.1
      have F_b44_quotients := F_b44_quotients'
      have F_b44_count := F_b44_count'
      have V_qa_45 := V_qa_45'
      have N48 := Fr.app N47 Nq48
      show Own.Go p e below _ (T48.setTop (mkF m 103 #[.val (.long r), .second, .val (.int hs), .val (.int ns), .val (.int zs), .val (.int (3 : Int32)), .val (.int (Int32.ofNat hh)), .val (.long v36), .second, .val (.ref b44), .unset, .unset, .unset, .unset] []))
      refine Own.lload X48 hx (pc := 103) (hb hby at_103) rfl ?_
      refine Own.ldc2J X48 hx hZ (pc := 105) hown (Wd hw 20 rfl) (hb hby at_105) ?_
      refine Own.lcmp X48 hx (pc := 108) (hb hby at_108) ?_
      by_cases c49 : (2 : Int64) < v36
      · refine Own.ifYes X48 hx (pc := 109) 118 (hb hby at_109) (XT.ll_gt_t c49) (by decide) (by decide) ?_
        refine Own.lload X48 hx (pc := 118) (hb hby at_118) rfl ?_
        refine Own.iload X48 hx (pc := 120) (hb hby at_120) rfl ?_
        refine Own.iconst X48 hx (pc := 122) (1 : Int32) (hb hby at_122) (by decide) ?_
        refine Own.isub X48 hx (pc := 123) (hb hby at_123) ?_
        refine Own.lushr X48 hx (pc := 124) (hb hby at_124) ?_
        refine Own.lconst X48 hx (pc := 125) (1 : Int64) (hb hby at_125) (by decide) ?_
        refine Own.land X48 hx (pc := 126) (hb hby at_126) ?_
        refine Own.lstore X48 hx (pc := 127) #[.val (.long r), .second, .val (.int hs), .val (.int ns), .val (.int zs), .val (.int (3 : Int32)), .val (.int (Int32.ofNat hh)), .val (.long v36), .second, .val (.ref b44), .unset, .val (.long ((XT.ushrL v36 ((Int32.ofNat hh) - (1 : Int32))) &&& (1 : Int64))), .second, .unset] (hb hby at_127) rfl ?_
        refine Own.lload X48 hx (pc := 129) (hb hby at_129) rfl ?_
        refine Own.lconst X48 hx (pc := 131) (0 : Int64) (hb hby at_131) (by decide) ?_
        refine Own.lcmp X48 hx (pc := 132) (hb hby at_132) ?_
        by_cases c50 : ((XT.ushrL v36 ((Int32.ofNat hh) - (1 : Int32))) &&& (1 : Int64)) = (0 : Int64)
        · refine Own.ifNo X48 hx (pc := 133) (hb hby at_133) (XT.ll_ne_f c50) ?_
          refine Own.iload X48 hx (pc := 136) (hb hby at_136) rfl ?_
          refine Own.iconst X48 hx (pc := 138) (1 : Int32) (hb hby at_138) (by decide) ?_
          refine Own.isub X48 hx (pc := 139) (hb hby at_139) ?_
          refine Own.goto X48 hx (pc := 140) 145 (hb hby at_140) (by decide) (by decide) ?_
          refine Own.istore X48 hx (pc := 145) #[.val (.long r), .second, .val (.int hs), .val (.int ns), .val (.int zs), .val (.int (3 : Int32)), .val (.int (Int32.ofNat hh)), .val (.long v36), .second, .val (.ref b44), .unset, .val (.long ((XT.ushrL v36 ((Int32.ofNat hh) - (1 : Int32))) &&& (1 : Int64))), .second, .val (.int ((Int32.ofNat hh) - (1 : Int32)))] (hb hby at_145) rfl ?_
          refine Own.iload X48 hx (pc := 147) (hb hby at_147) rfl ?_
          refine Own.bipush X48 hx (pc := 149) (31 : Int32) (hb hby at_149) (by decide) ?_
          refine Own.callStatic X48 hx hZ (pc := 151) (y := (⟨"java/lang/Math", "min", "(II)I"⟩ : MethodName)) hown (Wd hw 26 rfl) (Wd hw 27 rfl) (Wd hw 28 rfl) (Wd hw 29 rfl) (by decide) 0 [(.int ((Int32.ofNat hh) - (1 : Int32))), (.int (31 : Int32))] [] (rm5 l Z a0 hw ((Int32.ofNat hh) - (1 : Int32)) (31 : Int32) T48.heap n0 sz48 ) (by decide) (by decide) e48 (by rw [hml]; rfl) pd4 rfl rfl (Nat.le_of_eq rfl) (hb hby at_151) (by decide) (by decide) ?_
          intro T51 L51 v51 X51 hQ51
          obtain ⟨rfl, Nq51, e51⟩ := hQ51
          have N51 := Fr.app N48 Nq51
          show Own.Go p e below _ (T51.setTop (mkF m 154 #[.val (.long r), .second, .val (.int hs), .val (.int ns), .val (.int zs), .val (.int (3 : Int32)), .val (.int (Int32.ofNat hh)), .val (.long v36), .second, .val (.ref b44), .unset, .val (.long ((XT.ushrL v36 ((Int32.ofNat hh) - (1 : Int32))) &&& (1 : Int64))), .second, .val (.int ((Int32.ofNat hh) - (1 : Int32)))] [(.int (if (31 : Int32) < ((Int32.ofNat hh) - (1 : Int32)) then (31 : Int32) else ((Int32.ofNat hh) - (1 : Int32))))]))
          refine Own.istore X51 hx (pc := 154) #[.val (.long r), .second, .val (.int hs), .val (.int ns), .val (.int zs), .val (.int (3 : Int32)), .val (.int (Int32.ofNat hh)), .val (.long v36), .second, .val (.ref b44), .val (.int (if (31 : Int32) < ((Int32.ofNat hh) - (1 : Int32)) then (31 : Int32) else ((Int32.ofNat hh) - (1 : Int32)))), .val (.long ((XT.ushrL v36 ((Int32.ofNat hh) - (1 : Int32))) &&& (1 : Int64))), .second, .val (.int ((Int32.ofNat hh) - (1 : Int32)))] (hb hby at_154) rfl ?_
          refine Own.aload X51 hx (pc := 156) (hb hby at_156) rfl rfl ?_
          refine Own.callVirtual X51 hx hZ (pc := 158) (y := (⟨"com/example/ranker/ranker/index/BitWriter$RiceParameter", "best", "()I"⟩ : MethodName)) (z := (⟨"com/example/ranker/ranker/index/BitWriter$RiceParameter", "best", "()I"⟩ : MethodName)) hown (Wd hw 21 rfl) (Wd hw 22 rfl) (Wd hw 24 rfl) (Wd hw 23 rfl) (Wd hw 3 rfl) (Wd hw 25 rfl) (Wd hw 24 rfl) (by decide) 0 b44 [] [] E_b44 (rm4 l Z a0 hw b44 qa_45 ((((0 : Int64) + (1 : Int64)) + (1 : Int64)) + (1 : Int64)) (own_put (own_put (own_put (fun _ => 0) v36) v36) v36) T48.heap n0 sz48 F_b44_quotients F_b44_count V_qa_45) (by decide) (by decide) e51 (by rw [hml]; rfl) pd3 rfl rfl (Nat.le_of_eq rfl) (hb hby at_158) (by decide) (by decide) ?_
          intro T52 L52 v52 X52 hQ52
          obtain ⟨rfl, Nq52, e52⟩ := hQ52
          have N52 := Fr.app N51 Nq52
          show Own.Go p e below _ (T52.setTop (mkF m 161 #[.val (.long r), .second, .val (.int hs), .val (.int ns), .val (.int zs), .val (.int (3 : Int32)), .val (.int (Int32.ofNat hh)), .val (.long v36), .second, .val (.ref b44), .val (.int (if (31 : Int32) < ((Int32.ofNat hh) - (1 : Int32)) then (31 : Int32) else ((Int32.ofNat hh) - (1 : Int32)))), .val (.long ((XT.ushrL v36 ((Int32.ofNat hh) - (1 : Int32))) &&& (1 : Int64))), .second, .val (.int ((Int32.ofNat hh) - (1 : Int32)))] [(.int (Int32.ofNat (own_arg (own_g (own_put (own_put (own_put (fun _ => 0) v36) v36) v36) ((((0 : Int64) + (1 : Int64)) + (1 : Int64)) + (1 : Int64))) 31)))]))
          refine Own.iload X52 hx (pc := 161) (hb hby at_161) rfl ?_
          refine Own.icmpNo X52 hx (pc := 163) (hb hby at_163) (XT.ii_ne_f (own_bigA3 hv hhD c49 c50)) ?_
          refine Own.iconst X52 hx (pc := 166) (1 : Int32) (hb hby at_166) (by decide) ?_
          refine Own.goto X52 hx (pc := 167) 171 (hb hby at_167) (by decide) (by decide) ?_
          exact Own.ireturn X52 hx hk hret (by simp) rfl (hb hby at_171) e52 ⟨rfl, N52⟩ (by decide) (by decide)
        · refine Own.ifYes X48 hx (pc := 133) 143 (hb hby at_133) (XT.ll_ne_t c50) (by decide) (by decide) ?_
          refine Own.iload X48 hx (pc := 143) (hb hby at_143) rfl ?_
          refine Own.istore X48 hx (pc := 145) #[.val (.long r), .second, .val (.int hs), .val (.int ns), .val (.int zs), .val (.int (3 : Int32)), .val (.int (Int32.ofNat hh)), .val (.long v36), .second, .val (.ref b44), .unset, .val (.long ((XT.ushrL v36 ((Int32.ofNat hh) - (1 : Int32))) &&& (1 : Int64))), .second, .val (.int (Int32.ofNat hh))] (hb hby at_145) rfl ?_
          refine Own.iload X48 hx (pc := 147) (hb hby at_147) rfl ?_
          refine Own.bipush X48 hx (pc := 149) (31 : Int32) (hb hby at_149) (by decide) ?_
          refine Own.callStatic X48 hx hZ (pc := 151) (y := (⟨"java/lang/Math", "min", "(II)I"⟩ : MethodName)) hown (Wd hw 26 rfl) (Wd hw 27 rfl) (Wd hw 28 rfl) (Wd hw 29 rfl) (by decide) 0 [(.int (Int32.ofNat hh)), (.int (31 : Int32))] [] (rm5 l Z a0 hw (Int32.ofNat hh) (31 : Int32) T48.heap n0 sz48 ) (by decide) (by decide) e48 (by rw [hml]; rfl) pd4 rfl rfl (Nat.le_of_eq rfl) (hb hby at_151) (by decide) (by decide) ?_
          intro T53 L53 v53 X53 hQ53
          obtain ⟨rfl, Nq53, e53⟩ := hQ53
          have N53 := Fr.app N48 Nq53
          show Own.Go p e below _ (T53.setTop (mkF m 154 #[.val (.long r), .second, .val (.int hs), .val (.int ns), .val (.int zs), .val (.int (3 : Int32)), .val (.int (Int32.ofNat hh)), .val (.long v36), .second, .val (.ref b44), .unset, .val (.long ((XT.ushrL v36 ((Int32.ofNat hh) - (1 : Int32))) &&& (1 : Int64))), .second, .val (.int (Int32.ofNat hh))] [(.int (if (31 : Int32) < (Int32.ofNat hh) then (31 : Int32) else (Int32.ofNat hh)))]))
          refine Own.istore X53 hx (pc := 154) #[.val (.long r), .second, .val (.int hs), .val (.int ns), .val (.int zs), .val (.int (3 : Int32)), .val (.int (Int32.ofNat hh)), .val (.long v36), .second, .val (.ref b44), .val (.int (if (31 : Int32) < (Int32.ofNat hh) then (31 : Int32) else (Int32.ofNat hh))), .val (.long ((XT.ushrL v36 ((Int32.ofNat hh) - (1 : Int32))) &&& (1 : Int64))), .second, .val (.int (Int32.ofNat hh))] (hb hby at_154) rfl ?_
          refine Own.aload X53 hx (pc := 156) (hb hby at_156) rfl rfl ?_
          refine Own.callVirtual X53 hx hZ (pc := 158) (y := (⟨"com/example/ranker/ranker/index/BitWriter$RiceParameter", "best", "()I"⟩ : MethodName)) (z := (⟨"com/example/ranker/ranker/index/BitWriter$RiceParameter", "best", "()I"⟩ : MethodName)) hown (Wd hw 21 rfl) (Wd hw 22 rfl) (Wd hw 24 rfl) (Wd hw 23 rfl) (Wd hw 3 rfl) (Wd hw 25 rfl) (Wd hw 24 rfl) (by decide) 0 b44 [] [] E_b44 (rm4 l Z a0 hw b44 qa_45 ((((0 : Int64) + (1 : Int64)) + (1 : Int64)) + (1 : Int64)) (own_put (own_put (own_put (fun _ => 0) v36) v36) v36) T48.heap n0 sz48 F_b44_quotients F_b44_count V_qa_45) (by decide) (by decide) e53 (by rw [hml]; rfl) pd3 rfl rfl (Nat.le_of_eq rfl) (hb hby at_158) (by decide) (by decide) ?_
          intro T54 L54 v54 X54 hQ54
          obtain ⟨rfl, Nq54, e54⟩ := hQ54
          have N54 := Fr.app N53 Nq54
          show Own.Go p e below _ (T54.setTop (mkF m 161 #[.val (.long r), .second, .val (.int hs), .val (.int ns), .val (.int zs), .val (.int (3 : Int32)), .val (.int (Int32.ofNat hh)), .val (.long v36), .second, .val (.ref b44), .val (.int (if (31 : Int32) < (Int32.ofNat hh) then (31 : Int32) else (Int32.ofNat hh))), .val (.long ((XT.ushrL v36 ((Int32.ofNat hh) - (1 : Int32))) &&& (1 : Int64))), .second, .val (.int (Int32.ofNat hh))] [(.int (Int32.ofNat (own_arg (own_g (own_put (own_put (own_put (fun _ => 0) v36) v36) v36) ((((0 : Int64) + (1 : Int64)) + (1 : Int64)) + (1 : Int64))) 31)))]))
          refine Own.iload X54 hx (pc := 161) (hb hby at_161) rfl ?_
          refine Own.icmpNo X54 hx (pc := 163) (hb hby at_163) (XT.ii_ne_f (own_bigB3 hv hhD c49 c50)) ?_
          refine Own.iconst X54 hx (pc := 166) (1 : Int32) (hb hby at_166) (by decide) ?_
          refine Own.goto X54 hx (pc := 167) 171 (hb hby at_167) (by decide) (by decide) ?_
          exact Own.ireturn X54 hx hk hret (by simp) rfl (hb hby at_171) e54 ⟨rfl, N54⟩ (by decide) (by decide)
      · refine Own.ifNo X48 hx (pc := 109) (hb hby at_109) (XT.ll_gt_f c49) ?_
        refine Own.iconst X48 hx (pc := 112) (0 : Int32) (hb hby at_112) (by decide) ?_
        refine Own.istore X48 hx (pc := 113) #[.val (.long r), .second, .val (.int hs), .val (.int ns), .val (.int zs), .val (.int (3 : Int32)), .val (.int (Int32.ofNat hh)), .val (.long v36), .second, .val (.ref b44), .val (.int (0 : Int32)), .unset, .unset, .unset] (hb hby at_113) rfl ?_
        refine Own.goto X48 hx (pc := 115) 156 (hb hby at_115) (by decide) (by decide) ?_
        refine Own.aload X48 hx (pc := 156) (hb hby at_156) rfl rfl ?_
        refine Own.callVirtual X48 hx hZ (pc := 158) (y := (⟨"com/example/ranker/ranker/index/BitWriter$RiceParameter", "best", "()I"⟩ : MethodName)) (z := (⟨"com/example/ranker/ranker/index/BitWriter$RiceParameter", "best", "()I"⟩ : MethodName)) hown (Wd hw 21 rfl) (Wd hw 22 rfl) (Wd hw 24 rfl) (Wd hw 23 rfl) (Wd hw 3 rfl) (Wd hw 25 rfl) (Wd hw 24 rfl) (by decide) 0 b44 [] [] E_b44 (rm4 l Z a0 hw b44 qa_45 ((((0 : Int64) + (1 : Int64)) + (1 : Int64)) + (1 : Int64)) (own_put (own_put (own_put (fun _ => 0) v36) v36) v36) T48.heap n0 sz48 F_b44_quotients F_b44_count V_qa_45) (by decide) (by decide) e48 (by rw [hml]; rfl) pd3 rfl rfl (Nat.le_of_eq rfl) (hb hby at_158) (by decide) (by decide) ?_
        intro T55 L55 v55 X55 hQ55
        obtain ⟨rfl, Nq55, e55⟩ := hQ55
        have N55 := Fr.app N48 Nq55
        show Own.Go p e below _ (T55.setTop (mkF m 161 #[.val (.long r), .second, .val (.int hs), .val (.int ns), .val (.int zs), .val (.int (3 : Int32)), .val (.int (Int32.ofNat hh)), .val (.long v36), .second, .val (.ref b44), .val (.int (0 : Int32)), .unset, .unset, .unset] [(.int (Int32.ofNat (own_arg (own_g (own_put (own_put (own_put (fun _ => 0) v36) v36) v36) ((((0 : Int64) + (1 : Int64)) + (1 : Int64)) + (1 : Int64))) 31)))]))
        refine Own.iload X55 hx (pc := 161) (hb hby at_161) rfl ?_
        refine Own.icmpNo X55 hx (pc := 163) (hb hby at_163) (XT.ii_ne_f (own_small3 hv hhD c49)) ?_
        refine Own.iconst X55 hx (pc := 166) (1 : Int32) (hb hby at_166) (by decide) ?_
        refine Own.goto X55 hx (pc := 167) 171 (hb hby at_167) (by decide) (by decide) ?_
        exact Own.ireturn X55 hx hk hret (by simp) rfl (hb hby at_171) e55 ⟨rfl, N55⟩ (by decide) (by decide)
set_option maxRecDepth 65536 in
set_option maxHeartbeats 40000000 in
theorem comes_1 {Post : Tables → Env → Array Value → State → Outcome → State → Prop} (hpost : ∀ tb e args s v u, (limb_1_1.after args s (.returned v) u = true ∧ limb_1_2.after args s (.returned v) u = true ∧ True) → FrameEnd s (.returned v) u (Jvm.fieldLocs frame_1_writes args s ++ Jvm.arrayLocs frame_1_arrays args s ++ Jvm.staticLocs frame_1_statics s) 16 192 → Post tb e args s (.returned v) u) :
    ArmFor flags0 classFile x code maxLocals ret World_1 tables_1 room_1 Calls_1 rest_1 Pre_1 Post := by
  intro l hfl _ _ p e ha hc hk s m args below hf hA hF happ hP
  obtain ⟨hcalls, hrest, hpre⟩ := hP
  obtain ⟨-, -, -, hnamed, -, -, -, hat⟩ := (Spec.applies_iff hf).mp happ
  obtain ⟨hg, hn⟩ := and_e (Cond.before_iff.mp (show (Jvm.Cond.and given_1 narrow_1).before args s = true from hpre))
  obtain ⟨hcount, r0⟩ := and_e hg
  obtain ⟨g0, r1⟩ := and_e r0
  obtain ⟨g1, r2⟩ := and_e r1
  obtain ⟨g2, r3⟩ := and_e r2
  obtain ⟨w0, w1, w2, w3, rfl⟩ : ∃ w0 w1 w2 w3 : Value, args = #[w0, w1, w2, w3] := by
    have hs : args.size = 4 := by simpa [Cond.value, given_1] using hcount
    obtain ⟨L⟩ := args
    match L, hs with
    | [w0, w1, w2, w3], _ => exact ⟨w0, w1, w2, w3, rfl⟩
  have hw := fun d (hd : d ∈ tables_1) => atoms_spec (ws := Jvm.Cond.code x code maxLocals ret :: tables_1) hat d (List.mem_cons_of_mem _ hd)
  obtain ⟨i0, e0⟩ := isL_v g0
  obtain rfl : w0 = (.long i0) := Option.some.inj e0
  obtain ⟨i1, e1⟩ := is_v g1
  obtain rfl : w1 = (.int i1) := Option.some.inj e1
  obtain ⟨i2, e2⟩ := is_v g2
  obtain rfl : w2 = (.int i2) := Option.some.inj e2
  obtain ⟨i3, e3⟩ := is_v r3
  obtain rfl : w3 = (.int i3) := Option.some.inj e3
  obtain ⟨n, o, h1, h2, h3, _, L, rfl, ⟨rfl, N⟩, hq⟩ := rm0 l s _ hw i0 i1 i2 i3 s.heap s.heap.size (Nat.le_refl _) p e ha hc hk s m _ below hf ((Spec.applies_iff_loose hf).mp happ).1 ⟨rfl, State.Warmed39.refl s, rfl⟩ trivial
  refine ⟨n, _, h1, h2, h3, hpost _ _ _ _ _ _ ⟨Cond.after_iff.mpr rfl, Cond.after_iff.mpr (eq_i res_at (Term.int_eval (1)) rfl), trivial⟩ ⟨hq.1, hq.2.1, (hq.2.2.sift fun y hy => Or.inr (N y hy)).mono (by decide) (by decide)⟩⟩
theorem main_1_1 : Claimed_1_1 := comes_1 fun _ _ _ _ _ _ h hF => ⟨h.1, hF⟩
theorem main_1_2 : Claimed_1_2 := comes_1 fun _ _ _ _ _ _ h hF => ⟨h.2.1, hF⟩
end Jvm.Pilot.@@N@@
namespace Jvm.Pilot.@@N@@
open Jvm Jvm.ClassFile Sem Op Lib Jvm.Free Jvm.Stand Jvm.Pilot.@@N@@.Jvm.D
/-! MADE BY PROGRAM (witnessworld.py) out of the Statement's table words and the real class files: 12 classes; the members and pool entries that the words name. The judged class is class 1, her method 1. -/
namespace start1
open Jvm.ClassFile
def u (s : String) : CpInfo := .utf8 (stringToUtf16 s)
/-- a pool by its gaps: so many unusable entries, then the entry; so many at the end -/
def gap : Nat → List CpInfo → List CpInfo
  | 0, r => r
  | n + 1, r => .unusable :: gap n r
def poolList (es : List (Nat × CpInfo)) (last : Nat) : List CpInfo := es.foldr (fun e r => gap e.1 (e.2 :: r)) (gap last [])
def pool (es : List (Nat × CpInfo)) (last : Nat) : Array CpInfo := ⟨poolList es last⟩
def fileOf (pool : Array CpInfo) (this : Nat) (attrs : Array Attribute := #[]) (ms : Array MethodInfo := #[]) (fl : Nat := 33) (sup : Nat := 0) (ifs : Array Nat := #[]) (fds : Array FieldInfo := #[]) : ClassFile where
  minorVersion := 0
  majorVersion := 65
  constantPool := pool
  accessFlags := fl
  thisClass := this
  superClass := sup
  interfaces := ifs
  fields := fds
  methods := ms
  attributes := attrs
def plain (name : String) (sup : Option ClassId) : Class where
  name := name
  kind := .ordinary
  loader := none
  accessFlags := 33
  super := sup
  interfaces := #[]
  cf := none
  fields := #[]
  methods := #[]
  instanceTypes := #[]
  staticTypes := #[]
  resolved := #[]
  callSites := []
  init := .initialized
  statics := none
  mirror := none

def pool0 : Array CpInfo := pool [(5, u "<init>"), (0, u "()V"), (1, .class_ 10), (1, u "java/lang/Object")] 113

def k0c0 : Code := { maxStack := 0, maxLocals := 1, code := object_method_1_code, exceptionTable := #[], attributes := #[] }
def k0m0 : Method := { name := "<init>", desc := "()V", sig := { parameters := [], returnType := none }, accessFlags := 1, code := some k0c0 }
/-- java/lang/Object -/
def k0 : Class := { plain "java/lang/Object" none with
  accessFlags := 33
  interfaces := #[]
  cf := some (fileOf pool0 8 #[] #[{ accessFlags := 1, nameIndex := 5, descriptorIndex := 6, attributes := #[] }] 33 0 #[] #[])
  fields := #[]
  methods := #[k0m0]
  instanceTypes := #[]
  staticTypes := #[]
  resolved := Array.replicate 124 none
  statics := none }

def pool1 : Array CpInfo := pool [(2, .class_ 4), (0, .nameAndType 5 6), (0, u "java/lang/Object"), (0, u "<init>"), (0, u "()V"), (0, .integer 2147483647), (0, .class_ 9), (0, u "com/example/ranker/ranker/index/BitWriter$RiceParameter"), (0, .methodref 8 3), (0, .methodref 8 12), (0, .nameAndType 13 14), (0, u "add"), (0, u "(J)V"), (0, .long 2), (1, .methodref 18 19), (0, .class_ 20), (0, .nameAndType 21 22), (0, u "java/lang/Math"), (0, u "min"), (0, u "(II)I"), (0, .methodref 8 24), (0, .nameAndType 25 26), (0, u "best"), (0, u "()I"), (0, .class_ 28), (0, u "com/example/ranker/ranker/index/RiceParameterAddPinLaw"), (2, u "law"), (0, u "(JIII)Z")] 7

def k1m0 : Method := { name := "<init>", desc := "()V", sig := { parameters := [], returnType := none }, accessFlags := 2, code := none }
def k1c1 : Code := { maxStack := 8, maxLocals := 14, code := code, exceptionTable := #[], attributes := #[] }
def k1m1 : Method := { name := "law", desc := "(JIII)Z", sig := { parameters := [.long, .int, .int, .int], returnType := some .boolean }, accessFlags := 9, code := some k1c1 }
/-- com/example/ranker/ranker/index/RiceParameterAddPinLaw -/
def k1 : Class := { plain "com/example/ranker/ranker/index/RiceParameterAddPinLaw" (some 0) with
  accessFlags := 49
  interfaces := #[]
  cf := some (fileOf pool1 27 #[] #[{ accessFlags := 2, nameIndex := 5, descriptorIndex := 6, attributes := #[] }, { accessFlags := 9, nameIndex := 31, descriptorIndex := 32, attributes := #[] }] 49 2 #[] #[])
  fields := #[]
  methods := #[k1m0, k1m1]
  instanceTypes := #[]
  staticTypes := #[]
  resolved := Array.replicate 40 none
  statics := none }

def pool2 : Array CpInfo := pool [(1, .methodref 2 3), (0, .class_ 4), (0, .nameAndType 5 6), (0, u "java/lang/Object"), (0, u "<init>"), (0, u "()V"), (0, .class_ 8), (0, u "com/example/ranker/ranker/index/BitWriter$RiceParameter"), (0, .fieldref 7 10), (0, .nameAndType 11 12), (0, u "quotients"), (0, u "[J"), (0, .fieldref 7 14), (0, .nameAndType 15 16), (0, u "count"), (0, u "J"), (0, u "LARGEST"), (0, u "I"), (4, u "add"), (0, u "(J)V"), (1, u "best"), (0, u "()I"), (3, .class_ 32), (0, u "com/example/ranker/ranker/index/BitWriter")] 2

def k2c0 : Code := { maxStack := 2, maxLocals := 1, code := prog_19_method_1_code, exceptionTable := #[], attributes := #[] }
def k2m0 : Method := { name := "<init>", desc := "()V", sig := { parameters := [], returnType := none }, accessFlags := 0, code := some k2c0 }
def k2c1 : Code := { maxStack := 7, maxLocals := 4, code := prog_19_method_2_code, exceptionTable := #[], attributes := #[] }
def k2m1 : Method := { name := "add", desc := "(J)V", sig := { parameters := [.long], returnType := none }, accessFlags := 0, code := some k2c1 }
def k2c2 : Code := { maxStack := 8, maxLocals := 3, code := prog_19_method_3_code, exceptionTable := #[], attributes := #[] }
def k2m2 : Method := { name := "best", desc := "()I", sig := { parameters := [], returnType := some .int }, accessFlags := 0, code := some k2c2 }
/-- com/example/ranker/ranker/index/BitWriter$RiceParameter -/
def k2 : Class := { plain "com/example/ranker/ranker/index/BitWriter$RiceParameter" (some 0) with
  accessFlags := 32
  interfaces := #[]
  cf := some (fileOf pool2 7 #[.nestHost 31] #[{ accessFlags := 0, nameIndex := 5, descriptorIndex := 6, attributes := #[] }, { accessFlags := 0, nameIndex := 23, descriptorIndex := 24, attributes := #[] }, { accessFlags := 0, nameIndex := 26, descriptorIndex := 27, attributes := #[] }] 32 2 #[] #[{ accessFlags := 26, nameIndex := 17, descriptorIndex := 18, attributes := #[] }, { accessFlags := 18, nameIndex := 11, descriptorIndex := 12, attributes := #[] }, { accessFlags := 2, nameIndex := 15, descriptorIndex := 16, attributes := #[] }])
  fields := #[{ name := "LARGEST", type := .int, accessFlags := 26, slot := 0, constantValue := 0 }, { name := "quotients", type := (.array .long), accessFlags := 18, slot := 0, constantValue := 0 }, { name := "count", type := .long, accessFlags := 2, slot := 1, constantValue := 0 }]
  methods := #[k2m0, k2m1, k2m2]
  instanceTypes := #[(.array .long), .long]
  staticTypes := #[.int]
  resolved := Array.replicate 35 none
  statics := none }

def pool3 : Array CpInfo := pool [(1, .class_ 2), (0, u "java/lang/Math"), (1, .class_ 6), (1, u "java/lang/Object"), (0, u "<init>"), (0, u "()V"), (89, .class_ 100), (1, u "java/lang/Math$RandomNumberGeneratorHolder"), (71, u "negativeZeroFloatBits"), (0, u "J"), (2, u "negativeZeroDoubleBits"), (24, u "min"), (43, u "$assertionsDisabled"), (0, u "Z"), (88, u "(II)I"), (2, u "twoToTheDoubleScaleDown"), (0, u "D"), (4, u "twoToTheDoubleScaleUp"), (9, u "E"), (3, u "PI"), (2, u "TAU"), (2, u "DEGREES_TO_RADIANS"), (0, u "RADIANS_TO_DEGREES")] 94

def k3m0 : Method := { name := "<init>", desc := "()V", sig := { parameters := [], returnType := none }, accessFlags := 2, code := none }
def k3c1 : Code := { maxStack := 2, maxLocals := 2, code := jdk_29_method_69_code, exceptionTable := #[], attributes := #[] }
def k3m1 : Method := { name := "min", desc := "(II)I", sig := { parameters := [.int, .int], returnType := some .int }, accessFlags := 9, code := some k3c1 }
/-- java/lang/Math -/
def k3 : Class := { plain "java/lang/Math" (some 0) with
  accessFlags := 49
  interfaces := #[]
  cf := some (fileOf pool3 1 #[.nestMembers #[98]] #[{ accessFlags := 2, nameIndex := 7, descriptorIndex := 8, attributes := #[] }, { accessFlags := 9, nameIndex := 201, descriptorIndex := 335, attributes := #[] }] 49 4 #[] #[{ accessFlags := 25, nameIndex := 354, descriptorIndex := 339, attributes := #[] }, { accessFlags := 25, nameIndex := 358, descriptorIndex := 339, attributes := #[] }, { accessFlags := 25, nameIndex := 361, descriptorIndex := 339, attributes := #[] }, { accessFlags := 26, nameIndex := 364, descriptorIndex := 339, attributes := #[] }, { accessFlags := 26, nameIndex := 365, descriptorIndex := 339, attributes := #[] }, { accessFlags := 26, nameIndex := 172, descriptorIndex := 173, attributes := #[] }, { accessFlags := 26, nameIndex := 176, descriptorIndex := 173, attributes := #[] }, { accessFlags := 8, nameIndex := 344, descriptorIndex := 339, attributes := #[] }, { accessFlags := 8, nameIndex := 338, descriptorIndex := 339, attributes := #[] }, { accessFlags := 4120, nameIndex := 245, descriptorIndex := 246, attributes := #[] }])
  fields := #[{ name := "E", type := .double, accessFlags := 25, slot := 0, constantValue := 0 }, { name := "PI", type := .double, accessFlags := 25, slot := 1, constantValue := 0 }, { name := "TAU", type := .double, accessFlags := 25, slot := 2, constantValue := 0 }, { name := "DEGREES_TO_RADIANS", type := .double, accessFlags := 26, slot := 3, constantValue := 0 }, { name := "RADIANS_TO_DEGREES", type := .double, accessFlags := 26, slot := 4, constantValue := 0 }, { name := "negativeZeroFloatBits", type := .long, accessFlags := 26, slot := 5, constantValue := 0 }, { name := "negativeZeroDoubleBits", type := .long, accessFlags := 26, slot := 6, constantValue := 0 }, { name := "twoToTheDoubleScaleUp", type := .double, accessFlags := 8, slot := 7, constantValue := 0 }, { name := "twoToTheDoubleScaleDown", type := .double, accessFlags := 8, slot := 8, constantValue := 0 }, { name := "$assertionsDisabled", type := .boolean, accessFlags := 4120, slot := 9, constantValue := 0 }]
  methods := #[k3m0, k3m1]
  instanceTypes := #[]
  staticTypes := #[.double, .double, .double, .double, .double, .long, .long, .double, .double, .boolean]
  resolved := Array.replicate 460 none
  statics := none }

def pool4 : Array CpInfo := pool [(1, u "java/lang/Cloneable"), (0, .class_ 1), (0, u "java/lang/Object"), (0, .class_ 3)] 3

/-- java/lang/Cloneable -/
def k4 : Class := { plain "java/lang/Cloneable" (some 0) with
  accessFlags := 1537
  interfaces := #[]
  cf := some (fileOf pool4 2 #[] #[] 1537 4 #[] #[])
  fields := #[]
  methods := #[]
  instanceTypes := #[]
  staticTypes := #[]
  resolved := Array.replicate 8 none
  statics := none }

def pool5 : Array CpInfo := pool [(1, u "java/io/Serializable"), (0, .class_ 1), (0, u "java/lang/Object"), (0, .class_ 3)] 3

/-- java/io/Serializable -/
def k5 : Class := { plain "java/io/Serializable" (some 0) with
  accessFlags := 1537
  interfaces := #[]
  cf := some (fileOf pool5 2 #[] #[] 1537 4 #[] #[])
  fields := #[]
  methods := #[]
  instanceTypes := #[]
  staticTypes := #[]
  resolved := Array.replicate 8 none
  statics := none }

/-- the primitive byte -/
def k6 : Class := { plain "byte" none with kind := .primitive 'B', accessFlags := 0x411 }
/-- [B -/
def k7 : Class := { plain "[B" (some 0) with kind := .array 6 .byte, interfaces := #[4, 5], accessFlags := 1041 }

/-- the primitive int -/
def k8 : Class := { plain "int" none with kind := .primitive 'I', accessFlags := 0x411 }
/-- [I -/
def k9 : Class := { plain "[I" (some 0) with kind := .array 8 .int, interfaces := #[4, 5], accessFlags := 1041 }

/-- the primitive long -/
def k10 : Class := { plain "long" none with kind := .primitive 'J', accessFlags := 0x411 }
/-- [J -/
def k11 : Class := { plain "[J" (some 0) with kind := .array 10 .long, interfaces := #[4, 5], accessFlags := 1041 }

def heap : Heap := #[]
def classes : Array Class := #[k0, k1, k2, k3, k4, k5, k6, k7, k8, k9, k10, k11]
def interned : List (Array UInt16 × Addr) := []
def slotsUsed : Nat := 0
def theMethod : MethodId := ⟨1, 1⟩
def args0 : Array Value := #[.long 5, .int 6, .int 7, .int 2]
def aboutOver (below : List Frame) : State where
  vm := { classes := classes, interned := interned.toArray }
  heap := heap
  slotsUsed := slotsUsed
  threads := #[{ frames := .invoking theMethod args0 :: below }]
def below0 : List Frame := [.native { method := ⟨0, 0⟩, args := #[] }]
def about1 : State := aboutOver below0
def p0 : Program := .bare "" "" ""
def e0 : Env := launch0.env 0 0 0
theorem w_frames : about1.frames = Frame.invoking theMethod args0 :: below0 := rfl
set_option maxRecDepth 65536 in
theorem w_args : argsFit about1.vm theMethod args0 = true := by decide +kernel
set_option maxRecDepth 65536 in
theorem w_heap : heapFits about1 = true := by decide +kernel
set_option maxRecDepth 65536 in
theorem w_runnable : about1.curStatus? = some .runnable := by decide +kernel
set_option maxRecDepth 65536 in
theorem w_alone : about1.alone = true := by decide +kernel
set_option maxRecDepth 65536 in
theorem w_named : about1.methodNamed? x = some theMethod := by decide +kernel
set_option maxRecDepth 65536 in
theorem w_hears : about1.hears theMethod below0 = true := by decide +kernel
set_option maxRecDepth 65536 in
theorem w_ripe : about1.ripe theMethod args0 below0 = true := by decide +kernel
theorem w_running : about1.status = .running := rfl
set_option maxRecDepth 65536 in
theorem w_room : about1.hasRoom e0.platform room_1 = true :=
  launch0.hasRoom_least _ room_1 (by decide +kernel) (by decide +kernel) (by decide +kernel) (by decide +kernel) (by decide +kernel) (by decide +kernel)
theorem allAtoms_all (ts : List Jvm.Cond) (a : Array Jvm.Value) (st : Jvm.State) : (allAtoms ts).before a st = ts.all (fun c => c.before a st) := by
  induction ts with
  | nil => rfl
  | cons c t ih =>
    show (Jvm.Cond.and c (allAtoms t)).before a st = _
    rw [Jvm.Cond.before_and, ih, List.all_cons]
def words1 : List Jvm.Cond := Jvm.Cond.code x code maxLocals ret :: tables_1
/-- a 'code' word, met by the world's own term for the bytes: nothing is compared byte by byte -/
theorem code_word {y : MethodName} {bytes : ByteArray} {mx : Nat} {rt : Option FieldType} {a : Array Value} {s : State} {m : MethodId} {meth : Method} {c : Code} (h1 : s.methodNamed? y = some m) (h2 : s.vm.method? m = some meth) (h3 : meth.code = some c) (h4 : c.code = bytes)
    (h5 : (c.maxLocals == mx && c.exceptionTable.isEmpty && decide (c.maxStack ≤ mostOperands) && decide (meth.sig.returnType = rt) && !meth.locks && decide (parseMethodDescriptor y.desc = some meth.sig)) = true) : (Jvm.Cond.code y bytes mx rt).before a s = true := by
  simp only [Bool.and_eq_true, beq_iff_eq, Bool.not_eq_true', decide_eq_true_eq] at h5
  obtain ⟨⟨⟨⟨⟨g1, g2⟩, g3⟩, g4⟩, g5⟩, g6⟩ := h5
  simp [Cond.before, Cond.holds, Cond.value, h1, h2, h3, h4, g1, g2, g3, g4, g5, g6]
def isCode : Jvm.Cond → Bool
  | .code _ _ _ _ => true
  | _ => false
theorem all_split {L : List Jvm.Cond} {P : Jvm.Cond → Bool} (h1 : L.all (fun c => isCode c || P c) = true) (h2 : ∀ c ∈ L.filter isCode, P c = true) : L.all P = true := by
  refine List.all_eq_true.mpr fun c hc => ?_
  have h := List.all_eq_true.mp h1 c hc
  rcases Bool.eq_false_or_eq_true (isCode c) with hi | hi
  · exact h2 c (List.mem_filter.mpr ⟨hc, hi⟩)
  · simpa [hi] using h
set_option maxRecDepth 65536 in
theorem w_c0 : (Jvm.Cond.code x code maxLocals ret).before args0 about1 = true := code_word (m := ⟨1, 1⟩) (meth := k1m1) (c := k1c1) (by decide +kernel) rfl rfl rfl (by decide +kernel)
set_option maxRecDepth 65536 in
theorem w_c1 : (Jvm.Cond.code ({ cls := "com/example/ranker/ranker/index/BitWriter$RiceParameter", name := "<init>", desc := "()V" } : Jvm.MethodName) prog_19_method_1_code (1 : Nat) (Option.none : Option Jvm.ClassFile.FieldType)).before args0 about1 = true := code_word (m := ⟨2, 0⟩) (meth := k2m0) (c := k2c0) (by decide +kernel) rfl rfl rfl (by decide +kernel)
set_option maxRecDepth 65536 in
theorem w_c2 : (Jvm.Cond.code ({ cls := "java/lang/Object", name := "<init>", desc := "()V" } : Jvm.MethodName) object_method_1_code (1 : Nat) (Option.none : Option Jvm.ClassFile.FieldType)).before args0 about1 = true := code_word (m := ⟨0, 0⟩) (meth := k0m0) (c := k0c0) (by decide +kernel) rfl rfl rfl (by decide +kernel)
set_option maxRecDepth 65536 in
theorem w_c3 : (Jvm.Cond.code ({ cls := "com/example/ranker/ranker/index/BitWriter$RiceParameter", name := "add", desc := "(J)V" } : Jvm.MethodName) prog_19_method_2_code (4 : Nat) (Option.none : Option Jvm.ClassFile.FieldType)).before args0 about1 = true := code_word (m := ⟨2, 1⟩) (meth := k2m1) (c := k2c1) (by decide +kernel) rfl rfl rfl (by decide +kernel)
set_option maxRecDepth 65536 in
theorem w_c4 : (Jvm.Cond.code ({ cls := "com/example/ranker/ranker/index/BitWriter$RiceParameter", name := "best", desc := "()I" } : Jvm.MethodName) prog_19_method_3_code (3 : Nat) (Option.some Jvm.ClassFile.FieldType.int)).before args0 about1 = true := code_word (m := ⟨2, 2⟩) (meth := k2m2) (c := k2c2) (by decide +kernel) rfl rfl rfl (by decide +kernel)
set_option maxRecDepth 65536 in
theorem w_c5 : (Jvm.Cond.code ({ cls := "java/lang/Math", name := "min", desc := "(II)I" } : Jvm.MethodName) jdk_29_method_69_code (2 : Nat) (Option.some Jvm.ClassFile.FieldType.int)).before args0 about1 = true := code_word (m := ⟨3, 1⟩) (meth := k3m1) (c := k3c1) (by decide +kernel) rfl rfl rfl (by decide +kernel)
def codes1 : List Jvm.Cond := [Jvm.Cond.code x code maxLocals ret, Jvm.Cond.code ({ cls := "com/example/ranker/ranker/index/BitWriter$RiceParameter", name := "<init>", desc := "()V" } : Jvm.MethodName) prog_19_method_1_code (1 : Nat) (Option.none : Option Jvm.ClassFile.FieldType), Jvm.Cond.code ({ cls := "java/lang/Object", name := "<init>", desc := "()V" } : Jvm.MethodName) object_method_1_code (1 : Nat) (Option.none : Option Jvm.ClassFile.FieldType), Jvm.Cond.code ({ cls := "com/example/ranker/ranker/index/BitWriter$RiceParameter", name := "add", desc := "(J)V" } : Jvm.MethodName) prog_19_method_2_code (4 : Nat) (Option.none : Option Jvm.ClassFile.FieldType), Jvm.Cond.code ({ cls := "com/example/ranker/ranker/index/BitWriter$RiceParameter", name := "best", desc := "()I" } : Jvm.MethodName) prog_19_method_3_code (3 : Nat) (Option.some Jvm.ClassFile.FieldType.int), Jvm.Cond.code ({ cls := "java/lang/Math", name := "min", desc := "(II)I" } : Jvm.MethodName) jdk_29_method_69_code (2 : Nat) (Option.some Jvm.ClassFile.FieldType.int)]
set_option maxRecDepth 65536 in
theorem codes_eq : words1.filter isCode = codes1 := rfl
theorem w_codes : ∀ c ∈ words1.filter isCode, c.before args0 about1 = true := by
  rw [codes_eq]
  intro c hc
  simp only [codes1, List.mem_cons, List.not_mem_nil, or_false] at hc
  rcases hc with rfl | rfl | rfl | rfl | rfl | rfl
  · exact w_c0
  · exact w_c1
  · exact w_c2
  · exact w_c3
  · exact w_c4
  · exact w_c5
set_option maxRecDepth 65536 in
theorem w_t1 : (words1.take 24).all (fun c => isCode c || c.before args0 about1) = true := by decide +kernel
set_option maxRecDepth 65536 in
theorem w_t2 : (words1.drop 24).all (fun c => isCode c || c.before args0 about1) = true := by decide +kernel
theorem w_tables : (allAtoms (Jvm.Cond.code x code maxLocals ret :: tables_1)).before args0 about1 = true := by
  rw [allAtoms_all]
  show words1.all (fun c => c.before args0 about1) = true
  refine all_split ?_ w_codes
  rw [← List.take_append_drop 24 words1, List.all_append, w_t1, w_t2]
  rfl
set_option maxRecDepth 65536 in
theorem w_case : (Jvm.Cond.and given_1 narrow_1).before args0 about1 = true := by decide +kernel
theorem w_applies : (headSpec (Jvm.Cond.code x code maxLocals ret :: tables_1) room_1).applies x e0.platform about1 = true :=
  (Spec.applies_iff w_frames).mpr ⟨w_running, w_runnable, w_alone, w_named, w_hears, w_ripe, w_room, w_tables⟩
theorem atStart : AtStart classFile x code maxLocals ret World_1 tables_1 room_1 Calls_1 rest_1 Pre_1 launch0 p0 e0 about1 theMethod args0 below0 :=
  ⟨lists_1, trivial, launch0.admits_env _ _ _, launch0.least_env, fairChoices_fair.cas, fairChoices_fair.clock, w_frames, w_args, w_heap, w_applies, trivial, trivial, w_case⟩
end start1
theorem witness_1 : WitnessClaimed_1 := ⟨start1.p0, start1.e0, start1.about1, start1.theMethod, start1.args0, start1.below0, start1.atStart⟩
end Jvm.Pilot.@@N@@
