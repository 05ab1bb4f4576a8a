import JvmDerived
import JvmDerived.Pilot.@@N@@Statement
import JvmDerived.Pilot.@@N@@Code
set_option linter.unusedVariables false
set_option linter.unusedSimpArgs false
@@BLOCK:NumsL.lean.txt@@
namespace Jvm.Pilot.@@N@@
open Jvm Jvm.ClassFile Sem Op Lib Jvm.Free Jvm.Stand Jvm.LawKit Jvm.RoadKit Bundle Jvm.Pilot.@@N@@.Jvm.D
section Own
variable {p : Program} {l : Launch} {e : Env} {R : Room} {s : State} {m : MethodId} {args : Array Value} {below : List Frame} {meth : Method} {c : Code} {Z : State} {a0 : Array Value} {own nm : String} {bs : ByteArray} {ml : Nat} {rt : Option FieldType} {n0 kc ks : Nat} {Q : Option Value → Heap → Prop} {F : Outcome → State → Prop} {T : State} {h : Heap} {k n : Nat} {pc pc' pc2 : Nat} {ls ls' : Array Slot} {st : List Value}
/-- all that a walk knows where it stands -/
def Here (p : Program) (l : Launch) (e : Env) (R : Room) (s : State) (m : MethodId) (args : Array Value) (below : List Frame) (meth : Method) (c : Code) (Z : State) (own nm : String) (bs : ByteArray) (ml : Nat) (rt : Option FieldType) (n0 : Nat) (T : State) (h : Heap) (k n : Nat) : Prop :=
  (p.tables.exec = Jvm.exec ∧ c.code = bs ∧ c.maxLocals = ml ∧ Z.Warmed39 s.vm ∧ s.vm.findClass own = some m.cls ∧ meth.name = nm ∧ meth.sig.returnType = rt ∧ meth.locks = false) ∧ n0 ≤ h.size ∧ T.heap = h ∧ ∃ locs, Stand p l e R s m args below meth c T locs k n ∧ Fr n0 locs
/-- from here the method returns, as Q says -/
def Run (p : Program) (e : Env) (below : List Frame) (F : Outcome → State → Prop) (T : State) (g : JFrame) : Prop :=
  ∃ s₂ o, Steps p.tables e below (T.setTop g) s₂ ∧ s₂.status = .running ∧ Ended s₂ below o ∧ F o s₂
/-- what a body's end owes -/
def Fnl (s : State) (n0 kc ks : Nat) (Q : Option Value → Heap → Prop) (o : Outcome) (s₂ : State) : Prop := ∃ v L, o = .returned v ∧ (Q v s₂.heap ∧ n0 ≤ s₂.heap.size ∧ Fr n0 L) ∧ FrameEnd s o s₂ L kc ks
/-- a body's contract -/
def Con (l : Launch) (Z : State) (y : MethodName) (bs : ByteArray) (ml : Nat) (rt : Option FieldType) (rm : Room) (as : Array Value) (h0 : Heap) (n0 kc ks : Nat) (Q : Option Value → Heap → Prop) : Prop :=
  ∀ ws, MetFree l y (head1 (Jvm.Cond.code y bs ml rt :: ws) rm) (fun a U => a = as ∧ Z.Warmed39 U.vm ∧ U.heap = h0) (fun _ _ _ _ _ => True) (fun _ U o U' => ∃ v L, o = .returned v ∧ (Q v U'.heap ∧ n0 ≤ U'.heap.size ∧ Fr n0 L) ∧ FrameEnd U o U' L kc ks)
theorem Run.of {T' : State} {g g' : JFrame} (q : ∀ t, Steps p.tables e below (T'.setTop g') t → Steps p.tables e below (T.setTop g) t) (r : Run p e below F T' g') : Run p e below F T g := by
  obtain ⟨s₂, o, w, r⟩ := r; exact ⟨s₂, o, q _ w, r⟩
theorem Con.of_body {y : MethodName} {rm : Room} {as : Array Value} (hp : plainName y.cls = true) (hef : ∀ m, entryFrame m as ml = mkF m 0 ls []) (Z0 : n0 ≤ h.size)
    (body : ∀ p e s m below meth c T, Here p l e rm s m as below meth c Z y.cls y.name bs ml rt n0 T h 0 0 → Run p e below (Fnl s n0 kc ks Q) T (mkF m 0 ls [])) : Con l Z y bs ml rt rm as h n0 kc ks Q := by
  intro ws
  refine MetFree.of_bodySF (plainFor_of_name hp) hisR ?_
  intro p e s m args below meth c s₁ Bd hml0 hP hK
  obtain ⟨rfl, hZ, hh⟩ := hP
  have e0 : s₁.heap = h := by rw [← hh, Bd.state]; rfl
  obtain ⟨s₂, o, q, r⟩ := body p e s m below meth c s₁ ⟨⟨Bd.exec, Bd.bytes, hml0, hZ, findClass_of_methodNamed Bd.named, (name_of_methodNamed Bd.named Bd.method).1, Bd.returns, Bd.notSynchronized⟩, Z0, e0, [], Stand.of_body Bd, Fr.nil n0⟩
  exact ⟨s₂, o, castTop (hef m) q, r⟩
theorem Here.sz (X : Here p l e R s m args below meth c Z own nm bs ml rt n0 T h k n) : n0 ≤ h.size := X.2.1
/-- the k-th word of the sheet -/
theorem wd (hw : ∀ d ∈ tables_1, d.before a0 Z = true) (i : Nat) {d : Jvm.Cond} (q : tables_1[i]? = some d) : d.before a0 Z = true := hw _ (List.mem_of_getElem? q)
def cnd : ClassFile.Cond → Int → Int → Prop
  | .eq, x, y => x = y
  | .ne, x, y => ¬ x = y
  | .lt, x, y => x < y
  | .ge, x, y => y ≤ x
  | .gt, x, y => y < x
  | .le, x, y => x ≤ y
theorem cnd_iff (cd : ClassFile.Cond) (x y : Int32) : if_icmp.holds cd x y = true ↔ cnd cd x.toInt y.toInt := by
  cases cd <;> simp [if_icmp.holds, cnd, Int32.lt_iff_toInt_lt, Int32.le_iff_toInt_le, ← Int32.toInt_inj]
theorem r_aloadN (X : Here p l e R s m args below meth c Z own nm bs ml rt n0 T h k n) {i : Fin 4} {a : Addr} (hd : decode bs pc = .ok (.aload_n i, 1)) (hl : ls[i.val]? = some (.val (.ref a))) (hp : pc + 1 = pc') (r : Run p e below F T (mkF m pc' ls (.ref a :: st))) : Run p e below F T (mkF m pc ls st) := by
  obtain ⟨⟨hx, hby, hml, hZ, hown, hnm, hret, hlk⟩, hs0, eT, locs, S, N⟩ := X
  subst hp
  exact Run.of (fun t q => XS.aloadN S.here hx rfl (hb hby hd) hl rfl q) r
theorem r_aload (X : Here p l e R s m args below meth c Z own nm bs ml rt n0 T h k n) {i : Nat} {a : Addr} (hd : decode bs pc = .ok (.aload i, 2)) (hl : ls[i]? = some (.val (.ref a))) (hp : pc + 2 = pc') (r : Run p e below F T (mkF m pc' ls (.ref a :: st))) : Run p e below F T (mkF m pc ls st) := by
  obtain ⟨⟨hx, hby, hml, hZ, hown, hnm, hret, hlk⟩, hs0, eT, locs, S, N⟩ := X
  subst hp
  exact Run.of (fun t q => XS.aload S.here hx rfl (hb hby hd) hl rfl q) r
theorem r_iloadN (X : Here p l e R s m args below meth c Z own nm bs ml rt n0 T h k n) {i : Fin 4} {v : Int32} (hd : decode bs pc = .ok (.iload_n i, 1)) (hl : ls[i.val]? = some (.val (.int v))) (hp : pc + 1 = pc') (r : Run p e below F T (mkF m pc' ls (.int v :: st))) : Run p e below F T (mkF m pc ls st) := by
  obtain ⟨⟨hx, hby, hml, hZ, hown, hnm, hret, hlk⟩, hs0, eT, locs, S, N⟩ := X
  subst hp
  exact Run.of (fun t q => XS.iloadN S.here hx rfl (hb hby hd) hl q) r
theorem r_iload (X : Here p l e R s m args below meth c Z own nm bs ml rt n0 T h k n) {i : Nat} {v : Int32} (hd : decode bs pc = .ok (.iload i, 2)) (hl : ls[i]? = some (.val (.int v))) (hp : pc + 2 = pc') (r : Run p e below F T (mkF m pc' ls (.int v :: st))) : Run p e below F T (mkF m pc ls st) := by
  obtain ⟨⟨hx, hby, hml, hZ, hown, hnm, hret, hlk⟩, hs0, eT, locs, S, N⟩ := X
  subst hp
  exact Run.of (fun t q => XS.iload S.here hx rfl (hb hby hd) hl q) r
theorem r_lloadN (X : Here p l e R s m args below meth c Z own nm bs ml rt n0 T h k n) {i : Fin 4} {v : Int64} (hd : decode bs pc = .ok (.lload_n i, 1)) (hl : ls[i.val]? = some (.val (.long v))) (hp : pc + 1 = pc') (r : Run p e below F T (mkF m pc' ls (.long v :: st))) : Run p e below F T (mkF m pc ls st) := by
  obtain ⟨⟨hx, hby, hml, hZ, hown, hnm, hret, hlk⟩, hs0, eT, locs, S, N⟩ := X
  subst hp
  exact Run.of (fun t q => XT.lloadN S.here hx rfl (hb hby hd) hl q) r
theorem r_lload (X : Here p l e R s m args below meth c Z own nm bs ml rt n0 T h k n) {i : Nat} {v : Int64} (hd : decode bs pc = .ok (.lload i, 2)) (hl : ls[i]? = some (.val (.long v))) (hp : pc + 2 = pc') (r : Run p e below F T (mkF m pc' ls (.long v :: st))) : Run p e below F T (mkF m pc ls st) := by
  obtain ⟨⟨hx, hby, hml, hZ, hown, hnm, hret, hlk⟩, hs0, eT, locs, S, N⟩ := X
  subst hp
  exact Run.of (fun t q => XT.lload S.here hx rfl (hb hby hd) hl q) r
theorem r_istoreN (X : Here p l e R s m args below meth c Z own nm bs ml rt n0 T h k n) {i : Fin 4} {v : Int32} (hd : decode bs pc = .ok (.istore_n i, 1)) (hl : storeLocals ls i.val (.int v) = some ls') (hp : pc + 1 = pc') (r : Run p e below F T (mkF m pc' ls' st)) : Run p e below F T (mkF m pc ls (.int v :: st)) := by
  obtain ⟨⟨hx, hby, hml, hZ, hown, hnm, hret, hlk⟩, hs0, eT, locs, S, N⟩ := X
  subst hp
  exact Run.of (fun t q => XS.istoreN S.here hx rfl (hb hby hd) rfl hl q) r
theorem r_istore (X : Here p l e R s m args below meth c Z own nm bs ml rt n0 T h k n) {i : Nat} {v : Int32} (hd : decode bs pc = .ok (.istore i, 2)) (hl : storeLocals ls i (.int v) = some ls') (hp : pc + 2 = pc') (r : Run p e below F T (mkF m pc' ls' st)) : Run p e below F T (mkF m pc ls (.int v :: st)) := by
  obtain ⟨⟨hx, hby, hml, hZ, hown, hnm, hret, hlk⟩, hs0, eT, locs, S, N⟩ := X
  subst hp
  exact Run.of (fun t q => XS.istore S.here hx rfl (hb hby hd) rfl hl q) r
theorem r_lstoreN (X : Here p l e R s m args below meth c Z own nm bs ml rt n0 T h k n) {i : Fin 4} {v : Int64} (hd : decode bs pc = .ok (.lstore_n i, 1)) (hl : storeLocals ls i.val (.long v) = some ls') (hp : pc + 1 = pc') (r : Run p e below F T (mkF m pc' ls' st)) : Run p e below F T (mkF m pc ls (.long v :: st)) := by
  obtain ⟨⟨hx, hby, hml, hZ, hown, hnm, hret, hlk⟩, hs0, eT, locs, S, N⟩ := X
  subst hp
  exact Run.of (fun t q => XT.lstoreN S.here hx rfl (hb hby hd) rfl hl q) r
theorem r_lstore (X : Here p l e R s m args below meth c Z own nm bs ml rt n0 T h k n) {i : Nat} {v : Int64} (hd : decode bs pc = .ok (.lstore i, 2)) (hl : storeLocals ls i (.long v) = some ls') (hp : pc + 2 = pc') (r : Run p e below F T (mkF m pc' ls' st)) : Run p e below F T (mkF m pc ls (.long v :: st)) := by
  obtain ⟨⟨hx, hby, hml, hZ, hown, hnm, hret, hlk⟩, hs0, eT, locs, S, N⟩ := X
  subst hp
  exact Run.of (fun t q => XT.lstore S.here hx rfl (hb hby hd) rfl hl q) r
theorem r_astoreN (X : Here p l e R s m args below meth c Z own nm bs ml rt n0 T h k n) {i : Fin 4} {v : Addr} (hd : decode bs pc = .ok (.astore_n i, 1)) (hl : storeLocals ls i.val (.ref v) = some ls') (hp : pc + 1 = pc') (r : Run p e below F T (mkF m pc' ls' st)) : Run p e below F T (mkF m pc ls (.ref v :: st)) := by
  obtain ⟨⟨hx, hby, hml, hZ, hown, hnm, hret, hlk⟩, hs0, eT, locs, S, N⟩ := X
  subst hp
  exact Run.of (fun t q => XS.astoreN S.here hx rfl (hb hby hd) rfl rfl hl q) r
theorem r_astore (X : Here p l e R s m args below meth c Z own nm bs ml rt n0 T h k n) {i : Nat} {v : Addr} (hd : decode bs pc = .ok (.astore i, 2)) (hl : storeLocals ls i (.ref v) = some ls') (hp : pc + 2 = pc') (r : Run p e below F T (mkF m pc' ls' st)) : Run p e below F T (mkF m pc ls (.ref v :: st)) := by
  obtain ⟨⟨hx, hby, hml, hZ, hown, hnm, hret, hlk⟩, hs0, eT, locs, S, N⟩ := X
  subst hp
  exact Run.of (fun t q => XS.astore S.here hx rfl (hb hby hd) rfl rfl hl q) r
theorem r_iconst (X : Here p l e R s m args below meth c Z own nm bs ml rt n0 T h k n) {i : Int} {v : Int32} (hd : decode bs pc = .ok (.iconst i, 1)) (hv : Int32.ofInt i = v) (hp : pc + 1 = pc') (r : Run p e below F T (mkF m pc' ls (.int v :: st))) : Run p e below F T (mkF m pc ls st) := by
  obtain ⟨⟨hx, hby, hml, hZ, hown, hnm, hret, hlk⟩, hs0, eT, locs, S, N⟩ := X
  subst hp
  exact Run.of (fun t q => XS.iconst S.here hx rfl (hb hby hd) (by rw [hv]; exact q)) r
theorem r_bipush (X : Here p l e R s m args below meth c Z own nm bs ml rt n0 T h k n) {i : Int} {v : Int32} (hd : decode bs pc = .ok (.bipush i, 2)) (hv : (Int8.ofInt i).toInt32 = v) (hp : pc + 2 = pc') (r : Run p e below F T (mkF m pc' ls (.int v :: st))) : Run p e below F T (mkF m pc ls st) := by
  obtain ⟨⟨hx, hby, hml, hZ, hown, hnm, hret, hlk⟩, hs0, eT, locs, S, N⟩ := X
  subst hp
  exact Run.of (fun t q => XS.bipush S.here hx rfl (hb hby hd) (by rw [hv]; exact q)) r
theorem r_sipush (X : Here p l e R s m args below meth c Z own nm bs ml rt n0 T h k n) {i : Int} {v : Int32} (hd : decode bs pc = .ok (.sipush i, 3)) (hv : (Int16.ofInt i).toInt32 = v) (hp : pc + 3 = pc') (r : Run p e below F T (mkF m pc' ls (.int v :: st))) : Run p e below F T (mkF m pc ls st) := by
  obtain ⟨⟨hx, hby, hml, hZ, hown, hnm, hret, hlk⟩, hs0, eT, locs, S, N⟩ := X
  subst hp
  exact Run.of (fun t q => XS.sipush S.here hx rfl (hb hby hd) (by rw [hv]; exact q)) r
theorem r_lconst (X : Here p l e R s m args below meth c Z own nm bs ml rt n0 T h k n) {i : Fin 2} {v : Int64} (hd : decode bs pc = .ok (.lconst i, 1)) (hv : Int64.ofNat i = v) (hp : pc + 1 = pc') (r : Run p e below F T (mkF m pc' ls (.long v :: st))) : Run p e below F T (mkF m pc ls st) := by
  obtain ⟨⟨hx, hby, hml, hZ, hown, hnm, hret, hlk⟩, hs0, eT, locs, S, N⟩ := X
  subst hp
  exact Run.of (fun t q => XT.lconst S.here hx rfl (hb hby hd) (by rw [hv]; exact q)) r
theorem r_ldcI (X : Here p l e R s m args below meth c Z own nm bs ml rt n0 T h k n) {i : Nat} {v : Int32} (hd : decode bs pc = .ok (.ldc i, 2)) (w : (Jvm.Cond.constant own i v).before a0 Z = true) (hp : pc + 2 = pc') (r : Run p e below F T (mkF m pc' ls (.int v :: st))) : Run p e below F T (mkF m pc ls st) := by
  obtain ⟨⟨hx, hby, hml, hZ, hown, hnm, hret, hlk⟩, hs0, eT, locs, S, N⟩ := X
  subst hp
  exact Run.of (fun t q => S.ldcI hx hown (mvT hZ w) rfl (hb hby hd) q) r
theorem r_ldc2J (X : Here p l e R s m args below meth c Z own nm bs ml rt n0 T h k n) {i : Nat} {v : Int64} (hd : decode bs pc = .ok (.ldc2_w i, 3)) (w : (Jvm.Cond.constantLong own i v).before a0 Z = true) (hp : pc + 3 = pc') (r : Run p e below F T (mkF m pc' ls (.long v :: st))) : Run p e below F T (mkF m pc ls st) := by
  obtain ⟨⟨hx, hby, hml, hZ, hown, hnm, hret, hlk⟩, hs0, eT, locs, S, N⟩ := X
  subst hp
  exact Run.of (fun t q => S.ldc2J hx hown (mvT hZ w) rfl (hb hby hd) q) r
theorem r_iadd (X : Here p l e R s m args below meth c Z own nm bs ml rt n0 T h k n) {x y z : Int32} (hd : decode bs pc = .ok (.iadd, 1)) (hv : x + y = z) (hp : pc + 1 = pc') (r : Run p e below F T (mkF m pc' ls (.int z :: st))) : Run p e below F T (mkF m pc ls (.int y :: .int x :: st)) := by
  obtain ⟨⟨hx, hby, hml, hZ, hown, hnm, hret, hlk⟩, hs0, eT, locs, S, N⟩ := X
  subst hp
  exact Run.of (fun t q => XS.iadd S.here hx rfl (hb hby hd) rfl (by rw [hv]; exact q)) r
theorem r_isub (X : Here p l e R s m args below meth c Z own nm bs ml rt n0 T h k n) {x y z : Int32} (hd : decode bs pc = .ok (.isub, 1)) (hv : x - y = z) (hp : pc + 1 = pc') (r : Run p e below F T (mkF m pc' ls (.int z :: st))) : Run p e below F T (mkF m pc ls (.int y :: .int x :: st)) := by
  obtain ⟨⟨hx, hby, hml, hZ, hown, hnm, hret, hlk⟩, hs0, eT, locs, S, N⟩ := X
  subst hp
  exact Run.of (fun t q => XS.isub S.here hx rfl (hb hby hd) rfl (by rw [hv]; exact q)) r
theorem r_imul (X : Here p l e R s m args below meth c Z own nm bs ml rt n0 T h k n) {x y z : Int32} (hd : decode bs pc = .ok (.imul, 1)) (hv : x * y = z) (hp : pc + 1 = pc') (r : Run p e below F T (mkF m pc' ls (.int z :: st))) : Run p e below F T (mkF m pc ls (.int y :: .int x :: st)) := by
  obtain ⟨⟨hx, hby, hml, hZ, hown, hnm, hret, hlk⟩, hs0, eT, locs, S, N⟩ := X
  subst hp
  exact Run.of (fun t q => XS.imul S.here hx rfl (hb hby hd) rfl (by rw [hv]; exact q)) r
theorem r_iand (X : Here p l e R s m args below meth c Z own nm bs ml rt n0 T h k n) {x y z : Int32} (hd : decode bs pc = .ok (.iand, 1)) (hv : x &&& y = z) (hp : pc + 1 = pc') (r : Run p e below F T (mkF m pc' ls (.int z :: st))) : Run p e below F T (mkF m pc ls (.int y :: .int x :: st)) := by
  obtain ⟨⟨hx, hby, hml, hZ, hown, hnm, hret, hlk⟩, hs0, eT, locs, S, N⟩ := X
  subst hp
  exact Run.of (fun t q => XS.iand S.here hx rfl (hb hby hd) rfl (by rw [hv]; exact q)) r
theorem r_ior (X : Here p l e R s m args below meth c Z own nm bs ml rt n0 T h k n) {x y z : Int32} (hd : decode bs pc = .ok (.ior, 1)) (hv : x ||| y = z) (hp : pc + 1 = pc') (r : Run p e below F T (mkF m pc' ls (.int z :: st))) : Run p e below F T (mkF m pc ls (.int y :: .int x :: st)) := by
  obtain ⟨⟨hx, hby, hml, hZ, hown, hnm, hret, hlk⟩, hs0, eT, locs, S, N⟩ := X
  subst hp
  exact Run.of (fun t q => XT.ior S.here hx rfl (hb hby hd) rfl (by rw [hv]; exact q)) r
theorem r_ixor (X : Here p l e R s m args below meth c Z own nm bs ml rt n0 T h k n) {x y z : Int32} (hd : decode bs pc = .ok (.ixor, 1)) (hv : x ^^^ y = z) (hp : pc + 1 = pc') (r : Run p e below F T (mkF m pc' ls (.int z :: st))) : Run p e below F T (mkF m pc ls (.int y :: .int x :: st)) := by
  obtain ⟨⟨hx, hby, hml, hZ, hown, hnm, hret, hlk⟩, hs0, eT, locs, S, N⟩ := X
  subst hp
  exact Run.of (fun t q => XT.ixor S.here hx rfl (hb hby hd) rfl (by rw [hv]; exact q)) r
theorem r_ishl (X : Here p l e R s m args below meth c Z own nm bs ml rt n0 T h k n) {x y z : Int32} (hd : decode bs pc = .ok (.ishl, 1)) (hv : x <<< (y &&& 31) = z) (hp : pc + 1 = pc') (r : Run p e below F T (mkF m pc' ls (.int z :: st))) : Run p e below F T (mkF m pc ls (.int y :: .int x :: st)) := by
  obtain ⟨⟨hx, hby, hml, hZ, hown, hnm, hret, hlk⟩, hs0, eT, locs, S, N⟩ := X
  subst hp
  exact Run.of (fun t q => XT.ishl S.here hx rfl (hb hby hd) rfl (by rw [hv]; exact q)) r
theorem r_ishr (X : Here p l e R s m args below meth c Z own nm bs ml rt n0 T h k n) {x y z : Int32} (hd : decode bs pc = .ok (.ishr, 1)) (hv : x >>> (y &&& 31) = z) (hp : pc + 1 = pc') (r : Run p e below F T (mkF m pc' ls (.int z :: st))) : Run p e below F T (mkF m pc ls (.int y :: .int x :: st)) := by
  obtain ⟨⟨hx, hby, hml, hZ, hown, hnm, hret, hlk⟩, hs0, eT, locs, S, N⟩ := X
  subst hp
  exact Run.of (fun t q => XT.ishr S.here hx rfl (hb hby hd) rfl (by rw [hv]; exact q)) r
theorem r_iushr (X : Here p l e R s m args below meth c Z own nm bs ml rt n0 T h k n) {x y z : Int32} (hd : decode bs pc = .ok (.iushr, 1)) (hv : XT.ushr x y = z) (hp : pc + 1 = pc') (r : Run p e below F T (mkF m pc' ls (.int z :: st))) : Run p e below F T (mkF m pc ls (.int y :: .int x :: st)) := by
  obtain ⟨⟨hx, hby, hml, hZ, hown, hnm, hret, hlk⟩, hs0, eT, locs, S, N⟩ := X
  subst hp
  exact Run.of (fun t q => XT.iushr S.here hx rfl (hb hby hd) rfl (by rw [hv]; exact q)) r
theorem r_irem (X : Here p l e R s m args below meth c Z own nm bs ml rt n0 T h k n) {x y z : Int32} (hd : decode bs pc = .ok (.irem, 1)) (hy : y ≠ 0) (hv : x % y = z) (hp : pc + 1 = pc') (r : Run p e below F T (mkF m pc' ls (.int z :: st))) : Run p e below F T (mkF m pc ls (.int y :: .int x :: st)) := by
  obtain ⟨⟨hx, hby, hml, hZ, hown, hnm, hret, hlk⟩, hs0, eT, locs, S, N⟩ := X
  subst hp
  exact Run.of (fun t q => iremM S hx rfl (hb hby hd) rfl hy (by rw [hv]; exact q)) r
theorem r_idiv (X : Here p l e R s m args below meth c Z own nm bs ml rt n0 T h k n) {x y z : Int32} (hd : decode bs pc = .ok (.idiv, 1)) (hy : y ≠ 0) (hv : x / y = z) (hp : pc + 1 = pc') (r : Run p e below F T (mkF m pc' ls (.int z :: st))) : Run p e below F T (mkF m pc ls (.int y :: .int x :: st)) := by
  obtain ⟨⟨hx, hby, hml, hZ, hown, hnm, hret, hlk⟩, hs0, eT, locs, S, N⟩ := X
  subst hp
  exact Run.of (fun t q => XS.idiv S.here hx rfl (hb hby hd) rfl hy (by rw [hv]; exact q)) r
theorem r_ladd (X : Here p l e R s m args below meth c Z own nm bs ml rt n0 T h k n) {x y z : Int64} (hd : decode bs pc = .ok (.ladd, 1)) (hv : x + y = z) (hp : pc + 1 = pc') (r : Run p e below F T (mkF m pc' ls (.long z :: st))) : Run p e below F T (mkF m pc ls (.long y :: .long x :: st)) := by
  obtain ⟨⟨hx, hby, hml, hZ, hown, hnm, hret, hlk⟩, hs0, eT, locs, S, N⟩ := X
  subst hp
  exact Run.of (fun t q => XT.ladd S.here hx rfl (hb hby hd) rfl (by rw [hv]; exact q)) r
theorem r_lsub (X : Here p l e R s m args below meth c Z own nm bs ml rt n0 T h k n) {x y z : Int64} (hd : decode bs pc = .ok (.lsub, 1)) (hv : x - y = z) (hp : pc + 1 = pc') (r : Run p e below F T (mkF m pc' ls (.long z :: st))) : Run p e below F T (mkF m pc ls (.long y :: .long x :: st)) := by
  obtain ⟨⟨hx, hby, hml, hZ, hown, hnm, hret, hlk⟩, hs0, eT, locs, S, N⟩ := X
  subst hp
  exact Run.of (fun t q => XT.lsub S.here hx rfl (hb hby hd) rfl (by rw [hv]; exact q)) r
theorem r_lmul (X : Here p l e R s m args below meth c Z own nm bs ml rt n0 T h k n) {x y z : Int64} (hd : decode bs pc = .ok (.lmul, 1)) (hv : x * y = z) (hp : pc + 1 = pc') (r : Run p e below F T (mkF m pc' ls (.long z :: st))) : Run p e below F T (mkF m pc ls (.long y :: .long x :: st)) := by
  obtain ⟨⟨hx, hby, hml, hZ, hown, hnm, hret, hlk⟩, hs0, eT, locs, S, N⟩ := X
  subst hp
  exact Run.of (fun t q => XT.lmul S.here hx rfl (hb hby hd) rfl (by rw [hv]; exact q)) r
theorem r_land (X : Here p l e R s m args below meth c Z own nm bs ml rt n0 T h k n) {x y z : Int64} (hd : decode bs pc = .ok (.land, 1)) (hv : x &&& y = z) (hp : pc + 1 = pc') (r : Run p e below F T (mkF m pc' ls (.long z :: st))) : Run p e below F T (mkF m pc ls (.long y :: .long x :: st)) := by
  obtain ⟨⟨hx, hby, hml, hZ, hown, hnm, hret, hlk⟩, hs0, eT, locs, S, N⟩ := X
  subst hp
  exact Run.of (fun t q => XT.land S.here hx rfl (hb hby hd) rfl (by rw [hv]; exact q)) r
theorem r_lor (X : Here p l e R s m args below meth c Z own nm bs ml rt n0 T h k n) {x y z : Int64} (hd : decode bs pc = .ok (.lor, 1)) (hv : x ||| y = z) (hp : pc + 1 = pc') (r : Run p e below F T (mkF m pc' ls (.long z :: st))) : Run p e below F T (mkF m pc ls (.long y :: .long x :: st)) := by
  obtain ⟨⟨hx, hby, hml, hZ, hown, hnm, hret, hlk⟩, hs0, eT, locs, S, N⟩ := X
  subst hp
  exact Run.of (fun t q => XT.lor S.here hx rfl (hb hby hd) rfl (by rw [hv]; exact q)) r
theorem r_lxor (X : Here p l e R s m args below meth c Z own nm bs ml rt n0 T h k n) {x y z : Int64} (hd : decode bs pc = .ok (.lxor, 1)) (hv : x ^^^ y = z) (hp : pc + 1 = pc') (r : Run p e below F T (mkF m pc' ls (.long z :: st))) : Run p e below F T (mkF m pc ls (.long y :: .long x :: st)) := by
  obtain ⟨⟨hx, hby, hml, hZ, hown, hnm, hret, hlk⟩, hs0, eT, locs, S, N⟩ := X
  subst hp
  exact Run.of (fun t q => XT.lxor S.here hx rfl (hb hby hd) rfl (by rw [hv]; exact q)) r
theorem r_ldiv (X : Here p l e R s m args below meth c Z own nm bs ml rt n0 T h k n) {x y z : Int64} (hd : decode bs pc = .ok (.ldiv, 1)) (hy : y ≠ 0) (hv : x / y = z) (hp : pc + 1 = pc') (r : Run p e below F T (mkF m pc' ls (.long z :: st))) : Run p e below F T (mkF m pc ls (.long y :: .long x :: st)) := by
  obtain ⟨⟨hx, hby, hml, hZ, hown, hnm, hret, hlk⟩, hs0, eT, locs, S, N⟩ := X
  subst hp
  exact Run.of (fun t q => XT.ldiv S.here hx rfl (hb hby hd) rfl hy (by rw [hv]; exact q)) r
theorem r_lrem (X : Here p l e R s m args below meth c Z own nm bs ml rt n0 T h k n) {x y z : Int64} (hd : decode bs pc = .ok (.lrem, 1)) (hy : y ≠ 0) (hv : x - (x / y) * y = z) (hp : pc + 1 = pc') (r : Run p e below F T (mkF m pc' ls (.long z :: st))) : Run p e below F T (mkF m pc ls (.long y :: .long x :: st)) := by
  obtain ⟨⟨hx, hby, hml, hZ, hown, hnm, hret, hlk⟩, hs0, eT, locs, S, N⟩ := X
  subst hp
  exact Run.of (fun t q => XT.lrem S.here hx rfl (hb hby hd) rfl hy (by rw [hv]; exact q)) r
theorem r_lshl (X : Here p l e R s m args below meth c Z own nm bs ml rt n0 T h k n) {x z : Int64} {y : Int32} (hd : decode bs pc = .ok (.lshl, 1)) (hv : x <<< (y.toInt64 &&& 63) = z) (hp : pc + 1 = pc') (r : Run p e below F T (mkF m pc' ls (.long z :: st))) : Run p e below F T (mkF m pc ls (.int y :: .long x :: st)) := by
  obtain ⟨⟨hx, hby, hml, hZ, hown, hnm, hret, hlk⟩, hs0, eT, locs, S, N⟩ := X
  subst hp
  exact Run.of (fun t q => XT.lshl S.here hx rfl (hb hby hd) rfl (by rw [hv]; exact q)) r
theorem r_lshr (X : Here p l e R s m args below meth c Z own nm bs ml rt n0 T h k n) {x z : Int64} {y : Int32} (hd : decode bs pc = .ok (.lshr, 1)) (hv : x >>> (y.toInt64 &&& 63) = z) (hp : pc + 1 = pc') (r : Run p e below F T (mkF m pc' ls (.long z :: st))) : Run p e below F T (mkF m pc ls (.int y :: .long x :: st)) := by
  obtain ⟨⟨hx, hby, hml, hZ, hown, hnm, hret, hlk⟩, hs0, eT, locs, S, N⟩ := X
  subst hp
  exact Run.of (fun t q => XT.lshr S.here hx rfl (hb hby hd) rfl (by rw [hv]; exact q)) r
theorem r_lushr (X : Here p l e R s m args below meth c Z own nm bs ml rt n0 T h k n) {x z : Int64} {y : Int32} (hd : decode bs pc = .ok (.lushr, 1)) (hv : XT.ushrL x y = z) (hp : pc + 1 = pc') (r : Run p e below F T (mkF m pc' ls (.long z :: st))) : Run p e below F T (mkF m pc ls (.int y :: .long x :: st)) := by
  obtain ⟨⟨hx, hby, hml, hZ, hown, hnm, hret, hlk⟩, hs0, eT, locs, S, N⟩ := X
  subst hp
  exact Run.of (fun t q => XT.lushr S.here hx rfl (hb hby hd) rfl (by rw [hv]; exact q)) r
theorem r_i2b (X : Here p l e R s m args below meth c Z own nm bs ml rt n0 T h k n) {x z : Int32} (hd : decode bs pc = .ok (.i2b, 1)) (hv : x.toInt8.toInt32 = z) (hp : pc + 1 = pc') (r : Run p e below F T (mkF m pc' ls (.int z :: st))) : Run p e below F T (mkF m pc ls (.int x :: st)) := by
  obtain ⟨⟨hx, hby, hml, hZ, hown, hnm, hret, hlk⟩, hs0, eT, locs, S, N⟩ := X
  subst hp
  exact Run.of (fun t q => XT.i2b S.here hx rfl (hb hby hd) rfl (by rw [hv]; exact q)) r
theorem r_i2c (X : Here p l e R s m args below meth c Z own nm bs ml rt n0 T h k n) {x z : Int32} (hd : decode bs pc = .ok (.i2c, 1)) (hv : x.toUInt32.toUInt16.toUInt32.toInt32 = z) (hp : pc + 1 = pc') (r : Run p e below F T (mkF m pc' ls (.int z :: st))) : Run p e below F T (mkF m pc ls (.int x :: st)) := by
  obtain ⟨⟨hx, hby, hml, hZ, hown, hnm, hret, hlk⟩, hs0, eT, locs, S, N⟩ := X
  subst hp
  exact Run.of (fun t q => XT.i2c S.here hx rfl (hb hby hd) rfl (by rw [hv]; exact q)) r
theorem r_i2s (X : Here p l e R s m args below meth c Z own nm bs ml rt n0 T h k n) {x z : Int32} (hd : decode bs pc = .ok (.i2s, 1)) (hv : x.toInt16.toInt32 = z) (hp : pc + 1 = pc') (r : Run p e below F T (mkF m pc' ls (.int z :: st))) : Run p e below F T (mkF m pc ls (.int x :: st)) := by
  obtain ⟨⟨hx, hby, hml, hZ, hown, hnm, hret, hlk⟩, hs0, eT, locs, S, N⟩ := X
  subst hp
  exact Run.of (fun t q => XT.i2s S.here hx rfl (hb hby hd) rfl (by rw [hv]; exact q)) r
theorem r_i2l (X : Here p l e R s m args below meth c Z own nm bs ml rt n0 T h k n) {x : Int32} {z : Int64} (hd : decode bs pc = .ok (.i2l, 1)) (hv : x.toInt64 = z) (hp : pc + 1 = pc') (r : Run p e below F T (mkF m pc' ls (.long z :: st))) : Run p e below F T (mkF m pc ls (.int x :: st)) := by
  obtain ⟨⟨hx, hby, hml, hZ, hown, hnm, hret, hlk⟩, hs0, eT, locs, S, N⟩ := X
  subst hp
  exact Run.of (fun t q => XT.i2l S.here hx rfl (hb hby hd) rfl (by rw [hv]; exact q)) r
theorem r_l2i (X : Here p l e R s m args below meth c Z own nm bs ml rt n0 T h k n) {x : Int64} {z : Int32} (hd : decode bs pc = .ok (.l2i, 1)) (hv : x.toInt32 = z) (hp : pc + 1 = pc') (r : Run p e below F T (mkF m pc' ls (.int z :: st))) : Run p e below F T (mkF m pc ls (.long x :: st)) := by
  obtain ⟨⟨hx, hby, hml, hZ, hown, hnm, hret, hlk⟩, hs0, eT, locs, S, N⟩ := X
  subst hp
  exact Run.of (fun t q => XT.l2i S.here hx rfl (hb hby hd) rfl (by rw [hv]; exact q)) r
theorem r_lcmp (X : Here p l e R s m args below meth c Z own nm bs ml rt n0 T h k n) {x y : Int64} {z : Int32} (hd : decode bs pc = .ok (.lcmp, 1)) (hv : XT.cmpL x y = z) (hp : pc + 1 = pc') (r : Run p e below F T (mkF m pc' ls (.int z :: st))) : Run p e below F T (mkF m pc ls (.long y :: .long x :: st)) := by
  obtain ⟨⟨hx, hby, hml, hZ, hown, hnm, hret, hlk⟩, hs0, eT, locs, S, N⟩ := X
  subst hp
  exact Run.of (fun t q => XT.lcmp S.here hx rfl (hb hby hd) rfl (by rw [hv]; exact q)) r
theorem r_dup (X : Here p l e R s m args below meth c Z own nm bs ml rt n0 T h k n) {x : Value} (hd : decode bs pc = .ok (.dup, 1)) (hc : x.category = 1) (hp : pc + 1 = pc') (r : Run p e below F T (mkF m pc' ls (x :: x :: st))) : Run p e below F T (mkF m pc ls (x :: st)) := by
  obtain ⟨⟨hx, hby, hml, hZ, hown, hnm, hret, hlk⟩, hs0, eT, locs, S, N⟩ := X
  subst hp
  exact Run.of (fun t q => XS.dup S.here hx rfl (hb hby hd) rfl hc q) r
theorem r_dupX1 (X : Here p l e R s m args below meth c Z own nm bs ml rt n0 T h k n) {x y : Value} (hd : decode bs pc = .ok (.dup_x1, 1)) (hc : x.category = 1) (hc' : y.category = 1) (hp : pc + 1 = pc') (r : Run p e below F T (mkF m pc' ls (x :: y :: x :: st))) : Run p e below F T (mkF m pc ls (x :: y :: st)) := by
  obtain ⟨⟨hx, hby, hml, hZ, hown, hnm, hret, hlk⟩, hs0, eT, locs, S, N⟩ := X
  subst hp
  exact Run.of (fun t q => XT.dupX1 S.here hx rfl (hb hby hd) rfl hc hc' q) r
theorem r_pop (X : Here p l e R s m args below meth c Z own nm bs ml rt n0 T h k n) {x : Value} (hd : decode bs pc = .ok (.pop, 1)) (hc : x.category = 1) (hp : pc + 1 = pc') (r : Run p e below F T (mkF m pc' ls st)) : Run p e below F T (mkF m pc ls (x :: st)) := by
  obtain ⟨⟨hx, hby, hml, hZ, hown, hnm, hret, hlk⟩, hs0, eT, locs, S, N⟩ := X
  subst hp
  exact Run.of (fun t q => XT.pop S.here hx rfl (hb hby hd) rfl hc q) r
theorem r_iinc (X : Here p l e R s m args below meth c Z own nm bs ml rt n0 T h k n) {i : Nat} {d : Int} {x z : Int32} (hd : decode bs pc = .ok (.iinc i d, 3)) (hl : ls[i]? = some (.val (.int x))) (hv : x + Int32.ofInt d = z) (hl' : storeLocals ls i (.int z) = some ls') (hp : pc + 3 = pc') (r : Run p e below F T (mkF m pc' ls' st)) : Run p e below F T (mkF m pc ls st) := by
  obtain ⟨⟨hx, hby, hml, hZ, hown, hnm, hret, hlk⟩, hs0, eT, locs, S, N⟩ := X
  subst hp
  exact Run.of (fun t q => XS.iinc S.here hx rfl (hb hby hd) hl (by rw [hv]; exact hl') q) r
theorem r_goto (X : Here p l e R s m args below meth c Z own nm bs ml rt n0 T h k n) {o : Int} (hd : decode bs pc = .ok (.goto o, 3)) (ho : 0 ≤ (pc : Int) + o) (hp : ((pc : Int) + o).toNat = pc') (r : Run p e below F T (mkF m pc' ls st)) : Run p e below F T (mkF m pc ls st) := by
  obtain ⟨⟨hx, hby, hml, hZ, hown, hnm, hret, hlk⟩, hs0, eT, locs, S, N⟩ := X
  exact Run.of (fun t q => XS.goto S.here hx rfl rfl (hb hby hd) ho hp q) r
theorem r_icmp (X : Here p l e R s m args below meth c Z own nm bs ml rt n0 T h k n) {cd : ClassFile.Cond} {o : Int} (hd : decode bs pc = .ok (.if_icmp cd o, 3)) (ho : 0 ≤ (pc : Int) + o) (hp : ((pc : Int) + o).toNat = pc') (hp2 : pc + 3 = pc2) {x y : Int32} {a b : Int} (ha : x.toInt = a) (hb' : y.toInt = b) (yes : cnd cd a b → Run p e below F T (mkF m pc' ls st)) (no : ¬ cnd cd a b → Run p e below F T (mkF m pc2 ls st)) : Run p e below F T (mkF m pc ls (.int y :: .int x :: st)) := by
  obtain ⟨⟨hx, hby, hml, hZ, hown, hnm, hret, hlk⟩, hs0, eT, locs, S, N⟩ := X
  subst ha hb' hp2
  by_cases w : cnd cd x.toInt (y : Int32).toInt
  · exact Run.of (fun t q => XS.icmpYes S.here hx rfl rfl (hb hby hd) rfl (((cnd_iff cd x y).mpr w)) ho hp q) (yes w)
  · exact Run.of (fun t q => XS.icmpNo S.here hx rfl (hb hby hd) rfl ((Bool.eq_false_iff.mpr fun z => w ((cnd_iff cd x y).mp z))) q) (no w)
theorem r_icmpY (X : Here p l e R s m args below meth c Z own nm bs ml rt n0 T h k n) {cd : ClassFile.Cond} {o : Int} (hd : decode bs pc = .ok (.if_icmp cd o, 3)) (ho : 0 ≤ (pc : Int) + o) (hp : ((pc : Int) + o).toNat = pc') {x y : Int32} {a b : Int} (ha : x.toInt = a) (hb' : y.toInt = b) (w : cnd cd a b) (r : Run p e below F T (mkF m pc' ls st)) : Run p e below F T (mkF m pc ls (.int y :: .int x :: st)) :=
  r_icmp X hd ho hp rfl ha hb' (fun _ => r) (fun z => absurd w z)
theorem r_icmpN (X : Here p l e R s m args below meth c Z own nm bs ml rt n0 T h k n) {cd : ClassFile.Cond} {o : Int} (hd : decode bs pc = .ok (.if_icmp cd o, 3)) (ho : 0 ≤ (pc : Int) + o) (hp2 : pc + 3 = pc2) {x y : Int32} {a b : Int} (ha : x.toInt = a) (hb' : y.toInt = b) (w : ¬ cnd cd a b) (r : Run p e below F T (mkF m pc2 ls st)) : Run p e below F T (mkF m pc ls (.int y :: .int x :: st)) :=
  r_icmp X hd ho rfl hp2 ha hb' (fun z => absurd z w) (fun _ => r)
theorem r_if (X : Here p l e R s m args below meth c Z own nm bs ml rt n0 T h k n) {cd : ClassFile.Cond} {o : Int} (hd : decode bs pc = .ok (.ifCond cd o, 3)) (ho : 0 ≤ (pc : Int) + o) (hp : ((pc : Int) + o).toNat = pc') (hp2 : pc + 3 = pc2) {x : Int32} {a b : Int} (ha : x.toInt = a) (hb' : (0 : Int32).toInt = b) (yes : cnd cd a b → Run p e below F T (mkF m pc' ls st)) (no : ¬ cnd cd a b → Run p e below F T (mkF m pc2 ls st)) : Run p e below F T (mkF m pc ls (.int x :: st)) := by
  obtain ⟨⟨hx, hby, hml, hZ, hown, hnm, hret, hlk⟩, hs0, eT, locs, S, N⟩ := X
  subst ha hb' hp2
  by_cases w : cnd cd x.toInt (0 : Int32).toInt
  · exact Run.of (fun t q => XS.ifYes S.here hx rfl rfl (hb hby hd) rfl ((if0 _ _).trans ((cnd_iff cd x 0).mpr w)) ho hp q) (yes w)
  · exact Run.of (fun t q => XS.ifNo S.here hx rfl (hb hby hd) rfl ((if0 _ _).trans (Bool.eq_false_iff.mpr fun z => w ((cnd_iff cd x 0).mp z))) q) (no w)
theorem r_ifY (X : Here p l e R s m args below meth c Z own nm bs ml rt n0 T h k n) {cd : ClassFile.Cond} {o : Int} (hd : decode bs pc = .ok (.ifCond cd o, 3)) (ho : 0 ≤ (pc : Int) + o) (hp : ((pc : Int) + o).toNat = pc') {x : Int32} {a b : Int} (ha : x.toInt = a) (hb' : (0 : Int32).toInt = b) (w : cnd cd a b) (r : Run p e below F T (mkF m pc' ls st)) : Run p e below F T (mkF m pc ls (.int x :: st)) :=
  r_if X hd ho hp rfl ha hb' (fun _ => r) (fun z => absurd w z)
theorem r_ifN (X : Here p l e R s m args below meth c Z own nm bs ml rt n0 T h k n) {cd : ClassFile.Cond} {o : Int} (hd : decode bs pc = .ok (.ifCond cd o, 3)) (ho : 0 ≤ (pc : Int) + o) (hp2 : pc + 3 = pc2) {x : Int32} {a b : Int} (ha : x.toInt = a) (hb' : (0 : Int32).toInt = b) (w : ¬ cnd cd a b) (r : Run p e below F T (mkF m pc2 ls st)) : Run p e below F T (mkF m pc ls (.int x :: st)) :=
  r_if X hd ho rfl hp2 ha hb' (fun z => absurd z w) (fun _ => r)
theorem r_acmpN (X : Here p l e R s m args below meth c Z own nm bs ml rt n0 T h k n) {cd : ACond} {o : Int} {x y : Addr} (hd : decode bs pc = .ok (.if_acmp cd o, 3)) (hc : XT.acmp cd (.ref x) (.ref y) = false) (hp : pc + 3 = pc') (r : Run p e below F T (mkF m pc' ls st)) : Run p e below F T (mkF m pc ls (.ref y :: .ref x :: st)) := by
  obtain ⟨⟨hx, hby, hml, hZ, hown, hnm, hret, hlk⟩, hs0, eT, locs, S, N⟩ := X
  subst hp
  exact Run.of (fun t q => XT.acmpNo S.here hx rfl (hb hby hd) rfl rfl rfl hc q) r
theorem r_retN {ft : FieldType} (X : Here p l e R s m args below meth c Z own nm bs ml (some ft) n0 T h k n) (ht : ft = .boolean ∨ ft = .byte ∨ ft = .char ∨ ft = .short) (hd : decode bs pc = .ok (.ireturn, 1)) {z w : Int32} (hz : nar ft z = w) (hQ : Q (some (.int w)) h) (hk : k ≤ kc) (hn : n ≤ ks) : Run p e below (Fnl s n0 kc ks Q) T (mkF m pc ls (.int z :: st)) := by
  obtain ⟨⟨hx, hby, hml, hZ, hown, hnm, hret, hlk⟩, hs0, eT, locs, S, N⟩ := X
  subst hz
  obtain ⟨fs, hr, hrun, hended, hW, hsame⟩ := S.leave (v := some (.int (nar ft z))) (fun w => by rw [hret] at w; cases w)
  refine ⟨_, _, ?_, hrun, hended, _, _, rfl, ⟨?_, ?_, N⟩, ⟨_, rfl⟩, hW, hsame.mono hk hn⟩
  · exact retN S hx hret ht (hb hby hd) hr
  · show Q _ T.heap
    rw [eT]; exact hQ
  · show n0 ≤ T.heap.size
    rw [eT]; exact hs0
theorem r_retI (X : Here p l e R s m args below meth c Z own nm bs ml (some .int) n0 T h k n) (hd : decode bs pc = .ok (.ireturn, 1)) {z : Int32} (hQ : Q (some (.int z)) h) (hk : k ≤ kc) (hn : n ≤ ks) : Run p e below (Fnl s n0 kc ks Q) T (mkF m pc ls (.int z :: st)) := by
  obtain ⟨⟨hx, hby, hml, hZ, hown, hnm, hret, hlk⟩, hs0, eT, locs, S, N⟩ := X
  obtain ⟨fs, hr, hrun, hended, hW, hsame⟩ := S.leave (v := some (.int z)) (fun w => by rw [hret] at w; cases w)
  refine ⟨_, _, ?_, hrun, hended, _, _, rfl, ⟨?_, ?_, N⟩, ⟨_, rfl⟩, hW, hsame.mono hk hn⟩
  · exact retOut S hx hret rfl (Or.inl ⟨rfl, Or.inl rfl, _, rfl⟩) (hb hby hd) hr
  · show Q _ T.heap
    rw [eT]; exact hQ
  · show n0 ≤ T.heap.size
    rw [eT]; exact hs0
theorem r_retL (X : Here p l e R s m args below meth c Z own nm bs ml (some .long) n0 T h k n) (hd : decode bs pc = .ok (.lreturn, 1)) {z : Int64} (hQ : Q (some (.long z)) h) (hk : k ≤ kc) (hn : n ≤ ks) : Run p e below (Fnl s n0 kc ks Q) T (mkF m pc ls (.long z :: st)) := by
  obtain ⟨⟨hx, hby, hml, hZ, hown, hnm, hret, hlk⟩, hs0, eT, locs, S, N⟩ := X
  obtain ⟨fs, hr, hrun, hended, hW, hsame⟩ := S.leave (v := some (.long z)) (fun w => by rw [hret] at w; cases w)
  refine ⟨_, _, ?_, hrun, hended, _, _, rfl, ⟨?_, ?_, N⟩, ⟨_, rfl⟩, hW, hsame.mono hk hn⟩
  · exact retOut S hx hret rfl (Or.inr (Or.inl ⟨rfl, rfl, _, rfl⟩)) (hb hby hd) hr
  · show Q _ T.heap
    rw [eT]; exact hQ
  · show n0 ≤ T.heap.size
    rw [eT]; exact hs0
theorem r_retA {ft : FieldType} (X : Here p l e R s m args below meth c Z own nm bs ml (some ft) n0 T h k n) (ht : ft.isReference = true) (hd : decode bs pc = .ok (.areturn, 1)) {a : Addr} (hQ : Q (some (.ref a)) h) (hk : k ≤ kc) (hn : n ≤ ks) : Run p e below (Fnl s n0 kc ks Q) T (mkF m pc ls (.ref a :: st)) := by
  obtain ⟨⟨hx, hby, hml, hZ, hown, hnm, hret, hlk⟩, hs0, eT, locs, S, N⟩ := X
  obtain ⟨fs, hr, hrun, hended, hW, hsame⟩ := S.leave (v := some (.ref a)) (fun w => by rw [hret] at w; cases w)
  refine ⟨_, _, ?_, hrun, hended, _, _, rfl, ⟨?_, ?_, N⟩, ⟨_, rfl⟩, hW, hsame.mono hk hn⟩
  · exact retOut S hx hret (by cases ft <;> first | rfl | (exfalso; revert ht; decide)) (Or.inr (Or.inr (Or.inr (Or.inr ⟨rfl, ht, rfl⟩)))) (hb hby hd) hr
  · show Q _ T.heap
    rw [eT]; exact hQ
  · show n0 ≤ T.heap.size
    rw [eT]; exact hs0
theorem r_ret (X : Here p l e R s m args below meth c Z own nm bs ml none n0 T h k n) (hd : decode bs pc = .ok (.return_, 1)) (hQ : Q none h) (hk : k ≤ kc) (hn : n ≤ ks) : Run p e below (Fnl s n0 kc ks Q) T (mkF m pc ls []) := by
  obtain ⟨⟨hx, hby, hml, hZ, hown, hnm, hret, hlk⟩, hs0, eT, locs, S, N⟩ := X
  obtain ⟨fs, hr, hrun, hended, hW, hsame⟩ := S.leave (v := none) (fun _ => rfl)
  refine ⟨_, _, ?_, hrun, hended, _, _, rfl, ⟨?_, ?_, N⟩, ⟨_, rfl⟩, hW, hsame.mono hk hn⟩
  · exact S.returnOut hx hret (hb hby hd) hr
  · show Q _ T.heap
    rw [eT]; exact hQ
  · show n0 ≤ T.heap.size
    rw [eT]; exact hs0
/-- the array at a has N components of kind ty; the j-th holds the int f j -/
def Arf (Z : State) (h : Heap) (a : Addr) (ty : FieldType) (N : Nat) (f : Nat → Int32) : Prop := ∃ cl : Cell, Arr Z h a cl ty ∧ cl.slots.size = N ∧ ∀ j, j < N → cl.slots[j]? = some (.int (f j))
def upd (f : Nat → Int32) (i : Nat) (v : Int32) : Nat → Int32 := fun j => if j = i then v else f j
theorem upd_same (f : Nat → Int32) (i : Nat) (v : Int32) : upd f i v i = v := if_pos rfl
theorem upd_ne (f : Nat → Int32) {i j : Nat} (v : Int32) (q : j ≠ i) : upd f i v j = f j := if_neg q
theorem Arf.lt {a : Addr} {ty : FieldType} {N : Nat} {f : Nat → Int32} (A : Arf Z h a ty N f) : a < h.size := by obtain ⟨_, A, -⟩ := A; exact A.lt
theorem Arf.ext {a : Addr} {ty : FieldType} {N : Nat} {f : Nat → Int32} {h' : Heap} (A : Arf Z h a ty N f) (E : Ext h h') : Arf Z h' a ty N f := by obtain ⟨cl, A, r⟩ := A; exact ⟨cl, A.ext E, r⟩
theorem Arf.other {a b : Addr} {ty : FieldType} {N sl : Nat} {f : Nat → Int32} {h' : Heap} {v : Value} (A : Arf Z h b ty N f) (W : Wr h h' a sl v) (q : b ≠ a) : Arf Z h' b ty N f := by obtain ⟨cl, A, r⟩ := A; exact ⟨cl, A.other W q, r⟩
theorem Arf.keep {a : Addr} {ty : FieldType} {N : Nat} {f : Nat → Int32} {h' : Heap} {ws : List Addr} (A : Arf Z h a ty N f) (K : Keep h h' ws) (q : a ∉ ws) : Arf Z h' a ty N f := by obtain ⟨cl, A, r⟩ := A; exact ⟨cl, ⟨K.2.1 a cl A.1 q, A.2⟩, r⟩
theorem Arf.cast {a : Addr} {ty : FieldType} {N : Nat} {f g : Nat → Int32} (A : Arf Z h a ty N f) (q : ∀ j, j < N → f j = g j) : Arf Z h a ty N g := by obtain ⟨cl, A, S, H⟩ := A; exact ⟨cl, A, S, fun j hj => by rw [H j hj, q j hj]⟩
theorem Arf.set {a : Addr} {ty : FieldType} {N i : Nat} {f : Nat → Int32} {h' : Heap} {v : Int32} (A : Arf Z h a ty N f) (W : Wr h h' a i (.int v)) : Arf Z h' a ty N (upd f i v) := by
  obtain ⟨cl, A, S, H⟩ := A
  refine ⟨_, A.same W, by rw [sz_set]; exact S, fun j hj => ?_⟩
  by_cases q : j = i
  · subst q; rw [upd_same]; simp [Cell.setSlot, S, hj]
  · rw [upd_ne f v q]; simp only [Cell.setSlot]; rw [Array.getElem?_setIfInBounds_ne (Ne.symm q)]; exact H j hj
theorem ix_clamp {j : Int32} {i : Nat} (hj : j.toInt = i) : j.toNatClampNeg = i := by simp [Int32.toNatClampNeg, hj]
theorem ix_in {j : Int32} {i N : Nat} (hj : j.toInt = i) (hi : i < N) {cl : Cell} (S : cl.slots.size = N) : ¬ (j < 0 ∨ cl.slots.size ≤ j.toNatClampNeg) := by
  rw [ix_clamp hj, S, Int32.lt_iff_toInt_lt, hj]
  have e0 : (0 : Int32).toInt = 0 := rfl
  omega
theorem r_baload (X : Here p l e R s m args below meth c Z own nm bs ml rt n0 T h k n) {a : Addr} {N i : Nat} {f : Nat → Int32} {j v : Int32} (hd : decode bs pc = .ok (.baload, 1)) (A : Arf Z h a .byte N f) (hj : j.toInt = i) (hi : i < N) (hv : f i = v) (hp : pc + 1 = pc') (r : Run p e below F T (mkF m pc' ls (.int v :: st))) : Run p e below F T (mkF m pc ls (.int j :: .ref a :: st)) := by
  obtain ⟨⟨hx, hby, hml, hZ, hown, hnm, hret, hlk⟩, hs0, eT, locs, S, N⟩ := X
  subst hp hv
  obtain ⟨cl, A, SZ, H⟩ := A
  exact Run.of (fun t q => S.baloadBytes hx (j := j) (by rw [eT]; exact A.1) (State.isArrayOf_alike hZ.alike A.2.1) A.2.2 (ix_in hj hi SZ) (by rw [ix_clamp hj]; exact H i hi) (g := mkF m pc ls (.int j :: .ref a :: st)) rfl rfl (hb hby hd) t q) r
theorem r_caload (X : Here p l e R s m args below meth c Z own nm bs ml rt n0 T h k n) {a : Addr} {N i : Nat} {f : Nat → Int32} {j v : Int32} (hd : decode bs pc = .ok (.caload, 1)) (A : Arf Z h a .char N f) (hj : j.toInt = i) (hi : i < N) (hv : f i = v) (hp : pc + 1 = pc') (r : Run p e below F T (mkF m pc' ls (.int v :: st))) : Run p e below F T (mkF m pc ls (.int j :: .ref a :: st)) := by
  obtain ⟨⟨hx, hby, hml, hZ, hown, hnm, hret, hlk⟩, hs0, eT, locs, S, N⟩ := X
  subst hp hv
  obtain ⟨cl, A, SZ, H⟩ := A
  exact Run.of (fun t q => S.caload hx (j := j) (by rw [eT]; exact A.1) (State.isArrayOf_alike hZ.alike A.2.1) A.2.2 (ix_in hj hi SZ) (by rw [ix_clamp hj]; exact H i hi) (g := mkF m pc ls (.int j :: .ref a :: st)) rfl rfl (hb hby hd) t q) r
theorem r_iaload (X : Here p l e R s m args below meth c Z own nm bs ml rt n0 T h k n) {a : Addr} {N i : Nat} {f : Nat → Int32} {j v : Int32} (hd : decode bs pc = .ok (.iaload, 1)) (A : Arf Z h a .int N f) (hj : j.toInt = i) (hi : i < N) (hv : f i = v) (hp : pc + 1 = pc') (r : Run p e below F T (mkF m pc' ls (.int v :: st))) : Run p e below F T (mkF m pc ls (.int j :: .ref a :: st)) := by
  obtain ⟨⟨hx, hby, hml, hZ, hown, hnm, hret, hlk⟩, hs0, eT, locs, S, N⟩ := X
  subst hp hv
  obtain ⟨cl, A, SZ, H⟩ := A
  exact Run.of (fun t q => S.iaload hx (j := j) (by rw [eT]; exact A.1) (State.isArrayOf_alike hZ.alike A.2.1) A.2.2 (ix_in hj hi SZ) (by rw [ix_clamp hj]; exact H i hi) (g := mkF m pc ls (.int j :: .ref a :: st)) rfl rfl (hb hby hd) t q) r
theorem r_arraylength (X : Here p l e R s m args below meth c Z own nm bs ml rt n0 T h k n) {a : Addr} {ty : FieldType} {N : Nat} {f : Nat → Int32} {v : Int32} (hd : decode bs pc = .ok (.arraylength, 1)) (A : Arf Z h a ty N f) (hv : N.toInt32 = v) (hp : pc + 1 = pc') (r : Run p e below F T (mkF m pc' ls (.int v :: st))) : Run p e below F T (mkF m pc ls (.ref a :: st)) := by
  obtain ⟨⟨hx, hby, hml, hZ, hown, hnm, hret, hlk⟩, hs0, eT, locs, S, N⟩ := X
  subst hp hv
  obtain ⟨cl, A, SZ, H⟩ := A
  subst SZ
  exact Run.of (fun t q => S.arraylength hx (cell := cl) (by rw [eT]; exact A.1) (State.isArrayOf_alike hZ.alike A.2.1) (g := mkF m pc ls (.ref a :: st)) rfl rfl (hb hby hd) t q) r
theorem r_bastore (X : Here p l e R s m args below meth c Z own nm bs ml rt n0 T h k n) {a : Addr} {N i : Nat} {f : Nat → Int32} {j x v : Int32} (hd : decode bs pc = .ok (.bastore, 1)) (A : Arf Z h a .byte N f) (hj : j.toInt = i) (hi : i < N) (ge : n0 ≤ a) (hv : nar .byte x = v) (hp : pc + 1 = pc') (r : ∀ T' h', Here p l e R s m args below meth c Z own nm bs ml rt n0 T' h' k n → Wr h h' a i (.int v) → Arf Z h' a .byte N (upd f i v) → Run p e below F T' (mkF m pc' ls st)) : Run p e below F T (mkF m pc ls (.int x :: .int j :: .ref a :: st)) := by
  obtain ⟨⟨hx, hby, hml, hZ, hown, hnm, hret, hlk⟩, hs0, eT, locs, S, N_⟩ := X
  subst hp hv
  obtain ⟨cl, A, SZ, H⟩ := A
  obtain ⟨T', h', X', e', W, st'⟩ := stB S hx hZ eT A (j := j) (x := x) (ix_in hj hi SZ) (g := mkF m pc ls (.int x :: .int j :: .ref a :: st)) rfl rfl (hb hby hd)
  rw [ix_clamp hj] at W
  refine Run.of (fun t q => st' t q) (r T' h' ⟨⟨hx, hby, hml, hZ, hown, hnm, hret, hlk⟩, ?_, e', _, X', Fr.snoc X' N_ ge⟩ W (Arf.set ⟨cl, A, SZ, H⟩ W))
  rw [W.size]; exact hs0
theorem r_castore (X : Here p l e R s m args below meth c Z own nm bs ml rt n0 T h k n) {a : Addr} {N i : Nat} {f : Nat → Int32} {j x v : Int32} (hd : decode bs pc = .ok (.castore, 1)) (A : Arf Z h a .char N f) (hj : j.toInt = i) (hi : i < N) (ge : n0 ≤ a) (hv : nar .char x = v) (hp : pc + 1 = pc') (r : ∀ T' h', Here p l e R s m args below meth c Z own nm bs ml rt n0 T' h' k n → Wr h h' a i (.int v) → Arf Z h' a .char N (upd f i v) → Run p e below F T' (mkF m pc' ls st)) : Run p e below F T (mkF m pc ls (.int x :: .int j :: .ref a :: st)) := by
  obtain ⟨⟨hx, hby, hml, hZ, hown, hnm, hret, hlk⟩, hs0, eT, locs, S, N_⟩ := X
  subst hp hv
  obtain ⟨cl, A, SZ, H⟩ := A
  obtain ⟨T', h', X', e', W, st'⟩ := stC S hx hZ eT A (j := j) (x := x) (ix_in hj hi SZ) (g := mkF m pc ls (.int x :: .int j :: .ref a :: st)) rfl rfl (hb hby hd)
  rw [ix_clamp hj] at W
  refine Run.of (fun t q => st' t q) (r T' h' ⟨⟨hx, hby, hml, hZ, hown, hnm, hret, hlk⟩, ?_, e', _, X', Fr.snoc X' N_ ge⟩ W (Arf.set ⟨cl, A, SZ, H⟩ W))
  rw [W.size]; exact hs0
theorem r_iastore (X : Here p l e R s m args below meth c Z own nm bs ml rt n0 T h k n) {a : Addr} {N i : Nat} {f : Nat → Int32} {j x v : Int32} (hd : decode bs pc = .ok (.iastore, 1)) (A : Arf Z h a .int N f) (hj : j.toInt = i) (hi : i < N) (ge : n0 ≤ a) (hv : x = v) (hp : pc + 1 = pc') (r : ∀ T' h', Here p l e R s m args below meth c Z own nm bs ml rt n0 T' h' k n → Wr h h' a i (.int v) → Arf Z h' a .int N (upd f i v) → Run p e below F T' (mkF m pc' ls st)) : Run p e below F T (mkF m pc ls (.int x :: .int j :: .ref a :: st)) := by
  obtain ⟨⟨hx, hby, hml, hZ, hown, hnm, hret, hlk⟩, hs0, eT, locs, S, N_⟩ := X
  subst hp hv
  obtain ⟨cl, A, SZ, H⟩ := A
  obtain ⟨T', h', X', e', W, st'⟩ := stI S hx hZ eT A (j := j) (x := x) (ix_in hj hi SZ) (g := mkF m pc ls (.int x :: .int j :: .ref a :: st)) rfl rfl (hb hby hd)
  rw [ix_clamp hj] at W
  refine Run.of (fun t q => st' t q) (r T' h' ⟨⟨hx, hby, hml, hZ, hown, hnm, hret, hlk⟩, ?_, e', _, X', Fr.snoc X' N_ ge⟩ W (Arf.set ⟨cl, A, SZ, H⟩ W))
  rw [W.size]; exact hs0
theorem r_newarray (X : Here p l e R s m args below meth c Z own nm bs ml rt n0 T h k n) {aty : ArrayType} {z : Int32} {N : Nat} (hd : decode bs pc = .ok (.newarray aty, 2)) (w : (Jvm.Cond.arrayClass (newarray.typeOf aty)).before a0 Z = true) (hz : z.toInt = N) (hdf : defaultValue (newarray.typeOf aty) = .int 0) (hb8 : N * 8 ≤ 536870912) (hc : k + 1 ≤ R.cells) (hl : n + N ≤ R.slots) (hp : pc + 2 = pc') (r : ∀ T' h' b, Here p l e R s m args below meth c Z own nm bs ml rt n0 T' h' (k + 1) (n + N) → b = h.size → n0 ≤ b → Ext h h' → Arf Z h' b (newarray.typeOf aty) N (fun _ => 0) → Run p e below F T' (mkF m pc' ls (.ref b :: st))) : Run p e below F T (mkF m pc ls (.int z :: st)) := by
  obtain ⟨⟨hx, hby, hml, hZ, hown, hnm, hret, hlk⟩, hs0, eT, locs, S, N_⟩ := X
  subst hp
  have hneg : ¬ z < 0 := by
    rw [Int32.lt_iff_toInt_lt, hz]
    have e0 : (0 : Int32).toInt = 0 := rfl
    omega
  obtain ⟨T', h', cA, X', e', E, A, st'⟩ := newP S hx hZ w eT (g := mkF m pc ls (.int z :: st)) rfl (hb hby hd) rfl hneg (cap := N) (Nat.le_of_eq (ix_clamp hz)) hb8 hc hl
  refine Run.of (fun t q => st' t q) (r T' h' h.size ⟨⟨hx, hby, hml, hZ, hown, hnm, hret, hlk⟩, Nat.le_trans hs0 E.1, e', _, X', N_⟩ rfl hs0 E ⟨_, A, (sz_new _ _ _).trans (ix_clamp hz), fun j hj => ?_⟩)
  simp [newA, ix_clamp hz, hj, hdf]
theorem r_new (X : Here p l e R s m args below meth c Z own nm bs ml rt n0 T h k n) {C : String} {i sz : Nat} (hd : decode bs pc = .ok (.new i, 3)) (w : (Jvm.Cond.classLink own i C).before a0 Z = true) (wi : (Jvm.Cond.instantiable C sz).before a0 Z = true) (wz : (Jvm.Cond.initialized C).before a0 Z = true) (hc : k + 1 ≤ R.cells) (hl : n + sz ≤ R.slots) (hp : pc + 3 = pc') (r : ∀ T' h' b, Here p l e R s m args below meth c Z own nm bs ml rt n0 T' h' (k + 1) (n + sz) → b = h.size → n0 ≤ b → Ext h h' → Exa Z h' b C → (∀ {O f d : String} {ty : FieldType}, Laid Z a0 C O f d → parseFieldDescriptor d = some ty → Fld Z h' b O f d (defaultValue ty)) → Run p e below F T' (mkF m pc' ls (.ref b :: st))) : Run p e below F T (mkF m pc ls st) := by
  obtain ⟨⟨hx, hby, hml, hZ, hown, hnm, hret, hlk⟩, hs0, eT, locs, S, N⟩ := X
  subst hp
  obtain ⟨T', h', X', e', E, A, D, -, st'⟩ := newO S hx hZ hown w wi wz eT (g := mkF m pc ls st) rfl (hb hby hd) hc hl
  exact Run.of (fun t q => st' t q) (r T' h' h.size ⟨⟨hx, hby, hml, hZ, hown, hnm, hret, hlk⟩, Nat.le_trans hs0 E.1, e', _, X', N⟩ rfl hs0 E A D)
theorem r_getfield (X : Here p l e R s m args below meth c Z own nm bs ml rt n0 T h k n) {R0 f d : String} {i : Nat} {a : Addr} {v : Value} (hd : decode bs pc = .ok (.getfield i, 3)) (w : (Jvm.Cond.fieldLink own i R0 f d).before a0 Z = true) (Ff : Fld Z h a R0 f d v) (hp : pc + 3 = pc') (r : ∀ T', Here p l e R s m args below meth c Z own nm bs ml rt n0 T' h k n → Run p e below F T' (mkF m pc' ls (v :: st))) : Run p e below F T (mkF m pc ls (.ref a :: st)) := by
  obtain ⟨⟨hx, hby, hml, hZ, hown, hnm, hret, hlk⟩, hs0, eT, locs, S, N⟩ := X
  subst hp
  obtain ⟨T', X', e', st'⟩ := getF S hx hZ hown (host := "") (Or.inl w) Via.refl eT Ff (g := mkF m pc ls (.ref a :: st)) rfl rfl (hb hby hd)
  exact Run.of (fun t q => st' t q) (r T' ⟨⟨hx, hby, hml, hZ, hown, hnm, hret, hlk⟩, hs0, e', _, X', N⟩)
theorem r_putfield (X : Here p l e R s m args below meth c Z own nm bs ml rt n0 T h k n) {R0 f d C : String} {i kk : Nat} {a : Addr} {v old : Value} {ty : FieldType} (hd : decode bs pc = .ok (.putfield i, 3)) (w : (Jvm.Cond.fieldLink own i R0 f d).before a0 Z = true) (Ff : Fld Z h a R0 f d old) (E : Exa Z h a C) (L : (Jvm.Cond.lays C R0 f d).before a0 Z = true ∨ ((Jvm.Cond.laysFinal C R0 f d).before a0 Z = true ∧ own = R0 ∧ nm = "<init>")) (wi : (Jvm.Cond.instantiable C kk).before a0 Z = true) (hty : parseFieldDescriptor d = some ty) (hn : narrow ty v = v) (hf : fits ty v = true) (ge : n0 ≤ a) (hp : pc + 3 = pc') (r : ∀ T' h', Here p l e R s m args below meth c Z own nm bs ml rt n0 T' h' k n → Wr h h' a (Jvm.RoadKit.slotOf Z R0 f d) v → Run p e below F T' (mkF m pc' ls st)) : Run p e below F T (mkF m pc ls (v :: .ref a :: st)) := by
  obtain ⟨⟨hx, hby, hml, hZ, hown, hnm, hret, hlk⟩, hs0, eT, locs, S, N⟩ := X
  subst hp
  obtain ⟨T', h', X', e', W, st'⟩ := putF S hx hZ hown (host := "") (Or.inl w) Via.refl eT Ff E (L.imp id fun q => ⟨q.1, q.2.1, hnm.trans q.2.2⟩) wi hty hn hf (g := mkF m pc ls (v :: .ref a :: st)) rfl rfl (hb hby hd)
  refine Run.of (fun t q => st' t q) (r T' h' ⟨⟨hx, hby, hml, hZ, hown, hnm, hret, hlk⟩, ?_, e', _, X', Fr.snoc X' N ge⟩ W)
  rw [W.size]; exact hs0
theorem r_initObject (X : Here p l e R s m args below meth c Z own nm bs ml rt n0 T h k n) {i : Nat} {a : Addr} (hd : decode bs pc = .ok (.invokespecial i, 3)) (w1 : (Jvm.Cond.methodLink own i Lib.objectInit).before a0 Z = true) (w2 : (Jvm.Cond.instanceMethod Lib.objectInit).before a0 Z = true) (w3 : (Jvm.Cond.code Lib.objectInit ⟨#[0xb1]⟩ 1 none).before a0 Z = true) (hsz : ls.size = ml) (hf : 1 ≤ R.frames) {W : Nat} (hW : (st.map fun v => v.category).sum = W) (hl : W + 12 ≤ R.locals) (hp : pc + 3 = pc') (r : ∀ T', Here p l e R s m args below meth c Z own nm bs ml rt n0 T' h k n → Run p e below F T' (mkF m pc' ls st)) : Run p e below F T (mkF m pc ls (.ref a :: st)) := by
  obtain ⟨⟨hx, hby, hml, hZ, hown, hnm, hret, hlk⟩, hs0, eT, locs, S, N⟩ := X
  subst hp
  obtain ⟨T', X', e', st'⟩ := initO S hx hZ hown w1 w2 w3 eT (g := mkF m pc ls (.ref a :: st)) rfl (by rw [hml]; exact hsz) rfl (hb hby hd) hf (W := W) (by show 2 * 0 + _ ≤ _; rw [hW]; omega) hl
  exact Run.of (fun t q => st' t q) (r T' ⟨⟨hx, hby, hml, hZ, hown, hnm, hret, hlk⟩, hs0, e', _, X', N⟩)
theorem r_callS (X : Here p l e R s m args below meth c Z own nm bs ml rt n0 T h k n) {y : MethodName} {i : Nat} {bs' : ByteArray} {ml' : Nat} {rt' : Option FieldType} {rm : Room} {Q' : Option Value → Heap → Prop} {ps : List FieldType} {rr : Option FieldType} {argsL rest : List Value} {W : Nat} (hd : decode bs pc = .ok (.invokestatic i, 3)) (C : Con l Z y bs' ml' rt' rm argsL.toArray h n0 rm.cells rm.slots Q') (w1 : (Jvm.Cond.methodLink own i y).before a0 Z = true) (w2 : (Jvm.Cond.static y).before a0 Z = true) (w3 : (Jvm.Cond.initialized y.cls).before a0 Z = true) (w4 : (Jvm.Cond.code y bs' ml' rt').before a0 Z = true) (hy : y.cls ≠ "java/lang/invoke/MethodHandle" ∧ y.cls ≠ "java/lang/invoke/VarHandle") (hst : st = argsL.reverse ++ rest) (hsz : ls.size = ml) (hpd : parseMethodDescriptor y.desc = some ⟨ps, rr⟩) (hlen : argsL.length = ps.length) (hW : (rest.map fun v => v.category).sum = W) (hf : rm.frames + 1 ≤ R.frames) (hl : W + (ml' + 11) + rm.locals ≤ R.locals) (hc : k + rm.cells ≤ R.cells) (hs : n + rm.slots ≤ R.slots) (hp : pc + 3 = pc') (r : ∀ v T' h', Here p l e R s m args below meth c Z own nm bs ml rt n0 T' h' (k + rm.cells) (n + rm.slots) → Q' v h' → Run p e below F T' (mkF m pc' ls (v.toList ++ rest))) : Run p e below F T (mkF m pc ls st) := by
  obtain ⟨⟨hx, hby, hml, hZ, hown, hnm, hret, hlk⟩, hs0, eT, locs, S, N⟩ := X
  subst hp hst
  obtain ⟨v, _, B, -, X', ⟨L, hQ, l1, l2, l3⟩, st'⟩ := Jvm.LawKit.callS S hx (y := y) hown (mvT hZ w1) (mvT hZ w2) (mvT hZ w3) (mvT hZ w4) hy (backOf (W := W) (Q := fun v hh L => Q' v hh ∧ n0 ≤ hh.size ∧ Fr n0 L) (C []) hZ w4 w3 hf hl) (g := mkF m pc ls (argsL.reverse ++ rest)) rfl (by rw [hml]; exact hsz) (argsL := argsL) (rest := rest) (lenOf hpd hlen) rfl (by show 2 * 0 + _ ≤ _; rw [hW]; omega) (hb hby hd) (fun _ _ => ⟨rfl, eT, hc, hs⟩)
  obtain ⟨hQ, hs1, hF⟩ := hQ
  have X'' : Here p l e R s m args below meth c Z own nm bs ml rt n0 B.U B.U.heap (k + rm.cells) (n + rm.slots) := ⟨⟨hx, hby, hml, hZ, hown, hnm, hret, hlk⟩, hs1, rfl, B.locs, by rw [l2, l3] at X'; exact X', by rw [l1]; exact Fr.app N hF⟩
  exact Run.of (fun t q => st' t q) (r v B.U B.U.heap X'' hQ)
theorem r_init (X : Here p l e R s m args below meth c Z own nm bs ml rt n0 T h k n) {y : MethodName} {i : Nat} {bs' : ByteArray} {ml' : Nat} {rm : Room} {Q' : Option Value → Heap → Prop} {ps : List FieldType} {rr : Option FieldType} {argsL rest : List Value} {W : Nat} {a : Addr} (hd : decode bs pc = .ok (.invokespecial i, 3)) (C : Con l Z y bs' ml' none rm (.ref a :: argsL).toArray h n0 rm.cells rm.slots Q') (hy1 : y.name = "<init>") (w1 : (Jvm.Cond.methodLink own i y).before a0 Z = true) (w2 : (Jvm.Cond.instanceMethod y).before a0 Z = true) (w3 : (Jvm.Cond.initialized y.cls).before a0 Z = true) (w4 : (Jvm.Cond.code y bs' ml' none).before a0 Z = true) (hy : y.cls ≠ "java/lang/invoke/MethodHandle" ∧ y.cls ≠ "java/lang/invoke/VarHandle") (hst : st = argsL.reverse ++ .ref a :: rest) (hsz : ls.size = ml) (hpd : parseMethodDescriptor y.desc = some ⟨ps, rr⟩) (hlen : argsL.length = ps.length) (hW : (rest.map fun v => v.category).sum = W) (hf : rm.frames + 1 ≤ R.frames) (hl : W + (ml' + 11) + rm.locals ≤ R.locals) (hc : k + rm.cells ≤ R.cells) (hs : n + rm.slots ≤ R.slots) (hp : pc + 3 = pc') (r : ∀ v T' h', Here p l e R s m args below meth c Z own nm bs ml rt n0 T' h' (k + rm.cells) (n + rm.slots) → Q' v h' → Run p e below F T' (mkF m pc' ls (v.toList ++ rest))) : Run p e below F T (mkF m pc ls st) := by
  obtain ⟨⟨hx, hby, hml, hZ, hown, hnm, hret, hlk⟩, hs0, eT, locs, S, N⟩ := X
  subst hp hst
  obtain ⟨v, _, B, -, X', ⟨L, hQ, l1, l2, l3⟩, st'⟩ := S.specialBack hx (y := y) hy1 hown (mvT hZ w1) (mvT hZ w2) (mvT hZ w4) hy (backOf (W := W) (Q := fun v hh L => Q' v hh ∧ n0 ≤ hh.size ∧ Fr n0 L) (C []) hZ w4 w3 hf hl) (g := mkF m pc ls (argsL.reverse ++ .ref a :: rest)) rfl (by rw [hml]; exact hsz) (Steps.refl _) (a := a) (argsL := argsL) (rest := rest) (lenOf hpd hlen) rfl (by show 2 * 0 + _ ≤ _; rw [hW]; omega) (hb hby hd) (fun _ _ => ⟨rfl, eT, hc, hs⟩)
  obtain ⟨hQ, hs1, hF⟩ := hQ
  have X'' : Here p l e R s m args below meth c Z own nm bs ml rt n0 B.U B.U.heap (k + rm.cells) (n + rm.slots) := ⟨⟨hx, hby, hml, hZ, hown, hnm, hret, hlk⟩, hs1, rfl, B.locs, by rw [l2, l3] at X'; exact X', by rw [l1]; exact Fr.app N hF⟩
  exact Run.of (fun t q => st'.trans q) (r v B.U B.U.heap X'' hQ)
theorem r_callV (X : Here p l e R s m args below meth c Z own nm bs ml rt n0 T h k n) {y : MethodName} {i : Nat} {bs' : ByteArray} {ml' : Nat} {rt' : Option FieldType} {rm : Room} {Q' : Option Value → Heap → Prop} {ps : List FieldType} {rr : Option FieldType} {argsL rest : List Value} {W : Nat} {C0 : String} {a : Addr} (hd : decode bs pc = .ok (.invokevirtual i, 3)) (C : Con l Z y bs' ml' rt' rm (.ref a :: argsL).toArray h n0 rm.cells rm.slots Q') (E : Exa Z h a C0) (w1 : (Jvm.Cond.methodLink own i y).before a0 Z = true) (w2 : (Jvm.Cond.declares y).before a0 Z = true) (w5 : (Jvm.Cond.selects C0 y y).before a0 Z = true) (w6 : (Jvm.Cond.instanceMethod y).before a0 Z = true) (w3 : (Jvm.Cond.initialized y.cls).before a0 Z = true) (w4 : (Jvm.Cond.code y bs' ml' rt').before a0 Z = true) (hy : y.cls ≠ "java/lang/invoke/MethodHandle" ∧ y.cls ≠ "java/lang/invoke/VarHandle") (hst : st = argsL.reverse ++ .ref a :: rest) (hsz : ls.size = ml) (hpd : parseMethodDescriptor y.desc = some ⟨ps, rr⟩) (hlen : argsL.length = ps.length) (hW : (rest.map fun v => v.category).sum = W) (hf : rm.frames + 1 ≤ R.frames) (hl : W + (ml' + 11) + rm.locals ≤ R.locals) (hc : k + rm.cells ≤ R.cells) (hs : n + rm.slots ≤ R.slots) (hp : pc + 3 = pc') (r : ∀ v T' h', Here p l e R s m args below meth c Z own nm bs ml rt n0 T' h' (k + rm.cells) (n + rm.slots) → Q' v h' → Run p e below F T' (mkF m pc' ls (v.toList ++ rest))) : Run p e below F T (mkF m pc ls st) := by
  obtain ⟨⟨hx, hby, hml, hZ, hown, hnm, hret, hlk⟩, hs0, eT, locs, S, N⟩ := X
  subst hp hst
  obtain ⟨cq, kq, qa, qb, qc⟩ := isOf hZ eT E
  obtain ⟨v, _, B, -, X', ⟨L, hQ, l1, l2, l3⟩, st'⟩ := S.virtualBack hx (y := y) (z := y) hown (mvT hZ w1) (mvT hZ w2) (notFace_of_selects (args := #[]) (mvT hZ w5)) (mvT hZ w5) (mvT hZ w6) hy (backOf (W := W) (Q := fun v hh L => Q' v hh ∧ n0 ≤ hh.size ∧ Fr n0 L) (C []) hZ w4 w3 hf hl) qa qc (g := mkF m pc ls (argsL.reverse ++ .ref a :: rest)) rfl (by rw [hml]; exact hsz) (Steps.refl _) (argsL := argsL) (rest := rest) (lenOf hpd hlen) rfl (by show 2 * 0 + _ ≤ _; rw [hW]; omega) (hb hby hd) (fun _ _ => ⟨rfl, eT, hc, hs⟩)
  obtain ⟨hQ, hs1, hF⟩ := hQ
  have X'' : Here p l e R s m args below meth c Z own nm bs ml rt n0 B.U B.U.heap (k + rm.cells) (n + rm.slots) := ⟨⟨hx, hby, hml, hZ, hown, hnm, hret, hlk⟩, hs1, rfl, B.locs, by rw [l2, l3] at X'; exact X', by rw [l1]; exact Fr.app N hF⟩
  exact Run.of (fun t q => st'.trans q) (r v B.U B.U.heap X'' hQ)
end Own
/-- an int by its bits' number -/
theorem n_bits (x : Int32) : x.toInt = ((x.toBitVec.toNat : Int) + 2147483648) % 4294967296 - 2147483648 := by
  have e : x.toInt = x.toBitVec.toInt := rfl
  have hb := x.toBitVec.isLt
  rw [e, BitVec.toInt_eq_toNat_cond]
  split <;> omega
theorem n_i2b (x : Int32) : (x.toInt8.toInt32).toInt = (x.toInt + 128) % 256 - 128 := by
  rw [Int8.toInt_toInt32, Int32.toInt_toInt8, Int.bmod_def]; omega
theorem n_i2c (x : Int32) : (x.toUInt32.toUInt16.toUInt32.toInt32).toInt = x.toInt % 65536 := by
  have h : (x.toUInt32.toUInt16.toUInt32.toInt32).toBitVec.toNat = x.toBitVec.toNat % 65536 := by
    show ((x.toBitVec.setWidth 16).setWidth 32).toNat = _
    rw [BitVec.toNat_setWidth, BitVec.toNat_setWidth]; omega
  have h1 := n_bits (x.toUInt32.toUInt16.toUInt32.toInt32)
  have h2 := n_bits x
  have h3 := x.toBitVec.isLt
  omega
theorem n_narC (x : Int32) : nar .char x.toUInt32.toUInt16.toUInt32.toInt32 = x.toUInt32.toUInt16.toUInt32.toInt32 := by
  apply Int32.toInt_inj.mp
  show (Int32.toUInt32 _).toUInt16.toUInt32.toInt32.toInt = _
  rw [n_i2c, n_i2c]; omega
theorem n_narB (x : Int32) : nar .byte x.toInt8.toInt32 = x.toInt8.toInt32 := by
  apply Int32.toInt_inj.mp
  show (Int32.toInt8 _).toInt32.toInt = _
  rw [n_i2b, n_i2b]; omega
theorem n_add {x y : Int32} {a b : Int} (hx : x.toInt = a) (hy : y.toInt = b) (h1 : -2147483648 ≤ a + b) (h2 : a + b ≤ 2147483647) : (x + y).toInt = a + b := by
  subst hx hy; exact Jvm.Kit.i32_add (by omega) (by omega)
theorem n_sub {x y : Int32} {a b : Int} (hx : x.toInt = a) (hy : y.toInt = b) (h1 : -2147483648 ≤ a - b) (h2 : a - b ≤ 2147483647) : (x - y).toInt = a - b := by
  subst hx hy; exact Jvm.Kit.i32_sub (by omega) (by omega)
theorem n_nat {x : Int32} {n : Nat} (h : x.toInt = n) : x = Int32.ofNat n := by
  have a := x.toInt_lt
  exact Int32.toInt_inj.mp (by rw [h, Int32.toInt_ofNat_of_lt (by omega)])
theorem n_max (x : Int32) : 0 ≤ (x &&& (2147483647 : Int32)).toInt := by
  have : (x &&& (2147483647 : Int32)).toInt = x.toInt % 2 ^ 31 := Jvm.Kit.i32_mask x 2147483647 (k := 31) (by decide) (by decide)
  omega
theorem n_bitsL (x : Int64) : x.toInt = ((x.toBitVec.toNat : Int) + 9223372036854775808) % 18446744073709551616 - 9223372036854775808 := by
  have e : x.toInt = x.toBitVec.toInt := rfl
  have hb := x.toBitVec.isLt
  rw [e, BitVec.toInt_eq_toNat_cond]
  split <;> omega
theorem n_ushr (x y : Int32) (s : Nat) (hs : ((y &&& 31).toUInt32).toNat = s) (h1 : s < 32) : ((XT.ushr x y).toBitVec.toNat : Nat) = x.toBitVec.toNat / 2 ^ s := by
  show ((x.toUInt32 >>> (y &&& 31).toUInt32).toInt32).toBitVec.toNat = _
  simp only [UInt32.toBitVec_toInt32, UInt32.toBitVec_shiftRight, Int32.toBitVec_toUInt32]
  simp [BitVec.toNat_ushiftRight, Nat.shiftRight_eq_div_pow]
  have h2 : y.toBitVec.toNat &&& 31 = s := hs
  rw [h2, Nat.mod_eq_of_lt h1]
def own_b (x : Int32) : Int32 := x.toInt8.toInt32
theorem own_nb (x : Int32) : nar .byte (own_b x) = own_b x := n_narB x
theorem own_bi (x : Int32) : (own_b x).toInt = (x.toInt + 128) % 256 - 128 := n_i2b x
/-- the first place from i on whose byte isn't negative is z - 1 -/
def own_R (f : Nat → Int32) (i : Nat) (z : Int32) : Prop := ∃ e : Nat, i ≤ e ∧ e ≤ 10 ∧ (∀ j, i ≤ j → j < e → (f j).toInt < 0) ∧ 0 ≤ (f e).toInt ∧ z.toInt = e + 1
theorem own_uniq {f : Nat → Int32} {i : Nat} {z w : Int32} (h1 : own_R f i z) (h2 : own_R f i w) : z.toInt = w.toInt := by
  obtain ⟨e, a1, a2, a3, a4, a5⟩ := h1
  obtain ⟨e', b1, b2, b3, b4, b5⟩ := h2
  rcases Nat.lt_trichotomy e e' with q | q | q
  · have := b3 e a1 q; omega
  · omega
  · have := a3 e' b1 q; omega
theorem own_H {f : Nat → Int32} {i k : Nat} (H : ∀ j, i ≤ j → j < i + k → (f j).toInt < 0) (q : (f (i + k)).toInt < 0) : ∀ j, i ≤ j → j < i + (k + 1) → (f j).toInt < 0 := fun j h1 h2 => by
  by_cases e : j = i + k
  · rw [e]; exact q
  · exact H j h1 (by omega)
theorem own_next {f : Nat → Int32} {i0 i : Nat} (H : ∀ j, i0 ≤ j → j < i → (f j).toInt < 0) (q : (f i).toInt < 0) : ∀ j, i0 ≤ j → j < i + 1 → (f j).toInt < 0 := fun j h1 h2 => by
  by_cases e : j = i
  · rw [e]; exact q
  · exact H j h1 (by omega)
theorem own_ne {f : Nat → Int32} {i : Nat} (h10 : 0 ≤ (f 10).toInt) (q : (f i).toInt < 0) (hi : i ≤ 10) : i < 10 := by
  rcases Nat.lt_or_ge i 10 with h | h
  · exact h
  · have : i = 10 := by omega
    rw [this] at q; omega
theorem pn_com_example_edgesheet_edgesheet_core_ByteSourceSkipVarintPinLaw : plainName "com/example/edgesheet/edgesheet/core/ByteSourceSkipVarintPinLaw" = true := by first | (simp [plainName, overriddenIn]; done) | decide +kernel
theorem d_expectedEnd_0 : decode method_2_code 0 = .ok (.aload_n 0, 1) := by decide +kernel
theorem d_expectedEnd_1 : decode method_2_code 1 = .ok (.iload_n 1, 1) := by decide +kernel
theorem d_expectedEnd_2 : decode method_2_code 2 = .ok (.baload, 1) := by decide +kernel
theorem d_expectedEnd_3 : decode method_2_code 3 = .ok (.ifCond .lt 7, 3) := by decide +kernel
theorem d_expectedEnd_10 : decode method_2_code 10 = .ok (.aload_n 0, 1) := by decide +kernel
theorem d_expectedEnd_11 : decode method_2_code 11 = .ok (.iload_n 1, 1) := by decide +kernel
theorem d_expectedEnd_12 : decode method_2_code 12 = .ok (.iconst 1, 1) := by decide +kernel
theorem d_expectedEnd_13 : decode method_2_code 13 = .ok (.iadd, 1) := by decide +kernel
theorem d_expectedEnd_14 : decode method_2_code 14 = .ok (.baload, 1) := by decide +kernel
theorem d_expectedEnd_15 : decode method_2_code 15 = .ok (.ifCond .lt 7, 3) := by decide +kernel
theorem d_expectedEnd_22 : decode method_2_code 22 = .ok (.aload_n 0, 1) := by decide +kernel
theorem d_expectedEnd_23 : decode method_2_code 23 = .ok (.iload_n 1, 1) := by decide +kernel
theorem d_expectedEnd_24 : decode method_2_code 24 = .ok (.iconst 2, 1) := by decide +kernel
theorem d_expectedEnd_25 : decode method_2_code 25 = .ok (.iadd, 1) := by decide +kernel
theorem d_expectedEnd_26 : decode method_2_code 26 = .ok (.baload, 1) := by decide +kernel
theorem d_expectedEnd_27 : decode method_2_code 27 = .ok (.ifCond .lt 7, 3) := by decide +kernel
theorem d_expectedEnd_34 : decode method_2_code 34 = .ok (.aload_n 0, 1) := by decide +kernel
theorem d_expectedEnd_35 : decode method_2_code 35 = .ok (.iload_n 1, 1) := by decide +kernel
theorem d_expectedEnd_36 : decode method_2_code 36 = .ok (.iconst 3, 1) := by decide +kernel
theorem d_expectedEnd_37 : decode method_2_code 37 = .ok (.iadd, 1) := by decide +kernel
theorem d_expectedEnd_38 : decode method_2_code 38 = .ok (.baload, 1) := by decide +kernel
theorem d_expectedEnd_39 : decode method_2_code 39 = .ok (.ifCond .lt 7, 3) := by decide +kernel
theorem d_expectedEnd_46 : decode method_2_code 46 = .ok (.aload_n 0, 1) := by decide +kernel
theorem d_expectedEnd_47 : decode method_2_code 47 = .ok (.iload_n 1, 1) := by decide +kernel
theorem d_expectedEnd_48 : decode method_2_code 48 = .ok (.iconst 4, 1) := by decide +kernel
theorem d_expectedEnd_49 : decode method_2_code 49 = .ok (.iadd, 1) := by decide +kernel
theorem d_expectedEnd_50 : decode method_2_code 50 = .ok (.baload, 1) := by decide +kernel
theorem d_expectedEnd_51 : decode method_2_code 51 = .ok (.ifCond .lt 7, 3) := by decide +kernel
theorem d_expectedEnd_58 : decode method_2_code 58 = .ok (.aload_n 0, 1) := by decide +kernel
theorem d_expectedEnd_59 : decode method_2_code 59 = .ok (.iload_n 1, 1) := by decide +kernel
theorem d_expectedEnd_60 : decode method_2_code 60 = .ok (.iconst 5, 1) := by decide +kernel
theorem d_expectedEnd_61 : decode method_2_code 61 = .ok (.iadd, 1) := by decide +kernel
theorem d_expectedEnd_62 : decode method_2_code 62 = .ok (.baload, 1) := by decide +kernel
theorem d_expectedEnd_63 : decode method_2_code 63 = .ok (.ifCond .lt 8, 3) := by decide +kernel
theorem d_expectedEnd_71 : decode method_2_code 71 = .ok (.aload_n 0, 1) := by decide +kernel
theorem d_expectedEnd_72 : decode method_2_code 72 = .ok (.iload_n 1, 1) := by decide +kernel
theorem d_expectedEnd_73 : decode method_2_code 73 = .ok (.bipush 6, 2) := by decide +kernel
theorem d_expectedEnd_75 : decode method_2_code 75 = .ok (.iadd, 1) := by decide +kernel
theorem d_expectedEnd_76 : decode method_2_code 76 = .ok (.baload, 1) := by decide +kernel
theorem d_expectedEnd_77 : decode method_2_code 77 = .ok (.ifCond .lt 8, 3) := by decide +kernel
theorem d_expectedEnd_85 : decode method_2_code 85 = .ok (.aload_n 0, 1) := by decide +kernel
theorem d_expectedEnd_86 : decode method_2_code 86 = .ok (.iload_n 1, 1) := by decide +kernel
theorem d_expectedEnd_87 : decode method_2_code 87 = .ok (.bipush 7, 2) := by decide +kernel
theorem d_expectedEnd_89 : decode method_2_code 89 = .ok (.iadd, 1) := by decide +kernel
theorem d_expectedEnd_90 : decode method_2_code 90 = .ok (.baload, 1) := by decide +kernel
theorem d_expectedEnd_91 : decode method_2_code 91 = .ok (.ifCond .lt 8, 3) := by decide +kernel
theorem d_expectedEnd_99 : decode method_2_code 99 = .ok (.aload_n 0, 1) := by decide +kernel
theorem d_expectedEnd_100 : decode method_2_code 100 = .ok (.iload_n 1, 1) := by decide +kernel
theorem d_expectedEnd_101 : decode method_2_code 101 = .ok (.bipush 8, 2) := by decide +kernel
theorem d_expectedEnd_103 : decode method_2_code 103 = .ok (.iadd, 1) := by decide +kernel
theorem d_expectedEnd_104 : decode method_2_code 104 = .ok (.baload, 1) := by decide +kernel
theorem d_expectedEnd_105 : decode method_2_code 105 = .ok (.ifCond .lt 8, 3) := by decide +kernel
theorem d_expectedEnd_113 : decode method_2_code 113 = .ok (.aload_n 0, 1) := by decide +kernel
theorem d_expectedEnd_114 : decode method_2_code 114 = .ok (.iload_n 1, 1) := by decide +kernel
theorem d_expectedEnd_115 : decode method_2_code 115 = .ok (.bipush 9, 2) := by decide +kernel
theorem d_expectedEnd_117 : decode method_2_code 117 = .ok (.iadd, 1) := by decide +kernel
theorem d_expectedEnd_118 : decode method_2_code 118 = .ok (.baload, 1) := by decide +kernel
theorem d_expectedEnd_119 : decode method_2_code 119 = .ok (.ifCond .lt 8, 3) := by decide +kernel
theorem d_expectedEnd_127 : decode method_2_code 127 = .ok (.aload_n 0, 1) := by decide +kernel
theorem d_expectedEnd_128 : decode method_2_code 128 = .ok (.iload_n 1, 1) := by decide +kernel
theorem d_expectedEnd_129 : decode method_2_code 129 = .ok (.bipush 10, 2) := by decide +kernel
theorem d_expectedEnd_131 : decode method_2_code 131 = .ok (.iadd, 1) := by decide +kernel
theorem d_expectedEnd_132 : decode method_2_code 132 = .ok (.baload, 1) := by decide +kernel
theorem d_expectedEnd_133 : decode method_2_code 133 = .ok (.ifCond .lt 8, 3) := by decide +kernel
theorem d_expectedEnd_136 : decode method_2_code 136 = .ok (.iload_n 1, 1) := by decide +kernel
theorem d_expectedEnd_137 : decode method_2_code 137 = .ok (.bipush 11, 2) := by decide +kernel
theorem d_expectedEnd_139 : decode method_2_code 139 = .ok (.iadd, 1) := by decide +kernel
theorem d_expectedEnd_140 : decode method_2_code 140 = .ok (.ireturn, 1) := by decide +kernel
theorem d_expectedEnd_122 : decode method_2_code 122 = .ok (.iload_n 1, 1) := by decide +kernel
theorem d_expectedEnd_123 : decode method_2_code 123 = .ok (.bipush 10, 2) := by decide +kernel
theorem d_expectedEnd_125 : decode method_2_code 125 = .ok (.iadd, 1) := by decide +kernel
theorem d_expectedEnd_126 : decode method_2_code 126 = .ok (.ireturn, 1) := by decide +kernel
theorem d_expectedEnd_108 : decode method_2_code 108 = .ok (.iload_n 1, 1) := by decide +kernel
theorem d_expectedEnd_109 : decode method_2_code 109 = .ok (.bipush 9, 2) := by decide +kernel
theorem d_expectedEnd_111 : decode method_2_code 111 = .ok (.iadd, 1) := by decide +kernel
theorem d_expectedEnd_112 : decode method_2_code 112 = .ok (.ireturn, 1) := by decide +kernel
theorem d_expectedEnd_94 : decode method_2_code 94 = .ok (.iload_n 1, 1) := by decide +kernel
theorem d_expectedEnd_95 : decode method_2_code 95 = .ok (.bipush 8, 2) := by decide +kernel
theorem d_expectedEnd_97 : decode method_2_code 97 = .ok (.iadd, 1) := by decide +kernel
theorem d_expectedEnd_98 : decode method_2_code 98 = .ok (.ireturn, 1) := by decide +kernel
theorem d_expectedEnd_80 : decode method_2_code 80 = .ok (.iload_n 1, 1) := by decide +kernel
theorem d_expectedEnd_81 : decode method_2_code 81 = .ok (.bipush 7, 2) := by decide +kernel
theorem d_expectedEnd_83 : decode method_2_code 83 = .ok (.iadd, 1) := by decide +kernel
theorem d_expectedEnd_84 : decode method_2_code 84 = .ok (.ireturn, 1) := by decide +kernel
theorem d_expectedEnd_66 : decode method_2_code 66 = .ok (.iload_n 1, 1) := by decide +kernel
theorem d_expectedEnd_67 : decode method_2_code 67 = .ok (.bipush 6, 2) := by decide +kernel
theorem d_expectedEnd_69 : decode method_2_code 69 = .ok (.iadd, 1) := by decide +kernel
theorem d_expectedEnd_70 : decode method_2_code 70 = .ok (.ireturn, 1) := by decide +kernel
theorem d_expectedEnd_54 : decode method_2_code 54 = .ok (.iload_n 1, 1) := by decide +kernel
theorem d_expectedEnd_55 : decode method_2_code 55 = .ok (.iconst 5, 1) := by decide +kernel
theorem d_expectedEnd_56 : decode method_2_code 56 = .ok (.iadd, 1) := by decide +kernel
theorem d_expectedEnd_57 : decode method_2_code 57 = .ok (.ireturn, 1) := by decide +kernel
theorem d_expectedEnd_42 : decode method_2_code 42 = .ok (.iload_n 1, 1) := by decide +kernel
theorem d_expectedEnd_43 : decode method_2_code 43 = .ok (.iconst 4, 1) := by decide +kernel
theorem d_expectedEnd_44 : decode method_2_code 44 = .ok (.iadd, 1) := by decide +kernel
theorem d_expectedEnd_45 : decode method_2_code 45 = .ok (.ireturn, 1) := by decide +kernel
theorem d_expectedEnd_30 : decode method_2_code 30 = .ok (.iload_n 1, 1) := by decide +kernel
theorem d_expectedEnd_31 : decode method_2_code 31 = .ok (.iconst 3, 1) := by decide +kernel
theorem d_expectedEnd_32 : decode method_2_code 32 = .ok (.iadd, 1) := by decide +kernel
theorem d_expectedEnd_33 : decode method_2_code 33 = .ok (.ireturn, 1) := by decide +kernel
theorem d_expectedEnd_18 : decode method_2_code 18 = .ok (.iload_n 1, 1) := by decide +kernel
theorem d_expectedEnd_19 : decode method_2_code 19 = .ok (.iconst 2, 1) := by decide +kernel
theorem d_expectedEnd_20 : decode method_2_code 20 = .ok (.iadd, 1) := by decide +kernel
theorem d_expectedEnd_21 : decode method_2_code 21 = .ok (.ireturn, 1) := by decide +kernel
theorem d_expectedEnd_6 : decode method_2_code 6 = .ok (.iload_n 1, 1) := by decide +kernel
theorem d_expectedEnd_7 : decode method_2_code 7 = .ok (.iconst 1, 1) := by decide +kernel
theorem d_expectedEnd_8 : decode method_2_code 8 = .ok (.iadd, 1) := by decide +kernel
theorem d_expectedEnd_9 : decode method_2_code 9 = .ok (.ireturn, 1) := by decide +kernel
theorem pn_com_example_edgesheet_edgesheet_core_ByteSource : plainName "com/example/edgesheet/edgesheet/core/ByteSource" = true := by first | (simp [plainName, overriddenIn]; done) | decide +kernel
theorem d_init_ByteSource_0 : decode prog_6_method_1_code 0 = .ok (.aload_n 0, 1) := by decide +kernel
theorem d_init_ByteSource_1 : decode prog_6_method_1_code 1 = .ok (.invokespecial 1, 3) := by decide +kernel
theorem d_init_ByteSource_4 : decode prog_6_method_1_code 4 = .ok (.return_, 1) := by decide +kernel
theorem d_reset_0 : decode prog_6_method_2_code 0 = .ok (.aload_n 0, 1) := by decide +kernel
theorem d_reset_1 : decode prog_6_method_2_code 1 = .ok (.aload_n 1, 1) := by decide +kernel
theorem d_reset_2 : decode prog_6_method_2_code 2 = .ok (.putfield 7, 3) := by decide +kernel
theorem d_reset_5 : decode prog_6_method_2_code 5 = .ok (.aload_n 0, 1) := by decide +kernel
theorem d_reset_6 : decode prog_6_method_2_code 6 = .ok (.iload_n 2, 1) := by decide +kernel
theorem d_reset_7 : decode prog_6_method_2_code 7 = .ok (.putfield 13, 3) := by decide +kernel
theorem d_reset_10 : decode prog_6_method_2_code 10 = .ok (.return_, 1) := by decide +kernel
theorem d_position_0 : decode prog_6_method_4_code 0 = .ok (.aload_n 0, 1) := by decide +kernel
theorem d_position_1 : decode prog_6_method_4_code 1 = .ok (.getfield 13, 3) := by decide +kernel
theorem d_position_4 : decode prog_6_method_4_code 4 = .ok (.ireturn, 1) := by decide +kernel
theorem d_bytes_0 : decode prog_6_method_3_code 0 = .ok (.aload_n 0, 1) := by decide +kernel
theorem d_bytes_1 : decode prog_6_method_3_code 1 = .ok (.getfield 7, 3) := by decide +kernel
theorem d_bytes_4 : decode prog_6_method_3_code 4 = .ok (.areturn, 1) := by decide +kernel
theorem d_skipVarint_0 : decode prog_6_method_8_code 0 = .ok (.aload_n 0, 1) := by decide +kernel
theorem d_skipVarint_1 : decode prog_6_method_8_code 1 = .ok (.getfield 7, 3) := by decide +kernel
theorem d_skipVarint_4 : decode prog_6_method_8_code 4 = .ok (.aload_n 0, 1) := by decide +kernel
theorem d_skipVarint_5 : decode prog_6_method_8_code 5 = .ok (.getfield 13, 3) := by decide +kernel
theorem d_skipVarint_8 : decode prog_6_method_8_code 8 = .ok (.baload, 1) := by decide +kernel
theorem d_skipVarint_9 : decode prog_6_method_8_code 9 = .ok (.ifCond .ge 16, 3) := by decide +kernel
theorem d_skipVarint_25 : decode prog_6_method_8_code 25 = .ok (.aload_n 0, 1) := by decide +kernel
theorem d_skipVarint_26 : decode prog_6_method_8_code 26 = .ok (.dup, 1) := by decide +kernel
theorem d_skipVarint_27 : decode prog_6_method_8_code 27 = .ok (.getfield 13, 3) := by decide +kernel
theorem d_skipVarint_30 : decode prog_6_method_8_code 30 = .ok (.iconst 1, 1) := by decide +kernel
theorem d_skipVarint_31 : decode prog_6_method_8_code 31 = .ok (.iadd, 1) := by decide +kernel
theorem d_skipVarint_32 : decode prog_6_method_8_code 32 = .ok (.putfield 13, 3) := by decide +kernel
theorem d_skipVarint_35 : decode prog_6_method_8_code 35 = .ok (.return_, 1) := by decide +kernel
theorem d_skipVarint_12 : decode prog_6_method_8_code 12 = .ok (.aload_n 0, 1) := by decide +kernel
theorem d_skipVarint_13 : decode prog_6_method_8_code 13 = .ok (.dup, 1) := by decide +kernel
theorem d_skipVarint_14 : decode prog_6_method_8_code 14 = .ok (.getfield 13, 3) := by decide +kernel
theorem d_skipVarint_17 : decode prog_6_method_8_code 17 = .ok (.iconst 1, 1) := by decide +kernel
theorem d_skipVarint_18 : decode prog_6_method_8_code 18 = .ok (.iadd, 1) := by decide +kernel
theorem d_skipVarint_19 : decode prog_6_method_8_code 19 = .ok (.putfield 13, 3) := by decide +kernel
theorem d_skipVarint_22 : decode prog_6_method_8_code 22 = .ok (.goto (-22), 3) := by decide +kernel
theorem pd_expectedEnd : parseMethodDescriptor "([BI)I" = some ⟨[.array (.byte), .int], (some .int)⟩ := by decide +kernel
theorem pd_init_ByteSource : parseMethodDescriptor "()V" = some ⟨[], none⟩ := by decide +kernel
theorem pd_reset : parseMethodDescriptor "([BI)V" = some ⟨[.array (.byte), .int], none⟩ := by decide +kernel
theorem pd_skipVarint : parseMethodDescriptor "()V" = some ⟨[], none⟩ := by decide +kernel
theorem pd_position : parseMethodDescriptor "()I" = some ⟨[], (some .int)⟩ := by decide +kernel
theorem pd_bytes : parseMethodDescriptor "()[B" = some ⟨[], (some (FieldType.array FieldType.byte))⟩ := by decide +kernel
set_option maxRecDepth 65536 in
set_option maxHeartbeats 40000000 in
theorem con_e (l : Launch) (Z : State) (a0 : Array Value) (hw : ∀ d ∈ tables_1, d.before a0 Z = true) (t1 : Addr) (q1 : Int32) (f : Nat → Int32) (i : Nat) (h0 : Heap) (n0 : Nat) (Z0 : n0 ≤ h0.size) (A1 : Arf Z h0 t1 .byte 11 f) (hq1 : q1.toInt = i) (hi : i ≤ 10) (h10 : 0 ≤ (f 10).toInt) : Con l Z (⟨"com/example/edgesheet/edgesheet/core/ByteSourceSkipVarintPinLaw", "expectedEnd", "([BI)I"⟩ : MethodName) method_2_code 2 (some .int) ({ frames := 0, cells := 0, slots := 0, locals := 0 } : Room) #[(.ref t1), (.int q1)] h0 n0 0 0 (fun v h => (∃ z : Int32, v = some (.int z) ∧ own_R f i z) ∧ h0 = h) := by
  refine Con.of_body (ls := #[.val (.ref t1), .val (.int q1)]) pn_com_example_edgesheet_edgesheet_core_ByteSourceSkipVarintPinLaw (fun m => by first | (simp [entryFrame, mkF, argsToLocals, Value.category]; done) | rfl) Z0 (fun p e s m below meth c T (X : Here p l e ({ frames := 0, cells := 0, slots := 0, locals := 0 } : Room) s m #[(.ref t1), (.int q1)] below meth c Z "com/example/edgesheet/edgesheet/core/ByteSourceSkipVarintPinLaw" "expectedEnd" method_2_code 2 (some .int) n0 T h0 0 0) => ?_)
  have H0 : ∀ j, i ≤ j → j < i + 0 → (f j).toInt < 0 := fun j h1 h2 => by omega
  have l0 : i + 0 ≤ 10 := by omega
  refine r_aloadN X (pc' := 1) d_expectedEnd_0 rfl rfl ?_
  refine r_iloadN X (pc' := 2) d_expectedEnd_1 rfl rfl ?_
  refine r_baload X (pc' := 3) (i := (i + 0)) (v := (f (i + 0))) d_expectedEnd_2 A1 (by rw [hq1]; rfl) (by omega) rfl rfl ?_
  refine r_if X (pc' := 10) (pc2 := 6) d_expectedEnd_3 (by decide) (by decide) rfl (a := (f (i + 0)).toInt) (b := 0) rfl rfl (fun (cq1 : (f (i + 0)).toInt < 0) => ?_) (fun (cq1 : ¬ ((f (i + 0)).toInt < 0)) => ?_)
  · have l1 : i + 1 ≤ 10 := own_ne h10 cq1 l0
    have H1 := own_H H0 cq1
    refine r_aloadN X (pc' := 11) d_expectedEnd_10 rfl rfl ?_
    refine r_iloadN X (pc' := 12) d_expectedEnd_11 rfl rfl ?_
    refine r_iconst X (pc' := 13) (v := (1 : Int32)) d_expectedEnd_12 rfl rfl ?_
    obtain ⟨s1, hs1⟩ : ∃ z, q1 + (1 : Int32) = z := ⟨_, rfl⟩
    have ks1 : s1.toInt = ((i + 1 : Nat) : Int) := by rw [← hs1, n_add hq1 (show (1 : Int32).toInt = 1 from rfl) (by omega) (by omega)]; omega
    refine r_iadd X (pc' := 14) (z := s1) d_expectedEnd_13 hs1 rfl ?_
    refine r_baload X (pc' := 15) (i := (i + 1)) (v := (f (i + 1))) d_expectedEnd_14 A1 ks1 (by omega) rfl rfl ?_
    refine r_if X (pc' := 22) (pc2 := 18) d_expectedEnd_15 (by decide) (by decide) rfl (a := (f (i + 1)).toInt) (b := 0) rfl rfl (fun (cq2 : (f (i + 1)).toInt < 0) => ?_) (fun (cq2 : ¬ ((f (i + 1)).toInt < 0)) => ?_)
    · have l2 : i + 2 ≤ 10 := own_ne h10 cq2 l1
      have H2 := own_H H1 cq2
      refine r_aloadN X (pc' := 23) d_expectedEnd_22 rfl rfl ?_
      refine r_iloadN X (pc' := 24) d_expectedEnd_23 rfl rfl ?_
      refine r_iconst X (pc' := 25) (v := (2 : Int32)) d_expectedEnd_24 rfl rfl ?_
      obtain ⟨s2, hs2⟩ : ∃ z, q1 + (2 : Int32) = z := ⟨_, rfl⟩
      have ks2 : s2.toInt = ((i + 2 : Nat) : Int) := by rw [← hs2, n_add hq1 (show (2 : Int32).toInt = 2 from rfl) (by omega) (by omega)]; omega
      refine r_iadd X (pc' := 26) (z := s2) d_expectedEnd_25 hs2 rfl ?_
      refine r_baload X (pc' := 27) (i := (i + 2)) (v := (f (i + 2))) d_expectedEnd_26 A1 ks2 (by omega) rfl rfl ?_
      refine r_if X (pc' := 34) (pc2 := 30) d_expectedEnd_27 (by decide) (by decide) rfl (a := (f (i + 2)).toInt) (b := 0) rfl rfl (fun (cq3 : (f (i + 2)).toInt < 0) => ?_) (fun (cq3 : ¬ ((f (i + 2)).toInt < 0)) => ?_)
      · have l3 : i + 3 ≤ 10 := own_ne h10 cq3 l2
        have H3 := own_H H2 cq3
        refine r_aloadN X (pc' := 35) d_expectedEnd_34 rfl rfl ?_
        refine r_iloadN X (pc' := 36) d_expectedEnd_35 rfl rfl ?_
        refine r_iconst X (pc' := 37) (v := (3 : Int32)) d_expectedEnd_36 rfl rfl ?_
        obtain ⟨s3, hs3⟩ : ∃ z, q1 + (3 : Int32) = z := ⟨_, rfl⟩
        have ks3 : s3.toInt = ((i + 3 : Nat) : Int) := by rw [← hs3, n_add hq1 (show (3 : Int32).toInt = 3 from rfl) (by omega) (by omega)]; omega
        refine r_iadd X (pc' := 38) (z := s3) d_expectedEnd_37 hs3 rfl ?_
        refine r_baload X (pc' := 39) (i := (i + 3)) (v := (f (i + 3))) d_expectedEnd_38 A1 ks3 (by omega) rfl rfl ?_
        refine r_if X (pc' := 46) (pc2 := 42) d_expectedEnd_39 (by decide) (by decide) rfl (a := (f (i + 3)).toInt) (b := 0) rfl rfl (fun (cq4 : (f (i + 3)).toInt < 0) => ?_) (fun (cq4 : ¬ ((f (i + 3)).toInt < 0)) => ?_)
        · have l4 : i + 4 ≤ 10 := own_ne h10 cq4 l3
          have H4 := own_H H3 cq4
          refine r_aloadN X (pc' := 47) d_expectedEnd_46 rfl rfl ?_
          refine r_iloadN X (pc' := 48) d_expectedEnd_47 rfl rfl ?_
          refine r_iconst X (pc' := 49) (v := (4 : Int32)) d_expectedEnd_48 rfl rfl ?_
          obtain ⟨s4, hs4⟩ : ∃ z, q1 + (4 : Int32) = z := ⟨_, rfl⟩
          have ks4 : s4.toInt = ((i + 4 : Nat) : Int) := by rw [← hs4, n_add hq1 (show (4 : Int32).toInt = 4 from rfl) (by omega) (by omega)]; omega
          refine r_iadd X (pc' := 50) (z := s4) d_expectedEnd_49 hs4 rfl ?_
          refine r_baload X (pc' := 51) (i := (i + 4)) (v := (f (i + 4))) d_expectedEnd_50 A1 ks4 (by omega) rfl rfl ?_
          refine r_if X (pc' := 58) (pc2 := 54) d_expectedEnd_51 (by decide) (by decide) rfl (a := (f (i + 4)).toInt) (b := 0) rfl rfl (fun (cq5 : (f (i + 4)).toInt < 0) => ?_) (fun (cq5 : ¬ ((f (i + 4)).toInt < 0)) => ?_)
          · have l5 : i + 5 ≤ 10 := own_ne h10 cq5 l4
            have H5 := own_H H4 cq5
            refine r_aloadN X (pc' := 59) d_expectedEnd_58 rfl rfl ?_
            refine r_iloadN X (pc' := 60) d_expectedEnd_59 rfl rfl ?_
            refine r_iconst X (pc' := 61) (v := (5 : Int32)) d_expectedEnd_60 rfl rfl ?_
            obtain ⟨s5, hs5⟩ : ∃ z, q1 + (5 : Int32) = z := ⟨_, rfl⟩
            have ks5 : s5.toInt = ((i + 5 : Nat) : Int) := by rw [← hs5, n_add hq1 (show (5 : Int32).toInt = 5 from rfl) (by omega) (by omega)]; omega
            refine r_iadd X (pc' := 62) (z := s5) d_expectedEnd_61 hs5 rfl ?_
            refine r_baload X (pc' := 63) (i := (i + 5)) (v := (f (i + 5))) d_expectedEnd_62 A1 ks5 (by omega) rfl rfl ?_
            refine r_if X (pc' := 71) (pc2 := 66) d_expectedEnd_63 (by decide) (by decide) rfl (a := (f (i + 5)).toInt) (b := 0) rfl rfl (fun (cq6 : (f (i + 5)).toInt < 0) => ?_) (fun (cq6 : ¬ ((f (i + 5)).toInt < 0)) => ?_)
            · have l6 : i + 6 ≤ 10 := own_ne h10 cq6 l5
              have H6 := own_H H5 cq6
              refine r_aloadN X (pc' := 72) d_expectedEnd_71 rfl rfl ?_
              refine r_iloadN X (pc' := 73) d_expectedEnd_72 rfl rfl ?_
              refine r_bipush X (pc' := 75) (v := (6 : Int32)) d_expectedEnd_73 rfl rfl ?_
              obtain ⟨s6, hs6⟩ : ∃ z, q1 + (6 : Int32) = z := ⟨_, rfl⟩
              have ks6 : s6.toInt = ((i + 6 : Nat) : Int) := by rw [← hs6, n_add hq1 (show (6 : Int32).toInt = 6 from rfl) (by omega) (by omega)]; omega
              refine r_iadd X (pc' := 76) (z := s6) d_expectedEnd_75 hs6 rfl ?_
              refine r_baload X (pc' := 77) (i := (i + 6)) (v := (f (i + 6))) d_expectedEnd_76 A1 ks6 (by omega) rfl rfl ?_
              refine r_if X (pc' := 85) (pc2 := 80) d_expectedEnd_77 (by decide) (by decide) rfl (a := (f (i + 6)).toInt) (b := 0) rfl rfl (fun (cq7 : (f (i + 6)).toInt < 0) => ?_) (fun (cq7 : ¬ ((f (i + 6)).toInt < 0)) => ?_)
              · have l7 : i + 7 ≤ 10 := own_ne h10 cq7 l6
                have H7 := own_H H6 cq7
                refine r_aloadN X (pc' := 86) d_expectedEnd_85 rfl rfl ?_
                refine r_iloadN X (pc' := 87) d_expectedEnd_86 rfl rfl ?_
                refine r_bipush X (pc' := 89) (v := (7 : Int32)) d_expectedEnd_87 rfl rfl ?_
                obtain ⟨s7, hs7⟩ : ∃ z, q1 + (7 : Int32) = z := ⟨_, rfl⟩
                have ks7 : s7.toInt = ((i + 7 : Nat) : Int) := by rw [← hs7, n_add hq1 (show (7 : Int32).toInt = 7 from rfl) (by omega) (by omega)]; omega
                refine r_iadd X (pc' := 90) (z := s7) d_expectedEnd_89 hs7 rfl ?_
                refine r_baload X (pc' := 91) (i := (i + 7)) (v := (f (i + 7))) d_expectedEnd_90 A1 ks7 (by omega) rfl rfl ?_
                refine r_if X (pc' := 99) (pc2 := 94) d_expectedEnd_91 (by decide) (by decide) rfl (a := (f (i + 7)).toInt) (b := 0) rfl rfl (fun (cq8 : (f (i + 7)).toInt < 0) => ?_) (fun (cq8 : ¬ ((f (i + 7)).toInt < 0)) => ?_)
                · have l8 : i + 8 ≤ 10 := own_ne h10 cq8 l7
                  have H8 := own_H H7 cq8
                  refine r_aloadN X (pc' := 100) d_expectedEnd_99 rfl rfl ?_
                  refine r_iloadN X (pc' := 101) d_expectedEnd_100 rfl rfl ?_
                  refine r_bipush X (pc' := 103) (v := (8 : Int32)) d_expectedEnd_101 rfl rfl ?_
                  obtain ⟨s8, hs8⟩ : ∃ z, q1 + (8 : Int32) = z := ⟨_, rfl⟩
                  have ks8 : s8.toInt = ((i + 8 : Nat) : Int) := by rw [← hs8, n_add hq1 (show (8 : Int32).toInt = 8 from rfl) (by omega) (by omega)]; omega
                  refine r_iadd X (pc' := 104) (z := s8) d_expectedEnd_103 hs8 rfl ?_
                  refine r_baload X (pc' := 105) (i := (i + 8)) (v := (f (i + 8))) d_expectedEnd_104 A1 ks8 (by omega) rfl rfl ?_
                  refine r_if X (pc' := 113) (pc2 := 108) d_expectedEnd_105 (by decide) (by decide) rfl (a := (f (i + 8)).toInt) (b := 0) rfl rfl (fun (cq9 : (f (i + 8)).toInt < 0) => ?_) (fun (cq9 : ¬ ((f (i + 8)).toInt < 0)) => ?_)
                  · have l9 : i + 9 ≤ 10 := own_ne h10 cq9 l8
                    have H9 := own_H H8 cq9
                    refine r_aloadN X (pc' := 114) d_expectedEnd_113 rfl rfl ?_
                    refine r_iloadN X (pc' := 115) d_expectedEnd_114 rfl rfl ?_
                    refine r_bipush X (pc' := 117) (v := (9 : Int32)) d_expectedEnd_115 rfl rfl ?_
                    obtain ⟨s9, hs9⟩ : ∃ z, q1 + (9 : Int32) = z := ⟨_, rfl⟩
                    have ks9 : s9.toInt = ((i + 9 : Nat) : Int) := by rw [← hs9, n_add hq1 (show (9 : Int32).toInt = 9 from rfl) (by omega) (by omega)]; omega
                    refine r_iadd X (pc' := 118) (z := s9) d_expectedEnd_117 hs9 rfl ?_
                    refine r_baload X (pc' := 119) (i := (i + 9)) (v := (f (i + 9))) d_expectedEnd_118 A1 ks9 (by omega) rfl rfl ?_
                    refine r_if X (pc' := 127) (pc2 := 122) d_expectedEnd_119 (by decide) (by decide) rfl (a := (f (i + 9)).toInt) (b := 0) rfl rfl (fun (cq10 : (f (i + 9)).toInt < 0) => ?_) (fun (cq10 : ¬ ((f (i + 9)).toInt < 0)) => ?_)
                    · have l10 : i + 10 ≤ 10 := own_ne h10 cq10 l9
                      have H10 := own_H H9 cq10
                      refine r_aloadN X (pc' := 128) d_expectedEnd_127 rfl rfl ?_
                      refine r_iloadN X (pc' := 129) d_expectedEnd_128 rfl rfl ?_
                      refine r_bipush X (pc' := 131) (v := (10 : Int32)) d_expectedEnd_129 rfl rfl ?_
                      obtain ⟨s10, hs10⟩ : ∃ z, q1 + (10 : Int32) = z := ⟨_, rfl⟩
                      have ks10 : s10.toInt = ((i + 10 : Nat) : Int) := by rw [← hs10, n_add hq1 (show (10 : Int32).toInt = 10 from rfl) (by omega) (by omega)]; omega
                      refine r_iadd X (pc' := 132) (z := s10) d_expectedEnd_131 hs10 rfl ?_
                      refine r_baload X (pc' := 133) (i := (i + 10)) (v := (f (i + 10))) d_expectedEnd_132 A1 ks10 (by omega) rfl rfl ?_
                      refine r_if X (pc' := 141) (pc2 := 136) d_expectedEnd_133 (by decide) (by decide) rfl (a := (f (i + 10)).toInt) (b := 0) rfl rfl (fun (cq11 : (f (i + 10)).toInt < 0) => ?_) (fun (cq11 : ¬ ((f (i + 10)).toInt < 0)) => ?_)
                      · exfalso; have := own_ne h10 cq11 l10; omega
                      · refine r_iloadN X (pc' := 137) d_expectedEnd_136 rfl rfl ?_
                        refine r_bipush X (pc' := 139) (v := (11 : Int32)) d_expectedEnd_137 rfl rfl ?_
                        obtain ⟨r, hr⟩ : ∃ z, q1 + (11 : Int32) = z := ⟨_, rfl⟩
                        have kr : r.toInt = ((i + 11 : Nat) : Int) := by rw [← hr, n_add hq1 (show (11 : Int32).toInt = 11 from rfl) (by omega) (by omega)]; omega
                        refine r_iadd X (pc' := 140) (z := r) d_expectedEnd_139 hr rfl ?_
                        exact r_retI X d_expectedEnd_140 ⟨⟨_, rfl, i + 10, by omega, l10, H10, by omega, by rw [kr]; omega⟩, rfl⟩ (by decide) (by decide)
                    · refine r_iloadN X (pc' := 123) d_expectedEnd_122 rfl rfl ?_
                      refine r_bipush X (pc' := 125) (v := (10 : Int32)) d_expectedEnd_123 rfl rfl ?_
                      obtain ⟨r, hr⟩ : ∃ z, q1 + (10 : Int32) = z := ⟨_, rfl⟩
                      have kr : r.toInt = ((i + 10 : Nat) : Int) := by rw [← hr, n_add hq1 (show (10 : Int32).toInt = 10 from rfl) (by omega) (by omega)]; omega
                      refine r_iadd X (pc' := 126) (z := r) d_expectedEnd_125 hr rfl ?_
                      exact r_retI X d_expectedEnd_126 ⟨⟨_, rfl, i + 9, by omega, l9, H9, by omega, by rw [kr]; omega⟩, rfl⟩ (by decide) (by decide)
                  · refine r_iloadN X (pc' := 109) d_expectedEnd_108 rfl rfl ?_
                    refine r_bipush X (pc' := 111) (v := (9 : Int32)) d_expectedEnd_109 rfl rfl ?_
                    obtain ⟨r, hr⟩ : ∃ z, q1 + (9 : Int32) = z := ⟨_, rfl⟩
                    have kr : r.toInt = ((i + 9 : Nat) : Int) := by rw [← hr, n_add hq1 (show (9 : Int32).toInt = 9 from rfl) (by omega) (by omega)]; omega
                    refine r_iadd X (pc' := 112) (z := r) d_expectedEnd_111 hr rfl ?_
                    exact r_retI X d_expectedEnd_112 ⟨⟨_, rfl, i + 8, by omega, l8, H8, by omega, by rw [kr]; omega⟩, rfl⟩ (by decide) (by decide)
                · refine r_iloadN X (pc' := 95) d_expectedEnd_94 rfl rfl ?_
                  refine r_bipush X (pc' := 97) (v := (8 : Int32)) d_expectedEnd_95 rfl rfl ?_
                  obtain ⟨r, hr⟩ : ∃ z, q1 + (8 : Int32) = z := ⟨_, rfl⟩
                  have kr : r.toInt = ((i + 8 : Nat) : Int) := by rw [← hr, n_add hq1 (show (8 : Int32).toInt = 8 from rfl) (by omega) (by omega)]; omega
                  refine r_iadd X (pc' := 98) (z := r) d_expectedEnd_97 hr rfl ?_
                  exact r_retI X d_expectedEnd_98 ⟨⟨_, rfl, i + 7, by omega, l7, H7, by omega, by rw [kr]; omega⟩, rfl⟩ (by decide) (by decide)
              · refine r_iloadN X (pc' := 81) d_expectedEnd_80 rfl rfl ?_
                refine r_bipush X (pc' := 83) (v := (7 : Int32)) d_expectedEnd_81 rfl rfl ?_
                obtain ⟨r, hr⟩ : ∃ z, q1 + (7 : Int32) = z := ⟨_, rfl⟩
                have kr : r.toInt = ((i + 7 : Nat) : Int) := by rw [← hr, n_add hq1 (show (7 : Int32).toInt = 7 from rfl) (by omega) (by omega)]; omega
                refine r_iadd X (pc' := 84) (z := r) d_expectedEnd_83 hr rfl ?_
                exact r_retI X d_expectedEnd_84 ⟨⟨_, rfl, i + 6, by omega, l6, H6, by omega, by rw [kr]; omega⟩, rfl⟩ (by decide) (by decide)
            · refine r_iloadN X (pc' := 67) d_expectedEnd_66 rfl rfl ?_
              refine r_bipush X (pc' := 69) (v := (6 : Int32)) d_expectedEnd_67 rfl rfl ?_
              obtain ⟨r, hr⟩ : ∃ z, q1 + (6 : Int32) = z := ⟨_, rfl⟩
              have kr : r.toInt = ((i + 6 : Nat) : Int) := by rw [← hr, n_add hq1 (show (6 : Int32).toInt = 6 from rfl) (by omega) (by omega)]; omega
              refine r_iadd X (pc' := 70) (z := r) d_expectedEnd_69 hr rfl ?_
              exact r_retI X d_expectedEnd_70 ⟨⟨_, rfl, i + 5, by omega, l5, H5, by omega, by rw [kr]; omega⟩, rfl⟩ (by decide) (by decide)
          · refine r_iloadN X (pc' := 55) d_expectedEnd_54 rfl rfl ?_
            refine r_iconst X (pc' := 56) (v := (5 : Int32)) d_expectedEnd_55 rfl rfl ?_
            obtain ⟨r, hr⟩ : ∃ z, q1 + (5 : Int32) = z := ⟨_, rfl⟩
            have kr : r.toInt = ((i + 5 : Nat) : Int) := by rw [← hr, n_add hq1 (show (5 : Int32).toInt = 5 from rfl) (by omega) (by omega)]; omega
            refine r_iadd X (pc' := 57) (z := r) d_expectedEnd_56 hr rfl ?_
            exact r_retI X d_expectedEnd_57 ⟨⟨_, rfl, i + 4, by omega, l4, H4, by omega, by rw [kr]; omega⟩, rfl⟩ (by decide) (by decide)
        · refine r_iloadN X (pc' := 43) d_expectedEnd_42 rfl rfl ?_
          refine r_iconst X (pc' := 44) (v := (4 : Int32)) d_expectedEnd_43 rfl rfl ?_
          obtain ⟨r, hr⟩ : ∃ z, q1 + (4 : Int32) = z := ⟨_, rfl⟩
          have kr : r.toInt = ((i + 4 : Nat) : Int) := by rw [← hr, n_add hq1 (show (4 : Int32).toInt = 4 from rfl) (by omega) (by omega)]; omega
          refine r_iadd X (pc' := 45) (z := r) d_expectedEnd_44 hr rfl ?_
          exact r_retI X d_expectedEnd_45 ⟨⟨_, rfl, i + 3, by omega, l3, H3, by omega, by rw [kr]; omega⟩, rfl⟩ (by decide) (by decide)
      · refine r_iloadN X (pc' := 31) d_expectedEnd_30 rfl rfl ?_
        refine r_iconst X (pc' := 32) (v := (3 : Int32)) d_expectedEnd_31 rfl rfl ?_
        obtain ⟨r, hr⟩ : ∃ z, q1 + (3 : Int32) = z := ⟨_, rfl⟩
        have kr : r.toInt = ((i + 3 : Nat) : Int) := by rw [← hr, n_add hq1 (show (3 : Int32).toInt = 3 from rfl) (by omega) (by omega)]; omega
        refine r_iadd X (pc' := 33) (z := r) d_expectedEnd_32 hr rfl ?_
        exact r_retI X d_expectedEnd_33 ⟨⟨_, rfl, i + 2, by omega, l2, H2, by omega, by rw [kr]; omega⟩, rfl⟩ (by decide) (by decide)
    · refine r_iloadN X (pc' := 19) d_expectedEnd_18 rfl rfl ?_
      refine r_iconst X (pc' := 20) (v := (2 : Int32)) d_expectedEnd_19 rfl rfl ?_
      obtain ⟨r, hr⟩ : ∃ z, q1 + (2 : Int32) = z := ⟨_, rfl⟩
      have kr : r.toInt = ((i + 2 : Nat) : Int) := by rw [← hr, n_add hq1 (show (2 : Int32).toInt = 2 from rfl) (by omega) (by omega)]; omega
      refine r_iadd X (pc' := 21) (z := r) d_expectedEnd_20 hr rfl ?_
      exact r_retI X d_expectedEnd_21 ⟨⟨_, rfl, i + 1, by omega, l1, H1, by omega, by rw [kr]; omega⟩, rfl⟩ (by decide) (by decide)
  · refine r_iloadN X (pc' := 7) d_expectedEnd_6 rfl rfl ?_
    refine r_iconst X (pc' := 8) (v := (1 : Int32)) d_expectedEnd_7 rfl rfl ?_
    obtain ⟨r, hr⟩ : ∃ z, q1 + (1 : Int32) = z := ⟨_, rfl⟩
    have kr : r.toInt = ((i + 1 : Nat) : Int) := by rw [← hr, n_add hq1 (show (1 : Int32).toInt = 1 from rfl) (by omega) (by omega)]; omega
    refine r_iadd X (pc' := 9) (z := r) d_expectedEnd_8 hr rfl ?_
    exact r_retI X d_expectedEnd_9 ⟨⟨_, rfl, i + 0, by omega, l0, H0, by omega, by rw [kr]; omega⟩, rfl⟩ (by decide) (by decide)
set_option maxRecDepth 65536 in
set_option maxHeartbeats 40000000 in
theorem con_init (l : Launch) (Z : State) (a0 : Array Value) (hw : ∀ d ∈ tables_1, d.before a0 Z = true) (a1 : Addr) (h0 : Heap) (n0 : Nat) (Z0 : n0 ≤ h0.size)  : Con l Z (⟨"com/example/edgesheet/edgesheet/core/ByteSource", "<init>", "()V"⟩ : MethodName) prog_6_method_1_code 1 none ({ frames := 1, cells := 0, slots := 0, locals := 12 } : Room) #[(.ref a1)] h0 n0 0 0 (fun v h => v = none ∧ h0 = h) := by
  refine Con.of_body (ls := #[.val (.ref a1)]) pn_com_example_edgesheet_edgesheet_core_ByteSource (fun m => by first | (simp [entryFrame, mkF, argsToLocals, Value.category]; done) | rfl) Z0 (fun p e s m below meth c T (X : Here p l e ({ frames := 1, cells := 0, slots := 0, locals := 12 } : Room) s m #[(.ref a1)] below meth c Z "com/example/edgesheet/edgesheet/core/ByteSource" "<init>" prog_6_method_1_code 1 none n0 T h0 0 0) => ?_)
  refine r_aloadN X (pc' := 1) d_init_ByteSource_0 rfl rfl ?_
  refine r_initObject X (pc' := 4) (W := 0) d_init_ByteSource_1 (wd hw 12 rfl) (wd hw 13 rfl) (wd hw 14 rfl) rfl (by decide) rfl (by decide) rfl (fun T12 X13 => ?_)
  show Run p e below _ _ (mkF m 4 #[.val (.ref a1)] [])
  exact r_ret X13 d_init_ByteSource_4 ⟨rfl, rfl⟩ (by decide) (by decide)
set_option maxRecDepth 65536 in
set_option maxHeartbeats 40000000 in
theorem con_reset (l : Launch) (Z : State) (a0 : Array Value) (hw : ∀ d ∈ tables_1, d.before a0 Z = true) (a1 t1 : Addr) (q1 : Int32) (u1 u2 : Value) (h0 : Heap) (n0 : Nat) (Z0 : n0 ≤ h0.size) (E1 : Exa Z h0 a1 "com/example/edgesheet/edgesheet/core/ByteSource") (F1 : Fld Z h0 a1 "com/example/edgesheet/edgesheet/core/ByteSource" "bytes" "[B" u1) (F2 : Fld Z h0 a1 "com/example/edgesheet/edgesheet/core/ByteSource" "position" "I" u2) (g1 : n0 ≤ a1) : Con l Z (⟨"com/example/edgesheet/edgesheet/core/ByteSource", "reset", "([BI)V"⟩ : MethodName) prog_6_method_2_code 3 none ({ frames := 0, cells := 0, slots := 0, locals := 0 } : Room) #[(.ref a1), (.ref t1), (.int q1)] h0 n0 0 0 (fun v h => v = none ∧ Keep h0 h [a1] ∧ Fld Z h a1 "com/example/edgesheet/edgesheet/core/ByteSource" "bytes" "[B" (.ref t1) ∧ Fld Z h a1 "com/example/edgesheet/edgesheet/core/ByteSource" "position" "I" (.int q1)) := by
  refine Con.of_body (ls := #[.val (.ref a1), .val (.ref t1), .val (.int q1)]) pn_com_example_edgesheet_edgesheet_core_ByteSource (fun m => by first | (simp [entryFrame, mkF, argsToLocals, Value.category]; done) | rfl) Z0 (fun p e s m below meth c T (X : Here p l e ({ frames := 0, cells := 0, slots := 0, locals := 0 } : Room) s m #[(.ref a1), (.ref t1), (.int q1)] below meth c Z "com/example/edgesheet/edgesheet/core/ByteSource" "reset" prog_6_method_2_code 3 none n0 T h0 0 0) => ?_)
  have K0 := Keep.refl h0 [a1]
  refine r_aloadN X (pc' := 1) d_reset_0 rfl rfl ?_
  refine r_aloadN X (pc' := 2) d_reset_1 rfl rfl ?_
  refine r_putfield X (pc' := 5) (ty := (.array .byte)) d_reset_2 (wd hw 20 rfl) F1 E1 (Or.inl (wd hw 21 rfl)) (wd hw 7 rfl) (by decide) rfl rfl g1 rfl (fun T14 h15 X16 W17 => ?_)
  have f18 := E1.wr W17
  have f19 := F1.same W17
  have f20 := F2.other W17 (Or.inr (slot_ne (C := "com/example/edgesheet/edgesheet/core/ByteSource") (Or.inl (wd hw 23 rfl)) (Or.inl (wd hw 21 rfl)) (by decide) (t := .int) (t' := (.array .byte)) (by decide) (by decide)))
  have K21 := K0.wr W17 (Or.inl (List.mem_of_getElem? (i := 0) rfl))
  refine r_aloadN X16 (pc' := 6) d_reset_5 rfl rfl ?_
  refine r_iloadN X16 (pc' := 7) d_reset_6 rfl rfl ?_
  refine r_putfield X16 (pc' := 10) (ty := .int) d_reset_7 (wd hw 22 rfl) f20 f18 (Or.inl (wd hw 23 rfl)) (wd hw 7 rfl) (by decide) rfl rfl g1 rfl (fun T22 h23 X24 W25 => ?_)
  have f26 := f18.wr W25
  have f27 := f19.other W25 (Or.inr (slot_ne (C := "com/example/edgesheet/edgesheet/core/ByteSource") (Or.inl (wd hw 21 rfl)) (Or.inl (wd hw 23 rfl)) (by decide) (t := (.array .byte)) (t' := .int) (by decide) (by decide)))
  have f28 := f20.same W25
  have K29 := K21.wr W25 (Or.inl (List.mem_of_getElem? (i := 0) rfl))
  exact r_ret X24 d_reset_10 ⟨rfl, K29, f27, f28⟩ (by decide) (by decide)
set_option maxRecDepth 65536 in
set_option maxHeartbeats 40000000 in
theorem con_pos (l : Launch) (Z : State) (a0 : Array Value) (hw : ∀ d ∈ tables_1, d.before a0 Z = true) (a1 : Addr) (q1 : Int32) (h0 : Heap) (n0 : Nat) (Z0 : n0 ≤ h0.size) (F2 : Fld Z h0 a1 "com/example/edgesheet/edgesheet/core/ByteSource" "position" "I" (.int q1)) : Con l Z (⟨"com/example/edgesheet/edgesheet/core/ByteSource", "position", "()I"⟩ : MethodName) prog_6_method_4_code 1 (some .int) ({ frames := 0, cells := 0, slots := 0, locals := 0 } : Room) #[(.ref a1)] h0 n0 0 0 (fun v h => v = some (.int q1) ∧ h0 = h) := by
  refine Con.of_body (ls := #[.val (.ref a1)]) pn_com_example_edgesheet_edgesheet_core_ByteSource (fun m => by first | (simp [entryFrame, mkF, argsToLocals, Value.category]; done) | rfl) Z0 (fun p e s m below meth c T (X : Here p l e ({ frames := 0, cells := 0, slots := 0, locals := 0 } : Room) s m #[(.ref a1)] below meth c Z "com/example/edgesheet/edgesheet/core/ByteSource" "position" prog_6_method_4_code 1 (some .int) n0 T h0 0 0) => ?_)
  refine r_aloadN X (pc' := 1) d_position_0 rfl rfl ?_
  refine r_getfield X (pc' := 4) d_position_1 (wd hw 22 rfl) F2 rfl (fun T30 X31 => ?_)
  exact r_retI X31 d_position_4 ⟨rfl, rfl⟩ (by decide) (by decide)
set_option maxRecDepth 65536 in
set_option maxHeartbeats 40000000 in
theorem con_bytes (l : Launch) (Z : State) (a0 : Array Value) (hw : ∀ d ∈ tables_1, d.before a0 Z = true) (a1 t1 : Addr) (h0 : Heap) (n0 : Nat) (Z0 : n0 ≤ h0.size) (F1 : Fld Z h0 a1 "com/example/edgesheet/edgesheet/core/ByteSource" "bytes" "[B" (.ref t1)) : Con l Z (⟨"com/example/edgesheet/edgesheet/core/ByteSource", "bytes", "()[B"⟩ : MethodName) prog_6_method_3_code 1 (some (FieldType.array FieldType.byte)) ({ frames := 0, cells := 0, slots := 0, locals := 0 } : Room) #[(.ref a1)] h0 n0 0 0 (fun v h => v = some (.ref t1) ∧ h0 = h) := by
  refine Con.of_body (ls := #[.val (.ref a1)]) pn_com_example_edgesheet_edgesheet_core_ByteSource (fun m => by first | (simp [entryFrame, mkF, argsToLocals, Value.category]; done) | rfl) Z0 (fun p e s m below meth c T (X : Here p l e ({ frames := 0, cells := 0, slots := 0, locals := 0 } : Room) s m #[(.ref a1)] below meth c Z "com/example/edgesheet/edgesheet/core/ByteSource" "bytes" prog_6_method_3_code 1 (some (FieldType.array FieldType.byte)) n0 T h0 0 0) => ?_)
  refine r_aloadN X (pc' := 1) d_bytes_0 rfl rfl ?_
  refine r_getfield X (pc' := 4) d_bytes_1 (wd hw 20 rfl) F1 rfl (fun T32 X33 => ?_)
  exact r_retA X33 (by decide) d_bytes_4 ⟨rfl, rfl⟩ (by decide) (by decide)
set_option maxRecDepth 65536 in
set_option maxHeartbeats 40000000 in
theorem con_skip (l : Launch) (Z : State) (a0 : Array Value) (hw : ∀ d ∈ tables_1, d.before a0 Z = true) (a1 t1 : Addr) (q0 : Int32) (f : Nat → Int32) (i0 : Nat) (h0 : Heap) (n0 : Nat) (Z0 : n0 ≤ h0.size) (E0 : Exa Z h0 a1 "com/example/edgesheet/edgesheet/core/ByteSource") (F0 : Fld Z h0 a1 "com/example/edgesheet/edgesheet/core/ByteSource" "bytes" "[B" (.ref t1)) (G0 : Fld Z h0 a1 "com/example/edgesheet/edgesheet/core/ByteSource" "position" "I" (.int q0)) (A0 : Arf Z h0 t1 .byte 11 f) (ne0 : t1 ≠ a1) (g1 : n0 ≤ a1) (hq0 : q0.toInt = i0) (hi0 : i0 ≤ 10) (h10 : 0 ≤ (f 10).toInt) : Con l Z (⟨"com/example/edgesheet/edgesheet/core/ByteSource", "skipVarint", "()V"⟩ : MethodName) prog_6_method_8_code 1 none ({ frames := 0, cells := 0, slots := 0, locals := 0 } : Room) #[(.ref a1)] h0 n0 0 0 (fun v h => v = none ∧ Keep h0 h [a1] ∧ Fld Z h a1 "com/example/edgesheet/edgesheet/core/ByteSource" "bytes" "[B" (.ref t1) ∧ ∃ z : Int32, own_R f i0 z ∧ Fld Z h a1 "com/example/edgesheet/edgesheet/core/ByteSource" "position" "I" (.int z)) := by
  refine Con.of_body (ls := #[.val (.ref a1)]) pn_com_example_edgesheet_edgesheet_core_ByteSource (fun m => by first | (simp [entryFrame, mkF, argsToLocals, Value.category]; done) | rfl) Z0 (fun p e s m below meth c T (X : Here p l e ({ frames := 0, cells := 0, slots := 0, locals := 0 } : Room) s m #[(.ref a1)] below meth c Z "com/example/edgesheet/edgesheet/core/ByteSource" "skipVarint" prog_6_method_8_code 1 none n0 T h0 0 0) => ?_)
  have LL : ∀ (d i : Nat) (q : Int32) (T : State) (h : Heap), i + d = 10 → i0 ≤ i → q.toInt = i → Here p l e ({ frames := 0, cells := 0, slots := 0, locals := 0 } : Room) s m #[(.ref a1)] below meth c Z "com/example/edgesheet/edgesheet/core/ByteSource" "skipVarint" prog_6_method_8_code 1 none n0 T h 0 0 → Keep h0 h [a1] → Exa Z h a1 "com/example/edgesheet/edgesheet/core/ByteSource" → Fld Z h a1 "com/example/edgesheet/edgesheet/core/ByteSource" "bytes" "[B" (.ref t1) → Fld Z h a1 "com/example/edgesheet/edgesheet/core/ByteSource" "position" "I" (.int q) → Arf Z h t1 .byte 11 f → (∀ j, i0 ≤ j → j < i → (f j).toInt < 0) → Run p e below (Fnl s n0 0 0 (fun v h => v = none ∧ Keep h0 h [a1] ∧ Fld Z h a1 "com/example/edgesheet/edgesheet/core/ByteSource" "bytes" "[B" (.ref t1) ∧ ∃ z : Int32, own_R f i0 z ∧ Fld Z h a1 "com/example/edgesheet/edgesheet/core/ByteSource" "position" "I" (.int z))) T (mkF m 0 #[.val (.ref a1)] []) := by
    intro d
    induction d with
    | zero =>
      intro i q T h hd hi hq X K E F G A H
      refine r_aloadN X (pc' := 1) d_skipVarint_0 rfl rfl ?_
      refine r_getfield X (pc' := 4) d_skipVarint_1 (wd hw 20 rfl) F rfl (fun T34 X35 => ?_)
      refine r_aloadN X35 (pc' := 5) d_skipVarint_4 rfl rfl ?_
      refine r_getfield X35 (pc' := 8) d_skipVarint_5 (wd hw 22 rfl) G rfl (fun T36 X37 => ?_)
      refine r_baload X37 (pc' := 9) (i := i) (v := (f i)) d_skipVarint_8 A hq (by omega) rfl rfl ?_
      obtain ⟨q2, hq2⟩ : ∃ z, q + (1 : Int32) = z := ⟨_, rfl⟩
      have kq2 : q2.toInt = ((i + 1 : Nat) : Int) := by rw [← hq2, n_add hq (show (1 : Int32).toInt = 1 from rfl) (by omega) (by omega)]; omega
      refine r_if X37 (pc' := 25) (pc2 := 12) d_skipVarint_9 (by decide) (by decide) rfl (a := (f i).toInt) (b := 0) rfl rfl (fun (cq38 : 0 ≤ (f i).toInt) => ?_) (fun (cq38 : ¬ (0 ≤ (f i).toInt)) => ?_)
      · refine r_aloadN X37 (pc' := 26) d_skipVarint_25 rfl rfl ?_
        refine r_dup X37 (pc' := 27) d_skipVarint_26 rfl rfl ?_
        refine r_getfield X37 (pc' := 30) d_skipVarint_27 (wd hw 22 rfl) G rfl (fun T39 X40 => ?_)
        refine r_iconst X40 (pc' := 31) (v := (1 : Int32)) d_skipVarint_30 rfl rfl ?_
        refine r_iadd X40 (pc' := 32) (z := q2) d_skipVarint_31 hq2 rfl ?_
        refine r_putfield X40 (pc' := 35) (ty := .int) d_skipVarint_32 (wd hw 22 rfl) G E (Or.inl (wd hw 23 rfl)) (wd hw 7 rfl) (by decide) rfl rfl g1 rfl (fun T41 h42 X43 W44 => ?_)
        have f45 := E.wr W44
        have f46 := F.other W44 (Or.inr (slot_ne (C := "com/example/edgesheet/edgesheet/core/ByteSource") (Or.inl (wd hw 21 rfl)) (Or.inl (wd hw 23 rfl)) (by decide) (t := (.array .byte)) (t' := .int) (by decide) (by decide)))
        have f47 := G.same W44
        have f48 := A.other W44 ne0
        have K49 := K.wr W44 (Or.inl (List.mem_of_getElem? (i := 0) rfl))
        exact r_ret X43 d_skipVarint_35 ⟨rfl, K49, f46, q2, ⟨i, hi, by omega, H, by omega, by omega⟩, f47⟩ (by decide) (by decide)
      · exfalso; have e10 : i = 10 := by omega
        rw [e10] at cq38; omega
    | succ d ih =>
      intro i q T h hd hi hq X K E F G A H
      refine r_aloadN X (pc' := 1) d_skipVarint_0 rfl rfl ?_
      refine r_getfield X (pc' := 4) d_skipVarint_1 (wd hw 20 rfl) F rfl (fun T50 X51 => ?_)
      refine r_aloadN X51 (pc' := 5) d_skipVarint_4 rfl rfl ?_
      refine r_getfield X51 (pc' := 8) d_skipVarint_5 (wd hw 22 rfl) G rfl (fun T52 X53 => ?_)
      refine r_baload X53 (pc' := 9) (i := i) (v := (f i)) d_skipVarint_8 A hq (by omega) rfl rfl ?_
      obtain ⟨q2, hq2⟩ : ∃ z, q + (1 : Int32) = z := ⟨_, rfl⟩
      have kq2 : q2.toInt = ((i + 1 : Nat) : Int) := by rw [← hq2, n_add hq (show (1 : Int32).toInt = 1 from rfl) (by omega) (by omega)]; omega
      refine r_if X53 (pc' := 25) (pc2 := 12) d_skipVarint_9 (by decide) (by decide) rfl (a := (f i).toInt) (b := 0) rfl rfl (fun (cq54 : 0 ≤ (f i).toInt) => ?_) (fun (cq54 : ¬ (0 ≤ (f i).toInt)) => ?_)
      · refine r_aloadN X53 (pc' := 26) d_skipVarint_25 rfl rfl ?_
        refine r_dup X53 (pc' := 27) d_skipVarint_26 rfl rfl ?_
        refine r_getfield X53 (pc' := 30) d_skipVarint_27 (wd hw 22 rfl) G rfl (fun T55 X56 => ?_)
        refine r_iconst X56 (pc' := 31) (v := (1 : Int32)) d_skipVarint_30 rfl rfl ?_
        refine r_iadd X56 (pc' := 32) (z := q2) d_skipVarint_31 hq2 rfl ?_
        refine r_putfield X56 (pc' := 35) (ty := .int) d_skipVarint_32 (wd hw 22 rfl) G E (Or.inl (wd hw 23 rfl)) (wd hw 7 rfl) (by decide) rfl rfl g1 rfl (fun T57 h58 X59 W60 => ?_)
        have f61 := E.wr W60
        have f62 := F.other W60 (Or.inr (slot_ne (C := "com/example/edgesheet/edgesheet/core/ByteSource") (Or.inl (wd hw 21 rfl)) (Or.inl (wd hw 23 rfl)) (by decide) (t := (.array .byte)) (t' := .int) (by decide) (by decide)))
        have f63 := G.same W60
        have f64 := A.other W60 ne0
        have K65 := K.wr W60 (Or.inl (List.mem_of_getElem? (i := 0) rfl))
        exact r_ret X59 d_skipVarint_35 ⟨rfl, K65, f62, q2, ⟨i, hi, by omega, H, by omega, by omega⟩, f63⟩ (by decide) (by decide)
      · refine r_aloadN X53 (pc' := 13) d_skipVarint_12 rfl rfl ?_
        refine r_dup X53 (pc' := 14) d_skipVarint_13 rfl rfl ?_
        refine r_getfield X53 (pc' := 17) d_skipVarint_14 (wd hw 22 rfl) G rfl (fun T66 X67 => ?_)
        refine r_iconst X67 (pc' := 18) (v := (1 : Int32)) d_skipVarint_17 rfl rfl ?_
        refine r_iadd X67 (pc' := 19) (z := q2) d_skipVarint_18 hq2 rfl ?_
        refine r_putfield X67 (pc' := 22) (ty := .int) d_skipVarint_19 (wd hw 22 rfl) G E (Or.inl (wd hw 23 rfl)) (wd hw 7 rfl) (by decide) rfl rfl g1 rfl (fun T68 h69 X70 W71 => ?_)
        have f72 := E.wr W71
        have f73 := F.other W71 (Or.inr (slot_ne (C := "com/example/edgesheet/edgesheet/core/ByteSource") (Or.inl (wd hw 21 rfl)) (Or.inl (wd hw 23 rfl)) (by decide) (t := (.array .byte)) (t' := .int) (by decide) (by decide)))
        have f74 := G.same W71
        have f75 := A.other W71 ne0
        have K76 := K.wr W71 (Or.inl (List.mem_of_getElem? (i := 0) rfl))
        refine r_goto X70 (pc' := 0) d_skipVarint_22 (by decide) (by decide) ?_
        exact ih (i + 1) q2 _ _ (by omega) (by omega) kq2 X70 K76 f72 f73 f74 f75 (own_next H (by omega))
  exact LL (10 - i0) i0 q0 T h0 (by omega) (Nat.le_refl _) hq0 X (Keep.refl h0 [a1]) E0 F0 G0 A0 (fun j h1 h2 => by omega)
set_option maxRecDepth 65536 in
set_option maxHeartbeats 40000000 in
theorem con_law (l : Launch) (Z : State) (a0 : Array Value) (hw : ∀ d ∈ tables_1, d.before a0 Z = true) (p1 : Int64) (p2 p3 : Int32) (h0 : Heap) (n0 : Nat) (Z0 : n0 ≤ h0.size)  : Con l Z x code maxLocals ret room_1 #[(.long p1), (.int p2), (.int p3)] h0 n0 16 128 (fun v _ => v = some (.int 1)) := by
  refine Con.of_body (ls := #[.val (.long p1), .second, .val (.int p2), .val (.int p3), .unset, .unset, .unset, .unset]) pn_com_example_edgesheet_edgesheet_core_ByteSourceSkipVarintPinLaw (fun m => by first | (simp [entryFrame, mkF, argsToLocals, Value.category, maxLocals]; done) | rfl) Z0 (fun p e s m below meth c T (X : Here p l e room_1 s m #[(.long p1), (.int p2), (.int p3)] below meth c Z "com/example/edgesheet/edgesheet/core/ByteSourceSkipVarintPinLaw" "law" code 8 (some .boolean) n0 T h0 0 0) => ?_)
  refine r_bipush X (pc' := 2) (v := (11 : Int32)) at_0 rfl rfl ?_
  refine r_newarray X (pc' := 4) (N := 11) at_2 (wd hw 0 rfl) rfl rfl (by decide) (by decide) (by decide) rfl (fun T77 h78 b79 X80 ebb79 geb79 E81 A82 => ?_)
  refine r_astore X80 (pc' := 6) (ls' := #[.val (.long p1), .second, .val (.int p2), .val (.int p3), .val (.ref b79), .unset, .unset, .unset]) at_4 rfl rfl ?_
  refine r_aload X80 (pc' := 8) at_6 rfl rfl ?_
  refine r_iconst X80 (pc' := 9) (v := (0 : Int32)) at_8 rfl rfl ?_
  refine r_lloadN X80 (pc' := 10) at_9 rfl rfl ?_
  refine r_l2i X80 (pc' := 11) (z := (p1.toInt32)) at_10 rfl rfl ?_
  refine r_i2b X80 (pc' := 12) (z := (own_b (p1.toInt32))) at_11 rfl rfl ?_
  refine r_bastore X80 (pc' := 13) (i := 0) (v := (own_b (p1.toInt32))) at_12 A82 rfl (by decide) geb79 (own_nb _) rfl (fun T83 h84 X85 W86 A87 => ?_)
  refine r_aload X85 (pc' := 15) at_13 rfl rfl ?_
  refine r_iconst X85 (pc' := 16) (v := (1 : Int32)) at_15 rfl rfl ?_
  refine r_lloadN X85 (pc' := 17) at_16 rfl rfl ?_
  refine r_bipush X85 (pc' := 19) (v := (8 : Int32)) at_17 rfl rfl ?_
  refine r_lushr X85 (pc' := 20) (z := (XT.ushrL p1 (8 : Int32))) at_19 rfl rfl ?_
  refine r_l2i X85 (pc' := 21) (z := ((XT.ushrL p1 (8 : Int32)).toInt32)) at_20 rfl rfl ?_
  refine r_i2b X85 (pc' := 22) (z := (own_b ((XT.ushrL p1 (8 : Int32)).toInt32))) at_21 rfl rfl ?_
  refine r_bastore X85 (pc' := 23) (i := 1) (v := (own_b ((XT.ushrL p1 (8 : Int32)).toInt32))) at_22 A87 rfl (by decide) geb79 (own_nb _) rfl (fun T88 h89 X90 W91 A92 => ?_)
  refine r_aload X90 (pc' := 25) at_23 rfl rfl ?_
  refine r_iconst X90 (pc' := 26) (v := (2 : Int32)) at_25 rfl rfl ?_
  refine r_lloadN X90 (pc' := 27) at_26 rfl rfl ?_
  refine r_bipush X90 (pc' := 29) (v := (16 : Int32)) at_27 rfl rfl ?_
  refine r_lushr X90 (pc' := 30) (z := (XT.ushrL p1 (16 : Int32))) at_29 rfl rfl ?_
  refine r_l2i X90 (pc' := 31) (z := ((XT.ushrL p1 (16 : Int32)).toInt32)) at_30 rfl rfl ?_
  refine r_i2b X90 (pc' := 32) (z := (own_b ((XT.ushrL p1 (16 : Int32)).toInt32))) at_31 rfl rfl ?_
  refine r_bastore X90 (pc' := 33) (i := 2) (v := (own_b ((XT.ushrL p1 (16 : Int32)).toInt32))) at_32 A92 rfl (by decide) geb79 (own_nb _) rfl (fun T93 h94 X95 W96 A97 => ?_)
  refine r_aload X95 (pc' := 35) at_33 rfl rfl ?_
  refine r_iconst X95 (pc' := 36) (v := (3 : Int32)) at_35 rfl rfl ?_
  refine r_lloadN X95 (pc' := 37) at_36 rfl rfl ?_
  refine r_bipush X95 (pc' := 39) (v := (24 : Int32)) at_37 rfl rfl ?_
  refine r_lushr X95 (pc' := 40) (z := (XT.ushrL p1 (24 : Int32))) at_39 rfl rfl ?_
  refine r_l2i X95 (pc' := 41) (z := ((XT.ushrL p1 (24 : Int32)).toInt32)) at_40 rfl rfl ?_
  refine r_i2b X95 (pc' := 42) (z := (own_b ((XT.ushrL p1 (24 : Int32)).toInt32))) at_41 rfl rfl ?_
  refine r_bastore X95 (pc' := 43) (i := 3) (v := (own_b ((XT.ushrL p1 (24 : Int32)).toInt32))) at_42 A97 rfl (by decide) geb79 (own_nb _) rfl (fun T98 h99 X100 W101 A102 => ?_)
  refine r_aload X100 (pc' := 45) at_43 rfl rfl ?_
  refine r_iconst X100 (pc' := 46) (v := (4 : Int32)) at_45 rfl rfl ?_
  refine r_lloadN X100 (pc' := 47) at_46 rfl rfl ?_
  refine r_bipush X100 (pc' := 49) (v := (32 : Int32)) at_47 rfl rfl ?_
  refine r_lushr X100 (pc' := 50) (z := (XT.ushrL p1 (32 : Int32))) at_49 rfl rfl ?_
  refine r_l2i X100 (pc' := 51) (z := ((XT.ushrL p1 (32 : Int32)).toInt32)) at_50 rfl rfl ?_
  refine r_i2b X100 (pc' := 52) (z := (own_b ((XT.ushrL p1 (32 : Int32)).toInt32))) at_51 rfl rfl ?_
  refine r_bastore X100 (pc' := 53) (i := 4) (v := (own_b ((XT.ushrL p1 (32 : Int32)).toInt32))) at_52 A102 rfl (by decide) geb79 (own_nb _) rfl (fun T103 h104 X105 W106 A107 => ?_)
  refine r_aload X105 (pc' := 55) at_53 rfl rfl ?_
  refine r_iconst X105 (pc' := 56) (v := (5 : Int32)) at_55 rfl rfl ?_
  refine r_lloadN X105 (pc' := 57) at_56 rfl rfl ?_
  refine r_bipush X105 (pc' := 59) (v := (40 : Int32)) at_57 rfl rfl ?_
  refine r_lushr X105 (pc' := 60) (z := (XT.ushrL p1 (40 : Int32))) at_59 rfl rfl ?_
  refine r_l2i X105 (pc' := 61) (z := ((XT.ushrL p1 (40 : Int32)).toInt32)) at_60 rfl rfl ?_
  refine r_i2b X105 (pc' := 62) (z := (own_b ((XT.ushrL p1 (40 : Int32)).toInt32))) at_61 rfl rfl ?_
  refine r_bastore X105 (pc' := 63) (i := 5) (v := (own_b ((XT.ushrL p1 (40 : Int32)).toInt32))) at_62 A107 rfl (by decide) geb79 (own_nb _) rfl (fun T108 h109 X110 W111 A112 => ?_)
  refine r_aload X110 (pc' := 65) at_63 rfl rfl ?_
  refine r_bipush X110 (pc' := 67) (v := (6 : Int32)) at_65 rfl rfl ?_
  refine r_lloadN X110 (pc' := 68) at_67 rfl rfl ?_
  refine r_bipush X110 (pc' := 70) (v := (48 : Int32)) at_68 rfl rfl ?_
  refine r_lushr X110 (pc' := 71) (z := (XT.ushrL p1 (48 : Int32))) at_70 rfl rfl ?_
  refine r_l2i X110 (pc' := 72) (z := ((XT.ushrL p1 (48 : Int32)).toInt32)) at_71 rfl rfl ?_
  refine r_i2b X110 (pc' := 73) (z := (own_b ((XT.ushrL p1 (48 : Int32)).toInt32))) at_72 rfl rfl ?_
  refine r_bastore X110 (pc' := 74) (i := 6) (v := (own_b ((XT.ushrL p1 (48 : Int32)).toInt32))) at_73 A112 rfl (by decide) geb79 (own_nb _) rfl (fun T113 h114 X115 W116 A117 => ?_)
  refine r_aload X115 (pc' := 76) at_74 rfl rfl ?_
  refine r_bipush X115 (pc' := 78) (v := (7 : Int32)) at_76 rfl rfl ?_
  refine r_lloadN X115 (pc' := 79) at_78 rfl rfl ?_
  refine r_bipush X115 (pc' := 81) (v := (56 : Int32)) at_79 rfl rfl ?_
  refine r_lushr X115 (pc' := 82) (z := (XT.ushrL p1 (56 : Int32))) at_81 rfl rfl ?_
  refine r_l2i X115 (pc' := 83) (z := ((XT.ushrL p1 (56 : Int32)).toInt32)) at_82 rfl rfl ?_
  refine r_i2b X115 (pc' := 84) (z := (own_b ((XT.ushrL p1 (56 : Int32)).toInt32))) at_83 rfl rfl ?_
  refine r_bastore X115 (pc' := 85) (i := 7) (v := (own_b ((XT.ushrL p1 (56 : Int32)).toInt32))) at_84 A117 rfl (by decide) geb79 (own_nb _) rfl (fun T118 h119 X120 W121 A122 => ?_)
  refine r_aload X120 (pc' := 87) at_85 rfl rfl ?_
  refine r_bipush X120 (pc' := 89) (v := (8 : Int32)) at_87 rfl rfl ?_
  refine r_iloadN X120 (pc' := 90) at_89 rfl rfl ?_
  refine r_i2b X120 (pc' := 91) (z := (own_b p2)) at_90 rfl rfl ?_
  refine r_bastore X120 (pc' := 92) (i := 8) (v := (own_b p2)) at_91 A122 rfl (by decide) geb79 (own_nb _) rfl (fun T123 h124 X125 W126 A127 => ?_)
  refine r_aload X125 (pc' := 94) at_92 rfl rfl ?_
  refine r_bipush X125 (pc' := 96) (v := (9 : Int32)) at_94 rfl rfl ?_
  refine r_iloadN X125 (pc' := 97) at_96 rfl rfl ?_
  refine r_bipush X125 (pc' := 99) (v := (8 : Int32)) at_97 rfl rfl ?_
  refine r_iushr X125 (pc' := 100) (z := (XT.ushr p2 (8 : Int32))) at_99 rfl rfl ?_
  refine r_i2b X125 (pc' := 101) (z := (own_b (XT.ushr p2 (8 : Int32)))) at_100 rfl rfl ?_
  refine r_bastore X125 (pc' := 102) (i := 9) (v := (own_b (XT.ushr p2 (8 : Int32)))) at_101 A127 rfl (by decide) geb79 (own_nb _) rfl (fun T128 h129 X130 W131 A132 => ?_)
  refine r_aload X130 (pc' := 104) at_102 rfl rfl ?_
  refine r_bipush X130 (pc' := 106) (v := (10 : Int32)) at_104 rfl rfl ?_
  refine r_iloadN X130 (pc' := 107) at_106 rfl rfl ?_
  refine r_bipush X130 (pc' := 109) (v := (16 : Int32)) at_107 rfl rfl ?_
  refine r_iushr X130 (pc' := 110) (z := (XT.ushr p2 (16 : Int32))) at_109 rfl rfl ?_
  refine r_bipush X130 (pc' := 112) (v := (127 : Int32)) at_110 rfl rfl ?_
  refine r_iand X130 (pc' := 113) (z := ((XT.ushr p2 (16 : Int32)) &&& (127 : Int32))) at_112 rfl rfl ?_
  refine r_i2b X130 (pc' := 114) (z := (own_b ((XT.ushr p2 (16 : Int32)) &&& (127 : Int32)))) at_113 rfl rfl ?_
  refine r_bastore X130 (pc' := 115) (i := 10) (v := (own_b ((XT.ushr p2 (16 : Int32)) &&& (127 : Int32)))) at_114 A132 rfl (by decide) geb79 (own_nb _) rfl (fun T133 h134 X135 W136 A137 => ?_)
  obtain ⟨f, hf⟩ : ∃ f, f = (upd (upd (upd (upd (upd (upd (upd (upd (upd (upd (upd (fun _ => 0) 0 (own_b (p1.toInt32))) 1 (own_b ((XT.ushrL p1 (8 : Int32)).toInt32))) 2 (own_b ((XT.ushrL p1 (16 : Int32)).toInt32))) 3 (own_b ((XT.ushrL p1 (24 : Int32)).toInt32))) 4 (own_b ((XT.ushrL p1 (32 : Int32)).toInt32))) 5 (own_b ((XT.ushrL p1 (40 : Int32)).toInt32))) 6 (own_b ((XT.ushrL p1 (48 : Int32)).toInt32))) 7 (own_b ((XT.ushrL p1 (56 : Int32)).toInt32))) 8 (own_b p2)) 9 (own_b (XT.ushr p2 (8 : Int32)))) 10 (own_b ((XT.ushr p2 (16 : Int32)) &&& (127 : Int32)))) := ⟨_, rfl⟩
  have A9 := A137
  rw [← hf] at A9
  have h10 : 0 ≤ (f 10).toInt := by
    rw [hf, upd_same, own_bi]
    have : (XT.ushr p2 (16 : Int32) &&& (127 : Int32)).toInt = (XT.ushr p2 (16 : Int32)).toInt % 2 ^ 7 := Jvm.Kit.i32_mask _ 127 (k := 7) (by decide) (by decide)
    omega
  obtain ⟨oo, hoo⟩ : ∃ z, (p3 &&& (2147483647 : Int32)) % (11 : Int32) = z := ⟨_, rfl⟩
  have ko : oo.toInt = (p3 &&& (2147483647 : Int32)).toInt % 11 := by rw [← hoo, Jvm.Kit.i32_rem_nonneg (n_max p3)]; rfl
  obtain ⟨i, hi⟩ : ∃ n : Nat, oo.toInt = n := ⟨oo.toInt.toNat, by omega⟩
  have hi3 : i ≤ 10 := by omega
  refine r_iloadN X135 (pc' := 116) at_115 rfl rfl ?_
  refine r_ldcI X135 (pc' := 118) (v := (2147483647 : Int32)) at_116 (wd hw 1 rfl) rfl ?_
  refine r_iand X135 (pc' := 119) (z := (p3 &&& (2147483647 : Int32))) at_118 rfl rfl ?_
  refine r_bipush X135 (pc' := 121) (v := (11 : Int32)) at_119 rfl rfl ?_
  refine r_irem X135 (pc' := 122) (z := oo) at_121 (by decide) hoo rfl ?_
  refine r_istore X135 (pc' := 124) (ls' := #[.val (.long p1), .second, .val (.int p2), .val (.int p3), .val (.ref b79), .val (.int oo), .unset, .unset]) at_122 rfl rfl ?_
  refine r_aload X135 (pc' := 126) at_124 rfl rfl ?_
  refine r_iload X135 (pc' := 128) at_126 rfl rfl ?_
  refine r_callS X135 (pc' := 131) at_128 (con_e l Z a0 hw b79 oo f i h134 n0 X135.sz A9 hi hi3 h10) (wd hw 2 rfl) (wd hw 3 rfl) (wd hw 4 rfl) (wd hw 5 rfl) (by decide) (argsL := [(.ref b79), (.int oo)]) (rest := []) (W := 0) rfl rfl pd_expectedEnd rfl rfl (by decide) (by decide) (by decide) (by decide) rfl (fun v138 T139 h140 X141 QQ142 => ?_)
  obtain ⟨⟨z1, rfl, hz1⟩, rfl⟩ := QQ142
  show Run p e below _ _ (mkF m 131 #[.val (.long p1), .second, .val (.int p2), .val (.int p3), .val (.ref b79), .val (.int oo), .unset, .unset] [(.int z1)])
  refine r_istore X141 (pc' := 133) (ls' := #[.val (.long p1), .second, .val (.int p2), .val (.int p3), .val (.ref b79), .val (.int oo), .val (.int z1), .unset]) at_131 rfl rfl ?_
  refine r_new X141 (pc' := 136) at_133 (wd hw 6 rfl) (wd hw 7 rfl) (wd hw 8 rfl) (by decide) (by decide) rfl (fun T143 h144 b145 X146 ebb145 geb145 E147 A148 D149 => ?_)
  have ne150 : b79 ≠ b145 := Nat.ne_of_lt (by rw [ebb145]; exact A9.lt)
  have f151 := A9.ext E147
  have f152 := D149 (O := "com/example/edgesheet/edgesheet/core/ByteSource") (f := "bytes") (Or.inl (wd hw 21 rfl)) (ty := (.array .byte)) (by decide)
  have f153 := D149 (O := "com/example/edgesheet/edgesheet/core/ByteSource") (f := "position") (Or.inl (wd hw 23 rfl)) (ty := .int) (by decide)
  refine r_dup X146 (pc' := 137) at_136 rfl rfl ?_
  refine r_init X146 (pc' := 140) at_137 (con_init l Z a0 hw b145 h144 n0 X146.sz) rfl (wd hw 9 rfl) (wd hw 10 rfl) (wd hw 8 rfl) (wd hw 11 rfl) (by decide) (argsL := []) (rest := [(.ref b145)]) (W := 1) rfl rfl pd_init_ByteSource rfl rfl (by decide) (by decide) (by decide) (by decide) rfl (fun v154 T155 h156 X157 QQ158 => ?_)
  obtain ⟨rfl, rfl⟩ := QQ158
  show Run p e below _ _ (mkF m 140 #[.val (.long p1), .second, .val (.int p2), .val (.int p3), .val (.ref b79), .val (.int oo), .val (.int z1), .unset] [(.ref b145)])
  refine r_astore X157 (pc' := 142) (ls' := #[.val (.long p1), .second, .val (.int p2), .val (.int p3), .val (.ref b79), .val (.int oo), .val (.int z1), .val (.ref b145)]) at_140 rfl rfl ?_
  refine r_aload X157 (pc' := 144) at_142 rfl rfl ?_
  refine r_aload X157 (pc' := 146) at_144 rfl rfl ?_
  refine r_iload X157 (pc' := 148) at_146 rfl rfl ?_
  refine r_callV X157 (pc' := 151) at_148 (con_reset l Z a0 hw b145 b79 oo .null (.int (0 : Int32)) h144 n0 X157.sz A148 f152 f153 geb145) A148 (wd hw 15 rfl) (wd hw 16 rfl) (wd hw 18 rfl) (wd hw 17 rfl) (wd hw 8 rfl) (wd hw 19 rfl) (by decide) (argsL := [(.ref b79), (.int oo)]) (rest := []) (W := 0) rfl rfl pd_reset rfl rfl (by decide) (by decide) (by decide) (by decide) rfl (fun v159 T160 h161 X162 QQ163 => ?_)
  obtain ⟨rfl, K1, fb, fp⟩ := QQ163
  show Run p e below _ _ (mkF m 151 #[.val (.long p1), .second, .val (.int p2), .val (.int p3), .val (.ref b79), .val (.int oo), .val (.int z1), .val (.ref b145)] [])
  have f164 := f151.keep K1 (ninS ne150 nin0)
  have f165 := A148.keep K1
  refine r_aload X162 (pc' := 153) at_151 rfl rfl ?_
  refine r_callV X162 (pc' := 156) at_153 (con_skip l Z a0 hw b145 b79 oo f i h161 n0 X162.sz f165 fb fp f164 ne150 geb145 hi hi3 h10) f165 (wd hw 24 rfl) (wd hw 25 rfl) (wd hw 27 rfl) (wd hw 26 rfl) (wd hw 8 rfl) (wd hw 28 rfl) (by decide) (argsL := []) (rest := []) (W := 0) rfl rfl pd_skipVarint rfl rfl (by decide) (by decide) (by decide) (by decide) rfl (fun v166 T167 h168 X169 QQ170 => ?_)
  obtain ⟨rfl, K2, fb2, z2, hz2, fp2⟩ := QQ170
  show Run p e below _ _ (mkF m 156 #[.val (.long p1), .second, .val (.int p2), .val (.int p3), .val (.ref b79), .val (.int oo), .val (.int z1), .val (.ref b145)] [])
  have f171 := f164.keep K2 (ninS ne150 nin0)
  have f172 := f165.keep K2
  have uq := own_uniq hz2 hz1
  refine r_aload X169 (pc' := 158) at_156 rfl rfl ?_
  refine r_callV X169 (pc' := 161) at_158 (con_pos l Z a0 hw b145 z2 h168 n0 X169.sz fp2) f172 (wd hw 29 rfl) (wd hw 30 rfl) (wd hw 32 rfl) (wd hw 31 rfl) (wd hw 8 rfl) (wd hw 33 rfl) (by decide) (argsL := []) (rest := []) (W := 0) rfl rfl pd_position rfl rfl (by decide) (by decide) (by decide) (by decide) rfl (fun v173 T174 h175 X176 QQ177 => ?_)
  obtain ⟨rfl, rfl⟩ := QQ177
  show Run p e below _ _ (mkF m 161 #[.val (.long p1), .second, .val (.int p2), .val (.int p3), .val (.ref b79), .val (.int oo), .val (.int z1), .val (.ref b145)] [(.int z2)])
  refine r_iload X176 (pc' := 163) at_161 rfl rfl ?_
  refine r_icmpN X176 (pc2 := 166) at_163 (by decide) rfl (a := z2.toInt) (b := z1.toInt) rfl rfl (show ¬ (¬ z2.toInt = z1.toInt) from (by omega)) ?_
  refine r_aload X176 (pc' := 168) at_166 rfl rfl ?_
  refine r_callV X176 (pc' := 171) at_168 (con_bytes l Z a0 hw b145 b79 h168 n0 X176.sz fb2) f172 (wd hw 34 rfl) (wd hw 35 rfl) (wd hw 37 rfl) (wd hw 36 rfl) (wd hw 8 rfl) (wd hw 38 rfl) (by decide) (argsL := []) (rest := []) (W := 0) rfl rfl pd_bytes rfl rfl (by decide) (by decide) (by decide) (by decide) rfl (fun v178 T179 h180 X181 QQ182 => ?_)
  obtain ⟨rfl, rfl⟩ := QQ182
  show Run p e below _ _ (mkF m 171 #[.val (.long p1), .second, .val (.int p2), .val (.int p3), .val (.ref b79), .val (.int oo), .val (.int z1), .val (.ref b145)] [(.ref b79)])
  refine r_aload X181 (pc' := 173) at_171 rfl rfl ?_
  refine r_acmpN X181 (pc' := 176) at_173 (by simp [XT.acmp]) rfl ?_
  refine r_iconst X181 (pc' := 177) (v := (1 : Int32)) at_176 rfl rfl ?_
  refine r_goto X181 (pc' := 181) at_177 (by decide) (by decide) ?_
  exact r_retN X181 (by simp) at_181 (z := (1 : Int32)) (w := (1 : Int32)) rfl rfl (by decide) (by decide)
set_option maxRecDepth 65536 in
set_option maxHeartbeats 40000000 in
theorem comes_1 {Post : Tables → Env → Array Value → State → Outcome → State → Prop} (hpost : ∀ tb e args s v u, (limb_1_1.after args s (.returned v) u = true ∧ limb_1_2.after args s (.returned v) u = true ∧ True) → FrameEnd s (.returned v) u (Jvm.fieldLocs frame_1_writes args s ++ Jvm.arrayLocs frame_1_arrays args s ++ Jvm.staticLocs frame_1_statics s) 16 128 → Post tb e args s (.returned v) u) :
    ArmFor flags0 classFile x code maxLocals ret World_1 tables_1 room_1 Calls_1 rest_1 Pre_1 Post := by
  intro l hfl _ _ p e ha hc hk s m args below hf hA hF happ hP
  obtain ⟨hcalls, hrest, hpre⟩ := hP
  obtain ⟨-, -, -, hnamed, -, -, -, hat⟩ := (Spec.applies_iff hf).mp happ
  obtain ⟨hg, hn⟩ := and_e (Cond.before_iff.mp (show (Jvm.Cond.and given_1 narrow_1).before args s = true from hpre))
  obtain ⟨gc, gr0⟩ := and_e hg
  obtain ⟨gv0, gr1⟩ := and_e gr0
  obtain ⟨gv1, gr2⟩ := and_e gr1
  obtain ⟨w0, w1, w2, rfl⟩ : ∃ w0 w1 w2 : Value, args = #[w0, w1, w2] := by
    have hs : args.size = 3 := by simpa [Cond.value, given_1] using gc
    obtain ⟨L⟩ := args
    match L, hs with
    | [w0, w1, w2], _ => exact ⟨w0, w1, w2, rfl⟩
  have hw := fun d (hd : d ∈ tables_1) => atoms_spec (ws := Jvm.Cond.code x code maxLocals ret :: tables_1) hat d (List.mem_cons_of_mem _ hd)
  obtain ⟨i0, ei0⟩ := isL_v gv0
  obtain rfl : w0 = (.long i0) := Option.some.inj ei0
  obtain ⟨i1, ei1⟩ := is_v gv1
  obtain rfl : w1 = (.int i1) := Option.some.inj ei1
  obtain ⟨i2, ei2⟩ := is_v gr2
  obtain rfl : w2 = (.int i2) := Option.some.inj ei2
  obtain ⟨n, o, h1, h2, h3, _, L, rfl, ⟨rfl, -, N⟩, hq⟩ := con_law l s _ hw i0 i1 i2 s.heap s.heap.size (Nat.le_refl _) tables_1 p e ha hc hk s m _ below hf ((Spec.applies_iff_loose hf).mp happ).1 ⟨rfl, State.Warmed39.refl s, rfl⟩ trivial
  refine ⟨n, _, h1, h2, h3, hpost _ _ _ _ _ _ ⟨Cond.after_iff.mpr rfl, Cond.after_iff.mpr (eq_i res_at (Term.int_eval (1)) rfl), trivial⟩ ⟨hq.1, hq.2.1, (hq.2.2.sift fun y hy => Or.inr (N y hy)).mono (by decide) (by decide)⟩⟩
theorem main_1_1 : Claimed_1_1 := comes_1 fun _ _ _ _ _ _ h hF => ⟨h.1, hF⟩
theorem main_1_2 : Claimed_1_2 := comes_1 fun _ _ _ _ _ _ h hF => ⟨h.2.1, hF⟩
end Jvm.Pilot.@@N@@
namespace Jvm.Pilot.@@N@@
open Jvm Jvm.ClassFile Sem Op Lib Jvm.Free Jvm.Stand Jvm.Pilot.@@N@@.Jvm.D
/-! MADE BY PROGRAM (witnessworld.py) out of the Statement's table words and the real class files: 9 classes; the members and pool entries that the words name. The judged class is class 1, her method 2. -/
namespace start1
open Jvm.ClassFile
def u (s : String) : CpInfo := .utf8 (stringToUtf16 s)
/-- a pool by its gaps: so many unusable entries, then the entry; so many at the end -/
def gap : Nat → List CpInfo → List CpInfo
  | 0, r => r
  | n + 1, r => .unusable :: gap n r
def poolList (es : List (Nat × CpInfo)) (last : Nat) : List CpInfo := es.foldr (fun e r => gap e.1 (e.2 :: r)) (gap last [])
def pool (es : List (Nat × CpInfo)) (last : Nat) : Array CpInfo := ⟨poolList es last⟩
def fileOf (pool : Array CpInfo) (this : Nat) (attrs : Array Attribute := #[]) (ms : Array MethodInfo := #[]) (fl : Nat := 33) (sup : Nat := 0) (ifs : Array Nat := #[]) (fds : Array FieldInfo := #[]) : ClassFile where
  minorVersion := 0
  majorVersion := 65
  constantPool := pool
  accessFlags := fl
  thisClass := this
  superClass := sup
  interfaces := ifs
  fields := fds
  methods := ms
  attributes := attrs
def plain (name : String) (sup : Option ClassId) : Class where
  name := name
  kind := .ordinary
  loader := none
  accessFlags := 33
  super := sup
  interfaces := #[]
  cf := none
  fields := #[]
  methods := #[]
  instanceTypes := #[]
  staticTypes := #[]
  resolved := #[]
  callSites := []
  init := .initialized
  statics := none
  mirror := none

def pool0 : Array CpInfo := pool [(5, u "<init>"), (0, u "()V"), (1, .class_ 10), (1, u "java/lang/Object")] 113

def k0c0 : Code := { maxStack := 0, maxLocals := 1, code := object_method_1_code, exceptionTable := #[], attributes := #[] }
def k0m0 : Method := { name := "<init>", desc := "()V", sig := { parameters := [], returnType := none }, accessFlags := 1, code := some k0c0 }
/-- java/lang/Object -/
def k0 : Class := { plain "java/lang/Object" none with
  accessFlags := 33
  interfaces := #[]
  cf := some (fileOf pool0 8 #[] #[{ accessFlags := 1, nameIndex := 5, descriptorIndex := 6, attributes := #[] }] 33 0 #[] #[])
  fields := #[]
  methods := #[k0m0]
  instanceTypes := #[]
  staticTypes := #[]
  resolved := Array.replicate 124 none
  statics := none }

def pool1 : Array CpInfo := pool [(2, .class_ 4), (0, .nameAndType 5 6), (0, u "java/lang/Object"), (0, u "<init>"), (0, u "()V"), (0, .integer 2147483647), (0, .methodref 9 10), (0, .class_ 11), (0, .nameAndType 12 13), (0, u "com/example/edgesheet/edgesheet/core/ByteSourceSkipVarintPinLaw"), (0, u "expectedEnd"), (0, u "([BI)I"), (0, .class_ 15), (0, u "com/example/edgesheet/edgesheet/core/ByteSource"), (0, .methodref 14 3), (0, .methodref 14 18), (0, .nameAndType 19 20), (0, u "reset"), (0, u "([BI)V"), (0, .methodref 14 22), (0, .nameAndType 23 6), (0, u "skipVarint"), (0, .methodref 14 25), (0, .nameAndType 26 27), (0, u "position"), (0, u "()I"), (0, .methodref 14 29), (0, .nameAndType 30 31), (0, u "bytes"), (0, u "()[B"), (3, u "law"), (0, u "(JII)Z")] 4

def k1m0 : Method := { name := "<init>", desc := "()V", sig := { parameters := [], returnType := none }, accessFlags := 1, code := none }
def k1c1 : Code := { maxStack := 3, maxLocals := 2, code := method_2_code, exceptionTable := #[], attributes := #[] }
def k1m1 : Method := { name := "expectedEnd", desc := "([BI)I", sig := { parameters := [(.array .byte), .int], returnType := some .int }, accessFlags := 10, code := some k1c1 }
def k1c2 : Code := { maxStack := 5, maxLocals := 8, code := code, exceptionTable := #[], attributes := #[] }
def k1m2 : Method := { name := "law", desc := "(JII)Z", sig := { parameters := [.long, .int, .int], returnType := some .boolean }, accessFlags := 9, code := some k1c2 }
/-- com/example/edgesheet/edgesheet/core/ByteSourceSkipVarintPinLaw -/
def k1 : Class := { plain "com/example/edgesheet/edgesheet/core/ByteSourceSkipVarintPinLaw" (some 0) with
  accessFlags := 49
  interfaces := #[]
  cf := some (fileOf pool1 9 #[] #[{ accessFlags := 1, nameIndex := 5, descriptorIndex := 6, attributes := #[] }, { accessFlags := 10, nameIndex := 12, descriptorIndex := 13, attributes := #[] }, { accessFlags := 9, nameIndex := 35, descriptorIndex := 36, attributes := #[] }] 49 2 #[] #[])
  fields := #[]
  methods := #[k1m0, k1m1, k1m2]
  instanceTypes := #[]
  staticTypes := #[]
  resolved := Array.replicate 41 none
  statics := none }

def pool2 : Array CpInfo := pool [(1, .methodref 2 3), (0, .class_ 4), (0, .nameAndType 5 6), (0, u "java/lang/Object"), (0, u "<init>"), (0, u "()V"), (0, .fieldref 8 9), (0, .class_ 10), (0, .nameAndType 11 12), (0, u "com/example/edgesheet/edgesheet/core/ByteSource"), (0, u "bytes"), (0, u "[B"), (0, .fieldref 8 14), (0, .nameAndType 15 16), (0, u "position"), (0, u "I"), (2, u "reset"), (0, u "([BI)V"), (0, u "()[B"), (0, u "()I"), (6, u "skipVarint")] 2

def k2c0 : Code := { maxStack := 1, maxLocals := 1, code := prog_6_method_1_code, exceptionTable := #[], attributes := #[] }
def k2m0 : Method := { name := "<init>", desc := "()V", sig := { parameters := [], returnType := none }, accessFlags := 0, code := some k2c0 }
def k2c1 : Code := { maxStack := 2, maxLocals := 3, code := prog_6_method_2_code, exceptionTable := #[], attributes := #[] }
def k2m1 : Method := { name := "reset", desc := "([BI)V", sig := { parameters := [(.array .byte), .int], returnType := none }, accessFlags := 0, code := some k2c1 }
def k2c2 : Code := { maxStack := 1, maxLocals := 1, code := prog_6_method_3_code, exceptionTable := #[], attributes := #[] }
def k2m2 : Method := { name := "bytes", desc := "()[B", sig := { parameters := [], returnType := some (.array .byte) }, accessFlags := 0, code := some k2c2 }
def k2c3 : Code := { maxStack := 1, maxLocals := 1, code := prog_6_method_4_code, exceptionTable := #[], attributes := #[] }
def k2m3 : Method := { name := "position", desc := "()I", sig := { parameters := [], returnType := some .int }, accessFlags := 0, code := some k2c3 }
def k2c4 : Code := { maxStack := 3, maxLocals := 1, code := prog_6_method_8_code, exceptionTable := #[], attributes := #[] }
def k2m4 : Method := { name := "skipVarint", desc := "()V", sig := { parameters := [], returnType := none }, accessFlags := 0, code := some k2c4 }
/-- com/example/edgesheet/edgesheet/core/ByteSource -/
def k2 : Class := { plain "com/example/edgesheet/edgesheet/core/ByteSource" (some 0) with
  accessFlags := 48
  interfaces := #[]
  cf := some (fileOf pool2 8 #[] #[{ accessFlags := 0, nameIndex := 5, descriptorIndex := 6, attributes := #[] }, { accessFlags := 0, nameIndex := 19, descriptorIndex := 20, attributes := #[] }, { accessFlags := 0, nameIndex := 11, descriptorIndex := 21, attributes := #[] }, { accessFlags := 0, nameIndex := 15, descriptorIndex := 22, attributes := #[] }, { accessFlags := 0, nameIndex := 29, descriptorIndex := 6, attributes := #[] }] 48 2 #[] #[{ accessFlags := 2, nameIndex := 11, descriptorIndex := 12, attributes := #[] }, { accessFlags := 2, nameIndex := 15, descriptorIndex := 16, attributes := #[] }])
  fields := #[{ name := "bytes", type := (.array .byte), accessFlags := 2, slot := 0, constantValue := 0 }, { name := "position", type := .int, accessFlags := 2, slot := 1, constantValue := 0 }]
  methods := #[k2m0, k2m1, k2m2, k2m3, k2m4]
  instanceTypes := #[(.array .byte), .int]
  staticTypes := #[]
  resolved := Array.replicate 32 none
  statics := none }

def pool3 : Array CpInfo := pool [(1, u "java/lang/Cloneable"), (0, .class_ 1), (0, u "java/lang/Object"), (0, .class_ 3)] 3

/-- java/lang/Cloneable -/
def k3 : Class := { plain "java/lang/Cloneable" (some 0) with
  accessFlags := 1537
  interfaces := #[]
  cf := some (fileOf pool3 2 #[] #[] 1537 4 #[] #[])
  fields := #[]
  methods := #[]
  instanceTypes := #[]
  staticTypes := #[]
  resolved := Array.replicate 8 none
  statics := none }

def pool4 : Array CpInfo := pool [(1, u "java/io/Serializable"), (0, .class_ 1), (0, u "java/lang/Object"), (0, .class_ 3)] 3

/-- java/io/Serializable -/
def k4 : Class := { plain "java/io/Serializable" (some 0) with
  accessFlags := 1537
  interfaces := #[]
  cf := some (fileOf pool4 2 #[] #[] 1537 4 #[] #[])
  fields := #[]
  methods := #[]
  instanceTypes := #[]
  staticTypes := #[]
  resolved := Array.replicate 8 none
  statics := none }

/-- the primitive byte -/
def k5 : Class := { plain "byte" none with kind := .primitive 'B', accessFlags := 0x411 }
/-- [B -/
def k6 : Class := { plain "[B" (some 0) with kind := .array 5 .byte, interfaces := #[3, 4], accessFlags := 1041 }

/-- the primitive int -/
def k7 : Class := { plain "int" none with kind := .primitive 'I', accessFlags := 0x411 }
/-- [I -/
def k8 : Class := { plain "[I" (some 0) with kind := .array 7 .int, interfaces := #[3, 4], accessFlags := 1041 }

def heap : Heap := #[]
def classes : Array Class := #[k0, k1, k2, k3, k4, k5, k6, k7, k8]
def interned : List (Array UInt16 × Addr) := []
def slotsUsed : Nat := 0
def theMethod : MethodId := ⟨1, 2⟩
def args0 : Array Value := #[.long 5, .int 5, .int 5]
def aboutOver (below : List Frame) : State where
  vm := { classes := classes, interned := interned.toArray }
  heap := heap
  slotsUsed := slotsUsed
  threads := #[{ frames := .invoking theMethod args0 :: below }]
def below0 : List Frame := [.native { method := ⟨0, 0⟩, args := #[] }]
def about1 : State := aboutOver below0
def p0 : Program := .bare "" "" ""
def e0 : Env := launch0.env 0 0 0
theorem w_frames : about1.frames = Frame.invoking theMethod args0 :: below0 := rfl
set_option maxRecDepth 65536 in
theorem w_args : argsFit about1.vm theMethod args0 = true := by decide +kernel
set_option maxRecDepth 65536 in
theorem w_heap : heapFits about1 = true := by decide +kernel
set_option maxRecDepth 65536 in
theorem w_runnable : about1.curStatus? = some .runnable := by decide +kernel
set_option maxRecDepth 65536 in
theorem w_alone : about1.alone = true := by decide +kernel
set_option maxRecDepth 65536 in
theorem w_named : about1.methodNamed? x = some theMethod := by decide +kernel
set_option maxRecDepth 65536 in
theorem w_hears : about1.hears theMethod below0 = true := by decide +kernel
set_option maxRecDepth 65536 in
theorem w_ripe : about1.ripe theMethod args0 below0 = true := by decide +kernel
theorem w_running : about1.status = .running := rfl
set_option maxRecDepth 65536 in
theorem w_room : about1.hasRoom e0.platform room_1 = true :=
  launch0.hasRoom_least _ room_1 (by decide +kernel) (by decide +kernel) (by decide +kernel) (by decide +kernel) (by decide +kernel) (by decide +kernel)
theorem allAtoms_all (ts : List Jvm.Cond) (a : Array Jvm.Value) (st : Jvm.State) : (allAtoms ts).before a st = ts.all (fun c => c.before a st) := by
  induction ts with
  | nil => rfl
  | cons c t ih =>
    show (Jvm.Cond.and c (allAtoms t)).before a st = _
    rw [Jvm.Cond.before_and, ih, List.all_cons]
def words1 : List Jvm.Cond := Jvm.Cond.code x code maxLocals ret :: tables_1
/-- a 'code' word, met by the world's own term for the bytes: nothing is compared byte by byte -/
theorem code_word {y : MethodName} {bytes : ByteArray} {mx : Nat} {rt : Option FieldType} {a : Array Value} {s : State} {m : MethodId} {meth : Method} {c : Code} (h1 : s.methodNamed? y = some m) (h2 : s.vm.method? m = some meth) (h3 : meth.code = some c) (h4 : c.code = bytes)
    (h5 : (c.maxLocals == mx && c.exceptionTable.isEmpty && decide (c.maxStack ≤ mostOperands) && decide (meth.sig.returnType = rt) && !meth.locks && decide (parseMethodDescriptor y.desc = some meth.sig)) = true) : (Jvm.Cond.code y bytes mx rt).before a s = true := by
  simp only [Bool.and_eq_true, beq_iff_eq, Bool.not_eq_true', decide_eq_true_eq] at h5
  obtain ⟨⟨⟨⟨⟨g1, g2⟩, g3⟩, g4⟩, g5⟩, g6⟩ := h5
  simp [Cond.before, Cond.holds, Cond.value, h1, h2, h3, h4, g1, g2, g3, g4, g5, g6]
def isCode : Jvm.Cond → Bool
  | .code _ _ _ _ => true
  | _ => false
theorem all_split {L : List Jvm.Cond} {P : Jvm.Cond → Bool} (h1 : L.all (fun c => isCode c || P c) = true) (h2 : ∀ c ∈ L.filter isCode, P c = true) : L.all P = true := by
  refine List.all_eq_true.mpr fun c hc => ?_
  have h := List.all_eq_true.mp h1 c hc
  rcases Bool.eq_false_or_eq_true (isCode c) with hi | hi
  · exact h2 c (List.mem_filter.mpr ⟨hc, hi⟩)
  · simpa [hi] using h
set_option maxRecDepth 65536 in
theorem w_c0 : (Jvm.Cond.code x code maxLocals ret).before args0 about1 = true := code_word (m := ⟨1, 2⟩) (meth := k1m2) (c := k1c2) (by decide +kernel) rfl rfl rfl (by decide +kernel)
set_option maxRecDepth 65536 in
theorem w_c1 : (Jvm.Cond.code ({ cls := "com/example/edgesheet/edgesheet/core/ByteSourceSkipVarintPinLaw", name := "expectedEnd", desc := "([BI)I" } : Jvm.MethodName) method_2_code (2 : Nat) (Option.some Jvm.ClassFile.FieldType.int)).before args0 about1 = true := code_word (m := ⟨1, 1⟩) (meth := k1m1) (c := k1c1) (by decide +kernel) rfl rfl rfl (by decide +kernel)
set_option maxRecDepth 65536 in
theorem w_c2 : (Jvm.Cond.code ({ cls := "com/example/edgesheet/edgesheet/core/ByteSource", name := "<init>", desc := "()V" } : Jvm.MethodName) prog_6_method_1_code (1 : Nat) (Option.none : Option Jvm.ClassFile.FieldType)).before args0 about1 = true := code_word (m := ⟨2, 0⟩) (meth := k2m0) (c := k2c0) (by decide +kernel) rfl rfl rfl (by decide +kernel)
set_option maxRecDepth 65536 in
theorem w_c3 : (Jvm.Cond.code ({ cls := "java/lang/Object", name := "<init>", desc := "()V" } : Jvm.MethodName) object_method_1_code (1 : Nat) (Option.none : Option Jvm.ClassFile.FieldType)).before args0 about1 = true := code_word (m := ⟨0, 0⟩) (meth := k0m0) (c := k0c0) (by decide +kernel) rfl rfl rfl (by decide +kernel)
set_option maxRecDepth 65536 in
theorem w_c4 : (Jvm.Cond.code ({ cls := "com/example/edgesheet/edgesheet/core/ByteSource", name := "reset", desc := "([BI)V" } : Jvm.MethodName) prog_6_method_2_code (3 : Nat) (Option.none : Option Jvm.ClassFile.FieldType)).before args0 about1 = true := code_word (m := ⟨2, 1⟩) (meth := k2m1) (c := k2c1) (by decide +kernel) rfl rfl rfl (by decide +kernel)
set_option maxRecDepth 65536 in
theorem w_c5 : (Jvm.Cond.code ({ cls := "com/example/edgesheet/edgesheet/core/ByteSource", name := "skipVarint", desc := "()V" } : Jvm.MethodName) prog_6_method_8_code (1 : Nat) (Option.none : Option Jvm.ClassFile.FieldType)).before args0 about1 = true := code_word (m := ⟨2, 4⟩) (meth := k2m4) (c := k2c4) (by decide +kernel) rfl rfl rfl (by decide +kernel)
set_option maxRecDepth 65536 in
theorem w_c6 : (Jvm.Cond.code ({ cls := "com/example/edgesheet/edgesheet/core/ByteSource", name := "position", desc := "()I" } : Jvm.MethodName) prog_6_method_4_code (1 : Nat) (Option.some Jvm.ClassFile.FieldType.int)).before args0 about1 = true := code_word (m := ⟨2, 3⟩) (meth := k2m3) (c := k2c3) (by decide +kernel) rfl rfl rfl (by decide +kernel)
set_option maxRecDepth 65536 in
theorem w_c7 : (Jvm.Cond.code ({ cls := "com/example/edgesheet/edgesheet/core/ByteSource", name := "bytes", desc := "()[B" } : Jvm.MethodName) prog_6_method_3_code (1 : Nat) (Option.some (Jvm.ClassFile.FieldType.array Jvm.ClassFile.FieldType.byte))).before args0 about1 = true := code_word (m := ⟨2, 2⟩) (meth := k2m2) (c := k2c2) (by decide +kernel) rfl rfl rfl (by decide +kernel)
def codes1 : List Jvm.Cond := [Jvm.Cond.code x code maxLocals ret, Jvm.Cond.code ({ cls := "com/example/edgesheet/edgesheet/core/ByteSourceSkipVarintPinLaw", name := "expectedEnd", desc := "([BI)I" } : Jvm.MethodName) method_2_code (2 : Nat) (Option.some Jvm.ClassFile.FieldType.int), Jvm.Cond.code ({ cls := "com/example/edgesheet/edgesheet/core/ByteSource", name := "<init>", desc := "()V" } : Jvm.MethodName) prog_6_method_1_code (1 : Nat) (Option.none : Option Jvm.ClassFile.FieldType), Jvm.Cond.code ({ cls := "java/lang/Object", name := "<init>", desc := "()V" } : Jvm.MethodName) object_method_1_code (1 : Nat) (Option.none : Option Jvm.ClassFile.FieldType), Jvm.Cond.code ({ cls := "com/example/edgesheet/edgesheet/core/ByteSource", name := "reset", desc := "([BI)V" } : Jvm.MethodName) prog_6_method_2_code (3 : Nat) (Option.none : Option Jvm.ClassFile.FieldType), Jvm.Cond.code ({ cls := "com/example/edgesheet/edgesheet/core/ByteSource", name := "skipVarint", desc := "()V" } : Jvm.MethodName) prog_6_method_8_code (1 : Nat) (Option.none : Option Jvm.ClassFile.FieldType), Jvm.Cond.code ({ cls := "com/example/edgesheet/edgesheet/core/ByteSource", name := "position", desc := "()I" } : Jvm.MethodName) prog_6_method_4_code (1 : Nat) (Option.some Jvm.ClassFile.FieldType.int), Jvm.Cond.code ({ cls := "com/example/edgesheet/edgesheet/core/ByteSource", name := "bytes", desc := "()[B" } : Jvm.MethodName) prog_6_method_3_code (1 : Nat) (Option.some (Jvm.ClassFile.FieldType.array Jvm.ClassFile.FieldType.byte))]
set_option maxRecDepth 65536 in
theorem codes_eq : words1.filter isCode = codes1 := rfl
theorem w_codes : ∀ c ∈ words1.filter isCode, c.before args0 about1 = true := by
  rw [codes_eq]
  intro c hc
  simp only [codes1, List.mem_cons, List.not_mem_nil, or_false] at hc
  rcases hc with rfl | rfl | rfl | rfl | rfl | rfl | rfl | rfl
  · exact w_c0
  · exact w_c1
  · exact w_c2
  · exact w_c3
  · exact w_c4
  · exact w_c5
  · exact w_c6
  · exact w_c7
set_option maxRecDepth 65536 in
theorem w_t1 : (words1.take 24).all (fun c => isCode c || c.before args0 about1) = true := by decide +kernel
set_option maxRecDepth 65536 in
theorem w_t2 : (words1.drop 24).all (fun c => isCode c || c.before args0 about1) = true := by decide +kernel
theorem w_tables : (allAtoms (Jvm.Cond.code x code maxLocals ret :: tables_1)).before args0 about1 = true := by
  rw [allAtoms_all]
  show words1.all (fun c => c.before args0 about1) = true
  refine all_split ?_ w_codes
  rw [← List.take_append_drop 24 words1, List.all_append, w_t1, w_t2]
  rfl
set_option maxRecDepth 65536 in
theorem w_case : (Jvm.Cond.and given_1 narrow_1).before args0 about1 = true := by decide +kernel
theorem w_applies : (headSpec (Jvm.Cond.code x code maxLocals ret :: tables_1) room_1).applies x e0.platform about1 = true :=
  (Spec.applies_iff w_frames).mpr ⟨w_running, w_runnable, w_alone, w_named, w_hears, w_ripe, w_room, w_tables⟩
theorem atStart : AtStart classFile x code maxLocals ret World_1 tables_1 room_1 Calls_1 rest_1 Pre_1 launch0 p0 e0 about1 theMethod args0 below0 :=
  ⟨lists_1, trivial, launch0.admits_env _ _ _, launch0.least_env, fairChoices_fair.cas, fairChoices_fair.clock, w_frames, w_args, w_heap, w_applies, trivial, trivial, w_case⟩
end start1
theorem witness_1 : WitnessClaimed_1 := ⟨start1.p0, start1.e0, start1.about1, start1.theMethod, start1.args0, start1.below0, start1.atStart⟩
end Jvm.Pilot.@@N@@
