import JvmDerived
import JvmDerived.Pilot.@@N@@Statement
import JvmDerived.Pilot.@@N@@Code
set_option linter.unusedVariables false
set_option linter.unusedSimpArgs false
@@BLOCK:NumsL.lean.txt@@
namespace Jvm.Pilot.@@N@@
open Jvm Jvm.ClassFile Sem Op Lib Jvm.Free Jvm.Stand Jvm.LawKit Jvm.RoadKit Bundle Jvm.Pilot.@@N@@.Jvm.D
section Own
variable {p : Program} {l : Launch} {e : Env} {R : Room} {s : State} {m : MethodId} {args : Array Value} {below : List Frame} {meth : Method} {c : Code} {Z : State} {a0 : Array Value} {own nm : String} {bs : ByteArray} {ml : Nat} {rt : Option FieldType} {n0 kc ks : Nat} {Q : Option Value → Heap → Prop} {F : Outcome → State → Prop} {T : State} {h : Heap} {k n : Nat} {pc pc' pc2 : Nat} {ls ls' : Array Slot} {st : List Value}
/-- all that a walk knows where it stands -/
def Here (p : Program) (l : Launch) (e : Env) (R : Room) (s : State) (m : MethodId) (args : Array Value) (below : List Frame) (meth : Method) (c : Code) (Z : State) (own nm : String) (bs : ByteArray) (ml : Nat) (rt : Option FieldType) (n0 : Nat) (T : State) (h : Heap) (k n : Nat) : Prop :=
  (p.tables.exec = Jvm.exec ∧ c.code = bs ∧ c.maxLocals = ml ∧ Z.Warmed39 s.vm ∧ s.vm.findClass own = some m.cls ∧ meth.name = nm ∧ meth.sig.returnType = rt ∧ meth.locks = false) ∧ n0 ≤ h.size ∧ T.heap = h ∧ ∃ locs, Stand p l e R s m args below meth c T locs k n ∧ Fr n0 locs
/-- from here the method returns, as Q says -/
def Run (p : Program) (e : Env) (below : List Frame) (F : Outcome → State → Prop) (T : State) (g : JFrame) : Prop :=
  ∃ s₂ o, Steps p.tables e below (T.setTop g) s₂ ∧ s₂.status = .running ∧ Ended s₂ below o ∧ F o s₂
/-- what a body's end owes -/
def Fnl (s : State) (n0 kc ks : Nat) (Q : Option Value → Heap → Prop) (o : Outcome) (s₂ : State) : Prop := ∃ v L, o = .returned v ∧ (Q v s₂.heap ∧ n0 ≤ s₂.heap.size ∧ Fr n0 L) ∧ FrameEnd s o s₂ L kc ks
/-- a body's contract -/
def Con (l : Launch) (Z : State) (y : MethodName) (bs : ByteArray) (ml : Nat) (rt : Option FieldType) (rm : Room) (as : Array Value) (h0 : Heap) (n0 kc ks : Nat) (Q : Option Value → Heap → Prop) : Prop :=
  ∀ ws, MetFree l y (head1 (Jvm.Cond.code y bs ml rt :: ws) rm) (fun a U => a = as ∧ Z.Warmed39 U.vm ∧ U.heap = h0) (fun _ _ _ _ _ => True) (fun _ U o U' => ∃ v L, o = .returned v ∧ (Q v U'.heap ∧ n0 ≤ U'.heap.size ∧ Fr n0 L) ∧ FrameEnd U o U' L kc ks)
theorem Run.of {T' : State} {g g' : JFrame} (q : ∀ t, Steps p.tables e below (T'.setTop g') t → Steps p.tables e below (T.setTop g) t) (r : Run p e below F T' g') : Run p e below F T g := by
  obtain ⟨s₂, o, w, r⟩ := r; exact ⟨s₂, o, q _ w, r⟩
theorem Con.of_body {y : MethodName} {rm : Room} {as : Array Value} (hp : plainName y.cls = true) (hef : ∀ m, entryFrame m as ml = mkF m 0 ls []) (Z0 : n0 ≤ h.size)
    (body : ∀ p e s m below meth c T, Here p l e rm s m as below meth c Z y.cls y.name bs ml rt n0 T h 0 0 → Run p e below (Fnl s n0 kc ks Q) T (mkF m 0 ls [])) : Con l Z y bs ml rt rm as h n0 kc ks Q := by
  intro ws
  refine MetFree.of_bodySF (plainFor_of_name hp) hisR ?_
  intro p e s m args below meth c s₁ Bd hml0 hP hK
  obtain ⟨rfl, hZ, hh⟩ := hP
  have e0 : s₁.heap = h := by rw [← hh, Bd.state]; rfl
  obtain ⟨s₂, o, q, r⟩ := body p e s m below meth c s₁ ⟨⟨Bd.exec, Bd.bytes, hml0, hZ, findClass_of_methodNamed Bd.named, (name_of_methodNamed Bd.named Bd.method).1, Bd.returns, Bd.notSynchronized⟩, Z0, e0, [], Stand.of_body Bd, Fr.nil n0⟩
  exact ⟨s₂, o, castTop (hef m) q, r⟩
theorem Here.sz (X : Here p l e R s m args below meth c Z own nm bs ml rt n0 T h k n) : n0 ≤ h.size := X.2.1
/-- the k-th word of the sheet -/
theorem wd (hw : ∀ d ∈ tables_1, d.before a0 Z = true) (i : Nat) {d : Jvm.Cond} (q : tables_1[i]? = some d) : d.before a0 Z = true := hw _ (List.mem_of_getElem? q)
def cnd : ClassFile.Cond → Int → Int → Prop
  | .eq, x, y => x = y
  | .ne, x, y => ¬ x = y
  | .lt, x, y => x < y
  | .ge, x, y => y ≤ x
  | .gt, x, y => y < x
  | .le, x, y => x ≤ y
theorem cnd_iff (cd : ClassFile.Cond) (x y : Int32) : if_icmp.holds cd x y = true ↔ cnd cd x.toInt y.toInt := by
  cases cd <;> simp [if_icmp.holds, cnd, Int32.lt_iff_toInt_lt, Int32.le_iff_toInt_le, ← Int32.toInt_inj]
theorem r_aloadN (X : Here p l e R s m args below meth c Z own nm bs ml rt n0 T h k n) {i : Fin 4} {a : Addr} (hd : decode bs pc = .ok (.aload_n i, 1)) (hl : ls[i.val]? = some (.val (.ref a))) (hp : pc + 1 = pc') (r : Run p e below F T (mkF m pc' ls (.ref a :: st))) : Run p e below F T (mkF m pc ls st) := by
  obtain ⟨⟨hx, hby, hml, hZ, hown, hnm, hret, hlk⟩, hs0, eT, locs, S, N⟩ := X
  subst hp
  exact Run.of (fun t q => XS.aloadN S.here hx rfl (hb hby hd) hl rfl q) r
theorem r_aload (X : Here p l e R s m args below meth c Z own nm bs ml rt n0 T h k n) {i : Nat} {a : Addr} (hd : decode bs pc = .ok (.aload i, 2)) (hl : ls[i]? = some (.val (.ref a))) (hp : pc + 2 = pc') (r : Run p e below F T (mkF m pc' ls (.ref a :: st))) : Run p e below F T (mkF m pc ls st) := by
  obtain ⟨⟨hx, hby, hml, hZ, hown, hnm, hret, hlk⟩, hs0, eT, locs, S, N⟩ := X
  subst hp
  exact Run.of (fun t q => XS.aload S.here hx rfl (hb hby hd) hl rfl q) r
theorem r_iloadN (X : Here p l e R s m args below meth c Z own nm bs ml rt n0 T h k n) {i : Fin 4} {v : Int32} (hd : decode bs pc = .ok (.iload_n i, 1)) (hl : ls[i.val]? = some (.val (.int v))) (hp : pc + 1 = pc') (r : Run p e below F T (mkF m pc' ls (.int v :: st))) : Run p e below F T (mkF m pc ls st) := by
  obtain ⟨⟨hx, hby, hml, hZ, hown, hnm, hret, hlk⟩, hs0, eT, locs, S, N⟩ := X
  subst hp
  exact Run.of (fun t q => XS.iloadN S.here hx rfl (hb hby hd) hl q) r
theorem r_iload (X : Here p l e R s m args below meth c Z own nm bs ml rt n0 T h k n) {i : Nat} {v : Int32} (hd : decode bs pc = .ok (.iload i, 2)) (hl : ls[i]? = some (.val (.int v))) (hp : pc + 2 = pc') (r : Run p e below F T (mkF m pc' ls (.int v :: st))) : Run p e below F T (mkF m pc ls st) := by
  obtain ⟨⟨hx, hby, hml, hZ, hown, hnm, hret, hlk⟩, hs0, eT, locs, S, N⟩ := X
  subst hp
  exact Run.of (fun t q => XS.iload S.here hx rfl (hb hby hd) hl q) r
theorem r_lloadN (X : Here p l e R s m args below meth c Z own nm bs ml rt n0 T h k n) {i : Fin 4} {v : Int64} (hd : decode bs pc = .ok (.lload_n i, 1)) (hl : ls[i.val]? = some (.val (.long v))) (hp : pc + 1 = pc') (r : Run p e below F T (mkF m pc' ls (.long v :: st))) : Run p e below F T (mkF m pc ls st) := by
  obtain ⟨⟨hx, hby, hml, hZ, hown, hnm, hret, hlk⟩, hs0, eT, locs, S, N⟩ := X
  subst hp
  exact Run.of (fun t q => XT.lloadN S.here hx rfl (hb hby hd) hl q) r
theorem r_lload (X : Here p l e R s m args below meth c Z own nm bs ml rt n0 T h k n) {i : Nat} {v : Int64} (hd : decode bs pc = .ok (.lload i, 2)) (hl : ls[i]? = some (.val (.long v))) (hp : pc + 2 = pc') (r : Run p e below F T (mkF m pc' ls (.long v :: st))) : Run p e below F T (mkF m pc ls st) := by
  obtain ⟨⟨hx, hby, hml, hZ, hown, hnm, hret, hlk⟩, hs0, eT, locs, S, N⟩ := X
  subst hp
  exact Run.of (fun t q => XT.lload S.here hx rfl (hb hby hd) hl q) r
theorem r_istoreN (X : Here p l e R s m args below meth c Z own nm bs ml rt n0 T h k n) {i : Fin 4} {v : Int32} (hd : decode bs pc = .ok (.istore_n i, 1)) (hl : storeLocals ls i.val (.int v) = some ls') (hp : pc + 1 = pc') (r : Run p e below F T (mkF m pc' ls' st)) : Run p e below F T (mkF m pc ls (.int v :: st)) := by
  obtain ⟨⟨hx, hby, hml, hZ, hown, hnm, hret, hlk⟩, hs0, eT, locs, S, N⟩ := X
  subst hp
  exact Run.of (fun t q => XS.istoreN S.here hx rfl (hb hby hd) rfl hl q) r
theorem r_istore (X : Here p l e R s m args below meth c Z own nm bs ml rt n0 T h k n) {i : Nat} {v : Int32} (hd : decode bs pc = .ok (.istore i, 2)) (hl : storeLocals ls i (.int v) = some ls') (hp : pc + 2 = pc') (r : Run p e below F T (mkF m pc' ls' st)) : Run p e below F T (mkF m pc ls (.int v :: st)) := by
  obtain ⟨⟨hx, hby, hml, hZ, hown, hnm, hret, hlk⟩, hs0, eT, locs, S, N⟩ := X
  subst hp
  exact Run.of (fun t q => XS.istore S.here hx rfl (hb hby hd) rfl hl q) r
theorem r_lstoreN (X : Here p l e R s m args below meth c Z own nm bs ml rt n0 T h k n) {i : Fin 4} {v : Int64} (hd : decode bs pc = .ok (.lstore_n i, 1)) (hl : storeLocals ls i.val (.long v) = some ls') (hp : pc + 1 = pc') (r : Run p e below F T (mkF m pc' ls' st)) : Run p e below F T (mkF m pc ls (.long v :: st)) := by
  obtain ⟨⟨hx, hby, hml, hZ, hown, hnm, hret, hlk⟩, hs0, eT, locs, S, N⟩ := X
  subst hp
  exact Run.of (fun t q => XT.lstoreN S.here hx rfl (hb hby hd) rfl hl q) r
theorem r_lstore (X : Here p l e R s m args below meth c Z own nm bs ml rt n0 T h k n) {i : Nat} {v : Int64} (hd : decode bs pc = .ok (.lstore i, 2)) (hl : storeLocals ls i (.long v) = some ls') (hp : pc + 2 = pc') (r : Run p e below F T (mkF m pc' ls' st)) : Run p e below F T (mkF m pc ls (.long v :: st)) := by
  obtain ⟨⟨hx, hby, hml, hZ, hown, hnm, hret, hlk⟩, hs0, eT, locs, S, N⟩ := X
  subst hp
  exact Run.of (fun t q => XT.lstore S.here hx rfl (hb hby hd) rfl hl q) r
theorem r_astoreN (X : Here p l e R s m args below meth c Z own nm bs ml rt n0 T h k n) {i : Fin 4} {v : Addr} (hd : decode bs pc = .ok (.astore_n i, 1)) (hl : storeLocals ls i.val (.ref v) = some ls') (hp : pc + 1 = pc') (r : Run p e below F T (mkF m pc' ls' st)) : Run p e below F T (mkF m pc ls (.ref v :: st)) := by
  obtain ⟨⟨hx, hby, hml, hZ, hown, hnm, hret, hlk⟩, hs0, eT, locs, S, N⟩ := X
  subst hp
  exact Run.of (fun t q => XS.astoreN S.here hx rfl (hb hby hd) rfl rfl hl q) r
theorem r_astore (X : Here p l e R s m args below meth c Z own nm bs ml rt n0 T h k n) {i : Nat} {v : Addr} (hd : decode bs pc = .ok (.astore i, 2)) (hl : storeLocals ls i (.ref v) = some ls') (hp : pc + 2 = pc') (r : Run p e below F T (mkF m pc' ls' st)) : Run p e below F T (mkF m pc ls (.ref v :: st)) := by
  obtain ⟨⟨hx, hby, hml, hZ, hown, hnm, hret, hlk⟩, hs0, eT, locs, S, N⟩ := X
  subst hp
  exact Run.of (fun t q => XS.astore S.here hx rfl (hb hby hd) rfl rfl hl q) r
theorem r_iconst (X : Here p l e R s m args below meth c Z own nm bs ml rt n0 T h k n) {i : Int} {v : Int32} (hd : decode bs pc = .ok (.iconst i, 1)) (hv : Int32.ofInt i = v) (hp : pc + 1 = pc') (r : Run p e below F T (mkF m pc' ls (.int v :: st))) : Run p e below F T (mkF m pc ls st) := by
  obtain ⟨⟨hx, hby, hml, hZ, hown, hnm, hret, hlk⟩, hs0, eT, locs, S, N⟩ := X
  subst hp
  exact Run.of (fun t q => XS.iconst S.here hx rfl (hb hby hd) (by rw [hv]; exact q)) r
theorem r_bipush (X : Here p l e R s m args below meth c Z own nm bs ml rt n0 T h k n) {i : Int} {v : Int32} (hd : decode bs pc = .ok (.bipush i, 2)) (hv : (Int8.ofInt i).toInt32 = v) (hp : pc + 2 = pc') (r : Run p e below F T (mkF m pc' ls (.int v :: st))) : Run p e below F T (mkF m pc ls st) := by
  obtain ⟨⟨hx, hby, hml, hZ, hown, hnm, hret, hlk⟩, hs0, eT, locs, S, N⟩ := X
  subst hp
  exact Run.of (fun t q => XS.bipush S.here hx rfl (hb hby hd) (by rw [hv]; exact q)) r
theorem r_sipush (X : Here p l e R s m args below meth c Z own nm bs ml rt n0 T h k n) {i : Int} {v : Int32} (hd : decode bs pc = .ok (.sipush i, 3)) (hv : (Int16.ofInt i).toInt32 = v) (hp : pc + 3 = pc') (r : Run p e below F T (mkF m pc' ls (.int v :: st))) : Run p e below F T (mkF m pc ls st) := by
  obtain ⟨⟨hx, hby, hml, hZ, hown, hnm, hret, hlk⟩, hs0, eT, locs, S, N⟩ := X
  subst hp
  exact Run.of (fun t q => XS.sipush S.here hx rfl (hb hby hd) (by rw [hv]; exact q)) r
theorem r_lconst (X : Here p l e R s m args below meth c Z own nm bs ml rt n0 T h k n) {i : Fin 2} {v : Int64} (hd : decode bs pc = .ok (.lconst i, 1)) (hv : Int64.ofNat i = v) (hp : pc + 1 = pc') (r : Run p e below F T (mkF m pc' ls (.long v :: st))) : Run p e below F T (mkF m pc ls st) := by
  obtain ⟨⟨hx, hby, hml, hZ, hown, hnm, hret, hlk⟩, hs0, eT, locs, S, N⟩ := X
  subst hp
  exact Run.of (fun t q => XT.lconst S.here hx rfl (hb hby hd) (by rw [hv]; exact q)) r
theorem r_ldcI (X : Here p l e R s m args below meth c Z own nm bs ml rt n0 T h k n) {i : Nat} {v : Int32} (hd : decode bs pc = .ok (.ldc i, 2)) (w : (Jvm.Cond.constant own i v).before a0 Z = true) (hp : pc + 2 = pc') (r : Run p e below F T (mkF m pc' ls (.int v :: st))) : Run p e below F T (mkF m pc ls st) := by
  obtain ⟨⟨hx, hby, hml, hZ, hown, hnm, hret, hlk⟩, hs0, eT, locs, S, N⟩ := X
  subst hp
  exact Run.of (fun t q => S.ldcI hx hown (mvT hZ w) rfl (hb hby hd) q) r
theorem r_ldc2J (X : Here p l e R s m args below meth c Z own nm bs ml rt n0 T h k n) {i : Nat} {v : Int64} (hd : decode bs pc = .ok (.ldc2_w i, 3)) (w : (Jvm.Cond.constantLong own i v).before a0 Z = true) (hp : pc + 3 = pc') (r : Run p e below F T (mkF m pc' ls (.long v :: st))) : Run p e below F T (mkF m pc ls st) := by
  obtain ⟨⟨hx, hby, hml, hZ, hown, hnm, hret, hlk⟩, hs0, eT, locs, S, N⟩ := X
  subst hp
  exact Run.of (fun t q => S.ldc2J hx hown (mvT hZ w) rfl (hb hby hd) q) r
theorem r_iadd (X : Here p l e R s m args below meth c Z own nm bs ml rt n0 T h k n) {x y z : Int32} (hd : decode bs pc = .ok (.iadd, 1)) (hv : x + y = z) (hp : pc + 1 = pc') (r : Run p e below F T (mkF m pc' ls (.int z :: st))) : Run p e below F T (mkF m pc ls (.int y :: .int x :: st)) := by
  obtain ⟨⟨hx, hby, hml, hZ, hown, hnm, hret, hlk⟩, hs0, eT, locs, S, N⟩ := X
  subst hp
  exact Run.of (fun t q => XS.iadd S.here hx rfl (hb hby hd) rfl (by rw [hv]; exact q)) r
theorem r_isub (X : Here p l e R s m args below meth c Z own nm bs ml rt n0 T h k n) {x y z : Int32} (hd : decode bs pc = .ok (.isub, 1)) (hv : x - y = z) (hp : pc + 1 = pc') (r : Run p e below F T (mkF m pc' ls (.int z :: st))) : Run p e below F T (mkF m pc ls (.int y :: .int x :: st)) := by
  obtain ⟨⟨hx, hby, hml, hZ, hown, hnm, hret, hlk⟩, hs0, eT, locs, S, N⟩ := X
  subst hp
  exact Run.of (fun t q => XS.isub S.here hx rfl (hb hby hd) rfl (by rw [hv]; exact q)) r
theorem r_imul (X : Here p l e R s m args below meth c Z own nm bs ml rt n0 T h k n) {x y z : Int32} (hd : decode bs pc = .ok (.imul, 1)) (hv : x * y = z) (hp : pc + 1 = pc') (r : Run p e below F T (mkF m pc' ls (.int z :: st))) : Run p e below F T (mkF m pc ls (.int y :: .int x :: st)) := by
  obtain ⟨⟨hx, hby, hml, hZ, hown, hnm, hret, hlk⟩, hs0, eT, locs, S, N⟩ := X
  subst hp
  exact Run.of (fun t q => XS.imul S.here hx rfl (hb hby hd) rfl (by rw [hv]; exact q)) r
theorem r_iand (X : Here p l e R s m args below meth c Z own nm bs ml rt n0 T h k n) {x y z : Int32} (hd : decode bs pc = .ok (.iand, 1)) (hv : x &&& y = z) (hp : pc + 1 = pc') (r : Run p e below F T (mkF m pc' ls (.int z :: st))) : Run p e below F T (mkF m pc ls (.int y :: .int x :: st)) := by
  obtain ⟨⟨hx, hby, hml, hZ, hown, hnm, hret, hlk⟩, hs0, eT, locs, S, N⟩ := X
  subst hp
  exact Run.of (fun t q => XS.iand S.here hx rfl (hb hby hd) rfl (by rw [hv]; exact q)) r
theorem r_ior (X : Here p l e R s m args below meth c Z own nm bs ml rt n0 T h k n) {x y z : Int32} (hd : decode bs pc = .ok (.ior, 1)) (hv : x ||| y = z) (hp : pc + 1 = pc') (r : Run p e below F T (mkF m pc' ls (.int z :: st))) : Run p e below F T (mkF m pc ls (.int y :: .int x :: st)) := by
  obtain ⟨⟨hx, hby, hml, hZ, hown, hnm, hret, hlk⟩, hs0, eT, locs, S, N⟩ := X
  subst hp
  exact Run.of (fun t q => XT.ior S.here hx rfl (hb hby hd) rfl (by rw [hv]; exact q)) r
theorem r_ixor (X : Here p l e R s m args below meth c Z own nm bs ml rt n0 T h k n) {x y z : Int32} (hd : decode bs pc = .ok (.ixor, 1)) (hv : x ^^^ y = z) (hp : pc + 1 = pc') (r : Run p e below F T (mkF m pc' ls (.int z :: st))) : Run p e below F T (mkF m pc ls (.int y :: .int x :: st)) := by
  obtain ⟨⟨hx, hby, hml, hZ, hown, hnm, hret, hlk⟩, hs0, eT, locs, S, N⟩ := X
  subst hp
  exact Run.of (fun t q => XT.ixor S.here hx rfl (hb hby hd) rfl (by rw [hv]; exact q)) r
theorem r_ishl (X : Here p l e R s m args below meth c Z own nm bs ml rt n0 T h k n) {x y z : Int32} (hd : decode bs pc = .ok (.ishl, 1)) (hv : x <<< (y &&& 31) = z) (hp : pc + 1 = pc') (r : Run p e below F T (mkF m pc' ls (.int z :: st))) : Run p e below F T (mkF m pc ls (.int y :: .int x :: st)) := by
  obtain ⟨⟨hx, hby, hml, hZ, hown, hnm, hret, hlk⟩, hs0, eT, locs, S, N⟩ := X
  subst hp
  exact Run.of (fun t q => XT.ishl S.here hx rfl (hb hby hd) rfl (by rw [hv]; exact q)) r
theorem r_ishr (X : Here p l e R s m args below meth c Z own nm bs ml rt n0 T h k n) {x y z : Int32} (hd : decode bs pc = .ok (.ishr, 1)) (hv : x >>> (y &&& 31) = z) (hp : pc + 1 = pc') (r : Run p e below F T (mkF m pc' ls (.int z :: st))) : Run p e below F T (mkF m pc ls (.int y :: .int x :: st)) := by
  obtain ⟨⟨hx, hby, hml, hZ, hown, hnm, hret, hlk⟩, hs0, eT, locs, S, N⟩ := X
  subst hp
  exact Run.of (fun t q => XT.ishr S.here hx rfl (hb hby hd) rfl (by rw [hv]; exact q)) r
theorem r_iushr (X : Here p l e R s m args below meth c Z own nm bs ml rt n0 T h k n) {x y z : Int32} (hd : decode bs pc = .ok (.iushr, 1)) (hv : XT.ushr x y = z) (hp : pc + 1 = pc') (r : Run p e below F T (mkF m pc' ls (.int z :: st))) : Run p e below F T (mkF m pc ls (.int y :: .int x :: st)) := by
  obtain ⟨⟨hx, hby, hml, hZ, hown, hnm, hret, hlk⟩, hs0, eT, locs, S, N⟩ := X
  subst hp
  exact Run.of (fun t q => XT.iushr S.here hx rfl (hb hby hd) rfl (by rw [hv]; exact q)) r
theorem r_irem (X : Here p l e R s m args below meth c Z own nm bs ml rt n0 T h k n) {x y z : Int32} (hd : decode bs pc = .ok (.irem, 1)) (hy : y ≠ 0) (hv : x % y = z) (hp : pc + 1 = pc') (r : Run p e below F T (mkF m pc' ls (.int z :: st))) : Run p e below F T (mkF m pc ls (.int y :: .int x :: st)) := by
  obtain ⟨⟨hx, hby, hml, hZ, hown, hnm, hret, hlk⟩, hs0, eT, locs, S, N⟩ := X
  subst hp
  exact Run.of (fun t q => iremM S hx rfl (hb hby hd) rfl hy (by rw [hv]; exact q)) r
theorem r_idiv (X : Here p l e R s m args below meth c Z own nm bs ml rt n0 T h k n) {x y z : Int32} (hd : decode bs pc = .ok (.idiv, 1)) (hy : y ≠ 0) (hv : x / y = z) (hp : pc + 1 = pc') (r : Run p e below F T (mkF m pc' ls (.int z :: st))) : Run p e below F T (mkF m pc ls (.int y :: .int x :: st)) := by
  obtain ⟨⟨hx, hby, hml, hZ, hown, hnm, hret, hlk⟩, hs0, eT, locs, S, N⟩ := X
  subst hp
  exact Run.of (fun t q => XS.idiv S.here hx rfl (hb hby hd) rfl hy (by rw [hv]; exact q)) r
theorem r_ladd (X : Here p l e R s m args below meth c Z own nm bs ml rt n0 T h k n) {x y z : Int64} (hd : decode bs pc = .ok (.ladd, 1)) (hv : x + y = z) (hp : pc + 1 = pc') (r : Run p e below F T (mkF m pc' ls (.long z :: st))) : Run p e below F T (mkF m pc ls (.long y :: .long x :: st)) := by
  obtain ⟨⟨hx, hby, hml, hZ, hown, hnm, hret, hlk⟩, hs0, eT, locs, S, N⟩ := X
  subst hp
  exact Run.of (fun t q => XT.ladd S.here hx rfl (hb hby hd) rfl (by rw [hv]; exact q)) r
theorem r_lsub (X : Here p l e R s m args below meth c Z own nm bs ml rt n0 T h k n) {x y z : Int64} (hd : decode bs pc = .ok (.lsub, 1)) (hv : x - y = z) (hp : pc + 1 = pc') (r : Run p e below F T (mkF m pc' ls (.long z :: st))) : Run p e below F T (mkF m pc ls (.long y :: .long x :: st)) := by
  obtain ⟨⟨hx, hby, hml, hZ, hown, hnm, hret, hlk⟩, hs0, eT, locs, S, N⟩ := X
  subst hp
  exact Run.of (fun t q => XT.lsub S.here hx rfl (hb hby hd) rfl (by rw [hv]; exact q)) r
theorem r_lmul (X : Here p l e R s m args below meth c Z own nm bs ml rt n0 T h k n) {x y z : Int64} (hd : decode bs pc = .ok (.lmul, 1)) (hv : x * y = z) (hp : pc + 1 = pc') (r : Run p e below F T (mkF m pc' ls (.long z :: st))) : Run p e below F T (mkF m pc ls (.long y :: .long x :: st)) := by
  obtain ⟨⟨hx, hby, hml, hZ, hown, hnm, hret, hlk⟩, hs0, eT, locs, S, N⟩ := X
  subst hp
  exact Run.of (fun t q => XT.lmul S.here hx rfl (hb hby hd) rfl (by rw [hv]; exact q)) r
theorem r_land (X : Here p l e R s m args below meth c Z own nm bs ml rt n0 T h k n) {x y z : Int64} (hd : decode bs pc = .ok (.land, 1)) (hv : x &&& y = z) (hp : pc + 1 = pc') (r : Run p e below F T (mkF m pc' ls (.long z :: st))) : Run p e below F T (mkF m pc ls (.long y :: .long x :: st)) := by
  obtain ⟨⟨hx, hby, hml, hZ, hown, hnm, hret, hlk⟩, hs0, eT, locs, S, N⟩ := X
  subst hp
  exact Run.of (fun t q => XT.land S.here hx rfl (hb hby hd) rfl (by rw [hv]; exact q)) r
theorem r_lor (X : Here p l e R s m args below meth c Z own nm bs ml rt n0 T h k n) {x y z : Int64} (hd : decode bs pc = .ok (.lor, 1)) (hv : x ||| y = z) (hp : pc + 1 = pc') (r : Run p e below F T (mkF m pc' ls (.long z :: st))) : Run p e below F T (mkF m pc ls (.long y :: .long x :: st)) := by
  obtain ⟨⟨hx, hby, hml, hZ, hown, hnm, hret, hlk⟩, hs0, eT, locs, S, N⟩ := X
  subst hp
  exact Run.of (fun t q => XT.lor S.here hx rfl (hb hby hd) rfl (by rw [hv]; exact q)) r
theorem r_lxor (X : Here p l e R s m args below meth c Z own nm bs ml rt n0 T h k n) {x y z : Int64} (hd : decode bs pc = .ok (.lxor, 1)) (hv : x ^^^ y = z) (hp : pc + 1 = pc') (r : Run p e below F T (mkF m pc' ls (.long z :: st))) : Run p e below F T (mkF m pc ls (.long y :: .long x :: st)) := by
  obtain ⟨⟨hx, hby, hml, hZ, hown, hnm, hret, hlk⟩, hs0, eT, locs, S, N⟩ := X
  subst hp
  exact Run.of (fun t q => XT.lxor S.here hx rfl (hb hby hd) rfl (by rw [hv]; exact q)) r
theorem r_ldiv (X : Here p l e R s m args below meth c Z own nm bs ml rt n0 T h k n) {x y z : Int64} (hd : decode bs pc = .ok (.ldiv, 1)) (hy : y ≠ 0) (hv : x / y = z) (hp : pc + 1 = pc') (r : Run p e below F T (mkF m pc' ls (.long z :: st))) : Run p e below F T (mkF m pc ls (.long y :: .long x :: st)) := by
  obtain ⟨⟨hx, hby, hml, hZ, hown, hnm, hret, hlk⟩, hs0, eT, locs, S, N⟩ := X
  subst hp
  exact Run.of (fun t q => XT.ldiv S.here hx rfl (hb hby hd) rfl hy (by rw [hv]; exact q)) r
theorem r_lrem (X : Here p l e R s m args below meth c Z own nm bs ml rt n0 T h k n) {x y z : Int64} (hd : decode bs pc = .ok (.lrem, 1)) (hy : y ≠ 0) (hv : x - (x / y) * y = z) (hp : pc + 1 = pc') (r : Run p e below F T (mkF m pc' ls (.long z :: st))) : Run p e below F T (mkF m pc ls (.long y :: .long x :: st)) := by
  obtain ⟨⟨hx, hby, hml, hZ, hown, hnm, hret, hlk⟩, hs0, eT, locs, S, N⟩ := X
  subst hp
  exact Run.of (fun t q => XT.lrem S.here hx rfl (hb hby hd) rfl hy (by rw [hv]; exact q)) r
theorem r_lshl (X : Here p l e R s m args below meth c Z own nm bs ml rt n0 T h k n) {x z : Int64} {y : Int32} (hd : decode bs pc = .ok (.lshl, 1)) (hv : x <<< (y.toInt64 &&& 63) = z) (hp : pc + 1 = pc') (r : Run p e below F T (mkF m pc' ls (.long z :: st))) : Run p e below F T (mkF m pc ls (.int y :: .long x :: st)) := by
  obtain ⟨⟨hx, hby, hml, hZ, hown, hnm, hret, hlk⟩, hs0, eT, locs, S, N⟩ := X
  subst hp
  exact Run.of (fun t q => XT.lshl S.here hx rfl (hb hby hd) rfl (by rw [hv]; exact q)) r
theorem r_lshr (X : Here p l e R s m args below meth c Z own nm bs ml rt n0 T h k n) {x z : Int64} {y : Int32} (hd : decode bs pc = .ok (.lshr, 1)) (hv : x >>> (y.toInt64 &&& 63) = z) (hp : pc + 1 = pc') (r : Run p e below F T (mkF m pc' ls (.long z :: st))) : Run p e below F T (mkF m pc ls (.int y :: .long x :: st)) := by
  obtain ⟨⟨hx, hby, hml, hZ, hown, hnm, hret, hlk⟩, hs0, eT, locs, S, N⟩ := X
  subst hp
  exact Run.of (fun t q => XT.lshr S.here hx rfl (hb hby hd) rfl (by rw [hv]; exact q)) r
theorem r_lushr (X : Here p l e R s m args below meth c Z own nm bs ml rt n0 T h k n) {x z : Int64} {y : Int32} (hd : decode bs pc = .ok (.lushr, 1)) (hv : XT.ushrL x y = z) (hp : pc + 1 = pc') (r : Run p e below F T (mkF m pc' ls (.long z :: st))) : Run p e below F T (mkF m pc ls (.int y :: .long x :: st)) := by
  obtain ⟨⟨hx, hby, hml, hZ, hown, hnm, hret, hlk⟩, hs0, eT, locs, S, N⟩ := X
  subst hp
  exact Run.of (fun t q => XT.lushr S.here hx rfl (hb hby hd) rfl (by rw [hv]; exact q)) r
theorem r_i2b (X : Here p l e R s m args below meth c Z own nm bs ml rt n0 T h k n) {x z : Int32} (hd : decode bs pc = .ok (.i2b, 1)) (hv : x.toInt8.toInt32 = z) (hp : pc + 1 = pc') (r : Run p e below F T (mkF m pc' ls (.int z :: st))) : Run p e below F T (mkF m pc ls (.int x :: st)) := by
  obtain ⟨⟨hx, hby, hml, hZ, hown, hnm, hret, hlk⟩, hs0, eT, locs, S, N⟩ := X
  subst hp
  exact Run.of (fun t q => XT.i2b S.here hx rfl (hb hby hd) rfl (by rw [hv]; exact q)) r
theorem r_i2c (X : Here p l e R s m args below meth c Z own nm bs ml rt n0 T h k n) {x z : Int32} (hd : decode bs pc = .ok (.i2c, 1)) (hv : x.toUInt32.toUInt16.toUInt32.toInt32 = z) (hp : pc + 1 = pc') (r : Run p e below F T (mkF m pc' ls (.int z :: st))) : Run p e below F T (mkF m pc ls (.int x :: st)) := by
  obtain ⟨⟨hx, hby, hml, hZ, hown, hnm, hret, hlk⟩, hs0, eT, locs, S, N⟩ := X
  subst hp
  exact Run.of (fun t q => XT.i2c S.here hx rfl (hb hby hd) rfl (by rw [hv]; exact q)) r
theorem r_i2s (X : Here p l e R s m args below meth c Z own nm bs ml rt n0 T h k n) {x z : Int32} (hd : decode bs pc = .ok (.i2s, 1)) (hv : x.toInt16.toInt32 = z) (hp : pc + 1 = pc') (r : Run p e below F T (mkF m pc' ls (.int z :: st))) : Run p e below F T (mkF m pc ls (.int x :: st)) := by
  obtain ⟨⟨hx, hby, hml, hZ, hown, hnm, hret, hlk⟩, hs0, eT, locs, S, N⟩ := X
  subst hp
  exact Run.of (fun t q => XT.i2s S.here hx rfl (hb hby hd) rfl (by rw [hv]; exact q)) r
theorem r_i2l (X : Here p l e R s m args below meth c Z own nm bs ml rt n0 T h k n) {x : Int32} {z : Int64} (hd : decode bs pc = .ok (.i2l, 1)) (hv : x.toInt64 = z) (hp : pc + 1 = pc') (r : Run p e below F T (mkF m pc' ls (.long z :: st))) : Run p e below F T (mkF m pc ls (.int x :: st)) := by
  obtain ⟨⟨hx, hby, hml, hZ, hown, hnm, hret, hlk⟩, hs0, eT, locs, S, N⟩ := X
  subst hp
  exact Run.of (fun t q => XT.i2l S.here hx rfl (hb hby hd) rfl (by rw [hv]; exact q)) r
theorem r_l2i (X : Here p l e R s m args below meth c Z own nm bs ml rt n0 T h k n) {x : Int64} {z : Int32} (hd : decode bs pc = .ok (.l2i, 1)) (hv : x.toInt32 = z) (hp : pc + 1 = pc') (r : Run p e below F T (mkF m pc' ls (.int z :: st))) : Run p e below F T (mkF m pc ls (.long x :: st)) := by
  obtain ⟨⟨hx, hby, hml, hZ, hown, hnm, hret, hlk⟩, hs0, eT, locs, S, N⟩ := X
  subst hp
  exact Run.of (fun t q => XT.l2i S.here hx rfl (hb hby hd) rfl (by rw [hv]; exact q)) r
theorem r_lcmp (X : Here p l e R s m args below meth c Z own nm bs ml rt n0 T h k n) {x y : Int64} {z : Int32} (hd : decode bs pc = .ok (.lcmp, 1)) (hv : XT.cmpL x y = z) (hp : pc + 1 = pc') (r : Run p e below F T (mkF m pc' ls (.int z :: st))) : Run p e below F T (mkF m pc ls (.long y :: .long x :: st)) := by
  obtain ⟨⟨hx, hby, hml, hZ, hown, hnm, hret, hlk⟩, hs0, eT, locs, S, N⟩ := X
  subst hp
  exact Run.of (fun t q => XT.lcmp S.here hx rfl (hb hby hd) rfl (by rw [hv]; exact q)) r
theorem r_dup (X : Here p l e R s m args below meth c Z own nm bs ml rt n0 T h k n) {x : Value} (hd : decode bs pc = .ok (.dup, 1)) (hc : x.category = 1) (hp : pc + 1 = pc') (r : Run p e below F T (mkF m pc' ls (x :: x :: st))) : Run p e below F T (mkF m pc ls (x :: st)) := by
  obtain ⟨⟨hx, hby, hml, hZ, hown, hnm, hret, hlk⟩, hs0, eT, locs, S, N⟩ := X
  subst hp
  exact Run.of (fun t q => XS.dup S.here hx rfl (hb hby hd) rfl hc q) r
theorem r_dupX1 (X : Here p l e R s m args below meth c Z own nm bs ml rt n0 T h k n) {x y : Value} (hd : decode bs pc = .ok (.dup_x1, 1)) (hc : x.category = 1) (hc' : y.category = 1) (hp : pc + 1 = pc') (r : Run p e below F T (mkF m pc' ls (x :: y :: x :: st))) : Run p e below F T (mkF m pc ls (x :: y :: st)) := by
  obtain ⟨⟨hx, hby, hml, hZ, hown, hnm, hret, hlk⟩, hs0, eT, locs, S, N⟩ := X
  subst hp
  exact Run.of (fun t q => XT.dupX1 S.here hx rfl (hb hby hd) rfl hc hc' q) r
theorem r_pop (X : Here p l e R s m args below meth c Z own nm bs ml rt n0 T h k n) {x : Value} (hd : decode bs pc = .ok (.pop, 1)) (hc : x.category = 1) (hp : pc + 1 = pc') (r : Run p e below F T (mkF m pc' ls st)) : Run p e below F T (mkF m pc ls (x :: st)) := by
  obtain ⟨⟨hx, hby, hml, hZ, hown, hnm, hret, hlk⟩, hs0, eT, locs, S, N⟩ := X
  subst hp
  exact Run.of (fun t q => XT.pop S.here hx rfl (hb hby hd) rfl hc q) r
theorem r_iinc (X : Here p l e R s m args below meth c Z own nm bs ml rt n0 T h k n) {i : Nat} {d : Int} {x z : Int32} (hd : decode bs pc = .ok (.iinc i d, 3)) (hl : ls[i]? = some (.val (.int x))) (hv : x + Int32.ofInt d = z) (hl' : storeLocals ls i (.int z) = some ls') (hp : pc + 3 = pc') (r : Run p e below F T (mkF m pc' ls' st)) : Run p e below F T (mkF m pc ls st) := by
  obtain ⟨⟨hx, hby, hml, hZ, hown, hnm, hret, hlk⟩, hs0, eT, locs, S, N⟩ := X
  subst hp
  exact Run.of (fun t q => XS.iinc S.here hx rfl (hb hby hd) hl (by rw [hv]; exact hl') q) r
theorem r_goto (X : Here p l e R s m args below meth c Z own nm bs ml rt n0 T h k n) {o : Int} (hd : decode bs pc = .ok (.goto o, 3)) (ho : 0 ≤ (pc : Int) + o) (hp : ((pc : Int) + o).toNat = pc') (r : Run p e below F T (mkF m pc' ls st)) : Run p e below F T (mkF m pc ls st) := by
  obtain ⟨⟨hx, hby, hml, hZ, hown, hnm, hret, hlk⟩, hs0, eT, locs, S, N⟩ := X
  exact Run.of (fun t q => XS.goto S.here hx rfl rfl (hb hby hd) ho hp q) r
theorem r_icmp (X : Here p l e R s m args below meth c Z own nm bs ml rt n0 T h k n) {cd : ClassFile.Cond} {o : Int} (hd : decode bs pc = .ok (.if_icmp cd o, 3)) (ho : 0 ≤ (pc : Int) + o) (hp : ((pc : Int) + o).toNat = pc') (hp2 : pc + 3 = pc2) {x y : Int32} {a b : Int} (ha : x.toInt = a) (hb' : y.toInt = b) (yes : cnd cd a b → Run p e below F T (mkF m pc' ls st)) (no : ¬ cnd cd a b → Run p e below F T (mkF m pc2 ls st)) : Run p e below F T (mkF m pc ls (.int y :: .int x :: st)) := by
  obtain ⟨⟨hx, hby, hml, hZ, hown, hnm, hret, hlk⟩, hs0, eT, locs, S, N⟩ := X
  subst ha hb' hp2
  by_cases w : cnd cd x.toInt (y : Int32).toInt
  · exact Run.of (fun t q => XS.icmpYes S.here hx rfl rfl (hb hby hd) rfl (((cnd_iff cd x y).mpr w)) ho hp q) (yes w)
  · exact Run.of (fun t q => XS.icmpNo S.here hx rfl (hb hby hd) rfl ((Bool.eq_false_iff.mpr fun z => w ((cnd_iff cd x y).mp z))) q) (no w)
theorem r_icmpY (X : Here p l e R s m args below meth c Z own nm bs ml rt n0 T h k n) {cd : ClassFile.Cond} {o : Int} (hd : decode bs pc = .ok (.if_icmp cd o, 3)) (ho : 0 ≤ (pc : Int) + o) (hp : ((pc : Int) + o).toNat = pc') {x y : Int32} {a b : Int} (ha : x.toInt = a) (hb' : y.toInt = b) (w : cnd cd a b) (r : Run p e below F T (mkF m pc' ls st)) : Run p e below F T (mkF m pc ls (.int y :: .int x :: st)) :=
  r_icmp X hd ho hp rfl ha hb' (fun _ => r) (fun z => absurd w z)
theorem r_icmpN (X : Here p l e R s m args below meth c Z own nm bs ml rt n0 T h k n) {cd : ClassFile.Cond} {o : Int} (hd : decode bs pc = .ok (.if_icmp cd o, 3)) (ho : 0 ≤ (pc : Int) + o) (hp2 : pc + 3 = pc2) {x y : Int32} {a b : Int} (ha : x.toInt = a) (hb' : y.toInt = b) (w : ¬ cnd cd a b) (r : Run p e below F T (mkF m pc2 ls st)) : Run p e below F T (mkF m pc ls (.int y :: .int x :: st)) :=
  r_icmp X hd ho rfl hp2 ha hb' (fun z => absurd z w) (fun _ => r)
theorem r_if (X : Here p l e R s m args below meth c Z own nm bs ml rt n0 T h k n) {cd : ClassFile.Cond} {o : Int} (hd : decode bs pc = .ok (.ifCond cd o, 3)) (ho : 0 ≤ (pc : Int) + o) (hp : ((pc : Int) + o).toNat = pc') (hp2 : pc + 3 = pc2) {x : Int32} {a b : Int} (ha : x.toInt = a) (hb' : (0 : Int32).toInt = b) (yes : cnd cd a b → Run p e below F T (mkF m pc' ls st)) (no : ¬ cnd cd a b → Run p e below F T (mkF m pc2 ls st)) : Run p e below F T (mkF m pc ls (.int x :: st)) := by
  obtain ⟨⟨hx, hby, hml, hZ, hown, hnm, hret, hlk⟩, hs0, eT, locs, S, N⟩ := X
  subst ha hb' hp2
  by_cases w : cnd cd x.toInt (0 : Int32).toInt
  · exact Run.of (fun t q => XS.ifYes S.here hx rfl rfl (hb hby hd) rfl ((if0 _ _).trans ((cnd_iff cd x 0).mpr w)) ho hp q) (yes w)
  · exact Run.of (fun t q => XS.ifNo S.here hx rfl (hb hby hd) rfl ((if0 _ _).trans (Bool.eq_false_iff.mpr fun z => w ((cnd_iff cd x 0).mp z))) q) (no w)
theorem r_ifY (X : Here p l e R s m args below meth c Z own nm bs ml rt n0 T h k n) {cd : ClassFile.Cond} {o : Int} (hd : decode bs pc = .ok (.ifCond cd o, 3)) (ho : 0 ≤ (pc : Int) + o) (hp : ((pc : Int) + o).toNat = pc') {x : Int32} {a b : Int} (ha : x.toInt = a) (hb' : (0 : Int32).toInt = b) (w : cnd cd a b) (r : Run p e below F T (mkF m pc' ls st)) : Run p e below F T (mkF m pc ls (.int x :: st)) :=
  r_if X hd ho hp rfl ha hb' (fun _ => r) (fun z => absurd w z)
theorem r_ifN (X : Here p l e R s m args below meth c Z own nm bs ml rt n0 T h k n) {cd : ClassFile.Cond} {o : Int} (hd : decode bs pc = .ok (.ifCond cd o, 3)) (ho : 0 ≤ (pc : Int) + o) (hp2 : pc + 3 = pc2) {x : Int32} {a b : Int} (ha : x.toInt = a) (hb' : (0 : Int32).toInt = b) (w : ¬ cnd cd a b) (r : Run p e below F T (mkF m pc2 ls st)) : Run p e below F T (mkF m pc ls (.int x :: st)) :=
  r_if X hd ho rfl hp2 ha hb' (fun z => absurd z w) (fun _ => r)
theorem r_acmpN (X : Here p l e R s m args below meth c Z own nm bs ml rt n0 T h k n) {cd : ACond} {o : Int} {x y : Addr} (hd : decode bs pc = .ok (.if_acmp cd o, 3)) (hc : XT.acmp cd (.ref x) (.ref y) = false) (hp : pc + 3 = pc') (r : Run p e below F T (mkF m pc' ls st)) : Run p e below F T (mkF m pc ls (.ref y :: .ref x :: st)) := by
  obtain ⟨⟨hx, hby, hml, hZ, hown, hnm, hret, hlk⟩, hs0, eT, locs, S, N⟩ := X
  subst hp
  exact Run.of (fun t q => XT.acmpNo S.here hx rfl (hb hby hd) rfl rfl rfl hc q) r
theorem r_retN {ft : FieldType} (X : Here p l e R s m args below meth c Z own nm bs ml (some ft) n0 T h k n) (ht : ft = .boolean ∨ ft = .byte ∨ ft = .char ∨ ft = .short) (hd : decode bs pc = .ok (.ireturn, 1)) {z w : Int32} (hz : nar ft z = w) (hQ : Q (some (.int w)) h) (hk : k ≤ kc) (hn : n ≤ ks) : Run p e below (Fnl s n0 kc ks Q) T (mkF m pc ls (.int z :: st)) := by
  obtain ⟨⟨hx, hby, hml, hZ, hown, hnm, hret, hlk⟩, hs0, eT, locs, S, N⟩ := X
  subst hz
  obtain ⟨fs, hr, hrun, hended, hW, hsame⟩ := S.leave (v := some (.int (nar ft z))) (fun w => by rw [hret] at w; cases w)
  refine ⟨_, _, ?_, hrun, hended, _, _, rfl, ⟨?_, ?_, N⟩, ⟨_, rfl⟩, hW, hsame.mono hk hn⟩
  · exact retN S hx hret ht (hb hby hd) hr
  · show Q _ T.heap
    rw [eT]; exact hQ
  · show n0 ≤ T.heap.size
    rw [eT]; exact hs0
theorem r_retI (X : Here p l e R s m args below meth c Z own nm bs ml (some .int) n0 T h k n) (hd : decode bs pc = .ok (.ireturn, 1)) {z : Int32} (hQ : Q (some (.int z)) h) (hk : k ≤ kc) (hn : n ≤ ks) : Run p e below (Fnl s n0 kc ks Q) T (mkF m pc ls (.int z :: st)) := by
  obtain ⟨⟨hx, hby, hml, hZ, hown, hnm, hret, hlk⟩, hs0, eT, locs, S, N⟩ := X
  obtain ⟨fs, hr, hrun, hended, hW, hsame⟩ := S.leave (v := some (.int z)) (fun w => by rw [hret] at w; cases w)
  refine ⟨_, _, ?_, hrun, hended, _, _, rfl, ⟨?_, ?_, N⟩, ⟨_, rfl⟩, hW, hsame.mono hk hn⟩
  · exact retOut S hx hret rfl (Or.inl ⟨rfl, Or.inl rfl, _, rfl⟩) (hb hby hd) hr
  · show Q _ T.heap
    rw [eT]; exact hQ
  · show n0 ≤ T.heap.size
    rw [eT]; exact hs0
theorem r_retL (X : Here p l e R s m args below meth c Z own nm bs ml (some .long) n0 T h k n) (hd : decode bs pc = .ok (.lreturn, 1)) {z : Int64} (hQ : Q (some (.long z)) h) (hk : k ≤ kc) (hn : n ≤ ks) : Run p e below (Fnl s n0 kc ks Q) T (mkF m pc ls (.long z :: st)) := by
  obtain ⟨⟨hx, hby, hml, hZ, hown, hnm, hret, hlk⟩, hs0, eT, locs, S, N⟩ := X
  obtain ⟨fs, hr, hrun, hended, hW, hsame⟩ := S.leave (v := some (.long z)) (fun w => by rw [hret] at w; cases w)
  refine ⟨_, _, ?_, hrun, hended, _, _, rfl, ⟨?_, ?_, N⟩, ⟨_, rfl⟩, hW, hsame.mono hk hn⟩
  · exact retOut S hx hret rfl (Or.inr (Or.inl ⟨rfl, rfl, _, rfl⟩)) (hb hby hd) hr
  · show Q _ T.heap
    rw [eT]; exact hQ
  · show n0 ≤ T.heap.size
    rw [eT]; exact hs0
theorem r_retA {ft : FieldType} (X : Here p l e R s m args below meth c Z own nm bs ml (some ft) n0 T h k n) (ht : ft.isReference = true) (hd : decode bs pc = .ok (.areturn, 1)) {a : Addr} (hQ : Q (some (.ref a)) h) (hk : k ≤ kc) (hn : n ≤ ks) : Run p e below (Fnl s n0 kc ks Q) T (mkF m pc ls (.ref a :: st)) := by
  obtain ⟨⟨hx, hby, hml, hZ, hown, hnm, hret, hlk⟩, hs0, eT, locs, S, N⟩ := X
  obtain ⟨fs, hr, hrun, hended, hW, hsame⟩ := S.leave (v := some (.ref a)) (fun w => by rw [hret] at w; cases w)
  refine ⟨_, _, ?_, hrun, hended, _, _, rfl, ⟨?_, ?_, N⟩, ⟨_, rfl⟩, hW, hsame.mono hk hn⟩
  · exact retOut S hx hret (by cases ft <;> first | rfl | (exfalso; revert ht; decide)) (Or.inr (Or.inr (Or.inr (Or.inr ⟨rfl, ht, rfl⟩)))) (hb hby hd) hr
  · show Q _ T.heap
    rw [eT]; exact hQ
  · show n0 ≤ T.heap.size
    rw [eT]; exact hs0
theorem r_ret (X : Here p l e R s m args below meth c Z own nm bs ml none n0 T h k n) (hd : decode bs pc = .ok (.return_, 1)) (hQ : Q none h) (hk : k ≤ kc) (hn : n ≤ ks) : Run p e below (Fnl s n0 kc ks Q) T (mkF m pc ls []) := by
  obtain ⟨⟨hx, hby, hml, hZ, hown, hnm, hret, hlk⟩, hs0, eT, locs, S, N⟩ := X
  obtain ⟨fs, hr, hrun, hended, hW, hsame⟩ := S.leave (v := none) (fun _ => rfl)
  refine ⟨_, _, ?_, hrun, hended, _, _, rfl, ⟨?_, ?_, N⟩, ⟨_, rfl⟩, hW, hsame.mono hk hn⟩
  · exact S.returnOut hx hret (hb hby hd) hr
  · show Q _ T.heap
    rw [eT]; exact hQ
  · show n0 ≤ T.heap.size
    rw [eT]; exact hs0
/-- the array at a has N components of kind ty; the j-th holds the int f j -/
def Arf (Z : State) (h : Heap) (a : Addr) (ty : FieldType) (N : Nat) (f : Nat → Int32) : Prop := ∃ cl : Cell, Arr Z h a cl ty ∧ cl.slots.size = N ∧ ∀ j, j < N → cl.slots[j]? = some (.int (f j))
def upd (f : Nat → Int32) (i : Nat) (v : Int32) : Nat → Int32 := fun j => if j = i then v else f j
theorem upd_same (f : Nat → Int32) (i : Nat) (v : Int32) : upd f i v i = v := if_pos rfl
theorem upd_ne (f : Nat → Int32) {i j : Nat} (v : Int32) (q : j ≠ i) : upd f i v j = f j := if_neg q
theorem Arf.lt {a : Addr} {ty : FieldType} {N : Nat} {f : Nat → Int32} (A : Arf Z h a ty N f) : a < h.size := by obtain ⟨_, A, -⟩ := A; exact A.lt
theorem Arf.ext {a : Addr} {ty : FieldType} {N : Nat} {f : Nat → Int32} {h' : Heap} (A : Arf Z h a ty N f) (E : Ext h h') : Arf Z h' a ty N f := by obtain ⟨cl, A, r⟩ := A; exact ⟨cl, A.ext E, r⟩
theorem Arf.other {a b : Addr} {ty : FieldType} {N sl : Nat} {f : Nat → Int32} {h' : Heap} {v : Value} (A : Arf Z h b ty N f) (W : Wr h h' a sl v) (q : b ≠ a) : Arf Z h' b ty N f := by obtain ⟨cl, A, r⟩ := A; exact ⟨cl, A.other W q, r⟩
theorem Arf.keep {a : Addr} {ty : FieldType} {N : Nat} {f : Nat → Int32} {h' : Heap} {ws : List Addr} (A : Arf Z h a ty N f) (K : Keep h h' ws) (q : a ∉ ws) : Arf Z h' a ty N f := by obtain ⟨cl, A, r⟩ := A; exact ⟨cl, ⟨K.2.1 a cl A.1 q, A.2⟩, r⟩
theorem Arf.cast {a : Addr} {ty : FieldType} {N : Nat} {f g : Nat → Int32} (A : Arf Z h a ty N f) (q : ∀ j, j < N → f j = g j) : Arf Z h a ty N g := by obtain ⟨cl, A, S, H⟩ := A; exact ⟨cl, A, S, fun j hj => by rw [H j hj, q j hj]⟩
theorem Arf.set {a : Addr} {ty : FieldType} {N i : Nat} {f : Nat → Int32} {h' : Heap} {v : Int32} (A : Arf Z h a ty N f) (W : Wr h h' a i (.int v)) : Arf Z h' a ty N (upd f i v) := by
  obtain ⟨cl, A, S, H⟩ := A
  refine ⟨_, A.same W, by rw [sz_set]; exact S, fun j hj => ?_⟩
  by_cases q : j = i
  · subst q; rw [upd_same]; simp [Cell.setSlot, S, hj]
  · rw [upd_ne f v q]; simp only [Cell.setSlot]; rw [Array.getElem?_setIfInBounds_ne (Ne.symm q)]; exact H j hj
theorem ix_clamp {j : Int32} {i : Nat} (hj : j.toInt = i) : j.toNatClampNeg = i := by simp [Int32.toNatClampNeg, hj]
theorem ix_in {j : Int32} {i N : Nat} (hj : j.toInt = i) (hi : i < N) {cl : Cell} (S : cl.slots.size = N) : ¬ (j < 0 ∨ cl.slots.size ≤ j.toNatClampNeg) := by
  rw [ix_clamp hj, S, Int32.lt_iff_toInt_lt, hj]
  have e0 : (0 : Int32).toInt = 0 := rfl
  omega
theorem r_baload (X : Here p l e R s m args below meth c Z own nm bs ml rt n0 T h k n) {a : Addr} {N i : Nat} {f : Nat → Int32} {j v : Int32} (hd : decode bs pc = .ok (.baload, 1)) (A : Arf Z h a .byte N f) (hj : j.toInt = i) (hi : i < N) (hv : f i = v) (hp : pc + 1 = pc') (r : Run p e below F T (mkF m pc' ls (.int v :: st))) : Run p e below F T (mkF m pc ls (.int j :: .ref a :: st)) := by
  obtain ⟨⟨hx, hby, hml, hZ, hown, hnm, hret, hlk⟩, hs0, eT, locs, S, N⟩ := X
  subst hp hv
  obtain ⟨cl, A, SZ, H⟩ := A
  exact Run.of (fun t q => S.baloadBytes hx (j := j) (by rw [eT]; exact A.1) (State.isArrayOf_alike hZ.alike A.2.1) A.2.2 (ix_in hj hi SZ) (by rw [ix_clamp hj]; exact H i hi) (g := mkF m pc ls (.int j :: .ref a :: st)) rfl rfl (hb hby hd) t q) r
theorem r_caload (X : Here p l e R s m args below meth c Z own nm bs ml rt n0 T h k n) {a : Addr} {N i : Nat} {f : Nat → Int32} {j v : Int32} (hd : decode bs pc = .ok (.caload, 1)) (A : Arf Z h a .char N f) (hj : j.toInt = i) (hi : i < N) (hv : f i = v) (hp : pc + 1 = pc') (r : Run p e below F T (mkF m pc' ls (.int v :: st))) : Run p e below F T (mkF m pc ls (.int j :: .ref a :: st)) := by
  obtain ⟨⟨hx, hby, hml, hZ, hown, hnm, hret, hlk⟩, hs0, eT, locs, S, N⟩ := X
  subst hp hv
  obtain ⟨cl, A, SZ, H⟩ := A
  exact Run.of (fun t q => S.caload hx (j := j) (by rw [eT]; exact A.1) (State.isArrayOf_alike hZ.alike A.2.1) A.2.2 (ix_in hj hi SZ) (by rw [ix_clamp hj]; exact H i hi) (g := mkF m pc ls (.int j :: .ref a :: st)) rfl rfl (hb hby hd) t q) r
theorem r_iaload (X : Here p l e R s m args below meth c Z own nm bs ml rt n0 T h k n) {a : Addr} {N i : Nat} {f : Nat → Int32} {j v : Int32} (hd : decode bs pc = .ok (.iaload, 1)) (A : Arf Z h a .int N f) (hj : j.toInt = i) (hi : i < N) (hv : f i = v) (hp : pc + 1 = pc') (r : Run p e below F T (mkF m pc' ls (.int v :: st))) : Run p e below F T (mkF m pc ls (.int j :: .ref a :: st)) := by
  obtain ⟨⟨hx, hby, hml, hZ, hown, hnm, hret, hlk⟩, hs0, eT, locs, S, N⟩ := X
  subst hp hv
  obtain ⟨cl, A, SZ, H⟩ := A
  exact Run.of (fun t q => S.iaload hx (j := j) (by rw [eT]; exact A.1) (State.isArrayOf_alike hZ.alike A.2.1) A.2.2 (ix_in hj hi SZ) (by rw [ix_clamp hj]; exact H i hi) (g := mkF m pc ls (.int j :: .ref a :: st)) rfl rfl (hb hby hd) t q) r
theorem r_arraylength (X : Here p l e R s m args below meth c Z own nm bs ml rt n0 T h k n) {a : Addr} {ty : FieldType} {N : Nat} {f : Nat → Int32} {v : Int32} (hd : decode bs pc = .ok (.arraylength, 1)) (A : Arf Z h a ty N f) (hv : N.toInt32 = v) (hp : pc + 1 = pc') (r : Run p e below F T (mkF m pc' ls (.int v :: st))) : Run p e below F T (mkF m pc ls (.ref a :: st)) := by
  obtain ⟨⟨hx, hby, hml, hZ, hown, hnm, hret, hlk⟩, hs0, eT, locs, S, N⟩ := X
  subst hp hv
  obtain ⟨cl, A, SZ, H⟩ := A
  subst SZ
  exact Run.of (fun t q => S.arraylength hx (cell := cl) (by rw [eT]; exact A.1) (State.isArrayOf_alike hZ.alike A.2.1) (g := mkF m pc ls (.ref a :: st)) rfl rfl (hb hby hd) t q) r
theorem r_bastore (X : Here p l e R s m args below meth c Z own nm bs ml rt n0 T h k n) {a : Addr} {N i : Nat} {f : Nat → Int32} {j x v : Int32} (hd : decode bs pc = .ok (.bastore, 1)) (A : Arf Z h a .byte N f) (hj : j.toInt = i) (hi : i < N) (ge : n0 ≤ a) (hv : nar .byte x = v) (hp : pc + 1 = pc') (r : ∀ T' h', Here p l e R s m args below meth c Z own nm bs ml rt n0 T' h' k n → Wr h h' a i (.int v) → Arf Z h' a .byte N (upd f i v) → Run p e below F T' (mkF m pc' ls st)) : Run p e below F T (mkF m pc ls (.int x :: .int j :: .ref a :: st)) := by
  obtain ⟨⟨hx, hby, hml, hZ, hown, hnm, hret, hlk⟩, hs0, eT, locs, S, N_⟩ := X
  subst hp hv
  obtain ⟨cl, A, SZ, H⟩ := A
  obtain ⟨T', h', X', e', W, st'⟩ := stB S hx hZ eT A (j := j) (x := x) (ix_in hj hi SZ) (g := mkF m pc ls (.int x :: .int j :: .ref a :: st)) rfl rfl (hb hby hd)
  rw [ix_clamp hj] at W
  refine Run.of (fun t q => st' t q) (r T' h' ⟨⟨hx, hby, hml, hZ, hown, hnm, hret, hlk⟩, ?_, e', _, X', Fr.snoc X' N_ ge⟩ W (Arf.set ⟨cl, A, SZ, H⟩ W))
  rw [W.size]; exact hs0
theorem r_castore (X : Here p l e R s m args below meth c Z own nm bs ml rt n0 T h k n) {a : Addr} {N i : Nat} {f : Nat → Int32} {j x v : Int32} (hd : decode bs pc = .ok (.castore, 1)) (A : Arf Z h a .char N f) (hj : j.toInt = i) (hi : i < N) (ge : n0 ≤ a) (hv : nar .char x = v) (hp : pc + 1 = pc') (r : ∀ T' h', Here p l e R s m args below meth c Z own nm bs ml rt n0 T' h' k n → Wr h h' a i (.int v) → Arf Z h' a .char N (upd f i v) → Run p e below F T' (mkF m pc' ls st)) : Run p e below F T (mkF m pc ls (.int x :: .int j :: .ref a :: st)) := by
  obtain ⟨⟨hx, hby, hml, hZ, hown, hnm, hret, hlk⟩, hs0, eT, locs, S, N_⟩ := X
  subst hp hv
  obtain ⟨cl, A, SZ, H⟩ := A
  obtain ⟨T', h', X', e', W, st'⟩ := stC S hx hZ eT A (j := j) (x := x) (ix_in hj hi SZ) (g := mkF m pc ls (.int x :: .int j :: .ref a :: st)) rfl rfl (hb hby hd)
  rw [ix_clamp hj] at W
  refine Run.of (fun t q => st' t q) (r T' h' ⟨⟨hx, hby, hml, hZ, hown, hnm, hret, hlk⟩, ?_, e', _, X', Fr.snoc X' N_ ge⟩ W (Arf.set ⟨cl, A, SZ, H⟩ W))
  rw [W.size]; exact hs0
theorem r_iastore (X : Here p l e R s m args below meth c Z own nm bs ml rt n0 T h k n) {a : Addr} {N i : Nat} {f : Nat → Int32} {j x v : Int32} (hd : decode bs pc = .ok (.iastore, 1)) (A : Arf Z h a .int N f) (hj : j.toInt = i) (hi : i < N) (ge : n0 ≤ a) (hv : x = v) (hp : pc + 1 = pc') (r : ∀ T' h', Here p l e R s m args below meth c Z own nm bs ml rt n0 T' h' k n → Wr h h' a i (.int v) → Arf Z h' a .int N (upd f i v) → Run p e below F T' (mkF m pc' ls st)) : Run p e below F T (mkF m pc ls (.int x :: .int j :: .ref a :: st)) := by
  obtain ⟨⟨hx, hby, hml, hZ, hown, hnm, hret, hlk⟩, hs0, eT, locs, S, N_⟩ := X
  subst hp hv
  obtain ⟨cl, A, SZ, H⟩ := A
  obtain ⟨T', h', X', e', W, st'⟩ := stI S hx hZ eT A (j := j) (x := x) (ix_in hj hi SZ) (g := mkF m pc ls (.int x :: .int j :: .ref a :: st)) rfl rfl (hb hby hd)
  rw [ix_clamp hj] at W
  refine Run.of (fun t q => st' t q) (r T' h' ⟨⟨hx, hby, hml, hZ, hown, hnm, hret, hlk⟩, ?_, e', _, X', Fr.snoc X' N_ ge⟩ W (Arf.set ⟨cl, A, SZ, H⟩ W))
  rw [W.size]; exact hs0
theorem r_newarray (X : Here p l e R s m args below meth c Z own nm bs ml rt n0 T h k n) {aty : ArrayType} {z : Int32} {N : Nat} (hd : decode bs pc = .ok (.newarray aty, 2)) (w : (Jvm.Cond.arrayClass (newarray.typeOf aty)).before a0 Z = true) (hz : z.toInt = N) (hdf : defaultValue (newarray.typeOf aty) = .int 0) (hb8 : N * 8 ≤ 536870912) (hc : k + 1 ≤ R.cells) (hl : n + N ≤ R.slots) (hp : pc + 2 = pc') (r : ∀ T' h' b, Here p l e R s m args below meth c Z own nm bs ml rt n0 T' h' (k + 1) (n + N) → b = h.size → n0 ≤ b → Ext h h' → Arf Z h' b (newarray.typeOf aty) N (fun _ => 0) → Run p e below F T' (mkF m pc' ls (.ref b :: st))) : Run p e below F T (mkF m pc ls (.int z :: st)) := by
  obtain ⟨⟨hx, hby, hml, hZ, hown, hnm, hret, hlk⟩, hs0, eT, locs, S, N_⟩ := X
  subst hp
  have hneg : ¬ z < 0 := by
    rw [Int32.lt_iff_toInt_lt, hz]
    have e0 : (0 : Int32).toInt = 0 := rfl
    omega
  obtain ⟨T', h', cA, X', e', E, A, st'⟩ := newP S hx hZ w eT (g := mkF m pc ls (.int z :: st)) rfl (hb hby hd) rfl hneg (cap := N) (Nat.le_of_eq (ix_clamp hz)) hb8 hc hl
  refine Run.of (fun t q => st' t q) (r T' h' h.size ⟨⟨hx, hby, hml, hZ, hown, hnm, hret, hlk⟩, Nat.le_trans hs0 E.1, e', _, X', N_⟩ rfl hs0 E ⟨_, A, (sz_new _ _ _).trans (ix_clamp hz), fun j hj => ?_⟩)
  simp [newA, ix_clamp hz, hj, hdf]
theorem r_new (X : Here p l e R s m args below meth c Z own nm bs ml rt n0 T h k n) {C : String} {i sz : Nat} (hd : decode bs pc = .ok (.new i, 3)) (w : (Jvm.Cond.classLink own i C).before a0 Z = true) (wi : (Jvm.Cond.instantiable C sz).before a0 Z = true) (wz : (Jvm.Cond.initialized C).before a0 Z = true) (hc : k + 1 ≤ R.cells) (hl : n + sz ≤ R.slots) (hp : pc + 3 = pc') (r : ∀ T' h' b, Here p l e R s m args below meth c Z own nm bs ml rt n0 T' h' (k + 1) (n + sz) → b = h.size → n0 ≤ b → Ext h h' → Exa Z h' b C → (∀ {O f d : String} {ty : FieldType}, Laid Z a0 C O f d → parseFieldDescriptor d = some ty → Fld Z h' b O f d (defaultValue ty)) → Run p e below F T' (mkF m pc' ls (.ref b :: st))) : Run p e below F T (mkF m pc ls st) := by
  obtain ⟨⟨hx, hby, hml, hZ, hown, hnm, hret, hlk⟩, hs0, eT, locs, S, N⟩ := X
  subst hp
  obtain ⟨T', h', X', e', E, A, D, -, st'⟩ := newO S hx hZ hown w wi wz eT (g := mkF m pc ls st) rfl (hb hby hd) hc hl
  exact Run.of (fun t q => st' t q) (r T' h' h.size ⟨⟨hx, hby, hml, hZ, hown, hnm, hret, hlk⟩, Nat.le_trans hs0 E.1, e', _, X', N⟩ rfl hs0 E A D)
theorem r_getfield (X : Here p l e R s m args below meth c Z own nm bs ml rt n0 T h k n) {R0 f d : String} {i : Nat} {a : Addr} {v : Value} (hd : decode bs pc = .ok (.getfield i, 3)) (w : (Jvm.Cond.fieldLink own i R0 f d).before a0 Z = true) (Ff : Fld Z h a R0 f d v) (hp : pc + 3 = pc') (r : ∀ T', Here p l e R s m args below meth c Z own nm bs ml rt n0 T' h k n → Run p e below F T' (mkF m pc' ls (v :: st))) : Run p e below F T (mkF m pc ls (.ref a :: st)) := by
  obtain ⟨⟨hx, hby, hml, hZ, hown, hnm, hret, hlk⟩, hs0, eT, locs, S, N⟩ := X
  subst hp
  obtain ⟨T', X', e', st'⟩ := getF S hx hZ hown (host := "") (Or.inl w) Via.refl eT Ff (g := mkF m pc ls (.ref a :: st)) rfl rfl (hb hby hd)
  exact Run.of (fun t q => st' t q) (r T' ⟨⟨hx, hby, hml, hZ, hown, hnm, hret, hlk⟩, hs0, e', _, X', N⟩)
theorem r_putfield (X : Here p l e R s m args below meth c Z own nm bs ml rt n0 T h k n) {R0 f d C : String} {i kk : Nat} {a : Addr} {v old : Value} {ty : FieldType} (hd : decode bs pc = .ok (.putfield i, 3)) (w : (Jvm.Cond.fieldLink own i R0 f d).before a0 Z = true) (Ff : Fld Z h a R0 f d old) (E : Exa Z h a C) (L : (Jvm.Cond.lays C R0 f d).before a0 Z = true ∨ ((Jvm.Cond.laysFinal C R0 f d).before a0 Z = true ∧ own = R0 ∧ nm = "<init>")) (wi : (Jvm.Cond.instantiable C kk).before a0 Z = true) (hty : parseFieldDescriptor d = some ty) (hn : narrow ty v = v) (hf : fits ty v = true) (ge : n0 ≤ a) (hp : pc + 3 = pc') (r : ∀ T' h', Here p l e R s m args below meth c Z own nm bs ml rt n0 T' h' k n → Wr h h' a (Jvm.RoadKit.slotOf Z R0 f d) v → Run p e below F T' (mkF m pc' ls st)) : Run p e below F T (mkF m pc ls (v :: .ref a :: st)) := by
  obtain ⟨⟨hx, hby, hml, hZ, hown, hnm, hret, hlk⟩, hs0, eT, locs, S, N⟩ := X
  subst hp
  obtain ⟨T', h', X', e', W, st'⟩ := putF S hx hZ hown (host := "") (Or.inl w) Via.refl eT Ff E (L.imp id fun q => ⟨q.1, q.2.1, hnm.trans q.2.2⟩) wi hty hn hf (g := mkF m pc ls (v :: .ref a :: st)) rfl rfl (hb hby hd)
  refine Run.of (fun t q => st' t q) (r T' h' ⟨⟨hx, hby, hml, hZ, hown, hnm, hret, hlk⟩, ?_, e', _, X', Fr.snoc X' N ge⟩ W)
  rw [W.size]; exact hs0
theorem r_initObject (X : Here p l e R s m args below meth c Z own nm bs ml rt n0 T h k n) {i : Nat} {a : Addr} (hd : decode bs pc = .ok (.invokespecial i, 3)) (w1 : (Jvm.Cond.methodLink own i Lib.objectInit).before a0 Z = true) (w2 : (Jvm.Cond.instanceMethod Lib.objectInit).before a0 Z = true) (w3 : (Jvm.Cond.code Lib.objectInit ⟨#[0xb1]⟩ 1 none).before a0 Z = true) (hsz : ls.size = ml) (hf : 1 ≤ R.frames) {W : Nat} (hW : (st.map fun v => v.category).sum = W) (hl : W + 12 ≤ R.locals) (hp : pc + 3 = pc') (r : ∀ T', Here p l e R s m args below meth c Z own nm bs ml rt n0 T' h k n → Run p e below F T' (mkF m pc' ls st)) : Run p e below F T (mkF m pc ls (.ref a :: st)) := by
  obtain ⟨⟨hx, hby, hml, hZ, hown, hnm, hret, hlk⟩, hs0, eT, locs, S, N⟩ := X
  subst hp
  obtain ⟨T', X', e', st'⟩ := initO S hx hZ hown w1 w2 w3 eT (g := mkF m pc ls (.ref a :: st)) rfl (by rw [hml]; exact hsz) rfl (hb hby hd) hf (W := W) (by show 2 * 0 + _ ≤ _; rw [hW]; omega) hl
  exact Run.of (fun t q => st' t q) (r T' ⟨⟨hx, hby, hml, hZ, hown, hnm, hret, hlk⟩, hs0, e', _, X', N⟩)
theorem r_callS (X : Here p l e R s m args below meth c Z own nm bs ml rt n0 T h k n) {y : MethodName} {i : Nat} {bs' : ByteArray} {ml' : Nat} {rt' : Option FieldType} {rm : Room} {Q' : Option Value → Heap → Prop} {ps : List FieldType} {rr : Option FieldType} {argsL rest : List Value} {W : Nat} (hd : decode bs pc = .ok (.invokestatic i, 3)) (C : Con l Z y bs' ml' rt' rm argsL.toArray h n0 rm.cells rm.slots Q') (w1 : (Jvm.Cond.methodLink own i y).before a0 Z = true) (w2 : (Jvm.Cond.static y).before a0 Z = true) (w3 : (Jvm.Cond.initialized y.cls).before a0 Z = true) (w4 : (Jvm.Cond.code y bs' ml' rt').before a0 Z = true) (hy : y.cls ≠ "java/lang/invoke/MethodHandle" ∧ y.cls ≠ "java/lang/invoke/VarHandle") (hst : st = argsL.reverse ++ rest) (hsz : ls.size = ml) (hpd : parseMethodDescriptor y.desc = some ⟨ps, rr⟩) (hlen : argsL.length = ps.length) (hW : (rest.map fun v => v.category).sum = W) (hf : rm.frames + 1 ≤ R.frames) (hl : W + (ml' + 11) + rm.locals ≤ R.locals) (hc : k + rm.cells ≤ R.cells) (hs : n + rm.slots ≤ R.slots) (hp : pc + 3 = pc') (r : ∀ v T' h', Here p l e R s m args below meth c Z own nm bs ml rt n0 T' h' (k + rm.cells) (n + rm.slots) → Q' v h' → Run p e below F T' (mkF m pc' ls (v.toList ++ rest))) : Run p e below F T (mkF m pc ls st) := by
  obtain ⟨⟨hx, hby, hml, hZ, hown, hnm, hret, hlk⟩, hs0, eT, locs, S, N⟩ := X
  subst hp hst
  obtain ⟨v, _, B, -, X', ⟨L, hQ, l1, l2, l3⟩, st'⟩ := Jvm.LawKit.callS S hx (y := y) hown (mvT hZ w1) (mvT hZ w2) (mvT hZ w3) (mvT hZ w4) hy (backOf (W := W) (Q := fun v hh L => Q' v hh ∧ n0 ≤ hh.size ∧ Fr n0 L) (C []) hZ w4 w3 hf hl) (g := mkF m pc ls (argsL.reverse ++ rest)) rfl (by rw [hml]; exact hsz) (argsL := argsL) (rest := rest) (lenOf hpd hlen) rfl (by show 2 * 0 + _ ≤ _; rw [hW]; omega) (hb hby hd) (fun _ _ => ⟨rfl, eT, hc, hs⟩)
  obtain ⟨hQ, hs1, hF⟩ := hQ
  have X'' : Here p l e R s m args below meth c Z own nm bs ml rt n0 B.U B.U.heap (k + rm.cells) (n + rm.slots) := ⟨⟨hx, hby, hml, hZ, hown, hnm, hret, hlk⟩, hs1, rfl, B.locs, by rw [l2, l3] at X'; exact X', by rw [l1]; exact Fr.app N hF⟩
  exact Run.of (fun t q => st' t q) (r v B.U B.U.heap X'' hQ)
theorem r_init (X : Here p l e R s m args below meth c Z own nm bs ml rt n0 T h k n) {y : MethodName} {i : Nat} {bs' : ByteArray} {ml' : Nat} {rm : Room} {Q' : Option Value → Heap → Prop} {ps : List FieldType} {rr : Option FieldType} {argsL rest : List Value} {W : Nat} {a : Addr} (hd : decode bs pc = .ok (.invokespecial i, 3)) (C : Con l Z y bs' ml' none rm (.ref a :: argsL).toArray h n0 rm.cells rm.slots Q') (hy1 : y.name = "<init>") (w1 : (Jvm.Cond.methodLink own i y).before a0 Z = true) (w2 : (Jvm.Cond.instanceMethod y).before a0 Z = true) (w3 : (Jvm.Cond.initialized y.cls).before a0 Z = true) (w4 : (Jvm.Cond.code y bs' ml' none).before a0 Z = true) (hy : y.cls ≠ "java/lang/invoke/MethodHandle" ∧ y.cls ≠ "java/lang/invoke/VarHandle") (hst : st = argsL.reverse ++ .ref a :: rest) (hsz : ls.size = ml) (hpd : parseMethodDescriptor y.desc = some ⟨ps, rr⟩) (hlen : argsL.length = ps.length) (hW : (rest.map fun v => v.category).sum = W) (hf : rm.frames + 1 ≤ R.frames) (hl : W + (ml' + 11) + rm.locals ≤ R.locals) (hc : k + rm.cells ≤ R.cells) (hs : n + rm.slots ≤ R.slots) (hp : pc + 3 = pc') (r : ∀ v T' h', Here p l e R s m args below meth c Z own nm bs ml rt n0 T' h' (k + rm.cells) (n + rm.slots) → Q' v h' → Run p e below F T' (mkF m pc' ls (v.toList ++ rest))) : Run p e below F T (mkF m pc ls st) := by
  obtain ⟨⟨hx, hby, hml, hZ, hown, hnm, hret, hlk⟩, hs0, eT, locs, S, N⟩ := X
  subst hp hst
  obtain ⟨v, _, B, -, X', ⟨L, hQ, l1, l2, l3⟩, st'⟩ := S.specialBack hx (y := y) hy1 hown (mvT hZ w1) (mvT hZ w2) (mvT hZ w4) hy (backOf (W := W) (Q := fun v hh L => Q' v hh ∧ n0 ≤ hh.size ∧ Fr n0 L) (C []) hZ w4 w3 hf hl) (g := mkF m pc ls (argsL.reverse ++ .ref a :: rest)) rfl (by rw [hml]; exact hsz) (Steps.refl _) (a := a) (argsL := argsL) (rest := rest) (lenOf hpd hlen) rfl (by show 2 * 0 + _ ≤ _; rw [hW]; omega) (hb hby hd) (fun _ _ => ⟨rfl, eT, hc, hs⟩)
  obtain ⟨hQ, hs1, hF⟩ := hQ
  have X'' : Here p l e R s m args below meth c Z own nm bs ml rt n0 B.U B.U.heap (k + rm.cells) (n + rm.slots) := ⟨⟨hx, hby, hml, hZ, hown, hnm, hret, hlk⟩, hs1, rfl, B.locs, by rw [l2, l3] at X'; exact X', by rw [l1]; exact Fr.app N hF⟩
  exact Run.of (fun t q => st'.trans q) (r v B.U B.U.heap X'' hQ)
theorem r_callV (X : Here p l e R s m args below meth c Z own nm bs ml rt n0 T h k n) {y : MethodName} {i : Nat} {bs' : ByteArray} {ml' : Nat} {rt' : Option FieldType} {rm : Room} {Q' : Option Value → Heap → Prop} {ps : List FieldType} {rr : Option FieldType} {argsL rest : List Value} {W : Nat} {C0 : String} {a : Addr} (hd : decode bs pc = .ok (.invokevirtual i, 3)) (C : Con l Z y bs' ml' rt' rm (.ref a :: argsL).toArray h n0 rm.cells rm.slots Q') (E : Exa Z h a C0) (w1 : (Jvm.Cond.methodLink own i y).before a0 Z = true) (w2 : (Jvm.Cond.declares y).before a0 Z = true) (w5 : (Jvm.Cond.selects C0 y y).before a0 Z = true) (w6 : (Jvm.Cond.instanceMethod y).before a0 Z = true) (w3 : (Jvm.Cond.initialized y.cls).before a0 Z = true) (w4 : (Jvm.Cond.code y bs' ml' rt').before a0 Z = true) (hy : y.cls ≠ "java/lang/invoke/MethodHandle" ∧ y.cls ≠ "java/lang/invoke/VarHandle") (hst : st = argsL.reverse ++ .ref a :: rest) (hsz : ls.size = ml) (hpd : parseMethodDescriptor y.desc = some ⟨ps, rr⟩) (hlen : argsL.length = ps.length) (hW : (rest.map fun v => v.category).sum = W) (hf : rm.frames + 1 ≤ R.frames) (hl : W + (ml' + 11) + rm.locals ≤ R.locals) (hc : k + rm.cells ≤ R.cells) (hs : n + rm.slots ≤ R.slots) (hp : pc + 3 = pc') (r : ∀ v T' h', Here p l e R s m args below meth c Z own nm bs ml rt n0 T' h' (k + rm.cells) (n + rm.slots) → Q' v h' → Run p e below F T' (mkF m pc' ls (v.toList ++ rest))) : Run p e below F T (mkF m pc ls st) := by
  obtain ⟨⟨hx, hby, hml, hZ, hown, hnm, hret, hlk⟩, hs0, eT, locs, S, N⟩ := X
  subst hp hst
  obtain ⟨cq, kq, qa, qb, qc⟩ := isOf hZ eT E
  obtain ⟨v, _, B, -, X', ⟨L, hQ, l1, l2, l3⟩, st'⟩ := S.virtualBack hx (y := y) (z := y) hown (mvT hZ w1) (mvT hZ w2) (notFace_of_selects (args := #[]) (mvT hZ w5)) (mvT hZ w5) (mvT hZ w6) hy (backOf (W := W) (Q := fun v hh L => Q' v hh ∧ n0 ≤ hh.size ∧ Fr n0 L) (C []) hZ w4 w3 hf hl) qa qc (g := mkF m pc ls (argsL.reverse ++ .ref a :: rest)) rfl (by rw [hml]; exact hsz) (Steps.refl _) (argsL := argsL) (rest := rest) (lenOf hpd hlen) rfl (by show 2 * 0 + _ ≤ _; rw [hW]; omega) (hb hby hd) (fun _ _ => ⟨rfl, eT, hc, hs⟩)
  obtain ⟨hQ, hs1, hF⟩ := hQ
  have X'' : Here p l e R s m args below meth c Z own nm bs ml rt n0 B.U B.U.heap (k + rm.cells) (n + rm.slots) := ⟨⟨hx, hby, hml, hZ, hown, hnm, hret, hlk⟩, hs1, rfl, B.locs, by rw [l2, l3] at X'; exact X', by rw [l1]; exact Fr.app N hF⟩
  exact Run.of (fun t q => st'.trans q) (r v B.U B.U.heap X'' hQ)
end Own
/-- an int by its bits' number -/
theorem n_bits (x : Int32) : x.toInt = ((x.toBitVec.toNat : Int) + 2147483648) % 4294967296 - 2147483648 := by
  have e : x.toInt = x.toBitVec.toInt := rfl
  have hb := x.toBitVec.isLt
  rw [e, BitVec.toInt_eq_toNat_cond]
  split <;> omega
theorem n_i2b (x : Int32) : (x.toInt8.toInt32).toInt = (x.toInt + 128) % 256 - 128 := by
  rw [Int8.toInt_toInt32, Int32.toInt_toInt8, Int.bmod_def]; omega
theorem n_i2c (x : Int32) : (x.toUInt32.toUInt16.toUInt32.toInt32).toInt = x.toInt % 65536 := by
  have h : (x.toUInt32.toUInt16.toUInt32.toInt32).toBitVec.toNat = x.toBitVec.toNat % 65536 := by
    show ((x.toBitVec.setWidth 16).setWidth 32).toNat = _
    rw [BitVec.toNat_setWidth, BitVec.toNat_setWidth]; omega
  have h1 := n_bits (x.toUInt32.toUInt16.toUInt32.toInt32)
  have h2 := n_bits x
  have h3 := x.toBitVec.isLt
  omega
theorem n_narC (x : Int32) : nar .char x.toUInt32.toUInt16.toUInt32.toInt32 = x.toUInt32.toUInt16.toUInt32.toInt32 := by
  apply Int32.toInt_inj.mp
  show (Int32.toUInt32 _).toUInt16.toUInt32.toInt32.toInt = _
  rw [n_i2c, n_i2c]; omega
theorem n_narB (x : Int32) : nar .byte x.toInt8.toInt32 = x.toInt8.toInt32 := by
  apply Int32.toInt_inj.mp
  show (Int32.toInt8 _).toInt32.toInt = _
  rw [n_i2b, n_i2b]; omega
theorem n_add {x y : Int32} {a b : Int} (hx : x.toInt = a) (hy : y.toInt = b) (h1 : -2147483648 ≤ a + b) (h2 : a + b ≤ 2147483647) : (x + y).toInt = a + b := by
  subst hx hy; exact Jvm.Kit.i32_add (by omega) (by omega)
theorem n_sub {x y : Int32} {a b : Int} (hx : x.toInt = a) (hy : y.toInt = b) (h1 : -2147483648 ≤ a - b) (h2 : a - b ≤ 2147483647) : (x - y).toInt = a - b := by
  subst hx hy; exact Jvm.Kit.i32_sub (by omega) (by omega)
theorem n_nat {x : Int32} {n : Nat} (h : x.toInt = n) : x = Int32.ofNat n := by
  have a := x.toInt_lt
  exact Int32.toInt_inj.mp (by rw [h, Int32.toInt_ofNat_of_lt (by omega)])
theorem n_max (x : Int32) : 0 ≤ (x &&& (2147483647 : Int32)).toInt := by
  have : (x &&& (2147483647 : Int32)).toInt = x.toInt % 2 ^ 31 := Jvm.Kit.i32_mask x 2147483647 (k := 31) (by decide) (by decide)
  omega
theorem n_bitsL (x : Int64) : x.toInt = ((x.toBitVec.toNat : Int) + 9223372036854775808) % 18446744073709551616 - 9223372036854775808 := by
  have e : x.toInt = x.toBitVec.toInt := rfl
  have hb := x.toBitVec.isLt
  rw [e, BitVec.toInt_eq_toNat_cond]
  split <;> omega
theorem n_ushr (x y : Int32) (s : Nat) (hs : ((y &&& 31).toUInt32).toNat = s) (h1 : s < 32) : ((XT.ushr x y).toBitVec.toNat : Nat) = x.toBitVec.toNat / 2 ^ s := by
  show ((x.toUInt32 >>> (y &&& 31).toUInt32).toInt32).toBitVec.toNat = _
  simp only [UInt32.toBitVec_toInt32, UInt32.toBitVec_shiftRight, Int32.toBitVec_toUInt32]
  simp [BitVec.toNat_ushiftRight, Nat.shiftRight_eq_div_pow]
  have h2 : y.toBitVec.toNat &&& 31 = s := hs
  rw [h2, Nat.mod_eq_of_lt h1]
def own_b (x : Int32) : Int32 := x.toInt8.toInt32
theorem own_nb (x : Int32) : nar .byte (own_b x) = own_b x := n_narB x
theorem own_bi (x : Int32) : (own_b x).toInt = (x.toInt + 128) % 256 - 128 := n_i2b x
theorem own_and3 (x : Int32) : (x &&& (3 : Int32)).toInt = x.toInt % 4 := Jvm.Kit.i32_mask x 3 (k := 2) (by decide) (by decide)
def own_acc (a b : Int32) : Int32 := (a <<< ((8 : Int32) &&& 31)) ||| (b &&& (255 : Int32))
theorem own_acc_int (a b : Int32) : (own_acc a b).toInt = (a.toInt * 256 + b.toInt % 256 + 2147483648) % 4294967296 - 2147483648 := by
  have h : (own_acc a b).toBitVec.toNat = (a.toBitVec.toNat * 256) % 4294967296 + b.toBitVec.toNat % 256 := by
    show ((a.toBitVec <<< (((8 : Int32) &&& 31).toBitVec.smod 32)) ||| (b.toBitVec &&& (255 : Int32).toBitVec)).toNat = _
    have e8 : (((8 : Int32) &&& 31).toBitVec.smod 32) = 8#32 := by decide
    have e255 : (255 : Int32).toBitVec = 255#32 := by decide
    rw [e8, e255, BitVec.toNat_or, BitVec.toNat_and, BitVec.shiftLeft_eq', BitVec.toNat_shiftLeft]
    have m : b.toBitVec.toNat &&& (255#32).toNat = b.toBitVec.toNat % 256 := Nat.and_two_pow_sub_one_eq_mod _ 8
    rw [m]
    have s : (a.toBitVec.toNat <<< (8#32).toNat) % 2 ^ 32 = ((a.toBitVec.toNat % 16777216) <<< 8) := by
      show (a.toBitVec.toNat <<< 8) % 2 ^ 32 = _
      rw [Nat.shiftLeft_eq, Nat.shiftLeft_eq]; omega
    rw [s, ← Nat.shiftLeft_add_eq_or_of_lt (by omega : b.toBitVec.toNat % 256 < 2 ^ 8), Nat.shiftLeft_eq]
    omega
  have ha := n_bits a
  have hb := n_bits b
  have hc := n_bits (own_acc a b)
  rw [h] at hc
  omega
theorem own_fin1 (x : Int32) : ((own_b (XT.ushr x (0 : Int32)))).toInt = (((x <<< ((24 : Int32) &&& 31)) >>> ((24 : Int32) &&& 31))).toInt := by
  have u0 := n_ushr x (0 : Int32) 0 (by decide) (by decide)
  have v0 := n_bits (XT.ushr x (0 : Int32))
  have hx := n_bits x
  have hb := x.toBitVec.isLt
  have e1 : ((x <<< ((24 : Int32) &&& 31)) >>> ((24 : Int32) &&& 31)).toInt = (x <<< ((24 : Int32) &&& 31)).toInt / 2 ^ 24 := Jvm.Kit.i32_shr _ _ (by decide)
  have e2 : (x <<< ((24 : Int32) &&& 31)).toBitVec.toNat = (x.toBitVec.toNat * 16777216) % 4294967296 := by
    show (x.toBitVec <<< (((24 : Int32) &&& 31).toBitVec.smod 32)).toNat = _
    rw [show (((24 : Int32) &&& 31).toBitVec.smod 32) = 24#32 by decide, BitVec.shiftLeft_eq', BitVec.toNat_shiftLeft]
    show (x.toBitVec.toNat <<< 24) % 2 ^ 32 = _
    rw [Nat.shiftLeft_eq]
  have e3 := n_bits (x <<< ((24 : Int32) &&& 31))
  rw [e1]
  simp only [own_acc_int, own_bi]
  omega
theorem own_fin2 (x : Int32) : ((own_acc (own_b (XT.ushr x (8 : Int32))) (own_b (XT.ushr x (0 : Int32))))).toInt = (((x <<< ((16 : Int32) &&& 31)) >>> ((16 : Int32) &&& 31))).toInt := by
  have u0 := n_ushr x (0 : Int32) 0 (by decide) (by decide)
  have v0 := n_bits (XT.ushr x (0 : Int32))
  have u8 := n_ushr x (8 : Int32) 8 (by decide) (by decide)
  have v8 := n_bits (XT.ushr x (8 : Int32))
  have hx := n_bits x
  have hb := x.toBitVec.isLt
  have e1 : ((x <<< ((16 : Int32) &&& 31)) >>> ((16 : Int32) &&& 31)).toInt = (x <<< ((16 : Int32) &&& 31)).toInt / 2 ^ 16 := Jvm.Kit.i32_shr _ _ (by decide)
  have e2 : (x <<< ((16 : Int32) &&& 31)).toBitVec.toNat = (x.toBitVec.toNat * 65536) % 4294967296 := by
    show (x.toBitVec <<< (((16 : Int32) &&& 31).toBitVec.smod 32)).toNat = _
    rw [show (((16 : Int32) &&& 31).toBitVec.smod 32) = 16#32 by decide, BitVec.shiftLeft_eq', BitVec.toNat_shiftLeft]
    show (x.toBitVec.toNat <<< 16) % 2 ^ 32 = _
    rw [Nat.shiftLeft_eq]
  have e3 := n_bits (x <<< ((16 : Int32) &&& 31))
  rw [e1]
  simp only [own_acc_int, own_bi]
  omega
theorem own_fin3 (x : Int32) : ((own_acc (own_acc (own_b (XT.ushr x (16 : Int32))) (own_b (XT.ushr x (8 : Int32)))) (own_b (XT.ushr x (0 : Int32))))).toInt = (((x <<< ((8 : Int32) &&& 31)) >>> ((8 : Int32) &&& 31))).toInt := by
  have u0 := n_ushr x (0 : Int32) 0 (by decide) (by decide)
  have v0 := n_bits (XT.ushr x (0 : Int32))
  have u8 := n_ushr x (8 : Int32) 8 (by decide) (by decide)
  have v8 := n_bits (XT.ushr x (8 : Int32))
  have u16 := n_ushr x (16 : Int32) 16 (by decide) (by decide)
  have v16 := n_bits (XT.ushr x (16 : Int32))
  have hx := n_bits x
  have hb := x.toBitVec.isLt
  have e1 : ((x <<< ((8 : Int32) &&& 31)) >>> ((8 : Int32) &&& 31)).toInt = (x <<< ((8 : Int32) &&& 31)).toInt / 2 ^ 8 := Jvm.Kit.i32_shr _ _ (by decide)
  have e2 : (x <<< ((8 : Int32) &&& 31)).toBitVec.toNat = (x.toBitVec.toNat * 256) % 4294967296 := by
    show (x.toBitVec <<< (((8 : Int32) &&& 31).toBitVec.smod 32)).toNat = _
    rw [show (((8 : Int32) &&& 31).toBitVec.smod 32) = 8#32 by decide, BitVec.shiftLeft_eq', BitVec.toNat_shiftLeft]
    show (x.toBitVec.toNat <<< 8) % 2 ^ 32 = _
    rw [Nat.shiftLeft_eq]
  have e3 := n_bits (x <<< ((8 : Int32) &&& 31))
  rw [e1]
  simp only [own_acc_int, own_bi]
  omega
theorem own_fin4 (x : Int32) : ((own_acc (own_acc (own_acc (own_b (XT.ushr x (24 : Int32))) (own_b (XT.ushr x (16 : Int32)))) (own_b (XT.ushr x (8 : Int32)))) (own_b x))).toInt = (x).toInt := by
  have u8 := n_ushr x (8 : Int32) 8 (by decide) (by decide)
  have v8 := n_bits (XT.ushr x (8 : Int32))
  have u16 := n_ushr x (16 : Int32) 16 (by decide) (by decide)
  have v16 := n_bits (XT.ushr x (16 : Int32))
  have u24 := n_ushr x (24 : Int32) 24 (by decide) (by decide)
  have v24 := n_bits (XT.ushr x (24 : Int32))
  have hx := n_bits x
  have hb := x.toBitVec.isLt
  simp only [own_acc_int, own_bi]
  omega
theorem pn_java_lang_Record : plainName "java/lang/Record" = true := by first | (simp [plainName, overriddenIn]; done) | decide +kernel
theorem d_init_Record_0 : decode jdk_30_method_1_code 0 = .ok (.aload_n 0, 1) := by decide +kernel
theorem d_init_Record_1 : decode jdk_30_method_1_code 1 = .ok (.invokespecial 1, 3) := by decide +kernel
theorem d_init_Record_4 : decode jdk_30_method_1_code 4 = .ok (.return_, 1) := by decide +kernel
theorem pn_com_example_vestibule_vestibule_asn1_Ber_Element : plainName "com/example/vestibule/vestibule/asn1/Ber$Element" = true := by first | (simp [plainName, overriddenIn]; done) | decide +kernel
theorem d_init_Ber_Element_0 : decode prog_4_method_1_code 0 = .ok (.aload_n 0, 1) := by decide +kernel
theorem pd_init_Record : parseMethodDescriptor "()V" = some ⟨[], none⟩ := by decide +kernel
theorem d_init_Ber_Element_1 : decode prog_4_method_1_code 1 = .ok (.invokespecial 3, 3) := by decide +kernel
theorem d_init_Ber_Element_4 : decode prog_4_method_1_code 4 = .ok (.aload_n 0, 1) := by decide +kernel
theorem d_init_Ber_Element_5 : decode prog_4_method_1_code 5 = .ok (.iload_n 1, 1) := by decide +kernel
theorem d_init_Ber_Element_6 : decode prog_4_method_1_code 6 = .ok (.putfield 9, 3) := by decide +kernel
theorem d_init_Ber_Element_9 : decode prog_4_method_1_code 9 = .ok (.aload_n 0, 1) := by decide +kernel
theorem d_init_Ber_Element_10 : decode prog_4_method_1_code 10 = .ok (.aload_n 2, 1) := by decide +kernel
theorem d_init_Ber_Element_11 : decode prog_4_method_1_code 11 = .ok (.putfield 15, 3) := by decide +kernel
theorem d_init_Ber_Element_14 : decode prog_4_method_1_code 14 = .ok (.aload_n 0, 1) := by decide +kernel
theorem d_init_Ber_Element_15 : decode prog_4_method_1_code 15 = .ok (.iload_n 3, 1) := by decide +kernel
theorem d_init_Ber_Element_16 : decode prog_4_method_1_code 16 = .ok (.putfield 19, 3) := by decide +kernel
theorem d_init_Ber_Element_19 : decode prog_4_method_1_code 19 = .ok (.aload_n 0, 1) := by decide +kernel
theorem d_init_Ber_Element_20 : decode prog_4_method_1_code 20 = .ok (.iload 4, 2) := by decide +kernel
theorem d_init_Ber_Element_22 : decode prog_4_method_1_code 22 = .ok (.putfield 22, 3) := by decide +kernel
theorem d_init_Ber_Element_25 : decode prog_4_method_1_code 25 = .ok (.return_, 1) := by decide +kernel
theorem d_number_0 : decode prog_4_method_3_code 0 = .ok (.aload_n 0, 1) := by decide +kernel
theorem d_number_1 : decode prog_4_method_3_code 1 = .ok (.getfield 22, 3) := by decide +kernel
theorem d_number_4 : decode prog_4_method_3_code 4 = .ok (.aload_n 0, 1) := by decide +kernel
theorem d_number_5 : decode prog_4_method_3_code 5 = .ok (.getfield 19, 3) := by decide +kernel
theorem d_number_8 : decode prog_4_method_3_code 8 = .ok (.isub, 1) := by decide +kernel
theorem d_number_9 : decode prog_4_method_3_code 9 = .ok (.istore_n 1, 1) := by decide +kernel
theorem d_number_10 : decode prog_4_method_3_code 10 = .ok (.iload_n 1, 1) := by decide +kernel
theorem d_number_11 : decode prog_4_method_3_code 11 = .ok (.iconst 1, 1) := by decide +kernel
theorem d_number_12 : decode prog_4_method_3_code 12 = .ok (.if_icmp .lt 8, 3) := by decide +kernel
theorem d_number_15 : decode prog_4_method_3_code 15 = .ok (.iload_n 1, 1) := by decide +kernel
theorem d_number_16 : decode prog_4_method_3_code 16 = .ok (.iconst 4, 1) := by decide +kernel
theorem d_number_17 : decode prog_4_method_3_code 17 = .ok (.if_icmp .le 17, 3) := by decide +kernel
theorem d_number_34 : decode prog_4_method_3_code 34 = .ok (.aload_n 0, 1) := by decide +kernel
theorem d_number_35 : decode prog_4_method_3_code 35 = .ok (.getfield 15, 3) := by decide +kernel
theorem d_number_38 : decode prog_4_method_3_code 38 = .ok (.aload_n 0, 1) := by decide +kernel
theorem d_number_39 : decode prog_4_method_3_code 39 = .ok (.getfield 19, 3) := by decide +kernel
theorem d_number_42 : decode prog_4_method_3_code 42 = .ok (.baload, 1) := by decide +kernel
theorem d_number_43 : decode prog_4_method_3_code 43 = .ok (.istore_n 2, 1) := by decide +kernel
theorem d_number_44 : decode prog_4_method_3_code 44 = .ok (.aload_n 0, 1) := by decide +kernel
theorem d_number_45 : decode prog_4_method_3_code 45 = .ok (.getfield 19, 3) := by decide +kernel
theorem d_number_48 : decode prog_4_method_3_code 48 = .ok (.iconst 1, 1) := by decide +kernel
theorem d_number_49 : decode prog_4_method_3_code 49 = .ok (.iadd, 1) := by decide +kernel
theorem d_number_50 : decode prog_4_method_3_code 50 = .ok (.istore_n 3, 1) := by decide +kernel
theorem d_number_51 : decode prog_4_method_3_code 51 = .ok (.iload_n 3, 1) := by decide +kernel
theorem d_number_52 : decode prog_4_method_3_code 52 = .ok (.aload_n 0, 1) := by decide +kernel
theorem d_number_53 : decode prog_4_method_3_code 53 = .ok (.getfield 22, 3) := by decide +kernel
theorem d_number_56 : decode prog_4_method_3_code 56 = .ok (.if_icmp .ge 25, 3) := by decide +kernel
theorem d_number_81 : decode prog_4_method_3_code 81 = .ok (.iload_n 2, 1) := by decide +kernel
theorem d_number_82 : decode prog_4_method_3_code 82 = .ok (.ireturn, 1) := by decide +kernel
theorem d_number_59 : decode prog_4_method_3_code 59 = .ok (.iload_n 2, 1) := by decide +kernel
theorem d_number_60 : decode prog_4_method_3_code 60 = .ok (.bipush 8, 2) := by decide +kernel
theorem d_number_62 : decode prog_4_method_3_code 62 = .ok (.ishl, 1) := by decide +kernel
theorem d_number_63 : decode prog_4_method_3_code 63 = .ok (.aload_n 0, 1) := by decide +kernel
theorem d_number_64 : decode prog_4_method_3_code 64 = .ok (.getfield 15, 3) := by decide +kernel
theorem d_number_67 : decode prog_4_method_3_code 67 = .ok (.iload_n 3, 1) := by decide +kernel
theorem d_number_68 : decode prog_4_method_3_code 68 = .ok (.baload, 1) := by decide +kernel
theorem d_number_69 : decode prog_4_method_3_code 69 = .ok (.sipush 255, 3) := by decide +kernel
theorem d_number_72 : decode prog_4_method_3_code 72 = .ok (.iand, 1) := by decide +kernel
theorem d_number_73 : decode prog_4_method_3_code 73 = .ok (.ior, 1) := by decide +kernel
theorem d_number_74 : decode prog_4_method_3_code 74 = .ok (.istore_n 2, 1) := by decide +kernel
theorem d_number_75 : decode prog_4_method_3_code 75 = .ok (.iinc 3 1, 3) := by decide +kernel
theorem d_number_78 : decode prog_4_method_3_code 78 = .ok (.goto (-27), 3) := by decide +kernel
theorem pn_com_example_vestibule_vestibule_asn1_ElementNumberPinLaw : plainName "com/example/vestibule/vestibule/asn1/ElementNumberPinLaw" = true := by first | (simp [plainName, overriddenIn]; done) | decide +kernel
theorem pd_init_Ber_Element : parseMethodDescriptor "(I[BII)V" = some ⟨[.int, .array (.byte), .int, .int], none⟩ := by decide +kernel
theorem pd_number : parseMethodDescriptor "()I" = some ⟨[], (some .int)⟩ := by decide +kernel
set_option maxRecDepth 65536 in
set_option maxHeartbeats 40000000 in
theorem con_rec (l : Launch) (Z : State) (a0 : Array Value) (hw : ∀ d ∈ tables_1, d.before a0 Z = true) (a1 : Addr) (h0 : Heap) (n0 : Nat) (Z0 : n0 ≤ h0.size)  : Con l Z (⟨"java/lang/Record", "<init>", "()V"⟩ : MethodName) jdk_30_method_1_code 1 none ({ frames := 1, cells := 0, slots := 0, locals := 12 } : Room) #[(.ref a1)] h0 n0 0 0 (fun v h => v = none ∧ h0 = h) := by
  refine Con.of_body (ls := #[.val (.ref a1)]) pn_java_lang_Record (fun m => by first | (simp [entryFrame, mkF, argsToLocals, Value.category]; done) | rfl) Z0 (fun p e s m below meth c T (X : Here p l e ({ frames := 1, cells := 0, slots := 0, locals := 12 } : Room) s m #[(.ref a1)] below meth c Z "java/lang/Record" "<init>" jdk_30_method_1_code 1 none n0 T h0 0 0) => ?_)
  refine r_aloadN X (pc' := 1) d_init_Record_0 rfl rfl ?_
  refine r_initObject X (pc' := 4) (W := 0) d_init_Record_1 (wd hw 12 rfl) (wd hw 13 rfl) (wd hw 14 rfl) rfl (by decide) rfl (by decide) rfl (fun T1 X2 => ?_)
  show Run p e below _ _ (mkF m 4 #[.val (.ref a1)] [])
  exact r_ret X2 d_init_Record_4 ⟨rfl, rfl⟩ (by decide) (by decide)
set_option maxRecDepth 65536 in
set_option maxHeartbeats 40000000 in
theorem con_init (l : Launch) (Z : State) (a0 : Array Value) (hw : ∀ d ∈ tables_1, d.before a0 Z = true) (a1 : Addr) (q1 : Int32) (t1 : Addr) (q3 : Int32) (q4 : Int32) (u_tag : Value) (u_bytes : Value) (u_offset : Value) (u_end : Value) (h0 : Heap) (n0 : Nat) (Z0 : n0 ≤ h0.size) (E_a1 : Exa Z h0 a1 "com/example/vestibule/vestibule/asn1/Ber$Element") (F_tag : Fld Z h0 a1 "com/example/vestibule/vestibule/asn1/Ber$Element" "tag" "I" u_tag) (F_bytes : Fld Z h0 a1 "com/example/vestibule/vestibule/asn1/Ber$Element" "bytes" "[B" u_bytes) (F_offset : Fld Z h0 a1 "com/example/vestibule/vestibule/asn1/Ber$Element" "offset" "I" u_offset) (F_end : Fld Z h0 a1 "com/example/vestibule/vestibule/asn1/Ber$Element" "end" "I" u_end) (g_a1 : n0 ≤ a1) : Con l Z (⟨"com/example/vestibule/vestibule/asn1/Ber$Element", "<init>", "(I[BII)V"⟩ : MethodName) prog_4_method_1_code 5 none ({ frames := 2, cells := 0, slots := 0, locals := 24 } : Room) #[(.ref a1), (.int q1), (.ref t1), (.int q3), (.int q4)] h0 n0 0 0 (fun v h => v = none ∧ Keep h0 h [a1] ∧ Fld Z h a1 "com/example/vestibule/vestibule/asn1/Ber$Element" "tag" "I" (.int q1) ∧ Fld Z h a1 "com/example/vestibule/vestibule/asn1/Ber$Element" "bytes" "[B" (.ref t1) ∧ Fld Z h a1 "com/example/vestibule/vestibule/asn1/Ber$Element" "offset" "I" (.int q3) ∧ Fld Z h a1 "com/example/vestibule/vestibule/asn1/Ber$Element" "end" "I" (.int q4)) := by
  refine Con.of_body (ls := #[.val (.ref a1), .val (.int q1), .val (.ref t1), .val (.int q3), .val (.int q4)]) pn_com_example_vestibule_vestibule_asn1_Ber_Element (fun m => by first | (simp [entryFrame, mkF, argsToLocals, Value.category]; done) | rfl) Z0 (fun p e s m below meth c T (X : Here p l e ({ frames := 2, cells := 0, slots := 0, locals := 24 } : Room) s m #[(.ref a1), (.int q1), (.ref t1), (.int q3), (.int q4)] below meth c Z "com/example/vestibule/vestibule/asn1/Ber$Element" "<init>" prog_4_method_1_code 5 none n0 T h0 0 0) => ?_)
  refine r_aloadN X (pc' := 1) d_init_Ber_Element_0 rfl rfl ?_
  refine r_init X (pc' := 4) d_init_Ber_Element_1 (con_rec l Z a0 hw a1 h0 n0 Z0) rfl (wd hw 7 rfl) (wd hw 8 rfl) (wd hw 10 rfl) (wd hw 11 rfl) (by decide) (argsL := []) (rest := []) (W := 0) rfl rfl pd_init_Record rfl rfl (by decide) (by decide) (by decide) (by decide) rfl (fun v3 T4 h5 X6 QQ7 => ?_)
  obtain ⟨rfl, rfl⟩ := QQ7
  show Run p e below _ _ (mkF m 4 #[.val (.ref a1), .val (.int q1), .val (.ref t1), .val (.int q3), .val (.int q4)] [])
  have K0 := Keep.refl h0 [a1]
  refine r_aloadN X6 (pc' := 5) d_init_Ber_Element_4 rfl rfl ?_
  refine r_iloadN X6 (pc' := 6) d_init_Ber_Element_5 rfl rfl ?_
  refine r_putfield X6 (pc' := 9) (ty := .int) d_init_Ber_Element_6 (wd hw 15 rfl) F_tag E_a1 (Or.inr ⟨(wd hw 16 rfl), rfl, rfl⟩) (wd hw 2 rfl) (by decide) rfl rfl g_a1 rfl (fun T8 h9 X10 W11 => ?_)
  have f12 := E_a1.wr W11
  have f13 := F_tag.same W11
  have f14 := F_bytes.other W11 (Or.inr (slot_ne (C := "com/example/vestibule/vestibule/asn1/Ber$Element") (Or.inr (wd hw 18 rfl)) (Or.inr (wd hw 16 rfl)) (by decide) (t := (.array .byte)) (t' := .int) (by decide) (by decide)))
  have f15 := F_offset.other W11 (Or.inr (slot_ne (C := "com/example/vestibule/vestibule/asn1/Ber$Element") (Or.inr (wd hw 20 rfl)) (Or.inr (wd hw 16 rfl)) (by decide) (t := .int) (t' := .int) (by decide) (by decide)))
  have f16 := F_end.other W11 (Or.inr (slot_ne (C := "com/example/vestibule/vestibule/asn1/Ber$Element") (Or.inr (wd hw 22 rfl)) (Or.inr (wd hw 16 rfl)) (by decide) (t := .int) (t' := .int) (by decide) (by decide)))
  have K17 := K0.wr W11 (Or.inl (List.mem_of_getElem? (i := 0) rfl))
  refine r_aloadN X10 (pc' := 10) d_init_Ber_Element_9 rfl rfl ?_
  refine r_aloadN X10 (pc' := 11) d_init_Ber_Element_10 rfl rfl ?_
  refine r_putfield X10 (pc' := 14) (ty := (.array .byte)) d_init_Ber_Element_11 (wd hw 17 rfl) f14 f12 (Or.inr ⟨(wd hw 18 rfl), rfl, rfl⟩) (wd hw 2 rfl) (by decide) rfl rfl g_a1 rfl (fun T18 h19 X20 W21 => ?_)
  have f22 := f12.wr W21
  have f23 := f13.other W21 (Or.inr (slot_ne (C := "com/example/vestibule/vestibule/asn1/Ber$Element") (Or.inr (wd hw 16 rfl)) (Or.inr (wd hw 18 rfl)) (by decide) (t := .int) (t' := (.array .byte)) (by decide) (by decide)))
  have f24 := f14.same W21
  have f25 := f15.other W21 (Or.inr (slot_ne (C := "com/example/vestibule/vestibule/asn1/Ber$Element") (Or.inr (wd hw 20 rfl)) (Or.inr (wd hw 18 rfl)) (by decide) (t := .int) (t' := (.array .byte)) (by decide) (by decide)))
  have f26 := f16.other W21 (Or.inr (slot_ne (C := "com/example/vestibule/vestibule/asn1/Ber$Element") (Or.inr (wd hw 22 rfl)) (Or.inr (wd hw 18 rfl)) (by decide) (t := .int) (t' := (.array .byte)) (by decide) (by decide)))
  have K27 := K17.wr W21 (Or.inl (List.mem_of_getElem? (i := 0) rfl))
  refine r_aloadN X20 (pc' := 15) d_init_Ber_Element_14 rfl rfl ?_
  refine r_iloadN X20 (pc' := 16) d_init_Ber_Element_15 rfl rfl ?_
  refine r_putfield X20 (pc' := 19) (ty := .int) d_init_Ber_Element_16 (wd hw 19 rfl) f25 f22 (Or.inr ⟨(wd hw 20 rfl), rfl, rfl⟩) (wd hw 2 rfl) (by decide) rfl rfl g_a1 rfl (fun T28 h29 X30 W31 => ?_)
  have f32 := f22.wr W31
  have f33 := f23.other W31 (Or.inr (slot_ne (C := "com/example/vestibule/vestibule/asn1/Ber$Element") (Or.inr (wd hw 16 rfl)) (Or.inr (wd hw 20 rfl)) (by decide) (t := .int) (t' := .int) (by decide) (by decide)))
  have f34 := f24.other W31 (Or.inr (slot_ne (C := "com/example/vestibule/vestibule/asn1/Ber$Element") (Or.inr (wd hw 18 rfl)) (Or.inr (wd hw 20 rfl)) (by decide) (t := (.array .byte)) (t' := .int) (by decide) (by decide)))
  have f35 := f25.same W31
  have f36 := f26.other W31 (Or.inr (slot_ne (C := "com/example/vestibule/vestibule/asn1/Ber$Element") (Or.inr (wd hw 22 rfl)) (Or.inr (wd hw 20 rfl)) (by decide) (t := .int) (t' := .int) (by decide) (by decide)))
  have K37 := K27.wr W31 (Or.inl (List.mem_of_getElem? (i := 0) rfl))
  refine r_aloadN X30 (pc' := 20) d_init_Ber_Element_19 rfl rfl ?_
  refine r_iload X30 (pc' := 22) d_init_Ber_Element_20 rfl rfl ?_
  refine r_putfield X30 (pc' := 25) (ty := .int) d_init_Ber_Element_22 (wd hw 21 rfl) f36 f32 (Or.inr ⟨(wd hw 22 rfl), rfl, rfl⟩) (wd hw 2 rfl) (by decide) rfl rfl g_a1 rfl (fun T38 h39 X40 W41 => ?_)
  have f42 := f32.wr W41
  have f43 := f33.other W41 (Or.inr (slot_ne (C := "com/example/vestibule/vestibule/asn1/Ber$Element") (Or.inr (wd hw 16 rfl)) (Or.inr (wd hw 22 rfl)) (by decide) (t := .int) (t' := .int) (by decide) (by decide)))
  have f44 := f34.other W41 (Or.inr (slot_ne (C := "com/example/vestibule/vestibule/asn1/Ber$Element") (Or.inr (wd hw 18 rfl)) (Or.inr (wd hw 22 rfl)) (by decide) (t := (.array .byte)) (t' := .int) (by decide) (by decide)))
  have f45 := f35.other W41 (Or.inr (slot_ne (C := "com/example/vestibule/vestibule/asn1/Ber$Element") (Or.inr (wd hw 20 rfl)) (Or.inr (wd hw 22 rfl)) (by decide) (t := .int) (t' := .int) (by decide) (by decide)))
  have f46 := f36.same W41
  have K47 := K37.wr W41 (Or.inl (List.mem_of_getElem? (i := 0) rfl))
  exact r_ret X40 d_init_Ber_Element_25 ⟨rfl, K47, f43, f44, f45, f46⟩ (by decide) (by decide)
set_option maxRecDepth 65536 in
set_option maxHeartbeats 40000000 in
theorem con_n1 (l : Launch) (Z : State) (a0 : Array Value) (hw : ∀ d ∈ tables_1, d.before a0 Z = true) (a1 t1 : Addr) (q1 q2 : Int32) (f : Nat → Int32) (i : Nat) (h0 : Heap) (n0 : Nat) (Z0 : n0 ≤ h0.size) (F1 : Fld Z h0 a1 "com/example/vestibule/vestibule/asn1/Ber$Element" "bytes" "[B" (.ref t1)) (F2 : Fld Z h0 a1 "com/example/vestibule/vestibule/asn1/Ber$Element" "offset" "I" (.int q1)) (F3 : Fld Z h0 a1 "com/example/vestibule/vestibule/asn1/Ber$Element" "end" "I" (.int q2)) (A1 : Arf Z h0 t1 .byte 8 f) (hq1 : q1.toInt = i) (hi : i ≤ 3) (hq2 : q2.toInt = ((i + 1 : Nat) : Int)) : Con l Z (⟨"com/example/vestibule/vestibule/asn1/Ber$Element", "number", "()I"⟩ : MethodName) prog_4_method_3_code 4 (some .int) ({ frames := 0, cells := 0, slots := 0, locals := 0 } : Room) #[(.ref a1)] h0 n0 0 0 (fun v h => v = some (.int (f i)) ∧ h0 = h) := by
  refine Con.of_body (ls := #[.val (.ref a1), .unset, .unset, .unset]) pn_com_example_vestibule_vestibule_asn1_Ber_Element (fun m => by first | (simp [entryFrame, mkF, argsToLocals, Value.category]; done) | rfl) Z0 (fun p e s m below meth c T (X : Here p l e ({ frames := 0, cells := 0, slots := 0, locals := 0 } : Room) s m #[(.ref a1)] below meth c Z "com/example/vestibule/vestibule/asn1/Ber$Element" "number" prog_4_method_3_code 4 (some .int) n0 T h0 0 0) => ?_)
  have sb : q2 - q1 = (1 : Int32) := by apply Int32.toInt_inj.mp; rw [n_sub hq2 hq1 (by omega) (by omega), show (1 : Int32).toInt = 1 from rfl]; omega
  obtain ⟨s1, hs1⟩ : ∃ z, q1 + (1 : Int32) = z := ⟨_, rfl⟩
  have ks1 : s1.toInt = ((i + 1 : Nat) : Int) := by rw [← hs1, n_add hq1 (show (1 : Int32).toInt = 1 from rfl) (by omega) (by omega)]; omega
  refine r_aloadN X (pc' := 1) d_number_0 rfl rfl ?_
  refine r_getfield X (pc' := 4) d_number_1 (wd hw 21 rfl) F3 rfl (fun T48 X49 => ?_)
  refine r_aloadN X49 (pc' := 5) d_number_4 rfl rfl ?_
  refine r_getfield X49 (pc' := 8) d_number_5 (wd hw 19 rfl) F2 rfl (fun T50 X51 => ?_)
  refine r_isub X51 (pc' := 9) (z := (1 : Int32)) d_number_8 sb rfl ?_
  refine r_istoreN X51 (pc' := 10) (ls' := #[.val (.ref a1), .val (.int (1 : Int32)), .unset, .unset]) d_number_9 rfl rfl ?_
  refine r_iloadN X51 (pc' := 11) d_number_10 rfl rfl ?_
  refine r_iconst X51 (pc' := 12) (v := (1 : Int32)) d_number_11 rfl rfl ?_
  refine r_icmpN X51 (pc2 := 15) d_number_12 (by decide) rfl (a := 1) (b := 1) rfl rfl (show ¬ (1 < 1) from (by decide)) ?_
  refine r_iloadN X51 (pc' := 16) d_number_15 rfl rfl ?_
  refine r_iconst X51 (pc' := 17) (v := (4 : Int32)) d_number_16 rfl rfl ?_
  refine r_icmpY X51 (pc' := 34) d_number_17 (by decide) (by decide) (a := 1) (b := 4) rfl rfl (show 1 ≤ 4 from (by decide)) ?_
  refine r_aloadN X51 (pc' := 35) d_number_34 rfl rfl ?_
  refine r_getfield X51 (pc' := 38) d_number_35 (wd hw 17 rfl) F1 rfl (fun T52 X53 => ?_)
  refine r_aloadN X53 (pc' := 39) d_number_38 rfl rfl ?_
  refine r_getfield X53 (pc' := 42) d_number_39 (wd hw 19 rfl) F2 rfl (fun T54 X55 => ?_)
  refine r_baload X55 (pc' := 43) (i := i) (v := (f i)) d_number_42 A1 hq1 (by omega) rfl rfl ?_
  refine r_istoreN X55 (pc' := 44) (ls' := #[.val (.ref a1), .val (.int (1 : Int32)), .val (.int (f i)), .unset]) d_number_43 rfl rfl ?_
  refine r_aloadN X55 (pc' := 45) d_number_44 rfl rfl ?_
  refine r_getfield X55 (pc' := 48) d_number_45 (wd hw 19 rfl) F2 rfl (fun T56 X57 => ?_)
  refine r_iconst X57 (pc' := 49) (v := (1 : Int32)) d_number_48 rfl rfl ?_
  refine r_iadd X57 (pc' := 50) (z := s1) d_number_49 hs1 rfl ?_
  refine r_istoreN X57 (pc' := 51) (ls' := #[.val (.ref a1), .val (.int (1 : Int32)), .val (.int (f i)), .val (.int s1)]) d_number_50 rfl rfl ?_
  refine r_iloadN X57 (pc' := 52) d_number_51 rfl rfl ?_
  refine r_aloadN X57 (pc' := 53) d_number_52 rfl rfl ?_
  refine r_getfield X57 (pc' := 56) d_number_53 (wd hw 21 rfl) F3 rfl (fun T58 X59 => ?_)
  refine r_icmpY X59 (pc' := 81) d_number_56 (by decide) (by decide) (a := s1.toInt) (b := q2.toInt) rfl rfl (show q2.toInt ≤ s1.toInt from (by omega)) ?_
  refine r_iloadN X59 (pc' := 82) d_number_81 rfl rfl ?_
  exact r_retI X59 d_number_82 ⟨rfl, rfl⟩ (by decide) (by decide)
set_option maxRecDepth 65536 in
set_option maxHeartbeats 40000000 in
theorem con_n2 (l : Launch) (Z : State) (a0 : Array Value) (hw : ∀ d ∈ tables_1, d.before a0 Z = true) (a1 t1 : Addr) (q1 q2 : Int32) (f : Nat → Int32) (i : Nat) (h0 : Heap) (n0 : Nat) (Z0 : n0 ≤ h0.size) (F1 : Fld Z h0 a1 "com/example/vestibule/vestibule/asn1/Ber$Element" "bytes" "[B" (.ref t1)) (F2 : Fld Z h0 a1 "com/example/vestibule/vestibule/asn1/Ber$Element" "offset" "I" (.int q1)) (F3 : Fld Z h0 a1 "com/example/vestibule/vestibule/asn1/Ber$Element" "end" "I" (.int q2)) (A1 : Arf Z h0 t1 .byte 8 f) (hq1 : q1.toInt = i) (hi : i ≤ 3) (hq2 : q2.toInt = ((i + 2 : Nat) : Int)) : Con l Z (⟨"com/example/vestibule/vestibule/asn1/Ber$Element", "number", "()I"⟩ : MethodName) prog_4_method_3_code 4 (some .int) ({ frames := 0, cells := 0, slots := 0, locals := 0 } : Room) #[(.ref a1)] h0 n0 0 0 (fun v h => v = some (.int (own_acc (f i) (f (i + 1)))) ∧ h0 = h) := by
  refine Con.of_body (ls := #[.val (.ref a1), .unset, .unset, .unset]) pn_com_example_vestibule_vestibule_asn1_Ber_Element (fun m => by first | (simp [entryFrame, mkF, argsToLocals, Value.category]; done) | rfl) Z0 (fun p e s m below meth c T (X : Here p l e ({ frames := 0, cells := 0, slots := 0, locals := 0 } : Room) s m #[(.ref a1)] below meth c Z "com/example/vestibule/vestibule/asn1/Ber$Element" "number" prog_4_method_3_code 4 (some .int) n0 T h0 0 0) => ?_)
  have sb : q2 - q1 = (2 : Int32) := by apply Int32.toInt_inj.mp; rw [n_sub hq2 hq1 (by omega) (by omega), show (2 : Int32).toInt = 2 from rfl]; omega
  obtain ⟨s1, hs1⟩ : ∃ z, q1 + (1 : Int32) = z := ⟨_, rfl⟩
  have ks1 : s1.toInt = ((i + 1 : Nat) : Int) := by rw [← hs1, n_add hq1 (show (1 : Int32).toInt = 1 from rfl) (by omega) (by omega)]; omega
  obtain ⟨s2, hs2⟩ : ∃ z, s1 + (1 : Int32) = z := ⟨_, rfl⟩
  have ks2 : s2.toInt = ((i + 2 : Nat) : Int) := by rw [← hs2, n_add ks1 (show (1 : Int32).toInt = 1 from rfl) (by omega) (by omega)]; omega
  refine r_aloadN X (pc' := 1) d_number_0 rfl rfl ?_
  refine r_getfield X (pc' := 4) d_number_1 (wd hw 21 rfl) F3 rfl (fun T60 X61 => ?_)
  refine r_aloadN X61 (pc' := 5) d_number_4 rfl rfl ?_
  refine r_getfield X61 (pc' := 8) d_number_5 (wd hw 19 rfl) F2 rfl (fun T62 X63 => ?_)
  refine r_isub X63 (pc' := 9) (z := (2 : Int32)) d_number_8 sb rfl ?_
  refine r_istoreN X63 (pc' := 10) (ls' := #[.val (.ref a1), .val (.int (2 : Int32)), .unset, .unset]) d_number_9 rfl rfl ?_
  refine r_iloadN X63 (pc' := 11) d_number_10 rfl rfl ?_
  refine r_iconst X63 (pc' := 12) (v := (1 : Int32)) d_number_11 rfl rfl ?_
  refine r_icmpN X63 (pc2 := 15) d_number_12 (by decide) rfl (a := 2) (b := 1) rfl rfl (show ¬ (2 < 1) from (by decide)) ?_
  refine r_iloadN X63 (pc' := 16) d_number_15 rfl rfl ?_
  refine r_iconst X63 (pc' := 17) (v := (4 : Int32)) d_number_16 rfl rfl ?_
  refine r_icmpY X63 (pc' := 34) d_number_17 (by decide) (by decide) (a := 2) (b := 4) rfl rfl (show 2 ≤ 4 from (by decide)) ?_
  refine r_aloadN X63 (pc' := 35) d_number_34 rfl rfl ?_
  refine r_getfield X63 (pc' := 38) d_number_35 (wd hw 17 rfl) F1 rfl (fun T64 X65 => ?_)
  refine r_aloadN X65 (pc' := 39) d_number_38 rfl rfl ?_
  refine r_getfield X65 (pc' := 42) d_number_39 (wd hw 19 rfl) F2 rfl (fun T66 X67 => ?_)
  refine r_baload X67 (pc' := 43) (i := i) (v := (f i)) d_number_42 A1 hq1 (by omega) rfl rfl ?_
  refine r_istoreN X67 (pc' := 44) (ls' := #[.val (.ref a1), .val (.int (2 : Int32)), .val (.int (f i)), .unset]) d_number_43 rfl rfl ?_
  refine r_aloadN X67 (pc' := 45) d_number_44 rfl rfl ?_
  refine r_getfield X67 (pc' := 48) d_number_45 (wd hw 19 rfl) F2 rfl (fun T68 X69 => ?_)
  refine r_iconst X69 (pc' := 49) (v := (1 : Int32)) d_number_48 rfl rfl ?_
  refine r_iadd X69 (pc' := 50) (z := s1) d_number_49 hs1 rfl ?_
  refine r_istoreN X69 (pc' := 51) (ls' := #[.val (.ref a1), .val (.int (2 : Int32)), .val (.int (f i)), .val (.int s1)]) d_number_50 rfl rfl ?_
  refine r_iloadN X69 (pc' := 52) d_number_51 rfl rfl ?_
  refine r_aloadN X69 (pc' := 53) d_number_52 rfl rfl ?_
  refine r_getfield X69 (pc' := 56) d_number_53 (wd hw 21 rfl) F3 rfl (fun T70 X71 => ?_)
  refine r_icmpN X71 (pc2 := 59) d_number_56 (by decide) rfl (a := s1.toInt) (b := q2.toInt) rfl rfl (show ¬ (q2.toInt ≤ s1.toInt) from (by omega)) ?_
  refine r_iloadN X71 (pc' := 60) d_number_59 rfl rfl ?_
  refine r_bipush X71 (pc' := 62) (v := (8 : Int32)) d_number_60 rfl rfl ?_
  refine r_ishl X71 (pc' := 63) (z := ((f i) <<< ((8 : Int32) &&& 31))) d_number_62 rfl rfl ?_
  refine r_aloadN X71 (pc' := 64) d_number_63 rfl rfl ?_
  refine r_getfield X71 (pc' := 67) d_number_64 (wd hw 17 rfl) F1 rfl (fun T72 X73 => ?_)
  refine r_iloadN X73 (pc' := 68) d_number_67 rfl rfl ?_
  refine r_baload X73 (pc' := 69) (i := (i + 1)) (v := (f (i + 1))) d_number_68 A1 ks1 (by omega) rfl rfl ?_
  refine r_sipush X73 (pc' := 72) (v := (255 : Int32)) d_number_69 rfl rfl ?_
  refine r_iand X73 (pc' := 73) (z := ((f (i + 1)) &&& (255 : Int32))) d_number_72 rfl rfl ?_
  refine r_ior X73 (pc' := 74) (z := (own_acc (f i) (f (i + 1)))) d_number_73 rfl rfl ?_
  refine r_istoreN X73 (pc' := 75) (ls' := #[.val (.ref a1), .val (.int (2 : Int32)), .val (.int (own_acc (f i) (f (i + 1)))), .val (.int s1)]) d_number_74 rfl rfl ?_
  refine r_iinc X73 (pc' := 78) (z := s2) (ls' := #[.val (.ref a1), .val (.int (2 : Int32)), .val (.int (own_acc (f i) (f (i + 1)))), .val (.int s2)]) d_number_75 rfl hs2 rfl rfl ?_
  refine r_goto X73 (pc' := 51) d_number_78 (by decide) (by decide) ?_
  refine r_iloadN X73 (pc' := 52) d_number_51 rfl rfl ?_
  refine r_aloadN X73 (pc' := 53) d_number_52 rfl rfl ?_
  refine r_getfield X73 (pc' := 56) d_number_53 (wd hw 21 rfl) F3 rfl (fun T74 X75 => ?_)
  refine r_icmpY X75 (pc' := 81) d_number_56 (by decide) (by decide) (a := s2.toInt) (b := q2.toInt) rfl rfl (show q2.toInt ≤ s2.toInt from (by omega)) ?_
  refine r_iloadN X75 (pc' := 82) d_number_81 rfl rfl ?_
  exact r_retI X75 d_number_82 ⟨rfl, rfl⟩ (by decide) (by decide)
set_option maxRecDepth 65536 in
set_option maxHeartbeats 40000000 in
theorem con_n3 (l : Launch) (Z : State) (a0 : Array Value) (hw : ∀ d ∈ tables_1, d.before a0 Z = true) (a1 t1 : Addr) (q1 q2 : Int32) (f : Nat → Int32) (i : Nat) (h0 : Heap) (n0 : Nat) (Z0 : n0 ≤ h0.size) (F1 : Fld Z h0 a1 "com/example/vestibule/vestibule/asn1/Ber$Element" "bytes" "[B" (.ref t1)) (F2 : Fld Z h0 a1 "com/example/vestibule/vestibule/asn1/Ber$Element" "offset" "I" (.int q1)) (F3 : Fld Z h0 a1 "com/example/vestibule/vestibule/asn1/Ber$Element" "end" "I" (.int q2)) (A1 : Arf Z h0 t1 .byte 8 f) (hq1 : q1.toInt = i) (hi : i ≤ 3) (hq2 : q2.toInt = ((i + 3 : Nat) : Int)) : Con l Z (⟨"com/example/vestibule/vestibule/asn1/Ber$Element", "number", "()I"⟩ : MethodName) prog_4_method_3_code 4 (some .int) ({ frames := 0, cells := 0, slots := 0, locals := 0 } : Room) #[(.ref a1)] h0 n0 0 0 (fun v h => v = some (.int (own_acc (own_acc (f i) (f (i + 1))) (f (i + 2)))) ∧ h0 = h) := by
  refine Con.of_body (ls := #[.val (.ref a1), .unset, .unset, .unset]) pn_com_example_vestibule_vestibule_asn1_Ber_Element (fun m => by first | (simp [entryFrame, mkF, argsToLocals, Value.category]; done) | rfl) Z0 (fun p e s m below meth c T (X : Here p l e ({ frames := 0, cells := 0, slots := 0, locals := 0 } : Room) s m #[(.ref a1)] below meth c Z "com/example/vestibule/vestibule/asn1/Ber$Element" "number" prog_4_method_3_code 4 (some .int) n0 T h0 0 0) => ?_)
  have sb : q2 - q1 = (3 : Int32) := by apply Int32.toInt_inj.mp; rw [n_sub hq2 hq1 (by omega) (by omega), show (3 : Int32).toInt = 3 from rfl]; omega
  obtain ⟨s1, hs1⟩ : ∃ z, q1 + (1 : Int32) = z := ⟨_, rfl⟩
  have ks1 : s1.toInt = ((i + 1 : Nat) : Int) := by rw [← hs1, n_add hq1 (show (1 : Int32).toInt = 1 from rfl) (by omega) (by omega)]; omega
  obtain ⟨s2, hs2⟩ : ∃ z, s1 + (1 : Int32) = z := ⟨_, rfl⟩
  have ks2 : s2.toInt = ((i + 2 : Nat) : Int) := by rw [← hs2, n_add ks1 (show (1 : Int32).toInt = 1 from rfl) (by omega) (by omega)]; omega
  obtain ⟨s3, hs3⟩ : ∃ z, s2 + (1 : Int32) = z := ⟨_, rfl⟩
  have ks3 : s3.toInt = ((i + 3 : Nat) : Int) := by rw [← hs3, n_add ks2 (show (1 : Int32).toInt = 1 from rfl) (by omega) (by omega)]; omega
  refine r_aloadN X (pc' := 1) d_number_0 rfl rfl ?_
  refine r_getfield X (pc' := 4) d_number_1 (wd hw 21 rfl) F3 rfl (fun T76 X77 => ?_)
  refine r_aloadN X77 (pc' := 5) d_number_4 rfl rfl ?_
  refine r_getfield X77 (pc' := 8) d_number_5 (wd hw 19 rfl) F2 rfl (fun T78 X79 => ?_)
  refine r_isub X79 (pc' := 9) (z := (3 : Int32)) d_number_8 sb rfl ?_
  refine r_istoreN X79 (pc' := 10) (ls' := #[.val (.ref a1), .val (.int (3 : Int32)), .unset, .unset]) d_number_9 rfl rfl ?_
  refine r_iloadN X79 (pc' := 11) d_number_10 rfl rfl ?_
  refine r_iconst X79 (pc' := 12) (v := (1 : Int32)) d_number_11 rfl rfl ?_
  refine r_icmpN X79 (pc2 := 15) d_number_12 (by decide) rfl (a := 3) (b := 1) rfl rfl (show ¬ (3 < 1) from (by decide)) ?_
  refine r_iloadN X79 (pc' := 16) d_number_15 rfl rfl ?_
  refine r_iconst X79 (pc' := 17) (v := (4 : Int32)) d_number_16 rfl rfl ?_
  refine r_icmpY X79 (pc' := 34) d_number_17 (by decide) (by decide) (a := 3) (b := 4) rfl rfl (show 3 ≤ 4 from (by decide)) ?_
  refine r_aloadN X79 (pc' := 35) d_number_34 rfl rfl ?_
  refine r_getfield X79 (pc' := 38) d_number_35 (wd hw 17 rfl) F1 rfl (fun T80 X81 => ?_)
  refine r_aloadN X81 (pc' := 39) d_number_38 rfl rfl ?_
  refine r_getfield X81 (pc' := 42) d_number_39 (wd hw 19 rfl) F2 rfl (fun T82 X83 => ?_)
  refine r_baload X83 (pc' := 43) (i := i) (v := (f i)) d_number_42 A1 hq1 (by omega) rfl rfl ?_
  refine r_istoreN X83 (pc' := 44) (ls' := #[.val (.ref a1), .val (.int (3 : Int32)), .val (.int (f i)), .unset]) d_number_43 rfl rfl ?_
  refine r_aloadN X83 (pc' := 45) d_number_44 rfl rfl ?_
  refine r_getfield X83 (pc' := 48) d_number_45 (wd hw 19 rfl) F2 rfl (fun T84 X85 => ?_)
  refine r_iconst X85 (pc' := 49) (v := (1 : Int32)) d_number_48 rfl rfl ?_
  refine r_iadd X85 (pc' := 50) (z := s1) d_number_49 hs1 rfl ?_
  refine r_istoreN X85 (pc' := 51) (ls' := #[.val (.ref a1), .val (.int (3 : Int32)), .val (.int (f i)), .val (.int s1)]) d_number_50 rfl rfl ?_
  refine r_iloadN X85 (pc' := 52) d_number_51 rfl rfl ?_
  refine r_aloadN X85 (pc' := 53) d_number_52 rfl rfl ?_
  refine r_getfield X85 (pc' := 56) d_number_53 (wd hw 21 rfl) F3 rfl (fun T86 X87 => ?_)
  refine r_icmpN X87 (pc2 := 59) d_number_56 (by decide) rfl (a := s1.toInt) (b := q2.toInt) rfl rfl (show ¬ (q2.toInt ≤ s1.toInt) from (by omega)) ?_
  refine r_iloadN X87 (pc' := 60) d_number_59 rfl rfl ?_
  refine r_bipush X87 (pc' := 62) (v := (8 : Int32)) d_number_60 rfl rfl ?_
  refine r_ishl X87 (pc' := 63) (z := ((f i) <<< ((8 : Int32) &&& 31))) d_number_62 rfl rfl ?_
  refine r_aloadN X87 (pc' := 64) d_number_63 rfl rfl ?_
  refine r_getfield X87 (pc' := 67) d_number_64 (wd hw 17 rfl) F1 rfl (fun T88 X89 => ?_)
  refine r_iloadN X89 (pc' := 68) d_number_67 rfl rfl ?_
  refine r_baload X89 (pc' := 69) (i := (i + 1)) (v := (f (i + 1))) d_number_68 A1 ks1 (by omega) rfl rfl ?_
  refine r_sipush X89 (pc' := 72) (v := (255 : Int32)) d_number_69 rfl rfl ?_
  refine r_iand X89 (pc' := 73) (z := ((f (i + 1)) &&& (255 : Int32))) d_number_72 rfl rfl ?_
  refine r_ior X89 (pc' := 74) (z := (own_acc (f i) (f (i + 1)))) d_number_73 rfl rfl ?_
  refine r_istoreN X89 (pc' := 75) (ls' := #[.val (.ref a1), .val (.int (3 : Int32)), .val (.int (own_acc (f i) (f (i + 1)))), .val (.int s1)]) d_number_74 rfl rfl ?_
  refine r_iinc X89 (pc' := 78) (z := s2) (ls' := #[.val (.ref a1), .val (.int (3 : Int32)), .val (.int (own_acc (f i) (f (i + 1)))), .val (.int s2)]) d_number_75 rfl hs2 rfl rfl ?_
  refine r_goto X89 (pc' := 51) d_number_78 (by decide) (by decide) ?_
  refine r_iloadN X89 (pc' := 52) d_number_51 rfl rfl ?_
  refine r_aloadN X89 (pc' := 53) d_number_52 rfl rfl ?_
  refine r_getfield X89 (pc' := 56) d_number_53 (wd hw 21 rfl) F3 rfl (fun T90 X91 => ?_)
  refine r_icmpN X91 (pc2 := 59) d_number_56 (by decide) rfl (a := s2.toInt) (b := q2.toInt) rfl rfl (show ¬ (q2.toInt ≤ s2.toInt) from (by omega)) ?_
  refine r_iloadN X91 (pc' := 60) d_number_59 rfl rfl ?_
  refine r_bipush X91 (pc' := 62) (v := (8 : Int32)) d_number_60 rfl rfl ?_
  refine r_ishl X91 (pc' := 63) (z := ((own_acc (f i) (f (i + 1))) <<< ((8 : Int32) &&& 31))) d_number_62 rfl rfl ?_
  refine r_aloadN X91 (pc' := 64) d_number_63 rfl rfl ?_
  refine r_getfield X91 (pc' := 67) d_number_64 (wd hw 17 rfl) F1 rfl (fun T92 X93 => ?_)
  refine r_iloadN X93 (pc' := 68) d_number_67 rfl rfl ?_
  refine r_baload X93 (pc' := 69) (i := (i + 2)) (v := (f (i + 2))) d_number_68 A1 ks2 (by omega) rfl rfl ?_
  refine r_sipush X93 (pc' := 72) (v := (255 : Int32)) d_number_69 rfl rfl ?_
  refine r_iand X93 (pc' := 73) (z := ((f (i + 2)) &&& (255 : Int32))) d_number_72 rfl rfl ?_
  refine r_ior X93 (pc' := 74) (z := (own_acc (own_acc (f i) (f (i + 1))) (f (i + 2)))) d_number_73 rfl rfl ?_
  refine r_istoreN X93 (pc' := 75) (ls' := #[.val (.ref a1), .val (.int (3 : Int32)), .val (.int (own_acc (own_acc (f i) (f (i + 1))) (f (i + 2)))), .val (.int s2)]) d_number_74 rfl rfl ?_
  refine r_iinc X93 (pc' := 78) (z := s3) (ls' := #[.val (.ref a1), .val (.int (3 : Int32)), .val (.int (own_acc (own_acc (f i) (f (i + 1))) (f (i + 2)))), .val (.int s3)]) d_number_75 rfl hs3 rfl rfl ?_
  refine r_goto X93 (pc' := 51) d_number_78 (by decide) (by decide) ?_
  refine r_iloadN X93 (pc' := 52) d_number_51 rfl rfl ?_
  refine r_aloadN X93 (pc' := 53) d_number_52 rfl rfl ?_
  refine r_getfield X93 (pc' := 56) d_number_53 (wd hw 21 rfl) F3 rfl (fun T94 X95 => ?_)
  refine r_icmpY X95 (pc' := 81) d_number_56 (by decide) (by decide) (a := s3.toInt) (b := q2.toInt) rfl rfl (show q2.toInt ≤ s3.toInt from (by omega)) ?_
  refine r_iloadN X95 (pc' := 82) d_number_81 rfl rfl ?_
  exact r_retI X95 d_number_82 ⟨rfl, rfl⟩ (by decide) (by decide)
set_option maxRecDepth 65536 in
set_option maxHeartbeats 40000000 in
theorem con_n4 (l : Launch) (Z : State) (a0 : Array Value) (hw : ∀ d ∈ tables_1, d.before a0 Z = true) (a1 t1 : Addr) (q1 q2 : Int32) (f : Nat → Int32) (i : Nat) (h0 : Heap) (n0 : Nat) (Z0 : n0 ≤ h0.size) (F1 : Fld Z h0 a1 "com/example/vestibule/vestibule/asn1/Ber$Element" "bytes" "[B" (.ref t1)) (F2 : Fld Z h0 a1 "com/example/vestibule/vestibule/asn1/Ber$Element" "offset" "I" (.int q1)) (F3 : Fld Z h0 a1 "com/example/vestibule/vestibule/asn1/Ber$Element" "end" "I" (.int q2)) (A1 : Arf Z h0 t1 .byte 8 f) (hq1 : q1.toInt = i) (hi : i ≤ 3) (hq2 : q2.toInt = ((i + 4 : Nat) : Int)) : Con l Z (⟨"com/example/vestibule/vestibule/asn1/Ber$Element", "number", "()I"⟩ : MethodName) prog_4_method_3_code 4 (some .int) ({ frames := 0, cells := 0, slots := 0, locals := 0 } : Room) #[(.ref a1)] h0 n0 0 0 (fun v h => v = some (.int (own_acc (own_acc (own_acc (f i) (f (i + 1))) (f (i + 2))) (f (i + 3)))) ∧ h0 = h) := by
  refine Con.of_body (ls := #[.val (.ref a1), .unset, .unset, .unset]) pn_com_example_vestibule_vestibule_asn1_Ber_Element (fun m => by first | (simp [entryFrame, mkF, argsToLocals, Value.category]; done) | rfl) Z0 (fun p e s m below meth c T (X : Here p l e ({ frames := 0, cells := 0, slots := 0, locals := 0 } : Room) s m #[(.ref a1)] below meth c Z "com/example/vestibule/vestibule/asn1/Ber$Element" "number" prog_4_method_3_code 4 (some .int) n0 T h0 0 0) => ?_)
  have sb : q2 - q1 = (4 : Int32) := by apply Int32.toInt_inj.mp; rw [n_sub hq2 hq1 (by omega) (by omega), show (4 : Int32).toInt = 4 from rfl]; omega
  obtain ⟨s1, hs1⟩ : ∃ z, q1 + (1 : Int32) = z := ⟨_, rfl⟩
  have ks1 : s1.toInt = ((i + 1 : Nat) : Int) := by rw [← hs1, n_add hq1 (show (1 : Int32).toInt = 1 from rfl) (by omega) (by omega)]; omega
  obtain ⟨s2, hs2⟩ : ∃ z, s1 + (1 : Int32) = z := ⟨_, rfl⟩
  have ks2 : s2.toInt = ((i + 2 : Nat) : Int) := by rw [← hs2, n_add ks1 (show (1 : Int32).toInt = 1 from rfl) (by omega) (by omega)]; omega
  obtain ⟨s3, hs3⟩ : ∃ z, s2 + (1 : Int32) = z := ⟨_, rfl⟩
  have ks3 : s3.toInt = ((i + 3 : Nat) : Int) := by rw [← hs3, n_add ks2 (show (1 : Int32).toInt = 1 from rfl) (by omega) (by omega)]; omega
  obtain ⟨s4, hs4⟩ : ∃ z, s3 + (1 : Int32) = z := ⟨_, rfl⟩
  have ks4 : s4.toInt = ((i + 4 : Nat) : Int) := by rw [← hs4, n_add ks3 (show (1 : Int32).toInt = 1 from rfl) (by omega) (by omega)]; omega
  refine r_aloadN X (pc' := 1) d_number_0 rfl rfl ?_
  refine r_getfield X (pc' := 4) d_number_1 (wd hw 21 rfl) F3 rfl (fun T96 X97 => ?_)
  refine r_aloadN X97 (pc' := 5) d_number_4 rfl rfl ?_
  refine r_getfield X97 (pc' := 8) d_number_5 (wd hw 19 rfl) F2 rfl (fun T98 X99 => ?_)
  refine r_isub X99 (pc' := 9) (z := (4 : Int32)) d_number_8 sb rfl ?_
  refine r_istoreN X99 (pc' := 10) (ls' := #[.val (.ref a1), .val (.int (4 : Int32)), .unset, .unset]) d_number_9 rfl rfl ?_
  refine r_iloadN X99 (pc' := 11) d_number_10 rfl rfl ?_
  refine r_iconst X99 (pc' := 12) (v := (1 : Int32)) d_number_11 rfl rfl ?_
  refine r_icmpN X99 (pc2 := 15) d_number_12 (by decide) rfl (a := 4) (b := 1) rfl rfl (show ¬ (4 < 1) from (by decide)) ?_
  refine r_iloadN X99 (pc' := 16) d_number_15 rfl rfl ?_
  refine r_iconst X99 (pc' := 17) (v := (4 : Int32)) d_number_16 rfl rfl ?_
  refine r_icmpY X99 (pc' := 34) d_number_17 (by decide) (by decide) (a := 4) (b := 4) rfl rfl (show 4 ≤ 4 from (by decide)) ?_
  refine r_aloadN X99 (pc' := 35) d_number_34 rfl rfl ?_
  refine r_getfield X99 (pc' := 38) d_number_35 (wd hw 17 rfl) F1 rfl (fun T100 X101 => ?_)
  refine r_aloadN X101 (pc' := 39) d_number_38 rfl rfl ?_
  refine r_getfield X101 (pc' := 42) d_number_39 (wd hw 19 rfl) F2 rfl (fun T102 X103 => ?_)
  refine r_baload X103 (pc' := 43) (i := i) (v := (f i)) d_number_42 A1 hq1 (by omega) rfl rfl ?_
  refine r_istoreN X103 (pc' := 44) (ls' := #[.val (.ref a1), .val (.int (4 : Int32)), .val (.int (f i)), .unset]) d_number_43 rfl rfl ?_
  refine r_aloadN X103 (pc' := 45) d_number_44 rfl rfl ?_
  refine r_getfield X103 (pc' := 48) d_number_45 (wd hw 19 rfl) F2 rfl (fun T104 X105 => ?_)
  refine r_iconst X105 (pc' := 49) (v := (1 : Int32)) d_number_48 rfl rfl ?_
  refine r_iadd X105 (pc' := 50) (z := s1) d_number_49 hs1 rfl ?_
  refine r_istoreN X105 (pc' := 51) (ls' := #[.val (.ref a1), .val (.int (4 : Int32)), .val (.int (f i)), .val (.int s1)]) d_number_50 rfl rfl ?_
  refine r_iloadN X105 (pc' := 52) d_number_51 rfl rfl ?_
  refine r_aloadN X105 (pc' := 53) d_number_52 rfl rfl ?_
  refine r_getfield X105 (pc' := 56) d_number_53 (wd hw 21 rfl) F3 rfl (fun T106 X107 => ?_)
  refine r_icmpN X107 (pc2 := 59) d_number_56 (by decide) rfl (a := s1.toInt) (b := q2.toInt) rfl rfl (show ¬ (q2.toInt ≤ s1.toInt) from (by omega)) ?_
  refine r_iloadN X107 (pc' := 60) d_number_59 rfl rfl ?_
  refine r_bipush X107 (pc' := 62) (v := (8 : Int32)) d_number_60 rfl rfl ?_
  refine r_ishl X107 (pc' := 63) (z := ((f i) <<< ((8 : Int32) &&& 31))) d_number_62 rfl rfl ?_
  refine r_aloadN X107 (pc' := 64) d_number_63 rfl rfl ?_
  refine r_getfield X107 (pc' := 67) d_number_64 (wd hw 17 rfl) F1 rfl (fun T108 X109 => ?_)
  refine r_iloadN X109 (pc' := 68) d_number_67 rfl rfl ?_
  refine r_baload X109 (pc' := 69) (i := (i + 1)) (v := (f (i + 1))) d_number_68 A1 ks1 (by omega) rfl rfl ?_
  refine r_sipush X109 (pc' := 72) (v := (255 : Int32)) d_number_69 rfl rfl ?_
  refine r_iand X109 (pc' := 73) (z := ((f (i + 1)) &&& (255 : Int32))) d_number_72 rfl rfl ?_
  refine r_ior X109 (pc' := 74) (z := (own_acc (f i) (f (i + 1)))) d_number_73 rfl rfl ?_
  refine r_istoreN X109 (pc' := 75) (ls' := #[.val (.ref a1), .val (.int (4 : Int32)), .val (.int (own_acc (f i) (f (i + 1)))), .val (.int s1)]) d_number_74 rfl rfl ?_
  refine r_iinc X109 (pc' := 78) (z := s2) (ls' := #[.val (.ref a1), .val (.int (4 : Int32)), .val (.int (own_acc (f i) (f (i + 1)))), .val (.int s2)]) d_number_75 rfl hs2 rfl rfl ?_
  refine r_goto X109 (pc' := 51) d_number_78 (by decide) (by decide) ?_
  refine r_iloadN X109 (pc' := 52) d_number_51 rfl rfl ?_
  refine r_aloadN X109 (pc' := 53) d_number_52 rfl rfl ?_
  refine r_getfield X109 (pc' := 56) d_number_53 (wd hw 21 rfl) F3 rfl (fun T110 X111 => ?_)
  refine r_icmpN X111 (pc2 := 59) d_number_56 (by decide) rfl (a := s2.toInt) (b := q2.toInt) rfl rfl (show ¬ (q2.toInt ≤ s2.toInt) from (by omega)) ?_
  refine r_iloadN X111 (pc' := 60) d_number_59 rfl rfl ?_
  refine r_bipush X111 (pc' := 62) (v := (8 : Int32)) d_number_60 rfl rfl ?_
  refine r_ishl X111 (pc' := 63) (z := ((own_acc (f i) (f (i + 1))) <<< ((8 : Int32) &&& 31))) d_number_62 rfl rfl ?_
  refine r_aloadN X111 (pc' := 64) d_number_63 rfl rfl ?_
  refine r_getfield X111 (pc' := 67) d_number_64 (wd hw 17 rfl) F1 rfl (fun T112 X113 => ?_)
  refine r_iloadN X113 (pc' := 68) d_number_67 rfl rfl ?_
  refine r_baload X113 (pc' := 69) (i := (i + 2)) (v := (f (i + 2))) d_number_68 A1 ks2 (by omega) rfl rfl ?_
  refine r_sipush X113 (pc' := 72) (v := (255 : Int32)) d_number_69 rfl rfl ?_
  refine r_iand X113 (pc' := 73) (z := ((f (i + 2)) &&& (255 : Int32))) d_number_72 rfl rfl ?_
  refine r_ior X113 (pc' := 74) (z := (own_acc (own_acc (f i) (f (i + 1))) (f (i + 2)))) d_number_73 rfl rfl ?_
  refine r_istoreN X113 (pc' := 75) (ls' := #[.val (.ref a1), .val (.int (4 : Int32)), .val (.int (own_acc (own_acc (f i) (f (i + 1))) (f (i + 2)))), .val (.int s2)]) d_number_74 rfl rfl ?_
  refine r_iinc X113 (pc' := 78) (z := s3) (ls' := #[.val (.ref a1), .val (.int (4 : Int32)), .val (.int (own_acc (own_acc (f i) (f (i + 1))) (f (i + 2)))), .val (.int s3)]) d_number_75 rfl hs3 rfl rfl ?_
  refine r_goto X113 (pc' := 51) d_number_78 (by decide) (by decide) ?_
  refine r_iloadN X113 (pc' := 52) d_number_51 rfl rfl ?_
  refine r_aloadN X113 (pc' := 53) d_number_52 rfl rfl ?_
  refine r_getfield X113 (pc' := 56) d_number_53 (wd hw 21 rfl) F3 rfl (fun T114 X115 => ?_)
  refine r_icmpN X115 (pc2 := 59) d_number_56 (by decide) rfl (a := s3.toInt) (b := q2.toInt) rfl rfl (show ¬ (q2.toInt ≤ s3.toInt) from (by omega)) ?_
  refine r_iloadN X115 (pc' := 60) d_number_59 rfl rfl ?_
  refine r_bipush X115 (pc' := 62) (v := (8 : Int32)) d_number_60 rfl rfl ?_
  refine r_ishl X115 (pc' := 63) (z := ((own_acc (own_acc (f i) (f (i + 1))) (f (i + 2))) <<< ((8 : Int32) &&& 31))) d_number_62 rfl rfl ?_
  refine r_aloadN X115 (pc' := 64) d_number_63 rfl rfl ?_
  refine r_getfield X115 (pc' := 67) d_number_64 (wd hw 17 rfl) F1 rfl (fun T116 X117 => ?_)
  refine r_iloadN X117 (pc' := 68) d_number_67 rfl rfl ?_
  refine r_baload X117 (pc' := 69) (i := (i + 3)) (v := (f (i + 3))) d_number_68 A1 ks3 (by omega) rfl rfl ?_
  refine r_sipush X117 (pc' := 72) (v := (255 : Int32)) d_number_69 rfl rfl ?_
  refine r_iand X117 (pc' := 73) (z := ((f (i + 3)) &&& (255 : Int32))) d_number_72 rfl rfl ?_
  refine r_ior X117 (pc' := 74) (z := (own_acc (own_acc (own_acc (f i) (f (i + 1))) (f (i + 2))) (f (i + 3)))) d_number_73 rfl rfl ?_
  refine r_istoreN X117 (pc' := 75) (ls' := #[.val (.ref a1), .val (.int (4 : Int32)), .val (.int (own_acc (own_acc (own_acc (f i) (f (i + 1))) (f (i + 2))) (f (i + 3)))), .val (.int s3)]) d_number_74 rfl rfl ?_
  refine r_iinc X117 (pc' := 78) (z := s4) (ls' := #[.val (.ref a1), .val (.int (4 : Int32)), .val (.int (own_acc (own_acc (own_acc (f i) (f (i + 1))) (f (i + 2))) (f (i + 3)))), .val (.int s4)]) d_number_75 rfl hs4 rfl rfl ?_
  refine r_goto X117 (pc' := 51) d_number_78 (by decide) (by decide) ?_
  refine r_iloadN X117 (pc' := 52) d_number_51 rfl rfl ?_
  refine r_aloadN X117 (pc' := 53) d_number_52 rfl rfl ?_
  refine r_getfield X117 (pc' := 56) d_number_53 (wd hw 21 rfl) F3 rfl (fun T118 X119 => ?_)
  refine r_icmpY X119 (pc' := 81) d_number_56 (by decide) (by decide) (a := s4.toInt) (b := q2.toInt) rfl rfl (show q2.toInt ≤ s4.toInt from (by omega)) ?_
  refine r_iloadN X119 (pc' := 82) d_number_81 rfl rfl ?_
  exact r_retI X119 d_number_82 ⟨rfl, rfl⟩ (by decide) (by decide)
set_option maxRecDepth 65536 in
set_option maxHeartbeats 40000000 in
theorem con_law1 (l : Launch) (Z : State) (a0 : Array Value) (hw : ∀ d ∈ tables_1, d.before a0 Z = true) (p1 p2 p3 p4 p5 p6 : Int32) (hL : (p2 &&& (3 : Int32)).toInt = 0) (h0 : Heap) (n0 : Nat) (Z0 : n0 ≤ h0.size)  : Con l Z x code maxLocals ret room_1 #[(.int p1), (.int p2), (.int p3), (.int p4), (.int p5), (.int p6)] h0 n0 16 128 (fun v _ => v = some (.int 1)) := by
  refine Con.of_body (ls := #[.val (.int p1), .val (.int p2), .val (.int p3), .val (.int p4), .val (.int p5), .val (.int p6), .unset, .unset, .unset, .unset, .unset]) pn_com_example_vestibule_vestibule_asn1_ElementNumberPinLaw (fun m => by first | (simp [entryFrame, mkF, argsToLocals, Value.category, maxLocals]; done) | rfl) Z0 (fun p e s m below meth c T (X : Here p l e room_1 s m #[(.int p1), (.int p2), (.int p3), (.int p4), (.int p5), (.int p6)] below meth c Z "com/example/vestibule/vestibule/asn1/ElementNumberPinLaw" "law" code 11 (some .boolean) n0 T h0 0 0) => ?_)
  have hl : (p2 &&& (3 : Int32)) = (0 : Int32) := by apply Int32.toInt_inj.mp; rw [hL]; rfl
  obtain ⟨oo, hoo⟩ : ∃ z, p3 &&& (3 : Int32) = z := ⟨_, rfl⟩
  have ko : oo.toInt = p3.toInt % 4 := by rw [← hoo]; exact own_and3 _
  obtain ⟨i, hi⟩ : ∃ n : Nat, oo.toInt = n := ⟨oo.toInt.toNat, by omega⟩
  have hi3 : i ≤ 3 := by omega
  obtain ⟨s1, hs1⟩ : ∃ z, oo + (1 : Int32) = z := ⟨_, rfl⟩
  have ks1 : s1.toInt = ((i + 1 : Nat) : Int) := by rw [← hs1, n_add hi (show (1 : Int32).toInt = 1 from rfl) (by omega) (by omega)]; omega
  obtain ⟨s2, hs2⟩ : ∃ z, oo + (2 : Int32) = z := ⟨_, rfl⟩
  have ks2 : s2.toInt = ((i + 2 : Nat) : Int) := by rw [← hs2, n_add hi (show (2 : Int32).toInt = 2 from rfl) (by omega) (by omega)]; omega
  obtain ⟨s3, hs3⟩ : ∃ z, oo + (3 : Int32) = z := ⟨_, rfl⟩
  have ks3 : s3.toInt = ((i + 3 : Nat) : Int) := by rw [← hs3, n_add hi (show (3 : Int32).toInt = 3 from rfl) (by omega) (by omega)]; omega
  obtain ⟨ee, hee⟩ : ∃ z, oo + (1 : Int32) = z := ⟨_, rfl⟩
  have kee : ee.toInt = ((i + 1 : Nat) : Int) := by rw [← hee, n_add hi (show (1 : Int32).toInt = 1 from rfl) (by omega) (by omega)]; omega
  refine r_iloadN X (pc' := 1) at_0 rfl rfl ?_
  refine r_iconst X (pc' := 2) (v := (3 : Int32)) at_1 rfl rfl ?_
  refine r_iand X (pc' := 3) (z := (0 : Int32)) at_2 hl rfl ?_
  refine r_iconst X (pc' := 4) (v := (1 : Int32)) at_3 rfl rfl ?_
  refine r_iadd X (pc' := 5) (z := (1 : Int32)) at_4 rfl rfl ?_
  refine r_istore X (pc' := 7) (ls' := #[.val (.int p1), .val (.int p2), .val (.int p3), .val (.int p4), .val (.int p5), .val (.int p6), .val (.int (1 : Int32)), .unset, .unset, .unset, .unset]) at_5 rfl rfl ?_
  refine r_iloadN X (pc' := 8) at_7 rfl rfl ?_
  refine r_iconst X (pc' := 9) (v := (3 : Int32)) at_8 rfl rfl ?_
  refine r_iand X (pc' := 10) (z := oo) at_9 hoo rfl ?_
  refine r_istore X (pc' := 12) (ls' := #[.val (.int p1), .val (.int p2), .val (.int p3), .val (.int p4), .val (.int p5), .val (.int p6), .val (.int (1 : Int32)), .val (.int oo), .unset, .unset, .unset]) at_10 rfl rfl ?_
  refine r_bipush X (pc' := 14) (v := (8 : Int32)) at_12 rfl rfl ?_
  refine r_newarray X (pc' := 16) (N := 8) at_14 (wd hw 0 rfl) rfl rfl (by decide) (by decide) (by decide) rfl (fun T120 h121 b122 X123 ebb122 geb122 E124 A125 => ?_)
  refine r_astore X123 (pc' := 18) (ls' := #[.val (.int p1), .val (.int p2), .val (.int p3), .val (.int p4), .val (.int p5), .val (.int p6), .val (.int (1 : Int32)), .val (.int oo), .val (.ref b122), .unset, .unset]) at_16 rfl rfl ?_
  refine r_aload X123 (pc' := 20) at_18 rfl rfl ?_
  refine r_iconst X123 (pc' := 21) (v := (0 : Int32)) at_20 rfl rfl ?_
  refine r_iloadN X123 (pc' := 22) at_21 rfl rfl ?_
  refine r_i2b X123 (pc' := 23) (z := (own_b p4)) at_22 rfl rfl ?_
  refine r_bastore X123 (pc' := 24) (i := 0) (v := (own_b p4)) at_23 A125 rfl (by decide) geb122 (own_nb _) rfl (fun T126 h127 X128 W129 A130 => ?_)
  refine r_aload X128 (pc' := 26) at_24 rfl rfl ?_
  refine r_iconst X128 (pc' := 27) (v := (1 : Int32)) at_26 rfl rfl ?_
  refine r_iloadN X128 (pc' := 28) at_27 rfl rfl ?_
  refine r_bipush X128 (pc' := 30) (v := (8 : Int32)) at_28 rfl rfl ?_
  refine r_iushr X128 (pc' := 31) (z := (XT.ushr p4 (8 : Int32))) at_30 rfl rfl ?_
  refine r_i2b X128 (pc' := 32) (z := (own_b (XT.ushr p4 (8 : Int32)))) at_31 rfl rfl ?_
  refine r_bastore X128 (pc' := 33) (i := 1) (v := (own_b (XT.ushr p4 (8 : Int32)))) at_32 A130 rfl (by decide) geb122 (own_nb _) rfl (fun T131 h132 X133 W134 A135 => ?_)
  refine r_aload X133 (pc' := 35) at_33 rfl rfl ?_
  refine r_iconst X133 (pc' := 36) (v := (2 : Int32)) at_35 rfl rfl ?_
  refine r_iloadN X133 (pc' := 37) at_36 rfl rfl ?_
  refine r_bipush X133 (pc' := 39) (v := (16 : Int32)) at_37 rfl rfl ?_
  refine r_iushr X133 (pc' := 40) (z := (XT.ushr p4 (16 : Int32))) at_39 rfl rfl ?_
  refine r_i2b X133 (pc' := 41) (z := (own_b (XT.ushr p4 (16 : Int32)))) at_40 rfl rfl ?_
  refine r_bastore X133 (pc' := 42) (i := 2) (v := (own_b (XT.ushr p4 (16 : Int32)))) at_41 A135 rfl (by decide) geb122 (own_nb _) rfl (fun T136 h137 X138 W139 A140 => ?_)
  refine r_aload X138 (pc' := 44) at_42 rfl rfl ?_
  refine r_iconst X138 (pc' := 45) (v := (3 : Int32)) at_44 rfl rfl ?_
  refine r_iloadN X138 (pc' := 46) at_45 rfl rfl ?_
  refine r_bipush X138 (pc' := 48) (v := (24 : Int32)) at_46 rfl rfl ?_
  refine r_iushr X138 (pc' := 49) (z := (XT.ushr p4 (24 : Int32))) at_48 rfl rfl ?_
  refine r_i2b X138 (pc' := 50) (z := (own_b (XT.ushr p4 (24 : Int32)))) at_49 rfl rfl ?_
  refine r_bastore X138 (pc' := 51) (i := 3) (v := (own_b (XT.ushr p4 (24 : Int32)))) at_50 A140 rfl (by decide) geb122 (own_nb _) rfl (fun T141 h142 X143 W144 A145 => ?_)
  refine r_aload X143 (pc' := 53) at_51 rfl rfl ?_
  refine r_iconst X143 (pc' := 54) (v := (4 : Int32)) at_53 rfl rfl ?_
  refine r_iload X143 (pc' := 56) at_54 rfl rfl ?_
  refine r_i2b X143 (pc' := 57) (z := (own_b p5)) at_56 rfl rfl ?_
  refine r_bastore X143 (pc' := 58) (i := 4) (v := (own_b p5)) at_57 A145 rfl (by decide) geb122 (own_nb _) rfl (fun T146 h147 X148 W149 A150 => ?_)
  refine r_aload X148 (pc' := 60) at_58 rfl rfl ?_
  refine r_iconst X148 (pc' := 61) (v := (5 : Int32)) at_60 rfl rfl ?_
  refine r_iload X148 (pc' := 63) at_61 rfl rfl ?_
  refine r_bipush X148 (pc' := 65) (v := (8 : Int32)) at_63 rfl rfl ?_
  refine r_iushr X148 (pc' := 66) (z := (XT.ushr p5 (8 : Int32))) at_65 rfl rfl ?_
  refine r_i2b X148 (pc' := 67) (z := (own_b (XT.ushr p5 (8 : Int32)))) at_66 rfl rfl ?_
  refine r_bastore X148 (pc' := 68) (i := 5) (v := (own_b (XT.ushr p5 (8 : Int32)))) at_67 A150 rfl (by decide) geb122 (own_nb _) rfl (fun T151 h152 X153 W154 A155 => ?_)
  refine r_aload X153 (pc' := 70) at_68 rfl rfl ?_
  refine r_bipush X153 (pc' := 72) (v := (6 : Int32)) at_70 rfl rfl ?_
  refine r_iload X153 (pc' := 74) at_72 rfl rfl ?_
  refine r_bipush X153 (pc' := 76) (v := (16 : Int32)) at_74 rfl rfl ?_
  refine r_iushr X153 (pc' := 77) (z := (XT.ushr p5 (16 : Int32))) at_76 rfl rfl ?_
  refine r_i2b X153 (pc' := 78) (z := (own_b (XT.ushr p5 (16 : Int32)))) at_77 rfl rfl ?_
  refine r_bastore X153 (pc' := 79) (i := 6) (v := (own_b (XT.ushr p5 (16 : Int32)))) at_78 A155 rfl (by decide) geb122 (own_nb _) rfl (fun T156 h157 X158 W159 A160 => ?_)
  refine r_aload X158 (pc' := 81) at_79 rfl rfl ?_
  refine r_bipush X158 (pc' := 83) (v := (7 : Int32)) at_81 rfl rfl ?_
  refine r_iload X158 (pc' := 85) at_83 rfl rfl ?_
  refine r_bipush X158 (pc' := 87) (v := (24 : Int32)) at_85 rfl rfl ?_
  refine r_iushr X158 (pc' := 88) (z := (XT.ushr p5 (24 : Int32))) at_87 rfl rfl ?_
  refine r_i2b X158 (pc' := 89) (z := (own_b (XT.ushr p5 (24 : Int32)))) at_88 rfl rfl ?_
  refine r_bastore X158 (pc' := 90) (i := 7) (v := (own_b (XT.ushr p5 (24 : Int32)))) at_89 A160 rfl (by decide) geb122 (own_nb _) rfl (fun T161 h162 X163 W164 A165 => ?_)
  refine r_aload X163 (pc' := 92) at_90 rfl rfl ?_
  refine r_iload X163 (pc' := 94) at_92 rfl rfl ?_
  refine r_iloadN X163 (pc' := 95) at_94 rfl rfl ?_
  refine r_bipush X163 (pc' := 97) (v := (8 : Int32)) at_95 rfl rfl ?_
  refine r_iload X163 (pc' := 99) at_97 rfl rfl ?_
  refine r_iconst X163 (pc' := 100) (v := (1 : Int32)) at_99 rfl rfl ?_
  refine r_isub X163 (pc' := 101) (z := (0 : Int32)) at_100 rfl rfl ?_
  refine r_imul X163 (pc' := 102) (z := (0 : Int32)) at_101 rfl rfl ?_
  refine r_iushr X163 (pc' := 103) (z := (XT.ushr p1 (0 : Int32))) at_102 rfl rfl ?_
  refine r_i2b X163 (pc' := 104) (z := (own_b (XT.ushr p1 (0 : Int32)))) at_103 rfl rfl ?_
  refine r_bastore X163 (pc' := 105) (i := i) (v := (own_b (XT.ushr p1 (0 : Int32)))) at_104 A165 hi (by omega) geb122 (own_nb _) rfl (fun T166 h167 X168 W169 A170 => ?_)
  refine r_iload X168 (pc' := 107) at_105 rfl rfl ?_
  refine r_iconst X168 (pc' := 108) (v := (1 : Int32)) at_107 rfl rfl ?_
  refine r_icmpY X168 (pc' := 128) at_108 (by decide) (by decide) (a := 1) (b := 1) rfl rfl (show 1 ≤ 1 from (by decide)) ?_
  refine r_iload X168 (pc' := 130) at_128 rfl rfl ?_
  refine r_iconst X168 (pc' := 131) (v := (2 : Int32)) at_130 rfl rfl ?_
  refine r_icmpY X168 (pc' := 151) at_131 (by decide) (by decide) (a := 1) (b := 2) rfl rfl (show 1 ≤ 2 from (by decide)) ?_
  refine r_iload X168 (pc' := 153) at_151 rfl rfl ?_
  refine r_iconst X168 (pc' := 154) (v := (3 : Int32)) at_153 rfl rfl ?_
  refine r_icmpY X168 (pc' := 166) at_154 (by decide) (by decide) (a := 1) (b := 3) rfl rfl (show 1 ≤ 3 from (by decide)) ?_
  refine r_iload X168 (pc' := 168) at_166 rfl rfl ?_
  refine r_iconst X168 (pc' := 169) (v := (4 : Int32)) at_168 rfl rfl ?_
  refine r_icmpY X168 (pc' := 178) at_169 (by decide) (by decide) (a := 1) (b := 4) rfl rfl (show ¬ 1 = 4 from (by decide)) ?_
  refine r_iload X168 (pc' := 180) at_178 rfl rfl ?_
  refine r_iconst X168 (pc' := 181) (v := (3 : Int32)) at_180 rfl rfl ?_
  refine r_icmpY X168 (pc' := 196) at_181 (by decide) (by decide) (a := 1) (b := 3) rfl rfl (show ¬ 1 = 3 from (by decide)) ?_
  refine r_iload X168 (pc' := 198) at_196 rfl rfl ?_
  refine r_iconst X168 (pc' := 199) (v := (2 : Int32)) at_198 rfl rfl ?_
  refine r_icmpY X168 (pc' := 214) at_199 (by decide) (by decide) (a := 1) (b := 2) rfl rfl (show ¬ 1 = 2 from (by decide)) ?_
  refine r_iloadN X168 (pc' := 215) at_214 rfl rfl ?_
  refine r_bipush X168 (pc' := 217) (v := (24 : Int32)) at_215 rfl rfl ?_
  refine r_ishl X168 (pc' := 218) (z := (p1 <<< ((24 : Int32) &&& 31))) at_217 rfl rfl ?_
  refine r_bipush X168 (pc' := 220) (v := (24 : Int32)) at_218 rfl rfl ?_
  refine r_ishr X168 (pc' := 221) (z := ((p1 <<< ((24 : Int32) &&& 31)) >>> ((24 : Int32) &&& 31))) at_220 rfl rfl ?_
  refine r_istore X168 (pc' := 223) (ls' := #[.val (.int p1), .val (.int p2), .val (.int p3), .val (.int p4), .val (.int p5), .val (.int p6), .val (.int (1 : Int32)), .val (.int oo), .val (.ref b122), .val (.int ((p1 <<< ((24 : Int32) &&& 31)) >>> ((24 : Int32) &&& 31))), .unset]) at_221 rfl rfl ?_
  obtain ⟨f, hf⟩ : ∃ f, f = (upd (upd (upd (upd (upd (upd (upd (upd (upd (fun _ => 0) 0 (own_b p4)) 1 (own_b (XT.ushr p4 (8 : Int32)))) 2 (own_b (XT.ushr p4 (16 : Int32)))) 3 (own_b (XT.ushr p4 (24 : Int32)))) 4 (own_b p5)) 5 (own_b (XT.ushr p5 (8 : Int32)))) 6 (own_b (XT.ushr p5 (16 : Int32)))) 7 (own_b (XT.ushr p5 (24 : Int32)))) i (own_b (XT.ushr p1 (0 : Int32)))) := ⟨_, rfl⟩
  have A9 := A170
  rw [← hf] at A9
  have f0 : f i = (own_b (XT.ushr p1 (0 : Int32))) := by rw [hf, upd_same]
  refine r_new X168 (pc' := 226) at_223 (wd hw 1 rfl) (wd hw 2 rfl) (wd hw 3 rfl) (by decide) (by decide) rfl (fun T171 h172 b173 X174 ebb173 geb173 E175 A176 D177 => ?_)
  have ne178 : b122 ≠ b173 := Nat.ne_of_lt (by rw [ebb173]; exact A9.lt)
  have f179 := A9.ext E175
  have f180 := D177 (O := "com/example/vestibule/vestibule/asn1/Ber$Element") (f := "tag") (Or.inr (wd hw 16 rfl)) (ty := .int) (by decide)
  have f181 := D177 (O := "com/example/vestibule/vestibule/asn1/Ber$Element") (f := "bytes") (Or.inr (wd hw 18 rfl)) (ty := (.array .byte)) (by decide)
  have f182 := D177 (O := "com/example/vestibule/vestibule/asn1/Ber$Element") (f := "offset") (Or.inr (wd hw 20 rfl)) (ty := .int) (by decide)
  have f183 := D177 (O := "com/example/vestibule/vestibule/asn1/Ber$Element") (f := "end") (Or.inr (wd hw 22 rfl)) (ty := .int) (by decide)
  refine r_dup X174 (pc' := 227) at_226 rfl rfl ?_
  refine r_iload X174 (pc' := 229) at_227 rfl rfl ?_
  refine r_aload X174 (pc' := 231) at_229 rfl rfl ?_
  refine r_iload X174 (pc' := 233) at_231 rfl rfl ?_
  refine r_iload X174 (pc' := 235) at_233 rfl rfl ?_
  refine r_iload X174 (pc' := 237) at_235 rfl rfl ?_
  refine r_iadd X174 (pc' := 238) (z := ee) at_237 hee rfl ?_
  refine r_init X174 (pc' := 241) at_238 (con_init l Z a0 hw b173 (p6) (b122) (oo) (ee) (.int (0 : Int32)) (.null) (.int (0 : Int32)) (.int (0 : Int32)) h172 n0 X174.sz A176 f180 f181 f182 f183 geb173) rfl (wd hw 4 rfl) (wd hw 5 rfl) (wd hw 3 rfl) (wd hw 6 rfl) (by decide) (argsL := [(.int p6), (.ref b122), (.int oo), (.int ee)]) (rest := [(.ref b173)]) (W := 1) rfl rfl pd_init_Ber_Element rfl rfl (by decide) (by decide) (by decide) (by decide) rfl (fun v184 T185 h186 X187 QQ188 => ?_)
  obtain ⟨rfl, K189, f190, f191, f192, f193⟩ := QQ188
  show Run p e below _ _ (mkF m 241 #[.val (.int p1), .val (.int p2), .val (.int p3), .val (.int p4), .val (.int p5), .val (.int p6), .val (.int (1 : Int32)), .val (.int oo), .val (.ref b122), .val (.int ((p1 <<< ((24 : Int32) &&& 31)) >>> ((24 : Int32) &&& 31))), .unset] [(.ref b173)])
  have f194 := f179.keep K189 (ninS ne178 nin0)
  have f195 := A176.keep K189
  refine r_astore X187 (pc' := 243) (ls' := #[.val (.int p1), .val (.int p2), .val (.int p3), .val (.int p4), .val (.int p5), .val (.int p6), .val (.int (1 : Int32)), .val (.int oo), .val (.ref b122), .val (.int ((p1 <<< ((24 : Int32) &&& 31)) >>> ((24 : Int32) &&& 31))), .val (.ref b173)]) at_241 rfl rfl ?_
  refine r_aload X187 (pc' := 245) at_243 rfl rfl ?_
  refine r_callV X187 (pc' := 248) at_245 (con_n1 l Z a0 hw b173 b122 oo ee f i h186 n0 X187.sz f191 f192 f193 f194 hi hi3 kee) f195 (wd hw 23 rfl) (wd hw 24 rfl) (wd hw 26 rfl) (wd hw 25 rfl) (wd hw 3 rfl) (wd hw 27 rfl) (by decide) (argsL := []) (rest := []) (W := 0) rfl rfl pd_number rfl rfl (by decide) (by decide) (by decide) (by decide) rfl (fun v196 T197 h198 X199 QQ200 => ?_)
  obtain ⟨rfl, rfl⟩ := QQ200
  obtain ⟨rr, hrr⟩ : ∃ z, z = (f i) := ⟨_, rfl⟩
  rw [← hrr]
  show Run p e below _ _ (mkF m 248 #[.val (.int p1), .val (.int p2), .val (.int p3), .val (.int p4), .val (.int p5), .val (.int p6), .val (.int (1 : Int32)), .val (.int oo), .val (.ref b122), .val (.int ((p1 <<< ((24 : Int32) &&& 31)) >>> ((24 : Int32) &&& 31))), .val (.ref b173)] [(.int rr)])
  have fin : rr.toInt = (((p1 <<< ((24 : Int32) &&& 31)) >>> ((24 : Int32) &&& 31))).toInt := by rw [hrr, f0]; exact own_fin1 p1
  refine r_iload X199 (pc' := 250) at_248 rfl rfl ?_
  refine r_icmpN X199 (pc2 := 253) at_250 (by decide) rfl (a := rr.toInt) (b := ((p1 <<< ((24 : Int32) &&& 31)) >>> ((24 : Int32) &&& 31)).toInt) rfl rfl (show ¬ (¬ rr.toInt = ((p1 <<< ((24 : Int32) &&& 31)) >>> ((24 : Int32) &&& 31)).toInt) from (by omega)) ?_
  refine r_iconst X199 (pc' := 254) (v := (1 : Int32)) at_253 rfl rfl ?_
  refine r_goto X199 (pc' := 258) at_254 (by decide) (by decide) ?_
  exact r_retN X199 (by simp) at_258 (z := (1 : Int32)) (w := (1 : Int32)) rfl rfl (by decide) (by decide)
set_option maxRecDepth 65536 in
set_option maxHeartbeats 40000000 in
theorem con_law2 (l : Launch) (Z : State) (a0 : Array Value) (hw : ∀ d ∈ tables_1, d.before a0 Z = true) (p1 p2 p3 p4 p5 p6 : Int32) (hL : (p2 &&& (3 : Int32)).toInt = 1) (h0 : Heap) (n0 : Nat) (Z0 : n0 ≤ h0.size)  : Con l Z x code maxLocals ret room_1 #[(.int p1), (.int p2), (.int p3), (.int p4), (.int p5), (.int p6)] h0 n0 16 128 (fun v _ => v = some (.int 1)) := by
  refine Con.of_body (ls := #[.val (.int p1), .val (.int p2), .val (.int p3), .val (.int p4), .val (.int p5), .val (.int p6), .unset, .unset, .unset, .unset, .unset]) pn_com_example_vestibule_vestibule_asn1_ElementNumberPinLaw (fun m => by first | (simp [entryFrame, mkF, argsToLocals, Value.category, maxLocals]; done) | rfl) Z0 (fun p e s m below meth c T (X : Here p l e room_1 s m #[(.int p1), (.int p2), (.int p3), (.int p4), (.int p5), (.int p6)] below meth c Z "com/example/vestibule/vestibule/asn1/ElementNumberPinLaw" "law" code 11 (some .boolean) n0 T h0 0 0) => ?_)
  have hl : (p2 &&& (3 : Int32)) = (1 : Int32) := by apply Int32.toInt_inj.mp; rw [hL]; rfl
  obtain ⟨oo, hoo⟩ : ∃ z, p3 &&& (3 : Int32) = z := ⟨_, rfl⟩
  have ko : oo.toInt = p3.toInt % 4 := by rw [← hoo]; exact own_and3 _
  obtain ⟨i, hi⟩ : ∃ n : Nat, oo.toInt = n := ⟨oo.toInt.toNat, by omega⟩
  have hi3 : i ≤ 3 := by omega
  obtain ⟨s1, hs1⟩ : ∃ z, oo + (1 : Int32) = z := ⟨_, rfl⟩
  have ks1 : s1.toInt = ((i + 1 : Nat) : Int) := by rw [← hs1, n_add hi (show (1 : Int32).toInt = 1 from rfl) (by omega) (by omega)]; omega
  obtain ⟨s2, hs2⟩ : ∃ z, oo + (2 : Int32) = z := ⟨_, rfl⟩
  have ks2 : s2.toInt = ((i + 2 : Nat) : Int) := by rw [← hs2, n_add hi (show (2 : Int32).toInt = 2 from rfl) (by omega) (by omega)]; omega
  obtain ⟨s3, hs3⟩ : ∃ z, oo + (3 : Int32) = z := ⟨_, rfl⟩
  have ks3 : s3.toInt = ((i + 3 : Nat) : Int) := by rw [← hs3, n_add hi (show (3 : Int32).toInt = 3 from rfl) (by omega) (by omega)]; omega
  obtain ⟨ee, hee⟩ : ∃ z, oo + (2 : Int32) = z := ⟨_, rfl⟩
  have kee : ee.toInt = ((i + 2 : Nat) : Int) := by rw [← hee, n_add hi (show (2 : Int32).toInt = 2 from rfl) (by omega) (by omega)]; omega
  refine r_iloadN X (pc' := 1) at_0 rfl rfl ?_
  refine r_iconst X (pc' := 2) (v := (3 : Int32)) at_1 rfl rfl ?_
  refine r_iand X (pc' := 3) (z := (1 : Int32)) at_2 hl rfl ?_
  refine r_iconst X (pc' := 4) (v := (1 : Int32)) at_3 rfl rfl ?_
  refine r_iadd X (pc' := 5) (z := (2 : Int32)) at_4 rfl rfl ?_
  refine r_istore X (pc' := 7) (ls' := #[.val (.int p1), .val (.int p2), .val (.int p3), .val (.int p4), .val (.int p5), .val (.int p6), .val (.int (2 : Int32)), .unset, .unset, .unset, .unset]) at_5 rfl rfl ?_
  refine r_iloadN X (pc' := 8) at_7 rfl rfl ?_
  refine r_iconst X (pc' := 9) (v := (3 : Int32)) at_8 rfl rfl ?_
  refine r_iand X (pc' := 10) (z := oo) at_9 hoo rfl ?_
  refine r_istore X (pc' := 12) (ls' := #[.val (.int p1), .val (.int p2), .val (.int p3), .val (.int p4), .val (.int p5), .val (.int p6), .val (.int (2 : Int32)), .val (.int oo), .unset, .unset, .unset]) at_10 rfl rfl ?_
  refine r_bipush X (pc' := 14) (v := (8 : Int32)) at_12 rfl rfl ?_
  refine r_newarray X (pc' := 16) (N := 8) at_14 (wd hw 0 rfl) rfl rfl (by decide) (by decide) (by decide) rfl (fun T201 h202 b203 X204 ebb203 geb203 E205 A206 => ?_)
  refine r_astore X204 (pc' := 18) (ls' := #[.val (.int p1), .val (.int p2), .val (.int p3), .val (.int p4), .val (.int p5), .val (.int p6), .val (.int (2 : Int32)), .val (.int oo), .val (.ref b203), .unset, .unset]) at_16 rfl rfl ?_
  refine r_aload X204 (pc' := 20) at_18 rfl rfl ?_
  refine r_iconst X204 (pc' := 21) (v := (0 : Int32)) at_20 rfl rfl ?_
  refine r_iloadN X204 (pc' := 22) at_21 rfl rfl ?_
  refine r_i2b X204 (pc' := 23) (z := (own_b p4)) at_22 rfl rfl ?_
  refine r_bastore X204 (pc' := 24) (i := 0) (v := (own_b p4)) at_23 A206 rfl (by decide) geb203 (own_nb _) rfl (fun T207 h208 X209 W210 A211 => ?_)
  refine r_aload X209 (pc' := 26) at_24 rfl rfl ?_
  refine r_iconst X209 (pc' := 27) (v := (1 : Int32)) at_26 rfl rfl ?_
  refine r_iloadN X209 (pc' := 28) at_27 rfl rfl ?_
  refine r_bipush X209 (pc' := 30) (v := (8 : Int32)) at_28 rfl rfl ?_
  refine r_iushr X209 (pc' := 31) (z := (XT.ushr p4 (8 : Int32))) at_30 rfl rfl ?_
  refine r_i2b X209 (pc' := 32) (z := (own_b (XT.ushr p4 (8 : Int32)))) at_31 rfl rfl ?_
  refine r_bastore X209 (pc' := 33) (i := 1) (v := (own_b (XT.ushr p4 (8 : Int32)))) at_32 A211 rfl (by decide) geb203 (own_nb _) rfl (fun T212 h213 X214 W215 A216 => ?_)
  refine r_aload X214 (pc' := 35) at_33 rfl rfl ?_
  refine r_iconst X214 (pc' := 36) (v := (2 : Int32)) at_35 rfl rfl ?_
  refine r_iloadN X214 (pc' := 37) at_36 rfl rfl ?_
  refine r_bipush X214 (pc' := 39) (v := (16 : Int32)) at_37 rfl rfl ?_
  refine r_iushr X214 (pc' := 40) (z := (XT.ushr p4 (16 : Int32))) at_39 rfl rfl ?_
  refine r_i2b X214 (pc' := 41) (z := (own_b (XT.ushr p4 (16 : Int32)))) at_40 rfl rfl ?_
  refine r_bastore X214 (pc' := 42) (i := 2) (v := (own_b (XT.ushr p4 (16 : Int32)))) at_41 A216 rfl (by decide) geb203 (own_nb _) rfl (fun T217 h218 X219 W220 A221 => ?_)
  refine r_aload X219 (pc' := 44) at_42 rfl rfl ?_
  refine r_iconst X219 (pc' := 45) (v := (3 : Int32)) at_44 rfl rfl ?_
  refine r_iloadN X219 (pc' := 46) at_45 rfl rfl ?_
  refine r_bipush X219 (pc' := 48) (v := (24 : Int32)) at_46 rfl rfl ?_
  refine r_iushr X219 (pc' := 49) (z := (XT.ushr p4 (24 : Int32))) at_48 rfl rfl ?_
  refine r_i2b X219 (pc' := 50) (z := (own_b (XT.ushr p4 (24 : Int32)))) at_49 rfl rfl ?_
  refine r_bastore X219 (pc' := 51) (i := 3) (v := (own_b (XT.ushr p4 (24 : Int32)))) at_50 A221 rfl (by decide) geb203 (own_nb _) rfl (fun T222 h223 X224 W225 A226 => ?_)
  refine r_aload X224 (pc' := 53) at_51 rfl rfl ?_
  refine r_iconst X224 (pc' := 54) (v := (4 : Int32)) at_53 rfl rfl ?_
  refine r_iload X224 (pc' := 56) at_54 rfl rfl ?_
  refine r_i2b X224 (pc' := 57) (z := (own_b p5)) at_56 rfl rfl ?_
  refine r_bastore X224 (pc' := 58) (i := 4) (v := (own_b p5)) at_57 A226 rfl (by decide) geb203 (own_nb _) rfl (fun T227 h228 X229 W230 A231 => ?_)
  refine r_aload X229 (pc' := 60) at_58 rfl rfl ?_
  refine r_iconst X229 (pc' := 61) (v := (5 : Int32)) at_60 rfl rfl ?_
  refine r_iload X229 (pc' := 63) at_61 rfl rfl ?_
  refine r_bipush X229 (pc' := 65) (v := (8 : Int32)) at_63 rfl rfl ?_
  refine r_iushr X229 (pc' := 66) (z := (XT.ushr p5 (8 : Int32))) at_65 rfl rfl ?_
  refine r_i2b X229 (pc' := 67) (z := (own_b (XT.ushr p5 (8 : Int32)))) at_66 rfl rfl ?_
  refine r_bastore X229 (pc' := 68) (i := 5) (v := (own_b (XT.ushr p5 (8 : Int32)))) at_67 A231 rfl (by decide) geb203 (own_nb _) rfl (fun T232 h233 X234 W235 A236 => ?_)
  refine r_aload X234 (pc' := 70) at_68 rfl rfl ?_
  refine r_bipush X234 (pc' := 72) (v := (6 : Int32)) at_70 rfl rfl ?_
  refine r_iload X234 (pc' := 74) at_72 rfl rfl ?_
  refine r_bipush X234 (pc' := 76) (v := (16 : Int32)) at_74 rfl rfl ?_
  refine r_iushr X234 (pc' := 77) (z := (XT.ushr p5 (16 : Int32))) at_76 rfl rfl ?_
  refine r_i2b X234 (pc' := 78) (z := (own_b (XT.ushr p5 (16 : Int32)))) at_77 rfl rfl ?_
  refine r_bastore X234 (pc' := 79) (i := 6) (v := (own_b (XT.ushr p5 (16 : Int32)))) at_78 A236 rfl (by decide) geb203 (own_nb _) rfl (fun T237 h238 X239 W240 A241 => ?_)
  refine r_aload X239 (pc' := 81) at_79 rfl rfl ?_
  refine r_bipush X239 (pc' := 83) (v := (7 : Int32)) at_81 rfl rfl ?_
  refine r_iload X239 (pc' := 85) at_83 rfl rfl ?_
  refine r_bipush X239 (pc' := 87) (v := (24 : Int32)) at_85 rfl rfl ?_
  refine r_iushr X239 (pc' := 88) (z := (XT.ushr p5 (24 : Int32))) at_87 rfl rfl ?_
  refine r_i2b X239 (pc' := 89) (z := (own_b (XT.ushr p5 (24 : Int32)))) at_88 rfl rfl ?_
  refine r_bastore X239 (pc' := 90) (i := 7) (v := (own_b (XT.ushr p5 (24 : Int32)))) at_89 A241 rfl (by decide) geb203 (own_nb _) rfl (fun T242 h243 X244 W245 A246 => ?_)
  refine r_aload X244 (pc' := 92) at_90 rfl rfl ?_
  refine r_iload X244 (pc' := 94) at_92 rfl rfl ?_
  refine r_iloadN X244 (pc' := 95) at_94 rfl rfl ?_
  refine r_bipush X244 (pc' := 97) (v := (8 : Int32)) at_95 rfl rfl ?_
  refine r_iload X244 (pc' := 99) at_97 rfl rfl ?_
  refine r_iconst X244 (pc' := 100) (v := (1 : Int32)) at_99 rfl rfl ?_
  refine r_isub X244 (pc' := 101) (z := (1 : Int32)) at_100 rfl rfl ?_
  refine r_imul X244 (pc' := 102) (z := (8 : Int32)) at_101 rfl rfl ?_
  refine r_iushr X244 (pc' := 103) (z := (XT.ushr p1 (8 : Int32))) at_102 rfl rfl ?_
  refine r_i2b X244 (pc' := 104) (z := (own_b (XT.ushr p1 (8 : Int32)))) at_103 rfl rfl ?_
  refine r_bastore X244 (pc' := 105) (i := i) (v := (own_b (XT.ushr p1 (8 : Int32)))) at_104 A246 hi (by omega) geb203 (own_nb _) rfl (fun T247 h248 X249 W250 A251 => ?_)
  refine r_iload X249 (pc' := 107) at_105 rfl rfl ?_
  refine r_iconst X249 (pc' := 108) (v := (1 : Int32)) at_107 rfl rfl ?_
  refine r_icmpN X249 (pc2 := 111) at_108 (by decide) rfl (a := 2) (b := 1) rfl rfl (show ¬ (2 ≤ 1) from (by decide)) ?_
  refine r_aload X249 (pc' := 113) at_111 rfl rfl ?_
  refine r_iload X249 (pc' := 115) at_113 rfl rfl ?_
  refine r_iconst X249 (pc' := 116) (v := (1 : Int32)) at_115 rfl rfl ?_
  refine r_iadd X249 (pc' := 117) (z := s1) at_116 hs1 rfl ?_
  refine r_iloadN X249 (pc' := 118) at_117 rfl rfl ?_
  refine r_bipush X249 (pc' := 120) (v := (8 : Int32)) at_118 rfl rfl ?_
  refine r_iload X249 (pc' := 122) at_120 rfl rfl ?_
  refine r_iconst X249 (pc' := 123) (v := (2 : Int32)) at_122 rfl rfl ?_
  refine r_isub X249 (pc' := 124) (z := (0 : Int32)) at_123 rfl rfl ?_
  refine r_imul X249 (pc' := 125) (z := (0 : Int32)) at_124 rfl rfl ?_
  refine r_iushr X249 (pc' := 126) (z := (XT.ushr p1 (0 : Int32))) at_125 rfl rfl ?_
  refine r_i2b X249 (pc' := 127) (z := (own_b (XT.ushr p1 (0 : Int32)))) at_126 rfl rfl ?_
  refine r_bastore X249 (pc' := 128) (i := (i + 1)) (v := (own_b (XT.ushr p1 (0 : Int32)))) at_127 A251 ks1 (by omega) geb203 (own_nb _) rfl (fun T252 h253 X254 W255 A256 => ?_)
  refine r_iload X254 (pc' := 130) at_128 rfl rfl ?_
  refine r_iconst X254 (pc' := 131) (v := (2 : Int32)) at_130 rfl rfl ?_
  refine r_icmpY X254 (pc' := 151) at_131 (by decide) (by decide) (a := 2) (b := 2) rfl rfl (show 2 ≤ 2 from (by decide)) ?_
  refine r_iload X254 (pc' := 153) at_151 rfl rfl ?_
  refine r_iconst X254 (pc' := 154) (v := (3 : Int32)) at_153 rfl rfl ?_
  refine r_icmpY X254 (pc' := 166) at_154 (by decide) (by decide) (a := 2) (b := 3) rfl rfl (show 2 ≤ 3 from (by decide)) ?_
  refine r_iload X254 (pc' := 168) at_166 rfl rfl ?_
  refine r_iconst X254 (pc' := 169) (v := (4 : Int32)) at_168 rfl rfl ?_
  refine r_icmpY X254 (pc' := 178) at_169 (by decide) (by decide) (a := 2) (b := 4) rfl rfl (show ¬ 2 = 4 from (by decide)) ?_
  refine r_iload X254 (pc' := 180) at_178 rfl rfl ?_
  refine r_iconst X254 (pc' := 181) (v := (3 : Int32)) at_180 rfl rfl ?_
  refine r_icmpY X254 (pc' := 196) at_181 (by decide) (by decide) (a := 2) (b := 3) rfl rfl (show ¬ 2 = 3 from (by decide)) ?_
  refine r_iload X254 (pc' := 198) at_196 rfl rfl ?_
  refine r_iconst X254 (pc' := 199) (v := (2 : Int32)) at_198 rfl rfl ?_
  refine r_icmpN X254 (pc2 := 202) at_199 (by decide) rfl (a := 2) (b := 2) rfl rfl (show ¬ (¬ 2 = 2) from (by decide)) ?_
  refine r_iloadN X254 (pc' := 203) at_202 rfl rfl ?_
  refine r_bipush X254 (pc' := 205) (v := (16 : Int32)) at_203 rfl rfl ?_
  refine r_ishl X254 (pc' := 206) (z := (p1 <<< ((16 : Int32) &&& 31))) at_205 rfl rfl ?_
  refine r_bipush X254 (pc' := 208) (v := (16 : Int32)) at_206 rfl rfl ?_
  refine r_ishr X254 (pc' := 209) (z := ((p1 <<< ((16 : Int32) &&& 31)) >>> ((16 : Int32) &&& 31))) at_208 rfl rfl ?_
  refine r_istore X254 (pc' := 211) (ls' := #[.val (.int p1), .val (.int p2), .val (.int p3), .val (.int p4), .val (.int p5), .val (.int p6), .val (.int (2 : Int32)), .val (.int oo), .val (.ref b203), .val (.int ((p1 <<< ((16 : Int32) &&& 31)) >>> ((16 : Int32) &&& 31))), .unset]) at_209 rfl rfl ?_
  refine r_goto X254 (pc' := 223) at_211 (by decide) (by decide) ?_
  obtain ⟨f, hf⟩ : ∃ f, f = (upd (upd (upd (upd (upd (upd (upd (upd (upd (upd (fun _ => 0) 0 (own_b p4)) 1 (own_b (XT.ushr p4 (8 : Int32)))) 2 (own_b (XT.ushr p4 (16 : Int32)))) 3 (own_b (XT.ushr p4 (24 : Int32)))) 4 (own_b p5)) 5 (own_b (XT.ushr p5 (8 : Int32)))) 6 (own_b (XT.ushr p5 (16 : Int32)))) 7 (own_b (XT.ushr p5 (24 : Int32)))) i (own_b (XT.ushr p1 (8 : Int32)))) (i + 1) (own_b (XT.ushr p1 (0 : Int32)))) := ⟨_, rfl⟩
  have A9 := A256
  rw [← hf] at A9
  have f0 : f i = (own_b (XT.ushr p1 (8 : Int32))) := by rw [hf, upd_ne _ _ (by omega), upd_same]
  have f1 : f (i + 1) = (own_b (XT.ushr p1 (0 : Int32))) := by rw [hf, upd_same]
  refine r_new X254 (pc' := 226) at_223 (wd hw 1 rfl) (wd hw 2 rfl) (wd hw 3 rfl) (by decide) (by decide) rfl (fun T257 h258 b259 X260 ebb259 geb259 E261 A262 D263 => ?_)
  have ne264 : b203 ≠ b259 := Nat.ne_of_lt (by rw [ebb259]; exact A9.lt)
  have f265 := A9.ext E261
  have f266 := D263 (O := "com/example/vestibule/vestibule/asn1/Ber$Element") (f := "tag") (Or.inr (wd hw 16 rfl)) (ty := .int) (by decide)
  have f267 := D263 (O := "com/example/vestibule/vestibule/asn1/Ber$Element") (f := "bytes") (Or.inr (wd hw 18 rfl)) (ty := (.array .byte)) (by decide)
  have f268 := D263 (O := "com/example/vestibule/vestibule/asn1/Ber$Element") (f := "offset") (Or.inr (wd hw 20 rfl)) (ty := .int) (by decide)
  have f269 := D263 (O := "com/example/vestibule/vestibule/asn1/Ber$Element") (f := "end") (Or.inr (wd hw 22 rfl)) (ty := .int) (by decide)
  refine r_dup X260 (pc' := 227) at_226 rfl rfl ?_
  refine r_iload X260 (pc' := 229) at_227 rfl rfl ?_
  refine r_aload X260 (pc' := 231) at_229 rfl rfl ?_
  refine r_iload X260 (pc' := 233) at_231 rfl rfl ?_
  refine r_iload X260 (pc' := 235) at_233 rfl rfl ?_
  refine r_iload X260 (pc' := 237) at_235 rfl rfl ?_
  refine r_iadd X260 (pc' := 238) (z := ee) at_237 hee rfl ?_
  refine r_init X260 (pc' := 241) at_238 (con_init l Z a0 hw b259 (p6) (b203) (oo) (ee) (.int (0 : Int32)) (.null) (.int (0 : Int32)) (.int (0 : Int32)) h258 n0 X260.sz A262 f266 f267 f268 f269 geb259) rfl (wd hw 4 rfl) (wd hw 5 rfl) (wd hw 3 rfl) (wd hw 6 rfl) (by decide) (argsL := [(.int p6), (.ref b203), (.int oo), (.int ee)]) (rest := [(.ref b259)]) (W := 1) rfl rfl pd_init_Ber_Element rfl rfl (by decide) (by decide) (by decide) (by decide) rfl (fun v270 T271 h272 X273 QQ274 => ?_)
  obtain ⟨rfl, K275, f276, f277, f278, f279⟩ := QQ274
  show Run p e below _ _ (mkF m 241 #[.val (.int p1), .val (.int p2), .val (.int p3), .val (.int p4), .val (.int p5), .val (.int p6), .val (.int (2 : Int32)), .val (.int oo), .val (.ref b203), .val (.int ((p1 <<< ((16 : Int32) &&& 31)) >>> ((16 : Int32) &&& 31))), .unset] [(.ref b259)])
  have f280 := f265.keep K275 (ninS ne264 nin0)
  have f281 := A262.keep K275
  refine r_astore X273 (pc' := 243) (ls' := #[.val (.int p1), .val (.int p2), .val (.int p3), .val (.int p4), .val (.int p5), .val (.int p6), .val (.int (2 : Int32)), .val (.int oo), .val (.ref b203), .val (.int ((p1 <<< ((16 : Int32) &&& 31)) >>> ((16 : Int32) &&& 31))), .val (.ref b259)]) at_241 rfl rfl ?_
  refine r_aload X273 (pc' := 245) at_243 rfl rfl ?_
  refine r_callV X273 (pc' := 248) at_245 (con_n2 l Z a0 hw b259 b203 oo ee f i h272 n0 X273.sz f277 f278 f279 f280 hi hi3 kee) f281 (wd hw 23 rfl) (wd hw 24 rfl) (wd hw 26 rfl) (wd hw 25 rfl) (wd hw 3 rfl) (wd hw 27 rfl) (by decide) (argsL := []) (rest := []) (W := 0) rfl rfl pd_number rfl rfl (by decide) (by decide) (by decide) (by decide) rfl (fun v282 T283 h284 X285 QQ286 => ?_)
  obtain ⟨rfl, rfl⟩ := QQ286
  obtain ⟨rr, hrr⟩ : ∃ z, z = (own_acc (f i) (f (i + 1))) := ⟨_, rfl⟩
  rw [← hrr]
  show Run p e below _ _ (mkF m 248 #[.val (.int p1), .val (.int p2), .val (.int p3), .val (.int p4), .val (.int p5), .val (.int p6), .val (.int (2 : Int32)), .val (.int oo), .val (.ref b203), .val (.int ((p1 <<< ((16 : Int32) &&& 31)) >>> ((16 : Int32) &&& 31))), .val (.ref b259)] [(.int rr)])
  have fin : rr.toInt = (((p1 <<< ((16 : Int32) &&& 31)) >>> ((16 : Int32) &&& 31))).toInt := by rw [hrr, f0, f1]; exact own_fin2 p1
  refine r_iload X285 (pc' := 250) at_248 rfl rfl ?_
  refine r_icmpN X285 (pc2 := 253) at_250 (by decide) rfl (a := rr.toInt) (b := ((p1 <<< ((16 : Int32) &&& 31)) >>> ((16 : Int32) &&& 31)).toInt) rfl rfl (show ¬ (¬ rr.toInt = ((p1 <<< ((16 : Int32) &&& 31)) >>> ((16 : Int32) &&& 31)).toInt) from (by omega)) ?_
  refine r_iconst X285 (pc' := 254) (v := (1 : Int32)) at_253 rfl rfl ?_
  refine r_goto X285 (pc' := 258) at_254 (by decide) (by decide) ?_
  exact r_retN X285 (by simp) at_258 (z := (1 : Int32)) (w := (1 : Int32)) rfl rfl (by decide) (by decide)
set_option maxRecDepth 65536 in
set_option maxHeartbeats 40000000 in
theorem con_law3 (l : Launch) (Z : State) (a0 : Array Value) (hw : ∀ d ∈ tables_1, d.before a0 Z = true) (p1 p2 p3 p4 p5 p6 : Int32) (hL : (p2 &&& (3 : Int32)).toInt = 2) (h0 : Heap) (n0 : Nat) (Z0 : n0 ≤ h0.size)  : Con l Z x code maxLocals ret room_1 #[(.int p1), (.int p2), (.int p3), (.int p4), (.int p5), (.int p6)] h0 n0 16 128 (fun v _ => v = some (.int 1)) := by
  refine Con.of_body (ls := #[.val (.int p1), .val (.int p2), .val (.int p3), .val (.int p4), .val (.int p5), .val (.int p6), .unset, .unset, .unset, .unset, .unset]) pn_com_example_vestibule_vestibule_asn1_ElementNumberPinLaw (fun m => by first | (simp [entryFrame, mkF, argsToLocals, Value.category, maxLocals]; done) | rfl) Z0 (fun p e s m below meth c T (X : Here p l e room_1 s m #[(.int p1), (.int p2), (.int p3), (.int p4), (.int p5), (.int p6)] below meth c Z "com/example/vestibule/vestibule/asn1/ElementNumberPinLaw" "law" code 11 (some .boolean) n0 T h0 0 0) => ?_)
  have hl : (p2 &&& (3 : Int32)) = (2 : Int32) := by apply Int32.toInt_inj.mp; rw [hL]; rfl
  obtain ⟨oo, hoo⟩ : ∃ z, p3 &&& (3 : Int32) = z := ⟨_, rfl⟩
  have ko : oo.toInt = p3.toInt % 4 := by rw [← hoo]; exact own_and3 _
  obtain ⟨i, hi⟩ : ∃ n : Nat, oo.toInt = n := ⟨oo.toInt.toNat, by omega⟩
  have hi3 : i ≤ 3 := by omega
  obtain ⟨s1, hs1⟩ : ∃ z, oo + (1 : Int32) = z := ⟨_, rfl⟩
  have ks1 : s1.toInt = ((i + 1 : Nat) : Int) := by rw [← hs1, n_add hi (show (1 : Int32).toInt = 1 from rfl) (by omega) (by omega)]; omega
  obtain ⟨s2, hs2⟩ : ∃ z, oo + (2 : Int32) = z := ⟨_, rfl⟩
  have ks2 : s2.toInt = ((i + 2 : Nat) : Int) := by rw [← hs2, n_add hi (show (2 : Int32).toInt = 2 from rfl) (by omega) (by omega)]; omega
  obtain ⟨s3, hs3⟩ : ∃ z, oo + (3 : Int32) = z := ⟨_, rfl⟩
  have ks3 : s3.toInt = ((i + 3 : Nat) : Int) := by rw [← hs3, n_add hi (show (3 : Int32).toInt = 3 from rfl) (by omega) (by omega)]; omega
  obtain ⟨ee, hee⟩ : ∃ z, oo + (3 : Int32) = z := ⟨_, rfl⟩
  have kee : ee.toInt = ((i + 3 : Nat) : Int) := by rw [← hee, n_add hi (show (3 : Int32).toInt = 3 from rfl) (by omega) (by omega)]; omega
  refine r_iloadN X (pc' := 1) at_0 rfl rfl ?_
  refine r_iconst X (pc' := 2) (v := (3 : Int32)) at_1 rfl rfl ?_
  refine r_iand X (pc' := 3) (z := (2 : Int32)) at_2 hl rfl ?_
  refine r_iconst X (pc' := 4) (v := (1 : Int32)) at_3 rfl rfl ?_
  refine r_iadd X (pc' := 5) (z := (3 : Int32)) at_4 rfl rfl ?_
  refine r_istore X (pc' := 7) (ls' := #[.val (.int p1), .val (.int p2), .val (.int p3), .val (.int p4), .val (.int p5), .val (.int p6), .val (.int (3 : Int32)), .unset, .unset, .unset, .unset]) at_5 rfl rfl ?_
  refine r_iloadN X (pc' := 8) at_7 rfl rfl ?_
  refine r_iconst X (pc' := 9) (v := (3 : Int32)) at_8 rfl rfl ?_
  refine r_iand X (pc' := 10) (z := oo) at_9 hoo rfl ?_
  refine r_istore X (pc' := 12) (ls' := #[.val (.int p1), .val (.int p2), .val (.int p3), .val (.int p4), .val (.int p5), .val (.int p6), .val (.int (3 : Int32)), .val (.int oo), .unset, .unset, .unset]) at_10 rfl rfl ?_
  refine r_bipush X (pc' := 14) (v := (8 : Int32)) at_12 rfl rfl ?_
  refine r_newarray X (pc' := 16) (N := 8) at_14 (wd hw 0 rfl) rfl rfl (by decide) (by decide) (by decide) rfl (fun T287 h288 b289 X290 ebb289 geb289 E291 A292 => ?_)
  refine r_astore X290 (pc' := 18) (ls' := #[.val (.int p1), .val (.int p2), .val (.int p3), .val (.int p4), .val (.int p5), .val (.int p6), .val (.int (3 : Int32)), .val (.int oo), .val (.ref b289), .unset, .unset]) at_16 rfl rfl ?_
  refine r_aload X290 (pc' := 20) at_18 rfl rfl ?_
  refine r_iconst X290 (pc' := 21) (v := (0 : Int32)) at_20 rfl rfl ?_
  refine r_iloadN X290 (pc' := 22) at_21 rfl rfl ?_
  refine r_i2b X290 (pc' := 23) (z := (own_b p4)) at_22 rfl rfl ?_
  refine r_bastore X290 (pc' := 24) (i := 0) (v := (own_b p4)) at_23 A292 rfl (by decide) geb289 (own_nb _) rfl (fun T293 h294 X295 W296 A297 => ?_)
  refine r_aload X295 (pc' := 26) at_24 rfl rfl ?_
  refine r_iconst X295 (pc' := 27) (v := (1 : Int32)) at_26 rfl rfl ?_
  refine r_iloadN X295 (pc' := 28) at_27 rfl rfl ?_
  refine r_bipush X295 (pc' := 30) (v := (8 : Int32)) at_28 rfl rfl ?_
  refine r_iushr X295 (pc' := 31) (z := (XT.ushr p4 (8 : Int32))) at_30 rfl rfl ?_
  refine r_i2b X295 (pc' := 32) (z := (own_b (XT.ushr p4 (8 : Int32)))) at_31 rfl rfl ?_
  refine r_bastore X295 (pc' := 33) (i := 1) (v := (own_b (XT.ushr p4 (8 : Int32)))) at_32 A297 rfl (by decide) geb289 (own_nb _) rfl (fun T298 h299 X300 W301 A302 => ?_)
  refine r_aload X300 (pc' := 35) at_33 rfl rfl ?_
  refine r_iconst X300 (pc' := 36) (v := (2 : Int32)) at_35 rfl rfl ?_
  refine r_iloadN X300 (pc' := 37) at_36 rfl rfl ?_
  refine r_bipush X300 (pc' := 39) (v := (16 : Int32)) at_37 rfl rfl ?_
  refine r_iushr X300 (pc' := 40) (z := (XT.ushr p4 (16 : Int32))) at_39 rfl rfl ?_
  refine r_i2b X300 (pc' := 41) (z := (own_b (XT.ushr p4 (16 : Int32)))) at_40 rfl rfl ?_
  refine r_bastore X300 (pc' := 42) (i := 2) (v := (own_b (XT.ushr p4 (16 : Int32)))) at_41 A302 rfl (by decide) geb289 (own_nb _) rfl (fun T303 h304 X305 W306 A307 => ?_)
  refine r_aload X305 (pc' := 44) at_42 rfl rfl ?_
  refine r_iconst X305 (pc' := 45) (v := (3 : Int32)) at_44 rfl rfl ?_
  refine r_iloadN X305 (pc' := 46) at_45 rfl rfl ?_
  refine r_bipush X305 (pc' := 48) (v := (24 : Int32)) at_46 rfl rfl ?_
  refine r_iushr X305 (pc' := 49) (z := (XT.ushr p4 (24 : Int32))) at_48 rfl rfl ?_
  refine r_i2b X305 (pc' := 50) (z := (own_b (XT.ushr p4 (24 : Int32)))) at_49 rfl rfl ?_
  refine r_bastore X305 (pc' := 51) (i := 3) (v := (own_b (XT.ushr p4 (24 : Int32)))) at_50 A307 rfl (by decide) geb289 (own_nb _) rfl (fun T308 h309 X310 W311 A312 => ?_)
  refine r_aload X310 (pc' := 53) at_51 rfl rfl ?_
  refine r_iconst X310 (pc' := 54) (v := (4 : Int32)) at_53 rfl rfl ?_
  refine r_iload X310 (pc' := 56) at_54 rfl rfl ?_
  refine r_i2b X310 (pc' := 57) (z := (own_b p5)) at_56 rfl rfl ?_
  refine r_bastore X310 (pc' := 58) (i := 4) (v := (own_b p5)) at_57 A312 rfl (by decide) geb289 (own_nb _) rfl (fun T313 h314 X315 W316 A317 => ?_)
  refine r_aload X315 (pc' := 60) at_58 rfl rfl ?_
  refine r_iconst X315 (pc' := 61) (v := (5 : Int32)) at_60 rfl rfl ?_
  refine r_iload X315 (pc' := 63) at_61 rfl rfl ?_
  refine r_bipush X315 (pc' := 65) (v := (8 : Int32)) at_63 rfl rfl ?_
  refine r_iushr X315 (pc' := 66) (z := (XT.ushr p5 (8 : Int32))) at_65 rfl rfl ?_
  refine r_i2b X315 (pc' := 67) (z := (own_b (XT.ushr p5 (8 : Int32)))) at_66 rfl rfl ?_
  refine r_bastore X315 (pc' := 68) (i := 5) (v := (own_b (XT.ushr p5 (8 : Int32)))) at_67 A317 rfl (by decide) geb289 (own_nb _) rfl (fun T318 h319 X320 W321 A322 => ?_)
  refine r_aload X320 (pc' := 70) at_68 rfl rfl ?_
  refine r_bipush X320 (pc' := 72) (v := (6 : Int32)) at_70 rfl rfl ?_
  refine r_iload X320 (pc' := 74) at_72 rfl rfl ?_
  refine r_bipush X320 (pc' := 76) (v := (16 : Int32)) at_74 rfl rfl ?_
  refine r_iushr X320 (pc' := 77) (z := (XT.ushr p5 (16 : Int32))) at_76 rfl rfl ?_
  refine r_i2b X320 (pc' := 78) (z := (own_b (XT.ushr p5 (16 : Int32)))) at_77 rfl rfl ?_
  refine r_bastore X320 (pc' := 79) (i := 6) (v := (own_b (XT.ushr p5 (16 : Int32)))) at_78 A322 rfl (by decide) geb289 (own_nb _) rfl (fun T323 h324 X325 W326 A327 => ?_)
  refine r_aload X325 (pc' := 81) at_79 rfl rfl ?_
  refine r_bipush X325 (pc' := 83) (v := (7 : Int32)) at_81 rfl rfl ?_
  refine r_iload X325 (pc' := 85) at_83 rfl rfl ?_
  refine r_bipush X325 (pc' := 87) (v := (24 : Int32)) at_85 rfl rfl ?_
  refine r_iushr X325 (pc' := 88) (z := (XT.ushr p5 (24 : Int32))) at_87 rfl rfl ?_
  refine r_i2b X325 (pc' := 89) (z := (own_b (XT.ushr p5 (24 : Int32)))) at_88 rfl rfl ?_
  refine r_bastore X325 (pc' := 90) (i := 7) (v := (own_b (XT.ushr p5 (24 : Int32)))) at_89 A327 rfl (by decide) geb289 (own_nb _) rfl (fun T328 h329 X330 W331 A332 => ?_)
  refine r_aload X330 (pc' := 92) at_90 rfl rfl ?_
  refine r_iload X330 (pc' := 94) at_92 rfl rfl ?_
  refine r_iloadN X330 (pc' := 95) at_94 rfl rfl ?_
  refine r_bipush X330 (pc' := 97) (v := (8 : Int32)) at_95 rfl rfl ?_
  refine r_iload X330 (pc' := 99) at_97 rfl rfl ?_
  refine r_iconst X330 (pc' := 100) (v := (1 : Int32)) at_99 rfl rfl ?_
  refine r_isub X330 (pc' := 101) (z := (2 : Int32)) at_100 rfl rfl ?_
  refine r_imul X330 (pc' := 102) (z := (16 : Int32)) at_101 rfl rfl ?_
  refine r_iushr X330 (pc' := 103) (z := (XT.ushr p1 (16 : Int32))) at_102 rfl rfl ?_
  refine r_i2b X330 (pc' := 104) (z := (own_b (XT.ushr p1 (16 : Int32)))) at_103 rfl rfl ?_
  refine r_bastore X330 (pc' := 105) (i := i) (v := (own_b (XT.ushr p1 (16 : Int32)))) at_104 A332 hi (by omega) geb289 (own_nb _) rfl (fun T333 h334 X335 W336 A337 => ?_)
  refine r_iload X335 (pc' := 107) at_105 rfl rfl ?_
  refine r_iconst X335 (pc' := 108) (v := (1 : Int32)) at_107 rfl rfl ?_
  refine r_icmpN X335 (pc2 := 111) at_108 (by decide) rfl (a := 3) (b := 1) rfl rfl (show ¬ (3 ≤ 1) from (by decide)) ?_
  refine r_aload X335 (pc' := 113) at_111 rfl rfl ?_
  refine r_iload X335 (pc' := 115) at_113 rfl rfl ?_
  refine r_iconst X335 (pc' := 116) (v := (1 : Int32)) at_115 rfl rfl ?_
  refine r_iadd X335 (pc' := 117) (z := s1) at_116 hs1 rfl ?_
  refine r_iloadN X335 (pc' := 118) at_117 rfl rfl ?_
  refine r_bipush X335 (pc' := 120) (v := (8 : Int32)) at_118 rfl rfl ?_
  refine r_iload X335 (pc' := 122) at_120 rfl rfl ?_
  refine r_iconst X335 (pc' := 123) (v := (2 : Int32)) at_122 rfl rfl ?_
  refine r_isub X335 (pc' := 124) (z := (1 : Int32)) at_123 rfl rfl ?_
  refine r_imul X335 (pc' := 125) (z := (8 : Int32)) at_124 rfl rfl ?_
  refine r_iushr X335 (pc' := 126) (z := (XT.ushr p1 (8 : Int32))) at_125 rfl rfl ?_
  refine r_i2b X335 (pc' := 127) (z := (own_b (XT.ushr p1 (8 : Int32)))) at_126 rfl rfl ?_
  refine r_bastore X335 (pc' := 128) (i := (i + 1)) (v := (own_b (XT.ushr p1 (8 : Int32)))) at_127 A337 ks1 (by omega) geb289 (own_nb _) rfl (fun T338 h339 X340 W341 A342 => ?_)
  refine r_iload X340 (pc' := 130) at_128 rfl rfl ?_
  refine r_iconst X340 (pc' := 131) (v := (2 : Int32)) at_130 rfl rfl ?_
  refine r_icmpN X340 (pc2 := 134) at_131 (by decide) rfl (a := 3) (b := 2) rfl rfl (show ¬ (3 ≤ 2) from (by decide)) ?_
  refine r_aload X340 (pc' := 136) at_134 rfl rfl ?_
  refine r_iload X340 (pc' := 138) at_136 rfl rfl ?_
  refine r_iconst X340 (pc' := 139) (v := (2 : Int32)) at_138 rfl rfl ?_
  refine r_iadd X340 (pc' := 140) (z := s2) at_139 hs2 rfl ?_
  refine r_iloadN X340 (pc' := 141) at_140 rfl rfl ?_
  refine r_bipush X340 (pc' := 143) (v := (8 : Int32)) at_141 rfl rfl ?_
  refine r_iload X340 (pc' := 145) at_143 rfl rfl ?_
  refine r_iconst X340 (pc' := 146) (v := (3 : Int32)) at_145 rfl rfl ?_
  refine r_isub X340 (pc' := 147) (z := (0 : Int32)) at_146 rfl rfl ?_
  refine r_imul X340 (pc' := 148) (z := (0 : Int32)) at_147 rfl rfl ?_
  refine r_iushr X340 (pc' := 149) (z := (XT.ushr p1 (0 : Int32))) at_148 rfl rfl ?_
  refine r_i2b X340 (pc' := 150) (z := (own_b (XT.ushr p1 (0 : Int32)))) at_149 rfl rfl ?_
  refine r_bastore X340 (pc' := 151) (i := (i + 2)) (v := (own_b (XT.ushr p1 (0 : Int32)))) at_150 A342 ks2 (by omega) geb289 (own_nb _) rfl (fun T343 h344 X345 W346 A347 => ?_)
  refine r_iload X345 (pc' := 153) at_151 rfl rfl ?_
  refine r_iconst X345 (pc' := 154) (v := (3 : Int32)) at_153 rfl rfl ?_
  refine r_icmpY X345 (pc' := 166) at_154 (by decide) (by decide) (a := 3) (b := 3) rfl rfl (show 3 ≤ 3 from (by decide)) ?_
  refine r_iload X345 (pc' := 168) at_166 rfl rfl ?_
  refine r_iconst X345 (pc' := 169) (v := (4 : Int32)) at_168 rfl rfl ?_
  refine r_icmpY X345 (pc' := 178) at_169 (by decide) (by decide) (a := 3) (b := 4) rfl rfl (show ¬ 3 = 4 from (by decide)) ?_
  refine r_iload X345 (pc' := 180) at_178 rfl rfl ?_
  refine r_iconst X345 (pc' := 181) (v := (3 : Int32)) at_180 rfl rfl ?_
  refine r_icmpN X345 (pc2 := 184) at_181 (by decide) rfl (a := 3) (b := 3) rfl rfl (show ¬ (¬ 3 = 3) from (by decide)) ?_
  refine r_iloadN X345 (pc' := 185) at_184 rfl rfl ?_
  refine r_bipush X345 (pc' := 187) (v := (8 : Int32)) at_185 rfl rfl ?_
  refine r_ishl X345 (pc' := 188) (z := (p1 <<< ((8 : Int32) &&& 31))) at_187 rfl rfl ?_
  refine r_bipush X345 (pc' := 190) (v := (8 : Int32)) at_188 rfl rfl ?_
  refine r_ishr X345 (pc' := 191) (z := ((p1 <<< ((8 : Int32) &&& 31)) >>> ((8 : Int32) &&& 31))) at_190 rfl rfl ?_
  refine r_istore X345 (pc' := 193) (ls' := #[.val (.int p1), .val (.int p2), .val (.int p3), .val (.int p4), .val (.int p5), .val (.int p6), .val (.int (3 : Int32)), .val (.int oo), .val (.ref b289), .val (.int ((p1 <<< ((8 : Int32) &&& 31)) >>> ((8 : Int32) &&& 31))), .unset]) at_191 rfl rfl ?_
  refine r_goto X345 (pc' := 223) at_193 (by decide) (by decide) ?_
  obtain ⟨f, hf⟩ : ∃ f, f = (upd (upd (upd (upd (upd (upd (upd (upd (upd (upd (upd (fun _ => 0) 0 (own_b p4)) 1 (own_b (XT.ushr p4 (8 : Int32)))) 2 (own_b (XT.ushr p4 (16 : Int32)))) 3 (own_b (XT.ushr p4 (24 : Int32)))) 4 (own_b p5)) 5 (own_b (XT.ushr p5 (8 : Int32)))) 6 (own_b (XT.ushr p5 (16 : Int32)))) 7 (own_b (XT.ushr p5 (24 : Int32)))) i (own_b (XT.ushr p1 (16 : Int32)))) (i + 1) (own_b (XT.ushr p1 (8 : Int32)))) (i + 2) (own_b (XT.ushr p1 (0 : Int32)))) := ⟨_, rfl⟩
  have A9 := A347
  rw [← hf] at A9
  have f0 : f i = (own_b (XT.ushr p1 (16 : Int32))) := by rw [hf, upd_ne _ _ (by omega), upd_ne _ _ (by omega), upd_same]
  have f1 : f (i + 1) = (own_b (XT.ushr p1 (8 : Int32))) := by rw [hf, upd_ne _ _ (by omega), upd_same]
  have f2 : f (i + 2) = (own_b (XT.ushr p1 (0 : Int32))) := by rw [hf, upd_same]
  refine r_new X345 (pc' := 226) at_223 (wd hw 1 rfl) (wd hw 2 rfl) (wd hw 3 rfl) (by decide) (by decide) rfl (fun T348 h349 b350 X351 ebb350 geb350 E352 A353 D354 => ?_)
  have ne355 : b289 ≠ b350 := Nat.ne_of_lt (by rw [ebb350]; exact A9.lt)
  have f356 := A9.ext E352
  have f357 := D354 (O := "com/example/vestibule/vestibule/asn1/Ber$Element") (f := "tag") (Or.inr (wd hw 16 rfl)) (ty := .int) (by decide)
  have f358 := D354 (O := "com/example/vestibule/vestibule/asn1/Ber$Element") (f := "bytes") (Or.inr (wd hw 18 rfl)) (ty := (.array .byte)) (by decide)
  have f359 := D354 (O := "com/example/vestibule/vestibule/asn1/Ber$Element") (f := "offset") (Or.inr (wd hw 20 rfl)) (ty := .int) (by decide)
  have f360 := D354 (O := "com/example/vestibule/vestibule/asn1/Ber$Element") (f := "end") (Or.inr (wd hw 22 rfl)) (ty := .int) (by decide)
  refine r_dup X351 (pc' := 227) at_226 rfl rfl ?_
  refine r_iload X351 (pc' := 229) at_227 rfl rfl ?_
  refine r_aload X351 (pc' := 231) at_229 rfl rfl ?_
  refine r_iload X351 (pc' := 233) at_231 rfl rfl ?_
  refine r_iload X351 (pc' := 235) at_233 rfl rfl ?_
  refine r_iload X351 (pc' := 237) at_235 rfl rfl ?_
  refine r_iadd X351 (pc' := 238) (z := ee) at_237 hee rfl ?_
  refine r_init X351 (pc' := 241) at_238 (con_init l Z a0 hw b350 (p6) (b289) (oo) (ee) (.int (0 : Int32)) (.null) (.int (0 : Int32)) (.int (0 : Int32)) h349 n0 X351.sz A353 f357 f358 f359 f360 geb350) rfl (wd hw 4 rfl) (wd hw 5 rfl) (wd hw 3 rfl) (wd hw 6 rfl) (by decide) (argsL := [(.int p6), (.ref b289), (.int oo), (.int ee)]) (rest := [(.ref b350)]) (W := 1) rfl rfl pd_init_Ber_Element rfl rfl (by decide) (by decide) (by decide) (by decide) rfl (fun v361 T362 h363 X364 QQ365 => ?_)
  obtain ⟨rfl, K366, f367, f368, f369, f370⟩ := QQ365
  show Run p e below _ _ (mkF m 241 #[.val (.int p1), .val (.int p2), .val (.int p3), .val (.int p4), .val (.int p5), .val (.int p6), .val (.int (3 : Int32)), .val (.int oo), .val (.ref b289), .val (.int ((p1 <<< ((8 : Int32) &&& 31)) >>> ((8 : Int32) &&& 31))), .unset] [(.ref b350)])
  have f371 := f356.keep K366 (ninS ne355 nin0)
  have f372 := A353.keep K366
  refine r_astore X364 (pc' := 243) (ls' := #[.val (.int p1), .val (.int p2), .val (.int p3), .val (.int p4), .val (.int p5), .val (.int p6), .val (.int (3 : Int32)), .val (.int oo), .val (.ref b289), .val (.int ((p1 <<< ((8 : Int32) &&& 31)) >>> ((8 : Int32) &&& 31))), .val (.ref b350)]) at_241 rfl rfl ?_
  refine r_aload X364 (pc' := 245) at_243 rfl rfl ?_
  refine r_callV X364 (pc' := 248) at_245 (con_n3 l Z a0 hw b350 b289 oo ee f i h363 n0 X364.sz f368 f369 f370 f371 hi hi3 kee) f372 (wd hw 23 rfl) (wd hw 24 rfl) (wd hw 26 rfl) (wd hw 25 rfl) (wd hw 3 rfl) (wd hw 27 rfl) (by decide) (argsL := []) (rest := []) (W := 0) rfl rfl pd_number rfl rfl (by decide) (by decide) (by decide) (by decide) rfl (fun v373 T374 h375 X376 QQ377 => ?_)
  obtain ⟨rfl, rfl⟩ := QQ377
  obtain ⟨rr, hrr⟩ : ∃ z, z = (own_acc (own_acc (f i) (f (i + 1))) (f (i + 2))) := ⟨_, rfl⟩
  rw [← hrr]
  show Run p e below _ _ (mkF m 248 #[.val (.int p1), .val (.int p2), .val (.int p3), .val (.int p4), .val (.int p5), .val (.int p6), .val (.int (3 : Int32)), .val (.int oo), .val (.ref b289), .val (.int ((p1 <<< ((8 : Int32) &&& 31)) >>> ((8 : Int32) &&& 31))), .val (.ref b350)] [(.int rr)])
  have fin : rr.toInt = (((p1 <<< ((8 : Int32) &&& 31)) >>> ((8 : Int32) &&& 31))).toInt := by rw [hrr, f0, f1, f2]; exact own_fin3 p1
  refine r_iload X376 (pc' := 250) at_248 rfl rfl ?_
  refine r_icmpN X376 (pc2 := 253) at_250 (by decide) rfl (a := rr.toInt) (b := ((p1 <<< ((8 : Int32) &&& 31)) >>> ((8 : Int32) &&& 31)).toInt) rfl rfl (show ¬ (¬ rr.toInt = ((p1 <<< ((8 : Int32) &&& 31)) >>> ((8 : Int32) &&& 31)).toInt) from (by omega)) ?_
  refine r_iconst X376 (pc' := 254) (v := (1 : Int32)) at_253 rfl rfl ?_
  refine r_goto X376 (pc' := 258) at_254 (by decide) (by decide) ?_
  exact r_retN X376 (by simp) at_258 (z := (1 : Int32)) (w := (1 : Int32)) rfl rfl (by decide) (by decide)
set_option maxRecDepth 65536 in
set_option maxHeartbeats 40000000 in
theorem con_law4 (l : Launch) (Z : State) (a0 : Array Value) (hw : ∀ d ∈ tables_1, d.before a0 Z = true) (p1 p2 p3 p4 p5 p6 : Int32) (hL : (p2 &&& (3 : Int32)).toInt = 3) (h0 : Heap) (n0 : Nat) (Z0 : n0 ≤ h0.size)  : Con l Z x code maxLocals ret room_1 #[(.int p1), (.int p2), (.int p3), (.int p4), (.int p5), (.int p6)] h0 n0 16 128 (fun v _ => v = some (.int 1)) := by
  refine Con.of_body (ls := #[.val (.int p1), .val (.int p2), .val (.int p3), .val (.int p4), .val (.int p5), .val (.int p6), .unset, .unset, .unset, .unset, .unset]) pn_com_example_vestibule_vestibule_asn1_ElementNumberPinLaw (fun m => by first | (simp [entryFrame, mkF, argsToLocals, Value.category, maxLocals]; done) | rfl) Z0 (fun p e s m below meth c T (X : Here p l e room_1 s m #[(.int p1), (.int p2), (.int p3), (.int p4), (.int p5), (.int p6)] below meth c Z "com/example/vestibule/vestibule/asn1/ElementNumberPinLaw" "law" code 11 (some .boolean) n0 T h0 0 0) => ?_)
  have hl : (p2 &&& (3 : Int32)) = (3 : Int32) := by apply Int32.toInt_inj.mp; rw [hL]; rfl
  obtain ⟨oo, hoo⟩ : ∃ z, p3 &&& (3 : Int32) = z := ⟨_, rfl⟩
  have ko : oo.toInt = p3.toInt % 4 := by rw [← hoo]; exact own_and3 _
  obtain ⟨i, hi⟩ : ∃ n : Nat, oo.toInt = n := ⟨oo.toInt.toNat, by omega⟩
  have hi3 : i ≤ 3 := by omega
  obtain ⟨s1, hs1⟩ : ∃ z, oo + (1 : Int32) = z := ⟨_, rfl⟩
  have ks1 : s1.toInt = ((i + 1 : Nat) : Int) := by rw [← hs1, n_add hi (show (1 : Int32).toInt = 1 from rfl) (by omega) (by omega)]; omega
  obtain ⟨s2, hs2⟩ : ∃ z, oo + (2 : Int32) = z := ⟨_, rfl⟩
  have ks2 : s2.toInt = ((i + 2 : Nat) : Int) := by rw [← hs2, n_add hi (show (2 : Int32).toInt = 2 from rfl) (by omega) (by omega)]; omega
  obtain ⟨s3, hs3⟩ : ∃ z, oo + (3 : Int32) = z := ⟨_, rfl⟩
  have ks3 : s3.toInt = ((i + 3 : Nat) : Int) := by rw [← hs3, n_add hi (show (3 : Int32).toInt = 3 from rfl) (by omega) (by omega)]; omega
  obtain ⟨ee, hee⟩ : ∃ z, oo + (4 : Int32) = z := ⟨_, rfl⟩
  have kee : ee.toInt = ((i + 4 : Nat) : Int) := by rw [← hee, n_add hi (show (4 : Int32).toInt = 4 from rfl) (by omega) (by omega)]; omega
  refine r_iloadN X (pc' := 1) at_0 rfl rfl ?_
  refine r_iconst X (pc' := 2) (v := (3 : Int32)) at_1 rfl rfl ?_
  refine r_iand X (pc' := 3) (z := (3 : Int32)) at_2 hl rfl ?_
  refine r_iconst X (pc' := 4) (v := (1 : Int32)) at_3 rfl rfl ?_
  refine r_iadd X (pc' := 5) (z := (4 : Int32)) at_4 rfl rfl ?_
  refine r_istore X (pc' := 7) (ls' := #[.val (.int p1), .val (.int p2), .val (.int p3), .val (.int p4), .val (.int p5), .val (.int p6), .val (.int (4 : Int32)), .unset, .unset, .unset, .unset]) at_5 rfl rfl ?_
  refine r_iloadN X (pc' := 8) at_7 rfl rfl ?_
  refine r_iconst X (pc' := 9) (v := (3 : Int32)) at_8 rfl rfl ?_
  refine r_iand X (pc' := 10) (z := oo) at_9 hoo rfl ?_
  refine r_istore X (pc' := 12) (ls' := #[.val (.int p1), .val (.int p2), .val (.int p3), .val (.int p4), .val (.int p5), .val (.int p6), .val (.int (4 : Int32)), .val (.int oo), .unset, .unset, .unset]) at_10 rfl rfl ?_
  refine r_bipush X (pc' := 14) (v := (8 : Int32)) at_12 rfl rfl ?_
  refine r_newarray X (pc' := 16) (N := 8) at_14 (wd hw 0 rfl) rfl rfl (by decide) (by decide) (by decide) rfl (fun T378 h379 b380 X381 ebb380 geb380 E382 A383 => ?_)
  refine r_astore X381 (pc' := 18) (ls' := #[.val (.int p1), .val (.int p2), .val (.int p3), .val (.int p4), .val (.int p5), .val (.int p6), .val (.int (4 : Int32)), .val (.int oo), .val (.ref b380), .unset, .unset]) at_16 rfl rfl ?_
  refine r_aload X381 (pc' := 20) at_18 rfl rfl ?_
  refine r_iconst X381 (pc' := 21) (v := (0 : Int32)) at_20 rfl rfl ?_
  refine r_iloadN X381 (pc' := 22) at_21 rfl rfl ?_
  refine r_i2b X381 (pc' := 23) (z := (own_b p4)) at_22 rfl rfl ?_
  refine r_bastore X381 (pc' := 24) (i := 0) (v := (own_b p4)) at_23 A383 rfl (by decide) geb380 (own_nb _) rfl (fun T384 h385 X386 W387 A388 => ?_)
  refine r_aload X386 (pc' := 26) at_24 rfl rfl ?_
  refine r_iconst X386 (pc' := 27) (v := (1 : Int32)) at_26 rfl rfl ?_
  refine r_iloadN X386 (pc' := 28) at_27 rfl rfl ?_
  refine r_bipush X386 (pc' := 30) (v := (8 : Int32)) at_28 rfl rfl ?_
  refine r_iushr X386 (pc' := 31) (z := (XT.ushr p4 (8 : Int32))) at_30 rfl rfl ?_
  refine r_i2b X386 (pc' := 32) (z := (own_b (XT.ushr p4 (8 : Int32)))) at_31 rfl rfl ?_
  refine r_bastore X386 (pc' := 33) (i := 1) (v := (own_b (XT.ushr p4 (8 : Int32)))) at_32 A388 rfl (by decide) geb380 (own_nb _) rfl (fun T389 h390 X391 W392 A393 => ?_)
  refine r_aload X391 (pc' := 35) at_33 rfl rfl ?_
  refine r_iconst X391 (pc' := 36) (v := (2 : Int32)) at_35 rfl rfl ?_
  refine r_iloadN X391 (pc' := 37) at_36 rfl rfl ?_
  refine r_bipush X391 (pc' := 39) (v := (16 : Int32)) at_37 rfl rfl ?_
  refine r_iushr X391 (pc' := 40) (z := (XT.ushr p4 (16 : Int32))) at_39 rfl rfl ?_
  refine r_i2b X391 (pc' := 41) (z := (own_b (XT.ushr p4 (16 : Int32)))) at_40 rfl rfl ?_
  refine r_bastore X391 (pc' := 42) (i := 2) (v := (own_b (XT.ushr p4 (16 : Int32)))) at_41 A393 rfl (by decide) geb380 (own_nb _) rfl (fun T394 h395 X396 W397 A398 => ?_)
  refine r_aload X396 (pc' := 44) at_42 rfl rfl ?_
  refine r_iconst X396 (pc' := 45) (v := (3 : Int32)) at_44 rfl rfl ?_
  refine r_iloadN X396 (pc' := 46) at_45 rfl rfl ?_
  refine r_bipush X396 (pc' := 48) (v := (24 : Int32)) at_46 rfl rfl ?_
  refine r_iushr X396 (pc' := 49) (z := (XT.ushr p4 (24 : Int32))) at_48 rfl rfl ?_
  refine r_i2b X396 (pc' := 50) (z := (own_b (XT.ushr p4 (24 : Int32)))) at_49 rfl rfl ?_
  refine r_bastore X396 (pc' := 51) (i := 3) (v := (own_b (XT.ushr p4 (24 : Int32)))) at_50 A398 rfl (by decide) geb380 (own_nb _) rfl (fun T399 h400 X401 W402 A403 => ?_)
  refine r_aload X401 (pc' := 53) at_51 rfl rfl ?_
  refine r_iconst X401 (pc' := 54) (v := (4 : Int32)) at_53 rfl rfl ?_
  refine r_iload X401 (pc' := 56) at_54 rfl rfl ?_
  refine r_i2b X401 (pc' := 57) (z := (own_b p5)) at_56 rfl rfl ?_
  refine r_bastore X401 (pc' := 58) (i := 4) (v := (own_b p5)) at_57 A403 rfl (by decide) geb380 (own_nb _) rfl (fun T404 h405 X406 W407 A408 => ?_)
  refine r_aload X406 (pc' := 60) at_58 rfl rfl ?_
  refine r_iconst X406 (pc' := 61) (v := (5 : Int32)) at_60 rfl rfl ?_
  refine r_iload X406 (pc' := 63) at_61 rfl rfl ?_
  refine r_bipush X406 (pc' := 65) (v := (8 : Int32)) at_63 rfl rfl ?_
  refine r_iushr X406 (pc' := 66) (z := (XT.ushr p5 (8 : Int32))) at_65 rfl rfl ?_
  refine r_i2b X406 (pc' := 67) (z := (own_b (XT.ushr p5 (8 : Int32)))) at_66 rfl rfl ?_
  refine r_bastore X406 (pc' := 68) (i := 5) (v := (own_b (XT.ushr p5 (8 : Int32)))) at_67 A408 rfl (by decide) geb380 (own_nb _) rfl (fun T409 h410 X411 W412 A413 => ?_)
  refine r_aload X411 (pc' := 70) at_68 rfl rfl ?_
  refine r_bipush X411 (pc' := 72) (v := (6 : Int32)) at_70 rfl rfl ?_
  refine r_iload X411 (pc' := 74) at_72 rfl rfl ?_
  refine r_bipush X411 (pc' := 76) (v := (16 : Int32)) at_74 rfl rfl ?_
  refine r_iushr X411 (pc' := 77) (z := (XT.ushr p5 (16 : Int32))) at_76 rfl rfl ?_
  refine r_i2b X411 (pc' := 78) (z := (own_b (XT.ushr p5 (16 : Int32)))) at_77 rfl rfl ?_
  refine r_bastore X411 (pc' := 79) (i := 6) (v := (own_b (XT.ushr p5 (16 : Int32)))) at_78 A413 rfl (by decide) geb380 (own_nb _) rfl (fun T414 h415 X416 W417 A418 => ?_)
  refine r_aload X416 (pc' := 81) at_79 rfl rfl ?_
  refine r_bipush X416 (pc' := 83) (v := (7 : Int32)) at_81 rfl rfl ?_
  refine r_iload X416 (pc' := 85) at_83 rfl rfl ?_
  refine r_bipush X416 (pc' := 87) (v := (24 : Int32)) at_85 rfl rfl ?_
  refine r_iushr X416 (pc' := 88) (z := (XT.ushr p5 (24 : Int32))) at_87 rfl rfl ?_
  refine r_i2b X416 (pc' := 89) (z := (own_b (XT.ushr p5 (24 : Int32)))) at_88 rfl rfl ?_
  refine r_bastore X416 (pc' := 90) (i := 7) (v := (own_b (XT.ushr p5 (24 : Int32)))) at_89 A418 rfl (by decide) geb380 (own_nb _) rfl (fun T419 h420 X421 W422 A423 => ?_)
  refine r_aload X421 (pc' := 92) at_90 rfl rfl ?_
  refine r_iload X421 (pc' := 94) at_92 rfl rfl ?_
  refine r_iloadN X421 (pc' := 95) at_94 rfl rfl ?_
  refine r_bipush X421 (pc' := 97) (v := (8 : Int32)) at_95 rfl rfl ?_
  refine r_iload X421 (pc' := 99) at_97 rfl rfl ?_
  refine r_iconst X421 (pc' := 100) (v := (1 : Int32)) at_99 rfl rfl ?_
  refine r_isub X421 (pc' := 101) (z := (3 : Int32)) at_100 rfl rfl ?_
  refine r_imul X421 (pc' := 102) (z := (24 : Int32)) at_101 rfl rfl ?_
  refine r_iushr X421 (pc' := 103) (z := (XT.ushr p1 (24 : Int32))) at_102 rfl rfl ?_
  refine r_i2b X421 (pc' := 104) (z := (own_b (XT.ushr p1 (24 : Int32)))) at_103 rfl rfl ?_
  refine r_bastore X421 (pc' := 105) (i := i) (v := (own_b (XT.ushr p1 (24 : Int32)))) at_104 A423 hi (by omega) geb380 (own_nb _) rfl (fun T424 h425 X426 W427 A428 => ?_)
  refine r_iload X426 (pc' := 107) at_105 rfl rfl ?_
  refine r_iconst X426 (pc' := 108) (v := (1 : Int32)) at_107 rfl rfl ?_
  refine r_icmpN X426 (pc2 := 111) at_108 (by decide) rfl (a := 4) (b := 1) rfl rfl (show ¬ (4 ≤ 1) from (by decide)) ?_
  refine r_aload X426 (pc' := 113) at_111 rfl rfl ?_
  refine r_iload X426 (pc' := 115) at_113 rfl rfl ?_
  refine r_iconst X426 (pc' := 116) (v := (1 : Int32)) at_115 rfl rfl ?_
  refine r_iadd X426 (pc' := 117) (z := s1) at_116 hs1 rfl ?_
  refine r_iloadN X426 (pc' := 118) at_117 rfl rfl ?_
  refine r_bipush X426 (pc' := 120) (v := (8 : Int32)) at_118 rfl rfl ?_
  refine r_iload X426 (pc' := 122) at_120 rfl rfl ?_
  refine r_iconst X426 (pc' := 123) (v := (2 : Int32)) at_122 rfl rfl ?_
  refine r_isub X426 (pc' := 124) (z := (2 : Int32)) at_123 rfl rfl ?_
  refine r_imul X426 (pc' := 125) (z := (16 : Int32)) at_124 rfl rfl ?_
  refine r_iushr X426 (pc' := 126) (z := (XT.ushr p1 (16 : Int32))) at_125 rfl rfl ?_
  refine r_i2b X426 (pc' := 127) (z := (own_b (XT.ushr p1 (16 : Int32)))) at_126 rfl rfl ?_
  refine r_bastore X426 (pc' := 128) (i := (i + 1)) (v := (own_b (XT.ushr p1 (16 : Int32)))) at_127 A428 ks1 (by omega) geb380 (own_nb _) rfl (fun T429 h430 X431 W432 A433 => ?_)
  refine r_iload X431 (pc' := 130) at_128 rfl rfl ?_
  refine r_iconst X431 (pc' := 131) (v := (2 : Int32)) at_130 rfl rfl ?_
  refine r_icmpN X431 (pc2 := 134) at_131 (by decide) rfl (a := 4) (b := 2) rfl rfl (show ¬ (4 ≤ 2) from (by decide)) ?_
  refine r_aload X431 (pc' := 136) at_134 rfl rfl ?_
  refine r_iload X431 (pc' := 138) at_136 rfl rfl ?_
  refine r_iconst X431 (pc' := 139) (v := (2 : Int32)) at_138 rfl rfl ?_
  refine r_iadd X431 (pc' := 140) (z := s2) at_139 hs2 rfl ?_
  refine r_iloadN X431 (pc' := 141) at_140 rfl rfl ?_
  refine r_bipush X431 (pc' := 143) (v := (8 : Int32)) at_141 rfl rfl ?_
  refine r_iload X431 (pc' := 145) at_143 rfl rfl ?_
  refine r_iconst X431 (pc' := 146) (v := (3 : Int32)) at_145 rfl rfl ?_
  refine r_isub X431 (pc' := 147) (z := (1 : Int32)) at_146 rfl rfl ?_
  refine r_imul X431 (pc' := 148) (z := (8 : Int32)) at_147 rfl rfl ?_
  refine r_iushr X431 (pc' := 149) (z := (XT.ushr p1 (8 : Int32))) at_148 rfl rfl ?_
  refine r_i2b X431 (pc' := 150) (z := (own_b (XT.ushr p1 (8 : Int32)))) at_149 rfl rfl ?_
  refine r_bastore X431 (pc' := 151) (i := (i + 2)) (v := (own_b (XT.ushr p1 (8 : Int32)))) at_150 A433 ks2 (by omega) geb380 (own_nb _) rfl (fun T434 h435 X436 W437 A438 => ?_)
  refine r_iload X436 (pc' := 153) at_151 rfl rfl ?_
  refine r_iconst X436 (pc' := 154) (v := (3 : Int32)) at_153 rfl rfl ?_
  refine r_icmpN X436 (pc2 := 157) at_154 (by decide) rfl (a := 4) (b := 3) rfl rfl (show ¬ (4 ≤ 3) from (by decide)) ?_
  refine r_aload X436 (pc' := 159) at_157 rfl rfl ?_
  refine r_iload X436 (pc' := 161) at_159 rfl rfl ?_
  refine r_iconst X436 (pc' := 162) (v := (3 : Int32)) at_161 rfl rfl ?_
  refine r_iadd X436 (pc' := 163) (z := s3) at_162 hs3 rfl ?_
  refine r_iloadN X436 (pc' := 164) at_163 rfl rfl ?_
  refine r_i2b X436 (pc' := 165) (z := (own_b p1)) at_164 rfl rfl ?_
  refine r_bastore X436 (pc' := 166) (i := (i + 3)) (v := (own_b p1)) at_165 A438 ks3 (by omega) geb380 (own_nb _) rfl (fun T439 h440 X441 W442 A443 => ?_)
  refine r_iload X441 (pc' := 168) at_166 rfl rfl ?_
  refine r_iconst X441 (pc' := 169) (v := (4 : Int32)) at_168 rfl rfl ?_
  refine r_icmpN X441 (pc2 := 172) at_169 (by decide) rfl (a := 4) (b := 4) rfl rfl (show ¬ (¬ 4 = 4) from (by decide)) ?_
  refine r_iloadN X441 (pc' := 173) at_172 rfl rfl ?_
  refine r_istore X441 (pc' := 175) (ls' := #[.val (.int p1), .val (.int p2), .val (.int p3), .val (.int p4), .val (.int p5), .val (.int p6), .val (.int (4 : Int32)), .val (.int oo), .val (.ref b380), .val (.int p1), .unset]) at_173 rfl rfl ?_
  refine r_goto X441 (pc' := 223) at_175 (by decide) (by decide) ?_
  obtain ⟨f, hf⟩ : ∃ f, f = (upd (upd (upd (upd (upd (upd (upd (upd (upd (upd (upd (upd (fun _ => 0) 0 (own_b p4)) 1 (own_b (XT.ushr p4 (8 : Int32)))) 2 (own_b (XT.ushr p4 (16 : Int32)))) 3 (own_b (XT.ushr p4 (24 : Int32)))) 4 (own_b p5)) 5 (own_b (XT.ushr p5 (8 : Int32)))) 6 (own_b (XT.ushr p5 (16 : Int32)))) 7 (own_b (XT.ushr p5 (24 : Int32)))) i (own_b (XT.ushr p1 (24 : Int32)))) (i + 1) (own_b (XT.ushr p1 (16 : Int32)))) (i + 2) (own_b (XT.ushr p1 (8 : Int32)))) (i + 3) (own_b p1)) := ⟨_, rfl⟩
  have A9 := A443
  rw [← hf] at A9
  have f0 : f i = (own_b (XT.ushr p1 (24 : Int32))) := by rw [hf, upd_ne _ _ (by omega), upd_ne _ _ (by omega), upd_ne _ _ (by omega), upd_same]
  have f1 : f (i + 1) = (own_b (XT.ushr p1 (16 : Int32))) := by rw [hf, upd_ne _ _ (by omega), upd_ne _ _ (by omega), upd_same]
  have f2 : f (i + 2) = (own_b (XT.ushr p1 (8 : Int32))) := by rw [hf, upd_ne _ _ (by omega), upd_same]
  have f3 : f (i + 3) = (own_b p1) := by rw [hf, upd_same]
  refine r_new X441 (pc' := 226) at_223 (wd hw 1 rfl) (wd hw 2 rfl) (wd hw 3 rfl) (by decide) (by decide) rfl (fun T444 h445 b446 X447 ebb446 geb446 E448 A449 D450 => ?_)
  have ne451 : b380 ≠ b446 := Nat.ne_of_lt (by rw [ebb446]; exact A9.lt)
  have f452 := A9.ext E448
  have f453 := D450 (O := "com/example/vestibule/vestibule/asn1/Ber$Element") (f := "tag") (Or.inr (wd hw 16 rfl)) (ty := .int) (by decide)
  have f454 := D450 (O := "com/example/vestibule/vestibule/asn1/Ber$Element") (f := "bytes") (Or.inr (wd hw 18 rfl)) (ty := (.array .byte)) (by decide)
  have f455 := D450 (O := "com/example/vestibule/vestibule/asn1/Ber$Element") (f := "offset") (Or.inr (wd hw 20 rfl)) (ty := .int) (by decide)
  have f456 := D450 (O := "com/example/vestibule/vestibule/asn1/Ber$Element") (f := "end") (Or.inr (wd hw 22 rfl)) (ty := .int) (by decide)
  refine r_dup X447 (pc' := 227) at_226 rfl rfl ?_
  refine r_iload X447 (pc' := 229) at_227 rfl rfl ?_
  refine r_aload X447 (pc' := 231) at_229 rfl rfl ?_
  refine r_iload X447 (pc' := 233) at_231 rfl rfl ?_
  refine r_iload X447 (pc' := 235) at_233 rfl rfl ?_
  refine r_iload X447 (pc' := 237) at_235 rfl rfl ?_
  refine r_iadd X447 (pc' := 238) (z := ee) at_237 hee rfl ?_
  refine r_init X447 (pc' := 241) at_238 (con_init l Z a0 hw b446 (p6) (b380) (oo) (ee) (.int (0 : Int32)) (.null) (.int (0 : Int32)) (.int (0 : Int32)) h445 n0 X447.sz A449 f453 f454 f455 f456 geb446) rfl (wd hw 4 rfl) (wd hw 5 rfl) (wd hw 3 rfl) (wd hw 6 rfl) (by decide) (argsL := [(.int p6), (.ref b380), (.int oo), (.int ee)]) (rest := [(.ref b446)]) (W := 1) rfl rfl pd_init_Ber_Element rfl rfl (by decide) (by decide) (by decide) (by decide) rfl (fun v457 T458 h459 X460 QQ461 => ?_)
  obtain ⟨rfl, K462, f463, f464, f465, f466⟩ := QQ461
  show Run p e below _ _ (mkF m 241 #[.val (.int p1), .val (.int p2), .val (.int p3), .val (.int p4), .val (.int p5), .val (.int p6), .val (.int (4 : Int32)), .val (.int oo), .val (.ref b380), .val (.int p1), .unset] [(.ref b446)])
  have f467 := f452.keep K462 (ninS ne451 nin0)
  have f468 := A449.keep K462
  refine r_astore X460 (pc' := 243) (ls' := #[.val (.int p1), .val (.int p2), .val (.int p3), .val (.int p4), .val (.int p5), .val (.int p6), .val (.int (4 : Int32)), .val (.int oo), .val (.ref b380), .val (.int p1), .val (.ref b446)]) at_241 rfl rfl ?_
  refine r_aload X460 (pc' := 245) at_243 rfl rfl ?_
  refine r_callV X460 (pc' := 248) at_245 (con_n4 l Z a0 hw b446 b380 oo ee f i h459 n0 X460.sz f464 f465 f466 f467 hi hi3 kee) f468 (wd hw 23 rfl) (wd hw 24 rfl) (wd hw 26 rfl) (wd hw 25 rfl) (wd hw 3 rfl) (wd hw 27 rfl) (by decide) (argsL := []) (rest := []) (W := 0) rfl rfl pd_number rfl rfl (by decide) (by decide) (by decide) (by decide) rfl (fun v469 T470 h471 X472 QQ473 => ?_)
  obtain ⟨rfl, rfl⟩ := QQ473
  obtain ⟨rr, hrr⟩ : ∃ z, z = (own_acc (own_acc (own_acc (f i) (f (i + 1))) (f (i + 2))) (f (i + 3))) := ⟨_, rfl⟩
  rw [← hrr]
  show Run p e below _ _ (mkF m 248 #[.val (.int p1), .val (.int p2), .val (.int p3), .val (.int p4), .val (.int p5), .val (.int p6), .val (.int (4 : Int32)), .val (.int oo), .val (.ref b380), .val (.int p1), .val (.ref b446)] [(.int rr)])
  have fin : rr.toInt = (p1).toInt := by rw [hrr, f0, f1, f2, f3]; exact own_fin4 p1
  refine r_iload X472 (pc' := 250) at_248 rfl rfl ?_
  refine r_icmpN X472 (pc2 := 253) at_250 (by decide) rfl (a := rr.toInt) (b := p1.toInt) rfl rfl (show ¬ (¬ rr.toInt = p1.toInt) from (by omega)) ?_
  refine r_iconst X472 (pc' := 254) (v := (1 : Int32)) at_253 rfl rfl ?_
  refine r_goto X472 (pc' := 258) at_254 (by decide) (by decide) ?_
  exact r_retN X472 (by simp) at_258 (z := (1 : Int32)) (w := (1 : Int32)) rfl rfl (by decide) (by decide)
theorem con_law (l : Launch) (Z : State) (a0 : Array Value) (hw : ∀ d ∈ tables_1, d.before a0 Z = true) (p1 p2 p3 p4 p5 p6 : Int32) (h0 : Heap) (n0 : Nat) (Z0 : n0 ≤ h0.size) : Con l Z x code maxLocals ret room_1 #[(.int p1), (.int p2), (.int p3), (.int p4), (.int p5), (.int p6)] h0 n0 16 128 (fun v _ => v = some (.int 1)) := by
  have h := own_and3 p2
  have h4 : (p2 &&& (3 : Int32)).toInt = 0 ∨ (p2 &&& (3 : Int32)).toInt = 1 ∨ (p2 &&& (3 : Int32)).toInt = 2 ∨ (p2 &&& (3 : Int32)).toInt = 3 := by omega
  rcases h4 with q | q | q | q
  · exact con_law1 l Z a0 hw p1 p2 p3 p4 p5 p6 q h0 n0 Z0
  · exact con_law2 l Z a0 hw p1 p2 p3 p4 p5 p6 q h0 n0 Z0
  · exact con_law3 l Z a0 hw p1 p2 p3 p4 p5 p6 q h0 n0 Z0
  · exact con_law4 l Z a0 hw p1 p2 p3 p4 p5 p6 q h0 n0 Z0
set_option maxRecDepth 65536 in
set_option maxHeartbeats 40000000 in
theorem comes_1 {Post : Tables → Env → Array Value → State → Outcome → State → Prop} (hpost : ∀ tb e args s v u, (limb_1_1.after args s (.returned v) u = true ∧ limb_1_2.after args s (.returned v) u = true ∧ True) → FrameEnd s (.returned v) u (Jvm.fieldLocs frame_1_writes args s ++ Jvm.arrayLocs frame_1_arrays args s ++ Jvm.staticLocs frame_1_statics s) 16 128 → Post tb e args s (.returned v) u) :
    ArmFor flags0 classFile x code maxLocals ret World_1 tables_1 room_1 Calls_1 rest_1 Pre_1 Post := by
  intro l hfl _ _ p e ha hc hk s m args below hf hA hF happ hP
  obtain ⟨hcalls, hrest, hpre⟩ := hP
  obtain ⟨-, -, -, hnamed, -, -, -, hat⟩ := (Spec.applies_iff hf).mp happ
  obtain ⟨hg, hn⟩ := and_e (Cond.before_iff.mp (show (Jvm.Cond.and given_1 narrow_1).before args s = true from hpre))
  obtain ⟨gc, gr0⟩ := and_e hg
  obtain ⟨gv0, gr1⟩ := and_e gr0
  obtain ⟨gv1, gr2⟩ := and_e gr1
  obtain ⟨gv2, gr3⟩ := and_e gr2
  obtain ⟨gv3, gr4⟩ := and_e gr3
  obtain ⟨gv4, gr5⟩ := and_e gr4
  obtain ⟨w0, w1, w2, w3, w4, w5, rfl⟩ : ∃ w0 w1 w2 w3 w4 w5 : Value, args = #[w0, w1, w2, w3, w4, w5] := by
    have hs : args.size = 6 := by simpa [Cond.value, given_1] using gc
    obtain ⟨L⟩ := args
    match L, hs with
    | [w0, w1, w2, w3, w4, w5], _ => exact ⟨w0, w1, w2, w3, w4, w5, rfl⟩
  have hw := fun d (hd : d ∈ tables_1) => atoms_spec (ws := Jvm.Cond.code x code maxLocals ret :: tables_1) hat d (List.mem_cons_of_mem _ hd)
  obtain ⟨i0, ei0⟩ := is_v gv0
  obtain rfl : w0 = (.int i0) := Option.some.inj ei0
  obtain ⟨i1, ei1⟩ := is_v gv1
  obtain rfl : w1 = (.int i1) := Option.some.inj ei1
  obtain ⟨i2, ei2⟩ := is_v gv2
  obtain rfl : w2 = (.int i2) := Option.some.inj ei2
  obtain ⟨i3, ei3⟩ := is_v gv3
  obtain rfl : w3 = (.int i3) := Option.some.inj ei3
  obtain ⟨i4, ei4⟩ := is_v gv4
  obtain rfl : w4 = (.int i4) := Option.some.inj ei4
  obtain ⟨i5, ei5⟩ := is_v gr5
  obtain rfl : w5 = (.int i5) := Option.some.inj ei5
  obtain ⟨n, o, h1, h2, h3, _, L, rfl, ⟨rfl, -, N⟩, hq⟩ := con_law l s _ hw i0 i1 i2 i3 i4 i5 s.heap s.heap.size (Nat.le_refl _) tables_1 p e ha hc hk s m _ below hf ((Spec.applies_iff_loose hf).mp happ).1 ⟨rfl, State.Warmed39.refl s, rfl⟩ trivial
  refine ⟨n, _, h1, h2, h3, hpost _ _ _ _ _ _ ⟨Cond.after_iff.mpr rfl, Cond.after_iff.mpr (eq_i res_at (Term.int_eval (1)) rfl), trivial⟩ ⟨hq.1, hq.2.1, (hq.2.2.sift fun y hy => Or.inr (N y hy)).mono (by decide) (by decide)⟩⟩
theorem main_1_1 : Claimed_1_1 := comes_1 fun _ _ _ _ _ _ h hF => ⟨h.1, hF⟩
theorem main_1_2 : Claimed_1_2 := comes_1 fun _ _ _ _ _ _ h hF => ⟨h.2.1, hF⟩
end Jvm.Pilot.@@N@@
namespace Jvm.Pilot.@@N@@
open Jvm Jvm.ClassFile Sem Op Lib Jvm.Free Jvm.Stand Jvm.Pilot.@@N@@.Jvm.D
/-! MADE BY PROGRAM (witnessworld.py) out of the Statement's table words and the real class files: 10 classes; the members and pool entries that the words name. The judged class is class 1, her method 1. -/
namespace start1
open Jvm.ClassFile
def u (s : String) : CpInfo := .utf8 (stringToUtf16 s)
/-- a pool by its gaps: so many unusable entries, then the entry; so many at the end -/
def gap : Nat → List CpInfo → List CpInfo
  | 0, r => r
  | n + 1, r => .unusable :: gap n r
def poolList (es : List (Nat × CpInfo)) (last : Nat) : List CpInfo := es.foldr (fun e r => gap e.1 (e.2 :: r)) (gap last [])
def pool (es : List (Nat × CpInfo)) (last : Nat) : Array CpInfo := ⟨poolList es last⟩
def fileOf (pool : Array CpInfo) (this : Nat) (attrs : Array Attribute := #[]) (ms : Array MethodInfo := #[]) (fl : Nat := 33) (sup : Nat := 0) (ifs : Array Nat := #[]) (fds : Array FieldInfo := #[]) : ClassFile where
  minorVersion := 0
  majorVersion := 65
  constantPool := pool
  accessFlags := fl
  thisClass := this
  superClass := sup
  interfaces := ifs
  fields := fds
  methods := ms
  attributes := attrs
def plain (name : String) (sup : Option ClassId) : Class where
  name := name
  kind := .ordinary
  loader := none
  accessFlags := 33
  super := sup
  interfaces := #[]
  cf := none
  fields := #[]
  methods := #[]
  instanceTypes := #[]
  staticTypes := #[]
  resolved := #[]
  callSites := []
  init := .initialized
  statics := none
  mirror := none

def pool0 : Array CpInfo := pool [(5, u "<init>"), (0, u "()V"), (1, .class_ 10), (1, u "java/lang/Object")] 113

def k0c0 : Code := { maxStack := 0, maxLocals := 1, code := object_method_1_code, exceptionTable := #[], attributes := #[] }
def k0m0 : Method := { name := "<init>", desc := "()V", sig := { parameters := [], returnType := none }, accessFlags := 1, code := some k0c0 }
/-- java/lang/Object -/
def k0 : Class := { plain "java/lang/Object" none with
  accessFlags := 33
  interfaces := #[]
  cf := some (fileOf pool0 8 #[] #[{ accessFlags := 1, nameIndex := 5, descriptorIndex := 6, attributes := #[] }] 33 0 #[] #[])
  fields := #[]
  methods := #[k0m0]
  instanceTypes := #[]
  staticTypes := #[]
  resolved := Array.replicate 124 none
  statics := none }

def pool1 : Array CpInfo := pool [(2, .class_ 4), (1, u "java/lang/Object"), (0, u "<init>"), (0, u "()V"), (0, .class_ 8), (0, u "com/example/vestibule/vestibule/asn1/Ber$Element"), (0, .methodref 7 10), (0, .nameAndType 5 11), (0, u "(I[BII)V"), (0, .methodref 7 13), (0, .nameAndType 14 15), (0, u "number"), (0, u "()I"), (0, .class_ 17), (0, u "com/example/vestibule/vestibule/asn1/ElementNumberPinLaw"), (2, u "law"), (0, u "(IIIIII)Z")] 12

def k1m0 : Method := { name := "<init>", desc := "()V", sig := { parameters := [], returnType := none }, accessFlags := 2, code := none }
def k1c1 : Code := { maxStack := 7, maxLocals := 11, code := code, exceptionTable := #[], attributes := #[] }
def k1m1 : Method := { name := "law", desc := "(IIIIII)Z", sig := { parameters := [.int, .int, .int, .int, .int, .int], returnType := some .boolean }, accessFlags := 9, code := some k1c1 }
/-- com/example/vestibule/vestibule/asn1/ElementNumberPinLaw -/
def k1 : Class := { plain "com/example/vestibule/vestibule/asn1/ElementNumberPinLaw" (some 0) with
  accessFlags := 49
  interfaces := #[]
  cf := some (fileOf pool1 16 #[] #[{ accessFlags := 2, nameIndex := 5, descriptorIndex := 6, attributes := #[] }, { accessFlags := 9, nameIndex := 20, descriptorIndex := 21, attributes := #[] }] 49 2 #[] #[])
  fields := #[]
  methods := #[k1m0, k1m1]
  instanceTypes := #[]
  staticTypes := #[]
  resolved := Array.replicate 34 none
  statics := none }

def pool2 : Array CpInfo := pool [(1, .methodref 2 3), (0, .class_ 4), (0, .nameAndType 5 6), (0, u "java/lang/Object"), (0, u "<init>"), (0, u "()V"), (0, .class_ 8), (0, u "java/lang/Record")] 13

def k2c0 : Code := { maxStack := 1, maxLocals := 1, code := jdk_30_method_1_code, exceptionTable := #[], attributes := #[] }
def k2m0 : Method := { name := "<init>", desc := "()V", sig := { parameters := [], returnType := none }, accessFlags := 4, code := some k2c0 }
/-- java/lang/Record -/
def k2 : Class := { plain "java/lang/Record" (some 0) with
  accessFlags := 1057
  interfaces := #[]
  cf := some (fileOf pool2 7 #[] #[{ accessFlags := 4, nameIndex := 5, descriptorIndex := 6, attributes := #[] }] 1057 2 #[] #[])
  fields := #[]
  methods := #[k2m0]
  instanceTypes := #[]
  staticTypes := #[]
  resolved := Array.replicate 22 none
  statics := none }

def pool3 : Array CpInfo := pool [(1, .class_ 2), (0, u "com/example/vestibule/vestibule/asn1/Ber"), (0, .methodref 4 5), (0, .class_ 6), (0, .nameAndType 7 8), (0, u "java/lang/Record"), (0, u "<init>"), (0, u "()V"), (0, .fieldref 10 11), (0, .class_ 12), (0, .nameAndType 13 14), (0, u "com/example/vestibule/vestibule/asn1/Ber$Element"), (0, u "tag"), (0, u "I"), (0, .fieldref 10 16), (0, .nameAndType 17 18), (0, u "bytes"), (0, u "[B"), (0, .fieldref 10 20), (0, .nameAndType 21 14), (0, u "offset"), (0, .fieldref 10 23), (0, .nameAndType 24 14), (0, u "end"), (88, u "(I[BII)V"), (7, u "number"), (0, u "()I")] 37

def k3c0 : Code := { maxStack := 2, maxLocals := 5, code := prog_4_method_1_code, exceptionTable := #[], attributes := #[] }
def k3m0 : Method := { name := "<init>", desc := "(I[BII)V", sig := { parameters := [.int, (.array .byte), .int, .int], returnType := none }, accessFlags := 1, code := some k3c0 }
def k3c1 : Code := { maxStack := 3, maxLocals := 4, code := prog_4_method_3_code, exceptionTable := #[], attributes := #[] }
def k3m1 : Method := { name := "number", desc := "()I", sig := { parameters := [], returnType := some .int }, accessFlags := 1, code := some k3c1 }
/-- com/example/vestibule/vestibule/asn1/Ber$Element -/
def k3 : Class := { plain "com/example/vestibule/vestibule/asn1/Ber$Element" (some 2) with
  accessFlags := 49
  interfaces := #[]
  cf := some (fileOf pool3 10 #[.nestHost 1] #[{ accessFlags := 1, nameIndex := 7, descriptorIndex := 113, attributes := #[] }, { accessFlags := 1, nameIndex := 121, descriptorIndex := 122, attributes := #[] }] 49 4 #[] #[{ accessFlags := 18, nameIndex := 13, descriptorIndex := 14, attributes := #[] }, { accessFlags := 18, nameIndex := 17, descriptorIndex := 18, attributes := #[] }, { accessFlags := 18, nameIndex := 21, descriptorIndex := 14, attributes := #[] }, { accessFlags := 18, nameIndex := 24, descriptorIndex := 14, attributes := #[] }])
  fields := #[{ name := "tag", type := .int, accessFlags := 18, slot := 0, constantValue := 0 }, { name := "bytes", type := (.array .byte), accessFlags := 18, slot := 1, constantValue := 0 }, { name := "offset", type := .int, accessFlags := 18, slot := 2, constantValue := 0 }, { name := "end", type := .int, accessFlags := 18, slot := 3, constantValue := 0 }]
  methods := #[k3m0, k3m1]
  instanceTypes := #[.int, (.array .byte), .int, .int]
  staticTypes := #[]
  resolved := Array.replicate 160 none
  statics := none }

def pool4 : Array CpInfo := pool [(1, u "java/lang/Cloneable"), (0, .class_ 1), (0, u "java/lang/Object"), (0, .class_ 3)] 3

/-- java/lang/Cloneable -/
def k4 : Class := { plain "java/lang/Cloneable" (some 0) with
  accessFlags := 1537
  interfaces := #[]
  cf := some (fileOf pool4 2 #[] #[] 1537 4 #[] #[])
  fields := #[]
  methods := #[]
  instanceTypes := #[]
  staticTypes := #[]
  resolved := Array.replicate 8 none
  statics := none }

def pool5 : Array CpInfo := pool [(1, u "java/io/Serializable"), (0, .class_ 1), (0, u "java/lang/Object"), (0, .class_ 3)] 3

/-- java/io/Serializable -/
def k5 : Class := { plain "java/io/Serializable" (some 0) with
  accessFlags := 1537
  interfaces := #[]
  cf := some (fileOf pool5 2 #[] #[] 1537 4 #[] #[])
  fields := #[]
  methods := #[]
  instanceTypes := #[]
  staticTypes := #[]
  resolved := Array.replicate 8 none
  statics := none }

/-- the primitive byte -/
def k6 : Class := { plain "byte" none with kind := .primitive 'B', accessFlags := 0x411 }
/-- [B -/
def k7 : Class := { plain "[B" (some 0) with kind := .array 6 .byte, interfaces := #[4, 5], accessFlags := 1041 }

/-- the primitive int -/
def k8 : Class := { plain "int" none with kind := .primitive 'I', accessFlags := 0x411 }
/-- [I -/
def k9 : Class := { plain "[I" (some 0) with kind := .array 8 .int, interfaces := #[4, 5], accessFlags := 1041 }

def heap : Heap := #[]
def classes : Array Class := #[k0, k1, k2, k3, k4, k5, k6, k7, k8, k9]
def interned : List (Array UInt16 × Addr) := []
def slotsUsed : Nat := 0
def theMethod : MethodId := ⟨1, 1⟩
def args0 : Array Value := #[.int 5, .int 5, .int 5, .int 5, .int 5, .int 5]
def aboutOver (below : List Frame) : State where
  vm := { classes := classes, interned := interned.toArray }
  heap := heap
  slotsUsed := slotsUsed
  threads := #[{ frames := .invoking theMethod args0 :: below }]
def below0 : List Frame := [.native { method := ⟨0, 0⟩, args := #[] }]
def about1 : State := aboutOver below0
def p0 : Program := .bare "" "" ""
def e0 : Env := launch0.env 0 0 0
theorem w_frames : about1.frames = Frame.invoking theMethod args0 :: below0 := rfl
set_option maxRecDepth 65536 in
theorem w_args : argsFit about1.vm theMethod args0 = true := by decide +kernel
set_option maxRecDepth 65536 in
theorem w_heap : heapFits about1 = true := by decide +kernel
set_option maxRecDepth 65536 in
theorem w_runnable : about1.curStatus? = some .runnable := by decide +kernel
set_option maxRecDepth 65536 in
theorem w_alone : about1.alone = true := by decide +kernel
set_option maxRecDepth 65536 in
theorem w_named : about1.methodNamed? x = some theMethod := by decide +kernel
set_option maxRecDepth 65536 in
theorem w_hears : about1.hears theMethod below0 = true := by decide +kernel
set_option maxRecDepth 65536 in
theorem w_ripe : about1.ripe theMethod args0 below0 = true := by decide +kernel
theorem w_running : about1.status = .running := rfl
set_option maxRecDepth 65536 in
theorem w_room : about1.hasRoom e0.platform room_1 = true :=
  launch0.hasRoom_least _ room_1 (by decide +kernel) (by decide +kernel) (by decide +kernel) (by decide +kernel) (by decide +kernel) (by decide +kernel)
theorem allAtoms_all (ts : List Jvm.Cond) (a : Array Jvm.Value) (st : Jvm.State) : (allAtoms ts).before a st = ts.all (fun c => c.before a st) := by
  induction ts with
  | nil => rfl
  | cons c t ih =>
    show (Jvm.Cond.and c (allAtoms t)).before a st = _
    rw [Jvm.Cond.before_and, ih, List.all_cons]
def words1 : List Jvm.Cond := Jvm.Cond.code x code maxLocals ret :: tables_1
/-- a 'code' word, met by the world's own term for the bytes: nothing is compared byte by byte -/
theorem code_word {y : MethodName} {bytes : ByteArray} {mx : Nat} {rt : Option FieldType} {a : Array Value} {s : State} {m : MethodId} {meth : Method} {c : Code} (h1 : s.methodNamed? y = some m) (h2 : s.vm.method? m = some meth) (h3 : meth.code = some c) (h4 : c.code = bytes)
    (h5 : (c.maxLocals == mx && c.exceptionTable.isEmpty && decide (c.maxStack ≤ mostOperands) && decide (meth.sig.returnType = rt) && !meth.locks && decide (parseMethodDescriptor y.desc = some meth.sig)) = true) : (Jvm.Cond.code y bytes mx rt).before a s = true := by
  simp only [Bool.and_eq_true, beq_iff_eq, Bool.not_eq_true', decide_eq_true_eq] at h5
  obtain ⟨⟨⟨⟨⟨g1, g2⟩, g3⟩, g4⟩, g5⟩, g6⟩ := h5
  simp [Cond.before, Cond.holds, Cond.value, h1, h2, h3, h4, g1, g2, g3, g4, g5, g6]
def isCode : Jvm.Cond → Bool
  | .code _ _ _ _ => true
  | _ => false
theorem all_split {L : List Jvm.Cond} {P : Jvm.Cond → Bool} (h1 : L.all (fun c => isCode c || P c) = true) (h2 : ∀ c ∈ L.filter isCode, P c = true) : L.all P = true := by
  refine List.all_eq_true.mpr fun c hc => ?_
  have h := List.all_eq_true.mp h1 c hc
  rcases Bool.eq_false_or_eq_true (isCode c) with hi | hi
  · exact h2 c (List.mem_filter.mpr ⟨hc, hi⟩)
  · simpa [hi] using h
set_option maxRecDepth 65536 in
theorem w_c0 : (Jvm.Cond.code x code maxLocals ret).before args0 about1 = true := code_word (m := ⟨1, 1⟩) (meth := k1m1) (c := k1c1) (by decide +kernel) rfl rfl rfl (by decide +kernel)
set_option maxRecDepth 65536 in
theorem w_c1 : (Jvm.Cond.code ({ cls := "com/example/vestibule/vestibule/asn1/Ber$Element", name := "<init>", desc := "(I[BII)V" } : Jvm.MethodName) prog_4_method_1_code (5 : Nat) (Option.none : Option Jvm.ClassFile.FieldType)).before args0 about1 = true := code_word (m := ⟨3, 0⟩) (meth := k3m0) (c := k3c0) (by decide +kernel) rfl rfl rfl (by decide +kernel)
set_option maxRecDepth 65536 in
theorem w_c2 : (Jvm.Cond.code ({ cls := "java/lang/Record", name := "<init>", desc := "()V" } : Jvm.MethodName) jdk_30_method_1_code (1 : Nat) (Option.none : Option Jvm.ClassFile.FieldType)).before args0 about1 = true := code_word (m := ⟨2, 0⟩) (meth := k2m0) (c := k2c0) (by decide +kernel) rfl rfl rfl (by decide +kernel)
set_option maxRecDepth 65536 in
theorem w_c3 : (Jvm.Cond.code ({ cls := "java/lang/Object", name := "<init>", desc := "()V" } : Jvm.MethodName) object_method_1_code (1 : Nat) (Option.none : Option Jvm.ClassFile.FieldType)).before args0 about1 = true := code_word (m := ⟨0, 0⟩) (meth := k0m0) (c := k0c0) (by decide +kernel) rfl rfl rfl (by decide +kernel)
set_option maxRecDepth 65536 in
theorem w_c4 : (Jvm.Cond.code ({ cls := "com/example/vestibule/vestibule/asn1/Ber$Element", name := "number", desc := "()I" } : Jvm.MethodName) prog_4_method_3_code (4 : Nat) (Option.some Jvm.ClassFile.FieldType.int)).before args0 about1 = true := code_word (m := ⟨3, 1⟩) (meth := k3m1) (c := k3c1) (by decide +kernel) rfl rfl rfl (by decide +kernel)
def codes1 : List Jvm.Cond := [Jvm.Cond.code x code maxLocals ret, Jvm.Cond.code ({ cls := "com/example/vestibule/vestibule/asn1/Ber$Element", name := "<init>", desc := "(I[BII)V" } : Jvm.MethodName) prog_4_method_1_code (5 : Nat) (Option.none : Option Jvm.ClassFile.FieldType), Jvm.Cond.code ({ cls := "java/lang/Record", name := "<init>", desc := "()V" } : Jvm.MethodName) jdk_30_method_1_code (1 : Nat) (Option.none : Option Jvm.ClassFile.FieldType), Jvm.Cond.code ({ cls := "java/lang/Object", name := "<init>", desc := "()V" } : Jvm.MethodName) object_method_1_code (1 : Nat) (Option.none : Option Jvm.ClassFile.FieldType), Jvm.Cond.code ({ cls := "com/example/vestibule/vestibule/asn1/Ber$Element", name := "number", desc := "()I" } : Jvm.MethodName) prog_4_method_3_code (4 : Nat) (Option.some Jvm.ClassFile.FieldType.int)]
set_option maxRecDepth 65536 in
theorem codes_eq : words1.filter isCode = codes1 := rfl
theorem w_codes : ∀ c ∈ words1.filter isCode, c.before args0 about1 = true := by
  rw [codes_eq]
  intro c hc
  simp only [codes1, List.mem_cons, List.not_mem_nil, or_false] at hc
  rcases hc with rfl | rfl | rfl | rfl | rfl
  · exact w_c0
  · exact w_c1
  · exact w_c2
  · exact w_c3
  · exact w_c4
set_option maxRecDepth 65536 in
theorem w_t1 : (words1.take 24).all (fun c => isCode c || c.before args0 about1) = true := by decide +kernel
set_option maxRecDepth 65536 in
theorem w_t2 : (words1.drop 24).all (fun c => isCode c || c.before args0 about1) = true := by decide +kernel
theorem w_tables : (allAtoms (Jvm.Cond.code x code maxLocals ret :: tables_1)).before args0 about1 = true := by
  rw [allAtoms_all]
  show words1.all (fun c => c.before args0 about1) = true
  refine all_split ?_ w_codes
  rw [← List.take_append_drop 24 words1, List.all_append, w_t1, w_t2]
  rfl
set_option maxRecDepth 65536 in
theorem w_case : (Jvm.Cond.and given_1 narrow_1).before args0 about1 = true := by decide +kernel
theorem w_applies : (headSpec (Jvm.Cond.code x code maxLocals ret :: tables_1) room_1).applies x e0.platform about1 = true :=
  (Spec.applies_iff w_frames).mpr ⟨w_running, w_runnable, w_alone, w_named, w_hears, w_ripe, w_room, w_tables⟩
theorem atStart : AtStart classFile x code maxLocals ret World_1 tables_1 room_1 Calls_1 rest_1 Pre_1 launch0 p0 e0 about1 theMethod args0 below0 :=
  ⟨lists_1, trivial, launch0.admits_env _ _ _, launch0.least_env, fairChoices_fair.cas, fairChoices_fair.clock, w_frames, w_args, w_heap, w_applies, trivial, trivial, w_case⟩
end start1
theorem witness_1 : WitnessClaimed_1 := ⟨start1.p0, start1.e0, start1.about1, start1.theMethod, start1.args0, start1.below0, start1.atStart⟩
end Jvm.Pilot.@@N@@
